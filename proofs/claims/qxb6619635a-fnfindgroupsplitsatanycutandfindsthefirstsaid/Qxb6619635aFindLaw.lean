/-
  The walk of FnFindGroupSplitsAtAnyCutAndFindsTheFirst (function 5).
-/
import Derived.Test.Qxb6619635aTariffs
namespace Go.Proofs.Qxb6619635a
open Go.RowKit

theorem bytes14_yes (a : Option Addr) (n cap : Nat) (x y : Int) (w : World) (hn : n ≤ 1048576) :
    Calls Try.prog 14 #[.slice a n cap, .int .u32 x, .int .i64 y] w fun e w' => e = .returned (.bool true) ∧ w = w' := by
  go_enter Try.func14, Try.ntmps14
  go_wp2
  go_ret
  exact ⟨rfl, rfl⟩

theorem bytes14_no (a : Option Addr) (n cap : Nat) (x y : Int) (w : World) (hn : 1048576 < n) :
    Calls Try.prog 14 #[.slice a n cap, .int .u32 x, .int .i64 y] w fun e w' => e = .returned (.bool false) ∧ w = w' := by
  go_enter Try.func14, Try.ntmps14
  go_wp2
  go_ret
  exact ⟨rfl, rfl⟩

/-- Too long, or a cut outside: true. -/
theorem law5_out (a : Option Addr) (n cap : Nat) (x y : Int) (w : World) (h : 65536 < n ∨ y < 0 ∨ (n : Int) < y) :
    Calls Try.prog 5 #[.slice a n cap, .int .u32 x, .int .i64 y] w fun e w' => e = .returned (.bool true) ∧ w = w' := by
  by_cases h1 : 1048576 < n
  · go_enter Try.func5, Try.ntmps5
    go_wp2_with (go_at_call 14; refine (bytes14_no _ _ _ _ _ _ h1).mono ?_; rintro e w' ⟨rfl, rfl⟩)
    go_ret
    exact ⟨rfl, rfl⟩
  · by_cases h2 : 65536 < n
    · go_enter Try.func5, Try.ntmps5
      go_wp2_with (go_at_call 14; refine (bytes14_yes _ _ _ _ _ _ (by omega)).mono ?_; rintro e w' ⟨rfl, rfl⟩)
      go_ret
      exact ⟨rfl, rfl⟩
    · by_cases h3 : y < 0
      · go_enter Try.func5, Try.ntmps5
        go_wp2_with (go_at_call 14; refine (bytes14_yes _ _ _ _ _ _ (by omega)).mono ?_; rintro e w' ⟨rfl, rfl⟩)
        go_ret
        exact ⟨rfl, rfl⟩
      · have h4 : (n : Int) < y := by omega
        clear h
        go_enter Try.func5, Try.ntmps5
        go_wp2_with (go_at_call 14; refine (bytes14_yes _ _ _ _ _ _ (by omega)).mono ?_; rintro e w' ⟨rfl, rfl⟩)
        go_ret
        exact ⟨rfl, rfl⟩


set_option maxHeartbeats 800000 in
theorem law5_hit (a : Option Addr) (n cap : Nat) (rg : Nat → Int) (x : Int) (c k0 : Nat) (w : World) (hn : n ≤ 65536) (hc : c ≤ n) (hk0 : k0 < n) (hx : rg k0 = x) (hne : ∀ j, j < k0 → rg j ≠ x)
    (h : n = 0 ∨ ∃ b off, a = some ⟨b, off, none⟩ ∧ b < w.heap.size ∧ ∀ j, j < n → w.cell? ⟨b, off + j, none⟩ = some (.int .u32 (rg j))) :
    Calls Try.prog 5 #[.slice a n cap, .int .u32 x, .int .i64 c] w fun e w' => e = .returned (.bool true) ∧ Below w.heap.size w w' := by
  have HT := tariffs_all a n cap rg w hn h
  have HTH : Hid (Calls _ _ _ _ _) := HT
  have HX : Hid (rg k0 = x) := hx
  have HN : Hid (∀ j, j < k0 → rg j ≠ x) := hne
  rcases h with h | ⟨b, off, rfl, hb, hcell⟩
  · omega
  have HC : Hid (∀ j, j < n → w.cell? ⟨b, off + j, none⟩ = some (.int .u32 (rg j))) := hcell
  clear HT hx hne hcell
  have heq := eql35
  have hnq := neq35
  by_cases hkc : k0 < c
  · by_cases hcn : c = n
    · subst hcn
      go_enter Try.func5, Try.ntmps5
      go_wp2_with (go_at_call 14; refine (bytes14_yes _ _ _ _ _ _ (by omega)).mono ?_; rintro e w' ⟨rfl, rfl⟩)
      refine Calls.mono HTH.out ?_
      rintro e w1 ⟨rfl, hbel, P, T, hG⟩
      have HG : Hid (GroupsAt _ _ _ _ _ _ _ _ _) := hG
      have hG0 := (hG k0 hk0).1
      rw [Nat.zero_add] at hG0
      clear hG
      go_wp2_with fail
      refine (find_hit _ _ 0 c c P T _ _ _ x (by omega) HG.out k0 hk0 HX.out HN.out).mono ?_
      rintro e w' ⟨rfl, rfl⟩
      go_wp2_with fail
      refine (find_hit _ _ 0 c c P T _ _ _ x (by omega) HG.out k0 hk0 HX.out HN.out).mono ?_
      rintro e w' ⟨rfl, rfl⟩
      go_wp2_with fail
      refine (find_any _ _ 0 0 0 P T rg rg rg x (by omega) (fun k hk => by omega)).mono ?_
      rintro e w' ⟨⟨r, rfl⟩, rfl⟩
      go_wp2_with fail
      go_loop [13, 14] (fun f i => ∃ k : Nat, k ≤ k0 ∧ i = .int .i64 k ∧ f = .int .i64 (-1)) (fun _ i => c - (intOf i).toNat)
      case atStart => exact ⟨0, Nat.zero_le _, rfl, rfl⟩
      case round =>
        obtain ⟨k, hk, rfl, rfl⟩ := hrel
        have hcell := (hbel.cell (p := ⟨b, off + k, none⟩) hb).trans (HC.out k (by omega))
        by_cases he : k = k0
        · subst he
          have hb2 : (rg k == x) = true := by simpa using HX.out
          go_wp2
          go_ret
          exact ⟨rfl, hbel⟩
        · have hb2 : (rg k == x) = false := by simpa using HN.out k (by omega)
          go_wp2
          go_round
          case rel => exact ⟨k + 1, by omega, by go_num, rfl⟩
          case measure => simp [intOf]; omega
    · have hcn' : c < n := by omega
      go_enter Try.func5, Try.ntmps5
      go_wp2_with (go_at_call 14; refine (bytes14_yes _ _ _ _ _ _ (by omega)).mono ?_; rintro e w' ⟨rfl, rfl⟩)
      refine Calls.mono HTH.out ?_
      rintro e w1 ⟨rfl, hbel, P, T, hG⟩
      have HG : Hid (GroupsAt _ _ _ _ _ _ _ _ _) := hG
      have hG0 := (hG k0 hk0).1
      rw [Nat.zero_add] at hG0
      clear hG
      go_wp2_with fail
      refine (find_hit _ _ 0 n n P T _ _ _ x (by omega) HG.out k0 hk0 HX.out HN.out).mono ?_
      rintro e w' ⟨rfl, rfl⟩
      go_wp2_with fail
      refine (find_hit _ _ 0 c n P T _ _ _ x (by omega) (HG.out.upto hc) k0 hkc HX.out HN.out).mono ?_
      rintro e w' ⟨rfl, rfl⟩
      go_wp2_with fail
      refine (find_any _ _ c (n - c) (n - c) _ _ _ _ _ x (by omega) (by have := HG.out.from c; rw [Nat.zero_add] at this; exact this)).mono ?_
      rintro e w' ⟨⟨r, rfl⟩, rfl⟩
      go_wp2_with fail
      go_loop [13, 14] (fun f i => ∃ k : Nat, k ≤ k0 ∧ i = .int .i64 k ∧ f = .int .i64 (-1)) (fun _ i => n - (intOf i).toNat)
      case atStart => exact ⟨0, Nat.zero_le _, rfl, rfl⟩
      case round =>
        obtain ⟨k, hk, rfl, rfl⟩ := hrel
        have hcell := (hbel.cell (p := ⟨b, off + k, none⟩) hb).trans (HC.out k (by omega))
        by_cases he : k = k0
        · subst he
          have hb2 : (rg k == x) = true := by simpa using HX.out
          go_wp2
          go_ret
          exact ⟨rfl, hbel⟩
        · have hb2 : (rg k == x) = false := by simpa using HN.out k (by omega)
          go_wp2
          go_round
          case rel => exact ⟨k + 1, by omega, by go_num, rfl⟩
          case measure => simp [intOf]; omega
  · have hcn' : c < n := by omega
    go_enter Try.func5, Try.ntmps5
    go_wp2_with (go_at_call 14; refine (bytes14_yes _ _ _ _ _ _ (by omega)).mono ?_; rintro e w' ⟨rfl, rfl⟩)
    refine Calls.mono HTH.out ?_
    rintro e w1 ⟨rfl, hbel, P, T, hG⟩
    have HG : Hid (GroupsAt _ _ _ _ _ _ _ _ _) := hG
    have hG0 := (hG k0 hk0).1
    rw [Nat.zero_add] at hG0
    clear hG
    go_wp2_with fail
    refine (find_hit _ _ 0 n n P T _ _ _ x (by omega) HG.out k0 hk0 HX.out HN.out).mono ?_
    rintro e w' ⟨rfl, rfl⟩
    go_wp2_with fail
    refine (find_miss _ _ 0 c n P T _ _ _ x (by omega) (HG.out.upto hc) (fun j hj => HN.out j (by omega))).mono ?_
    rintro e w' ⟨rfl, rfl⟩
    go_wp2_with fail
    have HF := find_hit _ _ c (n - c) (n - c) _ _ _ _ _ x (by omega) (by have := HG.out.from c; rw [Nat.zero_add] at this; exact this) (k0 - c) (by omega) (by show rg (c + (k0 - c)) = x; rw [Nat.add_sub_cancel' (by omega)]; exact HX.out) (fun j hj => HN.out (c + j) (by omega))
    rw [show c + (k0 - c) = k0 from by omega] at HF
    refine HF.mono ?_
    rintro e w' ⟨rfl, rfl⟩
    clear HF
    go_wp2_with fail
    go_loop [13, 14] (fun f i => ∃ k : Nat, k ≤ k0 ∧ i = .int .i64 k ∧ f = .int .i64 (-1)) (fun _ i => n - (intOf i).toNat)
    case atStart => exact ⟨0, Nat.zero_le _, rfl, rfl⟩
    case round =>
      obtain ⟨k, hk, rfl, rfl⟩ := hrel
      have hcell := (hbel.cell (p := ⟨b, off + k, none⟩) hb).trans (HC.out k (by omega))
      by_cases he : k = k0
      · subst he
        have hb2 : (rg k == x) = true := by simpa using HX.out
        go_wp2
        go_ret
        exact ⟨rfl, hbel⟩
      · have hb2 : (rg k == x) = false := by simpa using HN.out k (by omega)
        go_wp2
        go_round
        case rel => exact ⟨k + 1, by omega, by go_num, rfl⟩
        case measure => simp [intOf]; omega

set_option maxHeartbeats 800000 in
/-- No group of that rating group. -/
theorem law5_miss (a : Option Addr) (n cap : Nat) (rg : Nat → Int) (x : Int) (c : Nat) (w : World) (hn : n ≤ 65536) (hc : c ≤ n) (hne : ∀ j, j < n → rg j ≠ x)
    (h : n = 0 ∨ ∃ b off, a = some ⟨b, off, none⟩ ∧ b < w.heap.size ∧ ∀ j, j < n → w.cell? ⟨b, off + j, none⟩ = some (.int .u32 (rg j))) :
    Calls Try.prog 5 #[.slice a n cap, .int .u32 x, .int .i64 c] w fun e w' => e = .returned (.bool true) ∧ Below w.heap.size w w' := by
  have HT := tariffs_all a n cap rg w hn h
  have HTH : Hid (Calls _ _ _ _ _) := HT
  have HN : Hid (∀ j, j < n → rg j ≠ x) := hne
  have HH : Hid (n = 0 ∨ ∃ b off, a = some ⟨b, off, none⟩ ∧ b < w.heap.size ∧ ∀ j, j < n → w.cell? ⟨b, off + j, none⟩ = some (.int .u32 (rg j))) := h
  clear HT hne h
  by_cases hcn : c = n
  · subst hcn
    go_enter Try.func5, Try.ntmps5
    go_wp2_with (go_at_call 14; refine (bytes14_yes _ _ _ _ _ _ (by omega)).mono ?_; rintro e w' ⟨rfl, rfl⟩)
    refine Calls.mono HTH.out ?_
    rintro e w1 ⟨rfl, hbel, P, T, hG⟩
    have HG : Hid (GroupsAt _ _ _ _ _ _ _ _ _) := hG
    clear hG
    go_wp2_with fail
    refine (find_miss _ _ 0 c c P T _ _ _ x (by omega) HG.out HN.out).mono ?_
    rintro e w' ⟨rfl, rfl⟩
    go_wp2_with fail
    refine (find_miss _ _ 0 c c P T _ _ _ x (by omega) HG.out HN.out).mono ?_
    rintro e w' ⟨rfl, rfl⟩
    go_wp2_with fail
    refine (find_miss _ _ 0 0 0 P T rg rg rg x (by omega) (fun k hk => by omega) (fun k hk => by omega)).mono ?_
    rintro e w' ⟨rfl, rfl⟩
    go_wp2_with fail
    go_loop [13, 14] (fun f i => ∃ k : Nat, k ≤ c ∧ i = .int .i64 k ∧ f = .int .i64 (-1)) (fun _ i => c - (intOf i).toNat)
    case atStart => exact ⟨0, Nat.zero_le _, rfl, rfl⟩
    case round =>
      obtain ⟨k, hk, rfl, rfl⟩ := hrel
      by_cases hlt : k < c
      · rcases HH.out with h | ⟨b, off, rfl, hb, hcell⟩
        · omega
        have hcell' := (hbel.cell (p := ⟨b, off + k, none⟩) hb).trans (hcell k hlt)
        clear hcell
        have hb2 : (rg k == x) = false := by simpa using HN.out k (by omega)
        go_wp2
        go_round
        case rel => exact ⟨k + 1, by omega, by go_num, rfl⟩
        case measure => simp [intOf]; omega
      · go_wp2
        go_ret
        exact ⟨rfl, hbel⟩
  · have hcn' : c < n := by omega
    rcases HH.out with h | ⟨b, off, rfl, hb, hcell⟩
    · omega
    have HC : Hid (∀ j, j < n → w.cell? ⟨b, off + j, none⟩ = some (.int .u32 (rg j))) := hcell
    clear hcell
    go_enter Try.func5, Try.ntmps5
    go_wp2_with (go_at_call 14; refine (bytes14_yes _ _ _ _ _ _ (by omega)).mono ?_; rintro e w' ⟨rfl, rfl⟩)
    refine Calls.mono HTH.out ?_
    rintro e w1 ⟨rfl, hbel, P, T, hG⟩
    have HG : Hid (GroupsAt _ _ _ _ _ _ _ _ _) := hG
    clear hG
    go_wp2_with fail
    refine (find_miss _ _ 0 n n P T _ _ _ x (by omega) HG.out HN.out).mono ?_
    rintro e w' ⟨rfl, rfl⟩
    go_wp2_with fail
    refine (find_miss _ _ 0 c n P T _ _ _ x (by omega) (HG.out.upto hc) (fun j hj => HN.out j (by omega))).mono ?_
    rintro e w' ⟨rfl, rfl⟩
    go_wp2_with fail
    refine (find_miss _ _ c (n - c) (n - c) _ _ _ _ _ x (by omega) (by have := HG.out.from c; rw [Nat.zero_add] at this; exact this) (fun j hj => HN.out (c + j) (by omega))).mono ?_
    rintro e w' ⟨rfl, rfl⟩
    go_wp2_with fail
    go_loop [13, 14] (fun f i => ∃ k : Nat, k ≤ n ∧ i = .int .i64 k ∧ f = .int .i64 (-1)) (fun _ i => n - (intOf i).toNat)
    case atStart => exact ⟨0, Nat.zero_le _, rfl, rfl⟩
    case round =>
      obtain ⟨k, hk, rfl, rfl⟩ := hrel
      by_cases hlt : k < n
      · have hcell' := (hbel.cell (p := ⟨b, off + k, none⟩) hb).trans (HC.out k hlt)
        have hb2 : (rg k == x) = false := by simpa using HN.out k (by omega)
        go_wp2
        go_round
        case rel => exact ⟨k + 1, by omega, by go_num, rfl⟩
        case measure => simp [intOf]; omega
      · go_wp2
        go_ret
        exact ⟨rfl, hbel⟩
end Go.Proofs.Qxb6619635a
