/-
  FnChargesOfEntriesAreFoundByFindGroupAndAddUpToCharged (function 4).
-/
import Derived.Test.Qxb6619635aRows3
import Derived.WalkSmall
namespace Go.Proofs.Qxb6619635a
open Go.RowKit

theorem GroupsAt.below {w w' : World} {G off n : Nat} {P T : Nat → Nat} {rg ch bf : Nat → Int} (h : GroupsAt w G off n P T rg ch bf) (hb : Below w.heap.size w w') : GroupsAt w' G off n P T rg ch bf := by
  have keep : ∀ (a : Addr) (v : Value), w.cell? a = some v → w'.cell? a = some v := fun a v hv => (hb.cell (World.block_lt_of_cell? w a hv)).trans hv
  intro k hk
  obtain ⟨h1, h2, h3, h4, h5⟩ := h k hk
  exact ⟨keep _ _ h1, keep _ _ h2, keep _ _ h3, keep _ _ h4, keep _ _ h5⟩

/-- From the k-th group on, the k-th group's own rating group is found at the k-th itself. -/
theorem find_here (w : World) (G n : Nat) (P T : Nat → Nat) (rg ch bf : Nat → Int) (k : Nat) (hk : k < n) (hn : n ≤ 1048576) (hg : GroupsAt w G 0 n P T rg ch bf) :
    Calls Try.prog 13 #[.slice (some ⟨G, k, none⟩) (n - k) (n - k), .int .u32 (rg k)] w fun e w' => e = .returned (.pointer (some ⟨P k, 0, none⟩)) ∧ w' = w := by
  have hf := hg.from k
  rw [Nat.zero_add] at hf
  exact (find_hit w G k (n - k) (n - k) _ _ _ _ _ (rg k) (by omega) hf 0 (by omega) rfl (fun j hj => by omega)).mono fun e w' ⟨he, hw⟩ => ⟨he, hw.symm⟩

theorem add_back (ch bf : Int) (h0 : -9223372036854775808 ≤ ch) (h1 : ch ≤ 9223372036854775807) : wrap64 (bf + wrap64 (ch - bf)) = ch := by
  unfold wrap64
  omega

set_option maxHeartbeats 800000 in
theorem bytes12_any (a0 a1 a2 : Option Addr) (n0 c0 n1 c1 n2 c2 : Nat) (w : World) :
    Calls Try.prog 12 #[.slice a0 n0 c0, .slice a1 n1 c1, .slice a2 n2 c2] w fun e w' => (∃ b, e = .returned (.bool b)) ∧ w = w' := by
  by_cases h0 : n0 ≤ 1048576
  · by_cases h1 : n1 ≤ 1048576
    · by_cases h2 : n2 ≤ 1048576
      · go_enter Try.func12, Try.ntmps12
        go_wp2
        all_goals (go_ret; exact ⟨⟨_, rfl⟩, rfl⟩)
      · go_enter Try.func12, Try.ntmps12
        go_wp2
        all_goals (go_ret; exact ⟨⟨_, rfl⟩, rfl⟩)
    · go_enter Try.func12, Try.ntmps12
      go_wp2
      all_goals (go_ret; exact ⟨⟨_, rfl⟩, rfl⟩)
  · go_enter Try.func12, Try.ntmps12
    go_wp2
    all_goals (go_ret; exact ⟨⟨_, rfl⟩, rfl⟩)

theorem bytes12_yes (a0 a1 a2 : Option Addr) (n0 c0 n1 c1 n2 c2 : Nat) (w : World) (h0 : n0 ≤ 32768) (h1 : n1 ≤ 32768) (h2 : n2 ≤ 32768) :
    Calls Try.prog 12 #[.slice a0 n0 c0, .slice a1 n1 c1, .slice a2 n2 c2] w fun e w' => e = .returned (.bool true) ∧ w = w' := by
  go_enter Try.func12, Try.ntmps12
  go_wp2
  go_ret
  exact ⟨rfl, rfl⟩

set_option maxHeartbeats 1600000 in
set_option maxRecDepth 100000 in
theorem law4_out (a0 a1 a2 : Option Addr) (n0 c0 n1 c1 n2 c2 : Nat) (w : World) (h : 32768 < n0 ∨ 32768 < n1 ∨ 32768 < n2 ∨ n1 ≠ n0 ∨ n2 ≠ n0) :
    Calls Try.prog 4 #[.slice a0 n0 c0, .slice a1 n1 c1, .slice a2 n2 c2] w fun e w' => e = .returned (.bool true) ∧ w = w' := by
  have HB := bytes12_any a0 a1 a2 n0 c0 n1 c1 n2 c2 w
  have HH : Hid (Calls _ _ _ _ _) := HB
  clear HB
  by_cases h0 : 32768 < n0
  · clear h
    go_enter Try.func4, Try.ntmps4
    go_wp2_with (go_at_call 12; refine Calls.mono HH.out ?_; rintro e w' ⟨⟨b, rfl⟩, rfl⟩; cases b)
    all_goals (go_ret; exact ⟨rfl, rfl⟩)
  · by_cases h1 : 32768 < n1
    · clear h
      go_enter Try.func4, Try.ntmps4
      go_wp2_with (go_at_call 12; refine Calls.mono HH.out ?_; rintro e w' ⟨⟨b, rfl⟩, rfl⟩; cases b)
      all_goals (go_ret; exact ⟨rfl, rfl⟩)
    · by_cases h2 : 32768 < n2
      · clear h
        go_enter Try.func4, Try.ntmps4
        go_wp2_with (go_at_call 12; refine Calls.mono HH.out ?_; rintro e w' ⟨⟨b, rfl⟩, rfl⟩; cases b)
        all_goals (go_ret; exact ⟨rfl, rfl⟩)
      · by_cases h3 : n1 = n0
        · subst h3
          have h5 : ((n2 : Int) == (n1 : Int)) = false := beq_eq_false_iff_ne.2 (by omega)
          have h6 : ((n2 : Int) != (n1 : Int)) = true := by rw [bne_iff_ne]; omega
          clear h
          go_enter Try.func4, Try.ntmps4
          go_wp2_with (go_at_call 12; refine Calls.mono HH.out ?_; rintro e w' ⟨⟨b, rfl⟩, rfl⟩; cases b)
          all_goals (go_ret; exact ⟨rfl, rfl⟩)
        · have h5 : ((n1 : Int) == (n0 : Int)) = false := beq_eq_false_iff_ne.2 (by omega)
          have h6 : ((n1 : Int) != (n0 : Int)) = true := by rw [bne_iff_ne]; omega
          clear h h3
          go_enter Try.func4, Try.ntmps4
          go_wp2_with (go_at_call 12; refine Calls.mono HH.out ?_; rintro e w' ⟨⟨b, rfl⟩, rfl⟩; cases b)
          all_goals (go_ret; exact ⟨rfl, rfl⟩)

set_option maxHeartbeats 3200000 in
set_option maxRecDepth 100000 in
theorem law4_none (a0 a1 a2 : Option Addr) (c0 c1 c2 : Nat) (w : World) :
    Calls Try.prog 4 #[.slice a0 0 c0, .slice a1 0 c1, .slice a2 0 c2] w fun e w' => e = .returned (.bool true) ∧ Below w.heap.size w w' := by
  go_enter Try.func4, Try.ntmps4
  go_wp2_with (go_at_call 12; refine (bytes12_yes _ _ _ _ _ _ _ _ _ _ (by omega) (by omega) (by omega)).mono ?_; rintro e w' ⟨rfl, rfl⟩)
  refine (groups_empty _ _ _ 0 (fun _ => 0) (fun _ => 0) (fun _ => 0) w (by omega)).mono ?_
  rintro e w1 ⟨rfl, hb1, _⟩
  go_wp2_with fail
  refine (charges9_none w1 _ 0 0 (by omega)).mono ?_
  rintro e w' ⟨rfl, rfl⟩
  go_wp2_with fail
  refine (list11_none w1).mono ?_
  rintro e w' ⟨rfl, rfl⟩
  go_wp2_with fail
  go_loop [11] (fun i => i = .int .i64 0) (fun _ => 0)
  case atStart => exact rfl
  case round =>
    obtain rfl := hrel
    go_wp2
    go_ret
    exact ⟨rfl, hb1⟩

set_option maxHeartbeats 3200000 in
set_option maxRecDepth 100000 in
theorem law4_some (b0 o0 n c0 b1 o1 c1 b2 o2 c2 : Nat) (rg ch bf am : Nat → Int) (ham : ∀ j, am j = wrap64 (ch j - bf j)) (hch : ∀ j, -9223372036854775808 ≤ ch j ∧ ch j ≤ 9223372036854775807) (w : World) (hn : n ≤ 32768) (hn0 : 0 < n) (h : Rows3 w b0 o0 b1 o1 b2 o2 n rg ch bf) :
    Calls Try.prog 4 #[.slice (some ⟨b0, o0, none⟩) n c0, .slice (some ⟨b1, o1, none⟩) n c1, .slice (some ⟨b2, o2, none⟩) n c2] w fun e w' => e = .returned (.bool true) ∧ Below w.heap.size w w' := by
  have HR : Hid (Rows3 w b0 o0 b1 o1 b2 o2 n rg ch bf) := h
  have HA : Hid (∀ j, am j = wrap64 (ch j - bf j)) := ham
  have HS : Hid (∀ j, wrap64 (bf j + am j) = ch j) := fun j => by rw [ham j]; exact add_back _ _ (hch j).1 (hch j).2
  clear h ham hch
  have hz : ((n : Int) == 0) = false := beq_eq_false_iff_ne.2 (by omega)
  have hnq := neq35
  go_enter Try.func4, Try.ntmps4
  go_wp2_with (go_at_call 12; refine (bytes12_yes _ _ _ _ _ _ _ _ _ _ (by omega) (by omega) (by omega)).mono ?_; rintro e w' ⟨rfl, rfl⟩)
  refine (groups_to b0 o0 n c0 b1 o1 c1 b2 o2 c2 rg ch bf n w (Nat.le_refl _) (by omega) HR.out).mono ?_
  rintro e w1 ⟨rfl, hb1, P1, T1, hG1⟩
  have HG1 : Hid (GroupsAt w1 w.heap.size 0 n P1 T1 rg ch bf) := hG1
  clear hG1
  have HR1 : Hid (Rows3 w1 b0 o0 b1 o1 b2 o2 n rg ch bf) := HR.out.below hb1
  go_wp2_with fail
  refine (ext_some w1 _ n n P1 T1 rg ch bf am HA.out (by omega) (by omega) HG1.out).mono ?_
  rintro e w2 ⟨rfl, hb2, C1, k1, hE1⟩
  have HE1 : Hid (ExtAt w2 w1.heap.size C1 n k1 rg am) := hE1
  clear hE1
  have HR2 : Hid (Rows3 w2 b0 o0 b1 o1 b2 o2 n rg ch bf) := HR1.out.below hb2
  have HG2 : Hid (GroupsAt w2 w.heap.size 0 n P1 T1 rg ch bf) := HG1.out.below hb2
  have s1 := hb1.size
  have s2 := hb2.size
  have HB : Hid (Below w.heap.size w w2) := hb1.trans (hb2.mono (by omega))
  clear HG1 HR HR1 hb1 hb2
  go_wp2_with fail
  refine (list11_some w2 _ _ n k1 HE1.out.1).mono ?_
  rintro e w' ⟨rfl, rfl⟩
  go_wp2_with fail
  go_loopw [11] (fun i wr => ∃ k : Nat, k ≤ n ∧ i = .int .i64 k ∧ Below w2.heap.size w2 wr) (fun i _ => n - (intOf i).toNat)
  case atStart => exact ⟨0, Nat.zero_le _, rfl, Below.refl _ _⟩
  case round =>
    obtain ⟨k, hk, rfl, hbr⟩ := hrel
    by_cases hlt : k < n
    · obtain ⟨x1, x2⟩ := (HE1.out.below (by omega) hbr).2 k hlt
      obtain ⟨_, y1, y2⟩ := (HR2.out.below hbr).2 k hlt
      obtain ⟨_, r1, r2⟩ := (HR2.out.below hbr).1
      have HGr : Hid (GroupsAt wr w.heap.size 0 n P1 T1 rg ch bf) := HG2.out.below hbr
      have g1 := (HGr.out k hlt).1
      rw [Nat.zero_add] at g1
      have hs2 := hbr.size
      have hGl : w.heap.size < wr.heap.size := World.block_lt_of_cell? wr _ g1
      have hs : (wrap64 (bf k + am k) != ch k) = false := by simp [HS.out k]
      go_wp2
      go_quiet ((go_at_call 13; exact Calls.quiet_of_same (find_here _ _ n P1 T1 rg ch bf k hlt (by omega) (HGr.out.below (below_drewN ((Below.refl _ _).alloc (Nat.le_refl _) _) _)))))
      go_wp2
      go_quiet (fail)
      go_wp2
      go_roundw
      case rel => exact ⟨k + 1, by omega, by go_num, below_drewN (hbr.alloc hs2 _) _⟩
      case measure => simp [intOf]; omega
    · have hkn : k = n := by omega
      subst hkn
      go_wp2
      go_ret
      exact ⟨rfl, HB.out.trans (hbr.mono (by omega))⟩
end Go.Proofs.Qxb6619635a
