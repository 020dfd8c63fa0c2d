/-
  FnBitReassemblesItsByte (function 3).
-/
import Derived.Test.Qxb6623305aBit
namespace Go.Proofs.Qxb6623305a
open Go.RowKit

theorem Try.info5 : (Try.prog.info? 5).map (fun i => (i.zero, i.size, i.bytes)) = some (some (.int .u8 0), 1, 1) := by kernel_rfl
theorem Try.size5 : (Try.prog.info? 5).map (·.size) = some 1 := by kernel_rfl

def byteCells (f : Nat → Int) (n : Nat) : List Value := (List.range n).map fun j => Value.int .u8 (f j)
theorem byteCells_length (f : Nat → Int) (n : Nat) : (byteCells f n).length = n := by simp [byteCells]
theorem byteCells_get (f : Nat → Int) (n j : Nat) (h : j < n) : (byteCells f n)[j]? = some (.int .u8 (f j)) := by simp [byteCells, h]
theorem byteCells_one (f : Nat → Int) (n : Nat) : ∀ v ∈ byteCells f n, v.oneCell' = true := by
  intro v hv
  obtain ⟨_, _, rfl⟩ := List.mem_map.1 hv
  rfl

theorem made_block {w : World} {base : Nat} {e : TypeId} {N n c : Nat} {xs : List Value} (h : w.ownsRow base e 1 (.slice (some ⟨N, 0, none⟩) n c) n xs) : ∃ cur : List Value, cur.length = c ∧ w.heap[N]? = some (.cells cur.toArray e (0, 0)) := by
  rcases h.2 with ⟨hv, _⟩ | ⟨g, cap, cur, hv, _, hh, _, _, hs, _⟩
  · cases hv
  · simp only [Value.slice.injEq, Option.some.injEq, Addr.mk.injEq] at hv
    obtain ⟨⟨rfl, _⟩, _, rfl⟩ := hv
    exact ⟨cur.toList, by simpa using hs, by simpa using hh⟩

theorem bytes4_yes (a : Option Addr) (n cap : Nat) (y : Int) (w : World) (hn : n ≤ 1048576) :
    Calls Try.prog 4 #[.slice a n cap, .int .i64 y] w fun e w' => e = .returned (.bool true) ∧ w = w' := by
  go_enter Try.func4, Try.ntmps4
  go_wp2
  go_ret
  exact ⟨rfl, rfl⟩
theorem bytes4_no (a : Option Addr) (n cap : Nat) (y : Int) (w : World) (hn : 1048576 < n) :
    Calls Try.prog 4 #[.slice a n cap, .int .i64 y] w fun e w' => e = .returned (.bool false) ∧ w = w' := by
  go_enter Try.func4, Try.ntmps4
  go_wp2
  go_ret
  exact ⟨rfl, rfl⟩

/-- Too long, or a position outside: true. -/
theorem law3_out (a : Option Addr) (n cap : Nat) (y : Int) (w : World) (h : 65536 < n ∨ y < 0 ∨ 8 * (n : Int) ≤ y) :
    Calls Try.prog 3 #[.slice a n cap, .int .i64 y] w fun e w' => e = .returned (.bool true) ∧ w = w' := by
  by_cases h1 : 1048576 < n
  · go_enter Try.func3, Try.ntmps3
    go_wp2_with (go_at_call 4; refine (bytes4_no _ _ _ _ _ h1).mono ?_; rintro e w' ⟨rfl, rfl⟩)
    go_ret
    exact ⟨rfl, rfl⟩
  · by_cases h2 : 65536 < n
    · go_enter Try.func3, Try.ntmps3
      go_wp2_with (go_at_call 4; refine (bytes4_yes _ _ _ _ _ (by omega)).mono ?_; rintro e w' ⟨rfl, rfl⟩)
      go_ret
      exact ⟨rfl, rfl⟩
    · by_cases h3 : y < 0
      · clear h
        go_enter Try.func3, Try.ntmps3
        go_wp2_with (go_at_call 4; refine (bytes4_yes _ _ _ _ _ (by omega)).mono ?_; rintro e w' ⟨rfl, rfl⟩)
        go_ret
        exact ⟨rfl, rfl⟩
      · have h4 : 8 * (n : Int) ≤ y := by omega
        clear h
        go_enter Try.func3, Try.ntmps3
        go_wp2_with (go_at_call 4; refine (bytes4_yes _ _ _ _ _ (by omega)).mono ?_; rintro e w' ⟨rfl, rfl⟩)
        go_ret
        exact ⟨rfl, rfl⟩

set_option maxHeartbeats 1600000 in
theorem law3_in (b o n cap i : Nat) (f : Nat → Int) (w : World) (hn : n ≤ 65536) (hin : i < 8 * n) (hb : b < w.heap.size) (hf : ∀ j, 0 ≤ f j ∧ f j ≤ 255) (hc : ∀ j, j < n → w.cell? ⟨b, o + j, none⟩ = some (.int .u8 (f j))) :
    Calls Try.prog 3 #[.slice (some ⟨b, o, none⟩) n cap, .int .i64 i] w fun e w' => e = .returned (.bool true) ∧ Below w.heap.size w w' := by
  obtain ⟨i0, hi, hz0, hz1, hz2⟩ := info_parts Try.info5
  have HC : Hid (∀ j, j < n → w.cell? ⟨b, o + j, none⟩ = some (.int .u8 (f j))) := hc
  have hk : i / 8 < n := by omega
  obtain ⟨v0, v1⟩ := hf (i / 8)
  clear hc hf
  have hq := fun w => run_neq_slice_nil_any (P := Try.prog) w 22 5 (some ⟨b, o, none⟩) n cap 0 0 Try.underlying22
  have ht : ¬ 8 * (n : Int) ≤ (i : Int) := by omega
  go_enter Try.func3, Try.ntmps3
  go_wp2_with (first | (go_at_call 4; refine (bytes4_yes _ _ _ _ _ (by omega)).mono ?_; rintro e w' ⟨rfl, rfl⟩) | (at_make; refine wpList_make_full _ rfl _ _ 22 rfl w.heap.size 5 i0 (.int .u8 0) 1 Try.underlying22 hi hz0 hz1 _ _ _ _ n rfl rfl rfl rfl ?b2 ?b3 (Nat.le_refl _) ?_))
  case b2 => rw [hz2]; omega
  case b3 => unfold maxLen; omega
  intro w1 hown1 hgrow1
  obtain ⟨cur, hcur, hh⟩ := made_block hown1
  have hb1 : Below w.heap.size w w1 := (Below.refl _ _).grown hgrow1 (Nat.le_refl _) (fun k h => by cases h)
  have HHh : Hid (w1.heap[w.heap.size]? = some (.cells cur.toArray 5 (0, 0))) := hh
  have HP : Hid (0 < (byteCells f n).length → (some (⟨w.heap.size, 0, none⟩ : Addr)) = some ⟨w.heap.size, 0, none⟩ ∧ ∃ ad, some (⟨b, o, none⟩ : Addr) = some ad ∧ ∀ j v, (byteCells f n)[j]? = some v → w1.cell? (ad.add j) = some v) := by
    intro _
    refine ⟨rfl, _, rfl, fun j v hj => ?_⟩
    have hjn : j < n := by have := (List.getElem?_eq_some_iff.1 hj).1; rwa [byteCells_length] at this
    rw [byteCells_get f n j hjn] at hj
    obtain rfl := Option.some.inj hj
    rw [Addr.add_lit]
    exact (hb1.cell (p := ⟨b, o + j, none⟩) hb).trans (HC.out j hjn)
  clear hh hown1 hgrow1
  go_wp2_with (with_reducible show Go.wpList _ _ _ (Oper.mk (some 33) _ _ _ _ _ :: _) _ _; refine wpList_copy_splice rfl (.tmp 31) (.tmp 32) 22 22 rfl 5 Try.underlying22 Try.size5 _ _ n n n cap rfl rfl w.heap.size 0 cur 5 HHh.out (byteCells f n) (by rw [byteCells_length]; exact (Nat.min_self n).symm) HP.out (by rw [byteCells_length]; omega) (byteCells_one f n) w.heap.size w hb1 (Nat.le_refl _) ?_)
  intro w2 HG2 hB2
  have hcell : w2.cell? ⟨w.heap.size, i / 8, none⟩ = some (.int .u8 (f (i / 8))) := by
    rw [cell_of_row w2 w.heap.size (i / 8) _ 5 (0, 0) HG2.out]
    have e : splice cur 0 (byteCells f n) = byteCells f n := by
      unfold splice
      rw [byteCells_length, Nat.zero_add, List.drop_of_length_le (by omega)]
      simp
    rw [e]
    simpa using byteCells_get f n (i / 8) hk
  clear HHh HP HG2 hb1
  obtain ⟨v, hv⟩ : ∃ v, v = f (i / 8) := ⟨_, rfl⟩
  rw [← hv] at hcell v0 v1
  obtain ⟨k, hkk⟩ : ∃ k, k = i / 8 := ⟨_, rfl⟩
  have hki : ((i : Int)) / 8 = (k : Int) := by omega
  rw [← hkk] at hcell hk
  clear hv
  have HK : Hid (k = i / 8) := hkk
  clear hkk
  go_wp2
  clear hki
  go_loop [7, 8] (fun su sj => ∃ j : Nat, j ≤ 8 ∧ sj = .int .i64 j ∧ su = .int .i64 (pre v j)) (fun _ sj => 8 - (intOf sj).toNat)
  case atStart => exact ⟨0, Nat.zero_le _, rfl, rfl⟩
  case round =>
    obtain ⟨j, hj, rfl, rfl⟩ := hrel
    obtain ⟨p0, p1⟩ := pre_bound v v0 v1 j
    by_cases hlt : j < 8
    · obtain ⟨q0, q1⟩ := bitv_01 v j
      have HS : Hid (pre v (j + 1) = pre v j * 2 + bitv v j) := pre_succ v v0 v1 j hlt
      have HX : Hid (w2.cell? ⟨w.heap.size, 0 + k, none⟩ = some (.int .u8 v)) := by rw [Nat.zero_add]; exact hcell
      go_wp2_with (go_at_call 5; refine (bit5 w2 w.heap.size 0 n n k j _ v (by omega) hlt hk hn v0 v1 HX.out).mono ?_; rintro e w' ⟨rfl, rfl⟩)
      go_round
      case rel => exact ⟨j + 1, by omega, by go_num, congrArg (Value.int .i64) HS.out.symm⟩
      case measure => simp [intOf]; omega
    · have hj8 : j = 8 := by omega
      subst hj8
      have he : (pre v 8 == v) = true := by rw [pre_eight]; simp
      go_wp2
      go_ret
      exact ⟨rfl, hB2⟩
end Go.Proofs.Qxb6623305a
