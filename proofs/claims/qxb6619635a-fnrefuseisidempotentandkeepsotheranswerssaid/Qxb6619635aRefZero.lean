/-
  The two laws on refuse (functions 6 and 7) over no answer at all: whatever the empty slice is.
-/
import Derived.Test.Qxb6619635aBytesA
namespace Go.Proofs.Qxb6619635a
open Go.RowKit

theorem no_ans : ∃ A : Nat → Ans, A = A := ⟨fun _ => ⟨⟨#[]⟩, 0, false, 0, 0, 0, 0, 0, false, ⟨#[]⟩⟩, rfl⟩

set_option maxHeartbeats 3200000 in
set_option maxRecDepth 100000 in
theorem law6_zero (a : Option Addr) (cp : Nat) (y : Int) (w : World) :
    Calls Try.prog 6 #[.slice a 0 cp, .int .i64 y] w fun e w' => e = .returned (.bool true) ∧ Below w.heap.size w w' := by
  obtain ⟨A, -⟩ := no_ans
  by_cases hy : y < 0
  · go_enter Try.func6, Try.ntmps6
    go_wp2_with (go_at_call 16; refine (bytes16_zero _ _ _ _).mono ?_; rintro e w' ⟨rfl, rfl⟩)
    go_loop [5, 6] (fun v i => i = .int .i64 0 ∧ v = .int .i64 0) (fun _ _ => 0)
    case atStart => exact ⟨rfl, rfl⟩
    case round =>
      obtain ⟨rfl, rfl⟩ := hrel
      go_wp2
      go_ret
      exact ⟨rfl, Below.refl _ _⟩
  · by_cases hy2 : 0 < y
    · go_enter Try.func6, Try.ntmps6
      go_wp2_with (go_at_call 16; refine (bytes16_zero _ _ _ _).mono ?_; rintro e w' ⟨rfl, rfl⟩)
      go_loop [5, 6] (fun v i => i = .int .i64 0 ∧ v = .int .i64 0) (fun _ _ => 0)
      case atStart => exact ⟨rfl, rfl⟩
      case round =>
        obtain ⟨rfl, rfl⟩ := hrel
        go_wp2
        go_ret
        exact ⟨rfl, Below.refl _ _⟩
    · have hy3 : y = 0 := by omega
      subst hy3
      clear hy hy2
      go_enter Try.func6, Try.ntmps6
      go_wp2_with (go_at_call 16; refine (bytes16_zero _ _ _ _).mono ?_; rintro e w' ⟨rfl, rfl⟩)
      go_loop [5, 6] (fun v i => i = .int .i64 0 ∧ v = .int .i64 0) (fun _ _ => 0)
      case atStart => exact ⟨rfl, rfl⟩
      case round =>
        obtain ⟨rfl, rfl⟩ := hrel
        go_wp2_with fail
        refine (answers_none _ A w).mono ?_
        rintro e w1 ⟨rfl, hb1, hO1⟩
        have HO1 : Hid (OutRow w1 w.heap.size w1.heap.size 0 A) := hO1
        clear hO1
        go_wp2_with fail
        refine (answers_none _ A w1).mono ?_
        rintro e w2 ⟨rfl, hb2, hO2⟩
        have HO2 : Hid (OutRow w2 w1.heap.size w2.heap.size 0 A) := hO2
        clear hO2
        go_wp2_with fail
        refine (answers_none _ A w2).mono ?_
        rintro e w3 ⟨rfl, hb3, hO3⟩
        have HO3 : Hid (OutRow w3 w2.heap.size w3.heap.size 0 A) := hO3
        clear hO3
        have s1 := hb1.size
        have s2 := hb2.size
        have s3 := hb3.size
        have l1 := HO1.out.1
        have l2 := HO2.out.1
        have l3 := HO3.out.1
        have HB3 : Hid (Below w.heap.size w w3) := (hb1.trans (hb2.mono (by omega))).trans (hb3.mono (by omega))
        clear hb1 hb2 hb3
        go_wp2_with fail
        refine (refuse18 w3 w.heap.size w1.heap.size 0 0 A (by omega) (by omega) ⟨l1, fun k hk => by omega⟩).mono ?_
        rintro e w4 ⟨rfl, g4, -⟩
        have s4 := g4.size
        have HB4 : Hid (Below w.heap.size w w4) := HB3.out.grown g4 (by omega) (fun j hj => by cases hj; exact Nat.le_refl _)
        clear g4
        go_wp2_with fail
        refine (refuse18 w4 w1.heap.size w2.heap.size 0 0 A (by omega) (by omega) ⟨l2, fun k hk => by omega⟩).mono ?_
        rintro e w5 ⟨rfl, g5, -⟩
        have s5 := g5.size
        have HB5 : Hid (Below w.heap.size w w5) := HB4.out.grown g5 (by omega) (fun j hj => by cases hj; omega)
        clear g5
        go_wp2_with fail
        refine (refuse18 w5 w2.heap.size w3.heap.size 0 0 A (by omega) (by omega) ⟨l3, fun k hk => by omega⟩).mono ?_
        rintro e w6 ⟨rfl, g6, -⟩
        have HB6 : Hid (Below w.heap.size w w6) := HB5.out.grown g6 (by omega) (fun j hj => by cases hj; omega)
        clear g6
        go_wp2_with fail
        go_loop [11, 12, 13, 14, 15, 16, 17] (fun a1 a2 b1 b2 c1 c2 i => i = .int .i64 0 ∧ a1 = .int .i64 0 ∧ a2 = .int .i64 0 ∧ b1 = .int .i64 0 ∧ b2 = .int .i64 0 ∧ c1 = .int .i64 0 ∧ c2 = .int .i64 0) (fun _ _ _ _ _ _ _ => 0)
        case atStart => exact ⟨rfl, rfl, rfl, rfl, rfl, rfl, rfl⟩
        case round =>
          obtain ⟨rfl, rfl, rfl, rfl, rfl, rfl, rfl⟩ := hrel
          go_wp2
          go_ret
          exact ⟨rfl, HB6.out⟩

set_option maxHeartbeats 3200000 in
set_option maxRecDepth 100000 in
theorem law7_zero (a : Option Addr) (cp : Nat) (w : World) :
    Calls Try.prog 7 #[.slice a 0 cp] w fun e w' => e = .returned (.bool true) ∧ Below w.heap.size w w' := by
  obtain ⟨A, -⟩ := no_ans
  go_enter Try.func7, Try.ntmps7
  go_wp2_with (go_at_call 20; refine (bytes20_zero _ _ _).mono ?_; rintro e w' ⟨rfl, rfl⟩)
  go_loop [3, 4] (fun v i => i = .int .i64 0 ∧ v = .int .i64 0) (fun _ _ => 0)
  case atStart => exact ⟨rfl, rfl⟩
  case round =>
    obtain ⟨rfl, rfl⟩ := hrel
    go_wp2_with fail
    refine (answers_none _ A w).mono ?_
    rintro e w1 ⟨rfl, hb1, hO1⟩
    have l1 := hO1.1
    clear hO1
    go_wp2_with fail
    refine (answers_none _ A w1).mono ?_
    rintro e w2 ⟨rfl, hb2, hO2⟩
    have l2 := hO2.1
    clear hO2
    have s1 := hb1.size
    have s2 := hb2.size
    go_wp2_with fail
    refine (refuse18 w2 w1.heap.size w2.heap.size 0 0 A (by omega) (by omega) ⟨l2, fun k hk => by omega⟩).mono ?_
    rintro e w3 ⟨rfl, g3, -⟩
    have s3 := g3.size
    have HB3 : Hid (Below w.heap.size w w3) := (hb1.trans (hb2.mono (by omega))).grown g3 (by omega) (fun j hj => by cases hj; omega)
    clear g3 hb1 hb2
    go_wp2_with fail
    refine (answers_none _ A w3).mono ?_
    rintro e w4 ⟨rfl, hb4, hO4⟩
    have l4 := hO4.1
    have s4 := hb4.size
    have HB4 : Hid (Below w.heap.size w w4) := HB3.out.trans (hb4.mono (by omega))
    clear hO4 hb4
    go_wp2_with fail
    refine (refuse18 w4 w3.heap.size w4.heap.size 0 0 A (by omega) (by omega) ⟨l4, fun k hk => by omega⟩).mono ?_
    rintro e w5 ⟨rfl, g5, -⟩
    have s5 := g5.size
    have HB5 : Hid (Below w.heap.size w w5) := HB4.out.grown g5 (by omega) (fun j hj => by cases hj; omega)
    clear g5
    go_wp2_with fail
    refine (refuse18 w5 w3.heap.size w4.heap.size 0 0 A (by omega) (by omega) ⟨l4, fun k hk => by omega⟩).mono ?_
    rintro e w6 ⟨rfl, g6, -⟩
    have HB6 : Hid (Below w.heap.size w w6) := HB5.out.grown g6 (by omega) (fun j hj => by cases hj; omega)
    clear g6
    go_wp2_with fail
    go_loop [9] (fun i => i = .int .i64 0) (fun _ => 0)
    case atStart => exact rfl
    case round =>
      obtain rfl := hrel
      go_wp2
      go_ret
      exact ⟨rfl, HB6.out⟩
end Go.Proofs.Qxb6619635a
