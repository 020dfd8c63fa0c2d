/-
  The bounds on lengths of the two laws on refuse (functions 16 and 20); zzcB1Answers from the start, to the end, of nothing.
-/
import Derived.Test.Qxb6619635aAnswers
namespace Go.Proofs.Qxb6619635a
open Go.RowKit

/-- A bool is returned. -/
def SomeBool (e : Ending) : Prop := ∃ r, e = .returned (.bool r)

set_option maxHeartbeats 1600000 in
set_option maxRecDepth 100000 in
theorem bytes16_any (b o n c : Nat) (A : Nat → Ans) (y : Int) (w : World) (h : InRow w b o n A) :
    Calls Try.prog 16 #[.slice (some ⟨b, o, none⟩) n c, .int .i64 y] w fun e w' => SomeBool e ∧ w = w' := by
  have HI : Hid (InRow w b o n A) := h
  clear h
  by_cases hn : n ≤ 1048576
  · go_enter Try.func16, Try.ntmps16
    go_wp2
    go_loop [5, 6] (fun v i => ∃ (k : Nat) (z : Int), k ≤ n ∧ i = .int .i64 k ∧ v = .int .i64 z) (fun _ i => n - (intOf i).toNat)
    case atStart => exact ⟨0, _, Nat.zero_le _, rfl, rfl⟩
    case round =>
      obtain ⟨k, z, hk, rfl, rfl⟩ := hrel
      by_cases hlt : k < n
      · obtain ⟨x0, -, -, -, -, -, -, -, -, x9⟩ := HI.out.2 k hlt
        go_wp2
        all_goals first
          | (go_ret; exact ⟨⟨_, rfl⟩, rfl⟩)
          | (go_round
             case rel => exact ⟨k + 1, _, by omega, by go_num, rfl⟩
             case measure => simp [intOf]; omega)
      · go_wp2
        go_ret
        exact ⟨⟨_, rfl⟩, rfl⟩
  · go_enter Try.func16, Try.ntmps16
    go_wp2
    go_ret
    exact ⟨⟨_, rfl⟩, rfl⟩

set_option maxHeartbeats 1600000 in
set_option maxRecDepth 100000 in
theorem bytes16_zero (a : Option Addr) (c : Nat) (y : Int) (w : World) :
    Calls Try.prog 16 #[.slice a 0 c, .int .i64 y] w fun e w' => e = .returned (.bool true) ∧ w = w' := by
  go_enter Try.func16, Try.ntmps16
  go_wp2
  go_loop [5, 6] (fun v i => i = .int .i64 0 ∧ v = .int .i64 0) (fun _ _ => 0)
  case atStart => exact ⟨rfl, rfl⟩
  case round =>
    obtain ⟨rfl, rfl⟩ := hrel
    go_wp2
    go_ret
    exact ⟨rfl, rfl⟩

set_option maxHeartbeats 1600000 in
set_option maxRecDepth 100000 in
theorem bytes20_any (b o n c : Nat) (A : Nat → Ans) (w : World) (h : InRow w b o n A) :
    Calls Try.prog 20 #[.slice (some ⟨b, o, none⟩) n c] w fun e w' => SomeBool e ∧ w = w' := by
  have HI : Hid (InRow w b o n A) := h
  clear h
  by_cases hn : n ≤ 1048576
  · go_enter Try.func20, Try.ntmps20
    go_wp2
    go_loop [3, 4] (fun v i => ∃ (k : Nat) (z : Int), k ≤ n ∧ i = .int .i64 k ∧ v = .int .i64 z) (fun _ i => n - (intOf i).toNat)
    case atStart => exact ⟨0, _, Nat.zero_le _, rfl, rfl⟩
    case round =>
      obtain ⟨k, z, hk, rfl, rfl⟩ := hrel
      by_cases hlt : k < n
      · obtain ⟨x0, -, -, -, -, -, -, -, -, x9⟩ := HI.out.2 k hlt
        go_wp2
        all_goals first
          | (go_ret; exact ⟨⟨_, rfl⟩, rfl⟩)
          | (go_round
             case rel => exact ⟨k + 1, _, by omega, by go_num, rfl⟩
             case measure => simp [intOf]; omega)
      · go_wp2
        go_ret
        exact ⟨⟨_, rfl⟩, rfl⟩
  · go_enter Try.func20, Try.ntmps20
    go_wp2
    go_ret
    exact ⟨⟨_, rfl⟩, rfl⟩

set_option maxHeartbeats 1600000 in
set_option maxRecDepth 100000 in
theorem bytes20_zero (a : Option Addr) (c : Nat) (w : World) :
    Calls Try.prog 20 #[.slice a 0 c] w fun e w' => e = .returned (.bool true) ∧ w = w' := by
  go_enter Try.func20, Try.ntmps20
  go_wp2
  go_loop [3, 4] (fun v i => i = .int .i64 0 ∧ v = .int .i64 0) (fun _ _ => 0)
  case atStart => exact ⟨rfl, rfl⟩
  case round =>
    obtain ⟨rfl, rfl⟩ := hrel
    go_wp2
    go_ret
    exact ⟨rfl, rfl⟩

theorem answers_to (b o n c : Nat) (A : Nat → Ans) (t : Nat) (w : World) (ht : t ≤ n) (hn : n ≤ 65536) (h : InRow w b o n A) :
    Calls Try.prog 17 #[.slice (some ⟨b, o, none⟩) n c, .int .i64 0, .int .i64 t] w fun e w' =>
      e = .returned (.slice (some ⟨w.heap.size, 0, none⟩) t t) ∧ Below w.heap.size w w' ∧ OutRow w' w.heap.size w'.heap.size t A := by
  have H := answers_some b o n c A 0 t w (Nat.zero_le _) ht hn h
  simp only [Nat.sub_zero, Nat.zero_add] at H
  exact H

theorem answers_from (b o n c : Nat) (A : Nat → Ans) (f : Nat) (w : World) (hf : f ≤ n) (hn : n ≤ 65536) (h : InRow w b o n A) :
    Calls Try.prog 17 #[.slice (some ⟨b, o, none⟩) n c, .int .i64 f, .int .i64 n] w fun e w' =>
      e = .returned (.slice (some ⟨w.heap.size, 0, none⟩) (n - f) (n - f)) ∧ Below w.heap.size w w' ∧ OutRow w' w.heap.size w'.heap.size (n - f) (fun j => A (f + j)) :=
  answers_some b o n c A f n w hf (Nat.le_refl _) hn h

set_option maxHeartbeats 1600000 in
set_option maxRecDepth 100000 in
/-- No answer: whatever the slice is. -/
theorem answers_none (v : Value) (A : Nat → Ans) (w : World) :
    Calls Try.prog 17 #[v, .int .i64 0, .int .i64 0] w fun e w' =>
      e = .returned (.slice (some ⟨w.heap.size, 0, none⟩) 0 0) ∧ Below w.heap.size w w' ∧ OutRow w' w.heap.size w'.heap.size 0 A := by
  obtain ⟨i0, hi, hz0, hz1, hz2⟩ := info_parts Try.info53
  have hsub : ((0 : Int) - (0 : Int)) = ((0 : Nat) : Int) := by omega
  go_enter Try.func17, Try.ntmps17
  go_wp2_with (at_make; refine wpList_make_own _ rfl _ _ 46 rfl w.heap.size 53 i0 (.agg #[.string ⟨#[]⟩, .int .u32 0, .pointer none, .pointer none]) 4 Try.underlying46 hi hz0 hz1 _ _ _ 0 rfl rfl (by omega) ?b2 ?b3 (Nat.le_refl _) ?_)
  case b2 => rw [hz2]; omega
  case b3 => unfold maxLen; omega
  intro w0 hown0 hgrow0
  clear hsub
  go_wp2
  go_loopw [7, 8] (fun v i wr => i = .int .i64 0 ∧ v = .slice (some ⟨w.heap.size, 0, none⟩) 0 0 ∧ wr = w0) (fun _ _ _ => 0)
  case atStart => exact ⟨rfl, rfl, rfl⟩
  case round =>
    obtain ⟨rfl, rfl, rfl⟩ := hrel
    go_wp2
    go_ret
    exact ⟨rfl, (Below.refl _ _).grown hgrow0 (Nat.le_refl _) (fun k h => by cases h), (hown0.lt _ rfl).2, fun k hk => by omega⟩
end Go.Proofs.Qxb6619635a
