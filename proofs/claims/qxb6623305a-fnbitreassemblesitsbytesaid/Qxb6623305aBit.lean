/-
  bit (function 6) and ZZbit (function 5) by contracts; the plain law on one byte.
-/
import Derived.Test.Qxb6623305aRows
import Derived.WalkKit
import Derived.ProofKit
import Derived.OpenShut
import Derived.Laws.CopyOwn
import Derived.WalkSpells
namespace Go.Proofs.Qxb6623305a
open Go.RowKit

theorem and_one_u8 (x : Int) (h0 : 0 ≤ x) (h1 : x ≤ 255) : bits BinOp.and IntKind.u8 x 1 = x % 2 := by
  have h := u8_and_nat x.toNat 1 (by omega) (by omega)
  rw [Nat.and_one_is_mod, Int.toNat_of_nonneg h0] at h
  have h2 : ((x.toNat % 2 : Nat) : Int) = x % 2 := by omega
  exact h.trans h2

/-- Bit j of a byte, counted from the most significant. -/
def bitv (v : Int) (j : Nat) : Int :=
  if j = 0 then v / 128 % 2 else if j = 1 then v / 64 % 2 else if j = 2 then v / 32 % 2 else if j = 3 then v / 16 % 2 else if j = 4 then v / 8 % 2 else if j = 5 then v / 4 % 2 else if j = 6 then v / 2 % 2 else v % 2

/-- The first j bits, as a number. -/
def pre (v : Int) (j : Nat) : Int :=
  if j = 0 then 0 else if j = 1 then v / 128 else if j = 2 then v / 64 else if j = 3 then v / 32 else if j = 4 then v / 16 else if j = 5 then v / 8 else if j = 6 then v / 4 else if j = 7 then v / 2 else v

theorem eight (j : Nat) (h : j < 8) : j = 0 ∨ j = 1 ∨ j = 2 ∨ j = 3 ∨ j = 4 ∨ j = 5 ∨ j = 6 ∨ j = 7 := by omega

theorem bitv_01 (v : Int) (j : Nat) : 0 ≤ bitv v j ∧ bitv v j ≤ 1 := by
  unfold bitv
  repeat' split
  all_goals omega

theorem pre_succ (v : Int) (h0 : 0 ≤ v) (h1 : v ≤ 255) (j : Nat) (h : j < 8) : pre v (j + 1) = pre v j * 2 + bitv v j := by
  rcases eight j h with rfl | rfl | rfl | rfl | rfl | rfl | rfl | rfl <;> simp only [pre, bitv] <;> simp <;> omega

theorem pre_bound (v : Int) (h0 : 0 ≤ v) (h1 : v ≤ 255) (j : Nat) : 0 ≤ pre v j ∧ pre v j ≤ 255 := by
  unfold pre
  repeat' split
  all_goals omega

theorem pre_eight (v : Int) : pre v 8 = v := by simp [pre]

theorem ret_int {k : IntKind} {a b : Int} (h : a = b) : Ending.returned (.int k a) = .returned (.int k b) := by rw [h]

set_option maxHeartbeats 1600000 in
theorem bit6 (w : World) (b o n cap i j : Nat) (v : Int) (hj : j < 8) (hij : i % 8 = j) (hk : i / 8 < n) (hn : i ≤ 1048576) (hv0 : 0 ≤ v) (hv1 : v ≤ 255) (hc : w.cell? ⟨b, o + i / 8, none⟩ = some (.int .u8 v)) :
    Calls Try.prog 6 #[.slice (some ⟨b, o, none⟩) n cap, .int .i64 i] w fun e w' => e = .returned (.int .u8 (bitv v j)) ∧ w = w' := by
  have h3 : ((i : Int)) / 8 < (n : Int) := by omega
  rcases eight j hj with rfl | rfl | rfl | rfl | rfl | rfl | rfl | rfl
  · have h2 : ((i : Int)) % 8 = 0 := by omega
    clear hij hj
    go_enter Try.func6, Try.ntmps6
    go_wp2
    go_ret
    exact ⟨ret_int (and_one_u8 _ (by omega) (by omega)), rfl⟩
  · have h2 : ((i : Int)) % 8 = 1 := by omega
    clear hij hj
    go_enter Try.func6, Try.ntmps6
    go_wp2
    go_ret
    exact ⟨ret_int (and_one_u8 _ (by omega) (by omega)), rfl⟩
  · have h2 : ((i : Int)) % 8 = 2 := by omega
    clear hij hj
    go_enter Try.func6, Try.ntmps6
    go_wp2
    go_ret
    exact ⟨ret_int (and_one_u8 _ (by omega) (by omega)), rfl⟩
  · have h2 : ((i : Int)) % 8 = 3 := by omega
    clear hij hj
    go_enter Try.func6, Try.ntmps6
    go_wp2
    go_ret
    exact ⟨ret_int (and_one_u8 _ (by omega) (by omega)), rfl⟩
  · have h2 : ((i : Int)) % 8 = 4 := by omega
    clear hij hj
    go_enter Try.func6, Try.ntmps6
    go_wp2
    go_ret
    exact ⟨ret_int (and_one_u8 _ (by omega) (by omega)), rfl⟩
  · have h2 : ((i : Int)) % 8 = 5 := by omega
    clear hij hj
    go_enter Try.func6, Try.ntmps6
    go_wp2
    go_ret
    exact ⟨ret_int (and_one_u8 _ (by omega) (by omega)), rfl⟩
  · have h2 : ((i : Int)) % 8 = 6 := by omega
    clear hij hj
    go_enter Try.func6, Try.ntmps6
    go_wp2
    go_ret
    exact ⟨ret_int (and_one_u8 _ (by omega) (by omega)), rfl⟩
  · have h2 : ((i : Int)) % 8 = 7 := by omega
    clear hij hj
    go_enter Try.func6, Try.ntmps6
    go_wp2
    go_ret
    exact ⟨ret_int (and_one_u8 _ (by omega) (by omega)), rfl⟩

theorem bit5 (w : World) (b o n cap k j : Nat) (x v : Int) (hx : x = 8 * (k : Int) + (j : Int)) (hj : j < 8) (hk : k < n) (hn : n ≤ 65536) (hv0 : 0 ≤ v) (hv1 : v ≤ 255) (hc : w.cell? ⟨b, o + k, none⟩ = some (.int .u8 v)) :
    Calls Try.prog 5 #[.slice (some ⟨b, o, none⟩) n cap, .int .i64 x] w fun e w' => e = .returned (.int .u8 (bitv v j)) ∧ w = w' := by
  obtain rfl : x = ((8 * k + j : Nat) : Int) := by omega
  clear hx
  have e8 : (8 * k + j) / 8 = k := by omega
  have H := bit6 w b o n cap (8 * k + j) j v hj (by omega) (by omega) (by omega) hv0 hv1 (by rw [e8]; exact hc)
  obtain ⟨i, hi⟩ : ∃ i, i = 8 * k + j := ⟨_, rfl⟩
  rw [← hi] at H ⊢
  have HH : Hid (Calls _ _ _ _ _) := H
  clear H hi e8
  go_enter Try.func5, Try.ntmps5
  go_wp2_with fail
  refine Calls.mono HH.out ?_
  rintro e w' ⟨rfl, rfl⟩
  go_wp2
  go_ret
  exact ⟨rfl, rfl⟩
end Go.Proofs.Qxb6623305a
