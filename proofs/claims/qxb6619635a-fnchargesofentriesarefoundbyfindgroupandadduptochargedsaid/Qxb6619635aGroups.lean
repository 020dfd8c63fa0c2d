/-
  zzcB1Groups (function 10) by its contract.
-/
import Derived.Test.Qxb6619635aMade
import Derived.Deep.QuietTactic
import Derived.BigQuiet
namespace Go.Proofs.Qxb6619635a
open Go.RowKit

set_option maxHeartbeats 1600000 in
theorem groups_some (b0 o0 n0 c0 b1 o1 n1 c1 b2 o2 n2 c2 : Nat) (rg ch bf : Nat → Int) (f t : Nat) (w : World) (hft : f ≤ t) (ht : t ≤ 65536) (l0 : t ≤ n0) (l1 : t ≤ n1) (l2 : t ≤ n2) (hb0 : b0 < w.heap.size) (hb1 : b1 < w.heap.size) (hb2 : b2 < w.heap.size)
    (hc0 : ∀ j, j < t → w.cell? ⟨b0, o0 + j, none⟩ = some (.int .u32 (rg j))) (hc1 : ∀ j, j < t → w.cell? ⟨b1, o1 + j, none⟩ = some (.int .i64 (ch j))) (hc2 : ∀ j, j < t → w.cell? ⟨b2, o2 + j, none⟩ = some (.int .i64 (bf j))) :
    Calls Try.prog 10 #[.slice (some ⟨b0, o0, none⟩) n0 c0, .slice (some ⟨b1, o1, none⟩) n1 c1, .slice (some ⟨b2, o2, none⟩) n2 c2, .int .i64 f, .int .i64 t] w fun e w' =>
      e = .returned (.slice (some ⟨w.heap.size, 0, none⟩) (t - f) (t - f)) ∧ Below w.heap.size w w' ∧
      ∃ P T, GroupsAt w' w.heap.size 0 (t - f) P T (fun j => rg (f + j)) (fun j => ch (f + j)) (fun j => bf (f + j)) := by
  obtain ⟨i0, hi, hz0, hz1, hz2⟩ := info_parts Try.info35
  have HC0 : Hid (∀ j, j < t → w.cell? ⟨b0, o0 + j, none⟩ = some (.int .u32 (rg j))) := hc0
  have HC1 : Hid (∀ j, j < t → w.cell? ⟨b1, o1 + j, none⟩ = some (.int .i64 (ch j))) := hc1
  have HC2 : Hid (∀ j, j < t → w.cell? ⟨b2, o2 + j, none⟩ = some (.int .i64 (bf j))) := hc2
  clear hc0 hc1 hc2
  have hsub : ((t : Int) - (f : Int)) = ((t - f : Nat) : Int) := by omega
  go_enter Try.func10, Try.ntmps10
  go_wp2_with (at_make; refine wpList_make_own _ rfl _ _ 27 rfl w.heap.size 35 i0 (.pointer none) 1 Try.underlying27 hi hz0 hz1 _ _ _ (t - f) rfl rfl (by omega) ?b2 ?b3 (Nat.le_refl _) ?_)
  case b2 => rw [hz2]; omega
  case b3 => unfold maxLen; omega
  intro w0 hown0 hgrow0
  clear hsub
  go_wp2
  go_loopw [11, 12] (fun v i wr => ∃ k : Nat, k ≤ t - f ∧ i = .int .i64 ((f + k : Nat) : Int) ∧ v = .slice (some ⟨w.heap.size, 0, none⟩) k (t - f) ∧ Below w.heap.size w wr ∧ ∃ P T, Made wr w.heap.size (t - f) k P T (fun j => rg (f + j)) (fun j => ch (f + j)) (fun j => bf (f + j)))
    (fun _ i _ => t - (intOf i).toNat)
  case atStart => exact ⟨0, Nat.zero_le _, rfl, rfl, (Below.refl _ _).grown hgrow0 (Nat.le_refl _) (fun k h => by cases h), _, _, Made.start hown0⟩
  case round =>
    obtain ⟨k, hk, rfl, rfl, hbel, P, T, hM⟩ := hrel
    have HM : Hid (Made wr w.heap.size (t - f) k P T (fun j => rg (f + j)) (fun j => ch (f + j)) (fun j => bf (f + j))) := hM
    clear hM
    have hsz := hbel.size
    by_cases hlt : k < t - f
    · obtain ⟨q, hq⟩ : ∃ q, q = f + k := ⟨_, rfl⟩
      rw [← hq]
      have HQ : Hid (q = f + k) := hq
      have hqt : q < t := by omega
      clear hq
      have hcx0 : wr.cell? ⟨b0, o0 + q, none⟩ = some (.int .u32 (rg q)) := (hbel.cell (by exact hb0)).trans (HC0.out q hqt)
      have hcx1 : wr.cell? ⟨b1, o1 + q, none⟩ = some (.int .i64 (ch q)) := (hbel.cell (by exact hb1)).trans (HC1.out q hqt)
      have hcx2 : wr.cell? ⟨b2, o2 + q, none⟩ = some (.int .i64 (bf q)) := (hbel.cell (by exact hb2)).trans (HC2.out q hqt)
      have hy1 : b1 < wr.heap.size := by omega
      have hy2 : b2 < wr.heap.size := by omega
      have hq1 : q < n1 := by omega
      have hq2 : q < n2 := by omega
      go_wp2
      go_region
      go_wp2_with (at_builtin; refine wpList_append_fits _ rfl _ _ 27 rfl w.heap.size 35 i0 1 Try.underlying27 hi hz1 w.heap.size k (t - f) _ rfl (((HM.out.1.alloc _).alloc _).alloc _).drew ⟨wr.heap.size + 1 + 1, 0, none⟩ 1 1 [.pointer (some ⟨wr.heap.size + 1, 0, none⟩)] rfl rfl (cell_new1 _ _ _ _ (by rw [World.size_alloc, World.size_alloc])) (one_cell rfl) (by omega) ?_)
      intro w2 hown2 hgrow2
      have hb1 := below_three wr (.cells #[.int .u32 (rg q), .string ⟨#[]⟩, .int .u64 1, .int .i64 0, .int .u64 1] 59) (.cells #[.pointer (some ⟨wr.heap.size, 0, none⟩), .bool false, .int .u64 0, .int .i64 (ch q), .int .i64 0, .bool false, .int .i64 (bf q)] 61) (.cells #[.pointer (some ⟨wr.heap.size + 1, 0, none⟩)] 35)
      have hM2 : ∃ P T, Made w2 w.heap.size (t - f) (k + 1) P T (fun j => rg (f + j)) (fun j => ch (f + j)) (fun j => bf (f + j)) := by
        have e := HQ.out
        subst e
        exact ⟨_, _, HM.out.step (p := wr.heap.size + 1) (t := wr.heap.size) hb1.drew (by omega) (Nat.le_refl _) (cell_three_1 _ _ _ _ _ _) (cell_three_0 _ _ _ _ _ _) (cell_three_1 _ _ _ _ _ _) (cell_three_1 _ _ _ _ _ _) hown2 hgrow2⟩
      have hbel2 := (hbel.trans (hb1.mono hsz)).drew.grown hgrow2 (Nat.le_trans hsz hb1.size) (fun j hj => by cases hj; exact Nat.le_refl _)
      clear hown2 hgrow2 hb1 hcx0 hcx1 hcx2
      have HM2 : Hid (∃ P T, Made w2 w.heap.size (t - f) (k + 1) P T (fun j => rg (f + j)) (fun j => ch (f + j)) (fun j => bf (f + j))) := hM2
      clear hM2
      go_wp2
      go_roundw
      case rel => exact ⟨k + 1, by omega, congrArg (Value.int .i64) (by have := HQ.out; omega), rfl, hbel2, HM2.out⟩
      case measure => have := HQ.out; simp [intOf]; omega
    · have hkn : k = t - f := by omega
      have hq : ¬ ((f + k : Nat) : Int) < (t : Int) := by omega
      go_wp2
      go_ret
      subst hkn
      exact ⟨rfl, hbel, P, T, HM.out.groups⟩

set_option maxHeartbeats 1600000 in
/-- No place from f on to t: whatever the slices are. -/
theorem groups_empty (v0 v1 v2 : Value) (f : Nat) (rg ch bf : Nat → Int) (w : World) (_hf : f ≤ 65536) :
    Calls Try.prog 10 #[v0, v1, v2, .int .i64 f, .int .i64 f] w fun e w' =>
      e = .returned (.slice (some ⟨w.heap.size, 0, none⟩) 0 0) ∧ Below w.heap.size w w' ∧
      ∃ P T, GroupsAt w' w.heap.size 0 0 P T rg ch bf := by
  obtain ⟨i0, hi, hz0, hz1, hz2⟩ := info_parts Try.info35
  have hsub : ((f : Int) - (f : Int)) = ((0 : Nat) : Int) := by omega
  go_enter Try.func10, Try.ntmps10
  go_wp2_with (at_make; refine wpList_make_own _ rfl _ _ 27 rfl w.heap.size 35 i0 (.pointer none) 1 Try.underlying27 hi hz0 hz1 _ _ _ 0 rfl rfl (by omega) ?b2 ?b3 (Nat.le_refl _) ?_)
  case b2 => rw [hz2]; omega
  case b3 => unfold maxLen; omega
  intro w0 hown0 hgrow0
  clear hsub
  go_wp2
  go_loopw [11, 12] (fun v i wr => i = .int .i64 f ∧ v = .slice (some ⟨w.heap.size, 0, none⟩) 0 0 ∧ wr = w0)
    (fun _ i _ => f - (intOf i).toNat)
  case atStart => exact ⟨rfl, rfl, rfl⟩
  case round =>
    obtain ⟨rfl, rfl, rfl⟩ := hrel
    go_wp2
    go_ret
    exact ⟨rfl, (Below.refl _ _).grown hgrow0 (Nat.le_refl _) (fun k h => by cases h), fun _ => 0, fun _ => 0, fun k hk => by omega⟩
end Go.Proofs.Qxb6619635a
