/-
  zzcB1TariffGroups (function 15) by its contract.
-/
import Derived.Test.Qxb6619635aMade
namespace Go.Proofs.Qxb6619635a
open Go.RowKit

set_option maxHeartbeats 800000 in
theorem tariffs (b off n cap : Nat) (rg : Nat → Int) (w : World) (hn : n ≤ 65536) (hb : b < w.heap.size) (hc : ∀ j, j < n → w.cell? ⟨b, off + j, none⟩ = some (.int .u32 (rg j))) :
    Calls Try.prog 15 #[.slice (some ⟨b, off, none⟩) n cap] w fun e w' => e = .returned (.slice (some ⟨w.heap.size, 0, none⟩) n n) ∧ Below w.heap.size w w' ∧
      ∃ P T, GroupsAt w' w.heap.size 0 n P T rg (fun _ => 0) (fun _ => 0) := by
  obtain ⟨i0, hi, hz0, hz1, hz2⟩ := info_parts Try.info35
  have HC : Hid (∀ j, j < n → w.cell? ⟨b, off + j, none⟩ = some (.int .u32 (rg j))) := hc
  clear hc
  go_enter Try.func15, Try.ntmps15
  go_wp2_with (at_make; refine wpList_make_own _ rfl _ _ 27 rfl w.heap.size 35 i0 (.pointer none) 1 Try.underlying27 hi hz0 hz1 _ _ _ n rfl rfl (by omega) ?b2 ?b3 (Nat.le_refl _) ?_)
  case b2 => rw [hz2]; omega
  case b3 => unfold maxLen; omega
  intro w0 hown0 hgrow0
  go_wp2
  go_loopw [3, 4] (fun v i wr => ∃ k : Nat, k ≤ n ∧ i = .int .i64 k ∧ v = .slice (some ⟨w.heap.size, 0, none⟩) k n ∧ Below w.heap.size w wr ∧ ∃ P T, Made wr w.heap.size n k P T rg (fun _ => 0) (fun _ => 0))
    (fun _ i _ => n - (intOf i).toNat)
  case atStart => exact ⟨0, Nat.zero_le _, rfl, rfl, (Below.refl _ _).grown hgrow0 (Nat.le_refl _) (fun k h => by cases h), _, _, Made.start hown0⟩
  case round =>
    obtain ⟨k, hk, rfl, rfl, hbel, P, T, hM⟩ := hrel
    by_cases hlt : k < n
    · have hcx : wr.cell? ⟨b, off + k, none⟩ = some (.int .u32 (rg k)) := (hbel.cell (by exact hb)).trans (HC.out k hlt)
      have HM : Hid (Made wr w.heap.size n k P T rg (fun _ => 0) (fun _ => 0)) := hM
      clear hM
      have hsz := hbel.size
      go_wp2_with (at_builtin; refine wpList_append_fits _ rfl _ _ 27 rfl w.heap.size 35 i0 1 Try.underlying27 hi hz1 w.heap.size k n _ rfl (((HM.out.1.alloc _).alloc _).alloc _) ⟨wr.heap.size + 1 + 1, 0, none⟩ 1 1 [.pointer (some ⟨wr.heap.size + 1, 0, none⟩)] rfl rfl (cell_new1 _ _ _ _ (by rw [World.size_alloc, World.size_alloc])) (one_cell rfl) (by omega) ?_)
      intro w2 hown2 hgrow2
      have hb1 := below_three wr (.cells #[.int .u32 (rg k), .string ⟨#[]⟩, .int .u64 1, .int .i64 0, .int .u64 1] 59) (.cells #[.pointer (some ⟨wr.heap.size, 0, none⟩), .bool false, .int .u64 0, .int .i64 0, .int .i64 0, .bool false, .int .i64 0] 61) (.cells #[.pointer (some ⟨wr.heap.size + 1, 0, none⟩)] 35)
      have hM2 := HM.out.step (p := wr.heap.size + 1) (t := wr.heap.size) hb1 (by omega) (Nat.le_refl _) (cell_three_1 _ _ _ _ _ _) (cell_three_0 _ _ _ _ _ _) (cell_three_1 _ _ _ _ _ _) (cell_three_1 _ _ _ _ _ _) hown2 hgrow2
      have hbel2 := (hbel.trans (hb1.mono hsz)).grown hgrow2 (Nat.le_trans hsz hb1.size) (fun j hj => by cases hj; exact Nat.le_refl _)
      clear hown2 hgrow2 hb1 hcx
      have HM2 : Hid (Made w2 w.heap.size n (k + 1) _ _ rg (fun _ => 0) (fun _ => 0)) := hM2
      clear hM2
      go_wp2
      go_roundw
      case rel => exact ⟨k + 1, by omega, by go_num, rfl, hbel2, _, _, HM2.out⟩
      case measure => simp [intOf]; omega
    · have hkn : k = n := by omega
      subst hkn
      go_wp2
      go_ret
      exact ⟨rfl, hbel, P, T, hM.groups⟩

set_option maxHeartbeats 800000 in
/-- An empty slice, nil or not. -/
theorem tariffs_empty (a : Option Addr) (n cap : Nat) (rg : Nat → Int) (w : World) (hn : n ≤ 0) :
    Calls Try.prog 15 #[.slice a n cap] w fun e w' => e = .returned (.slice (some ⟨w.heap.size, 0, none⟩) n n) ∧ Below w.heap.size w w' ∧
      ∃ P T, GroupsAt w' w.heap.size 0 n P T rg (fun _ => 0) (fun _ => 0) := by
  obtain ⟨i0, hi, hz0, hz1, hz2⟩ := info_parts Try.info35
  go_enter Try.func15, Try.ntmps15
  go_wp2_with (at_make; refine wpList_make_own _ rfl _ _ 27 rfl w.heap.size 35 i0 (.pointer none) 1 Try.underlying27 hi hz0 hz1 _ _ _ n rfl rfl (by omega) ?b2 ?b3 (Nat.le_refl _) ?_)
  case b2 => rw [hz2]; omega
  case b3 => unfold maxLen; omega
  intro w0 hown0 hgrow0
  go_wp2
  go_loopw [3, 4] (fun v i wr => i = .int .i64 0 ∧ v = .slice (some ⟨w.heap.size, 0, none⟩) 0 n ∧ wr = w0)
    (fun _ i _ => n - (intOf i).toNat)
  case atStart => exact ⟨rfl, rfl, rfl⟩
  case round =>
    obtain ⟨rfl, rfl, rfl⟩ := hrel
    have h0 : ¬ (0 : Int) < (n : Int) := by omega
    go_wp2
    go_ret
    have e : 0 = n := by omega
    exact ⟨by subst e; rfl, (Below.refl _ _).grown hgrow0 (Nat.le_refl _) (fun k h => by cases h), fun _ => 0, fun _ => 0, fun k hk => by omega⟩

/-- What the walks are told of a slice that came in. -/
theorem row_cases {k : IntKind} {w : World} {a : Option Addr} {len cap : Nat} {zs : List Int}
    (h : (a = none ∧ len = 0 ∧ cap = 0 ∧ zs = []) ∨
      ∃ x, a = some x ∧ len ≤ cap ∧ cap ≤ maxLen ∧ zs.length = cap ∧ (∀ i, i < zs.length → w.cell? (x.add i) = some (.int k (zs.getD i 0))) ∧ ∀ n ∈ zs, (Lit.int k n).wf = true) :
    len = 0 ∨ ∃ b off, a = some ⟨b, off, none⟩ ∧ b < w.heap.size ∧ ∀ j, j < len → w.cell? ⟨b, off + j, none⟩ = some (.int k (zs.getD j 0)) := by
  rcases h with ⟨_, h, _⟩ | ⟨x, rfl, h1, h2, h3, h4, _⟩
  · exact .inl h
  · by_cases h0 : len = 0
    · exact .inl h0
    · obtain ⟨b, off, rfl, hc⟩ := ints_at h4 (by omega)
      exact .inr ⟨b, off, rfl, World.block_lt_of_cell? w _ (hc 0 (by omega)), fun j hj => hc j (by omega)⟩

theorem tariffs_all (a : Option Addr) (n cap : Nat) (rg : Nat → Int) (w : World) (hn : n ≤ 65536)
    (h : n = 0 ∨ ∃ b off, a = some ⟨b, off, none⟩ ∧ b < w.heap.size ∧ ∀ j, j < n → w.cell? ⟨b, off + j, none⟩ = some (.int .u32 (rg j))) :
    Calls Try.prog 15 #[.slice a n cap] w fun e w' => e = .returned (.slice (some ⟨w.heap.size, 0, none⟩) n n) ∧ Below w.heap.size w w' ∧
      ∃ P T, GroupsAt w' w.heap.size 0 n P T rg (fun _ => 0) (fun _ => 0) := by
  rcases h with h | ⟨b, off, rfl, hb, hc⟩
  · exact tariffs_empty a n cap _ w (by omega)
  · exact tariffs b off n cap rg w hn hb hc
end Go.Proofs.Qxb6619635a
