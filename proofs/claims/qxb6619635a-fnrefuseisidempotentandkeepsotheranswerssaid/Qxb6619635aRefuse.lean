/-
  refuse (function 23) and ZZRefuse (function 18) by contracts.
-/
import Derived.Test.Qxb6619635aAnswer
namespace Go.Proofs.Qxb6619635a
open Go.RowKit

/-- The k-th answer in block N, as a MultipleUnitInformation. -/
def OutAt (w : World) (N hi k : Nat) (a : Ans) : Prop :=
  ∃ gp fp, w.cell? ⟨N, k * 4, none⟩ = some (.string a.rc) ∧ w.cell? ⟨N, k * 4 + 1, none⟩ = some (.int .u32 a.rg) ∧ w.cell? ⟨N, k * 4 + 2, none⟩ = some (.pointer gp) ∧ w.cell? ⟨N, k * 4 + 3, none⟩ = some (.pointer fp) ∧
    GuAt w N hi a gp ∧ FuAt w N hi a fp ∧ ∀ i, i < 4 → w.frozen? ⟨N, k * 4 + i, none⟩ = false

/-- m answers in block N. -/
def OutRow (w : World) (N hi m : Nat) (A : Nat → Ans) : Prop := N < hi ∧ ∀ k, k < m → OutAt w N hi k (A k)

def refused (a : Ans) : Bool := (a.rc.toList == [83, 85, 67, 67, 69, 83, 83]) || (a.rc.toList == [81, 85, 79, 84, 65, 95, 76, 73, 77, 73, 84, 95, 82, 69, 65, 67, 72, 69, 68])

/-- What refuse makes of one answer. -/
def ref (a : Ans) : Ans := if refused a = true then { a with rc := ⟨#[81, 85, 79, 84, 65, 95, 76, 73, 77, 73, 84, 95, 82, 69, 65, 67, 72, 69, 68]⟩, hg := false, hf := false } else a

theorem OutRow.kept {w w' : World} {N hi m : Nat} {A : Nat → Ans} (h : OutRow w N hi m A) (hk : ∀ b, N ≤ b → b < hi → w'.heap[b]? = w.heap[b]?) : OutRow w' N hi m A := by
  refine ⟨h.1, fun k hm => ?_⟩
  obtain ⟨gp, fp, c0, c1, c2, c3, g, f, z⟩ := h.2 k hm
  have e : ∀ i, w'.cell? ⟨N, i, none⟩ = w.cell? ⟨N, i, none⟩ := fun i => World.cell?_of_block (hk N (Nat.le_refl _) h.1)
  have e' : ∀ i, w'.frozen? ⟨N, i, none⟩ = w.frozen? ⟨N, i, none⟩ := fun i => World.frozen?_of_block (hk N (Nat.le_refl _) h.1)
  exact ⟨gp, fp, (e _).trans c0, (e _).trans c1, (e _).trans c2, (e _).trans c3, g.kept (fun b h1 h2 => hk b (by omega) h2), f.kept (fun b h1 h2 => hk b (by omega) h2), fun i hi => (e' _).trans (z i hi)⟩

theorem grown_trans {a b c : World} {row : Option Nat} (h : a.grownBy b row) (k : b.grownBy c row) : a.grownBy c row :=
  ⟨k.os.trans h.os, k.tape.trans h.tape, k.output.trans h.output, Nat.le_trans h.size k.size, fun i hi hne => (k.block i (Nat.lt_of_lt_of_le hi h.size) hne).trans (h.block i hi hne)⟩

theorem grown_set (w : World) (N i : Nat) (v : Value) : w.grownBy (w.setCell ⟨N, i, none⟩ v) (some N) :=
  ⟨rfl, rfl, rfl, by simp [World.setCell], fun k _ hk => Below.heap_setCell w _ v k (fun e => hk (by rw [e]))⟩

theorem grown_four (w : World) (N i : Nat) (a b c d : Value) (o : Obj) :
    w.grownBy (((((w.setCell ⟨N, i, none⟩ a).setCell ⟨N, i + 1, none⟩ b).setCell ⟨N, i + 2, none⟩ c).setCell ⟨N, i + 3, none⟩ d).alloc o) (some N) :=
  grown_trans (grown_trans (grown_trans (grown_trans (grown_set w N i a) (grown_set _ N _ b)) (grown_set _ N _ c)) (grown_set _ N _ d)) (World.grownBy_alloc _ o _)

theorem addr_ne (N i j : Nat) (h : i ≠ j) : (⟨N, i, none⟩ : Addr) ≠ ⟨N, j, none⟩ := fun e => h (by injection e)

/-- Four cells of block N written, and a new block laid: what the other cells hold. -/
theorem cell_four_other (w : World) (N i j : Nat) (a b c d : Value) (o : Obj) (hN : N < w.heap.size) (h : j < i ∨ i + 3 < j) :
    (((((w.setCell ⟨N, i, none⟩ a).setCell ⟨N, i + 1, none⟩ b).setCell ⟨N, i + 2, none⟩ c).setCell ⟨N, i + 3, none⟩ d).alloc o).cell? ⟨N, j, none⟩ = w.cell? ⟨N, j, none⟩ := by
  rw [World.cell?_alloc_past _ _ _ (by simpa [World.setCell] using hN), World.cell?_setCell_other _ _ _ _ (addr_ne N _ _ (by omega)), World.cell?_setCell_other _ _ _ _ (addr_ne N _ _ (by omega)), World.cell?_setCell_other _ _ _ _ (addr_ne N _ _ (by omega)), World.cell?_setCell_other _ _ _ _ (addr_ne N _ _ (by omega))]

theorem cell_four (w : World) (N i : Nat) (a b c d a' b' c' d' : Value) (o : Obj) (hN : N < w.heap.size) (h0 : w.cell? ⟨N, i, none⟩ = some a') (h1 : w.cell? ⟨N, i + 1, none⟩ = some b') (h2 : w.cell? ⟨N, i + 2, none⟩ = some c') (h3 : w.cell? ⟨N, i + 3, none⟩ = some d') :
    (((((w.setCell ⟨N, i, none⟩ a).setCell ⟨N, i + 1, none⟩ b).setCell ⟨N, i + 2, none⟩ c).setCell ⟨N, i + 3, none⟩ d).alloc o).cell? ⟨N, i, none⟩ = some a ∧
    (((((w.setCell ⟨N, i, none⟩ a).setCell ⟨N, i + 1, none⟩ b).setCell ⟨N, i + 2, none⟩ c).setCell ⟨N, i + 3, none⟩ d).alloc o).cell? ⟨N, i + 1, none⟩ = some b ∧
    (((((w.setCell ⟨N, i, none⟩ a).setCell ⟨N, i + 1, none⟩ b).setCell ⟨N, i + 2, none⟩ c).setCell ⟨N, i + 3, none⟩ d).alloc o).cell? ⟨N, i + 2, none⟩ = some c ∧
    (((((w.setCell ⟨N, i, none⟩ a).setCell ⟨N, i + 1, none⟩ b).setCell ⟨N, i + 2, none⟩ c).setCell ⟨N, i + 3, none⟩ d).alloc o).cell? ⟨N, i + 3, none⟩ = some d := by
  have past : ∀ j, (((((w.setCell ⟨N, i, none⟩ a).setCell ⟨N, i + 1, none⟩ b).setCell ⟨N, i + 2, none⟩ c).setCell ⟨N, i + 3, none⟩ d).alloc o).cell? ⟨N, j, none⟩ = ((((w.setCell ⟨N, i, none⟩ a).setCell ⟨N, i + 1, none⟩ b).setCell ⟨N, i + 2, none⟩ c).setCell ⟨N, i + 3, none⟩ d).cell? ⟨N, j, none⟩ :=
    fun j => World.cell?_alloc_past _ _ _ (by simpa [World.setCell] using hN)
  refine ⟨?_, ?_, ?_, ?_⟩
  · rw [past, World.cell?_setCell_other _ _ _ _ (addr_ne N _ _ (by omega)), World.cell?_setCell_other _ _ _ _ (addr_ne N _ _ (by omega)), World.cell?_setCell_other _ _ _ _ (addr_ne N _ _ (by omega))]
    exact World.cell?_setCell_same _ _ _ h0
  · rw [past, World.cell?_setCell_other _ _ _ _ (addr_ne N _ _ (by omega)), World.cell?_setCell_other _ _ _ _ (addr_ne N _ _ (by omega))]
    exact World.cell?_setCell_same _ _ _ ((World.cell?_setCell_other _ _ _ _ (addr_ne N _ _ (by omega))).trans h1)
  · rw [past, World.cell?_setCell_other _ _ _ _ (addr_ne N _ _ (by omega))]
    exact World.cell?_setCell_same _ _ _ ((World.cell?_setCell_other _ _ _ _ (addr_ne N _ _ (by omega))).trans ((World.cell?_setCell_other _ _ _ _ (addr_ne N _ _ (by omega))).trans h2))
  · rw [past]
    exact World.cell?_setCell_same _ _ _ ((World.cell?_setCell_other _ _ _ _ (addr_ne N _ _ (by omega))).trans ((World.cell?_setCell_other _ _ _ _ (addr_ne N _ _ (by omega))).trans ((World.cell?_setCell_other _ _ _ _ (addr_ne N _ _ (by omega))).trans h3)))

theorem frozen_four (w : World) (N i j : Nat) (a b c d : Value) (o : Obj) (hN : N < w.heap.size) :
    (((((w.setCell ⟨N, i, none⟩ a).setCell ⟨N, i + 1, none⟩ b).setCell ⟨N, i + 2, none⟩ c).setCell ⟨N, i + 3, none⟩ d).alloc o).frozen? ⟨N, j, none⟩ = w.frozen? ⟨N, j, none⟩ := by
  rw [World.frozen?_alloc_past _ _ _ (by simpa [World.setCell] using hN), World.frozen?_setCell, World.frozen?_setCell, World.frozen?_setCell, World.frozen?_setCell]

/-- The k-th answer written anew, with two nil pointers. -/
theorem OutRow.put {w : World} {N hi m k : Nat} {A B : Nat → Ans} (h : OutRow w N hi m A) (hh : hi ≤ w.heap.size) (hk : k < m) (hB : ∀ j, j < m → j ≠ k → B j = A j) (hg : (B k).hg = false) (hf : (B k).hf = false) (o : Obj) :
    OutRow (((((w.setCell ⟨N, k * 4, none⟩ (.string (B k).rc)).setCell ⟨N, k * 4 + 1, none⟩ (.int .u32 (B k).rg)).setCell ⟨N, k * 4 + 2, none⟩ (.pointer none)).setCell ⟨N, k * 4 + 3, none⟩ (.pointer none)).alloc o) N hi m B := by
  have hN := h.1
  have hNs : N < w.heap.size := by omega
  have hgr := grown_four w N (k * 4) (.string (B k).rc) (.int .u32 (B k).rg) (.pointer none) (.pointer none) o
  refine ⟨h.1, fun j hj => ?_⟩
  obtain ⟨gp, fp, c0, c1, c2, c3, G, F, z⟩ := h.2 j hj
  by_cases e : j = k
  · subst e
    obtain ⟨d0, d1, d2, d3⟩ := cell_four w N (j * 4) (.string (B j).rc) (.int .u32 (B j).rg) (.pointer none) (.pointer none) _ _ _ _ o hNs c0 c1 c2 c3
    exact ⟨none, none, d0, d1, d2, d3, .inl ⟨hg, rfl⟩, .inl ⟨hf, rfl⟩, fun i hi => (frozen_four w N _ _ _ _ _ _ o hNs).trans (z i hi)⟩
  · rw [hB j hj e]
    have keep : ∀ b, N < b → b < hi → (((((w.setCell ⟨N, k * 4, none⟩ (.string (B k).rc)).setCell ⟨N, k * 4 + 1, none⟩ (.int .u32 (B k).rg)).setCell ⟨N, k * 4 + 2, none⟩ (.pointer none)).setCell ⟨N, k * 4 + 3, none⟩ (.pointer none)).alloc o).heap[b]? = w.heap[b]? :=
      fun b h1 h2 => hgr.block b (by omega) (fun e => by have := Option.some.inj e; omega)
    exact ⟨gp, fp, (cell_four_other w N _ _ _ _ _ _ o hNs (by omega)).trans c0, (cell_four_other w N _ _ _ _ _ _ o hNs (by omega)).trans c1, (cell_four_other w N _ _ _ _ _ _ o hNs (by omega)).trans c2, (cell_four_other w N _ _ _ _ _ _ o hNs (by omega)).trans c3,
      G.kept keep, F.kept keep, fun i hi => (frozen_four w N _ _ _ _ _ _ o hNs).trans (z i hi)⟩

/-- Behind k rounds. -/
def part (A : Nat → Ans) (k j : Nat) : Ans := if j < k then ref (A j) else A j
theorem part_zero (A : Nat → Ans) : part A 0 = A := by funext j; simp [part]
theorem part_at (A : Nat → Ans) (k : Nat) : part A k k = A k := by simp [part]

set_option maxHeartbeats 1600000 in
theorem refuse23 (w : World) (N hi m cap : Nat) (A : Nat → Ans) (hm : m ≤ 65536) (hh : hi ≤ w.heap.size) (h : OutRow w N hi m A) :
    Calls Try.prog 23 #[.slice (some ⟨N, 0, none⟩) m cap] w fun e w' => e = .returned (.tuple #[]) ∧ w.grownBy w' (some N) ∧ OutRow w' N hi m (fun j => ref (A j)) := by
  have HR : Hid (OutRow w N hi m A) := h
  have hN := h.1
  clear h
  go_enter Try.func23, Try.ntmps23
  go_wp2
  go_loopw [6] (fun i wr => ∃ k : Nat, k ≤ m ∧ i = .int .i64 k ∧ w.grownBy wr (some N) ∧ OutRow wr N hi m (part A k))
    (fun i _ => m - (intOf i).toNat)
  case atStart => exact ⟨0, Nat.zero_le _, rfl, World.grownBy.refl _ _, by rw [part_zero]; exact HR.out⟩
  case round =>
    obtain ⟨k, hk, rfl, hg, hO⟩ := hrel
    have HO : Hid (OutRow wr N hi m (part A k)) := hO
    clear hO
    have hsz := hg.size
    by_cases hlt : k < m
    · obtain ⟨gp, fp, c0, c1, c2, c3, G, F, z⟩ := HO.out.2 k hlt
      rw [part_at] at c0 c1 G F
      have z0 := z 0 (by omega)
      have z1 := z 1 (by omega)
      have z2 := z 2 (by omega)
      have z3 := z 3 (by omega)
      rw [Nat.add_zero] at z0
      have HG : Hid (GuAt wr N hi (A k) gp) := G
      have HF : Hid (FuAt wr N hi (A k) fp) := F
      clear z G F
      have hNr : N < wr.heap.size := by omega
      by_cases hr : refused (A k) = true
      · have hp : part A (k + 1) k = ref (A k) := by simp [part]
        have hR : ref (A k) = { A k with rc := ⟨#[81, 85, 79, 84, 65, 95, 76, 73, 77, 73, 84, 95, 82, 69, 65, 67, 72, 69, 68]⟩, hg := false, hf := false } := by unfold ref; rw [if_pos hr]
        have HP : Hid (OutRow _ N hi m (part A (k + 1))) := HO.out.put (k := k) (B := part A (k + 1)) (by omega) hlt (fun j _ hj => by unfold part; by_cases h1 : j < k <;> simp [h1, show (j < k + 1) = (j < k) from by apply propext; omega]) (by rw [hp, hR]) (by rw [hp, hR]) (.cells #[.string (A k).rc, .int .u32 (A k).rg, .pointer gp, .pointer fp] 53)
        rw [hp, hR] at HP
        have HGr : Hid (w.grownBy _ (some N)) := grown_trans hg (grown_four wr N (k * 4) (.string ⟨#[81, 85, 79, 84, 65, 95, 76, 73, 77, 73, 84, 95, 82, 69, 65, 67, 72, 69, 68]⟩) (.int .u32 (A k).rg) (.pointer none) (.pointer none) (.cells #[.string (A k).rc, .int .u32 (A k).rg, .pointer gp, .pointer fp] 53))
        clear hp hR
        simp only [refused, Bool.or_eq_true] at hr
        by_cases h1 : ((A k).rc.toList == [83, 85, 67, 67, 69, 83, 83]) = true
        · clear hr
          go_wp2
          go_roundw
          case rel => exact ⟨k + 1, by omega, by go_num, HGr.out, HP.out⟩
          case measure => simp [intOf]; omega
        · have h2 := hr.resolve_left h1
          have h3 : ((A k).rc.toList == [83, 85, 67, 67, 69, 83, 83]) = false := by simpa using h1
          clear hr h1
          go_wp2
          go_roundw
          case rel => exact ⟨k + 1, by omega, by go_num, HGr.out, HP.out⟩
          case measure => simp [intOf]; omega
      · have hrf : refused (A k) = false := by simpa using hr
        have hp : part A (k + 1) = part A k := by
          funext j
          unfold part
          by_cases h1 : j < k
          · simp [h1, show j < k + 1 by omega]
          · by_cases h2 : j = k
            · subst h2; simp [ref, hrf]
            · simp [h1, show ¬ j < k + 1 by omega]
        have HP : Hid (OutRow (wr.alloc (.cells #[.string (A k).rc, .int .u32 (A k).rg, .pointer gp, .pointer fp] 53)) N hi m (part A (k + 1))) := by
          rw [hp]
          exact HO.out.kept (fun b h1 h2 => Below.heap_alloc _ _ _ (by omega))
        have HGr : Hid (w.grownBy (wr.alloc (.cells #[.string (A k).rc, .int .u32 (A k).rg, .pointer gp, .pointer fp] 53)) (some N)) := grown_trans hg (World.grownBy_alloc _ _ _)
        clear hp hr
        simp only [refused, Bool.or_eq_false_iff] at hrf
        obtain ⟨h1, h2⟩ := hrf
        go_wp2
        go_roundw
        case rel => exact ⟨k + 1, by omega, by go_num, HGr.out, HP.out⟩
        case measure => simp [intOf]; omega
    · have hkm : k = m := by omega
      subst hkm
      go_wp2
      go_end0
      refine ⟨rfl, hg, ?_⟩
      have e : OutRow wr N hi k (part A k) := HO.out
      exact ⟨e.1, fun j hj => by have := e.2 j hj; unfold part at this; rw [if_pos hj] at this; exact this⟩

theorem refuse18 (w : World) (N hi m cap : Nat) (A : Nat → Ans) (hm : m ≤ 65536) (hh : hi ≤ w.heap.size) (h : OutRow w N hi m A) :
    Calls Try.prog 18 #[.slice (some ⟨N, 0, none⟩) m cap] w fun e w' => e = .returned (.tuple #[]) ∧ w.grownBy w' (some N) ∧ OutRow w' N hi m (fun j => ref (A j)) := by
  have H := refuse23 w N hi m cap A hm hh h
  have HH : Hid (Calls _ _ _ _ _) := H
  clear H h
  go_enter Try.func18, Try.ntmps18
  go_wp2_with fail
  refine Calls.mono HH.out ?_
  rintro e w' ⟨rfl, h1, h2⟩
  have H2 : Hid (OutRow w' N hi m (fun j => ref (A j))) := h2
  clear h2
  go_wp2
  go_end0
  exact ⟨rfl, h1, H2.out⟩
end Go.Proofs.Qxb6619635a
