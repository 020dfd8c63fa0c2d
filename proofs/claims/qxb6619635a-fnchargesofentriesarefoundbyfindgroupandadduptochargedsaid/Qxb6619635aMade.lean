/-
  What zzcB1TariffGroups and zzcB1Groups have made behind k rounds, as facts on worlds: no walk here.
-/
import Derived.Test.Qxb6619635aFind
namespace Go.Proofs.Qxb6619635a
open Go.RowKit

theorem Try.info35 : (Try.prog.info? 35).map (fun i => (i.zero, i.size, i.bytes)) = some (some (.pointer none), 1, 8) := by kernel_rfl

theorem one_cell {v : Value} (h : v.oneCell' = true) : ∀ u ∈ [v], u.oneCell' = true := by
  intro u hu
  rw [List.mem_singleton.1 hu]
  exact h

theorem cell_new1 (w : World) (x : Value) (t : TypeId) (s : Nat) (hs : w.heap.size = s) : ∀ j u, [x][j]? = some u → (w.alloc (.cells #[x] t)).cell? ((⟨s, 0, none⟩ : Addr).add j) = some u := by
  intro j u hj
  subst hs
  rw [Addr.add_lit, cell_of_row _ w.heap.size (0 + j) #[x] t (0, 0) (heap_alloc_new w _)]
  simpa using hj

/-- Three new blocks: what was there reads as it did. -/
theorem below_three (w : World) (A B C : Obj) : Below w.heap.size w (((w.alloc A).alloc B).alloc C) :=
  (((Below.refl w.heap.size w).alloc (Nat.le_refl _) A).alloc (by rw [World.size_alloc]; omega) B).alloc (by rw [World.size_alloc, World.size_alloc]; omega) C

theorem cell_three_0 (w : World) (a : Array Value) (e : TypeId) (B C : Obj) (i : Nat) : (((w.alloc (.cells a e)).alloc B).alloc C).cell? ⟨w.heap.size, i, none⟩ = a[i]? := by
  refine cell_of_row _ w.heap.size i a e (0, 0) ?_
  rw [Below.heap_alloc _ _ _ (by rw [World.size_alloc, World.size_alloc]; omega), Below.heap_alloc _ _ _ (by rw [World.size_alloc]; omega)]
  exact heap_alloc_new w _

theorem cell_three_1 (w : World) (b : Array Value) (e : TypeId) (A C : Obj) (i : Nat) : (((w.alloc A).alloc (.cells b e)).alloc C).cell? ⟨w.heap.size + 1, i, none⟩ = b[i]? := by
  refine cell_of_row _ (w.heap.size + 1) i b e (0, 0) ?_
  rw [Below.heap_alloc _ _ _ (by rw [World.size_alloc, World.size_alloc]; omega)]
  have := heap_alloc_new (w.alloc A) (.cells b e)
  rw [World.size_alloc] at this
  exact this

/-- Behind k rounds: block N is the row of pointers, with room for n; each group leads to its tariff. -/
def Made (w : World) (N n k : Nat) (P T : Nat → Nat) (rg ch bf : Nat → Int) : Prop :=
  w.ownsRow N 35 1 (.slice (some ⟨N, 0, none⟩) k n) k ((List.range k).map fun j => Value.pointer (some ⟨P j, 0, none⟩)) ∧
  ∀ j, j < k → N < P j ∧ N < T j ∧ w.cell? ⟨P j, 0, none⟩ = some (.pointer (some ⟨T j, 0, none⟩)) ∧ w.cell? ⟨T j, 0, none⟩ = some (.int .u32 (rg j)) ∧
    w.cell? ⟨P j, 3, none⟩ = some (.int .i64 (ch j)) ∧ w.cell? ⟨P j, 6, none⟩ = some (.int .i64 (bf j))

theorem Made.start {w : World} {N n : Nat} {rg ch bf : Nat → Int} (h : w.ownsRow N 35 1 (.slice (some ⟨N, 0, none⟩) 0 n) 0 []) : Made w N n 0 (fun _ => 0) (fun _ => 0) rg ch bf :=
  ⟨by simpa using h, fun j hj => by omega⟩

theorem Made.lt {w : World} {N n k : Nat} {P T : Nat → Nat} {rg ch bf : Nat → Int} (h : Made w N n k P T rg ch bf) : N < w.heap.size :=
  (h.1.lt N rfl).2

/-- One round more: a tariff in block t, a group in block p, and the append. -/
theorem Made.step {wr w1 w2 : World} {N n k p t : Nat} {P T : Nat → Nat} {rg ch bf : Nat → Int} (h : Made wr N n k P T rg ch bf) (hb : Below wr.heap.size wr w1) (hp : wr.heap.size ≤ p) (ht : wr.heap.size ≤ t)
    (c1 : w1.cell? ⟨p, 0, none⟩ = some (.pointer (some ⟨t, 0, none⟩))) (c2 : w1.cell? ⟨t, 0, none⟩ = some (.int .u32 (rg k))) (c3 : w1.cell? ⟨p, 3, none⟩ = some (.int .i64 (ch k))) (c4 : w1.cell? ⟨p, 6, none⟩ = some (.int .i64 (bf k)))
    (hown : w2.ownsRow N 35 1 (.slice (some ⟨N, 0, none⟩) (k + 1) n) (k + 1) (((List.range k).map fun j => Value.pointer (some ⟨P j, 0, none⟩)) ++ [.pointer (some ⟨p, 0, none⟩)])) (hg : w1.grownBy w2 (some N)) :
    Made w2 N n (k + 1) (fun j => if j = k then p else P j) (fun j => if j = k then t else T j) rg ch bf := by
  have hN := h.lt
  have keep : ∀ (a : Addr) (v : Value), N < a.block → w1.cell? a = some v → w2.cell? a = some v := by
    intro a v ha hv
    exact hg.cell hv (fun e => by have := Option.some.inj e; omega)
  refine ⟨?_, ?_⟩
  · have e : ((List.range (k + 1)).map fun j => Value.pointer (some ⟨if j = k then p else P j, 0, none⟩)) = ((List.range k).map fun j => Value.pointer (some ⟨P j, 0, none⟩)) ++ [.pointer (some ⟨p, 0, none⟩)] := by
      rw [List.range_succ, List.map_append]
      congr 1
      · apply List.map_congr_left
        intro j hj
        have := List.mem_range.1 hj
        rw [if_neg (by omega)]
      · simp
    rw [e]
    exact hown
  · intro j hj
    by_cases hjk : j = k
    · subst hjk
      simp only [if_true]
      exact ⟨by omega, by omega, keep _ _ (by show N < p; omega) c1, keep _ _ (by show N < t; omega) c2, keep _ _ (by show N < p; omega) c3, keep _ _ (by show N < p; omega) c4⟩
    · obtain ⟨g1, g2, g3, g4, g5, g6⟩ := h.2 j (by omega)
      simp only [if_neg hjk]
      have old : ∀ (a : Addr) (v : Value), N < a.block → wr.cell? a = some v → w2.cell? a = some v := by
        intro a v ha hv
        exact keep a v ha ((hb.cell (World.block_lt_of_cell? wr a hv)).trans hv)
      exact ⟨g1, g2, old _ _ g1 g3, old _ _ g2 g4, old _ _ g1 g5, old _ _ g1 g6⟩

/-- Behind the last round. -/
theorem Made.groups {w : World} {N n k : Nat} {P T : Nat → Nat} {rg ch bf : Nat → Int} (h : Made w N n k P T rg ch bf) : GroupsAt w N 0 k P T rg ch bf := by
  intro j hj
  obtain ⟨g1, g2, g3, g4, g5, g6⟩ := h.2 j hj
  refine ⟨?_, g3, g4, g5, g6⟩
  have := h.1.cells (g := N) rfl j (.pointer (some ⟨P j, 0, none⟩)) (by simp [hj])
  rw [Addr.add_lit] at this
  exact this

end Go.Proofs.Qxb6619635a
