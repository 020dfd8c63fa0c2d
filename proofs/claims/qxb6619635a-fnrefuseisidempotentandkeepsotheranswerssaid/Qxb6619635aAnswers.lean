/-
  zzcB1Answers (function 17) by its contract.
-/
import Derived.Test.Qxb6619635aRefuse
namespace Go.Proofs.Qxb6619635a
open Go.RowKit

theorem Try.info53 : (Try.prog.info? 53).map (fun i => (i.zero, i.size, i.bytes)) = some (some (.agg #[.string ⟨#[]⟩, .int .u32 0, .pointer none, .pointer none]), 4, 40) := by kernel_rfl

/-- The k-th answer of a slice that came in: ten cells. -/
def InAt (w : World) (b o k : Nat) (a : Ans) : Prop :=
  w.cell? ⟨b, o + k * 10, none⟩ = some (.string a.rc) ∧ w.cell? ⟨b, o + k * 10 + 1, none⟩ = some (.int .u32 a.rg) ∧ w.cell? ⟨b, o + k * 10 + 2, none⟩ = some (.bool a.hg) ∧ w.cell? ⟨b, o + k * 10 + 3, none⟩ = some (.int .u32 a.u0) ∧
  w.cell? ⟨b, o + k * 10 + 4, none⟩ = some (.int .u64 a.u1) ∧ w.cell? ⟨b, o + k * 10 + 5, none⟩ = some (.int .u64 a.u2) ∧ w.cell? ⟨b, o + k * 10 + 6, none⟩ = some (.int .u64 a.u3) ∧ w.cell? ⟨b, o + k * 10 + 7, none⟩ = some (.int .u64 a.u4) ∧
  w.cell? ⟨b, o + k * 10 + 8, none⟩ = some (.bool a.hf) ∧ w.cell? ⟨b, o + k * 10 + 9, none⟩ = some (.string a.fa)

/-- n answers of a slice that came in. -/
def InRow (w : World) (b o n : Nat) (A : Nat → Ans) : Prop := b < w.heap.size ∧ ∀ k, k < n → InAt w b o k (A k)

theorem InRow.below {w w' : World} {b o n : Nat} {A : Nat → Ans} (h : InRow w b o n A) (hb : ∀ k, k < w.heap.size → w'.heap[k]? = w.heap[k]?) (hs : w.heap.size ≤ w'.heap.size) : InRow w' b o n A := by
  refine ⟨Nat.lt_of_lt_of_le h.1 hs, fun k hk => ?_⟩
  have e : ∀ i, w'.cell? ⟨b, i, none⟩ = w.cell? ⟨b, i, none⟩ := fun i => World.cell?_of_block (hb b h.1)
  obtain ⟨h0, h1, h2, h3, h4, h5, h6, h7, h8, h9⟩ := h.2 k hk
  exact ⟨(e _).trans h0, (e _).trans h1, (e _).trans h2, (e _).trans h3, (e _).trans h4, (e _).trans h5, (e _).trans h6, (e _).trans h7, (e _).trans h8, (e _).trans h9⟩

def outCells (A : Nat → Ans) (gp fp : Nat → Option Addr) (k : Nat) : List Value := (List.range k).flatMap fun j => [.string (A j).rc, .int .u32 (A j).rg, .pointer (gp j), .pointer (fp j)]

theorem outCells_succ (A : Nat → Ans) (gp fp : Nat → Option Addr) (k : Nat) : outCells A gp fp (k + 1) = outCells A gp fp k ++ [.string (A k).rc, .int .u32 (A k).rg, .pointer (gp k), .pointer (fp k)] := by
  simp [outCells, List.range_succ]

theorem outCells_congr (A : Nat → Ans) (gp fp gp' fp' : Nat → Option Addr) (k : Nat) (hg : ∀ j, j < k → gp' j = gp j) (hf : ∀ j, j < k → fp' j = fp j) : outCells A gp' fp' k = outCells A gp fp k := by
  induction k with
  | zero => rfl
  | succ k ih =>
    rw [outCells_succ, outCells_succ, ih (fun j hj => hg j (by omega)) (fun j hj => hf j (by omega)), hg k (by omega), hf k (by omega)]

theorem outCells_length (A : Nat → Ans) (gp fp : Nat → Option Addr) (k : Nat) : (outCells A gp fp k).length = k * 4 := by
  induction k with
  | zero => rfl
  | succ k ih => rw [outCells_succ, List.length_append, ih]; simp; omega

theorem outCells_get (A : Nat → Ans) (gp fp : Nat → Option Addr) : ∀ m k, k < m → (outCells A gp fp m)[k * 4]? = some (.string (A k).rc) ∧ (outCells A gp fp m)[k * 4 + 1]? = some (.int .u32 (A k).rg) ∧
    (outCells A gp fp m)[k * 4 + 2]? = some (.pointer (gp k)) ∧ (outCells A gp fp m)[k * 4 + 3]? = some (.pointer (fp k)) := by
  intro m
  induction m with
  | zero => intro k hk; omega
  | succ m ih =>
    intro k hk
    rw [outCells_succ]
    have hl := outCells_length A gp fp m
    by_cases h : k < m
    · obtain ⟨h0, h1, h2, h3⟩ := ih k h
      rw [List.getElem?_append_left (by omega), List.getElem?_append_left (by omega), List.getElem?_append_left (by omega), List.getElem?_append_left (by omega)]
      exact ⟨h0, h1, h2, h3⟩
    · have e : k = m := by omega
      subst e
      rw [List.getElem?_append_right (by omega), List.getElem?_append_right (by omega), List.getElem?_append_right (by omega), List.getElem?_append_right (by omega), hl]
      simp

theorem GuAt.wider {w : World} {lo hi hi' : Nat} {a : Ans} {gp : Option Addr} (h : GuAt w lo hi a gp) (hh : hi ≤ hi') : GuAt w lo hi' a gp := by
  rcases h with h | ⟨h0, g, h1, h2, h3, r⟩
  · exact .inl h
  · exact .inr ⟨h0, g, h1, h2, by omega, r⟩
theorem FuAt.wider {w : World} {lo hi hi' : Nat} {a : Ans} {gp : Option Addr} (h : FuAt w lo hi a gp) (hh : hi ≤ hi') : FuAt w lo hi' a gp := by
  rcases h with h | ⟨h0, g, h1, h2, h3, r⟩
  · exact .inl h
  · exact .inr ⟨h0, g, h1, h2, by omega, r⟩

/-- Behind k rounds. -/
def MadeA (w : World) (N n k : Nat) (A : Nat → Ans) (gp fp : Nat → Option Addr) : Prop :=
  w.ownsRow N 53 4 (.slice (some ⟨N, 0, none⟩) k n) k (outCells A gp fp k) ∧ ∀ j, j < k → GuAt w N w.heap.size (A j) (gp j) ∧ FuAt w N w.heap.size (A j) (fp j)

theorem MadeA.start {w : World} {N n : Nat} {A : Nat → Ans} (h : w.ownsRow N 53 4 (.slice (some ⟨N, 0, none⟩) 0 n) 0 []) : MadeA w N n 0 A (fun _ => none) (fun _ => none) :=
  ⟨h, fun j hj => by omega⟩

theorem MadeA.lt {w : World} {N n k : Nat} {A : Nat → Ans} {gp fp : Nat → Option Addr} (h : MadeA w N n k A gp fp) : N < w.heap.size := (h.1.lt N rfl).2

theorem MadeA.step {wr w1 w2 : World} {N n k : Nat} {A : Nat → Ans} {gp fp : Nat → Option Addr} (h : MadeA wr N n k A gp fp) (hb : Below wr.heap.size wr w1) (g f : Option Addr) (hG : GuAt w1 N w1.heap.size (A k) g) (hF : FuAt w1 N w1.heap.size (A k) f)
    (hown : w2.ownsRow N 53 4 (.slice (some ⟨N, 0, none⟩) (k + 1) n) (k + 1) (outCells A gp fp k ++ [.string (A k).rc, .int .u32 (A k).rg, .pointer g, .pointer f])) (hg : w1.grownBy w2 (some N)) :
    MadeA w2 N n (k + 1) A (fun j => if j = k then g else gp j) (fun j => if j = k then f else fp j) := by
  have hs1 := hb.size
  have hs2 := hg.size
  have keep : ∀ b, N < b → b < w1.heap.size → w2.heap[b]? = w1.heap[b]? := fun b h1 h2 => hg.block b h2 (fun e => by have := Option.some.inj e; omega)
  refine ⟨?_, fun j hj => ?_⟩
  · rw [outCells_succ, outCells_congr A gp fp _ _ k (fun j hj => by rw [if_neg (by omega)]) (fun j hj => by rw [if_neg (by omega)])]
    simp only [if_true]
    exact hown
  · by_cases e : j = k
    · subst e
      simp only [if_true]
      exact ⟨(hG.kept keep).wider hs2, (hF.kept keep).wider hs2⟩
    · obtain ⟨a, b⟩ := h.2 j (by omega)
      simp only [if_neg e]
      have old : ∀ b, N < b → b < wr.heap.size → w2.heap[b]? = wr.heap[b]? := fun b h1 h2 => (keep b h1 (by omega)).trans (hb.block b h2)
      exact ⟨(a.kept old).wider (by omega), (b.kept old).wider (by omega)⟩

theorem MadeA.out {w : World} {N n k : Nat} {A : Nat → Ans} {gp fp : Nat → Option Addr} (h : MadeA w N n k A gp fp) : OutRow w N w.heap.size k A := by
  refine ⟨h.lt, fun j hj => ?_⟩
  obtain ⟨a, b⟩ := h.2 j hj
  obtain ⟨c0, c1, c2, c3⟩ := outCells_get A gp fp k j hj
  have d0 := h.1.cells (g := N) rfl _ _ c0
  have d1 := h.1.cells (g := N) rfl _ _ c1
  have d2 := h.1.cells (g := N) rfl _ _ c2
  have d3 := h.1.cells (g := N) rfl _ _ c3
  rw [Addr.add_lit, Nat.zero_add] at d0 d1 d2 d3
  refine ⟨gp j, fp j, d0, d1, d2, d3, a, b, fun i hi => ?_⟩
  rcases h.1.2 with ⟨hv, _⟩ | ⟨g, cap, cur, hv, _, hh, _⟩
  · cases hv
  · simp only [Value.slice.injEq, Option.some.injEq, Addr.mk.injEq] at hv
    obtain ⟨⟨rfl, _⟩, _⟩ := hv
    simp [World.frozen?, hh]

theorem blk (w : World) (o : Obj) (n : Nat) (h : w.heap.size = n) : (w.alloc o).heap[n]? = some o := by
  subst h; exact heap_alloc_new w o
theorem blk_old {w : World} {o' : Obj} {n : Nat} (o : Obj) (h : w.heap[n]? = some o') : (w.alloc o).heap[n]? = some o' :=
  (Below.heap_alloc w o n (Array.getElem?_eq_some_iff.1 h).1).trans h
theorem blk_cell {w : World} {n : Nat} {cur : Array Value} {e : TypeId} (h : w.heap[n]? = some (.cells cur e (0, 0))) (i : Nat) : w.cell? ⟨n, i, none⟩ = cur[i]? := cell_of_row w n i cur e (0, 0) h

theorem cell_new4 (w : World) (a b c d : Value) (t : TypeId) (s : Nat) (hs : w.heap.size = s) : ∀ j u, [a, b, c, d][j]? = some u → (w.alloc (.cells #[a, b, c, d] t)).cell? ((⟨s, 0, none⟩ : Addr).add j) = some u := by
  intro j u hj
  rw [Addr.add_lit, blk_cell (blk w (.cells #[a, b, c, d] t) s hs)]
  simpa using hj
theorem four_cells {a b c d : Value} (h0 : a.oneCell' = true) (h1 : b.oneCell' = true) (h2 : c.oneCell' = true) (h3 : d.oneCell' = true) : ∀ u ∈ [a, b, c, d], u.oneCell' = true := by
  intro u hu
  simp only [List.mem_cons, List.not_mem_nil, or_false] at hu
  rcases hu with rfl | rfl | rfl | rfl <;> assumption

theorem below3 (w : World) (A B C : Obj) : Below w.heap.size w (((w.alloc A).alloc B).alloc C) :=
  (((Below.refl w.heap.size w).alloc (Nat.le_refl _) A).alloc (by rw [World.size_alloc]; omega) B).alloc (by rw [World.size_alloc, World.size_alloc]; omega) C
theorem below4 (w : World) (A B C D : Obj) : Below w.heap.size w ((((w.alloc A).alloc B).alloc C).alloc D) :=
  (below3 w A B C).alloc (by rw [World.size_alloc, World.size_alloc, World.size_alloc]; omega) D
theorem below5 (w : World) (A B C D E : Obj) : Below w.heap.size w (((((w.alloc A).alloc B).alloc C).alloc D).alloc E) :=
  (below4 w A B C D).alloc (by rw [World.size_alloc, World.size_alloc, World.size_alloc, World.size_alloc]; omega) E

theorem third_of_four (w : World) (A B C D : Obj) : ((((w.alloc A).alloc B).alloc C).alloc D).heap[w.heap.size + 1 + 1]? = some C :=
  blk_old D (blk ((w.alloc A).alloc B) C _ (by rw [World.size_alloc, World.size_alloc]))
theorem third_of_five (w : World) (A B C D E : Obj) : (((((w.alloc A).alloc B).alloc C).alloc D).alloc E).heap[w.heap.size + 1 + 1]? = some C :=
  blk_old E (third_of_four w A B C D)
theorem fourth_of_five (w : World) (A B C D E : Obj) : (((((w.alloc A).alloc B).alloc C).alloc D).alloc E).heap[w.heap.size + 1 + 1 + 1]? = some D :=
  blk_old E (blk (((w.alloc A).alloc B).alloc C) D _ (by rw [World.size_alloc, World.size_alloc, World.size_alloc]))

set_option maxHeartbeats 1600000 in
set_option maxRecDepth 100000 in
theorem answers_some (b o n c : Nat) (A : Nat → Ans) (f t : Nat) (w : World) (hft : f ≤ t) (ht : t ≤ n) (hn : n ≤ 65536) (h : InRow w b o n A) :
    Calls Try.prog 17 #[.slice (some ⟨b, o, none⟩) n c, .int .i64 f, .int .i64 t] w fun e w' =>
      e = .returned (.slice (some ⟨w.heap.size, 0, none⟩) (t - f) (t - f)) ∧ Below w.heap.size w w' ∧ OutRow w' w.heap.size w'.heap.size (t - f) (fun j => A (f + j)) := by
  obtain ⟨i0, hi, hz0, hz1, hz2⟩ := info_parts Try.info53
  have HI : Hid (InRow w b o n A) := h
  have hbw := h.1
  clear h
  have hsub : ((t : Int) - (f : Int)) = ((t - f : Nat) : Int) := by omega
  go_enter Try.func17, Try.ntmps17
  go_wp2_with (at_make; refine wpList_make_own _ rfl _ _ 46 rfl w.heap.size 53 i0 (.agg #[.string ⟨#[]⟩, .int .u32 0, .pointer none, .pointer none]) 4 Try.underlying46 hi hz0 hz1 _ _ _ (t - f) rfl rfl (by omega) ?b2 ?b3 (Nat.le_refl _) ?_)
  case b2 => rw [hz2]; omega
  case b3 => unfold maxLen; omega
  intro w0 hown0 hgrow0
  clear hsub
  go_wp2
  go_loopw [7, 8] (fun v i wr => ∃ k : Nat, k ≤ t - f ∧ i = .int .i64 ((f + k : Nat) : Int) ∧ v = .slice (some ⟨w.heap.size, 0, none⟩) k (t - f) ∧ Below w.heap.size w wr ∧ ∃ gp fp, MadeA wr w.heap.size (t - f) k (fun j => A (f + j)) gp fp)
    (fun _ i _ => t - (intOf i).toNat)
  case atStart => exact ⟨0, Nat.zero_le _, rfl, rfl, (Below.refl _ _).grown hgrow0 (Nat.le_refl _) (fun k h => by cases h), _, _, MadeA.start hown0⟩
  case round =>
    obtain ⟨k, hk, rfl, rfl, hbel, gp, fp, hM⟩ := hrel
    have HM : Hid (MadeA wr w.heap.size (t - f) k (fun j => A (f + j)) gp fp) := hM
    clear hM
    have hsz := hbel.size
    by_cases hlt : k < t - f
    · obtain ⟨q, hq⟩ : ∃ q, q = f + k := ⟨_, rfl⟩
      rw [← hq]
      have HQ : Hid (q = f + k) := hq
      have hqt : q < t := by omega
      clear hq
      obtain ⟨x0, x1, x2, x3, x4, x5, x6, x7, x8, x9⟩ := (HI.out.below hbel.block hbel.size).2 q (by omega)
      cases hgu : (A q).hg
      · cases hfu : (A q).hf
        · have HU : Hid ((A q).hg = false) := hgu
          have HV : Hid ((A q).hf = false) := hfu
          rw [hgu] at x2
          rw [hfu] at x8
          clear hgu hfu
          go_wp2_with (at_builtin; refine wpList_append_fits _ rfl _ _ 46 rfl w.heap.size 53 i0 4 Try.underlying46 hi hz1 w.heap.size k (t - f) (outCells (fun j => A (f + j)) gp fp k) rfl (((HM.out.1.alloc _).alloc _).alloc _) ⟨wr.heap.size + 1 + 1, 0, none⟩ 1 1 [.string (A q).rc, .int .u32 (A q).rg, .pointer none, .pointer none] rfl rfl (cell_new4 _ _ _ _ _ _ _ (by rw [World.size_alloc, World.size_alloc])) (four_cells rfl rfl rfl rfl) (by omega) ?_)
          intro w2 hown2 hgrow2
          have hb1 := below3 wr (.cells #[.string (A q).rc, .int .u32 (A q).rg, .bool false, .int .u32 (A q).u0, .int .u64 (A q).u1, .int .u64 (A q).u2, .int .u64 (A q).u3, .int .u64 (A q).u4, .bool false, .string (A q).fa] 45) (.cells #[.string (A q).rc, .int .u32 (A q).rg, .pointer none, .pointer none] 53) (.cells #[.string (A q).rc, .int .u32 (A q).rg, .pointer none, .pointer none] 53)
          have hN := HM.out.lt
          have hM2 : ∃ gp fp, MadeA w2 w.heap.size (t - f) (k + 1) (fun j => A (f + j)) gp fp := by
            skip
            skip
            have e := HQ.out
            subst e
            exact ⟨_, _, HM.out.step hb1 none none (.inl ⟨HU.out, rfl⟩) (.inl ⟨HV.out, rfl⟩) hown2 hgrow2⟩
          have hbel2 := (hbel.trans (hb1.mono hsz)).grown hgrow2 (Nat.le_trans hsz hb1.size) (fun j hj => by cases hj; exact Nat.le_refl _)
          clear hown2 hgrow2 hb1 x0 x1 x2 x3 x4 x5 x6 x7 x8 x9
          have HM2 : Hid (∃ gp fp, MadeA w2 w.heap.size (t - f) (k + 1) (fun j => A (f + j)) gp fp) := hM2
          clear hM2
          go_wp2
          go_roundw
          case rel => exact ⟨k + 1, by omega, congrArg (Value.int .i64) (by have := HQ.out; omega), rfl, hbel2, HM2.out⟩
          case measure => have := HQ.out; simp [intOf]; omega
        · have HU : Hid ((A q).hg = false) := hgu
          have HV : Hid ((A q).hf = true) := hfu
          rw [hgu] at x2
          rw [hfu] at x8
          clear hgu hfu
          go_wp2_with (at_builtin; refine wpList_append_fits _ rfl _ _ 46 rfl w.heap.size 53 i0 4 Try.underlying46 hi hz1 w.heap.size k (t - f) (outCells (fun j => A (f + j)) gp fp k) rfl ((((HM.out.1.alloc _).alloc _).alloc _).alloc _) ⟨wr.heap.size + 1 + 1 + 1, 0, none⟩ 1 1 [.string (A q).rc, .int .u32 (A q).rg, .pointer none, .pointer (some ⟨wr.heap.size + 1 + 1, 0, none⟩)] rfl rfl (cell_new4 _ _ _ _ _ _ _ (by rw [World.size_alloc, World.size_alloc, World.size_alloc])) (four_cells rfl rfl rfl rfl) (by omega) ?_)
          intro w2 hown2 hgrow2
          have hb1 := below4 wr (.cells #[.string (A q).rc, .int .u32 (A q).rg, .bool false, .int .u32 (A q).u0, .int .u64 (A q).u1, .int .u64 (A q).u2, .int .u64 (A q).u3, .int .u64 (A q).u4, .bool true, .string (A q).fa] 45) (.cells #[.string (A q).rc, .int .u32 (A q).rg, .pointer none, .pointer (some ⟨wr.heap.size + 1 + 1, 0, none⟩)] 53) (.cells #[.string (A q).fa] 68) (.cells #[.string (A q).rc, .int .u32 (A q).rg, .pointer none, .pointer (some ⟨wr.heap.size + 1 + 1, 0, none⟩)] 53)
          have hN := HM.out.lt
          have hM2 : ∃ gp fp, MadeA w2 w.heap.size (t - f) (k + 1) (fun j => A (f + j)) gp fp := by
            skip
            have HFB := third_of_four wr (.cells #[.string (A q).rc, .int .u32 (A q).rg, .bool false, .int .u32 (A q).u0, .int .u64 (A q).u1, .int .u64 (A q).u2, .int .u64 (A q).u3, .int .u64 (A q).u4, .bool true, .string (A q).fa] 45) (.cells #[.string (A q).rc, .int .u32 (A q).rg, .pointer none, .pointer (some ⟨wr.heap.size + 1 + 1, 0, none⟩)] 53) (.cells #[.string (A q).fa] 68) (.cells #[.string (A q).rc, .int .u32 (A q).rg, .pointer none, .pointer (some ⟨wr.heap.size + 1 + 1, 0, none⟩)] 53)
            have e := HQ.out
            subst e
            exact ⟨_, _, HM.out.step hb1 none (some ⟨wr.heap.size + 1 + 1, 0, none⟩) (.inl ⟨HU.out, rfl⟩) (.inr ⟨HV.out, wr.heap.size + 1 + 1, rfl, by omega, by rw [World.size_alloc, World.size_alloc, World.size_alloc, World.size_alloc]; omega, blk_cell HFB 0⟩) hown2 hgrow2⟩
          have hbel2 := (hbel.trans (hb1.mono hsz)).grown hgrow2 (Nat.le_trans hsz hb1.size) (fun j hj => by cases hj; exact Nat.le_refl _)
          clear hown2 hgrow2 hb1 x0 x1 x2 x3 x4 x5 x6 x7 x8 x9
          have HM2 : Hid (∃ gp fp, MadeA w2 w.heap.size (t - f) (k + 1) (fun j => A (f + j)) gp fp) := hM2
          clear hM2
          go_wp2
          go_roundw
          case rel => exact ⟨k + 1, by omega, congrArg (Value.int .i64) (by have := HQ.out; omega), rfl, hbel2, HM2.out⟩
          case measure => have := HQ.out; simp [intOf]; omega
      · cases hfu : (A q).hf
        · have HU : Hid ((A q).hg = true) := hgu
          have HV : Hid ((A q).hf = false) := hfu
          rw [hgu] at x2
          rw [hfu] at x8
          clear hgu hfu
          go_wp2_with (at_builtin; refine wpList_append_fits _ rfl _ _ 46 rfl w.heap.size 53 i0 4 Try.underlying46 hi hz1 w.heap.size k (t - f) (outCells (fun j => A (f + j)) gp fp k) rfl ((((HM.out.1.alloc _).alloc _).alloc _).alloc _) ⟨wr.heap.size + 1 + 1 + 1, 0, none⟩ 1 1 [.string (A q).rc, .int .u32 (A q).rg, .pointer (some ⟨wr.heap.size + 1 + 1, 0, none⟩), .pointer none] rfl rfl (cell_new4 _ _ _ _ _ _ _ (by rw [World.size_alloc, World.size_alloc, World.size_alloc])) (four_cells rfl rfl rfl rfl) (by omega) ?_)
          intro w2 hown2 hgrow2
          have hb1 := below4 wr (.cells #[.string (A q).rc, .int .u32 (A q).rg, .bool true, .int .u32 (A q).u0, .int .u64 (A q).u1, .int .u64 (A q).u2, .int .u64 (A q).u3, .int .u64 (A q).u4, .bool false, .string (A q).fa] 45) (.cells #[.string (A q).rc, .int .u32 (A q).rg, .pointer (some ⟨wr.heap.size + 1 + 1, 0, none⟩), .pointer none] 53) (.cells #[.int .u32 (A q).u0, .int .u64 (A q).u1, .int .u64 (A q).u2, .int .u64 (A q).u3, .int .u64 (A q).u4] 65) (.cells #[.string (A q).rc, .int .u32 (A q).rg, .pointer (some ⟨wr.heap.size + 1 + 1, 0, none⟩), .pointer none] 53)
          have hN := HM.out.lt
          have hM2 : ∃ gp fp, MadeA w2 w.heap.size (t - f) (k + 1) (fun j => A (f + j)) gp fp := by
            have HGB := third_of_four wr (.cells #[.string (A q).rc, .int .u32 (A q).rg, .bool true, .int .u32 (A q).u0, .int .u64 (A q).u1, .int .u64 (A q).u2, .int .u64 (A q).u3, .int .u64 (A q).u4, .bool false, .string (A q).fa] 45) (.cells #[.string (A q).rc, .int .u32 (A q).rg, .pointer (some ⟨wr.heap.size + 1 + 1, 0, none⟩), .pointer none] 53) (.cells #[.int .u32 (A q).u0, .int .u64 (A q).u1, .int .u64 (A q).u2, .int .u64 (A q).u3, .int .u64 (A q).u4] 65) (.cells #[.string (A q).rc, .int .u32 (A q).rg, .pointer (some ⟨wr.heap.size + 1 + 1, 0, none⟩), .pointer none] 53)
            skip
            have e := HQ.out
            subst e
            exact ⟨_, _, HM.out.step hb1 (some ⟨wr.heap.size + 1 + 1, 0, none⟩) none (.inr ⟨HU.out, wr.heap.size + 1 + 1, rfl, by omega, by rw [World.size_alloc, World.size_alloc, World.size_alloc, World.size_alloc]; omega, blk_cell HGB 0, blk_cell HGB 1, blk_cell HGB 2, blk_cell HGB 3, blk_cell HGB 4⟩) (.inl ⟨HV.out, rfl⟩) hown2 hgrow2⟩
          have hbel2 := (hbel.trans (hb1.mono hsz)).grown hgrow2 (Nat.le_trans hsz hb1.size) (fun j hj => by cases hj; exact Nat.le_refl _)
          clear hown2 hgrow2 hb1 x0 x1 x2 x3 x4 x5 x6 x7 x8 x9
          have HM2 : Hid (∃ gp fp, MadeA w2 w.heap.size (t - f) (k + 1) (fun j => A (f + j)) gp fp) := hM2
          clear hM2
          go_wp2
          go_roundw
          case rel => exact ⟨k + 1, by omega, congrArg (Value.int .i64) (by have := HQ.out; omega), rfl, hbel2, HM2.out⟩
          case measure => have := HQ.out; simp [intOf]; omega
        · have HU : Hid ((A q).hg = true) := hgu
          have HV : Hid ((A q).hf = true) := hfu
          rw [hgu] at x2
          rw [hfu] at x8
          clear hgu hfu
          go_wp2_with (at_builtin; refine wpList_append_fits _ rfl _ _ 46 rfl w.heap.size 53 i0 4 Try.underlying46 hi hz1 w.heap.size k (t - f) (outCells (fun j => A (f + j)) gp fp k) rfl (((((HM.out.1.alloc _).alloc _).alloc _).alloc _).alloc _) ⟨wr.heap.size + 1 + 1 + 1 + 1, 0, none⟩ 1 1 [.string (A q).rc, .int .u32 (A q).rg, .pointer (some ⟨wr.heap.size + 1 + 1, 0, none⟩), .pointer (some ⟨wr.heap.size + 1 + 1 + 1, 0, none⟩)] rfl rfl (cell_new4 _ _ _ _ _ _ _ (by rw [World.size_alloc, World.size_alloc, World.size_alloc, World.size_alloc])) (four_cells rfl rfl rfl rfl) (by omega) ?_)
          intro w2 hown2 hgrow2
          have hb1 := below5 wr (.cells #[.string (A q).rc, .int .u32 (A q).rg, .bool true, .int .u32 (A q).u0, .int .u64 (A q).u1, .int .u64 (A q).u2, .int .u64 (A q).u3, .int .u64 (A q).u4, .bool true, .string (A q).fa] 45) (.cells #[.string (A q).rc, .int .u32 (A q).rg, .pointer (some ⟨wr.heap.size + 1 + 1, 0, none⟩), .pointer (some ⟨wr.heap.size + 1 + 1 + 1, 0, none⟩)] 53) (.cells #[.int .u32 (A q).u0, .int .u64 (A q).u1, .int .u64 (A q).u2, .int .u64 (A q).u3, .int .u64 (A q).u4] 65) (.cells #[.string (A q).fa] 68) (.cells #[.string (A q).rc, .int .u32 (A q).rg, .pointer (some ⟨wr.heap.size + 1 + 1, 0, none⟩), .pointer (some ⟨wr.heap.size + 1 + 1 + 1, 0, none⟩)] 53)
          have hN := HM.out.lt
          have hM2 : ∃ gp fp, MadeA w2 w.heap.size (t - f) (k + 1) (fun j => A (f + j)) gp fp := by
            have HGB := third_of_five wr (.cells #[.string (A q).rc, .int .u32 (A q).rg, .bool true, .int .u32 (A q).u0, .int .u64 (A q).u1, .int .u64 (A q).u2, .int .u64 (A q).u3, .int .u64 (A q).u4, .bool true, .string (A q).fa] 45) (.cells #[.string (A q).rc, .int .u32 (A q).rg, .pointer (some ⟨wr.heap.size + 1 + 1, 0, none⟩), .pointer (some ⟨wr.heap.size + 1 + 1 + 1, 0, none⟩)] 53) (.cells #[.int .u32 (A q).u0, .int .u64 (A q).u1, .int .u64 (A q).u2, .int .u64 (A q).u3, .int .u64 (A q).u4] 65) (.cells #[.string (A q).fa] 68) (.cells #[.string (A q).rc, .int .u32 (A q).rg, .pointer (some ⟨wr.heap.size + 1 + 1, 0, none⟩), .pointer (some ⟨wr.heap.size + 1 + 1 + 1, 0, none⟩)] 53)
            have HFB := fourth_of_five wr (.cells #[.string (A q).rc, .int .u32 (A q).rg, .bool true, .int .u32 (A q).u0, .int .u64 (A q).u1, .int .u64 (A q).u2, .int .u64 (A q).u3, .int .u64 (A q).u4, .bool true, .string (A q).fa] 45) (.cells #[.string (A q).rc, .int .u32 (A q).rg, .pointer (some ⟨wr.heap.size + 1 + 1, 0, none⟩), .pointer (some ⟨wr.heap.size + 1 + 1 + 1, 0, none⟩)] 53) (.cells #[.int .u32 (A q).u0, .int .u64 (A q).u1, .int .u64 (A q).u2, .int .u64 (A q).u3, .int .u64 (A q).u4] 65) (.cells #[.string (A q).fa] 68) (.cells #[.string (A q).rc, .int .u32 (A q).rg, .pointer (some ⟨wr.heap.size + 1 + 1, 0, none⟩), .pointer (some ⟨wr.heap.size + 1 + 1 + 1, 0, none⟩)] 53)
            have e := HQ.out
            subst e
            exact ⟨_, _, HM.out.step hb1 (some ⟨wr.heap.size + 1 + 1, 0, none⟩) (some ⟨wr.heap.size + 1 + 1 + 1, 0, none⟩) (.inr ⟨HU.out, wr.heap.size + 1 + 1, rfl, by omega, by rw [World.size_alloc, World.size_alloc, World.size_alloc, World.size_alloc, World.size_alloc]; omega, blk_cell HGB 0, blk_cell HGB 1, blk_cell HGB 2, blk_cell HGB 3, blk_cell HGB 4⟩) (.inr ⟨HV.out, wr.heap.size + 1 + 1 + 1, rfl, by omega, by rw [World.size_alloc, World.size_alloc, World.size_alloc, World.size_alloc, World.size_alloc]; omega, blk_cell HFB 0⟩) hown2 hgrow2⟩
          have hbel2 := (hbel.trans (hb1.mono hsz)).grown hgrow2 (Nat.le_trans hsz hb1.size) (fun j hj => by cases hj; exact Nat.le_refl _)
          clear hown2 hgrow2 hb1 x0 x1 x2 x3 x4 x5 x6 x7 x8 x9
          have HM2 : Hid (∃ gp fp, MadeA w2 w.heap.size (t - f) (k + 1) (fun j => A (f + j)) gp fp) := hM2
          clear hM2
          go_wp2
          go_roundw
          case rel => exact ⟨k + 1, by omega, congrArg (Value.int .i64) (by have := HQ.out; omega), rfl, hbel2, HM2.out⟩
          case measure => have := HQ.out; simp [intOf]; omega
    · have hkn : k = t - f := by omega
      have hq : ¬ ((f + k : Nat) : Int) < (t : Int) := by omega
      go_wp2
      go_ret
      subst hkn
      exact ⟨rfl, hbel, HM.out.out⟩
end Go.Proofs.Qxb6619635a
