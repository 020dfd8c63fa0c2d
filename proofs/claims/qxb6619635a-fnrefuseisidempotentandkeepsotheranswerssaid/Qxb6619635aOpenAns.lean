/-
  A slice of answers that came in, opened: every element is ten cells of the right kinds.
-/
import Derived.Test.Qxb6619635aAnswers
import Derived.Deep.Slices
namespace Go.Proofs.Qxb6619635a
open Go.RowKit Go.Deep

theorem Try.cells45 : Try.prog.cellsOf 45 = 10 := by kernel_rfl
theorem Try.cells43 : Try.prog.cellsOf 43 = 5 := by kernel_rfl
theorem Try.cells9 : Try.prog.cellsOf 9 = 1 := by kernel_rfl
theorem Try.cells31 : Try.prog.cellsOf 31 = 1 := by kernel_rfl
theorem Try.cells4 : Try.prog.cellsOf 4 = 1 := by kernel_rfl
theorem Try.cells41 : Try.prog.cellsOf 41 = 1 := by kernel_rfl

section
variable {H : Type} {enc : TypeId × Value → H} {w : World} {base : Nat} {spare : Nat → Bool} {held : Bool}

theorem units_of {n : Nat} {c0 c1 c2 c3 c4 : Value} {x : DataW H × List MemPlace} (h : DataW.trod enc Try.prog w base spare held n 43 [c0, c1, c2, c3, c4] = some x) :
    ∃ u0 u1 u2 u3 u4 : Int, c0 = .int .u32 u0 ∧ c1 = .int .u64 u1 ∧ c2 = .int .u64 u2 ∧ c3 = .int .u64 u3 ∧ c4 = .int .u64 u4 := by
  obtain ⟨xs, m, _, _, hl, hxl, hf⟩ := DataW.trod_struct Try.underlying43 h
  match xs, hxl with
  | [y0, y1, y2, y3, y4], _ =>
    have f0 := hf 0 _ rfl
    have f1 := hf 1 _ rfl
    have f2 := hf 2 _ rfl
    have f3 := hf 3 _ rfl
    have f4 := hf 4 _ rfl
    simp [Try.cells31, Try.cells41] at f0 f1 f2 f3 f4
    obtain ⟨u0, e0, _⟩ := DataW.trod_int Try.underlying31 f0
    obtain ⟨u1, e1, _⟩ := DataW.trod_int Try.underlying41 f1
    obtain ⟨u2, e2, _⟩ := DataW.trod_int Try.underlying41 f2
    obtain ⟨u3, e3, _⟩ := DataW.trod_int Try.underlying41 f3
    obtain ⟨u4, e4, _⟩ := DataW.trod_int Try.underlying41 f4
    simp at e0 e1 e2 e3 e4
    exact ⟨u0, u1, u2, u3, u4, e0, e1, e2, e3, e4⟩

theorem ans_of {n : Nat} {cs : List Value} {x : DataW H × List MemPlace} (h : DataW.trod enc Try.prog w base spare held n 45 cs = some x) :
    ∃ a : Ans, cs = [.string a.rc, .int .u32 a.rg, .bool a.hg, .int .u32 a.u0, .int .u64 a.u1, .int .u64 a.u2, .int .u64 a.u3, .int .u64 a.u4, .bool a.hf, .string a.fa] := by
  obtain ⟨xs, m, _, _, hl, hxl, hf⟩ := DataW.trod_struct Try.underlying45 h
  rw [Try.cells45] at hl
  match cs, hl, xs, hxl with
  | [c0, c1, c2, c3, c4, c5, c6, c7, c8, c9], _, [y0, y1, y2, y3, y4, y5], _ =>
    have f0 := hf 0 _ rfl
    have f1 := hf 1 _ rfl
    have f2 := hf 2 _ rfl
    have f3 := hf 3 _ rfl
    have f4 := hf 4 _ rfl
    have f5 := hf 5 _ rfl
    simp [Try.cells9, Try.cells31, Try.cells4, Try.cells43] at f0 f1 f2 f3 f4 f5
    obtain ⟨rc, e0, _⟩ := DataW.trod_string Try.underlying9 f0
    obtain ⟨rg, e1, _⟩ := DataW.trod_int Try.underlying31 f1
    obtain ⟨hg, e2, _⟩ := DataW.trod_bool Try.underlying4 f2
    obtain ⟨u0, u1, u2, u3, u4, k0, k1, k2, k3, k4⟩ := units_of f3
    obtain ⟨hf', e4, _⟩ := DataW.trod_bool Try.underlying4 f4
    obtain ⟨fa, e5, _⟩ := DataW.trod_string Try.underlying9 f5
    simp at e0 e1 e2 e4 e5
    exact ⟨⟨rc, rg, hg, u0, u1, u2, u3, u4, hf', fa⟩, by simp [e0, e1, e2, k0, k1, k2, k3, k4, e4, e5]⟩

/-- The slice opened: nothing in it, or a row of answers. -/
theorem open_answers {fuel : Nat} {a0 : Option Addr} {len cap : Nat} {x : DataW H × List MemPlace} (h : DataW.trod enc Try.prog w base spare held fuel 39 [.slice a0 len cap] = some x) :
    len = 0 ∨ ∃ b o A, a0 = some ⟨b, o, none⟩ ∧ InRow w b o len A := by
  rcases open_slice Try.underlying39 h with ⟨hcs, _⟩ | ⟨a, len', cap', m, n, D, Pl, hcs, _, hl, _, hm, _, hel⟩
  · simp at hcs
    exact .inl hcs.2.1
  · simp only [List.cons.injEq, Value.slice.injEq, and_true] at hcs
    obtain ⟨rfl, rfl, rfl⟩ := hcs
    by_cases h0 : len = 0
    · exact .inl h0
    · right
      have hle : len ≤ m := by rw [hm]; split <;> omega
      rw [Try.cells45] at hel
      have each : ∀ i, i < len → ∃ y : Ans, ∀ j v, [Value.string y.rc, .int .u32 y.rg, .bool y.hg, .int .u32 y.u0, .int .u64 y.u1, .int .u64 y.u2, .int .u64 y.u3, .int .u64 y.u4, .bool y.hf, .string y.fa][j]? = some v → w.cell? ((a.add (i * 10)).add j) = some v := by
        intro i hi
        obtain ⟨cs', h1, h2⟩ := hel i (by omega)
        obtain ⟨y, rfl⟩ := ans_of h2
        obtain ⟨_, _, h3⟩ := World.cells?_some h1
        refine ⟨y, fun j v hj => ?_⟩
        have hj10 : j < 10 := by
          have := (List.getElem?_eq_some_iff.1 hj).1
          simpa using this
        rw [h3 j hj10]
        exact hj
      obtain ⟨b, o, spot⟩ := a
      have hspot : spot = none := by
        obtain ⟨y, hy⟩ := each 0 (by omega)
        have := World.cell?_spot (hy 0 _ rfl)
        simpa [Addr.add] using this
      subst hspot
      have pick : ∃ A : Nat → Ans, ∀ i, i < len → ∀ j v, [Value.string (A i).rc, .int .u32 (A i).rg, .bool (A i).hg, .int .u32 (A i).u0, .int .u64 (A i).u1, .int .u64 (A i).u2, .int .u64 (A i).u3, .int .u64 (A i).u4, .bool (A i).hf, .string (A i).fa][j]? = some v → w.cell? ⟨b, o + i * 10 + j, none⟩ = some v := by
        refine ⟨fun i => if hi : i < len then Classical.choose (each i hi) else ⟨⟨#[]⟩, 0, false, 0, 0, 0, 0, 0, false, ⟨#[]⟩⟩, fun i hi j v hj => ?_⟩
        simp only [dif_pos hi] at hj
        have := Classical.choose_spec (each i hi) j v hj
        rw [Addr.add_lit, Addr.add_lit] at this
        exact this
      obtain ⟨A, hA⟩ := pick
      refine ⟨b, o, A, rfl, ?_, fun k hk => ⟨?_, ?_, ?_, ?_, ?_, ?_, ?_, ?_, ?_, ?_⟩⟩
      · exact World.block_lt_of_cell? w _ (hA 0 (by omega) 0 _ rfl)
      · exact hA k hk 0 _ rfl
      · exact hA k hk 1 _ rfl
      · exact hA k hk 2 _ rfl
      · exact hA k hk 3 _ rfl
      · exact hA k hk 4 _ rfl
      · exact hA k hk 5 _ rfl
      · exact hA k hk 6 _ rfl
      · exact hA k hk 7 _ rfl
      · exact hA k hk 8 _ rfl
      · exact hA k hk 9 _ rfl
end
end Go.Proofs.Qxb6619635a
