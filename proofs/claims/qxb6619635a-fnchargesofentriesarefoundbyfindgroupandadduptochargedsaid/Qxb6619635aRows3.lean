/-
  Three slices that came in, read side by side; the groups made of them; the record extensions of those: contracts in the forms that the two laws on chargesOf want. The sums, as plain numbers.
-/
import Derived.Test.Qxb6619635aGroups
import Derived.Test.Qxb6619635aCharges
namespace Go.Proofs.Qxb6619635a
open Go.RowKit

/-- Three rows of n numbers each. -/
def Rows3 (w : World) (b0 o0 b1 o1 b2 o2 n : Nat) (rg ch bf : Nat → Int) : Prop :=
  (b0 < w.heap.size ∧ b1 < w.heap.size ∧ b2 < w.heap.size) ∧
  ∀ j, j < n → w.cell? ⟨b0, o0 + j, none⟩ = some (.int .u32 (rg j)) ∧ w.cell? ⟨b1, o1 + j, none⟩ = some (.int .i64 (ch j)) ∧ w.cell? ⟨b2, o2 + j, none⟩ = some (.int .i64 (bf j))

theorem Rows3.below {w w' : World} {b0 o0 b1 o1 b2 o2 n : Nat} {rg ch bf : Nat → Int} (h : Rows3 w b0 o0 b1 o1 b2 o2 n rg ch bf) (hb : Below w.heap.size w w') : Rows3 w' b0 o0 b1 o1 b2 o2 n rg ch bf := by
  obtain ⟨⟨h0, h1, h2⟩, hc⟩ := h
  have hs := hb.size
  refine ⟨⟨by omega, by omega, by omega⟩, fun j hj => ?_⟩
  obtain ⟨g0, g1, g2⟩ := hc j hj
  exact ⟨(hb.cell (p := ⟨b0, o0 + j, none⟩) h0).trans g0, (hb.cell (p := ⟨b1, o1 + j, none⟩) h1).trans g1, (hb.cell (p := ⟨b2, o2 + j, none⟩) h2).trans g2⟩

/-- What the walks are told of a slice that came in. -/
theorem row_told {k : IntKind} {w : World} {a : Option Addr} {len cap : Nat} {zs : List Int}
    (h : (a = none ∧ len = 0 ∧ cap = 0 ∧ zs = []) ∨
      ∃ x, a = some x ∧ len ≤ cap ∧ cap ≤ maxLen ∧ zs.length = cap ∧ (∀ i, i < zs.length → w.cell? (x.add i) = some (.int k (zs.getD i 0))) ∧ ∀ n ∈ zs, (Lit.int k n).wf = true) (h0 : 0 < len) :
    ∃ b off, a = some ⟨b, off, none⟩ ∧ b < w.heap.size ∧ ∀ j, j < len → w.cell? ⟨b, off + j, none⟩ = some (.int k (zs.getD j 0)) := by
  rcases h with ⟨_, h, _⟩ | ⟨x, rfl, h1, h2, h3, h4, _⟩
  · omega
  · obtain ⟨b, off, rfl, hc⟩ := ints_at h4 (by omega)
    exact ⟨b, off, rfl, World.block_lt_of_cell? w _ (hc 0 (by omega)), fun j hj => hc j (by omega)⟩

/-- zzcB1Groups from the start. -/
theorem groups_to (b0 o0 n c0 b1 o1 c1 b2 o2 c2 : Nat) (rg ch bf : Nat → Int) (t : Nat) (w : World) (ht : t ≤ n) (hn : n ≤ 65536) (h : Rows3 w b0 o0 b1 o1 b2 o2 n rg ch bf) :
    Calls Try.prog 10 #[.slice (some ⟨b0, o0, none⟩) n c0, .slice (some ⟨b1, o1, none⟩) n c1, .slice (some ⟨b2, o2, none⟩) n c2, .int .i64 0, .int .i64 t] w fun e w' =>
      e = .returned (.slice (some ⟨w.heap.size, 0, none⟩) t t) ∧ Below w.heap.size w w' ∧ ∃ P T, GroupsAt w' w.heap.size 0 t P T rg ch bf := by
  obtain ⟨⟨h0, h1, h2⟩, hc⟩ := h
  have H := groups_some b0 o0 n c0 b1 o1 n c1 b2 o2 n c2 rg ch bf 0 t w (Nat.zero_le _) (by omega) ht ht ht h0 h1 h2 (fun j hj => (hc j (by omega)).1) (fun j hj => (hc j (by omega)).2.1) (fun j hj => (hc j (by omega)).2.2)
  simp only [Nat.sub_zero, Nat.zero_add] at H
  exact H

/-- zzcB1Groups to the end. -/
theorem groups_from (b0 o0 n c0 b1 o1 c1 b2 o2 c2 : Nat) (rg ch bf : Nat → Int) (f : Nat) (w : World) (hf : f ≤ n) (hn : n ≤ 65536) (h : Rows3 w b0 o0 b1 o1 b2 o2 n rg ch bf) :
    Calls Try.prog 10 #[.slice (some ⟨b0, o0, none⟩) n c0, .slice (some ⟨b1, o1, none⟩) n c1, .slice (some ⟨b2, o2, none⟩) n c2, .int .i64 f, .int .i64 n] w fun e w' =>
      e = .returned (.slice (some ⟨w.heap.size, 0, none⟩) (n - f) (n - f)) ∧ Below w.heap.size w w' ∧ ∃ P T, GroupsAt w' w.heap.size 0 (n - f) P T (fun j => rg (f + j)) (fun j => ch (f + j)) (fun j => bf (f + j)) := by
  obtain ⟨⟨h0, h1, h2⟩, hc⟩ := h
  exact groups_some b0 o0 n c0 b1 o1 n c1 b2 o2 n c2 rg ch bf f n w hf hn (Nat.le_refl _) (Nat.le_refl _) (Nat.le_refl _) h0 h1 h2 (fun j hj => (hc j (by omega)).1) (fun j hj => (hc j (by omega)).2.1) (fun j hj => (hc j (by omega)).2.2)

/-- The record extensions in block E: m charges. -/
def ExtAt (w : World) (E C m c : Nat) (rg am : Nat → Int) : Prop :=
  w.cell? ⟨E, 0, none⟩ = some (.slice (some ⟨C, 0, none⟩) m c) ∧ ChargesAt w C m rg am

theorem ExtAt.below {w w' : World} {E C m c : Nat} {rg am : Nat → Int} (hm : 0 < m) (h : ExtAt w E C m c rg am) (hb : Below w.heap.size w w') : ExtAt w' E C m c rg am :=
  ⟨(hb.cell (World.block_lt_of_cell? w _ h.1)).trans h.1, h.2.below hb (World.block_lt_of_cell? w _ (h.2 0 hm).1)⟩

/-- chargesOf over m groups, m not 0. -/
theorem ext_some (w : World) (G m cap : Nat) (P T : Nat → Nat) (rg ch bf am : Nat → Int) (ham : ∀ j, am j = wrap64 (ch j - bf j)) (hm : m ≤ 65536) (hm0 : 0 < m) (hg : GroupsAt w G 0 m P T rg ch bf) :
    Calls Try.prog 9 #[.slice (some ⟨G, 0, none⟩) m cap] w fun e w' => e = .returned (.pointer (some ⟨w.heap.size, 0, none⟩)) ∧ Below w.heap.size w w' ∧ ∃ C c, ExtAt w' w.heap.size C m c rg am := by
  refine (charges9 w G m cap P T rg ch bf hm hm0 hg).mono ?_
  rintro e w' ⟨he, hb, ao, c, h1, h2⟩
  obtain ⟨C, rfl, _, h3⟩ := charges_at hm0 h2
  refine ⟨he, hb, C, c, h1, ?_⟩
  have : am = fun j => wrap64 (ch j - bf j) := funext ham
  rw [this]
  exact h3

/-- The sum of the first k, in int64's wrapping arithmetic. -/
def wsum (f : Nat → Int) : Nat → Int
  | 0 => 0
  | k + 1 => wrap64 (wsum f k + f k)

theorem wsum_sub (ch bf am : Nat → Int) (ham : ∀ j, am j = wrap64 (ch j - bf j)) : ∀ n, wsum am n = wrap64 (wsum ch n - wsum bf n) := by
  intro n
  induction n with
  | zero => simp [wsum, wrap64]
  | succ n ih =>
    simp only [wsum]
    rw [ih, ham n]
    unfold wrap64
    omega
end Go.Proofs.Qxb6619635a
