/-
  One answer, as plain data; how it lies in memory as an AnswerB1 (ten cells) and as a MultipleUnitInformation (four cells and what two pointers lead to). zzcB1SameAnswer (function 19) by its contract.
-/
import Derived.Test.Qxb6619635aRows
import Derived.WalkKit
import Derived.ProofKit
import Derived.OpenShut
import Derived.WalkSmall
import Derived.WalkSpells
import Derived.WalkLawsBesides
import Derived.Deep.QuietTactic
import Derived.BigQuiet
import Derived.Deep.RegionWith
namespace Go.Proofs.Qxb6619635a
open Go.RowKit

structure Ans where
  rc : ByteArray
  rg : Int
  hg : Bool
  u0 : Int
  u1 : Int
  u2 : Int
  u3 : Int
  u4 : Int
  hf : Bool
  fa : ByteArray

/-- What the pointer to granted units leads to: blocks between lo and hi. -/
def GuAt (w : World) (lo hi : Nat) (a : Ans) (gp : Option Addr) : Prop :=
  (a.hg = false ∧ gp = none) ∨
  (a.hg = true ∧ ∃ g, gp = some ⟨g, 0, none⟩ ∧ lo < g ∧ g < hi ∧ w.cell? ⟨g, 0, none⟩ = some (.int .u32 a.u0) ∧ w.cell? ⟨g, 1, none⟩ = some (.int .u64 a.u1) ∧ w.cell? ⟨g, 2, none⟩ = some (.int .u64 a.u2) ∧
    w.cell? ⟨g, 3, none⟩ = some (.int .u64 a.u3) ∧ w.cell? ⟨g, 4, none⟩ = some (.int .u64 a.u4))

/-- What the pointer to a final unit indication leads to. -/
def FuAt (w : World) (lo hi : Nat) (a : Ans) (fp : Option Addr) : Prop :=
  (a.hf = false ∧ fp = none) ∨
  (a.hf = true ∧ ∃ g, fp = some ⟨g, 0, none⟩ ∧ lo < g ∧ g < hi ∧ w.cell? ⟨g, 0, none⟩ = some (.string a.fa))

theorem GuAt.kept {w w' : World} {lo hi : Nat} {a : Ans} {gp : Option Addr} (h : GuAt w lo hi a gp) (hk : ∀ b, lo < b → b < hi → w'.heap[b]? = w.heap[b]?) : GuAt w' lo hi a gp := by
  rcases h with h | ⟨h0, g, h1, h2, h3, h4, h5, h6, h7, h8⟩
  · exact .inl h
  · have e : ∀ i, w'.cell? ⟨g, i, none⟩ = w.cell? ⟨g, i, none⟩ := fun i => World.cell?_of_block (hk g h2 h3)
    exact .inr ⟨h0, g, h1, h2, h3, (e _).trans h4, (e _).trans h5, (e _).trans h6, (e _).trans h7, (e _).trans h8⟩

theorem FuAt.kept {w w' : World} {lo hi : Nat} {a : Ans} {fp : Option Addr} (h : FuAt w lo hi a fp) (hk : ∀ b, lo < b → b < hi → w'.heap[b]? = w.heap[b]?) : FuAt w' lo hi a fp := by
  rcases h with h | ⟨h0, g, h1, h2, h3, h4⟩
  · exact .inl h
  · exact .inr ⟨h0, g, h1, h2, h3, (World.cell?_of_block (hk g h2 h3)).trans h4⟩

theorem below_two_drawn (w : World) (A B : Obj) (m n : Nat) : Below w.heap.size w ((((w.alloc A).alloc B).drewN m).drewN n) :=
  below_drewN (below_drewN (((Below.refl w.heap.size w).alloc (Nat.le_refl _) A).alloc (by rw [World.size_alloc]; omega) B) m) n

set_option maxHeartbeats 1600000 in
set_option maxRecDepth 100000 in
/-- Two answers of the same content are the same. -/
theorem same_any (w : World) (a : Ans) (l1 h1 l2 h2 : Nat) (gp fp gp' fp' : Option Addr) (G1 : GuAt w l1 h1 a gp) (F1 : FuAt w l1 h1 a fp) (G2 : GuAt w l2 h2 a gp') (F2 : FuAt w l2 h2 a fp') :
    Calls Try.prog 19 #[.agg #[.string a.rc, .int .u32 a.rg, .pointer gp, .pointer fp], .agg #[.string a.rc, .int .u32 a.rg, .pointer gp', .pointer fp']] w fun e w' => e = .returned (.bool true) ∧ Below w.heap.size w w' := by
  obtain ⟨rc, rg, hg, u0, u1, u2, u3, u4, hf, fa⟩ := a
  rcases G1 with ⟨d1, rfl⟩ | ⟨d1, g1, rfl, -, -, x0, x1, x2, x3, x4⟩
  · rcases G2 with ⟨-, rfl⟩ | ⟨d2, _⟩
    · rcases F1 with ⟨d3, rfl⟩ | ⟨d3, f1, rfl, -, -, z0⟩
      · rcases F2 with ⟨-, rfl⟩ | ⟨d4, _⟩
        · clear d1 d3
          go_enter Try.func19, Try.ntmps19
          go_wp2
          go_quiet (fail)
          go_wp2
          go_quiet (fail)
          go_wp2
          go_ret
          exact ⟨rfl, below_two_drawn _ _ _ _ _⟩
        · rw [d3] at d4; cases d4
      · rcases F2 with ⟨d4, _⟩ | ⟨-, f2, rfl, -, -, z1⟩
        · rw [d3] at d4; cases d4
        · clear d1 d3
          have b1 := World.block_lt_of_cell? w _ z0
          have b2 := World.block_lt_of_cell? w _ z1
          simp only at b1 b2 z0 z1
          go_enter Try.func19, Try.ntmps19
          go_wp2
          go_quiet (fail)
          go_wp2
          go_quiet (fail)
          go_wp2
          go_ret
          exact ⟨rfl, below_two_drawn _ _ _ _ _⟩
    · rw [d1] at d2; cases d2
  · rcases G2 with ⟨d2, _⟩ | ⟨-, g2, rfl, -, -, y0, y1, y2, y3, y4⟩
    · rw [d1] at d2; cases d2
    · have b3 := World.block_lt_of_cell? w _ x0
      have b4 := World.block_lt_of_cell? w _ y0
      simp only at b3 b4 x0 x1 x2 x3 x4 y0 y1 y2 y3 y4
      rcases F1 with ⟨d3, rfl⟩ | ⟨d3, f1, rfl, -, -, z0⟩
      · rcases F2 with ⟨-, rfl⟩ | ⟨d4, _⟩
        · clear d1 d3
          go_enter Try.func19, Try.ntmps19
          go_wp2
          go_quiet (fail)
          go_wp2
          go_quiet (fail)
          go_wp2
          go_ret
          exact ⟨rfl, below_two_drawn _ _ _ _ _⟩
        · rw [d3] at d4; cases d4
      · rcases F2 with ⟨d4, _⟩ | ⟨-, f2, rfl, -, -, z1⟩
        · rw [d3] at d4; cases d4
        · clear d1 d3
          have b1 := World.block_lt_of_cell? w _ z0
          have b2 := World.block_lt_of_cell? w _ z1
          simp only at b1 b2 z0 z1
          go_enter Try.func19, Try.ntmps19
          go_wp2
          go_quiet (fail)
          go_wp2
          go_quiet (fail)
          go_wp2
          go_ret
          exact ⟨rfl, below_two_drawn _ _ _ _ _⟩
end Go.Proofs.Qxb6619635a
