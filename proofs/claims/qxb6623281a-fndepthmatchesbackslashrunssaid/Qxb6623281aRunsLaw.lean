/-
  FnDepthMatchesBackslashRuns (function 3).
-/
import Derived.Test.Qxb6623281aCopy
namespace Go.Proofs.Qxb6623281a
open Go.RowKit

theorem IsB.below {w w' : World} {a : Option Addr} {n : Nat} {f : Nat → Int} (h : IsB w a n f) (hb : Below w.heap.size w w') : IsB w' a n f := by
  rcases h with h | ⟨b, o, rfl, hbw, hc⟩
  · exact .inl h
  · exact .inr ⟨b, o, rfl, Nat.lt_of_lt_of_le hbw hb.size, fun j hj => (hb.cell (p := ⟨b, o + j, none⟩) hbw).trans (hc j hj)⟩

theorem bytes5_yes (a : Option Addr) (n cap : Nat) (w : World) (hn : n ≤ 1048576) :
    Calls Try.prog 5 #[.slice a n cap] w fun e w' => e = .returned (.bool true) ∧ w = w' := by
  go_enter Try.func5, Try.ntmps5
  go_wp2
  go_ret
  exact ⟨rfl, rfl⟩

theorem bytes5_no (a : Option Addr) (n cap : Nat) (w : World) (hn : 1048576 < n) :
    Calls Try.prog 5 #[.slice a n cap] w fun e w' => e = .returned (.bool false) ∧ w = w' := by
  go_enter Try.func5, Try.ntmps5
  go_wp2
  go_ret
  exact ⟨rfl, rfl⟩

theorem law3 (a : Option Addr) (n cap : Nat) (f : Nat → Int) (w : World) (hz : a = none → n = 0 ∧ cap = 0) (h : IsB w a n f) :
    Calls Try.prog 3 #[.slice a n cap] w fun e w' => e = .returned (.bool true) ∧ Below w.heap.size w w' := by
  by_cases hn : n ≤ 1048576
  · have HI : Hid (IsB w a n f) := h
    have HZ : Hid (a = none → n = 0 ∧ cap = 0) := hz
    clear h hz
    go_enter Try.func3, Try.ntmps3
    go_wp2_with (go_at_call 5; refine (bytes5_yes _ _ _ _ hn).mono ?_; rintro e w' ⟨rfl, rfl⟩)
    refine (copy6 w a n cap f (by omega) HZ.out HI.out).mono ?_
    rintro e w1 ⟨hb1, a1, cap1, rfl, hI1⟩
    have HI1 : Hid (IsB w1 a1 n f) := hI1
    clear hI1
    go_wp2_with fail
    refine (depth7 w1 a1 n cap1 f (by omega) HI1.out).mono ?_
    rintro e w' ⟨rfl, rfl⟩
    go_wp2_with fail
    refine (runs8 w1 a n cap f (by omega) (HI.out.below hb1)).mono ?_
    rintro e w' ⟨rfl, rfl⟩
    go_wp2
    go_ret
    exact ⟨rfl, hb1⟩
  · go_enter Try.func3, Try.ntmps3
    go_wp2_with (go_at_call 5; refine (bytes5_no _ _ _ _ (by omega)).mono ?_; rintro e w' ⟨rfl, rfl⟩)
    go_ret
    exact ⟨rfl, Below.refl _ _⟩

/-- What the walks are told of a slice that came in. -/
theorem bytes_told {w : World} {a : Option Addr} {len cap : Nat} {zs : List Int}
    (h : (a = none ∧ len = 0 ∧ cap = 0 ∧ zs = []) ∨
      ∃ x, a = some x ∧ len ≤ cap ∧ cap ≤ maxLen ∧ zs.length = cap ∧ (∀ i, i < zs.length → w.cell? (x.add i) = some (.int .u8 (zs.getD i 0))) ∧ ∀ n ∈ zs, (Lit.int .u8 n).wf = true) :
    (a = none → len = 0 ∧ cap = 0) ∧ IsB w a len (fun j => zs.getD j 0) := by
  rcases h with ⟨rfl, rfl, rfl, _⟩ | ⟨x, rfl, h1, h2, h3, h4, _⟩
  · exact ⟨fun _ => ⟨rfl, rfl⟩, .inl rfl⟩
  · refine ⟨(fun h => by cases h), ?_⟩
    by_cases h0 : len = 0
    · exact .inl h0
    · obtain ⟨b, off, rfl, hc⟩ := ints_at h4 (by omega)
      exact .inr ⟨b, off, rfl, World.block_lt_of_cell? w _ (hc 0 (by omega)), fun j hj => hc j (by omega)⟩
end Go.Proofs.Qxb6623281a
