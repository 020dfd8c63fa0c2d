/-
  FnChargesOfSplitsAtAnyCutAndSumsWhatWasDebited (function 3): where its arguments are outside its bounds. Its bound on lengths (function 8).
-/
import Derived.Test.Qxb6619635aMade
namespace Go.Proofs.Qxb6619635a
open Go.RowKit

set_option maxHeartbeats 800000 in
theorem bytes8_any (a0 a1 a2 : Option Addr) (n0 c0 n1 c1 n2 c2 : Nat) (y : Int) (w : World) :
    Calls Try.prog 8 #[.slice a0 n0 c0, .slice a1 n1 c1, .slice a2 n2 c2, .int .i64 y] w fun e w' => (∃ b, e = .returned (.bool b)) ∧ w = w' := by
  by_cases h0 : n0 ≤ 1048576
  · by_cases h1 : n1 ≤ 1048576
    · by_cases h2 : n2 ≤ 1048576
      · go_enter Try.func8, Try.ntmps8
        go_wp2
        all_goals (go_ret; exact ⟨⟨_, rfl⟩, rfl⟩)
      · go_enter Try.func8, Try.ntmps8
        go_wp2
        all_goals (go_ret; exact ⟨⟨_, rfl⟩, rfl⟩)
    · go_enter Try.func8, Try.ntmps8
      go_wp2
      all_goals (go_ret; exact ⟨⟨_, rfl⟩, rfl⟩)
  · go_enter Try.func8, Try.ntmps8
    go_wp2
    all_goals (go_ret; exact ⟨⟨_, rfl⟩, rfl⟩)

theorem bytes8_yes (a0 a1 a2 : Option Addr) (n0 c0 n1 c1 n2 c2 : Nat) (y : Int) (w : World) (h0 : n0 ≤ 32768) (h1 : n1 ≤ 32768) (h2 : n2 ≤ 32768) :
    Calls Try.prog 8 #[.slice a0 n0 c0, .slice a1 n1 c1, .slice a2 n2 c2, .int .i64 y] w fun e w' => e = .returned (.bool true) ∧ w = w' := by
  go_enter Try.func8, Try.ntmps8
  go_wp2
  go_ret
  exact ⟨rfl, rfl⟩

set_option maxHeartbeats 1600000 in
set_option maxRecDepth 100000 in
theorem law3_out (a0 a1 a2 : Option Addr) (n0 c0 n1 c1 n2 c2 : Nat) (y : Int) (w : World) (h : 32768 < n0 ∨ 32768 < n1 ∨ 32768 < n2 ∨ n1 ≠ n0 ∨ n2 ≠ n0 ∨ y < 0 ∨ (n0 : Int) < y) :
    Calls Try.prog 3 #[.slice a0 n0 c0, .slice a1 n1 c1, .slice a2 n2 c2, .int .i64 y] w fun e w' => e = .returned (.bool true) ∧ w = w' := by
  have HB := bytes8_any a0 a1 a2 n0 c0 n1 c1 n2 c2 y w
  have HH : Hid (Calls _ _ _ _ _) := HB
  clear HB
  by_cases h0 : 32768 < n0
  · clear h
    go_enter Try.func3, Try.ntmps3
    go_wp2_with (go_at_call 8; refine Calls.mono HH.out ?_; rintro e w' ⟨⟨b, rfl⟩, rfl⟩; cases b)
    all_goals (go_ret; exact ⟨rfl, rfl⟩)
  · by_cases h1 : 32768 < n1
    · clear h
      go_enter Try.func3, Try.ntmps3
      go_wp2_with (go_at_call 8; refine Calls.mono HH.out ?_; rintro e w' ⟨⟨b, rfl⟩, rfl⟩; cases b)
      all_goals (go_ret; exact ⟨rfl, rfl⟩)
    · by_cases h2 : 32768 < n2
      · clear h
        go_enter Try.func3, Try.ntmps3
        go_wp2_with (go_at_call 8; refine Calls.mono HH.out ?_; rintro e w' ⟨⟨b, rfl⟩, rfl⟩; cases b)
        all_goals (go_ret; exact ⟨rfl, rfl⟩)
      · by_cases h3 : n1 = n0
        · by_cases h4 : n2 = n0
          · subst h3
            subst h4
            by_cases h5 : y < 0
            · clear h
              go_enter Try.func3, Try.ntmps3
              go_wp2_with (go_at_call 8; refine Calls.mono HH.out ?_; rintro e w' ⟨⟨b, rfl⟩, rfl⟩; cases b)
              all_goals (go_ret; exact ⟨rfl, rfl⟩)
            · have h6 : (n2 : Int) < y := by omega
              clear h
              go_enter Try.func3, Try.ntmps3
              go_wp2_with (go_at_call 8; refine Calls.mono HH.out ?_; rintro e w' ⟨⟨b, rfl⟩, rfl⟩; cases b)
              all_goals (go_ret; exact ⟨rfl, rfl⟩)
          · subst h3
            have h5 : ((n2 : Int) == (n1 : Int)) = false := beq_eq_false_iff_ne.2 (by omega)
            have h6 : ((n2 : Int) != (n1 : Int)) = true := by rw [bne_iff_ne]; omega
            clear h h4
            go_enter Try.func3, Try.ntmps3
            go_wp2_with (go_at_call 8; refine Calls.mono HH.out ?_; rintro e w' ⟨⟨b, rfl⟩, rfl⟩; cases b)
            all_goals (go_ret; exact ⟨rfl, rfl⟩)
        · have h5 : ((n1 : Int) == (n0 : Int)) = false := beq_eq_false_iff_ne.2 (by omega)
          have h6 : ((n1 : Int) != (n0 : Int)) = true := by rw [bne_iff_ne]; omega
          clear h h3
          go_enter Try.func3, Try.ntmps3
          go_wp2_with (go_at_call 8; refine Calls.mono HH.out ?_; rintro e w' ⟨⟨b, rfl⟩, rfl⟩; cases b)
          all_goals (go_ret; exact ⟨rfl, rfl⟩)
end Go.Proofs.Qxb6619635a
