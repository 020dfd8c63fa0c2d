/-
  FnDepthSplitsAfterQuoteFreePrefix (function 4).
-/
import Derived.Test.Qxb6623281aCopy
namespace Go.Proofs.Qxb6623281a
open Go.RowKit

theorem IsB.below' {w w' : World} {a : Option Addr} {n : Nat} {f : Nat → Int} (h : IsB w a n f) (hb : Below w.heap.size w w') : IsB w' a n f := by
  rcases h with h | ⟨b, o, rfl, hbw, hc⟩
  · exact .inl h
  · exact .inr ⟨b, o, rfl, Nat.lt_of_lt_of_le hbw hb.size, fun j hj => (hb.cell (p := ⟨b, o + j, none⟩) hbw).trans (hc j hj)⟩

theorem bytes9_yes (a b : Option Addr) (n ca m cb : Nat) (w : World) (hn : n + m ≤ 1048576) :
    Calls Try.prog 9 #[.slice a n ca, .slice b m cb] w fun e w' => e = .returned (.bool true) ∧ w = w' := by
  go_enter Try.func9, Try.ntmps9
  go_wp2
  go_ret
  exact ⟨rfl, rfl⟩

theorem bytes9_no (a b : Option Addr) (n ca m cb : Nat) (w : World) (hn : 1048576 < n + m) :
    Calls Try.prog 9 #[.slice a n ca, .slice b m cb] w fun e w' => e = .returned (.bool false) ∧ w = w' := by
  by_cases h1 : 1048576 < n
  · go_enter Try.func9, Try.ntmps9
    go_wp2
    go_ret
    exact ⟨rfl, rfl⟩
  · by_cases h2 : 1048576 < m
    · go_enter Try.func9, Try.ntmps9
      go_wp2
      go_ret
      exact ⟨rfl, rfl⟩
    · go_enter Try.func9, Try.ntmps9
      go_wp2
      go_ret
      exact ⟨rfl, rfl⟩

/-- The first quote, or none. -/
theorem first_quote (f : Nat → Int) : ∀ n : Nat, (∃ k, k < n ∧ f k = 34 ∧ ∀ j, j < k → f j ≠ 34) ∨ ∀ j, j < n → f j ≠ 34 := by
  intro n
  induction n with
  | zero => exact .inr (fun j hj => by omega)
  | succ n ih =>
    rcases ih with ⟨k, hk, h1, h2⟩ | h
    · exact .inl ⟨k, by omega, h1, h2⟩
    · by_cases e : f n = 34
      · exact .inl ⟨n, by omega, e, h⟩
      · refine .inr (fun j hj => ?_)
        by_cases hj' : j = n
        · subst hj'; exact e
        · exact h j (by omega)

set_option maxHeartbeats 1600000 in
set_option maxRecDepth 100000 in
/-- Too long, or a quote in the first part: true. -/
theorem law4_out (a b : Option Addr) (n ca m cb : Nat) (f : Nat → Int) (w : World) (hI : IsB w a n f) (h : 1048576 < n + m ∨ ∃ k, k < n ∧ f k = 34 ∧ ∀ j, j < k → f j ≠ 34) :
    Calls Try.prog 4 #[.slice a n ca, .slice b m cb] w fun e w' => e = .returned (.bool true) ∧ w = w' := by
  by_cases hn : 1048576 < n + m
  · clear h
    go_enter Try.func4, Try.ntmps4
    go_wp2_with (go_at_call 9; refine (bytes9_no _ _ _ _ _ _ _ hn).mono ?_; rintro e w' ⟨rfl, rfl⟩)
    go_ret
    exact ⟨rfl, rfl⟩
  · obtain ⟨k0, hk0, hq, hne⟩ := h.resolve_left hn
    have HQ : Hid (f k0 = 34) := hq
    have HN : Hid (∀ j, j < k0 → f j ≠ 34) := hne
    rcases hI with h0 | ⟨bb, o, rfl, hbw, hc⟩
    · omega
    have HC : Hid (∀ j, j < n → w.cell? ⟨bb, o + j, none⟩ = some (.int .u8 (f j))) := hc
    clear h hq hne hc
    go_enter Try.func4, Try.ntmps4
    go_wp2_with (go_at_call 9; refine (bytes9_yes _ _ _ _ _ _ _ (by omega)).mono ?_; rintro e w' ⟨rfl, rfl⟩)
    go_loop [5] (fun i => ∃ k : Nat, k ≤ k0 ∧ i = .int .i64 k) (fun i => n - (intOf i).toNat)
    case atStart => exact ⟨0, Nat.zero_le _, rfl⟩
    case round =>
      obtain ⟨k, hk, rfl⟩ := hrel
      have hcell := HC.out k (by omega)
      by_cases he : k = k0
      · subst he
        have hb2 : (f k == 34) = true := by simpa using HQ.out
        go_wp2
        go_ret
        exact ⟨rfl, rfl⟩
      · have hb2 : (f k == 34) = false := by simpa using HN.out k (by omega)
        go_wp2
        go_round
        case rel => exact ⟨k + 1, by omega, by go_num⟩
        case measure => simp [intOf]; omega

theorem cat_cells (f g : Nat → Int) (n m j : Nat) (hj : j < n + m) : (byteCells f n ++ byteCells g m)[j]? = some (.int .u8 (cat f g n j)) := by
  by_cases h : j < n
  · rw [List.getElem?_append_left (by rw [byteCells_length]; exact h), byteCells_get f n j h]
    simp [cat, h]
  · rw [List.getElem?_append_right (by rw [byteCells_length]; omega), byteCells_length, byteCells_get g m (j - n) (by omega)]
    simp [cat, h]

/-- The cells of a slice that came in, as the append wants them. -/
theorem IsB.news {w : World} {a : Option Addr} {n : Nat} {f : Nat → Int} (h : IsB w a n f) : ∀ ad, a = some ad → ∀ j u, (byteCells f n)[j]? = some u → w.cell? (ad.add j) = some u := by
  intro ad had j u hj
  have hjn : j < n := by have := (List.getElem?_eq_some_iff.1 hj).1; rwa [byteCells_length] at this
  rcases h with h | ⟨b, o, hx, _, hc⟩
  · omega
  · rw [had] at hx
    obtain rfl := Option.some.inj hx
    rw [byteCells_get f n j hjn] at hj
    obtain rfl := Option.some.inj hj
    rw [Addr.add_lit]
    exact hc j hjn

set_option maxHeartbeats 3200000 in
set_option maxRecDepth 100000 in
theorem law4_main (a b : Option Addr) (n ca m cb : Nat) (f g : Nat → Int) (w : World) (ha : a = none → n = 0 ∧ ca = 0) (hb : b = none → m = 0 ∧ cb = 0) (hI : IsB w a n f) (hJ : IsB w b m g) (hn : n + m ≤ 1048576) (hne : ∀ j, j < n → f j ≠ 34) :
    Calls Try.prog 4 #[.slice a n ca, .slice b m cb] w fun e w' => e = .returned (.bool true) ∧ Below w.heap.size w w' := by
  obtain ⟨i0, hi, hz0, hz1, hz2⟩ := info_parts Try.info5
  have HN : Hid (∀ j, j < n → f j ≠ 34) := hne
  have HI : Hid (IsB w a n f) := hI
  have HJ : Hid (IsB w b m g) := hJ
  have HA : Hid (a = none → n = 0 ∧ ca = 0) := ha
  have HB : Hid (b = none → m = 0 ∧ cb = 0) := hb
  clear ha hb hI hJ hne
  go_enter Try.func4, Try.ntmps4
  go_wp2_with (go_at_call 9; refine (bytes9_yes _ _ _ _ _ _ _ hn).mono ?_; rintro e w' ⟨rfl, rfl⟩)
  go_loop [5] (fun i => ∃ k : Nat, k ≤ n ∧ i = .int .i64 k) (fun i => n - (intOf i).toNat)
  case atStart => exact ⟨0, Nat.zero_le _, rfl⟩
  case round =>
    obtain ⟨k, hk, rfl⟩ := hrel
    by_cases hlt : k < n
    · rcases HI.out with h0 | ⟨bb, o, rfl, hbw, hc⟩
      · omega
      have hcell := hc k hlt
      clear hc
      have hb2 : (f k == 34) = false := by simpa using HN.out k hlt
      go_wp2
      go_round
      case rel => exact ⟨k + 1, by omega, by go_num⟩
      case measure => simp [intOf]; omega
    · have hkn : k = n := by omega
      subst hkn
      clear hk
      go_wp2_with fail
      refine (copy6 w a k ca f (by omega) HA.out HI.out).mono ?_
      rintro e w1 ⟨hb1, a1, ca1, rfl, hI1⟩
      have HI1 : Hid (IsB w1 a1 k f) := hI1
      clear hI1
      go_wp2_with fail
      refine (copy6 w1 b m cb g (by omega) HB.out (HJ.out.below' hb1)).mono ?_
      rintro e w2 ⟨hb2, b2, cb2, rfl, hJ2⟩
      have HJ2 : Hid (IsB w2 b2 m g) := hJ2
      have HI2 : Hid (IsB w2 a1 k f) := HI1.out.below' hb2
      have s1 := hb1.size
      have s2 := hb2.size
      have HB2 : Hid (Below w.heap.size w w2) := hb1.trans (hb2.mono (by omega))
      clear hJ2 HI1 hb1 hb2
      go_wp2_with (at_make; refine wpList_make_own _ rfl _ _ 22 rfl w2.heap.size 5 i0 (.int .u8 0) 1 Try.underlying22 hi hz0 hz1 _ _ _ (k + m) rfl rfl (by omega) ?b2 ?b3 (Nat.le_refl _) ?_)
      case b2 => rw [hz2]; omega
      case b3 => unfold maxLen; omega
      intro w3 hown3 hgrow3
      have hb3 : Below w2.heap.size w2 w3 := (Below.refl _ _).grown hgrow3 (Nat.le_refl _) (fun k h => by cases h)
      have HI3 : Hid (IsB w3 a k f) := (HI.out.below' HB2.out).below' hb3
      have HJ3 : Hid (IsB w3 b m g) := (HJ.out.below' HB2.out).below' hb3
      have HO3 : Hid (w3.ownsRow w2.heap.size 5 1 (.slice (some ⟨w2.heap.size, 0, none⟩) 0 (k + m)) 0 []) := hown3
      have s3 := hb3.size
      clear hown3 hgrow3
      go_wp2_with (at_builtin; refine wpList_append_fits_any _ rfl (.tmp 47) (.tmp 48) 22 rfl w2.heap.size 5 i0 1 Try.underlying22 hi hz1 w2.heap.size 0 (k + m) [] rfl HO3.out a k ca (byteCells f k) rfl (by rw [byteCells_length, Nat.mul_one]) HA.out HI3.out.news (byteCells_one f k) (by omega) ?_)
      intro w4 hown4 hgrow4
      have hb4 : Below w2.heap.size w2 w4 := hb3.grown hgrow4 s3 (fun k h => by cases h; exact Nat.le_refl _)
      have HJ4 : Hid (IsB w4 b m g) := (HJ.out.below' HB2.out).below' hb4
      have HO4 : Hid (w4.ownsRow w2.heap.size 5 1 (.slice (some ⟨w2.heap.size, 0, none⟩) k (k + m)) k (byteCells f k)) := by
        have h4 : w4.ownsRow w2.heap.size 5 1 (.slice (some ⟨w2.heap.size, 0, none⟩) k (k + m)) k (byteCells f k) := by simpa using hown4
        exact h4
      have s4 := hb4.size
      clear hown4 hgrow4 hb3
      go_wp2_with (at_builtin; refine wpList_append_fits_any _ rfl (.tmp 50) (.tmp 51) 22 rfl w2.heap.size 5 i0 1 Try.underlying22 hi hz1 w2.heap.size k (k + m) (byteCells f k) rfl HO4.out b m cb (byteCells g m) rfl (by rw [byteCells_length, Nat.mul_one]) HB.out HJ4.out.news (byteCells_one g m) (by omega) ?_)
      intro w5 hown5 hgrow5
      have hb5 : Below w2.heap.size w2 w5 := hb4.grown hgrow5 s4 (fun k h => by cases h; exact Nat.le_refl _)
      have HK5 : Hid (IsB w5 (some ⟨w2.heap.size, 0, none⟩) (k + m) (cat f g k)) := by
        refine .inr ⟨w2.heap.size, 0, rfl, (hown5.lt _ rfl).2, fun j hj => ?_⟩
        have h5 := hown5.cells (g := w2.heap.size) rfl j _ (cat_cells f g k m j hj)
        rw [Addr.add_lit] at h5
        exact h5
      have HI5 : Hid (IsB w5 a k f) := (HI.out.below' HB2.out).below' hb5
      have HP5 : Hid (IsB w5 a1 k f) := HI2.out.below' hb5
      have HQ5 : Hid (IsB w5 b2 m g) := HJ2.out.below' hb5
      have HB5 : Hid (Below w.heap.size w w5) := HB2.out.trans (hb5.mono (by omega))
      clear hown5 hgrow5 hb5 hb4 HO3 HO4 HI2 HJ2 HI3 HJ3 HJ4 HB2
      go_wp2_with fail
      go_loop [9, 10, 11] (fun so sc i => ∃ q : Nat, q ≤ k ∧ i = .int .i64 q ∧ so = .int .i64 (opens f q : Nat) ∧ sc = .int .i64 (closes f q : Nat)) (fun _ _ i => k - (intOf i).toNat)
      case atStart => exact ⟨0, Nat.zero_le _, rfl, rfl, rfl⟩
      case round =>
        obtain ⟨q, hq, rfl, rfl, rfl⟩ := hrel
        have o1 := opens_le f q
        have o2 := closes_le f q
        by_cases hqk : q < k
        · rcases HI5.out with h0 | ⟨bb, o, rfl, hbw, hc⟩
          · omega
          have hcell := hc q hqk
          clear hc
          have HO : Hid (opens f (q + 1) = opens f q + if f q = 91 ∨ f q = 123 then 1 else 0) := opens_succ f q
          have HC : Hid (closes f (q + 1) = closes f q + if f q = 93 ∨ f q = 125 then 1 else 0) := closes_succ f q
          obtain ⟨c, hcv⟩ : ∃ c, c = f q := ⟨_, rfl⟩
          rw [← hcv] at hcell HO HC
          clear hcv
          by_cases h1 : c = 91 ∨ c = 123
          · have h2 : ¬ (c = 93 ∨ c = 125) := by omega
            have HO2 : Hid (opens f (q + 1) = opens f q + 1) := by have := HO.out; rwa [if_pos h1] at this
            have HC2 : Hid (closes f (q + 1) = closes f q) := by have := HC.out; rwa [if_neg h2] at this
            clear h2 HO HC
            rcases h1 with rfl | rfl
            all_goals
              go_wp2
              go_round
              case rel => exact ⟨q + 1, by omega, by go_num, congrArg (Value.int .i64) (by have := HO2.out; omega), congrArg (Value.int .i64) (by have := HC2.out; omega)⟩
              case measure => simp [intOf]; omega
          · by_cases h2 : c = 93 ∨ c = 125
            · have HO2 : Hid (opens f (q + 1) = opens f q) := by have := HO.out; rwa [if_neg h1] at this
              have HC2 : Hid (closes f (q + 1) = closes f q + 1) := by have := HC.out; rwa [if_pos h2] at this
              clear h1 HO HC
              rcases h2 with rfl | rfl
              all_goals
                go_wp2
                go_round
                case rel => exact ⟨q + 1, by omega, by go_num, congrArg (Value.int .i64) (by have := HO2.out; omega), congrArg (Value.int .i64) (by have := HC2.out; omega)⟩
                case measure => simp [intOf]; omega
            · have HO2 : Hid (opens f (q + 1) = opens f q) := by have := HO.out; rwa [if_neg h1] at this
              have HC2 : Hid (closes f (q + 1) = closes f q) := by have := HC.out; rwa [if_neg h2] at this
              have g1 : (c == 91) = false := beq_eq_false_iff_ne.2 (fun h => h1 (.inl h))
              have g2 : (c == 123) = false := beq_eq_false_iff_ne.2 (fun h => h1 (.inr h))
              have g3 : (c == 93) = false := beq_eq_false_iff_ne.2 (fun h => h2 (.inl h))
              have g4 : (c == 125) = false := beq_eq_false_iff_ne.2 (fun h => h2 (.inr h))
              clear h1 h2 HO HC
              go_wp2
              go_round
              case rel => exact ⟨q + 1, by omega, by go_num, congrArg (Value.int .i64) (by have := HO2.out; omega), congrArg (Value.int .i64) (by have := HC2.out; omega)⟩
              case measure => simp [intOf]; omega
        · have hqe : q = k := by omega
          subst hqe
          clear hq
          have d1 := dst_bound f q
          have d2 := dst_bound g m
          have d3 := dst_split f g q m HN.out
          have d4 := dst_counts f q HN.out
          have t1 : ((dst (cat f g q) (q + m)).1 == (dst f q).1 + (dst g m).1) = true := beq_iff_eq.2 d3
          have t2 : ((dst f q).1 == (opens f q : Int) - (closes f q : Int)) = true := beq_iff_eq.2 (by rw [d4])
          clear d3 d4
          obtain ⟨d1a, d1b⟩ := d1
          obtain ⟨d2a, d2b⟩ := d2
          go_wp2_with fail
          refine (depth7 w5 a1 q ca1 f (by omega) HP5.out).mono ?_
          rintro e w' ⟨rfl, rfl⟩
          go_wp2_with fail
          refine (depth7 w5 b2 m cb2 g (by omega) HQ5.out).mono ?_
          rintro e w' ⟨rfl, rfl⟩
          go_wp2_with fail
          refine (depth7 w5 _ (q + m) (q + m) (cat f g q) (by omega) HK5.out).mono ?_
          rintro e w' ⟨rfl, rfl⟩
          go_wp2
          go_ret
          exact ⟨rfl, HB5.out⟩
end Go.Proofs.Qxb6623281a
