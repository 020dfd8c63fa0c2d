/-
  depth (function 10), ZZdepth (function 7) and zzJdB1DepthByRuns (function 8) by contracts.
-/
import Derived.Test.Qxb6623281aRows
import Derived.Test.Qxb6623281aPlain
import Derived.WalkKit
import Derived.ProofKit
import Derived.OpenShut
namespace Go.Proofs.Qxb6623281a
open Go.RowKit

/-- n bytes behind a slice's address (no address is asked for where there is no byte). -/
def IsB (w : World) (a : Option Addr) (n : Nat) (f : Nat → Int) : Prop :=
  n = 0 ∨ ∃ b o, a = some ⟨b, o, none⟩ ∧ b < w.heap.size ∧ ∀ j, j < n → w.cell? ⟨b, o + j, none⟩ = some (.int .u8 (f j))

theorem ret_int {k : IntKind} {a b : Int} (h : a = b) : Ending.returned (.int k a) = .returned (.int k b) := by rw [h]

set_option maxHeartbeats 1600000 in
theorem depth10 (w : World) (a : Option Addr) (n cap : Nat) (f : Nat → Int) (hn : n ≤ 4194304) (h : IsB w a n f) :
    Calls Try.prog 10 #[.slice a n cap] w fun e w' => e = .returned (.int .i64 (dst f n).1) ∧ w = w' := by
  have HI : Hid (IsB w a n f) := h
  clear h
  go_enter Try.func10, Try.ntmps10
  go_wp2
  go_loop [3, 4, 5, 10] (fun so si se i => ∃ (k : Nat) (o : Int) (q e : Bool), k ≤ n ∧ Hid (dst f k = (o, q, e)) ∧ i = .int .i64 k ∧ so = .int .i64 o ∧ si = .bool q ∧ se = .bool e)
    (fun _ _ _ i => n - (intOf i).toNat)
  case atStart => exact ⟨0, 0, false, false, Nat.zero_le _, rfl, rfl, rfl, rfl, rfl⟩
  case round =>
    obtain ⟨k, o, q, e, hk, HS, rfl, rfl, rfl, rfl⟩ := hrel
    have hb := dst_bound f k
    rw [HS.out] at hb
    simp only at hb
    obtain ⟨hb1, hb2⟩ := hb
    by_cases hlt : k < n
    · rcases HI.out with h0 | ⟨b, off, rfl, hbw, hcell⟩
      · omega
      have hc := hcell k hlt
      clear hcell
      obtain ⟨c, hcv⟩ : ∃ c, c = f k := ⟨_, rfl⟩
      rw [← hcv] at hc
      have HN : Hid (dst f (k + 1) = dstep c (o, q, e)) := by rw [hcv, dst_succ, HS.out]; rfl
      clear hcv
      cases q
      · by_cases h34 : c = 34
        · subst h34
          go_wp2
          go_round
          case rel => exact ⟨k + 1, o, true, e, by omega, HN.out.trans (step_out_quote o e), by go_num, rfl, rfl, rfl⟩
          case measure => simp [intOf]; omega
        · by_cases h91 : c = 91
          · subst h91
            go_wp2
            go_round
            case rel => exact ⟨k + 1, o + 1, false, e, by omega, HN.out.trans (step_out_open o _ e (.inl rfl)), by go_num, rfl, rfl, rfl⟩
            case measure => simp [intOf]; omega
          · by_cases h123 : c = 123
            · subst h123
              go_wp2
              go_round
              case rel => exact ⟨k + 1, o + 1, false, e, by omega, HN.out.trans (step_out_open o _ e (.inr rfl)), by go_num, rfl, rfl, rfl⟩
              case measure => simp [intOf]; omega
            · by_cases h93 : c = 93
              · subst h93
                go_wp2
                go_round
                case rel => exact ⟨k + 1, o - 1, false, e, by omega, HN.out.trans (step_out_close o _ e (.inl rfl)), by go_num, rfl, rfl, rfl⟩
                case measure => simp [intOf]; omega
              · by_cases h125 : c = 125
                · subst h125
                  go_wp2
                  go_round
                  case rel => exact ⟨k + 1, o - 1, false, e, by omega, HN.out.trans (step_out_close o _ e (.inr rfl)), by go_num, rfl, rfl, rfl⟩
                  case measure => simp [intOf]; omega
                · have HQ : Hid (dstep c (o, false, e) = (o, false, e)) := step_out_other o c e h34 h91 h123 h93 h125
                  have g1 : (c == 34) = false := beq_eq_false_iff_ne.2 h34
                  have g2 : (c == 91) = false := beq_eq_false_iff_ne.2 h91
                  have g3 : (c == 123) = false := beq_eq_false_iff_ne.2 h123
                  have g4 : (c == 93) = false := beq_eq_false_iff_ne.2 h93
                  have g5 : (c == 125) = false := beq_eq_false_iff_ne.2 h125
                  clear h34 h91 h123 h93 h125
                  go_wp2
                  go_round
                  case rel => exact ⟨k + 1, o, false, e, by omega, HN.out.trans HQ.out, by go_num, rfl, rfl, rfl⟩
                  case measure => simp [intOf]; omega
      · cases e
        · by_cases h34 : c = 34
          · subst h34
            go_wp2
            go_round
            case rel => exact ⟨k + 1, o, false, false, by omega, HN.out.trans (step_in_quote o), by go_num, rfl, rfl, rfl⟩
            case measure => simp [intOf]; omega
          · by_cases h92 : c = 92
            · subst h92
              go_wp2
              go_round
              case rel => exact ⟨k + 1, o, true, true, by omega, HN.out.trans (step_in_back o), by go_num, rfl, rfl, rfl⟩
              case measure => simp [intOf]; omega
            · have HQ : Hid (dstep c (o, true, false) = (o, true, false)) := step_in_other o c h34 h92
              have g1 : (c == 34) = false := beq_eq_false_iff_ne.2 h34
              have g2 : (c == 92) = false := beq_eq_false_iff_ne.2 h92
              have g3 : (c != 34) = true := by rw [bne_iff_ne]; exact h34
              clear h34 h92
              go_wp2
              go_round
              case rel => exact ⟨k + 1, o, true, false, by omega, HN.out.trans HQ.out, by go_num, rfl, rfl, rfl⟩
              case measure => simp [intOf]; omega
        · go_wp2
          go_round
          case rel => exact ⟨k + 1, o, true, false, by omega, HN.out.trans (step_in_esc o c), by go_num, rfl, rfl, rfl⟩
          case measure => simp [intOf]; omega
    · have hkn : k = n := by omega
      subst hkn
      go_wp2
      go_ret
      have e1 : (dst f k).1 = o := by rw [HS.out]
      exact ⟨ret_int e1.symm, rfl⟩

theorem depth7 (w : World) (a : Option Addr) (n cap : Nat) (f : Nat → Int) (hn : n ≤ 4194304) (h : IsB w a n f) :
    Calls Try.prog 7 #[.slice a n cap] w fun e w' => e = .returned (.int .i64 (dst f n).1) ∧ w = w' := by
  have H := depth10 w a n cap f hn h
  have HH : Hid (Calls _ _ _ _ _) := H
  clear H h
  go_enter Try.func7, Try.ntmps7
  go_wp2_with fail
  refine Calls.mono HH.out ?_
  rintro e w' ⟨rfl, rfl⟩
  go_wp2
  go_ret
  exact ⟨rfl, rfl⟩

theorem dst_in_run (o c : Int) (m : Nat) (h : ¬ (c = 34 ∧ m % 2 = 0)) : dstep c (o, true, decide (m % 2 = 1)) = (o, true, decide ((if c = 92 then m + 1 else 0) % 2 = 1)) := by
  by_cases hm : m % 2 = 1
  · have e : decide (m % 2 = 1) = true := decide_eq_true hm
    rw [e, step_in_esc]
    have : ¬ (if c = 92 then m + 1 else 0) % 2 = 1 := by split <;> omega
    rw [decide_eq_false this]
  · have e : decide (m % 2 = 1) = false := decide_eq_false hm
    have h34 : c ≠ 34 := fun hc => h ⟨hc, by omega⟩
    rw [e]
    by_cases h92 : c = 92
    · subst h92
      rw [step_in_back]
      rw [if_pos rfl, decide_eq_true (by omega)]
    · rw [step_in_other o c h34 h92, if_neg h92]
      rfl

set_option maxHeartbeats 3200000 in
theorem runs8 (w : World) (a : Option Addr) (n cap : Nat) (f : Nat → Int) (hn : n ≤ 4194304) (h : IsB w a n f) :
    Calls Try.prog 8 #[.slice a n cap] w fun e w' => e = .returned (.int .i64 (dst f n).1) ∧ w = w' := by
  have HI : Hid (IsB w a n f) := h
  clear h
  go_enter Try.func8, Try.ntmps8
  go_wp2
  go_loop [3, 4] (fun so i => ∃ (q : Nat) (o : Int), q ≤ n + 1 ∧ i = .int .i64 q ∧ so = .int .i64 o ∧ -(n : Int) ≤ o ∧ o ≤ (n : Int) ∧ Hid ((q ≤ n ∧ dst f q = (o, false, false)) ∨ (q = n + 1 ∧ (dst f n).1 = o)))
    (fun _ i => n + 1 - (intOf i).toNat)
  case atStart => exact ⟨0, 0, by omega, rfl, rfl, by omega, by omega, .inl ⟨Nat.zero_le _, rfl⟩⟩
  case round =>
    obtain ⟨q, o, hq, rfl, rfl, ho1, ho2, HS⟩ := hrel
    by_cases hlt : q < n
    · have HS2 : Hid (dst f q = (o, false, false)) := by
        rcases HS.out with ⟨_, h⟩ | ⟨h, _⟩
        · exact h
        · omega
      have hb := dst_bound f q
      rw [HS2.out] at hb
      simp only at hb
      obtain ⟨hb1, hb2⟩ := hb
      rcases HI.out with h0 | ⟨b, off, rfl, hbw, hcell⟩
      · omega
      have HC : Hid (∀ j, j < n → w.cell? ⟨b, off + j, none⟩ = some (.int .u8 (f j))) := hcell
      have hc := hcell q hlt
      clear hcell
      obtain ⟨c, hcv⟩ : ∃ c, c = f q := ⟨_, rfl⟩
      rw [← hcv] at hc
      have HN : Hid (dst f (q + 1) = dstep c (o, false, false)) := by rw [hcv, dst_succ, HS2.out]; rfl
      clear hcv HS
      by_cases h34 : c = 34
      · subst h34
        go_wp2
        have HQ1 : Hid (dst f (q + 1) = (o, true, false)) := HN.out.trans (step_out_quote o false)
        clear HN hc
        go_loop [6, 7] (fun sj sr => ∃ (p m : Nat), q + 1 ≤ p ∧ p ≤ n ∧ m ≤ p ∧ sj = .int .i64 p ∧ sr = .int .i64 m ∧ Hid (dst f p = (o, true, decide (m % 2 = 1)))) (fun sj _ => n - (intOf sj).toNat)
        case atStart => exact ⟨q + 1, 0, Nat.le_refl _, by omega, Nat.zero_le _, by go_num, rfl, HQ1.out⟩
        case round =>
          obtain ⟨p, m, hp1, hp2, hm, rfl, rfl, HP⟩ := hrel
          by_cases hpn : p < n
          · have hd := HC.out p hpn
            obtain ⟨d, hdv⟩ : ∃ d, d = f p := ⟨_, rfl⟩
            rw [← hdv] at hd
            have HN2 : Hid (dst f (p + 1) = dstep d (o, true, decide (m % 2 = 1))) := by rw [hdv, dst_succ, HP.out]; rfl
            clear hdv
            by_cases hd34 : d = 34
            · subst hd34
              by_cases hm2 : m % 2 = 0
              · have hmi : ((m : Int) % 2 == 0) = true := beq_iff_eq.2 (by omega)
                have HF : Hid (dst f (p + 1) = (o, false, false)) := by
                  have e0 : decide (m % 2 = 1) = false := decide_eq_false (by omega)
                  rw [HN2.out, e0]
                  exact step_in_quote o
                go_wp2
                go_round
                case rel => exact ⟨p + 1, o, by omega, by go_num, rfl, by omega, by omega, .inl ⟨by omega, HF.out⟩⟩
                case measure => simp [intOf]; omega
              · have hmi : ((m : Int) % 2 == 0) = false := beq_eq_false_iff_ne.2 (by omega)
                have HF : Hid (dst f (p + 1) = (o, true, decide (0 % 2 = 1))) := by
                  rw [HN2.out, dst_in_run o 34 m (fun h => hm2 h.2)]
                  rfl
                clear hm2
                go_wp2
                go_round
                case rel => exact ⟨p + 1, 0, by omega, by omega, Nat.zero_le _, by go_num, rfl, HF.out⟩
                case measure => simp [intOf]; omega
            · by_cases hd92 : d = 92
              · subst hd92
                have HF : Hid (dst f (p + 1) = (o, true, decide ((m + 1) % 2 = 1))) := by
                  rw [HN2.out, dst_in_run o 92 m (fun h => hd34 h.1)]
                  rfl
                clear hd34
                go_wp2
                go_round
                case rel => exact ⟨p + 1, m + 1, by omega, by omega, by omega, by go_num, by go_num, HF.out⟩
                case measure => simp [intOf]; omega
              · have HF : Hid (dst f (p + 1) = (o, true, decide (0 % 2 = 1))) := by
                  rw [HN2.out, dst_in_run o d m (fun h => hd34 h.1), if_neg hd92]
                  rfl
                have g1 : (d == 34) = false := beq_eq_false_iff_ne.2 hd34
                have g2 : (d == 92) = false := beq_eq_false_iff_ne.2 hd92
                clear hd34 hd92
                go_wp2
                go_round
                case rel => exact ⟨p + 1, 0, by omega, by omega, Nat.zero_le _, by go_num, rfl, HF.out⟩
                case measure => simp [intOf]; omega
          · have hpe : p = n := by omega
            have HF : Hid ((dst f n).1 = o) := by rw [← hpe, HP.out]; rfl
            go_wp2
            go_round
            case rel => exact ⟨n + 1, o, by omega, congrArg (Value.int .i64) (by omega), rfl, by omega, by omega, .inr ⟨rfl, HF.out⟩⟩
            case measure => simp [intOf]; omega
      · by_cases h91 : c = 91
        · subst h91
          go_wp2
          go_round
          case rel => exact ⟨q + 1, o + 1, by omega, by go_num, rfl, by omega, by omega, .inl ⟨by omega, HN.out.trans (step_out_open o _ _ (.inl rfl))⟩⟩
          case measure => simp [intOf]; omega
        · by_cases h123 : c = 123
          · subst h123
            go_wp2
            go_round
            case rel => exact ⟨q + 1, o + 1, by omega, by go_num, rfl, by omega, by omega, .inl ⟨by omega, HN.out.trans (step_out_open o _ _ (.inr rfl))⟩⟩
            case measure => simp [intOf]; omega
          · by_cases h93 : c = 93
            · subst h93
              go_wp2
              go_round
              case rel => exact ⟨q + 1, o - 1, by omega, by go_num, rfl, by omega, by omega, .inl ⟨by omega, HN.out.trans (step_out_close o _ _ (.inl rfl))⟩⟩
              case measure => simp [intOf]; omega
            · by_cases h125 : c = 125
              · subst h125
                go_wp2
                go_round
                case rel => exact ⟨q + 1, o - 1, by omega, by go_num, rfl, by omega, by omega, .inl ⟨by omega, HN.out.trans (step_out_close o _ _ (.inr rfl))⟩⟩
                case measure => simp [intOf]; omega
              · have HQ : Hid (dstep c (o, false, false) = (o, false, false)) := step_out_other o c false h34 h91 h123 h93 h125
                have g1 : (c == 34) = false := beq_eq_false_iff_ne.2 h34
                have g2 : (c == 91) = false := beq_eq_false_iff_ne.2 h91
                have g3 : (c == 123) = false := beq_eq_false_iff_ne.2 h123
                have g4 : (c == 93) = false := beq_eq_false_iff_ne.2 h93
                have g5 : (c == 125) = false := beq_eq_false_iff_ne.2 h125
                clear h34 h91 h123 h93 h125
                go_wp2
                go_round
                case rel => exact ⟨q + 1, o, by omega, by go_num, rfl, by omega, by omega, .inl ⟨by omega, HN.out.trans HQ.out⟩⟩
                case measure => simp [intOf]; omega
    · have e1 : (dst f n).1 = o := by
        rcases HS.out with ⟨hqn, h⟩ | ⟨_, h⟩
        · have : q = n := by omega
          rw [← this, h]
        · exact h
      have HE : Hid ((dst f n).1 = o) := e1
      clear e1 HS
      go_wp2
      go_ret
      exact ⟨ret_int HE.out.symm, rfl⟩
end Go.Proofs.Qxb6623281a
