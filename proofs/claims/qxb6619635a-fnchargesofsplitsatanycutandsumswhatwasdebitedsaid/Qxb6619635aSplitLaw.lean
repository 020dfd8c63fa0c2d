/-
  FnChargesOfSplitsAtAnyCutAndSumsWhatWasDebited (function 3) inside its bounds.
-/
import Derived.Test.Qxb6619635aRows3
import Derived.Test.Qxb6619635aSplitOut
import Derived.WalkSmall
namespace Go.Proofs.Qxb6619635a
open Go.RowKit

set_option maxHeartbeats 3200000 in
set_option maxRecDepth 100000 in
theorem law3_mid (b0 o0 n c0 b1 o1 c1 b2 o2 c2 c : Nat) (rg ch bf am : Nat → Int) (ham : ∀ j, am j = wrap64 (ch j - bf j)) (w : World) (hn : n ≤ 32768) (hc0 : 0 < c) (hcn : c < n) (h : Rows3 w b0 o0 b1 o1 b2 o2 n rg ch bf) :
    Calls Try.prog 3 #[.slice (some ⟨b0, o0, none⟩) n c0, .slice (some ⟨b1, o1, none⟩) n c1, .slice (some ⟨b2, o2, none⟩) n c2, .int .i64 c] w fun e w' => e = .returned (.bool true) ∧ Below w.heap.size w w' := by
  have HR : Hid (Rows3 w b0 o0 b1 o1 b2 o2 n rg ch bf) := h
  have HA : Hid (∀ j, am j = wrap64 (ch j - bf j)) := ham
  clear h ham
  have hz : ((n : Int) == 0) = false := beq_eq_false_iff_ne.2 (by omega)
  have hzc : ((c : Int) == 0) = false := beq_eq_false_iff_ne.2 (by omega)
  have hcc : ((c : Int) == (n : Int)) = false := beq_eq_false_iff_ne.2 (by omega)
  go_enter Try.func3, Try.ntmps3
  go_wp2_with (go_at_call 8; refine (bytes8_yes _ _ _ _ _ _ _ _ _ _ _ (by omega) (by omega) (by omega)).mono ?_; rintro e w' ⟨rfl, rfl⟩)
  refine (groups_to b0 o0 n c0 b1 o1 c1 b2 o2 c2 rg ch bf n w (Nat.le_refl _) (by omega) HR.out).mono ?_
  rintro e w1 ⟨rfl, hb1, P1, T1, hG1⟩
  have HG1 : Hid (GroupsAt w1 w.heap.size 0 n P1 T1 rg ch bf) := hG1
  clear hG1
  have HR1 : Hid (Rows3 w1 b0 o0 b1 o1 b2 o2 n rg ch bf) := HR.out.below hb1
  go_wp2_with fail
  refine (ext_some w1 _ n n P1 T1 rg ch bf am HA.out (by omega) (by omega) HG1.out).mono ?_
  rintro e w2 ⟨rfl, hb2, C1, k1, hE1⟩
  have HE1 : Hid (ExtAt w2 w1.heap.size C1 n k1 rg am) := hE1
  clear hE1
  have HR2 : Hid (Rows3 w2 b0 o0 b1 o1 b2 o2 n rg ch bf) := HR1.out.below hb2
  go_wp2_with fail
  refine (groups_to b0 o0 n c0 b1 o1 c1 b2 o2 c2 rg ch bf c w2 (by omega) (by omega) HR2.out).mono ?_
  rintro e w3 ⟨rfl, hb3, P3, T3, hG3⟩
  have HG3 : Hid (GroupsAt w3 w2.heap.size 0 c P3 T3 rg ch bf) := hG3
  clear hG3
  have HR3 : Hid (Rows3 w3 b0 o0 b1 o1 b2 o2 n rg ch bf) := HR2.out.below hb3
  go_wp2_with fail
  refine (ext_some w3 _ c c P3 T3 rg ch bf am HA.out (by omega) (by omega) HG3.out).mono ?_
  rintro e w4 ⟨rfl, hb4, C2, k2, hE2⟩
  have HE2 : Hid (ExtAt w4 w3.heap.size C2 c k2 rg am) := hE2
  clear hE2
  have HR4 : Hid (Rows3 w4 b0 o0 b1 o1 b2 o2 n rg ch bf) := HR3.out.below hb4
  go_wp2_with fail
  refine (groups_from b0 o0 n c0 b1 o1 c1 b2 o2 c2 rg ch bf c w4 (by omega) (by omega) HR4.out).mono ?_
  rintro e w5 ⟨rfl, hb5, P5, T5, hG5⟩
  have HG5 : Hid (GroupsAt w5 w4.heap.size 0 (n - c) P5 T5 (fun j => rg (c + j)) (fun j => ch (c + j)) (fun j => bf (c + j))) := hG5
  clear hG5
  have HR5 : Hid (Rows3 w5 b0 o0 b1 o1 b2 o2 n rg ch bf) := HR4.out.below hb5
  go_wp2_with fail
  refine (ext_some w5 _ (n - c) (n - c) P5 T5 _ _ _ (fun j => am (c + j)) (fun j => HA.out (c + j)) (by omega) (by omega) HG5.out).mono ?_
  rintro e w6 ⟨rfl, hb6, C3, k3, hE3⟩
  have HE3 : Hid (ExtAt w6 w5.heap.size C3 (n - c) k3 (fun j => rg (c + j)) (fun j => am (c + j))) := hE3
  clear hE3
  have HR6 : Hid (Rows3 w6 b0 o0 b1 o1 b2 o2 n rg ch bf) := HR5.out.below hb6
  have HF2 : Hid (ExtAt w6 w3.heap.size C2 c k2 rg am) := (HE2.out.below (by omega) hb5).below (by omega) hb6
  have HF1 : Hid (ExtAt w6 w1.heap.size C1 n k1 rg am) := (((HE1.out.below (by omega) hb3).below (by omega) hb4).below (by omega) hb5).below (by omega) hb6
  have s1 := hb1.size
  have s2 := hb2.size
  have s3 := hb3.size
  have s4 := hb4.size
  have s5 := hb5.size
  have s6 := hb6.size
  have HB : Hid (Below w.heap.size w w6) := ((((hb1.trans (hb2.mono (by omega))).trans (hb3.mono (by omega))).trans (hb4.mono (by omega))).trans (hb5.mono (by omega))).trans (hb6.mono (by omega))
  clear HE1 HE2 HG1 HG3 HG5 HR HR1 HR2 HR3 HR4 HR5 hb1 hb2 hb3 hb4 hb5 hb6
  go_wp2_with fail
  refine (list11_some w6 _ _ n k1 HF1.out.1).mono ?_
  rintro e w' ⟨rfl, rfl⟩
  go_wp2_with fail
  refine (list11_some w6 _ _ c k2 HF2.out.1).mono ?_
  rintro e w' ⟨rfl, rfl⟩
  go_wp2_with fail
  refine (list11_some w6 _ _ (n - c) k3 HE3.out.1).mono ?_
  rintro e w' ⟨rfl, rfl⟩
  go_wp2_with fail
  go_loopw [16, 17, 18, 19] (fun sa sc sb i wr => ∃ k : Nat, k ≤ n ∧ i = .int .i64 k ∧ sa = .int .i64 (wsum am k) ∧ sc = .int .i64 (wsum ch k) ∧ sb = .int .i64 (wsum bf k) ∧ Below w6.heap.size w6 wr)
    (fun _ _ _ i _ => n - (intOf i).toNat)
  case atStart => exact ⟨0, Nat.zero_le _, rfl, rfl, rfl, rfl, Below.refl _ _⟩
  case round =>
    obtain ⟨k, hk, rfl, rfl, rfl, rfl, hbr⟩ := hrel
    by_cases hlt : k < n
    · obtain ⟨x1, x2⟩ := (HF1.out.below (by omega) hbr).2 k hlt
      obtain ⟨_, y1, y2⟩ := (HR6.out.below hbr).2 k hlt
      by_cases hkc : k < c
      · obtain ⟨z1, z2⟩ := (HF2.out.below (by omega) hbr).2 k hkc
        go_wp2
        go_quiet (fail)
        go_wp2
        go_roundw
        case rel => exact ⟨k + 1, by omega, by go_num, rfl, rfl, rfl, below_drewN hbr _⟩
        case measure => simp [intOf]; omega
      · obtain ⟨z1, z2⟩ := (HE3.out.below (by omega) hbr).2 (k - c) (by omega)
        have hkk : c + (k - c) = k := by omega
        simp only [hkk] at z1 z2
        clear hkk
        have hsub : ((k : Int) - (c : Int)) = ((k - c : Nat) : Int) := by omega
        go_wp2
        go_quiet (fail)
        go_wp2
        go_roundw
        case rel => exact ⟨k + 1, by omega, by go_num, rfl, rfl, rfl, below_drewN hbr _⟩
        case measure => simp [intOf]; omega
    · have hkn : k = n := by omega
      subst hkn
      have hs : (wsum am k == wrap64 (wsum ch k - wsum bf k)) = true := by rw [wsum_sub ch bf am HA.out]; simp
      go_wp2
      go_ret
      exact ⟨rfl, HB.out.trans (hbr.mono (by omega))⟩

set_option maxHeartbeats 3200000 in
set_option maxRecDepth 100000 in
theorem law3_zero (b0 o0 n c0 b1 o1 c1 b2 o2 c2 : Nat) (rg ch bf am : Nat → Int) (ham : ∀ j, am j = wrap64 (ch j - bf j)) (w : World) (hn : n ≤ 32768) (hn0 : 0 < n) (h : Rows3 w b0 o0 b1 o1 b2 o2 n rg ch bf) :
    Calls Try.prog 3 #[.slice (some ⟨b0, o0, none⟩) n c0, .slice (some ⟨b1, o1, none⟩) n c1, .slice (some ⟨b2, o2, none⟩) n c2, .int .i64 0] w fun e w' => e = .returned (.bool true) ∧ Below w.heap.size w w' := by
  have HR : Hid (Rows3 w b0 o0 b1 o1 b2 o2 n rg ch bf) := h
  have HA : Hid (∀ j, am j = wrap64 (ch j - bf j)) := ham
  clear h ham
  have hz : ((n : Int) == 0) = false := beq_eq_false_iff_ne.2 (by omega)
  have hcc : ((0 : Int) == (n : Int)) = false := beq_eq_false_iff_ne.2 (by omega)
  go_enter Try.func3, Try.ntmps3
  go_wp2_with (go_at_call 8; refine (bytes8_yes _ _ _ _ _ _ _ _ _ _ _ (by omega) (by omega) (by omega)).mono ?_; rintro e w' ⟨rfl, rfl⟩)
  refine (groups_to b0 o0 n c0 b1 o1 c1 b2 o2 c2 rg ch bf n w (Nat.le_refl _) (by omega) HR.out).mono ?_
  rintro e w1 ⟨rfl, hb1, P1, T1, hG1⟩
  have HG1 : Hid (GroupsAt w1 w.heap.size 0 n P1 T1 rg ch bf) := hG1
  clear hG1
  have HR1 : Hid (Rows3 w1 b0 o0 b1 o1 b2 o2 n rg ch bf) := HR.out.below hb1
  go_wp2_with fail
  refine (ext_some w1 _ n n P1 T1 rg ch bf am HA.out (by omega) (by omega) HG1.out).mono ?_
  rintro e w2 ⟨rfl, hb2, C1, k1, hE1⟩
  have HE1 : Hid (ExtAt w2 w1.heap.size C1 n k1 rg am) := hE1
  clear hE1
  have HR2 : Hid (Rows3 w2 b0 o0 b1 o1 b2 o2 n rg ch bf) := HR1.out.below hb2
  go_wp2_with fail
  refine (groups_empty _ _ _ 0 rg ch bf w2 (by omega)).mono ?_
  rintro e w3 ⟨rfl, hb3, _⟩
  have HR3 : Hid (Rows3 w3 b0 o0 b1 o1 b2 o2 n rg ch bf) := HR2.out.below hb3
  go_wp2_with fail
  refine (charges9_none w3 _ 0 0 (by omega)).mono ?_
  rintro e w' ⟨rfl, rfl⟩
  go_wp2_with fail
  refine (groups_to b0 o0 n c0 b1 o1 c1 b2 o2 c2 rg ch bf n w3 (Nat.le_refl _) (by omega) HR3.out).mono ?_
  rintro e w5 ⟨rfl, hb5, P5, T5, hG5⟩
  have HG5 : Hid (GroupsAt w5 w3.heap.size 0 n P5 T5 rg ch bf) := hG5
  clear hG5
  have HR5 : Hid (Rows3 w5 b0 o0 b1 o1 b2 o2 n rg ch bf) := HR3.out.below hb5
  go_wp2_with fail
  refine (ext_some w5 _ n n P5 T5 rg ch bf am HA.out (by omega) (by omega) HG5.out).mono ?_
  rintro e w6 ⟨rfl, hb6, C3, k3, hE3⟩
  have HE3 : Hid (ExtAt w6 w5.heap.size C3 n k3 rg am) := hE3
  clear hE3
  have HR6 : Hid (Rows3 w6 b0 o0 b1 o1 b2 o2 n rg ch bf) := HR5.out.below hb6
  have HF1 : Hid (ExtAt w6 w1.heap.size C1 n k1 rg am) := ((HE1.out.below (by omega) hb3).below (by omega) hb5).below (by omega) hb6
  have s1 := hb1.size
  have s2 := hb2.size
  have s3 := hb3.size
  have s5 := hb5.size
  have s6 := hb6.size
  have HB : Hid (Below w.heap.size w w6) := (((hb1.trans (hb2.mono (by omega))).trans (hb3.mono (by omega))).trans (hb5.mono (by omega))).trans (hb6.mono (by omega))
  clear HE1 HG1 HG5 HR HR1 HR2 HR3 HR5 hb1 hb2 hb3 hb5 hb6
  go_wp2_with fail
  refine (list11_some w6 _ _ n k1 HF1.out.1).mono ?_
  rintro e w' ⟨rfl, rfl⟩
  go_wp2_with fail
  refine (list11_none w6).mono ?_
  rintro e w' ⟨rfl, rfl⟩
  go_wp2_with fail
  refine (list11_some w6 _ _ n k3 HE3.out.1).mono ?_
  rintro e w' ⟨rfl, rfl⟩
  go_wp2_with fail
  go_loopw [16, 17, 18, 19] (fun sa sc sb i wr => ∃ k : Nat, k ≤ n ∧ i = .int .i64 k ∧ sa = .int .i64 (wsum am k) ∧ sc = .int .i64 (wsum ch k) ∧ sb = .int .i64 (wsum bf k) ∧ Below w6.heap.size w6 wr)
    (fun _ _ _ i _ => n - (intOf i).toNat)
  case atStart => exact ⟨0, Nat.zero_le _, rfl, rfl, rfl, rfl, Below.refl _ _⟩
  case round =>
    obtain ⟨k, hk, rfl, rfl, rfl, rfl, hbr⟩ := hrel
    by_cases hlt : k < n
    · obtain ⟨x1, x2⟩ := (HF1.out.below (by omega) hbr).2 k hlt
      obtain ⟨_, y1, y2⟩ := (HR6.out.below hbr).2 k hlt
      obtain ⟨z1, z2⟩ := (HE3.out.below (by omega) hbr).2 k hlt
      go_wp2
      go_quiet (fail)
      go_wp2
      go_roundw
      case rel => exact ⟨k + 1, by omega, by go_num, rfl, rfl, rfl, below_drewN hbr _⟩
      case measure => simp [intOf]; omega
    · have hkn : k = n := by omega
      subst hkn
      have hs : (wsum am k == wrap64 (wsum ch k - wsum bf k)) = true := by rw [wsum_sub ch bf am HA.out]; simp
      go_wp2
      go_ret
      exact ⟨rfl, HB.out.trans (hbr.mono (by omega))⟩

set_option maxHeartbeats 3200000 in
set_option maxRecDepth 100000 in
theorem law3_end (b0 o0 n c0 b1 o1 c1 b2 o2 c2 : Nat) (rg ch bf am : Nat → Int) (ham : ∀ j, am j = wrap64 (ch j - bf j)) (w : World) (hn : n ≤ 32768) (hn0 : 0 < n) (h : Rows3 w b0 o0 b1 o1 b2 o2 n rg ch bf) :
    Calls Try.prog 3 #[.slice (some ⟨b0, o0, none⟩) n c0, .slice (some ⟨b1, o1, none⟩) n c1, .slice (some ⟨b2, o2, none⟩) n c2, .int .i64 n] w fun e w' => e = .returned (.bool true) ∧ Below w.heap.size w w' := by
  have HR : Hid (Rows3 w b0 o0 b1 o1 b2 o2 n rg ch bf) := h
  have HA : Hid (∀ j, am j = wrap64 (ch j - bf j)) := ham
  clear h ham
  have hz : ((n : Int) == 0) = false := beq_eq_false_iff_ne.2 (by omega)
  go_enter Try.func3, Try.ntmps3
  go_wp2_with (go_at_call 8; refine (bytes8_yes _ _ _ _ _ _ _ _ _ _ _ (by omega) (by omega) (by omega)).mono ?_; rintro e w' ⟨rfl, rfl⟩)
  refine (groups_to b0 o0 n c0 b1 o1 c1 b2 o2 c2 rg ch bf n w (Nat.le_refl _) (by omega) HR.out).mono ?_
  rintro e w1 ⟨rfl, hb1, P1, T1, hG1⟩
  have HG1 : Hid (GroupsAt w1 w.heap.size 0 n P1 T1 rg ch bf) := hG1
  clear hG1
  have HR1 : Hid (Rows3 w1 b0 o0 b1 o1 b2 o2 n rg ch bf) := HR.out.below hb1
  go_wp2_with fail
  refine (ext_some w1 _ n n P1 T1 rg ch bf am HA.out (by omega) (by omega) HG1.out).mono ?_
  rintro e w2 ⟨rfl, hb2, C1, k1, hE1⟩
  have HE1 : Hid (ExtAt w2 w1.heap.size C1 n k1 rg am) := hE1
  clear hE1
  have HR2 : Hid (Rows3 w2 b0 o0 b1 o1 b2 o2 n rg ch bf) := HR1.out.below hb2
  go_wp2_with fail
  refine (groups_to b0 o0 n c0 b1 o1 c1 b2 o2 c2 rg ch bf n w2 (Nat.le_refl _) (by omega) HR2.out).mono ?_
  rintro e w3 ⟨rfl, hb3, P3, T3, hG3⟩
  have HG3 : Hid (GroupsAt w3 w2.heap.size 0 n P3 T3 rg ch bf) := hG3
  clear hG3
  have HR3 : Hid (Rows3 w3 b0 o0 b1 o1 b2 o2 n rg ch bf) := HR2.out.below hb3
  go_wp2_with fail
  refine (ext_some w3 _ n n P3 T3 rg ch bf am HA.out (by omega) (by omega) HG3.out).mono ?_
  rintro e w4 ⟨rfl, hb4, C2, k2, hE2⟩
  have HE2 : Hid (ExtAt w4 w3.heap.size C2 n k2 rg am) := hE2
  clear hE2
  have HR4 : Hid (Rows3 w4 b0 o0 b1 o1 b2 o2 n rg ch bf) := HR3.out.below hb4
  go_wp2_with fail
  refine (groups_empty _ _ _ n rg ch bf w4 (by omega)).mono ?_
  rintro e w5 ⟨rfl, hb5, _⟩
  have HR6 : Hid (Rows3 w5 b0 o0 b1 o1 b2 o2 n rg ch bf) := HR4.out.below hb5
  go_wp2_with fail
  refine (charges9_none w5 _ 0 0 (by omega)).mono ?_
  rintro e w' ⟨rfl, rfl⟩
  have HF2 : Hid (ExtAt w5 w3.heap.size C2 n k2 rg am) := HE2.out.below (by omega) hb5
  have HF1 : Hid (ExtAt w5 w1.heap.size C1 n k1 rg am) := ((HE1.out.below (by omega) hb3).below (by omega) hb4).below (by omega) hb5
  have s1 := hb1.size
  have s2 := hb2.size
  have s3 := hb3.size
  have s4 := hb4.size
  have s5 := hb5.size
  have HB : Hid (Below w.heap.size w w5) := (((hb1.trans (hb2.mono (by omega))).trans (hb3.mono (by omega))).trans (hb4.mono (by omega))).trans (hb5.mono (by omega))
  clear HE1 HE2 HG1 HG3 HR HR1 HR2 HR3 HR4 hb1 hb2 hb3 hb4 hb5
  go_wp2_with fail
  refine (list11_some w5 _ _ n k1 HF1.out.1).mono ?_
  rintro e w' ⟨rfl, rfl⟩
  go_wp2_with fail
  refine (list11_some w5 _ _ n k2 HF2.out.1).mono ?_
  rintro e w' ⟨rfl, rfl⟩
  go_wp2_with fail
  refine (list11_none w5).mono ?_
  rintro e w' ⟨rfl, rfl⟩
  go_wp2_with fail
  go_loopw [16, 17, 18, 19] (fun sa sc sb i wr => ∃ k : Nat, k ≤ n ∧ i = .int .i64 k ∧ sa = .int .i64 (wsum am k) ∧ sc = .int .i64 (wsum ch k) ∧ sb = .int .i64 (wsum bf k) ∧ Below w5.heap.size w5 wr)
    (fun _ _ _ i _ => n - (intOf i).toNat)
  case atStart => exact ⟨0, Nat.zero_le _, rfl, rfl, rfl, rfl, Below.refl _ _⟩
  case round =>
    obtain ⟨k, hk, rfl, rfl, rfl, rfl, hbr⟩ := hrel
    by_cases hlt : k < n
    · obtain ⟨x1, x2⟩ := (HF1.out.below (by omega) hbr).2 k hlt
      obtain ⟨_, y1, y2⟩ := (HR6.out.below hbr).2 k hlt
      obtain ⟨z1, z2⟩ := (HF2.out.below (by omega) hbr).2 k hlt
      go_wp2
      go_quiet (fail)
      go_wp2
      go_roundw
      case rel => exact ⟨k + 1, by omega, by go_num, rfl, rfl, rfl, below_drewN hbr _⟩
      case measure => simp [intOf]; omega
    · have hkn : k = n := by omega
      subst hkn
      have hs : (wsum am k == wrap64 (wsum ch k - wsum bf k)) = true := by rw [wsum_sub ch bf am HA.out]; simp
      go_wp2
      go_ret
      exact ⟨rfl, HB.out.trans (hbr.mono (by omega))⟩

set_option maxHeartbeats 3200000 in
set_option maxRecDepth 100000 in
theorem law3_none (a0 a1 a2 : Option Addr) (c0 c1 c2 : Nat) (w : World) :
    Calls Try.prog 3 #[.slice a0 0 c0, .slice a1 0 c1, .slice a2 0 c2, .int .i64 0] w fun e w' => e = .returned (.bool true) ∧ Below w.heap.size w w' := by
  go_enter Try.func3, Try.ntmps3
  go_wp2_with (go_at_call 8; refine (bytes8_yes _ _ _ _ _ _ _ _ _ _ _ (by omega) (by omega) (by omega)).mono ?_; rintro e w' ⟨rfl, rfl⟩)
  refine (groups_empty _ _ _ 0 (fun _ => 0) (fun _ => 0) (fun _ => 0) w (by omega)).mono ?_
  rintro e w1 ⟨rfl, hb1, _⟩
  go_wp2_with fail
  refine (charges9_none w1 _ 0 0 (by omega)).mono ?_
  rintro e w' ⟨rfl, rfl⟩
  go_wp2_with fail
  refine (groups_empty _ _ _ 0 (fun _ => 0) (fun _ => 0) (fun _ => 0) w1 (by omega)).mono ?_
  rintro e w2 ⟨rfl, hb2, _⟩
  go_wp2_with fail
  refine (charges9_none w2 _ 0 0 (by omega)).mono ?_
  rintro e w' ⟨rfl, rfl⟩
  go_wp2_with fail
  refine (groups_empty _ _ _ 0 (fun _ => 0) (fun _ => 0) (fun _ => 0) w2 (by omega)).mono ?_
  rintro e w3 ⟨rfl, hb3, _⟩
  go_wp2_with fail
  refine (charges9_none w3 _ 0 0 (by omega)).mono ?_
  rintro e w' ⟨rfl, rfl⟩
  go_wp2_with fail
  refine (list11_none w3).mono ?_
  rintro e w' ⟨rfl, rfl⟩
  go_wp2_with fail
  refine (list11_none w3).mono ?_
  rintro e w' ⟨rfl, rfl⟩
  go_wp2_with fail
  refine (list11_none w3).mono ?_
  rintro e w' ⟨rfl, rfl⟩
  go_wp2_with fail
  have s1 := hb1.size
  have s2 := hb2.size
  go_loop [16, 17, 18, 19] (fun sa sc sb i => i = .int .i64 0 ∧ sa = .int .i64 0 ∧ sc = .int .i64 0 ∧ sb = .int .i64 0) (fun _ _ _ _ => 0)
  case atStart => exact ⟨rfl, rfl, rfl, rfl⟩
  case round =>
    obtain ⟨rfl, rfl, rfl, rfl⟩ := hrel
    go_wp2
    go_ret
    exact ⟨rfl, (hb1.trans (hb2.mono (by omega))).trans (hb3.mono (by omega))⟩
end Go.Proofs.Qxb6619635a
