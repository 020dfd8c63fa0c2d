/-
  FnRefuseIsIdempotentAndKeepsOtherAnswers (function 7).
-/
import Derived.Test.Qxb6619635aBytesA
namespace Go.Proofs.Qxb6619635a
open Go.RowKit

theorem keep_grown' {w w' : World} {N lo hi : Nat} (hg : w.grownBy w' (some N)) (hh : hi ≤ w.heap.size) (hN : N < lo ∨ hi ≤ N) : ∀ b, lo ≤ b → b < hi → w'.heap[b]? = w.heap[b]? :=
  fun b h1 h2 => hg.block b (by omega) (fun e => by have := Option.some.inj e; omega)

theorem InRow.grown' {w w' : World} {b o n N B : Nat} {A : Nat → Ans} (h : InRow w b o n A) (hb : b < B) (hg : w.grownBy w' (some N)) (hN : B ≤ N) : InRow w' b o n A := by
  have hne : w'.heap[b]? = w.heap[b]? := hg.block b h.1 (fun e => by have := Option.some.inj e; omega)
  have e : ∀ i, w'.cell? ⟨b, i, none⟩ = w.cell? ⟨b, i, none⟩ := fun i => World.cell?_of_block hne
  refine ⟨Nat.lt_of_lt_of_le h.1 hg.size, fun k hk => ?_⟩
  obtain ⟨h0, h1, h2, h3, h4, h5, h6, h7, h8, h9⟩ := h.2 k hk
  exact ⟨(e _).trans h0, (e _).trans h1, (e _).trans h2, (e _).trans h3, (e _).trans h4, (e _).trans h5, (e _).trans h6, (e _).trans h7, (e _).trans h8, (e _).trans h9⟩

theorem quota_is_quota' : ((⟨#[81, 85, 79, 84, 65, 95, 76, 73, 77, 73, 84, 95, 82, 69, 65, 67, 72, 69, 68]⟩ : ByteArray).toList == [81, 85, 79, 84, 65, 95, 76, 73, 77, 73, 84, 95, 82, 69, 65, 67, 72, 69, 68]) = true := by decide +kernel

theorem ref_yes' {a : Ans} (h : refused a = true) : (ref a).rc = ⟨#[81, 85, 79, 84, 65, 95, 76, 73, 77, 73, 84, 95, 82, 69, 65, 67, 72, 69, 68]⟩ ∧ (ref a).rg = a.rg ∧ (ref a).hg = false ∧ (ref a).hf = false := by
  unfold ref; rw [if_pos h]; exact ⟨rfl, rfl, rfl, rfl⟩
theorem ref_no' {a : Ans} (h : refused a = false) : ref a = a := by
  unfold ref; rw [if_neg (by rw [h]; decide)]
theorem ref_ref (a : Ans) : ref (ref a) = ref a := by
  cases h : refused a
  · rw [ref_no' h, ref_no' h]
  · obtain ⟨h1, h2, h3, h4⟩ := ref_yes' h
    have hq : refused (ref a) = true := by
      unfold refused
      rw [h1, quota_is_quota', Bool.or_true]
    obtain ⟨g1, g2, g3, g4⟩ := ref_yes' hq
    have e : ref a = { a with rc := ⟨#[81, 85, 79, 84, 65, 95, 76, 73, 77, 73, 84, 95, 82, 69, 65, 67, 72, 69, 68]⟩, hg := false, hf := false } := by unfold ref; rw [if_pos h]
    have e2 : ref (ref a) = { ref a with rc := ⟨#[81, 85, 79, 84, 65, 95, 76, 73, 77, 73, 84, 95, 82, 69, 65, 67, 72, 69, 68]⟩, hg := false, hf := false } := by rw [ref, if_pos hq]
    rw [e2, e]

theorem same_nil' (w : World) (rc : ByteArray) (rg : Int) :
    Calls Try.prog 19 #[.agg #[.string rc, .int .u32 rg, .pointer none, .pointer none], .agg #[.string rc, .int .u32 rg, .pointer none, .pointer none]] w fun e w' => e = .returned (.bool true) ∧ Below w.heap.size w w' :=
  same_any w ⟨rc, rg, false, 0, 0, 0, 0, 0, false, rc⟩ 0 0 0 0 none none none none (.inl ⟨rfl, rfl⟩) (.inl ⟨rfl, rfl⟩) (.inl ⟨rfl, rfl⟩) (.inl ⟨rfl, rfl⟩)
theorem gu_none' {w : World} {l h : Nat} {a : Ans} {gp : Option Addr} (G : GuAt w l h a gp) (e : a.hg = false) : gp = none := by
  rcases G with ⟨_, h⟩ | ⟨h, _⟩
  · exact h
  · rw [e] at h; cases h
theorem fu_none' {w : World} {l h : Nat} {a : Ans} {gp : Option Addr} (G : FuAt w l h a gp) (e : a.hf = false) : gp = none := by
  rcases G with ⟨_, h⟩ | ⟨h, _⟩
  · exact h
  · rw [e] at h; cases h

theorem drawn_call {wr w7 : World} (hb : Below wr.drew.heap.size wr.drew w7) : Below wr.heap.size wr w7 := ((Below.refl wr.heap.size wr).drew).trans hb
theorem two_more {B : Nat} {w6 w7 w9 : World} {X Y : Obj} (h : Below B w6 w7) (hB : B ≤ w7.heap.size) (hb : Below ((w7.alloc X).alloc Y).drew.heap.size ((w7.alloc X).alloc Y).drew w9) : Below B w6 w9 := by
  have h2 := (((h.alloc hB X).alloc (by rw [World.size_alloc]; omega) Y).drew).trans (hb.mono (by show B ≤ ((w7.alloc X).alloc Y).heap.size; rw [World.size_alloc, World.size_alloc]; omega))
  exact h2
theorem one_more {B : Nat} {w6 w7 w9 : World} {X : Obj} (h : Below B w6 w7) (hB : B ≤ w7.heap.size) (hb : Below (w7.alloc X).drew.heap.size (w7.alloc X).drew w9) : Below B w6 w9 := by
  have h2 := ((h.alloc hB X).drew).trans (hb.mono (by show B ≤ (w7.alloc X).heap.size; rw [World.size_alloc]; omega))
  exact h2

set_option maxHeartbeats 3200000 in
set_option maxRecDepth 100000 in
/-- Too many answers: true. -/
theorem law7_out (b o n c : Nat) (A : Nat → Ans) (w : World) (h : InRow w b o n A) (hn : 4096 < n) :
    Calls Try.prog 7 #[.slice (some ⟨b, o, none⟩) n c] w fun e w' => e = .returned (.bool true) ∧ w = w' := by
  have HB := bytes20_any b o n c A w h
  have HH : Hid (Calls _ _ _ _ _) := HB
  clear HB h
  go_enter Try.func7, Try.ntmps7
  go_wp2_with (go_at_call 20; refine Calls.mono HH.out ?_; rintro e w' ⟨⟨r, rfl⟩, rfl⟩; cases r)
  all_goals (go_ret; exact ⟨rfl, rfl⟩)

set_option maxHeartbeats 3200000 in
set_option maxRecDepth 100000 in
theorem law7_main (b o n cp : Nat) (A : Nat → Ans) (w : World) (h : InRow w b o n A) (hn : n ≤ 4096) :
    Calls Try.prog 7 #[.slice (some ⟨b, o, none⟩) n cp] w fun e w' => e = .returned (.bool true) ∧ Below w.heap.size w w' := by
  have HB := bytes20_any b o n cp A w h
  have HH : Hid (Calls _ _ _ _ _) := HB
  have HI : Hid (InRow w b o n A) := h
  have hbw := h.1
  clear HB h
  go_enter Try.func7, Try.ntmps7
  go_wp2_with (go_at_call 20; refine Calls.mono HH.out ?_; rintro e w' ⟨⟨r, rfl⟩, rfl⟩; cases r)
  · go_ret; exact ⟨rfl, Below.refl _ _⟩
  go_loop [3, 4] (fun v i => ∃ (k : Nat) (z : Int), k ≤ n ∧ i = .int .i64 k ∧ v = .int .i64 z) (fun _ i => n - (intOf i).toNat)
  case atStart => exact ⟨0, _, Nat.zero_le _, rfl, rfl⟩
  case round =>
    obtain ⟨k, z, hk, rfl, rfl⟩ := hrel
    by_cases hlt : k < n
    · obtain ⟨x0, -, -, -, -, -, -, -, -, x9⟩ := HI.out.2 k hlt
      go_wp2
      all_goals first
        | (go_ret; exact ⟨rfl, Below.refl _ _⟩)
        | (go_round
           case rel => exact ⟨k + 1, _, by omega, by go_num, rfl⟩
           case measure => simp [intOf]; omega)
    · have hkn : k = n := by omega
      subst hkn
      clear hk
      go_wp2_with fail
      refine (answers_to b o k cp A k w (Nat.le_refl _) (by omega) HI.out).mono ?_
      rintro e w1 ⟨rfl, hb1, hO1⟩
      have HI1 : Hid (InRow w1 b o k A) := HI.out.below hb1.block hb1.size
      have HO1 : Hid (OutRow w1 w.heap.size w1.heap.size k A) := hO1
      clear hO1
      go_wp2_with fail
      refine (answers_to b o k cp A k w1 (Nat.le_refl _) (by omega) HI1.out).mono ?_
      rintro e w2 ⟨rfl, hb2, hO2⟩
      have HI2 : Hid (InRow w2 b o k A) := HI1.out.below hb2.block hb2.size
      have HO2 : Hid (OutRow w2 w1.heap.size w2.heap.size k A) := hO2
      clear hO2
      have s1 := hb1.size
      have s2 := hb2.size
      have l1 := HO1.out.1
      have l2 := HO2.out.1
      have P1 : Hid (OutRow w2 w.heap.size w1.heap.size k A) := HO1.out.kept (fun x _ h => hb2.block x h)
      have HB2 : Hid (Below w.heap.size w w2) := hb1.trans (hb2.mono (by omega))
      clear HO1 HI1 hb1 hb2
      go_wp2_with fail
      refine (refuse18 w2 w1.heap.size w2.heap.size k k A (by omega) (by omega) HO2.out).mono ?_
      rintro e w3 ⟨rfl, g3, hQ2⟩
      have Q2 : Hid (OutRow w3 w1.heap.size w2.heap.size k (fun j => ref (A j))) := hQ2
      have Q1 : Hid (OutRow w3 w.heap.size w1.heap.size k A) := P1.out.kept (keep_grown' g3 (by omega) (by omega))
      have HI3 : Hid (InRow w3 b o k A) := HI2.out.grown' hbw g3 (by omega)
      have HB3 : Hid (Below w.heap.size w w3) := HB2.out.grown g3 (by omega) (fun j hj => by cases hj; omega)
      have s3 := g3.size
      clear hQ2 P1 HO2 HI2 HB2 g3
      go_wp2_with fail
      refine (answers_to b o k cp A k w3 (Nat.le_refl _) (by omega) HI3.out).mono ?_
      rintro e w4 ⟨rfl, hb4, hO4⟩
      have HI4 : Hid (InRow w4 b o k A) := HI3.out.below hb4.block hb4.size
      have HO4 : Hid (OutRow w4 w3.heap.size w4.heap.size k A) := hO4
      have R1 : Hid (OutRow w4 w.heap.size w1.heap.size k A) := Q1.out.kept (fun x _ h => hb4.block x (by omega))
      have R2 : Hid (OutRow w4 w1.heap.size w2.heap.size k (fun j => ref (A j))) := Q2.out.kept (fun x _ h => hb4.block x (by omega))
      have HB4 : Hid (Below w.heap.size w w4) := HB3.out.trans (hb4.mono (by omega))
      have s4 := hb4.size
      have l4 := HO4.out.1
      clear hO4 HI3 HB3 Q1 Q2 hb4
      go_wp2_with fail
      refine (refuse18 w4 w3.heap.size w4.heap.size k k A (by omega) (by omega) HO4.out).mono ?_
      rintro e w5 ⟨rfl, g5, hQ4⟩
      have Q4 : Hid (OutRow w5 w3.heap.size w4.heap.size k (fun j => ref (A j))) := hQ4
      have T1 : Hid (OutRow w5 w.heap.size w1.heap.size k A) := R1.out.kept (keep_grown' g5 (by omega) (by omega))
      have T2 : Hid (OutRow w5 w1.heap.size w2.heap.size k (fun j => ref (A j))) := R2.out.kept (keep_grown' g5 (by omega) (by omega))
      have HI5 : Hid (InRow w5 b o k A) := HI4.out.grown' hbw g5 (by omega)
      have HB5 : Hid (Below w.heap.size w w5) := HB4.out.grown g5 (by omega) (fun j hj => by cases hj; omega)
      have s5 := g5.size
      clear hQ4 R1 R2 HO4 HI4 HB4 g5
      go_wp2_with fail
      refine (refuse18 w5 w3.heap.size w4.heap.size k k (fun j => ref (A j)) (by omega) (by omega) Q4.out).mono ?_
      rintro e w6 ⟨rfl, g6, hQ6⟩
      have S4 : Hid (OutRow w6 w3.heap.size w4.heap.size k (fun j => ref (ref (A j)))) := hQ6
      have S1 : Hid (OutRow w6 w.heap.size w1.heap.size k A) := T1.out.kept (keep_grown' g6 (by omega) (by omega))
      have S2 : Hid (OutRow w6 w1.heap.size w2.heap.size k (fun j => ref (A j))) := T2.out.kept (keep_grown' g6 (by omega) (by omega))
      have HI6 : Hid (InRow w6 b o k A) := HI5.out.grown' hbw g6 (by omega)
      have HB6 : Hid (Below w.heap.size w w6) := HB5.out.grown g6 (by omega) (fun j hj => by cases hj; omega)
      have s6 := g6.size
      clear hQ6 T1 T2 Q4 HI5 HB5 g6 HI
      go_wp2_with fail
      go_loopw [9] (fun i wr => ∃ q : Nat, q ≤ k ∧ i = .int .i64 q ∧ Below w6.heap.size w6 wr) (fun i _ => k - (intOf i).toNat)
      case atStart => exact ⟨0, Nat.zero_le _, rfl, Below.refl _ _⟩
      case round =>
        obtain ⟨q, hq, rfl, hbr⟩ := hrel
        have sr := hbr.size
        by_cases hlt : q < k
        · obtain ⟨g1, f1, e0, e1, e2, e3, G1, F1, -⟩ := (S2.out.kept (fun x _ h => hbr.block x (by omega))).2 q hlt
          obtain ⟨g2, f2, d0, d1, d2, d3, G2, F2, -⟩ := (S4.out.kept (fun x _ h => hbr.block x (by omega))).2 q hlt
          obtain ⟨g3, f3, c0, c1, c2, c3, G3, F3, -⟩ := (S1.out.kept (fun x _ h => hbr.block x (by omega))).2 q hlt
          have HJ : Hid (InRow wr b o k A) := HI6.out.below hbr.block hbr.size
          simp only [ref_ref] at d0 d1 G2 F2
          simp only at e0 e1 G1 F1
          have HG1 : Hid (GuAt wr w1.heap.size w2.heap.size (ref (A q)) g1) := G1
          have HF1 : Hid (FuAt wr w1.heap.size w2.heap.size (ref (A q)) f1) := F1
          have HG2 : Hid (GuAt wr w3.heap.size w4.heap.size (ref (A q)) g2) := G2
          have HF2 : Hid (FuAt wr w3.heap.size w4.heap.size (ref (A q)) f2) := F2
          have HG3 : Hid (GuAt wr w.heap.size w1.heap.size (A q) g3) := G3
          have HF3 : Hid (FuAt wr w.heap.size w1.heap.size (A q) f3) := F3
          clear G1 F1 G2 F2 G3 F3
          have m0 : b < wr.heap.size := by omega
          have m1 : w.heap.size < wr.heap.size := by omega
          have m2 : w1.heap.size < wr.heap.size := by omega
          have m3 : w3.heap.size < wr.heap.size := by omega
          by_cases hr : refused (A q) = true
          · obtain ⟨r1, r2, r3, r4⟩ := ref_yes' hr
            have hg1 := gu_none' HG1.out r3
            have hf1 := fu_none' HF1.out r4
            have hg2 := gu_none' HG2.out r3
            have hf2 := fu_none' HF2.out r4
            subst hg1
            subst hf1
            subst hg2
            subst hf2
            rw [r1] at e0 d0
            rw [r2] at e1 d1
            clear HG1 HF1 HG2 HF2 HG3 HF3 r1 r2 r3 r4 c0 c1 c2 c3
            by_cases hs : ((A q).rc.toList == [83, 85, 67, 67, 69, 83, 83]) = true
            · clear hr
              go_wp2_with fail
              go_region_with (go_at_call 19; refine (same_nil' _ _ _).mono ?_; rintro e w7 ⟨rfl, hb7⟩)
              all_goals
                have hb8 := drawn_call hb7
                obtain ⟨j0, j1, j2, j3, j4, j5, j6, j7, j8, j9⟩ := (HJ.out.below hb8.block hb8.size).2 q hlt
                have u0 := (hb8.cell (p := ⟨w1.heap.size, q * 4, none⟩) m2).trans e0
                have u1 := (hb8.cell (p := ⟨w1.heap.size, q * 4 + 1, none⟩) m2).trans e1
                have u2 := (hb8.cell (p := ⟨w1.heap.size, q * 4 + 2, none⟩) m2).trans e2
                have u3 := (hb8.cell (p := ⟨w1.heap.size, q * 4 + 3, none⟩) m2).trans e3
                have s7 := hb8.size
                have m7 : b < w7.heap.size := by omega
                have m8 : w1.heap.size < w7.heap.size := by omega
                have HB8 : Hid (Below w6.heap.size w6 w7) := hbr.trans (hb8.mono sr)
                clear hb7 hb8
                go_wp2_with fail
                go_region_with (go_at_call 19; refine (same_nil' _ _ _).mono ?_; rintro e w9 ⟨rfl, hb9⟩)
                all_goals
                  have hb10 := two_more HB8.out (by omega) hb9
                  clear hb9
                  go_wp2
                  go_roundw
                  case rel => exact ⟨q + 1, by omega, by go_num, hb10⟩
                  case measure => simp [intOf]; omega
            · have hs2 : ((A q).rc.toList == [83, 85, 67, 67, 69, 83, 83]) = false := by simpa using hs
              have hs3 : ((A q).rc.toList == [81, 85, 79, 84, 65, 95, 76, 73, 77, 73, 84, 95, 82, 69, 65, 67, 72, 69, 68]) = true := by
                simp only [refused, Bool.or_eq_true] at hr
                exact hr.resolve_left hs
              clear hr hs
              go_wp2_with fail
              go_region_with (go_at_call 19; refine (same_nil' _ _ _).mono ?_; rintro e w7 ⟨rfl, hb7⟩)
              all_goals
                have hb8 := drawn_call hb7
                obtain ⟨j0, j1, j2, j3, j4, j5, j6, j7, j8, j9⟩ := (HJ.out.below hb8.block hb8.size).2 q hlt
                have u0 := (hb8.cell (p := ⟨w1.heap.size, q * 4, none⟩) m2).trans e0
                have u1 := (hb8.cell (p := ⟨w1.heap.size, q * 4 + 1, none⟩) m2).trans e1
                have u2 := (hb8.cell (p := ⟨w1.heap.size, q * 4 + 2, none⟩) m2).trans e2
                have u3 := (hb8.cell (p := ⟨w1.heap.size, q * 4 + 3, none⟩) m2).trans e3
                have s7 := hb8.size
                have m7 : b < w7.heap.size := by omega
                have m8 : w1.heap.size < w7.heap.size := by omega
                have HB8 : Hid (Below w6.heap.size w6 w7) := hbr.trans (hb8.mono sr)
                clear hb7 hb8
                go_wp2_with fail
                go_region_with (go_at_call 19; refine (same_nil' _ _ _).mono ?_; rintro e w9 ⟨rfl, hb9⟩)
                all_goals
                  have hb10 := two_more HB8.out (by omega) hb9
                  clear hb9
                  go_wp2
                  go_roundw
                  case rel => exact ⟨q + 1, by omega, by go_num, hb10⟩
                  case measure => simp [intOf]; omega
          · have hr2 : refused (A q) = false := by simpa using hr
            have hno := ref_no' hr2
            rw [hno] at e0 e1 d0 d1 HG1 HF1 HG2 HF2
            simp only [refused, Bool.or_eq_false_iff] at hr2
            obtain ⟨hs2, hs3⟩ := hr2
            clear hr hno
            go_wp2_with fail
            go_region_with (go_at_call 19; refine (same_any _ (A q) w1.heap.size w2.heap.size w3.heap.size w4.heap.size _ _ _ _ ?_ ?_ ?_ ?_).mono ?_; exact HG1.out.kept (fun _ _ _ => rfl); exact HF1.out.kept (fun _ _ _ => rfl); exact HG2.out.kept (fun _ _ _ => rfl); exact HF2.out.kept (fun _ _ _ => rfl); rintro e w7 ⟨rfl, hb7⟩)
            all_goals
              have hb8 := drawn_call hb7
              obtain ⟨j0, j1, j2, j3, j4, j5, j6, j7, j8, j9⟩ := (HJ.out.below hb8.block hb8.size).2 q hlt
              have u0 := (hb8.cell (p := ⟨w1.heap.size, q * 4, none⟩) m2).trans e0
              have u1 := (hb8.cell (p := ⟨w1.heap.size, q * 4 + 1, none⟩) m2).trans e1
              have u2 := (hb8.cell (p := ⟨w1.heap.size, q * 4 + 2, none⟩) m2).trans e2
              have u3 := (hb8.cell (p := ⟨w1.heap.size, q * 4 + 3, none⟩) m2).trans e3
              have v0 := (hb8.cell (p := ⟨w.heap.size, q * 4, none⟩) m1).trans c0
              have v1 := (hb8.cell (p := ⟨w.heap.size, q * 4 + 1, none⟩) m1).trans c1
              have v2 := (hb8.cell (p := ⟨w.heap.size, q * 4 + 2, none⟩) m1).trans c2
              have v3 := (hb8.cell (p := ⟨w.heap.size, q * 4 + 3, none⟩) m1).trans c3
              have s7 := hb8.size
              have m7 : b < w7.heap.size := by omega
              have m8 : w1.heap.size < w7.heap.size := by omega
              have m9 : w.heap.size < w7.heap.size := by omega
              have HB8 : Hid (Below w6.heap.size w6 w7) := hbr.trans (hb8.mono sr)
              have HGa : Hid (GuAt w7 w1.heap.size w2.heap.size (A q) g1) := HG1.out.kept (fun x _ h => hb8.block x (by omega))
              have HFa : Hid (FuAt w7 w1.heap.size w2.heap.size (A q) f1) := HF1.out.kept (fun x _ h => hb8.block x (by omega))
              have HGb : Hid (GuAt w7 w.heap.size w1.heap.size (A q) g3) := HG3.out.kept (fun x _ h => hb8.block x (by omega))
              have HFb : Hid (FuAt w7 w.heap.size w1.heap.size (A q) f3) := HF3.out.kept (fun x _ h => hb8.block x (by omega))
              clear hb7 hb8
              go_wp2_with fail
              go_region_with (go_at_call 19; refine (same_any _ (A q) w1.heap.size w2.heap.size w.heap.size w1.heap.size _ _ _ _ ?_ ?_ ?_ ?_).mono ?_; exact HGa.out.kept (fun _ _ h => Below.heap_alloc _ _ _ (by omega)); exact HFa.out.kept (fun _ _ h => Below.heap_alloc _ _ _ (by omega)); exact HGb.out.kept (fun _ _ h => Below.heap_alloc _ _ _ (by omega)); exact HFb.out.kept (fun _ _ h => Below.heap_alloc _ _ _ (by omega)); rintro e w9 ⟨rfl, hb9⟩)
              all_goals
                have hb10 := one_more HB8.out (by omega) hb9
                clear hb9
                go_wp2
                go_roundw
                case rel => exact ⟨q + 1, by omega, by go_num, hb10⟩
                case measure => simp [intOf]; omega
        · have hqk : q = k := by omega
          subst hqk
          go_wp2
          go_ret
          exact ⟨rfl, HB6.out.trans (hbr.mono (by omega))⟩
end Go.Proofs.Qxb6619635a
