/-
  FnRefuseSplitsAtAnyCutAndLeavesNoSuccess (function 6).
-/
import Derived.Test.Qxb6619635aBytesA
namespace Go.Proofs.Qxb6619635a
open Go.RowKit

set_option maxHeartbeats 3200000 in
set_option maxRecDepth 100000 in
/-- Too many answers, or a cut outside: true. -/
theorem law6_out (b o n c : Nat) (A : Nat → Ans) (y : Int) (w : World) (h : InRow w b o n A) (hout : 4096 < n ∨ y < 0 ∨ (n : Int) < y) :
    Calls Try.prog 6 #[.slice (some ⟨b, o, none⟩) n c, .int .i64 y] w fun e w' => e = .returned (.bool true) ∧ w = w' := by
  have HB := bytes16_any b o n c A y w h
  have HH : Hid (Calls _ _ _ _ _) := HB
  have HI : Hid (InRow w b o n A) := h
  clear HB h
  by_cases hn : 4096 < n
  · clear hout
    go_enter Try.func6, Try.ntmps6
    go_wp2_with (go_at_call 16; refine Calls.mono HH.out ?_; rintro e w' ⟨⟨r, rfl⟩, rfl⟩; cases r)
    all_goals (go_ret; exact ⟨rfl, rfl⟩)
  · have hcut : (decide (y < 0) || decide ((n : Int) < y)) = true := by simp; omega
    clear hout
    by_cases hy : y < 0
    · go_enter Try.func6, Try.ntmps6
      go_wp2_with (go_at_call 16; refine Calls.mono HH.out ?_; rintro e w' ⟨⟨r, rfl⟩, rfl⟩; cases r)
      · go_ret; exact ⟨rfl, rfl⟩
      go_loop [5, 6] (fun v i => ∃ (k : Nat) (z : Int), k ≤ n ∧ i = .int .i64 k ∧ v = .int .i64 z) (fun _ i => n - (intOf i).toNat)
      case atStart => exact ⟨0, _, Nat.zero_le _, rfl, rfl⟩
      case round =>
        obtain ⟨k, z, hk, rfl, rfl⟩ := hrel
        by_cases hlt : k < n
        · obtain ⟨x0, -, -, -, -, -, -, -, -, x9⟩ := HI.out.2 k hlt
          go_wp2
          all_goals first
            | (go_ret; exact ⟨rfl, rfl⟩)
            | (go_round
               case rel => exact ⟨k + 1, _, by omega, by go_num, rfl⟩
               case measure => simp [intOf]; omega)
        · go_wp2
          go_ret
          exact ⟨rfl, rfl⟩
    · have hy2 : (n : Int) < y := by simp at hcut; omega
      go_enter Try.func6, Try.ntmps6
      go_wp2_with (go_at_call 16; refine Calls.mono HH.out ?_; rintro e w' ⟨⟨r, rfl⟩, rfl⟩; cases r)
      · go_ret; exact ⟨rfl, rfl⟩
      go_loop [5, 6] (fun v i => ∃ (k : Nat) (z : Int), k ≤ n ∧ i = .int .i64 k ∧ v = .int .i64 z) (fun _ i => n - (intOf i).toNat)
      case atStart => exact ⟨0, _, Nat.zero_le _, rfl, rfl⟩
      case round =>
        obtain ⟨k, z, hk, rfl, rfl⟩ := hrel
        by_cases hlt : k < n
        · obtain ⟨x0, -, -, -, -, -, -, -, -, x9⟩ := HI.out.2 k hlt
          go_wp2
          all_goals first
            | (go_ret; exact ⟨rfl, rfl⟩)
            | (go_round
               case rel => exact ⟨k + 1, _, by omega, by go_num, rfl⟩
               case measure => simp [intOf]; omega)
        · go_wp2
          go_ret
          exact ⟨rfl, rfl⟩

theorem keep_grown {w w' : World} {N lo hi : Nat} (hg : w.grownBy w' (some N)) (hh : hi ≤ w.heap.size) (hN : N < lo ∨ hi ≤ N) : ∀ b, lo ≤ b → b < hi → w'.heap[b]? = w.heap[b]? :=
  fun b h1 h2 => hg.block b (by omega) (fun e => by have := Option.some.inj e; omega)

theorem InRow.grown {w w' : World} {b o n N B : Nat} {A : Nat → Ans} (h : InRow w b o n A) (hb : b < B) (hg : w.grownBy w' (some N)) (hN : B ≤ N) : InRow w' b o n A := by
  have hne : w'.heap[b]? = w.heap[b]? := hg.block b h.1 (fun e => by have := Option.some.inj e; omega)
  have e : ∀ i, w'.cell? ⟨b, i, none⟩ = w.cell? ⟨b, i, none⟩ := fun i => World.cell?_of_block hne
  refine ⟨Nat.lt_of_lt_of_le h.1 hg.size, fun k hk => ?_⟩
  obtain ⟨h0, h1, h2, h3, h4, h5, h6, h7, h8, h9⟩ := h.2 k hk
  exact ⟨(e _).trans h0, (e _).trans h1, (e _).trans h2, (e _).trans h3, (e _).trans h4, (e _).trans h5, (e _).trans h6, (e _).trans h7, (e _).trans h8, (e _).trans h9⟩

/-- Old cells and old marks read as before. -/
theorem bcell {W w1 : World} (hb : Below W.heap.size W w1) : (∀ b o, b < W.heap.size → w1.cell? ⟨b, o, none⟩ = W.cell? ⟨b, o, none⟩) ∧ (∀ b o, b < W.heap.size → w1.frozen? ⟨b, o, none⟩ = W.frozen? ⟨b, o, none⟩) :=
  ⟨fun b o h => hb.cell (p := ⟨b, o, none⟩) h, fun b o h => hb.frozen (p := ⟨b, o, none⟩) h⟩

/-- Behind a call that only made memory: the second of two new blocks, and what was there before. -/
theorem second_kept {wr w7 : World} {P : Obj} {a b c d : Value} {e : TypeId} (hb : Below ((wr.alloc P).alloc (.cells #[a, b, c, d] e)).heap.size ((wr.alloc P).alloc (.cells #[a, b, c, d] e)) w7) :
    (w7.cell? ⟨wr.heap.size + 1, 0, none⟩ = some a ∧ w7.cell? ⟨wr.heap.size + 1, 1, none⟩ = some b ∧ w7.cell? ⟨wr.heap.size + 1, 2, none⟩ = some c ∧ w7.cell? ⟨wr.heap.size + 1, 3, none⟩ = some d) ∧ wr.heap.size + 1 < w7.heap.size ∧ Below wr.heap.size wr w7 := by
  have hs := hb.size
  rw [World.size_alloc, World.size_alloc] at hs
  have hh : w7.heap[wr.heap.size + 1]? = some (.cells #[a, b, c, d] e) := by
    rw [hb.block (wr.heap.size + 1) (by rw [World.size_alloc, World.size_alloc]; omega)]
    exact blk (wr.alloc P) _ _ (World.size_alloc _ _)
  refine ⟨⟨blk_cell hh 0, blk_cell hh 1, blk_cell hh 2, blk_cell hh 3⟩, by omega, ?_⟩
  exact (((Below.refl wr.heap.size wr).alloc (Nat.le_refl _) P).alloc (by rw [World.size_alloc]; omega) _).trans (hb.mono (by rw [World.size_alloc, World.size_alloc]; omega))

theorem two_old (w : World) (A B : Obj) (u : Nat) (h : u < w.heap.size) : ((w.alloc A).alloc B).heap[u]? = w.heap[u]? := by
  rw [Below.heap_alloc _ _ _ (by rw [World.size_alloc]; omega), Below.heap_alloc _ _ _ h]
theorem same_nil (w : World) (rc : ByteArray) (rg : Int) :
    Calls Try.prog 19 #[.agg #[.string rc, .int .u32 rg, .pointer none, .pointer none], .agg #[.string rc, .int .u32 rg, .pointer none, .pointer none]] w fun e w' => e = .returned (.bool true) ∧ Below w.heap.size w w' :=
  same_any w ⟨rc, rg, false, 0, 0, 0, 0, 0, false, rc⟩ 0 0 0 0 none none none none (.inl ⟨rfl, rfl⟩) (.inl ⟨rfl, rfl⟩) (.inl ⟨rfl, rfl⟩) (.inl ⟨rfl, rfl⟩)

theorem ref_yes {a : Ans} (h : refused a = true) : (ref a).rc = ⟨#[81, 85, 79, 84, 65, 95, 76, 73, 77, 73, 84, 95, 82, 69, 65, 67, 72, 69, 68]⟩ ∧ (ref a).rg = a.rg ∧ (ref a).hg = false ∧ (ref a).hf = false := by
  unfold ref; rw [if_pos h]; exact ⟨rfl, rfl, rfl, rfl⟩
theorem ref_no {a : Ans} (h : refused a = false) : ref a = a := by
  unfold ref; rw [if_neg (by rw [h]; decide)]
theorem gu_none {w : World} {l h : Nat} {a : Ans} {gp : Option Addr} (G : GuAt w l h a gp) (e : a.hg = false) : gp = none := by
  rcases G with ⟨_, h⟩ | ⟨h, _⟩
  · exact h
  · rw [e] at h; cases h
theorem fu_none {w : World} {l h : Nat} {a : Ans} {gp : Option Addr} (G : FuAt w l h a gp) (e : a.hf = false) : gp = none := by
  rcases G with ⟨_, h⟩ | ⟨h, _⟩
  · exact h
  · rw [e] at h; cases h
theorem gu_some {w : World} {l h : Nat} {a : Ans} {gp : Option Addr} (G : GuAt w l h a gp) (e : a.hg = true) : ∃ p, gp = some p := by
  rcases G with ⟨h, _⟩ | ⟨_, g, h, _⟩
  · rw [e] at h; cases h
  · exact ⟨_, h⟩
theorem fu_some {w : World} {l h : Nat} {a : Ans} {gp : Option Addr} (G : FuAt w l h a gp) (e : a.hf = true) : ∃ p, gp = some p := by
  rcases G with ⟨h, _⟩ | ⟨_, g, h, _⟩
  · rw [e] at h; cases h
  · exact ⟨_, h⟩
theorem quota_not_success : ((⟨#[81, 85, 79, 84, 65, 95, 76, 73, 77, 73, 84, 95, 82, 69, 65, 67, 72, 69, 68]⟩ : ByteArray).toList == [83, 85, 67, 67, 69, 83, 83]) = false := by decide +kernel
theorem quota_is_quota : ((⟨#[81, 85, 79, 84, 65, 95, 76, 73, 77, 73, 84, 95, 82, 69, 65, 67, 72, 69, 68]⟩ : ByteArray).toList == [81, 85, 79, 84, 65, 95, 76, 73, 77, 73, 84, 95, 82, 69, 65, 67, 72, 69, 68]) = true := by decide +kernel

set_option maxHeartbeats 3200000 in
set_option maxRecDepth 100000 in
theorem law6_main (b o n cp : Nat) (A : Nat → Ans) (c : Nat) (w : World) (h : InRow w b o n A) (hn : n ≤ 4096) (hc : c ≤ n) :
    Calls Try.prog 6 #[.slice (some ⟨b, o, none⟩) n cp, .int .i64 c] w fun e w' => e = .returned (.bool true) ∧ Below w.heap.size w w' := by
  have HB := bytes16_any b o n cp A c w h
  have HH : Hid (Calls _ _ _ _ _) := HB
  have HI : Hid (InRow w b o n A) := h
  have hbw := h.1
  clear HB h
  go_enter Try.func6, Try.ntmps6
  go_wp2_with (go_at_call 16; refine Calls.mono HH.out ?_; rintro e w' ⟨⟨r, rfl⟩, rfl⟩; cases r)
  · go_ret; exact ⟨rfl, Below.refl _ _⟩
  go_loop [5, 6] (fun v i => ∃ (k : Nat) (z : Int), k ≤ n ∧ i = .int .i64 k ∧ v = .int .i64 z) (fun _ i => n - (intOf i).toNat)
  case atStart => exact ⟨0, _, Nat.zero_le _, rfl, rfl⟩
  case round =>
    obtain ⟨k, z, hk, rfl, rfl⟩ := hrel
    by_cases hlt : k < n
    · obtain ⟨x0, -, -, -, -, -, -, -, -, x9⟩ := HI.out.2 k hlt
      go_wp2
      all_goals first
        | (go_ret; exact ⟨rfl, Below.refl _ _⟩)
        | (go_round
           case rel => exact ⟨k + 1, _, by omega, by go_num, rfl⟩
           case measure => simp [intOf]; omega)
    · have hkn : k = n := by omega
      subst hkn
      clear hk
      go_wp2_with fail
      refine (answers_to b o k cp A k w (Nat.le_refl _) (by omega) HI.out).mono ?_
      rintro e w1 ⟨rfl, hb1, hO1⟩
      have HI1 : Hid (InRow w1 b o k A) := HI.out.below hb1.block hb1.size
      have HO1 : Hid (OutRow w1 w.heap.size w1.heap.size k A) := hO1
      clear hO1
      go_wp2_with fail
      refine (answers_to b o k cp A c w1 hc (by omega) HI1.out).mono ?_
      rintro e w2 ⟨rfl, hb2, hO2⟩
      have HI2 : Hid (InRow w2 b o k A) := HI1.out.below hb2.block hb2.size
      have HO2 : Hid (OutRow w2 w1.heap.size w2.heap.size c A) := hO2
      clear hO2
      go_wp2_with fail
      refine (answers_from b o k cp A c w2 hc (by omega) HI2.out).mono ?_
      rintro e w3 ⟨rfl, hb3, hO3⟩
      have HI3 : Hid (InRow w3 b o k A) := HI2.out.below hb3.block hb3.size
      have HO3 : Hid (OutRow w3 w2.heap.size w3.heap.size (k - c) (fun j => A (c + j))) := hO3
      clear hO3
      have s1 := hb1.size
      have s2 := hb2.size
      have s3 := hb3.size
      have l1 := HO1.out.1
      have l2 := HO2.out.1
      have l3 := HO3.out.1
      have P1 : Hid (OutRow w3 w.heap.size w1.heap.size k A) := (HO1.out.kept (fun x _ h => hb2.block x h)).kept (fun x _ h => hb3.block x (by omega))
      have P2 : Hid (OutRow w3 w1.heap.size w2.heap.size c A) := HO2.out.kept (fun x _ h => hb3.block x h)
      have HB3 : Hid (Below w.heap.size w w3) := (hb1.trans (hb2.mono (by omega))).trans (hb3.mono (by omega))
      clear HO1 HO2 HI1 HI2 hb1 hb2 hb3
      go_wp2_with fail
      refine (refuse18 w3 w.heap.size w1.heap.size k k A (by omega) (by omega) P1.out).mono ?_
      rintro e w4 ⟨rfl, g4, hQ1⟩
      have Q1 : Hid (OutRow w4 w.heap.size w1.heap.size k (fun j => ref (A j))) := hQ1
      have Q2 : Hid (OutRow w4 w1.heap.size w2.heap.size c A) := P2.out.kept (keep_grown g4 (by omega) (by omega))
      have Q3 : Hid (OutRow w4 w2.heap.size w3.heap.size (k - c) (fun j => A (c + j))) := HO3.out.kept (keep_grown g4 (by omega) (by omega))
      have HI4 : Hid (InRow w4 b o k A) := HI3.out.grown hbw g4 (Nat.le_refl _)
      have HB4 : Hid (Below w.heap.size w w4) := HB3.out.grown g4 (by omega) (fun j hj => by cases hj; exact Nat.le_refl _)
      have s4 := g4.size
      clear hQ1 P1 P2 HO3 HI3 HB3 g4
      go_wp2_with fail
      refine (refuse18 w4 w1.heap.size w2.heap.size c c A (by omega) (by omega) Q2.out).mono ?_
      rintro e w5 ⟨rfl, g5, hR2⟩
      have R2 : Hid (OutRow w5 w1.heap.size w2.heap.size c (fun j => ref (A j))) := hR2
      have R1 : Hid (OutRow w5 w.heap.size w1.heap.size k (fun j => ref (A j))) := Q1.out.kept (keep_grown g5 (by omega) (by omega))
      have R3 : Hid (OutRow w5 w2.heap.size w3.heap.size (k - c) (fun j => A (c + j))) := Q3.out.kept (keep_grown g5 (by omega) (by omega))
      have HI5 : Hid (InRow w5 b o k A) := HI4.out.grown hbw g5 (by omega)
      have HB5 : Hid (Below w.heap.size w w5) := HB4.out.grown g5 (by omega) (fun j hj => by cases hj; omega)
      have s5 := g5.size
      clear hR2 Q1 Q2 Q3 HI4 HB4 g5
      go_wp2_with fail
      refine (refuse18 w5 w2.heap.size w3.heap.size (k - c) (k - c) (fun j => A (c + j)) (by omega) (by omega) R3.out).mono ?_
      rintro e w6 ⟨rfl, g6, hS3⟩
      have S3 : Hid (OutRow w6 w2.heap.size w3.heap.size (k - c) (fun j => ref (A (c + j)))) := hS3
      have S1 : Hid (OutRow w6 w.heap.size w1.heap.size k (fun j => ref (A j))) := R1.out.kept (keep_grown g6 (by omega) (by omega))
      have S2 : Hid (OutRow w6 w1.heap.size w2.heap.size c (fun j => ref (A j))) := R2.out.kept (keep_grown g6 (by omega) (by omega))
      have HI6 : Hid (InRow w6 b o k A) := HI5.out.grown hbw g6 (by omega)
      have HB6 : Hid (Below w.heap.size w w6) := HB5.out.grown g6 (by omega) (fun j hj => by cases hj; omega)
      have s6 := g6.size
      clear hS3 R1 R2 R3 HI5 HB5 g6 HI
      go_wp2_with fail
      go_loopw [11, 12, 13, 14, 15, 16, 17] (fun a1 a2 b1 b2 c1 c2 i wr => ∃ (q x y z : Nat), q ≤ k ∧ x ≤ q ∧ y ≤ q ∧ z ≤ q ∧ i = .int .i64 q ∧ a1 = .int .i64 x ∧ a2 = .int .i64 x ∧ b1 = .int .i64 y ∧ b2 = .int .i64 y ∧ c1 = .int .i64 z ∧ c2 = .int .i64 z ∧ Below w6.heap.size w6 wr)
        (fun _ _ _ _ _ _ i _ => k - (intOf i).toNat)
      case atStart => exact ⟨0, 0, 0, 0, Nat.zero_le _, Nat.zero_le _, Nat.zero_le _, Nat.zero_le _, rfl, rfl, rfl, rfl, rfl, rfl, rfl, Below.refl _ _⟩
      case round =>
        obtain ⟨q, x, y, z, hq, hx, hy, hz, rfl, rfl, rfl, rfl, rfl, rfl, rfl, hbr⟩ := hrel
        have sr := hbr.size
        by_cases hlt : q < k
        · obtain ⟨gw, fw, e0, e1, e2, e3, G, F, -⟩ := (S1.out.kept (fun x _ h => hbr.block x (by omega))).2 q hlt
          obtain ⟨i0, i1, i2, i3, i4, i5, i6, i7, i8, i9⟩ := (HI6.out.below hbr.block hbr.size).2 q hlt
          have m0 : b < wr.heap.size := by omega
          have m1 : w.heap.size < wr.heap.size := by omega
          have m2 : w1.heap.size < wr.heap.size := by omega
          have m3 : w2.heap.size < wr.heap.size := by omega
          by_cases hr : refused (A q) = true
          · by_cases hqc : q < c
            · obtain ⟨r1, r2, r3, r4⟩ := ref_yes hr
              have hgw := gu_none G r3
              have hfw := fu_none F r4
              subst hgw
              subst hfw
              obtain ⟨gp, fp, d0, d1, d2, d3, G2, F2, -⟩ := (S2.out.kept (fun x _ h => hbr.block x (by omega))).2 q hqc
              have hgp := gu_none G2 r3
              have hfp := fu_none F2 r4
              subst hgp
              subst hfp
              rw [r1] at e0 d0
              rw [r2] at e1 d1
              clear G2 F2 G F
              have qs := quota_not_success
              have qq := quota_is_quota
              by_cases hs : ((A q).rc.toList == [83, 85, 67, 67, 69, 83, 83]) = true
              · clear hr
                go_wp2_with fail
                refine (same_nil _ _ _).mono ?_
                rintro e w7 ⟨rfl, hb7⟩
                obtain ⟨⟨t0, t1, t2, t3⟩, sz7, hb8⟩ := second_kept hb7
                obtain ⟨j0, j1, j2, j3, j4, j5, j6, j7, j8, j9⟩ := (HI6.out.below hbr.block hbr.size).below hb8.block hb8.size |>.2 q hlt
                clear hb7 i0 i1 i2 i3 i4 i5 i6 i7 i8 i9 d0 d1 d2 d3 e0 e1 e2 e3
                have m7 : b < w7.heap.size := by omega
                have s7 := hb8.size
                go_wp2
                go_roundw
                case rel => exact ⟨q + 1, x + 1, y, z, by omega, by omega, by omega, by omega, by go_num, by go_num, by go_num, rfl, rfl, rfl, rfl, (hbr.trans (hb8.mono sr)).alloc (by omega) _⟩
                case measure => simp [intOf]; omega
              · have hs2 : ((A q).rc.toList == [83, 85, 67, 67, 69, 83, 83]) = false := by simpa using hs
                have hs3 : ((A q).rc.toList == [81, 85, 79, 84, 65, 95, 76, 73, 77, 73, 84, 95, 82, 69, 65, 67, 72, 69, 68]) = true := by
                  simp only [refused, Bool.or_eq_true] at hr
                  exact hr.resolve_left hs
                clear hr hs
                go_wp2_with fail
                refine (same_nil _ _ _).mono ?_
                rintro e w7 ⟨rfl, hb7⟩
                obtain ⟨⟨t0, t1, t2, t3⟩, sz7, hb8⟩ := second_kept hb7
                obtain ⟨j0, j1, j2, j3, j4, j5, j6, j7, j8, j9⟩ := (HI6.out.below hbr.block hbr.size).below hb8.block hb8.size |>.2 q hlt
                clear hb7 i0 i1 i2 i3 i4 i5 i6 i7 i8 i9 d0 d1 d2 d3 e0 e1 e2 e3
                have m7 : b < w7.heap.size := by omega
                have s7 := hb8.size
                go_wp2
                go_roundw
                case rel => exact ⟨q + 1, x + 1, y, z, by omega, by omega, by omega, by omega, by go_num, by go_num, by go_num, rfl, rfl, rfl, rfl, (hbr.trans (hb8.mono sr)).alloc (by omega) _⟩
                case measure => simp [intOf]; omega
            · obtain ⟨r1, r2, r3, r4⟩ := ref_yes hr
              have hgw := gu_none G r3
              have hfw := fu_none F r4
              subst hgw
              subst hfw
              obtain ⟨gp, fp, d0, d1, d2, d3, G2, F2, -⟩ := (S3.out.kept (fun x _ h => hbr.block x (by omega))).2 (q - c) (by omega)
              have hcq : c + (q - c) = q := by omega
              simp only [hcq] at d0 d1 G2 F2
              clear hcq
              have hsub : ((q : Int) - (c : Int)) = ((q - c : Nat) : Int) := by omega
              have hgp := gu_none G2 r3
              have hfp := fu_none F2 r4
              subst hgp
              subst hfp
              rw [r1] at e0 d0
              rw [r2] at e1 d1
              clear G2 F2 G F
              have qs := quota_not_success
              have qq := quota_is_quota
              by_cases hs : ((A q).rc.toList == [83, 85, 67, 67, 69, 83, 83]) = true
              · clear hr
                go_wp2_with fail
                refine (same_nil _ _ _).mono ?_
                rintro e w7 ⟨rfl, hb7⟩
                obtain ⟨⟨t0, t1, t2, t3⟩, sz7, hb8⟩ := second_kept hb7
                obtain ⟨j0, j1, j2, j3, j4, j5, j6, j7, j8, j9⟩ := (HI6.out.below hbr.block hbr.size).below hb8.block hb8.size |>.2 q hlt
                clear hb7 i0 i1 i2 i3 i4 i5 i6 i7 i8 i9 d0 d1 d2 d3 e0 e1 e2 e3
                have m7 : b < w7.heap.size := by omega
                have s7 := hb8.size
                go_wp2
                go_roundw
                case rel => exact ⟨q + 1, x + 1, y, z, by omega, by omega, by omega, by omega, by go_num, by go_num, by go_num, rfl, rfl, rfl, rfl, (hbr.trans (hb8.mono sr)).alloc (by omega) _⟩
                case measure => simp [intOf]; omega
              · have hs2 : ((A q).rc.toList == [83, 85, 67, 67, 69, 83, 83]) = false := by simpa using hs
                have hs3 : ((A q).rc.toList == [81, 85, 79, 84, 65, 95, 76, 73, 77, 73, 84, 95, 82, 69, 65, 67, 72, 69, 68]) = true := by
                  simp only [refused, Bool.or_eq_true] at hr
                  exact hr.resolve_left hs
                clear hr hs
                go_wp2_with fail
                refine (same_nil _ _ _).mono ?_
                rintro e w7 ⟨rfl, hb7⟩
                obtain ⟨⟨t0, t1, t2, t3⟩, sz7, hb8⟩ := second_kept hb7
                obtain ⟨j0, j1, j2, j3, j4, j5, j6, j7, j8, j9⟩ := (HI6.out.below hbr.block hbr.size).below hb8.block hb8.size |>.2 q hlt
                clear hb7 i0 i1 i2 i3 i4 i5 i6 i7 i8 i9 d0 d1 d2 d3 e0 e1 e2 e3
                have m7 : b < w7.heap.size := by omega
                have s7 := hb8.size
                go_wp2
                go_roundw
                case rel => exact ⟨q + 1, x + 1, y, z, by omega, by omega, by omega, by omega, by go_num, by go_num, by go_num, rfl, rfl, rfl, rfl, (hbr.trans (hb8.mono sr)).alloc (by omega) _⟩
                case measure => simp [intOf]; omega
          · by_cases hqc : q < c
            · have hr2 : refused (A q) = false := by simpa using hr
              have hno := ref_no hr2
              obtain ⟨gp, fp, d0, d1, d2, d3, G2, F2, -⟩ := (S2.out.kept (fun x _ h => hbr.block x (by omega))).2 q hqc
              simp only [hno] at e0 e1 G F d0 d1 G2 F2
              simp only [refused, Bool.or_eq_false_iff] at hr2
              obtain ⟨hs2, hs3⟩ := hr2
              clear hr hno
              have HG : Hid (GuAt wr w.heap.size w1.heap.size (A q) gw) := G
              have HF : Hid (FuAt wr w.heap.size w1.heap.size (A q) fw) := F
              have HG2 : Hid (GuAt wr w1.heap.size w2.heap.size (A q) gp) := G2
              have HF2 : Hid (FuAt wr w1.heap.size w2.heap.size (A q) fp) := F2
              clear G F G2 F2
              cases hgu : (A q).hg
              · cases hfu : (A q).hf
                · obtain rfl := gu_none HG.out hgu
                  obtain rfl := fu_none HF.out hfu
                  have HU : Hid ((A q).hg = false) := hgu
                  have HV : Hid ((A q).hf = false) := hfu
                  clear hgu hfu
                  go_wp2_with fail
                  refine (same_any _ (A q) _ _ _ _ _ _ _ _ (HG.out.kept (fun u h1 h2 => ?k1)) (HF.out.kept (fun u h1 h2 => ?k2)) (HG2.out.kept (fun u h1 h2 => ?k3)) (HF2.out.kept (fun u h1 h2 => ?k4))).mono ?_
                  case k1 => exact two_old _ _ _ _ (by omega)
                  case k2 => exact two_old _ _ _ _ (by omega)
                  case k3 => exact two_old _ _ _ _ (by omega)
                  case k4 => exact two_old _ _ _ _ (by omega)
                  rintro e w7 ⟨rfl, hb7⟩
                  obtain ⟨⟨t0, t1, t2, t3⟩, sz7, hb8⟩ := second_kept hb7
                  obtain ⟨j0, j1, j2, j3, j4, j5, j6, j7, j8, j9⟩ := (HI6.out.below hbr.block hbr.size).below hb8.block hb8.size |>.2 q hlt
                  clear hb7 i0 i1 i2 i3 i4 i5 i6 i7 i8 i9 d0 d1 d2 d3 e0 e1 e2 e3
                  have m7 : b < w7.heap.size := by omega
                  have s7 := hb8.size
                  rw [HU.out] at j2
                  rw [HV.out] at j8
                  go_wp2
                  go_roundw
                  case rel => exact ⟨q + 1, x, y, z, by omega, by omega, by omega, by omega, by go_num, rfl, rfl, rfl, rfl, rfl, rfl, (hbr.trans (hb8.mono sr)).alloc (by omega) _⟩
                  case measure => simp [intOf]; omega
                · obtain rfl := gu_none HG.out hgu
                  obtain ⟨pf, rfl⟩ := fu_some HF.out hfu
                  have HU : Hid ((A q).hg = false) := hgu
                  have HV : Hid ((A q).hf = true) := hfu
                  clear hgu hfu
                  go_wp2_with fail
                  refine (same_any _ (A q) _ _ _ _ _ _ _ _ (HG.out.kept (fun u h1 h2 => ?k1)) (HF.out.kept (fun u h1 h2 => ?k2)) (HG2.out.kept (fun u h1 h2 => ?k3)) (HF2.out.kept (fun u h1 h2 => ?k4))).mono ?_
                  case k1 => exact two_old _ _ _ _ (by omega)
                  case k2 => exact two_old _ _ _ _ (by omega)
                  case k3 => exact two_old _ _ _ _ (by omega)
                  case k4 => exact two_old _ _ _ _ (by omega)
                  rintro e w7 ⟨rfl, hb7⟩
                  obtain ⟨⟨t0, t1, t2, t3⟩, sz7, hb8⟩ := second_kept hb7
                  obtain ⟨j0, j1, j2, j3, j4, j5, j6, j7, j8, j9⟩ := (HI6.out.below hbr.block hbr.size).below hb8.block hb8.size |>.2 q hlt
                  clear hb7 i0 i1 i2 i3 i4 i5 i6 i7 i8 i9 d0 d1 d2 d3 e0 e1 e2 e3
                  have m7 : b < w7.heap.size := by omega
                  have s7 := hb8.size
                  rw [HU.out] at j2
                  rw [HV.out] at j8
                  go_wp2
                  go_roundw
                  case rel => exact ⟨q + 1, x, y, z + 1, by omega, by omega, by omega, by omega, by go_num, rfl, rfl, rfl, rfl, by go_num, by go_num, (hbr.trans (hb8.mono sr)).alloc (by omega) _⟩
                  case measure => simp [intOf]; omega
              · cases hfu : (A q).hf
                · obtain ⟨pg, rfl⟩ := gu_some HG.out hgu
                  obtain rfl := fu_none HF.out hfu
                  have HU : Hid ((A q).hg = true) := hgu
                  have HV : Hid ((A q).hf = false) := hfu
                  clear hgu hfu
                  go_wp2_with fail
                  refine (same_any _ (A q) _ _ _ _ _ _ _ _ (HG.out.kept (fun u h1 h2 => ?k1)) (HF.out.kept (fun u h1 h2 => ?k2)) (HG2.out.kept (fun u h1 h2 => ?k3)) (HF2.out.kept (fun u h1 h2 => ?k4))).mono ?_
                  case k1 => exact two_old _ _ _ _ (by omega)
                  case k2 => exact two_old _ _ _ _ (by omega)
                  case k3 => exact two_old _ _ _ _ (by omega)
                  case k4 => exact two_old _ _ _ _ (by omega)
                  rintro e w7 ⟨rfl, hb7⟩
                  obtain ⟨⟨t0, t1, t2, t3⟩, sz7, hb8⟩ := second_kept hb7
                  obtain ⟨j0, j1, j2, j3, j4, j5, j6, j7, j8, j9⟩ := (HI6.out.below hbr.block hbr.size).below hb8.block hb8.size |>.2 q hlt
                  clear hb7 i0 i1 i2 i3 i4 i5 i6 i7 i8 i9 d0 d1 d2 d3 e0 e1 e2 e3
                  have m7 : b < w7.heap.size := by omega
                  have s7 := hb8.size
                  rw [HU.out] at j2
                  rw [HV.out] at j8
                  go_wp2
                  go_roundw
                  case rel => exact ⟨q + 1, x, y + 1, z, by omega, by omega, by omega, by omega, by go_num, rfl, rfl, by go_num, by go_num, rfl, rfl, (hbr.trans (hb8.mono sr)).alloc (by omega) _⟩
                  case measure => simp [intOf]; omega
                · obtain ⟨pg, rfl⟩ := gu_some HG.out hgu
                  obtain ⟨pf, rfl⟩ := fu_some HF.out hfu
                  have HU : Hid ((A q).hg = true) := hgu
                  have HV : Hid ((A q).hf = true) := hfu
                  clear hgu hfu
                  go_wp2_with fail
                  refine (same_any _ (A q) _ _ _ _ _ _ _ _ (HG.out.kept (fun u h1 h2 => ?k1)) (HF.out.kept (fun u h1 h2 => ?k2)) (HG2.out.kept (fun u h1 h2 => ?k3)) (HF2.out.kept (fun u h1 h2 => ?k4))).mono ?_
                  case k1 => exact two_old _ _ _ _ (by omega)
                  case k2 => exact two_old _ _ _ _ (by omega)
                  case k3 => exact two_old _ _ _ _ (by omega)
                  case k4 => exact two_old _ _ _ _ (by omega)
                  rintro e w7 ⟨rfl, hb7⟩
                  obtain ⟨⟨t0, t1, t2, t3⟩, sz7, hb8⟩ := second_kept hb7
                  obtain ⟨j0, j1, j2, j3, j4, j5, j6, j7, j8, j9⟩ := (HI6.out.below hbr.block hbr.size).below hb8.block hb8.size |>.2 q hlt
                  clear hb7 i0 i1 i2 i3 i4 i5 i6 i7 i8 i9 d0 d1 d2 d3 e0 e1 e2 e3
                  have m7 : b < w7.heap.size := by omega
                  have s7 := hb8.size
                  rw [HU.out] at j2
                  rw [HV.out] at j8
                  go_wp2
                  go_roundw
                  case rel => exact ⟨q + 1, x, y + 1, z + 1, by omega, by omega, by omega, by omega, by go_num, rfl, rfl, by go_num, by go_num, by go_num, by go_num, (hbr.trans (hb8.mono sr)).alloc (by omega) _⟩
                  case measure => simp [intOf]; omega
            · have hr2 : refused (A q) = false := by simpa using hr
              have hno := ref_no hr2
              obtain ⟨gp, fp, d0, d1, d2, d3, G2, F2, -⟩ := (S3.out.kept (fun x _ h => hbr.block x (by omega))).2 (q - c) (by omega)
              have hcq : c + (q - c) = q := by omega
              simp only [hcq] at d0 d1 G2 F2
              clear hcq
              have hsub : ((q : Int) - (c : Int)) = ((q - c : Nat) : Int) := by omega
              simp only [hno] at e0 e1 G F d0 d1 G2 F2
              simp only [refused, Bool.or_eq_false_iff] at hr2
              obtain ⟨hs2, hs3⟩ := hr2
              clear hr hno
              have HG : Hid (GuAt wr w.heap.size w1.heap.size (A q) gw) := G
              have HF : Hid (FuAt wr w.heap.size w1.heap.size (A q) fw) := F
              have HG2 : Hid (GuAt wr w2.heap.size w3.heap.size (A q) gp) := G2
              have HF2 : Hid (FuAt wr w2.heap.size w3.heap.size (A q) fp) := F2
              clear G F G2 F2
              cases hgu : (A q).hg
              · cases hfu : (A q).hf
                · obtain rfl := gu_none HG.out hgu
                  obtain rfl := fu_none HF.out hfu
                  have HU : Hid ((A q).hg = false) := hgu
                  have HV : Hid ((A q).hf = false) := hfu
                  clear hgu hfu
                  go_wp2_with fail
                  refine (same_any _ (A q) _ _ _ _ _ _ _ _ (HG.out.kept (fun u h1 h2 => ?k1)) (HF.out.kept (fun u h1 h2 => ?k2)) (HG2.out.kept (fun u h1 h2 => ?k3)) (HF2.out.kept (fun u h1 h2 => ?k4))).mono ?_
                  case k1 => exact two_old _ _ _ _ (by omega)
                  case k2 => exact two_old _ _ _ _ (by omega)
                  case k3 => exact two_old _ _ _ _ (by omega)
                  case k4 => exact two_old _ _ _ _ (by omega)
                  rintro e w7 ⟨rfl, hb7⟩
                  obtain ⟨⟨t0, t1, t2, t3⟩, sz7, hb8⟩ := second_kept hb7
                  obtain ⟨j0, j1, j2, j3, j4, j5, j6, j7, j8, j9⟩ := (HI6.out.below hbr.block hbr.size).below hb8.block hb8.size |>.2 q hlt
                  clear hb7 i0 i1 i2 i3 i4 i5 i6 i7 i8 i9 d0 d1 d2 d3 e0 e1 e2 e3
                  have m7 : b < w7.heap.size := by omega
                  have s7 := hb8.size
                  rw [HU.out] at j2
                  rw [HV.out] at j8
                  go_wp2
                  go_roundw
                  case rel => exact ⟨q + 1, x, y, z, by omega, by omega, by omega, by omega, by go_num, rfl, rfl, rfl, rfl, rfl, rfl, (hbr.trans (hb8.mono sr)).alloc (by omega) _⟩
                  case measure => simp [intOf]; omega
                · obtain rfl := gu_none HG.out hgu
                  obtain ⟨pf, rfl⟩ := fu_some HF.out hfu
                  have HU : Hid ((A q).hg = false) := hgu
                  have HV : Hid ((A q).hf = true) := hfu
                  clear hgu hfu
                  go_wp2_with fail
                  refine (same_any _ (A q) _ _ _ _ _ _ _ _ (HG.out.kept (fun u h1 h2 => ?k1)) (HF.out.kept (fun u h1 h2 => ?k2)) (HG2.out.kept (fun u h1 h2 => ?k3)) (HF2.out.kept (fun u h1 h2 => ?k4))).mono ?_
                  case k1 => exact two_old _ _ _ _ (by omega)
                  case k2 => exact two_old _ _ _ _ (by omega)
                  case k3 => exact two_old _ _ _ _ (by omega)
                  case k4 => exact two_old _ _ _ _ (by omega)
                  rintro e w7 ⟨rfl, hb7⟩
                  obtain ⟨⟨t0, t1, t2, t3⟩, sz7, hb8⟩ := second_kept hb7
                  obtain ⟨j0, j1, j2, j3, j4, j5, j6, j7, j8, j9⟩ := (HI6.out.below hbr.block hbr.size).below hb8.block hb8.size |>.2 q hlt
                  clear hb7 i0 i1 i2 i3 i4 i5 i6 i7 i8 i9 d0 d1 d2 d3 e0 e1 e2 e3
                  have m7 : b < w7.heap.size := by omega
                  have s7 := hb8.size
                  rw [HU.out] at j2
                  rw [HV.out] at j8
                  go_wp2
                  go_roundw
                  case rel => exact ⟨q + 1, x, y, z + 1, by omega, by omega, by omega, by omega, by go_num, rfl, rfl, rfl, rfl, by go_num, by go_num, (hbr.trans (hb8.mono sr)).alloc (by omega) _⟩
                  case measure => simp [intOf]; omega
              · cases hfu : (A q).hf
                · obtain ⟨pg, rfl⟩ := gu_some HG.out hgu
                  obtain rfl := fu_none HF.out hfu
                  have HU : Hid ((A q).hg = true) := hgu
                  have HV : Hid ((A q).hf = false) := hfu
                  clear hgu hfu
                  go_wp2_with fail
                  refine (same_any _ (A q) _ _ _ _ _ _ _ _ (HG.out.kept (fun u h1 h2 => ?k1)) (HF.out.kept (fun u h1 h2 => ?k2)) (HG2.out.kept (fun u h1 h2 => ?k3)) (HF2.out.kept (fun u h1 h2 => ?k4))).mono ?_
                  case k1 => exact two_old _ _ _ _ (by omega)
                  case k2 => exact two_old _ _ _ _ (by omega)
                  case k3 => exact two_old _ _ _ _ (by omega)
                  case k4 => exact two_old _ _ _ _ (by omega)
                  rintro e w7 ⟨rfl, hb7⟩
                  obtain ⟨⟨t0, t1, t2, t3⟩, sz7, hb8⟩ := second_kept hb7
                  obtain ⟨j0, j1, j2, j3, j4, j5, j6, j7, j8, j9⟩ := (HI6.out.below hbr.block hbr.size).below hb8.block hb8.size |>.2 q hlt
                  clear hb7 i0 i1 i2 i3 i4 i5 i6 i7 i8 i9 d0 d1 d2 d3 e0 e1 e2 e3
                  have m7 : b < w7.heap.size := by omega
                  have s7 := hb8.size
                  rw [HU.out] at j2
                  rw [HV.out] at j8
                  go_wp2
                  go_roundw
                  case rel => exact ⟨q + 1, x, y + 1, z, by omega, by omega, by omega, by omega, by go_num, rfl, rfl, by go_num, by go_num, rfl, rfl, (hbr.trans (hb8.mono sr)).alloc (by omega) _⟩
                  case measure => simp [intOf]; omega
                · obtain ⟨pg, rfl⟩ := gu_some HG.out hgu
                  obtain ⟨pf, rfl⟩ := fu_some HF.out hfu
                  have HU : Hid ((A q).hg = true) := hgu
                  have HV : Hid ((A q).hf = true) := hfu
                  clear hgu hfu
                  go_wp2_with fail
                  refine (same_any _ (A q) _ _ _ _ _ _ _ _ (HG.out.kept (fun u h1 h2 => ?k1)) (HF.out.kept (fun u h1 h2 => ?k2)) (HG2.out.kept (fun u h1 h2 => ?k3)) (HF2.out.kept (fun u h1 h2 => ?k4))).mono ?_
                  case k1 => exact two_old _ _ _ _ (by omega)
                  case k2 => exact two_old _ _ _ _ (by omega)
                  case k3 => exact two_old _ _ _ _ (by omega)
                  case k4 => exact two_old _ _ _ _ (by omega)
                  rintro e w7 ⟨rfl, hb7⟩
                  obtain ⟨⟨t0, t1, t2, t3⟩, sz7, hb8⟩ := second_kept hb7
                  obtain ⟨j0, j1, j2, j3, j4, j5, j6, j7, j8, j9⟩ := (HI6.out.below hbr.block hbr.size).below hb8.block hb8.size |>.2 q hlt
                  clear hb7 i0 i1 i2 i3 i4 i5 i6 i7 i8 i9 d0 d1 d2 d3 e0 e1 e2 e3
                  have m7 : b < w7.heap.size := by omega
                  have s7 := hb8.size
                  rw [HU.out] at j2
                  rw [HV.out] at j8
                  go_wp2
                  go_roundw
                  case rel => exact ⟨q + 1, x, y + 1, z + 1, by omega, by omega, by omega, by omega, by go_num, rfl, rfl, by go_num, by go_num, by go_num, by go_num, (hbr.trans (hb8.mono sr)).alloc (by omega) _⟩
                  case measure => simp [intOf]; omega
        · have hqk : q = k := by omega
          subst hqk
          go_wp2
          go_ret
          exact ⟨rfl, HB6.out.trans (hbr.mono (by omega))⟩
end Go.Proofs.Qxb6619635a
