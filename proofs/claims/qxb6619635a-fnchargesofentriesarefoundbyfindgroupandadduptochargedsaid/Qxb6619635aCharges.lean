/-
  chargesOf (function 21) and ZZChargesOf (function 9) by contracts.
-/
import Derived.Test.Qxb6619635aMade
import Derived.Deep.QuietTactic
import Derived.BigQuiet
import Derived.Deep.RegionLawGrows
namespace Go.Proofs.Qxb6619635a
open Go.RowKit

theorem Try.info33 : (Try.prog.info? 33).map (fun i => (i.zero, i.size, i.bytes)) = some (some (.agg #[.int .u32 0, .int .i64 0]), 2, 16) := by kernel_rfl

/-- append onto a row of the call's own, with room or without, as one step of a region that draws. -/
theorem step_append_mine {P : Program} {ops : Array Oper} {o : Oper} {a : Act} {w : World} {K : Act → World → Prop} {Q : Exit → Act → World → Prop} {E : Prop}
    (hg : o.guard = none) (s x : Operand) (t : TypeId) (hop : o.op = Op.call { callee := Callee.builtin Builtin.append, args := #[s, x], argTypes := #[t, t] })
    (base : Nat) (e : TypeId) (i : TypeInfo) (z : Value) (size bytes : Nat) (h1 : P.underlying t = some (.slice e)) (h2 : P.info? e = some i) (h3 : i.zero = some z) (h4 : i.size = size) (h5 : i.bytes = bytes) (h6 : z.cells.size = size) (h7 : 0 < size)
    (v : Value) (n : Nat) (xs : List Value) (hs : a.eval s = v) (hown : w.ownsRow base e size v n xs)
    (ad : Addr) (m c : Nat) (news : List Value) (hx : a.eval x = .slice (some ad) m c) (hl : news.length = m * size) (hnews : ∀ j u, news[j]? = some u → w.cell? (ad.add j) = some u) (h1c : ∀ u ∈ news, u.oneCell' = true)
    (h63 : n + m ≤ maxLen) (hbytes : (n + m) * bytes ≤ 140737488355328) (hbase : base ≤ w.heap.size)
    (hK : ∀ v' w', w'.ownsRow base e size v' (n + m) (xs ++ news) → w.grownBy w' v.ownBlock → K (a.put o.dst v') w') :
    if Region.wanted o (yielded ops a.tmps) = true then Oper.wp P o a w K Q else E := by
  have hw : Region.wanted o (yielded ops a.tmps) = true := by simp [Region.wanted, hg]
  rw [if_pos hw]
  exact wp_append_own w s x t hop base e i z size bytes h1 h2 h3 h4 h5 h6 h7 v n xs hs hown ad m c news hx hl hnews h1c h63 hbytes hbase (fun v' w' r1 r2 _ => hK v' w' r1 r2)

/-- The cells of k charges. -/
def chCells (rg am : Nat → Int) (k : Nat) : List Value := (List.range k).flatMap fun j => [.int .u32 (rg j), .int .i64 (am j)]

theorem chCells_succ (rg am : Nat → Int) (k : Nat) : chCells rg am (k + 1) = chCells rg am k ++ [.int .u32 (rg k), .int .i64 (am k)] := by
  simp [chCells, List.range_succ]

theorem mine_form {w : World} {base : Nat} {e : TypeId} {size : Nat} {v : Value} {n : Nat} {xs : List Value} (h : w.ownsRow base e size v (n + 1) xs) : ∃ g c, v = .slice (some ⟨g, 0, none⟩) (n + 1) c := by
  rcases h.2 with ⟨_, h0⟩ | ⟨g, c, _, hv, _⟩
  · omega
  · exact ⟨g, c, hv⟩

theorem cell_new2 (w : World) (A : Obj) (x y : Value) (t : TypeId) (s : Nat) (hs : w.heap.size + 1 = s) : ∀ j u, [x, y][j]? = some u → ((w.alloc A).alloc (.cells #[x, y] t)).cell? ((⟨s, 0, none⟩ : Addr).add j) = some u := by
  intro j u hj
  subst hs
  have h := heap_alloc_new (w.alloc A) (.cells #[x, y] t)
  rw [World.size_alloc] at h
  rw [Addr.add_lit, cell_of_row _ (w.heap.size + 1) (0 + j) #[x, y] t (0, 0) h]
  simpa using hj

theorem below_two (w : World) (A B : Obj) : Below w.heap.size w ((w.alloc A).alloc B) :=
  ((Below.refl w.heap.size w).alloc (Nat.le_refl _) A).alloc (by rw [World.size_alloc]; omega) B

/-- What an append onto the call's own row leaves of the cell in block B. -/
theorem ch_keep {w wr w1 w2 : World} {B k : Nat} {v : Value} {xs : List Value} (hbel : Below B w wr) (hsz : B < wr.heap.size) (hE : wr.cell? ⟨B, 0, none⟩ = some v) (hEf : wr.frozen? ⟨B, 0, none⟩ = false)
    (hown : wr.ownsRow (B + 1) 33 2 v k xs) (hb : Below wr.heap.size wr w1) (hg : w1.grownBy w2 v.ownBlock) :
    w2.cell? ⟨B, 0, none⟩ = some v ∧ w2.frozen? ⟨B, 0, none⟩ = false ∧ Below B w w2 ∧ B < w2.heap.size := by
  have hne : some B ≠ v.ownBlock := fun h => by have := hown.lt B h.symm; omega
  have h1 : w1.cell? ⟨B, 0, none⟩ = some v := (hb.cell (p := ⟨B, 0, none⟩) hsz).trans hE
  have hs1 := hb.size
  have hs2 := hg.size
  refine ⟨hg.cell h1 hne, ?_, ?_, by omega⟩
  · rw [World.frozen?_of_block (w := w1) (hg.block B (by omega) hne)]
    exact (hb.frozen (p := ⟨B, 0, none⟩) hsz).trans hEf
  · exact (hbel.trans (hb.mono (by omega))).grown hg (by omega) (fun j hj => by have := hown.lt j hj; omega)

set_option maxHeartbeats 1600000 in
theorem charges21 (w : World) (G m cap : Nat) (P T : Nat → Nat) (rg ch bf : Nat → Int) (hm : m ≤ 65536) (hm0 : 0 < m) (hg : GroupsAt w G 0 m P T rg ch bf) :
    Calls Try.prog 21 #[.slice (some ⟨G, 0, none⟩) m cap] w fun e w' => e = .returned (.pointer (some ⟨w.heap.size, 0, none⟩)) ∧ Below w.heap.size w w' ∧
      ∃ ao c, w'.cell? ⟨w.heap.size, 0, none⟩ = some (.slice ao m c) ∧ w'.ownsRow (w.heap.size + 1) 33 2 (.slice ao m c) m (chCells rg (fun j => wrap64 (ch j - bf j)) m) := by
  obtain ⟨i0, hi, hz0, hz1, hz2⟩ := info_parts Try.info33
  have HG : Hid (GroupsAt w G 0 m P T rg ch bf) := hg
  clear hg
  have hne : ((m : Int) == 0) = false := beq_eq_false_iff_ne.2 (by omega)
  go_enter Try.func21, Try.ntmps21
  go_wp2
  go_loopw [14] (fun i wr => ∃ (k : Nat) (ao : Option Addr) (c : Nat), k ≤ m ∧ i = .int .i64 k ∧ Below w.heap.size w wr ∧ wr.cell? ⟨w.heap.size, 0, none⟩ = some (.slice ao k c) ∧ wr.frozen? ⟨w.heap.size, 0, none⟩ = false ∧
      wr.ownsRow (w.heap.size + 1) 33 2 (.slice ao k c) k (chCells rg (fun j => wrap64 (ch j - bf j)) k))
    (fun i _ => m - (intOf i).toNat)
  case atStart => exact ⟨0, none, 0, Nat.zero_le _, rfl, (Below.refl _ _).alloc (Nat.le_refl _) _, by simp, by simp, World.ownsRow_nil _ _ _ _⟩
  case round =>
    obtain ⟨k, ao, c, hk, rfl, hbel, hE, hEf, hown⟩ := hrel
    have HO : Hid (wr.ownsRow (w.heap.size + 1) 33 2 (.slice ao k c) k (chCells rg (fun j => wrap64 (ch j - bf j)) k)) := hown
    clear hown
    have hsz := hbel.size
    have hEl := World.block_lt_of_cell? wr _ hE
    by_cases hlt : k < m
    · obtain ⟨g1, g2, g3, g4, g5⟩ := HG.out k hlt
      have e1 := (hbel.cell (World.block_lt_of_cell? w _ g1)).trans g1
      have e2 := (hbel.cell (World.block_lt_of_cell? w _ g2)).trans g2
      have e3 := (hbel.cell (World.block_lt_of_cell? w _ g3)).trans g3
      have e4 := (hbel.cell (World.block_lt_of_cell? w _ g4)).trans g4
      have e5 := (hbel.cell (World.block_lt_of_cell? w _ g5)).trans g5
      rw [Nat.zero_add] at e1
      have l1 := World.block_lt_of_cell? wr _ e2
      have l2 := World.block_lt_of_cell? wr _ e3
      simp only at l1 l2 hEl
      clear g1 g2 g3 g4 g5
      go_wp2
      go_region
      go_wp2
      go_region_law (refine step_append_mine rfl (.tmp 39) (.tmp 41) 29 rfl (w.heap.size + 1) 33 i0 (.agg #[.int .u32 0, .int .i64 0]) 2 16 Try.underlying29 hi hz0 hz1 hz2 rfl (by decide) (.slice ao k c) k _ rfl ((HO.out.alloc _).alloc _).drew.drew ⟨wr.heap.size + 1, 0, none⟩ 1 1 [.int .u32 (rg k), .int .i64 (wrap64 (ch k - bf k))] rfl rfl (cell_new2 _ _ _ _ _ _ rfl) (by intro u hu; simp at hu; rcases hu with rfl | rfl <;> rfl) (by unfold maxLen; omega) (by omega) (by have := (below_two wr (.cells #[] 33) (.cells #[] 33)).size; simp; omega) ?_; intro v' w2 hown2 hgrow2; obtain ⟨g, c2, rfl⟩ := mine_form hown2; obtain ⟨f1, f2, f3, f4⟩ := ch_keep hbel hEl hE hEf HO.out (below_two wr _ _).drew.drew hgrow2)
      all_goals
        have HO2 : Hid (w2.ownsRow (w.heap.size + 1) 33 2 (.slice (some ⟨g, 0, none⟩) (k + 1) c2) (k + 1) (chCells rg (fun j => wrap64 (ch j - bf j)) (k + 1))) := by
          rw [chCells_succ]; exact hown2
        clear hown2 hgrow2
        go_wp2
        go_roundw
        case rel => exact ⟨k + 1, some ⟨g, 0, none⟩, c2, by omega, by go_num, f3.setCell (Nat.le_refl _) _, World.cell?_setCell_same _ _ _ f1, (World.frozen?_setCell _ _ _ _).trans f2, ownsRow_setCell_below HO2.out (Nat.lt_succ_self _) _⟩
        case measure => simp [intOf]; omega
    · have hkm : k = m := by omega
      subst hkm
      go_wp2
      go_ret
      exact ⟨rfl, hbel, ao, c, hE, HO.out⟩

/-- No group: nil. -/
theorem charges21_none (w : World) (a : Option Addr) (m cap : Nat) (hm : m ≤ 0) :
    Calls Try.prog 21 #[.slice a m cap] w fun e w' => e = .returned (.pointer none) ∧ w = w' := by
  have hne : ((m : Int) == 0) = true := beq_iff_eq.2 (by omega)
  go_enter Try.func21, Try.ntmps21
  go_wp2
  go_ret
  exact ⟨rfl, rfl⟩

theorem charges9 (w : World) (G m cap : Nat) (P T : Nat → Nat) (rg ch bf : Nat → Int) (hm : m ≤ 65536) (hm0 : 0 < m) (hg : GroupsAt w G 0 m P T rg ch bf) :
    Calls Try.prog 9 #[.slice (some ⟨G, 0, none⟩) m cap] w fun e w' => e = .returned (.pointer (some ⟨w.heap.size, 0, none⟩)) ∧ Below w.heap.size w w' ∧
      ∃ ao c, w'.cell? ⟨w.heap.size, 0, none⟩ = some (.slice ao m c) ∧ w'.ownsRow (w.heap.size + 1) 33 2 (.slice ao m c) m (chCells rg (fun j => wrap64 (ch j - bf j)) m) := by
  have H := charges21 w G m cap P T rg ch bf hm hm0 hg
  have HH : Hid (Calls _ _ _ _ _) := H
  clear H hg
  go_enter Try.func9, Try.ntmps9
  go_wp2_with fail
  refine Calls.mono HH.out ?_
  rintro e w' ⟨rfl, h1, h2⟩
  have H2 : Hid (∃ ao c, w'.cell? ⟨w.heap.size, 0, none⟩ = some (.slice ao m c) ∧ w'.ownsRow (w.heap.size + 1) 33 2 (.slice ao m c) m (chCells rg (fun j => wrap64 (ch j - bf j)) m)) := h2
  clear h2
  go_wp2
  go_ret
  exact ⟨rfl, h1, H2.out⟩

theorem charges9_none (w : World) (a : Option Addr) (m cap : Nat) (hm : m ≤ 0) :
    Calls Try.prog 9 #[.slice a m cap] w fun e w' => e = .returned (.pointer none) ∧ w = w' := by
  go_enter Try.func9, Try.ntmps9
  go_wp2_with fail
  refine Calls.mono (charges21_none w a m cap hm) ?_
  rintro e w' ⟨rfl, rfl⟩
  go_wp2
  go_ret
  exact ⟨rfl, rfl⟩

/-- m charges lie in block C: the k-th is a rating group and an amount. -/
def ChargesAt (w : World) (C m : Nat) (rg am : Nat → Int) : Prop :=
  ∀ k, k < m → w.cell? ⟨C, k * 2, none⟩ = some (.int .u32 (rg k)) ∧ w.cell? ⟨C, k * 2 + 1, none⟩ = some (.int .i64 (am k))

theorem chCells_get (rg am : Nat → Int) : ∀ m k, k < m → (chCells rg am m)[k * 2]? = some (.int .u32 (rg k)) ∧ (chCells rg am m)[k * 2 + 1]? = some (.int .i64 (am k)) := by
  intro m
  induction m with
  | zero => intro k hk; omega
  | succ m ih =>
    intro k hk
    have hlen : ∀ m, (chCells rg am m).length = m * 2 := by
      intro m
      induction m with
      | zero => rfl
      | succ m ih => rw [chCells_succ, List.length_append, ih]; simp; omega
    rw [chCells_succ]
    by_cases h : k < m
    · obtain ⟨h1, h2⟩ := ih k h
      rw [List.getElem?_append_left (by rw [hlen]; omega), List.getElem?_append_left (by rw [hlen]; omega)]
      exact ⟨h1, h2⟩
    · have e : k = m := by omega
      subst e
      rw [List.getElem?_append_right (by rw [hlen]; omega), List.getElem?_append_right (by rw [hlen]; omega), hlen]
      simp

/-- The row that chargesOf has made, cell by cell. -/
theorem charges_at {w : World} {B m c : Nat} {ao : Option Addr} {rg am : Nat → Int} (hm : 0 < m) (h : w.ownsRow B 33 2 (.slice ao m c) m (chCells rg am m)) : ∃ C, ao = some ⟨C, 0, none⟩ ∧ B ≤ C ∧ ChargesAt w C m rg am := by
  rcases h.2 with ⟨h1, h0⟩ | ⟨g, cap, cur, hv, hb, hg, h4, h5, h6, h7⟩
  · omega
  · simp only [Value.slice.injEq] at hv
    obtain ⟨rfl, _, rfl⟩ := hv
    refine ⟨g, rfl, hb, fun k hk => ?_⟩
    obtain ⟨g1, g2⟩ := chCells_get rg am m k hk
    have e1 := h.cells (g := g) rfl _ _ g1
    have e2 := h.cells (g := g) rfl _ _ g2
    rw [Addr.add_lit, Nat.zero_add] at e1 e2
    exact ⟨e1, e2⟩

theorem ChargesAt.below {w w' : World} {B C m : Nat} {rg am : Nat → Int} (h : ChargesAt w C m rg am) (hb : Below B w w') (hC : C < B) : ChargesAt w' C m rg am :=
  fun k hk => ⟨(hb.cell (p := ⟨C, k * 2, none⟩) hC).trans (h k hk).1, (hb.cell (p := ⟨C, k * 2 + 1, none⟩) hC).trans (h k hk).2⟩

/-- zzcB1Charges (function 11): nil gives nil. -/
theorem list11_none (w : World) : Calls Try.prog 11 #[.pointer none] w fun e w' => e = .returned (.slice none 0 0) ∧ w = w' := by
  go_enter Try.func11, Try.ntmps11
  go_wp2
  go_ret
  exact ⟨rfl, rfl⟩

/-- zzcB1Charges (function 11): the list behind the pointer. -/
theorem list11_some (w : World) (E : Nat) (ao : Option Addr) (m c : Nat) (h : w.cell? ⟨E, 0, none⟩ = some (.slice ao m c)) :
    Calls Try.prog 11 #[.pointer (some ⟨E, 0, none⟩)] w fun e w' => e = .returned (.slice ao m c) ∧ w = w' := by
  go_enter Try.func11, Try.ntmps11
  go_wp2
  go_ret
  exact ⟨rfl, rfl⟩
end Go.Proofs.Qxb6619635a
