/-
  zzJdB1Copy (function 6) by its contract.
-/
import Derived.Test.Qxb6623281aDepth
import Derived.Laws.CopyOwn
import Derived.WalkSpells
namespace Go.Proofs.Qxb6623281a
open Go.RowKit

theorem Try.info5 : (Try.prog.info? 5).map (fun i => (i.zero, i.size, i.bytes)) = some (some (.int .u8 0), 1, 1) := by kernel_rfl
theorem Try.size5 : (Try.prog.info? 5).map (·.size) = some 1 := by kernel_rfl

/-- A nil slice: nil. -/
theorem copy6_nil (w : World) : Calls Try.prog 6 #[.slice none 0 0] w fun e w' => e = .returned (.slice none 0 0) ∧ w = w' := by
  have hq := fun w => Lib.run_eql_slice_nil (P := Try.prog) w 22 5 none 0 0 0 0 Try.underlying22
  go_enter Try.func6, Try.ntmps6
  go_wp2
  go_ret
  exact ⟨rfl, rfl⟩

def byteCells (f : Nat → Int) (n : Nat) : List Value := (List.range n).map fun j => Value.int .u8 (f j)
theorem byteCells_length (f : Nat → Int) (n : Nat) : (byteCells f n).length = n := by simp [byteCells]
theorem byteCells_get (f : Nat → Int) (n j : Nat) (h : j < n) : (byteCells f n)[j]? = some (.int .u8 (f j)) := by simp [byteCells, h]
theorem byteCells_one (f : Nat → Int) (n : Nat) : ∀ v ∈ byteCells f n, v.oneCell' = true := by
  intro v hv
  obtain ⟨_, _, rfl⟩ := List.mem_map.1 hv
  rfl

/-- A row that was made whole: its block. -/
theorem made_block {w : World} {base : Nat} {e : TypeId} {N n c : Nat} {xs : List Value} (h : w.ownsRow base e 1 (.slice (some ⟨N, 0, none⟩) n c) n xs) : ∃ cur : List Value, cur.length = c ∧ w.heap[N]? = some (.cells cur.toArray e (0, 0)) := by
  rcases h.2 with ⟨hv, _⟩ | ⟨g, cap, cur, hv, _, hh, _, _, hs, _⟩
  · cases hv
  · simp only [Value.slice.injEq, Option.some.injEq, Addr.mk.injEq] at hv
    obtain ⟨⟨rfl, _⟩, _, rfl⟩ := hv
    exact ⟨cur.toList, by simpa using hs, by simpa using hh⟩

set_option maxHeartbeats 800000 in
/-- A slice that is not nil: a copy of its bytes in new memory. -/
theorem copy6_some (w : World) (x : Addr) (n cap : Nat) (f : Nat → Int) (hn : n ≤ 4194304) (h : IsB w (some x) n f) :
    Calls Try.prog 6 #[.slice (some x) n cap] w fun e w' => e = .returned (.slice (some ⟨w.heap.size, 0, none⟩) n n) ∧ Below w.heap.size w w' ∧ IsB w' (some ⟨w.heap.size, 0, none⟩) n f := by
  obtain ⟨i0, hi, hz0, hz1, hz2⟩ := info_parts Try.info5
  have HI : Hid (IsB w (some x) n f) := h
  clear h
  have hq := fun w => Lib.run_eql_slice_nil (P := Try.prog) w 22 5 (some x) n cap 0 0 Try.underlying22
  go_enter Try.func6, Try.ntmps6
  go_wp2_with (at_make; refine wpList_make_full _ rfl _ _ 22 rfl w.heap.size 5 i0 (.int .u8 0) 1 Try.underlying22 hi hz0 hz1 _ _ _ _ n rfl rfl rfl rfl ?b2 ?b3 (Nat.le_refl _) ?_)
  case b2 => rw [hz2]; omega
  case b3 => unfold maxLen; omega
  intro w1 hown1 hgrow1
  obtain ⟨cur, hcur, hh⟩ := made_block hown1
  have hb1 : Below w.heap.size w w1 := (Below.refl _ _).grown hgrow1 (Nat.le_refl _) (fun k h => by cases h)
  have HHh : Hid (w1.heap[w.heap.size]? = some (.cells cur.toArray 5 (0, 0))) := hh
  have hN1 : w.heap.size < w1.heap.size := (Array.getElem?_eq_some_iff.1 hh).1
  have hpos : 0 < (byteCells f n).length → (some (⟨w.heap.size, 0, none⟩ : Addr)) = some ⟨w.heap.size, 0, none⟩ ∧ ∃ ad, some x = some ad ∧ ∀ j v, (byteCells f n)[j]? = some v → w1.cell? (ad.add j) = some v := by
    intro h0
    rw [byteCells_length] at h0
    refine ⟨rfl, x, rfl, ?_⟩
    rcases HI.out with h | ⟨b, o, hx, hb, hc⟩
    · omega
    · obtain rfl := Option.some.inj hx
      intro j v hj
      have hjn : j < n := by have := (List.getElem?_eq_some_iff.1 hj).1; rwa [byteCells_length] at this
      rw [byteCells_get f n j hjn] at hj
      obtain rfl := Option.some.inj hj
      rw [Addr.add_lit]
      exact (hb1.cell (p := ⟨b, o + j, none⟩) hb).trans (hc j hjn)
  have HP : Hid (0 < (byteCells f n).length → (some (⟨w.heap.size, 0, none⟩ : Addr)) = some ⟨w.heap.size, 0, none⟩ ∧ ∃ ad, some x = some ad ∧ ∀ j v, (byteCells f n)[j]? = some v → w1.cell? (ad.add j) = some v) := hpos
  clear hpos hh hown1 hgrow1
  go_wp2_with (with_reducible show Go.wpList _ _ _ (Oper.mk (some 11) _ _ _ _ _ :: _) _ _; refine wpList_copy_splice rfl (.tmp 9) (.tmp 10) 22 22 rfl 5 Try.underlying22 Try.size5 _ _ n n n cap rfl rfl w.heap.size 0 cur 5 HHh.out (byteCells f n) (by rw [byteCells_length]; exact (Nat.min_self n).symm) HP.out (by rw [byteCells_length]; omega) (byteCells_one f n) w.heap.size w hb1 (Nat.le_refl _) ?_)
  intro w2 HG2 hB2
  go_wp2
  go_ret
  refine ⟨rfl, hB2, ?_⟩
  have hh2 := HG2.out
  by_cases h0 : n = 0
  · exact .inl h0
  · refine .inr ⟨w.heap.size, 0, rfl, (Array.getElem?_eq_some_iff.1 hh2).1, fun j hj => ?_⟩
    rw [cell_of_row w2 w.heap.size (0 + j) _ 5 (0, 0) hh2, Nat.zero_add]
    have e : splice cur 0 (byteCells f n) = byteCells f n := by
      unfold splice
      rw [byteCells_length, Nat.zero_add, List.drop_of_length_le (by omega)]
      simp
    rw [e]
    simpa using byteCells_get f n j hj

/-- zzJdB1Copy: the same bytes. -/
theorem copy6 (w : World) (a : Option Addr) (n cap : Nat) (f : Nat → Int) (hn : n ≤ 4194304) (hz : a = none → n = 0 ∧ cap = 0) (h : IsB w a n f) :
    Calls Try.prog 6 #[.slice a n cap] w fun e w' => Below w.heap.size w w' ∧ ∃ a' cap', e = .returned (.slice a' n cap') ∧ IsB w' a' n f := by
  cases a with
  | none =>
    obtain ⟨rfl, rfl⟩ := hz rfl
    exact (copy6_nil w).mono fun e w' ⟨he, hw⟩ => by subst hw; exact ⟨Below.refl _ _, none, 0, he, .inl rfl⟩
  | some x => exact (copy6_some w x n cap f hn h).mono fun e w' ⟨he, hb, hi⟩ => ⟨hb, _, _, he, hi⟩
end Go.Proofs.Qxb6623281a
