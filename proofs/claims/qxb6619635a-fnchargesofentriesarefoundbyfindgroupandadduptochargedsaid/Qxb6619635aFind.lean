/-
  findGroup (function 22) and ZZFindGroup (function 13) by contracts: the first group whose tariff's rating group is the one asked for; or nil.
-/
import Derived.Test.Qxb6619635aRows
import Derived.WalkKit
import Derived.ProofKit
import Derived.OpenShut
import Derived.LaidEqlPtr
namespace Go.Proofs.Qxb6619635a
open Go.RowKit

theorem Try.info61 : (Try.prog.info? 61).isSome = true := by kernel_rfl

/-- Two pointers to groups: the same address. -/
theorem eql35 (w : World) (a : Addr) : (binOp .eql 35 (.pointer (some a)) (.pointer (some a))).run Try.prog w = .ok (.bool true) w := by
  obtain ⟨j, hj⟩ := Option.isSome_iff_exists.1 Try.info61
  exact run_eql_ptr_same (P := Try.prog) w a Try.underlying35 hj

theorem neq35 (w : World) (a : Addr) : (binOp .neq 35 (.pointer (some a)) (.pointer (some a))).run Try.prog w = .ok (.bool false) w := by
  obtain ⟨j, hj⟩ := Option.isSome_iff_exists.1 Try.info61
  have h : ∀ d : Nat, (Op.equalIn (d + 1) 35 (.pointer (some a)) (.pointer (some a))).run Try.prog w = .ok true w := fun d => by
    simp [Op.equalIn, run_underlying Try.underlying35, sizeOf, typeInfo, hj, run_sameAddr_same]
  simp only [binOp]
  simp [Op.equal, Op.maxDepth, h 9999]

/-- n pointers to groups lie in block G from 'off' on: the k-th leads to block 'P k', whose first cell leads to block 'T k', whose first cell is the number 'rg k'; cells 3 and 6 of block 'P k' are 'ch k' and 'bf k'. -/
def GroupsAt (w : World) (G off n : Nat) (P T : Nat → Nat) (rg ch bf : Nat → Int) : Prop :=
  ∀ k, k < n → w.cell? ⟨G, off + k, none⟩ = some (.pointer (some ⟨P k, 0, none⟩)) ∧ w.cell? ⟨P k, 0, none⟩ = some (.pointer (some ⟨T k, 0, none⟩)) ∧ w.cell? ⟨T k, 0, none⟩ = some (.int .u32 (rg k)) ∧
    w.cell? ⟨P k, 3, none⟩ = some (.int .i64 (ch k)) ∧ w.cell? ⟨P k, 6, none⟩ = some (.int .i64 (bf k))

/-- The same groups, read from the c-th on. -/
theorem GroupsAt.from {w : World} {G off n : Nat} {P T : Nat → Nat} {rg ch bf : Nat → Int} (h : GroupsAt w G off n P T rg ch bf) (c : Nat) :
    GroupsAt w G (off + c) (n - c) (fun k => P (c + k)) (fun k => T (c + k)) (fun k => rg (c + k)) (fun k => ch (c + k)) (fun k => bf (c + k)) := by
  intro k hk
  have := h (c + k) (by omega)
  rw [Nat.add_assoc]
  exact this

/-- The first c of them. -/
theorem GroupsAt.upto {w : World} {G off n : Nat} {P T : Nat → Nat} {rg ch bf : Nat → Int} (h : GroupsAt w G off n P T rg ch bf) {c : Nat} (hc : c ≤ n) :
    GroupsAt w G off c P T rg ch bf := fun k hk => h k (by omega)

set_option maxHeartbeats 400000 in
theorem find_hit22 (w : World) (G off n cap : Nat) (P T : Nat → Nat) (rg ch bf : Nat → Int) (x : Int) (hn : n ≤ 1048576) (hg : GroupsAt w G off n P T rg ch bf) (k0 : Nat) (hk0 : k0 < n) (hx : rg k0 = x) (hne : ∀ j, j < k0 → rg j ≠ x) :
    Calls Try.prog 22 #[.slice (some ⟨G, off, none⟩) n cap, .int .u32 x] w fun e w' => e = .returned (.pointer (some ⟨P k0, 0, none⟩)) ∧ w = w' := by
  have HX : Hid (rg k0 = x) := hx
  have HN : Hid (∀ j, j < k0 → rg j ≠ x) := hne
  have HG : Hid (GroupsAt w G off n P T rg ch bf) := hg
  clear hx hne hg
  go_enter Try.func22, Try.ntmps22
  go_wp2
  go_loop [9] (fun i => ∃ k : Nat, k ≤ k0 ∧ i = .int .i64 k) (fun i => n - (intOf i).toNat)
  case atStart => exact ⟨0, Nat.zero_le _, rfl⟩
  case round =>
    obtain ⟨k, hk, rfl⟩ := hrel
    have hkn : k < n := by omega
    obtain ⟨h1, h2, h3, _, _⟩ := HG.out k hkn
    by_cases he : k = k0
    · subst he
      have hb : (rg k == x) = true := by simp [HX.out]
      go_wp2
      go_ret
      exact ⟨rfl, rfl⟩
    · have hb : (rg k == x) = false := by simpa using HN.out k (by omega)
      go_wp2
      go_round
      case rel => exact ⟨k + 1, by omega, by go_num⟩
      case measure => simp [intOf]; omega

set_option maxHeartbeats 400000 in
theorem find_miss22 (w : World) (G off n cap : Nat) (P T : Nat → Nat) (rg ch bf : Nat → Int) (x : Int) (hn : n ≤ 1048576) (hg : GroupsAt w G off n P T rg ch bf) (hne : ∀ j, j < n → rg j ≠ x) :
    Calls Try.prog 22 #[.slice (some ⟨G, off, none⟩) n cap, .int .u32 x] w fun e w' => e = .returned (.pointer none) ∧ w = w' := by
  have HN : Hid (∀ j, j < n → rg j ≠ x) := hne
  have HG : Hid (GroupsAt w G off n P T rg ch bf) := hg
  clear hne hg
  go_enter Try.func22, Try.ntmps22
  go_wp2
  go_loop [9] (fun i => ∃ k : Nat, k ≤ n ∧ i = .int .i64 k) (fun i => n - (intOf i).toNat)
  case atStart => exact ⟨0, Nat.zero_le _, rfl⟩
  case round =>
    obtain ⟨k, hk, rfl⟩ := hrel
    by_cases hkn : k < n
    · obtain ⟨h1, h2, h3, _, _⟩ := HG.out k hkn
      have hb : (rg k == x) = false := by simpa using HN.out k (by omega)
      go_wp2
      go_round
      case rel => exact ⟨k + 1, by omega, by go_num⟩
      case measure => simp [intOf]; omega
    · go_wp2
      go_ret
      exact ⟨rfl, rfl⟩

theorem find_hit (w : World) (G off n cap : Nat) (P T : Nat → Nat) (rg ch bf : Nat → Int) (x : Int) (hn : n ≤ 1048576) (hg : GroupsAt w G off n P T rg ch bf) (k0 : Nat) (hk0 : k0 < n) (hx : rg k0 = x) (hne : ∀ j, j < k0 → rg j ≠ x) :
    Calls Try.prog 13 #[.slice (some ⟨G, off, none⟩) n cap, .int .u32 x] w fun e w' => e = .returned (.pointer (some ⟨P k0, 0, none⟩)) ∧ w = w' := by
  have H := find_hit22 w G off n cap P T rg ch bf x hn hg k0 hk0 hx hne
  have HH : Hid _ := H
  clear H hx hne hg
  go_enter Try.func13, Try.ntmps13
  go_wp2_with fail
  refine Calls.mono HH.out ?_
  rintro e w' ⟨rfl, rfl⟩
  go_wp2
  go_ret
  exact ⟨rfl, rfl⟩

theorem find_miss (w : World) (G off n cap : Nat) (P T : Nat → Nat) (rg ch bf : Nat → Int) (x : Int) (hn : n ≤ 1048576) (hg : GroupsAt w G off n P T rg ch bf) (hne : ∀ j, j < n → rg j ≠ x) :
    Calls Try.prog 13 #[.slice (some ⟨G, off, none⟩) n cap, .int .u32 x] w fun e w' => e = .returned (.pointer none) ∧ w = w' := by
  have H := find_miss22 w G off n cap P T rg ch bf x hn hg hne
  have HH : Hid _ := H
  clear H hne hg
  go_enter Try.func13, Try.ntmps13
  go_wp2_with fail
  refine Calls.mono HH.out ?_
  rintro e w' ⟨rfl, rfl⟩
  go_wp2
  go_ret
  exact ⟨rfl, rfl⟩

/-- The least index at which the number is x, or none. -/
theorem least (rg : Nat → Int) (x : Int) : ∀ n : Nat, (∃ k, k < n ∧ rg k = x ∧ ∀ j, j < k → rg j ≠ x) ∨ ∀ j, j < n → rg j ≠ x := by
  intro n
  induction n with
  | zero => exact .inr (fun j hj => by omega)
  | succ n ih =>
    rcases ih with ⟨k, hk, h1, h2⟩ | h
    · exact .inl ⟨k, by omega, h1, h2⟩
    · by_cases e : rg n = x
      · exact .inl ⟨n, by omega, e, h⟩
      · refine .inr (fun j hj => ?_)
        by_cases hj' : j = n
        · subst hj'; exact e
        · exact h j (by omega)

/-- What is found among n groups: some answer that is a pointer. -/
theorem find_any (w : World) (G off n cap : Nat) (P T : Nat → Nat) (rg ch bf : Nat → Int) (x : Int) (hn : n ≤ 1048576) (hg : GroupsAt w G off n P T rg ch bf) :
    Calls Try.prog 13 #[.slice (some ⟨G, off, none⟩) n cap, .int .u32 x] w fun e w' => (∃ a, e = .returned (.pointer a)) ∧ w = w' := by
  rcases least rg x n with ⟨k, hk, h1, h2⟩ | h
  · exact (find_hit w G off n cap P T rg ch bf x hn hg k hk h1 h2).mono fun e w' ⟨he, hw⟩ => ⟨⟨_, he⟩, hw⟩
  · exact (find_miss w G off n cap P T rg ch bf x hn hg h).mono fun e w' ⟨he, hw⟩ => ⟨⟨_, he⟩, hw⟩
end Go.Proofs.Qxb6619635a
