/-
  The plain law of the script of Adds.
-/
import Derived.Test.Qxb6630441aSet
namespace Go.Proofs.Qxb6630441a.Set
open Go.RowKit
set_option linter.unusedVariables false

/-- The members after k Adds. -/
def st (bs : List Bool) (R : Nat → Nat) : Nat → List Bool
  | 0 => bs
  | k + 1 => (st bs R k).set (R k) true
/-- The answer of Add number k. -/
def ans (bs : List Bool) (R : Nat → Nat) (k : Nat) : Bool := !(st bs R k).getD (R k) false
/-- How many of the first k answers are true. -/
def fr (bs : List Bool) (R : Nat → Nat) : Nat → Nat
  | 0 => 0
  | k + 1 => fr bs R k + if ans bs R k = true then 1 else 0

theorem st_len (bs : List Bool) (R : Nat → Nat) : ∀ k, (st bs R k).length = bs.length
  | 0 => rfl
  | k + 1 => by rw [st, List.length_set, st_len bs R k]
theorem st_succ (bs : List Bool) (R : Nat → Nat) (k x : Nat) (h : R k < bs.length) : (st bs R (k + 1)).getD x false = ((st bs R k).getD x false || decide (x = R k)) := by
  rw [st, getD_set _ _ _ (by rw [st_len]; exact h)]
theorem fr_le (bs : List Bool) (R : Nat → Nat) : ∀ k, fr bs R k ≤ k
  | 0 => Nat.le_refl _
  | k + 1 => by have := fr_le bs R k; rw [fr]; split <;> omega
theorem st_mono (bs : List Bool) (R : Nat → Nat) (x : Nat) : ∀ k, (∀ i, i < k → R i < bs.length) → bs.getD x false = true → (st bs R k).getD x false = true
  | 0, _, h => h
  | k + 1, hR, h => by
    rw [st_succ bs R k x (hR k (by omega)), st_mono bs R x k (fun i hi => hR i (by omega)) h]; rfl
theorem st_has (bs : List Bool) (R : Nat → Nat) (i : Nat) : ∀ k, (∀ i, i < k → R i < bs.length) → i < k → (st bs R k).getD (R i) false = true
  | 0, _, h => by omega
  | k + 1, hR, h => by
    rw [st_succ bs R k (R i) (hR k (by omega))]
    by_cases e : i = k
    · subst e; simp
    · rw [st_has bs R i k (fun i hi => hR i (by omega)) (by omega)]; rfl

theorem ct_cons (b : Bool) (bs : List Bool) : ct (b :: bs) = (if b = true then 1 else 0) + ct bs := by
  unfold ct; cases b <;> simp; omega
theorem ct_set : ∀ (bs : List Bool) (r : Nat), r < bs.length → ct (bs.set r true) = ct bs + if bs.getD r false = true then 0 else 1
  | [], _, h => by simp at h
  | b :: bs, 0, _ => by
    rw [List.set_cons_zero, ct_cons, ct_cons]
    cases b <;> simp [List.getD]; omega
  | b :: bs, r + 1, h => by
    have ih := ct_set bs r (by simpa using h)
    rw [List.set_cons_succ, ct_cons, ct_cons, ih, List.getD_cons_succ]
    omega
theorem ct_st (bs : List Bool) (R : Nat → Nat) : ∀ k, (∀ i, i < k → R i < bs.length) → ct (st bs R k) = ct bs + fr bs R k
  | 0, _ => rfl
  | k + 1, hR => by
    rw [st, ct_set _ _ (by rw [st_len]; exact hR k (by omega)), ct_st bs R k (fun i hi => hR i (by omega)), fr]
    unfold ans
    cases (st bs R k).getD (R k) false <;> simp <;> omega

/-- The answers, written up to k, in a row of m. -/
def gotTo (bs : List Bool) (R : Nat → Nat) (m k : Nat) : List Value := vb ((List.range k).map (ans bs R) ++ List.replicate (m - k) false)
theorem gotTo_zero (bs : List Bool) (R : Nat → Nat) (m : Nat) : gotTo bs R m 0 = List.replicate m (.bool false) := by simp [gotTo, vb]
theorem gotTo_at (bs : List Bool) (R : Nat → Nat) (m k : Nat) (h : k < m) : (gotTo bs R m k)[k]? = some (.bool false) := by
  unfold gotTo vb
  rw [List.getElem?_map, List.getElem?_append_right (by simp)]
  simp [List.getElem?_replicate]; omega
theorem gotTo_succ (bs : List Bool) (R : Nat → Nat) (m k : Nat) (h : k < m) : (gotTo bs R m k).set k (.bool (ans bs R k)) = gotTo bs R m (k + 1) := by
  unfold gotTo vb
  rw [← List.map_set, List.set_append_right _ _ (by simp), List.length_map, List.length_range, Nat.sub_self, List.range_succ]
  rw [show m - k = (m - (k + 1)) + 1 from by omega, List.replicate_succ, List.set_cons_zero]
  simp
theorem gotTo_all (bs : List Bool) (R : Nat → Nat) (m i : Nat) (h : i < m) : (gotTo bs R m m)[i]? = some (.bool (ans bs R i)) := by
  unfold gotTo vb
  rw [Nat.sub_self]
  simp [h]

end Go.Proofs.Qxb6630441a.Set
