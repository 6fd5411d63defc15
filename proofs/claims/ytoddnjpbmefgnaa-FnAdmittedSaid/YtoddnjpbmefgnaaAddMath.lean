/-
  The plain facts behind the policy's Add: the costs without the victims; the measure of its loop.
-/
import Derived.Test.YtoddnjpbmefgnaaSample
namespace Go.Proofs.Ytoddnjpbmefgnaa
open Go.RowKit

/-- The costs C without the keys of gone. -/
def remL (C : Nat → Option Int) (gone : List (Nat × Int)) : Nat → Option Int := gone.foldl (fun D p => putC D p.1 none) C
theorem remL_snoc (C : Nat → Option Int) (gone : List (Nat × Int)) (p : Nat × Int) : remL C (gone ++ [p]) = putC (remL C gone) p.1 none := by simp [remL, List.foldl_append]
theorem remL_is (gone : List (Nat × Int)) : ∀ (C : Nat → Option Int) (k : Nat), remL C gone k = if k ∈ gone.map Prod.fst then none else C k := by
  induction gone with
  | nil => intro C k; simp [remL]
  | cons p gone ih =>
    intro C k
    have e : remL C (p :: gone) = remL (putC C p.1 none) gone := rfl
    rw [e, ih]
    by_cases h : k ∈ gone.map Prod.fst
    · rw [if_pos h, if_pos (by simp only [List.map_cons, List.mem_cons]; exact .inr h)]
    · rw [if_neg h]
      unfold putC
      by_cases h2 : k = p.1
      · rw [if_pos h2, if_pos (by simp only [List.map_cons, List.mem_cons]; exact .inl h2)]
      · rw [if_neg h2, if_neg (by simp only [List.map_cons, List.mem_cons]; rintro (a | a); exact h2 a; exact h a)]
/-- How many of the first n keys are live. -/
def live (C : Nat → Option Int) : Nat → Nat
  | 0 => 0
  | n + 1 => live C n + if (C n).isSome then 1 else 0
theorem live_le (C : Nat → Option Int) : ∀ n, live C n ≤ n
  | 0 => Nat.le_refl _
  | n + 1 => by
    have := live_le C n
    unfold live
    split <;> omega
theorem live_put (C : Nat → Option Int) (k : Nat) (h : (C k).isSome = true) : ∀ n, k < n → live (putC C k none) n + 1 = live C n := by
  have h0 : ∀ n, n ≤ k → live (putC C k none) n = live C n := by
    intro n
    induction n with
    | zero => intro _; rfl
    | succ n ih =>
      intro hn
      unfold live
      rw [ih (by omega)]
      simp [putC, show n ≠ k by omega]
  intro n
  induction n with
  | zero => intro h; omega
  | succ n ih =>
    intro hn
    unfold live
    by_cases e : n = k
    · subst e
      rw [h0 n (Nat.le_refl _)]
      simp [putC, h]
    · have := ih (by omega)
      have hp : putC C k none n = C n := if_neg e
      rw [hp]
      omega
theorem live_none (C : Nat → Option Int) (h : ∀ k, C k = none) : ∀ n, total C n = 0
  | 0 => rfl
  | n + 1 => by
    unfold total
    rw [live_none C h n, h n]
    rfl
/-- Pairs that are no longer live. -/
def stale (C : Nat → Option Int) (qs : List (Nat × Int)) : Nat := (qs.filter fun p => (C p.1).isNone).length
theorem stale_le (C : Nat → Option Int) (qs : List (Nat × Int)) : stale C qs ≤ qs.length := List.length_filter_le _ _
theorem stale_app (C : Nat → Option Int) (qs qs' : List (Nat × Int)) (h : ∀ p ∈ qs', C p.1 = some p.2) : stale C (qs ++ qs') = stale C qs := by
  have e : qs'.filter (fun p => (C p.1).isNone) = [] := by
    rw [List.filter_eq_nil_iff]
    intro p hp
    simp [h p hp]
  simp [stale, List.filter_append, e]
end Go.Proofs.Ytoddnjpbmefgnaa
