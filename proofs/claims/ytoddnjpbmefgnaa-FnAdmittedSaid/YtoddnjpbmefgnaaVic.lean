/-
  The victims: a row of pointers to items that nobody writes.
-/
import Derived.Test.YtoddnjpbmefgnaaDrop
namespace Go.Proofs.Ytoddnjpbmefgnaa
open Go.RowKit

/-- A victim at block u. -/
def ItemAt (w : World) (base u : Nat) (p : Nat × Int) : Prop := base ≤ u ∧ At w u (.cells #[.int .u64 (p.1 : Int), .int .u64 0, .int .i64 0, .int .i64 p.2] 122 (0, 0))
/-- The victims: us their blocks, gs their keys and costs. -/
structure Vic (w : World) (base : Nat) (v : Value) (us : List Nat) (gs : List (Nat × Int)) : Prop where
  row : w.ownsRow base 120 1 v us.length (us.map ptrV)
  len : us.length = gs.length
  at_ : ∀ j, j < us.length → ItemAt w base (us.getD j 0) (gs.getD j (0, 0))
theorem ItemAt.chg {S : Nat → Prop} {w w' : World} {base u : Nat} {p : Nat × Int} (h : ItemAt w base u p) (hc : Chg S w w') (hS : ¬ S u) : ItemAt w' base u p := ⟨h.1, hc.at_ h.2 hS⟩
theorem Vic.chg {S : Nat → Prop} {w w' : World} {base : Nat} {v : Value} {us : List Nat} {gs : List (Nat × Int)} (h : Vic w base v us gs) (hc : Chg S w w') (hv : ∀ k, v.ownBlock = some k → ¬ S k) (hu : ∀ j, j < us.length → ¬ S (us.getD j 0)) : Vic w' base v us gs :=
  ⟨hc.owns h.row hv, h.len, fun j hj => (h.at_ j hj).chg hc (hu j hj)⟩
theorem Try.info120 : (Try.prog.info? 120).map (fun i => (i.zero, i.size, i.bytes)) = some (some (.pointer none), 1, 8) := by kernel_rfl
/-- The own rows of a sample and of the victims are two. -/
theorem own_two {w : World} {base base' : Nat} {e e' : TypeId} {v v' : Value} {n n' g : Nat} {xs xs' : List Value} (h : w.ownsRow base e 1 v n xs) (h' : w.ownsRow base' e' 1 v' n' xs') (hne : e ≠ e') (hg : v.ownBlock = some g) : v'.ownBlock ≠ some g := by
  rcases h.2 with ⟨rfl, _⟩ | ⟨g1, cap, cur, rfl, _, hh, _⟩
  · simp [Value.ownBlock] at hg
  · simp [Value.ownBlock] at hg
    subst hg
    exact own_ne h' (show At w g1 (.cells cur e (0, 0)) from hh) (Ne.symm hne)
/-- What was appended, where its row and its item lie. -/
theorem Vic.snoc {w w3 : World} {base : Nat} {v v2 : Value} {us : List Nat} {gs : List (Nat × Int)} (h : Vic w base v us gs) (k : Nat) (c : Int) {u : Nat} (hu : base ≤ u)
    (hc : Chg (fun j => v.ownBlock = some j) w w3) (hnew : At w3 u (.cells #[.int .u64 (k : Int), .int .u64 0, .int .i64 0, .int .i64 c] 122 (0, 0)))
    (hown : w3.ownsRow base 120 1 v2 (us.length + 1) (us.map ptrV ++ [ptrV u])) : Vic w3 base v2 (us ++ [u]) (gs ++ [(k, c)]) := by
  refine ⟨?_, by have := h.len; simp; omega, fun j hj => ?_⟩
  · have e1 : (us ++ [u]).length = us.length + 1 := by simp
    have e2 : (us ++ [u]).map ptrV = us.map ptrV ++ [ptrV u] := by simp
    rw [e1, e2]; exact hown
  · have hll := h.len
    by_cases hjl : j < us.length
    · have h1 := (h.at_ j hjl).chg hc (fun e => own_ne h.row (h.at_ j hjl).2 (by decide) e)
      have e1 : (us ++ [u]).getD j 0 = us.getD j 0 := by simp only [List.getD, List.getElem?_append_left hjl]
      have e2 : (gs ++ [(k, c)]).getD j (0, 0) = gs.getD j (0, 0) := by simp only [List.getD, List.getElem?_append_left (show j < gs.length by omega)]
      rw [e1, e2]; exact h1
    · have hje : j = us.length := by simp at hj; omega
      have e1 : (us ++ [u]).getD j 0 = u := by rw [hje]; simp [List.getD]
      have e2 : (gs ++ [(k, c)]).getD j (0, 0) = (k, c) := by rw [hje, hll]; simp [List.getD]
      rw [e1, e2]; exact ⟨hu, hnew⟩
end Go.Proofs.Ytoddnjpbmefgnaa
