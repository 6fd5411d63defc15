/-
  A pair taken out of a sample: the last one laid in its place.
-/
import Derived.Test.YtoddnjpbmefgnaaAddMath
namespace Go.Proofs.Ytoddnjpbmefgnaa
open Go.RowKit

/-- Element i replaced by the last, one off the end. -/
def dropAt {α : Type} (qs : List α) (d : α) (i : Nat) : List α := (qs.set i (qs.getD (qs.length - 1) d)).take (qs.length - 1)
theorem dropAt_len {α : Type} (qs : List α) (d : α) (i : Nat) : (dropAt qs d i).length = qs.length - 1 := by simp [dropAt]
theorem set_perm {α : Type} (last : α) : ∀ (init : List α) (i : Nat) (h : i < init.length), (init ++ [last]).Perm (init[i] :: init.set i last)
  | [], _, h => absurd h (Nat.not_lt_zero _)
  | x :: t, 0, _ => by
    simp only [List.cons_append, List.getElem_cons_zero, List.set_cons_zero]
    exact (List.perm_append_singleton last t).cons x
  | x :: t, i + 1, h => by
    simp only [List.cons_append, List.getElem_cons_succ, List.set_cons_succ]
    exact ((set_perm last t i (by simpa using h)).cons x).trans (List.Perm.swap _ _ _)
theorem dropAt_perm {α : Type} (qs : List α) (d : α) (i : Nat) (h : i < qs.length) : qs.Perm (qs.getD i d :: dropAt qs d i) := by
  rcases List.eq_nil_or_concat qs with e | ⟨init, last, e⟩
  · subst e; simp at h
  · rw [List.concat_eq_append] at e
    subst e
    have hlast : (init ++ [last]).getD ((init ++ [last]).length - 1) d = last := by simp [List.getD]
    unfold dropAt
    rw [hlast]
    by_cases hi : i < init.length
    · have e1 : (init ++ [last]).getD i d = init[i] := by simp [List.getD, List.getElem?_append_left hi, hi]
      have e2 : ((init ++ [last]).set i last).take ((init ++ [last]).length - 1) = init.set i last := by
        rw [List.set_append_left _ _ hi]
        simp
      rw [e1, e2]
      exact set_perm last init i hi
    · have hie : i = init.length := by simp at h; omega
      have e1 : (init ++ [last]).getD i d = last := by rw [hie]; simp [List.getD]
      have e2 : ((init ++ [last]).set i last).take ((init ++ [last]).length - 1) = init := by
        rw [hie, List.set_append_right _ _ (Nat.le_refl _)]
        simp
      rw [e1, e2]
      exact List.perm_append_singleton last init
theorem stale_perm {C : Nat → Option Int} {qs ps : List (Nat × Int)} (h : qs.Perm ps) : stale C qs = stale C ps := (h.filter _).length_eq
theorem stale_drop (C : Nat → Option Int) (qs : List (Nat × Int)) (i : Nat) (h : i < qs.length) : stale C qs = stale C (dropAt qs (0, 0) i) + if (C (qs.getD i (0, 0)).1).isNone then 1 else 0 := by
  rw [stale_perm (dropAt_perm qs (0, 0) i h)]
  unfold stale
  rw [List.filter_cons]
  split <;> simp
theorem dropAt_mem {qs : List (Nat × Int)} {i : Nat} (h : i < qs.length) {p : Nat × Int} (hp : p ∈ dropAt qs (0, 0) i) : p ∈ qs :=
  (dropAt_perm qs (0, 0) i h).mem_iff.2 (List.mem_cons_of_mem _ hp)
theorem dropAt_get {α : Type} (qs : List α) (d : α) {i j : Nat} (hi : i < qs.length) (hj : j < qs.length - 1) : (dropAt qs d i).getD j d = if j = i then qs.getD (qs.length - 1) d else qs.getD j d := by
  unfold dropAt
  simp only [List.getD]
  rw [List.getElem?_take_of_lt hj]
  by_cases e : j = i
  · subst e
    rw [if_pos rfl, List.getElem?_set_self hi]
    rfl
  · rw [if_neg e, List.getElem?_set_ne (fun h => e h.symm)]

theorem Sam.drop {w : World} {base g m cap : Nat} {us : List Nat} {qs : List (Nat × Int)} (h : Sam w base (.slice (some ⟨g, 0, none⟩) m cap) us qs) (hm : us.length = m) {i : Nat} (hi : i < m) :
    Sam (w.setCell ⟨g, i, none⟩ (ptrV (us.getD (m - 1) 0))) base (.slice (some ⟨g, 0, none⟩) (m - 1) cap) (dropAt us 0 i) (dropAt qs (0, 0) i) := by
  subst hm
  obtain ⟨hrow, hlen, hat⟩ := h
  rcases hrow.2 with ⟨hx, _⟩ | ⟨g', cap', cur, hv, hb, hg, hnc, hcm, hsz, htake⟩
  · simp at hx
  · simp at hv
    obtain ⟨rfl, rfl⟩ := hv
    have hA : At w g (.cells cur 150 (0, 0)) := hg
    refine ⟨⟨by simp, .inr ⟨g, cap, cur.setIfInBounds i (ptrV (us.getD (us.length - 1) 0)), ?_, hb, hA.set i _, ?_, hcm, by simpa using hsz, ?_⟩⟩, ?_, fun j hj => ?_⟩
    · rw [dropAt_len]
    · rw [dropAt_len]; omega
    · rw [dropAt_len]
      simp only [Nat.mul_one] at htake ⊢
      rw [Array.toList_setIfInBounds, List.take_set]
      have e1 : cur.toList.take (us.length - 1) = (us.map ptrV).take (us.length - 1) := by
        rw [← htake, List.take_take]
        congr 1
        omega
      rw [e1, ← List.take_set, dropAt, List.map_take, List.map_set]
    · rw [dropAt_len, dropAt_len, hlen]
    · rw [dropAt_len] at hj
      have hjq : j < qs.length - 1 := by omega
      have hiq : i < qs.length := by omega
      rw [dropAt_get us 0 hi hj, dropAt_get qs (0, 0) hiq hjq]
      have hset : ∀ (u : Nat) (p : Nat × Int), PairAt w base u p → PairAt (w.setCell ⟨g, i, none⟩ (ptrV (us.getD (us.length - 1) 0))) base u p := fun u p hp =>
        ⟨hp.1, hp.2.far (p := ⟨g, i, none⟩) (hp.2.apart hA (by decide)) _⟩
      by_cases e : j = i
      · rw [if_pos e, if_pos e, ← hlen]
        have := hset _ _ (hat (us.length - 1) (by omega))
        exact this
      · rw [if_neg e, if_neg e]
        exact hset _ _ (hat j (by omega))
end Go.Proofs.Ytoddnjpbmefgnaa
