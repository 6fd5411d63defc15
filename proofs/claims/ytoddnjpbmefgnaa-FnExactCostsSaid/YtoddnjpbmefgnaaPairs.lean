/-
  The walk of Sampled.Pairs: the entries of the map in whatever order, sorted by their keys.
-/
import Derived.Test.YtoddnjpbmefgnaaLay
namespace Go.Proofs.Ytoddnjpbmefgnaa
open Go.Shelf Go.RowKit Go.Lib Go.Sort

/-- The comparison of two pairs by their keys. -/
def cfK (x y : Nat × Int) : Int := if x.1 < y.1 then -1 else if y.1 < x.1 then 1 else 0
theorem ltK (x y : Nat × Int) : ltOf cfK x y = decide (x.1 < y.1) := by
  unfold ltOf cfK
  by_cases h1 : x.1 < y.1
  · simp [h1]
  · by_cases h2 : y.1 < x.1 <;> simp [h1, h2]
theorem swoK : SWO (ltOf cfK) :=
  ⟨fun x => by rw [ltK]; simp, fun x y z h1 h2 => by rw [ltK] at *; simp at *; omega, fun x y z h1 h2 => by rw [ltK] at *; simp at *; omega⟩

set_option maxRecDepth 100000 in
set_option maxHeartbeats 400000 in
theorem closure_any (x y : Nat × Int) (W : World) : Calls Try.prog 79 #[.agg #[.int .u64 (x.1 : Int), .int .i64 x.2], .agg #[.int .u64 (y.1 : Int), .int .i64 y.2]] W fun e w' => e = .returned (.int .i64 (cfK x y)) ∧ ∃ q os', w' = grow (W.drewN q) os' := by
  obtain ⟨a, u⟩ := x
  obtain ⟨b, v⟩ := y
  unfold cfK
  simp only
  by_cases h1 : a < b
  · rw [if_pos h1]
    have i1 : (a : Int) < (b : Int) := by omega
    go_enter Try.func79, Try.ntmps79
    go_wp2
    go_returns
    exact ⟨rfl, 0, _, by rw [alloc_eq_grow, alloc_eq_grow, grow_grow]; rfl⟩
  · rw [if_neg h1]
    have i1 : ¬ (a : Int) < (b : Int) := by omega
    by_cases h2 : b < a
    · rw [if_pos h2]
      have i2 : (b : Int) < (a : Int) := by omega
      go_enter Try.func79, Try.ntmps79
      go_wp2
      go_returns
      exact ⟨rfl, 0, _, by rw [alloc_eq_grow, alloc_eq_grow, grow_grow]; rfl⟩
    · rw [if_neg h2]
      have i2 : ¬ (b : Int) < (a : Int) := by omega
      go_enter Try.func79, Try.ntmps79
      go_wp2
      go_returns
      exact ⟨rfl, 0, _, by rw [alloc_eq_grow, alloc_eq_grow, grow_grow]; rfl⟩

theorem cmpLays79 (blk off size : Nat) (w : World) : CmpLays Try.prog 79 #[] encP 2 cfK blk off size w :=
  fun _ _ _ _ x y => closure_any x y _

theorem grownBy_sortedP {w : World} {g n : Nat} {os : Array Obj} (d : Array (Nat × Int)) : w.grownBy (sortWorldK encP 2 w g 0 n d os) (some g) := by
  refine ⟨rfl, rfl, rfl, ?_, fun k hk hne => ?_⟩
  · exact size_sortWorldK_c encP 2 w g 0 n d os
  · have hg : g ≠ k := fun e => hne (by rw [e])
    simp only [sortWorldK, grow, putRowK, putRow, mapBlock, Sort.ahead]
    rw [Array.getElem?_append_left (by simpa using hk), Array.getElem?_modify, if_neg hg]

theorem flatK_get (ps : List (Nat × Int)) (j : Nat) (h : j < ps.length * 2) : (flatK encP 2 ps.toArray)[j]! = (flatP ps).getD j undef := by
  rw [get_flatK _ _ _ _ (by simpa using h)]
  have hj : j / 2 < ps.length := by omega
  have e0 := flatP_get0 ps (j / 2) hj
  have e1 := flatP_get1 ps (j / 2) hj
  have ea : ps.toArray[j / 2]! = ps.getD (j / 2) (0, 0) := by simp [List.getD, hj]
  rw [ea]
  rcases Nat.mod_two_eq_zero_or_one j with hm | hm
  · rw [hm]
    rw [show j / 2 * 2 = j by omega] at e0
    simp [List.getD, e0, encP]
  · rw [hm]
    rw [show j / 2 * 2 + 1 = j by omega] at e1
    simp [List.getD, e1, encP]
theorem own_holdsP {w : World} {base : Nat} {e : TypeId} {g n cap : Nat} {ps : List (Nat × Int)} (h : w.ownsRow base e 2 (.slice (some ⟨g, 0, none⟩) n cap) n (flatP ps)) : HoldsK encP 2 w g 0 ps.toArray := by
  have hl : ps.length = n := by have := h.1; rw [flatP_len] at this; omega
  intro j hj
  have hj' : j < ps.length * 2 := by simpa using hj
  refine ⟨?_, ?_⟩
  · rw [Nat.zero_add, h.cellAt j (by omega), flatK_get ps j hj']
    have hf : j < (flatP ps).length := by rw [flatP_len]; exact hj'
    simp [List.getD, hf]
  · rcases h.2 with ⟨h', _⟩ | ⟨g', cap', cur, h', _, hg, _⟩
    · simp at h'
    · simp at h'
      obtain ⟨rfl, _⟩ := h'
      simp [World.frozen?, hg]
theorem holds_prsP {w : World} {g n : Nat} {d : Array (Nat × Int)} (hg : g < w.heap.size) (h : HoldsK encP 2 w g 0 d) (hn : d.size = n) : Prs w w.heap.size (some ⟨g, 0, none⟩) n d.toList := by
  refine ⟨by simpa using hn, fun j hj => ⟨g, 0, rfl, hg, ?_, ?_⟩⟩
  · have h0 := (h (j * 2) (by simp; omega)).1
    have e := flatK_get d.toList (j * 2) (by simp; omega)
    rw [h0]
    simp only [Array.toArray_toList] at e
    rw [e, List.getD, flatP_get0 d.toList j (by simpa [hn] using hj)]
    rfl
  · have h0 := (h (j * 2 + 1) (by simp; omega)).1
    have e := flatK_get d.toList (j * 2 + 1) (by simp; omega)
    rw [← Nat.add_assoc] at h0
    rw [h0]
    simp only [Array.toArray_toList] at e
    rw [e, List.getD, flatP_get1 d.toList j (by simpa [hn] using hj)]
    rfl

/-- The sort of a row of pairs of the call's own. -/
theorem sort_some (g cap : Nat) (ps : List (Nat × Int)) (w : World) (hH : HoldsK encP 2 w g 0 ps.toArray) (hg : g < w.heap.size) (hn : ps.length < 4611686018427387904) :
    Calls Try.prog 78 #[.slice (some ⟨g, 0, none⟩) ps.length cap, .func (.func 79) #[] #[]] w fun e w' => e = .returned (.tuple #[]) ∧ ∃ ds : List (Nat × Int), ds.Perm ps ∧ ds.Pairwise (fun x y => x.1 ≤ y.1) ∧ Prs w' w'.heap.size (some ⟨g, 0, none⟩) ps.length ds ∧ w.grownBy w' (some g) := by
  have eg : ∀ args w, (callFunc 79 args).run Try.prog w = .ok (.enter 79 args) w := enters_of Try.func79 (by kernel_rfl) rfl
  have hcon := AnyQ.slices_SortFunc sortL 2 Try.isAgg93 Try.sizeOf93 encP (fun _ => rfl) (fun x v hv => by simp [encP] at hv; rcases hv with rfl | rfl <;> rfl) cfK swoK 79 #[] g 0 cap ps.toArray w eg (cmpLays79 g 0 _ w) hH hg (by simpa using hn)
  change Calls Try.prog 78 _ _ _ at hcon
  refine hcon.mono ?_
  rintro e w' ⟨rfl, d', n, os, hp, hs, rfl⟩
  obtain ⟨p1, _, p3⟩ := hp
  have hl : d'.size = ps.length := by simpa using p1
  refine ⟨rfl, d'.toList, ?_, ?_, ?_, grownBy_sortedP d'⟩
  · have e1 : d'.extract 0 ps.toArray.size = d' := by rw [← p1]; simp
    have e2 : ps.toArray.extract 0 ps.toArray.size = ps.toArray := by simp
    rw [e1, e2] at p3
    simpa using p3
  · rw [List.pairwise_iff_getElem]
    intro i j hi hj hij
    have := hs i j (Nat.zero_le _) hij (by simp at hj ⊢; omega)
    rw [ltK] at this
    simp at hi hj
    simp [hi, hj] at this
    simpa using this
  · exact holds_prsP (Nat.lt_of_lt_of_le hg (size_sortWorldK_c encP 2 w g 0 n d' os)) (holdsK_sortWorldK_c encP 2 w g 0 ps.toArray d' n os hH hg p1) hl
theorem sort_none (c : Nat) (w : World) : Calls Try.prog 78 #[.slice none 0 c, .func (.func 79) #[] #[]] w fun e w' => e = .returned (.tuple #[]) ∧ w = w' := by
  have h := AnyF.slices_SortFunc_none (P := Try.prog) (ρ := sortL_ren) { sortL with } none c (.func (.func 79) #[] #[]) w
  change Calls Try.prog 78 _ _ _ at h
  exact h.mono fun e w' ⟨a, b⟩ => ⟨a, b.symm⟩
end Go.Proofs.Ytoddnjpbmefgnaa
