/-
  Counters of 4 bits, two in a byte. No program in sight (but for the model's own word for '&').
-/
import Derived.Test.YtoddnjpbmefgnaaBase
import Derived.Laws.BitsAllLaws
namespace Go.Proofs.Ytoddnjpbmefgnaa

/-- A byte of two counters. -/
def byteOf (C : Nat → Nat) (i : Nat) : Nat := C (2 * i) + 16 * C (2 * i + 1)
/-- Counters of 4 bits. -/
def Small (C : Nat → Nat) : Prop := ∀ j, C j ≤ 15
theorem byteOf_le {C : Nat → Nat} (h : Small C) (i : Nat) : byteOf C i ≤ 255 := by
  have := h (2 * i); have := h (2 * i + 1); unfold byteOf; omega
/-- A counter raised, 15 at most. -/
def bump (C : Nat → Nat) (n : Nat) : Nat → Nat := fun j => if j = n then min 15 (C n + 1) else C j
theorem small_zero : Small (fun _ => 0) := fun _ => Nat.zero_le _
theorem small_bump {C : Nat → Nat} (h : Small C) (n : Nat) : Small (bump C n) := fun j => by
  unfold bump; split
  · omega
  · exact h j
theorem bump_full {C : Nat → Nat} {n : Nat} (h : Small C) (hn : ¬ C n < 15) : bump C n = C := by
  funext j
  unfold bump
  split
  · rename_i e; subst e; have := h j; omega
  · rfl
/-- All counters halved. -/
def half (C : Nat → Nat) : Nat → Nat := fun j => C j / 2
theorem small_half {C : Nat → Nat} (h : Small C) : Small (half C) := fun j => by have := h j; unfold half; omega

theorem and15 : ∀ b : Nat, b < 256 → b &&& 15 = b % 16 := fun b _ => by
  have := Nat.and_two_pow_sub_one_eq_mod b 4
  simpa using this
theorem half119 : ∀ lo : Fin 16, ∀ hi : Fin 16, ((lo.val + 16 * hi.val) / 2) &&& 119 = lo.val / 2 + 16 * (hi.val / 2) := by decide +kernel

theorem get_even {C : Nat → Nat} (h : Small C) {n : Nat} (hn : n % 2 = 0) : bits .and .u8 ((byteOf C (n / 2) : Nat) : Int) 15 = ((C n : Nat) : Int) := by
  have hb := byteOf_le h (n / 2)
  have e := u8_and_nat (byteOf C (n / 2)) 15 (by omega) (by omega)
  rw [and15 _ (by omega)] at e
  have e2 : byteOf C (n / 2) % 16 = C n := by
    have := h (2 * (n / 2))
    unfold byteOf
    rw [show 2 * (n / 2) = n by omega] at this ⊢
    omega
  rw [e2] at e
  exact e
theorem get_odd {C : Nat → Nat} (h : Small C) {n : Nat} (hn : n % 2 = 1) : bits .and .u8 (((byteOf C (n / 2) : Nat) : Int) / 16) 15 = ((C n : Nat) : Int) := by
  have hb := byteOf_le h (n / 2)
  have e := u8_and_nat (byteOf C (n / 2) / 16) 15 (by omega) (by omega)
  rw [and15 _ (by omega)] at e
  have e2 : byteOf C (n / 2) / 16 % 16 = C n := by
    have := h (2 * (n / 2))
    have := h (2 * (n / 2) + 1)
    unfold byteOf
    rw [show 2 * (n / 2) + 1 = n by omega] at this ⊢
    omega
  rw [e2] at e
  exact e
theorem parity_u64 {n : Nat} (hn : n < 18446744073709551616) : bits .and .u64 (n : Int) 1 = ((n % 2 : Nat) : Int) := by
  have e := u64_and_nat n 1 hn (by omega)
  rw [Nat.and_one_is_mod] at e
  exact e
theorem byteOf_even {C : Nat → Nat} {n : Nat} (hn : n % 2 = 0) (hc : C n < 15) : byteOf (bump C n) (n / 2) = byteOf C (n / 2) + 1 := by
  unfold byteOf bump
  rw [show 2 * (n / 2) = n by omega, if_pos rfl, if_neg (by omega)]
  omega
theorem byteOf_odd {C : Nat → Nat} {n : Nat} (hn : n % 2 = 1) (hc : C n < 15) : byteOf (bump C n) (n / 2) = byteOf C (n / 2) + 16 := by
  unfold byteOf bump
  rw [show 2 * (n / 2) + 1 = n by omega, if_neg (by omega), if_pos rfl]
  omega
theorem byteOf_far {C : Nat → Nat} {n i : Nat} (hi : i ≠ n / 2) : byteOf (bump C n) i = byteOf C i := by
  unfold byteOf bump
  rw [if_neg (by omega), if_neg (by omega)]
theorem byteOf_half {C : Nat → Nat} (h : Small C) (i : Nat) : bits .and .u8 (((byteOf C i : Nat) : Int) / 2) 119 = ((byteOf (half C) i : Nat) : Int) := by
  have hb := byteOf_le h i
  have e := u8_and_nat (byteOf C i / 2) 119 (by omega) (by omega)
  have h0 := h (2 * i)
  have h1 := h (2 * i + 1)
  have e2 := half119 ⟨C (2 * i), by omega⟩ ⟨C (2 * i + 1), by omega⟩
  simp only at e2
  have e3 : (byteOf C i / 2) &&& 119 = byteOf (half C) i := e2
  rw [e3] at e
  exact e

/-- A row of counters, as cells. -/
def rowA (C : Nat → Nat) (m : Nat) : Array Value := ((List.range m).map fun i => Value.int .u8 ((byteOf C i : Nat) : Int)).toArray
theorem rowA_size (C : Nat → Nat) (m : Nat) : (rowA C m).size = m := by simp [rowA]
theorem rowA_get (C : Nat → Nat) {m i : Nat} (h : i < m) : (rowA C m)[i]? = some (.int .u8 ((byteOf C i : Nat) : Int)) := by simp [rowA, h]
theorem rowA_set (C : Nat → Nat) (m n : Nat) : (rowA C m).setIfInBounds (n / 2) (.int .u8 ((byteOf (bump C n) (n / 2) : Nat) : Int)) = rowA (bump C n) m := by
  apply Array.ext
  · simp [rowA]
  · intro i h1 h2
    have hi : i < m := by simpa [rowA] using h2
    rw [Array.getElem_setIfInBounds (by rw [rowA_size]; exact hi)]
    split
    · rename_i e; subst e; simp [rowA]
    · rename_i e
      simp only [rowA, List.getElem_toArray, List.getElem_map, List.getElem_range]
      rw [byteOf_far (fun h => e h.symm)]
theorem rowA_zero (m : Nat) : madeCells #[.int .u8 0] m = rowA (fun _ => 0) m := by
  apply Array.ext
  · simp [rowA, madeCells]
  · intro i h1 h2
    have hz : (#[Value.int .u8 0] : Array Value).size = 1 := rfl
    simp [rowA, madeCells, byteOf, hz, Nat.mod_one]
/-- The first k bytes halved. -/
def halfTo (C : Nat → Nat) (k : Nat) : Nat → Nat := fun j => if j / 2 < k then C j / 2 else C j
theorem halfTo_zero (C : Nat → Nat) : halfTo C 0 = C := by funext j; simp [halfTo]
theorem small_halfTo {C : Nat → Nat} (h : Small C) (k : Nat) : Small (halfTo C k) := fun j => by
  have := h j; unfold halfTo; split <;> omega
theorem byteOf_halfTo_ge {C : Nat → Nat} {k i : Nat} (hi : k ≤ i) : byteOf (halfTo C k) i = byteOf C i := by
  unfold byteOf halfTo
  rw [if_neg (by omega), if_neg (by omega)]
theorem byteOf_halfTo_lt {C : Nat → Nat} {k i : Nat} (hi : i < k) : byteOf (halfTo C k) i = byteOf (half C) i := by
  unfold byteOf halfTo half
  rw [if_pos (by omega), if_pos (by omega)]
theorem rowA_half_step (C : Nat → Nat) (m k : Nat) : (rowA (halfTo C k) m).setIfInBounds k (.int .u8 ((byteOf (half C) k : Nat) : Int)) = rowA (halfTo C (k + 1)) m := by
  apply Array.ext
  · simp [rowA]
  · intro i h1 h2
    have hi : i < m := by simpa [rowA] using h2
    rw [Array.getElem_setIfInBounds (by rw [rowA_size]; exact hi)]
    split
    · rename_i e; subst e
      simp only [rowA, List.getElem_toArray, List.getElem_map, List.getElem_range]
      rw [byteOf_halfTo_lt (Nat.lt_succ_self _)]
    · rename_i e
      simp only [rowA, List.getElem_toArray, List.getElem_map, List.getElem_range]
      rcases Nat.lt_or_ge i k with hik | hik
      · rw [byteOf_halfTo_lt hik, byteOf_halfTo_lt (by omega)]
      · rw [byteOf_halfTo_ge hik, byteOf_halfTo_ge (by omega)]
theorem rowA_half_all (C : Nat → Nat) (m : Nat) : rowA (halfTo C m) m = rowA (half C) m := by
  apply Array.ext
  · simp [rowA]
  · intro i h1 h2
    have hi : i < m := by simpa [rowA] using h2
    simp only [rowA, List.getElem_toArray, List.getElem_map, List.getElem_range]
    rw [byteOf_halfTo_lt hi]

/-- The counters behind a list of places. -/
def cnt (ps : List Nat) : Nat → Nat := ps.foldl bump (fun _ => 0)
theorem cnt_snoc (ps : List Nat) (p : Nat) : cnt (ps ++ [p]) = bump (cnt ps) p := by simp [cnt, List.foldl_append]
theorem small_foldl : ∀ (ps : List Nat) (C : Nat → Nat), Small C → Small (ps.foldl bump C)
  | [], _, h => h
  | p :: ps, C, h => small_foldl ps (bump C p) (small_bump h p)
theorem small_cnt (ps : List Nat) : Small (cnt ps) := small_foldl ps _ small_zero
/-- Halved, if that is asked for. -/
def fin (C : Nat → Nat) (b : Bool) : Nat → Nat := if b then half C else C
theorem small_fin {C : Nat → Nat} (h : Small C) (b : Bool) : Small (fin C b) := by
  unfold fin; split
  · exact small_half h
  · exact h
end Go.Proofs.Ytoddnjpbmefgnaa
