/-
  A set of bits as words of 64 bits; the places of a hash in a filter. No program in sight (but for the model's own words for shifts and '&').
-/
import Derived.Test.YtoddnjpbmefgnaaBase
import Derived.Laws.BitsAllLaws
namespace Go.Proofs.Ytoddnjpbmefgnaa

/-- The first n bits of word i of a set of bits. -/
def wordN (B : Nat → Bool) (i : Nat) : Nat → Nat
  | 0 => 0
  | n + 1 => wordN B i n ||| (if B (64 * i + n) then 2 ^ n else 0)
theorem testBit_wordN (B : Nat → Bool) (i n j : Nat) : (wordN B i n).testBit j = (decide (j < n) && B (64 * i + j)) := by
  induction n with
  | zero => simp [wordN]
  | succ n ih =>
    rw [wordN, Nat.testBit_or, ih]
    by_cases hj : n = j
    · subst hj
      cases h : B (64 * i + n) <;> simp
    · have e : (if B (64 * i + n) = true then 2 ^ n else 0).testBit j = false := by
        split
        · rw [Nat.testBit_two_pow]; simp [hj]
        · simp
      rw [e, Bool.or_false]
      have : decide (j < n + 1) = decide (j < n) := by
        by_cases hlt : j < n
        · simp [hlt, show j < n + 1 by omega]
        · simp [hlt, show ¬ j < n + 1 by omega]
      rw [this]
theorem wordN_lt (B : Nat → Bool) (i n : Nat) : wordN B i n < 2 ^ n := by
  induction n with
  | zero => simp [wordN]
  | succ n ih =>
    rw [wordN]
    refine Nat.or_lt_two_pow (by rw [Nat.pow_succ]; omega) ?_
    split
    · exact Nat.pow_lt_pow_right (by omega) (by omega)
    · exact Nat.two_pow_pos _
/-- Word i of a set of bits. -/
def wordOf (B : Nat → Bool) (i : Nat) : Nat := wordN B i 64
theorem testBit_wordOf (B : Nat → Bool) (i j : Nat) : (wordOf B i).testBit j = (decide (j < 64) && B (64 * i + j)) := testBit_wordN B i 64 j
theorem wordOf_lt (B : Nat → Bool) (i : Nat) : wordOf B i < 18446744073709551616 := wordN_lt B i 64
/-- A bit set. -/
def setB (B : Nat → Bool) (k : Nat) : Nat → Bool := fun j => B j || j == k
theorem wordOf_setB (B : Nat → Bool) (k i : Nat) : wordOf (setB B k) i = if i = k / 64 then wordOf B i ||| 2 ^ (k % 64) else wordOf B i := by
  apply Nat.eq_of_testBit_eq
  intro j
  rw [testBit_wordOf]
  split
  · rename_i hi
    rw [Nat.testBit_or, testBit_wordOf, Nat.testBit_two_pow, setB]
    by_cases hj : j < 64
    · have e : (64 * i + j == k) = decide (k % 64 = j) := by
        rw [Bool.eq_iff_iff]; simp; omega
      simp [hj, e]
    · have : ¬ k % 64 = j := by omega
      simp [hj, this]
  · rename_i hi
    rw [testBit_wordOf, setB]
    by_cases hj : j < 64
    · have e : (64 * i + j == k) = false := by
        rw [beq_eq_false_iff_ne]; omega
      simp [hj, e]
    · simp [hj]
theorem wordOf_none (i : Nat) : wordOf (fun _ => false) i = 0 := by
  apply Nat.eq_of_testBit_eq
  intro j
  rw [testBit_wordOf]; simp
theorem wordOf_bit (B : Nat → Bool) (k : Nat) : wordOf B (k / 64) / 2 ^ (k % 64) % 2 = if B k then 1 else 0 := by
  have h := testBit_wordOf B (k / 64) (k % 64)
  rw [Nat.testBit_eq_decide_div_mod_eq] at h
  have e : 64 * (k / 64) + k % 64 = k := by omega
  rw [e, decide_eq_true (show k % 64 < 64 by omega), Bool.true_and] at h
  have h2 := Nat.mod_lt (wordOf B (k / 64) / 2 ^ (k % 64)) (show 0 < 2 by omega)
  cases hb : B k
  · rw [hb] at h
    have := of_decide_eq_false h
    simp; omega
  · rw [hb] at h
    simpa using of_decide_eq_true h

/-- The words of a set of bits, as cells. -/
def wordsA (B : Nat → Bool) (m : Nat) : Array Value := ((List.range m).map fun i => Value.int .u64 ((wordOf B i : Nat) : Int)).toArray
theorem wordsA_size (B : Nat → Bool) (m : Nat) : (wordsA B m).size = m := by simp [wordsA]
theorem wordsA_get (B : Nat → Bool) {m i : Nat} (h : i < m) : (wordsA B m)[i]? = some (.int .u64 ((wordOf B i : Nat) : Int)) := by simp [wordsA, h]
theorem wordsA_set (B : Nat → Bool) (m k : Nat) : (wordsA B m).setIfInBounds (k / 64) (.int .u64 ((wordOf (setB B k) (k / 64) : Nat) : Int)) = wordsA (setB B k) m := by
  apply Array.ext
  · simp [wordsA]
  · intro i h1 h2
    have hi : i < m := by simpa [wordsA] using h2
    rw [Array.getElem_setIfInBounds (by rw [wordsA_size]; exact hi)]
    · split
      · rename_i e; subst e; simp [wordsA]
      · rename_i e
        simp only [wordsA, List.getElem_toArray, List.getElem_map, List.getElem_range]
        rw [wordOf_setB, if_neg (fun h => e h.symm)]
theorem wordsA_none (m : Nat) : madeCells #[.int .u64 0] m = wordsA (fun _ => false) m := by
  apply Array.ext
  · simp [wordsA, madeCells]
  · intro i h1 h2
    have hz : (#[Value.int .u64 0] : Array Value).size = 1 := rfl
    simp [wordsA, madeCells, wordOf_none, hz, Nat.mod_one]

/-! ### The places of a hash: uninterpreted, but for their bound. -/
def hiI (x sh : Int) : Int := x / 2 ^ min sh.toNat 64
def upI (x sh : Int) : Int := IntKind.u64.wrap (x * 2 ^ min sh.toNat 64)
/-- The number ahead of '& size' for place i of a hash whose two parts are h and l. -/
def mixI (h l : Int) (i : Nat) : Int := IntKind.u64.wrap (h + IntKind.u64.wrap ((i : Int) * l))
def atI (h l sz : Int) (i : Nat) : Nat := (bits .and .u64 (mixI h l i) sz).toNat
/-- Place i of the hash x. -/
def plI (x sz sh : Int) (i : Nat) : Nat := atI (hiI x sh) (hiI (upI x sh) sh) sz i

theorem shr_hi (x : Int) {sh : Int} (h : 0 ≤ sh) : Op.shift .shr .u64 x .u64 sh = pure (.int .u64 (hiI x sh)) := by
  rw [shift_shr_any .u64 .u64 x sh h]; rfl
theorem shl_up (x : Int) {sh : Int} (h : 0 ≤ sh) : Op.shift .shl .u64 x .u64 sh = pure (.int .u64 (upI x sh)) := by
  rw [shift_shl_any .u64 .u64 x sh h]; rfl
theorem mixI_nonneg (h l : Int) (i : Nat) : 0 ≤ mixI h l i := wrap_u64_nonneg _
theorem wrap_u64_lt (n : Int) : IntKind.u64.wrap n < 18446744073709551616 := by
  rw [IntKind.wrap_u64]; omega
theorem atI_eq (h l : Int) {sz : Int} (i : Nat) (h0 : 0 ≤ sz) (h1 : sz < 18446744073709551616) : bits .and .u64 (mixI h l i) sz = ((atI h l sz i : Nat) : Int) := by
  have hm := mixI_nonneg h l i
  have hu := wrap_u64_lt (h + IntKind.u64.wrap ((i : Int) * l))
  have e : 0 ≤ bits .and .u64 (mixI h l i) sz := by
    rw [u64_and _ _ hm hu h0 h1]; omega
  unfold atI; omega
theorem atI_le (h l : Int) {sz : Int} (i : Nat) (h0 : 0 ≤ sz) (h1 : sz < 18446744073709551616) : (atI h l sz i : Int) ≤ sz := by
  have hm := mixI_nonneg h l i
  have hu := wrap_u64_lt (h + IntKind.u64.wrap ((i : Int) * l))
  rw [← atI_eq h l i h0 h1, u64_and _ _ hm hu h0 h1]
  have := @Nat.and_le_right (mixI h l i).toNat sz.toNat
  omega

/-- The set of bits behind the places of a hash. -/
def addB (B : Nat → Bool) (x sz sh L : Int) : Nat → Bool := fun k => B k || (List.range L.toNat).any fun i => plI x sz sh i == k
/-- Behind the first n of its places. -/
def addN (B : Nat → Bool) (x sz sh : Int) (n : Nat) : Nat → Bool := fun k => B k || (List.range n).any fun i => plI x sz sh i == k
theorem addN_zero (B : Nat → Bool) (x sz sh : Int) : addN B x sz sh 0 = B := by funext k; simp [addN]
theorem addN_succ (B : Nat → Bool) (x sz sh : Int) (n : Nat) : addN B x sz sh (n + 1) = setB (addN B x sz sh n) (plI x sz sh n) := by
  funext k
  simp only [addN, setB, List.range_succ, List.any_append, List.any_cons, List.any_nil, Bool.or_false, Bool.or_assoc]
  congr 2
  rw [Bool.eq_iff_iff]; simp; exact ⟨Eq.symm, Eq.symm⟩
/-- All places of a hash are set. -/
def hasB (B : Nat → Bool) (x sz sh L : Int) : Bool := (List.range L.toNat).all fun i => B (plI x sz sh i)
/-- The bits of a list of hashes. -/
def bitsOf (zs : List Int) (sz sh L : Int) : Nat → Bool := fun k => zs.any fun y => (List.range L.toNat).any fun i => plI y sz sh i == k
theorem bitsOf_nil (sz sh L : Int) : bitsOf [] sz sh L = fun _ => false := rfl
theorem bitsOf_snoc (zs : List Int) (x sz sh L : Int) : bitsOf (zs ++ [x]) sz sh L = addB (bitsOf zs sz sh L) x sz sh L := by
  funext k; simp [bitsOf, addB]
/-- A hash that is there turns nothing when it is added. -/
theorem addB_of_has {B : Nat → Bool} {x sz sh L : Int} (h : hasB B x sz sh L = true) : addB B x sz sh L = B := by
  funext k
  unfold addB
  cases hk : (List.range L.toNat).any fun i => plI x sz sh i == k
  · simp
  · obtain ⟨i, hi, e⟩ := List.any_eq_true.1 hk
    have hb := List.all_eq_true.1 h i hi
    have e' : plI x sz sh i = k := by simpa using e
    rw [e'] at hb
    simp [hb]
/-- Whether a list's bits have all places of a hash: the reference's word. -/
def hasL (zs : List Int) (x sz sh L : Int) : Bool := hasB (bitsOf zs sz sh L) x sz sh L
end Go.Proofs.Ytoddnjpbmefgnaa
