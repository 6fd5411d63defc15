/-
  What a sketch of four rows tells. No program in sight (but for the model's own words for '^', '|', '&').
-/
import Derived.Test.YtoddnjpbmefgnaaMath
import Derived.Test.YtoddnjpbmefgnaaRowMath
import Derived.Laws.BitsAllLaws
namespace Go.Proofs.Ytoddnjpbmefgnaa

/-! ### The next power of two, by shifts and ors. -/
theorem or_i64 (a b : Nat) (ha : a < 4294967296) (hb : b < 4294967296) : bits .or .i64 (a : Int) (b : Int) = ((a ||| b : Nat) : Int) := by
  have hx : a ||| b < 2 ^ 32 := Nat.or_lt_two_pow ha hb
  have e : ∀ c : Nat, c < 4294967296 → (BitVec.ofInt 64 (c : Int)).toNat = c := fun c hc => by
    rw [BitVec.ofInt_natCast, BitVec.toNat_ofNat, Nat.mod_eq_of_lt (by omega)]
  show IntKind.i64.wrap ((BitVec.ofInt 64 (a : Int) ||| BitVec.ofInt 64 (b : Int)).toNat : Int) = _
  rw [BitVec.toNat_or, e a ha, e b hb, IntKind.wrap_i64]
  omega
def up1 (k : Nat) : Nat := k ||| k / 2
def up2 (k : Nat) : Nat := up1 k ||| up1 k / 4
def up3 (k : Nat) : Nat := up2 k ||| up2 k / 16
def up4 (k : Nat) : Nat := up3 k ||| up3 k / 256
def up5 (k : Nat) : Nat := up4 k ||| up4 k / 65536
def up6 (k : Nat) : Nat := up5 k ||| up5 k / 4294967296
theorem up_all : ∀ k : Fin 300, up1 k.val < 1024 ∧ up2 k.val < 1024 ∧ up3 k.val < 1024 ∧ up4 k.val < 1024 ∧ up5 k.val < 1024 ∧ up6 k.val < 1024 ∧ up6 k.val + 1 = wid (k.val + 1) := by decide +kernel
theorem or_div {a : Nat} (d : Nat) (h : a < 1024) : bits .or .i64 (a : Int) ((a : Int) / (d : Int)) = ((a ||| a / d : Nat) : Int) := by
  have e : (a : Int) / (d : Int) = ((a / d : Nat) : Int) := (Int.natCast_ediv a d).symm
  rw [e]
  have := Nat.div_le_self a d
  exact or_i64 a (a / d) (by omega) (by omega)

/-! ### A hash's place in a row. -/
def xo (y s : Int) : Nat := (bits .xor .u64 y s).toNat
theorem bits_u64_nonneg (op : BinOp) (x y : Int) : 0 ≤ bits op .u64 x y := wrap_u64_nonneg _
theorem bits_u64_lt (op : BinOp) (x y : Int) : bits op .u64 x y < 18446744073709551616 := by
  unfold bits
  simp only
  rw [IntKind.wrap_u64]; omega
theorem xo_eq (y s : Int) : bits .xor .u64 y s = ((xo y s : Nat) : Int) := by
  have := bits_u64_nonneg .xor y s
  unfold xo; omega
theorem xo_lt (y s : Int) : xo y s < 18446744073709551616 := by
  have := bits_u64_lt .xor y s
  unfold xo; omega
theorem and_mask (y s : Int) {k : Nat} (hk : k ≤ 16) : bits .and .u64 ((xo y s : Nat) : Int) (((2 ^ k : Nat) : Int) - 1) = ((xo y s % 2 ^ k : Nat) : Int) := by
  have hx := xo_lt y s
  have hp : 2 ^ k ≤ 65536 := Nat.pow_le_pow_right (n := 2) (by omega) hk
  have h1 : 1 ≤ 2 ^ k := Nat.one_le_two_pow
  have e : ((2 ^ k : Nat) : Int) - 1 = ((2 ^ k - 1 : Nat) : Int) := by omega
  rw [e, u64_and_nat _ _ hx (by omega), Nat.and_two_pow_sub_one_eq_mod]
/-- A row's number of counters: a power of two. -/
def Pw (W : Nat) : Prop := ∃ k, 1 ≤ k ∧ k ≤ 9 ∧ W = 2 ^ k
theorem Pw.hi {W : Nat} (h : Pw W) : W ≤ 512 := by
  obtain ⟨k, _, h2, rfl⟩ := h
  exact Nat.pow_le_pow_right (n := 2) (by omega) h2
theorem Pw.lo {W : Nat} (h : Pw W) : 2 ≤ W := by
  obtain ⟨k, h1, _, rfl⟩ := h
  exact Nat.pow_le_pow_right (n := 2) (by omega) h1
theorem Pw.even {W : Nat} (h : Pw W) : W / 2 * 2 = W := by
  obtain ⟨k, h1, _, rfl⟩ := h
  obtain ⟨j, rfl⟩ : ∃ j, k = j + 1 := ⟨k - 1, by omega⟩
  rw [Nat.pow_succ]; omega
theorem Pw.mask {W : Nat} (h : Pw W) (y s : Int) : bits .and .u64 ((xo y s : Nat) : Int) ((W : Int) - 1) = ((xo y s % W : Nat) : Int) := by
  obtain ⟨k, _, h2, rfl⟩ := h
  exact and_mask y s (by omega)
theorem Pw.place {W : Nat} (h : Pw W) (x : Nat) : x % W / 2 < W / 2 := by
  have := h.even
  have := Nat.mod_lt x (show 0 < W by have := h.lo; omega)
  omega
theorem pw_wid {n : Nat} (h1 : 2 ≤ n) (h2 : n ≤ 512) : Pw (wid n) := by
  have a := clog_mono h2
  rw [clog_512] at a
  refine ⟨clog n, ?_, a, rfl⟩
  have := clog_le n
  rcases Nat.eq_zero_or_pos (clog n) with h | h
  · rw [h] at this; omega
  · exact h
/-- The places of a list of hashes in a row of W counters, by a seed. -/
def ixL (zs : List Int) (s : Int) (W : Nat) : List Nat := zs.map fun y => xo y s % W
theorem ixL_snoc (zs : List Int) (y s : Int) (W : Nat) : ixL (zs ++ [y]) s W = ixL zs s W ++ [xo y s % W] := by simp [ixL]
/-- The counters of a list of hashes. -/
def skC (zs : List Int) (s : Int) (W : Nat) : Nat → Nat := cnt (ixL zs s W)
theorem skC_nil (s : Int) (W : Nat) : skC [] s W = fun _ => 0 := rfl
theorem skC_snoc (zs : List Int) (y s : Int) (W : Nat) : skC (zs ++ [y]) s W = bump (skC zs s W) (xo y s % W) := by unfold skC; rw [ixL_snoc, cnt_snoc]
theorem small_skC (zs : List Int) (s : Int) (W : Nat) : Small (skC zs s W) := small_cnt _

/-- The least of a start and of the first k values. -/
def lowTo (st : Nat) (f : Nat → Nat) : Nat → Nat
  | 0 => st
  | k + 1 => min (lowTo st f k) (f k)
theorem lowTo_le (st : Nat) (f : Nat → Nat) (k : Nat) : lowTo st f k ≤ st := by
  induction k with
  | zero => exact Nat.le_refl _
  | succ k ih => unfold lowTo; omega
theorem low_255 {f : Nat → Nat} (h : ∀ i, f i ≤ 15) : lowTo 255 f 4 = lowTo 15 f 4 := by
  have h0 := h 0
  simp only [lowTo]
  omega
/-- The counter of x in row i. -/
def rowV (zs : List Int) (S : Nat → Int) (W : Nat) (b : Bool) (x : Int) (i : Nat) : Nat := fin (skC zs (S i) W) b (xo x (S i) % W)
theorem rowV_le (zs : List Int) (S : Nat → Int) (W : Nat) (b : Bool) (x : Int) (i : Nat) : rowV zs S W b x i ≤ 15 := small_fin (small_skC _ _ _) b _
/-- What a sketch tells of a hash. -/
def est (zs : List Int) (S : Nat → Int) (W : Nat) (b : Bool) (x : Int) : Nat := lowTo 15 (rowV zs S W b x) 4
theorem est_le (zs : List Int) (S : Nat → Int) (W : Nat) (b : Bool) (x : Int) : est zs S W b x ≤ 15 := lowTo_le _ _ _

/-- How often a hash is in a list. -/
def many (zs : List Int) (x : Int) : Nat := (zs.filter fun y => y == x).length
theorem many_snoc (zs : List Int) (y x : Int) : many (zs ++ [y]) x = many zs x + if y == x then 1 else 0 := by
  unfold many
  rw [List.filter_append]
  cases h : y == x <;> simp [h]
theorem many_le (zs : List Int) (x : Int) : many zs x ≤ zs.length := List.length_filter_le _ _
theorem skC_ge (s : Int) (W : Nat) (x : Int) (zs : List Int) : min 15 (many zs x) ≤ skC zs s W (xo x s % W) := by
  have h : ∀ (zs : List Int) (C : Nat → Nat) (q : Nat), min 15 q ≤ C (xo x s % W) → min 15 (q + many zs x) ≤ (ixL zs s W).foldl bump C (xo x s % W) := by
    intro zs
    induction zs with
    | nil => intro C q hq; simpa [many, ixL] using hq
    | cons y zs ih =>
      intro C q hq
      have hstep : min 15 (q + if y == x then 1 else 0) ≤ bump C (xo y s % W) (xo x s % W) := by
        unfold bump
        by_cases he : y = x
        · subst he
          simp; omega
        · have he' : (y == x) = false := by simpa using he
          simp only [he', Bool.false_eq_true, if_false, Nat.add_zero]
          by_cases hp : xo x s % W = xo y s % W
          · rw [if_pos hp, ← hp]; omega
          · rw [if_neg hp]; exact hq
      have := ih (bump C (xo y s % W)) _ hstep
      have e : q + many (y :: zs) x = q + (if y == x then 1 else 0) + many zs x := by
        unfold many
        cases he : y == x <;> simp [he]; omega
      rw [e]
      exact this
  have := h zs (fun _ => 0) 0 (by omega)
  simpa [skC, cnt] using this
/-- A sketch that was not halved never tells less than how often a hash was put in. -/
theorem est_ge (zs : List Int) (S : Nat → Int) (W : Nat) (x : Int) : min 15 (many zs x) ≤ est zs S W false x := by
  have h : ∀ i, min 15 (many zs x) ≤ rowV zs S W false x i := fun i => by
    have := skC_ge (S i) W x zs
    simpa [rowV, fin] using this
  have h0 := h 0
  have h1 := h 1
  have h2 := h 2
  have h3 := h 3
  simp only [est, lowTo]
  omega
end Go.Proofs.Ytoddnjpbmefgnaa
