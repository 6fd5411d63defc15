/-
  Plain arithmetic: the least power of two that is not below a number. No program in sight.
-/
namespace Go.Proofs.Ytoddnjpbmefgnaa

/-- The least k with n ≤ 2^k. -/
def clog (n : Nat) : Nat := if n ≤ 1 then 0 else Nat.log2 (n - 1) + 1

theorem clog_le (n : Nat) : n ≤ 2 ^ clog n := by
  unfold clog
  split
  · omega
  · rename_i h
    have := @Nat.lt_log2_self (n - 1)
    omega

theorem clog_lt (n : Nat) (h : clog n ≠ 0) : 2 ^ (clog n - 1) < n := by
  unfold clog at h ⊢
  split at h
  · omega
  · rename_i hn
    rw [if_neg hn, Nat.add_sub_cancel]
    have := Nat.log2_self_le (n := n - 1) (by omega)
    omega

theorem pow_lt_of {a b : Nat} (h : a < b) : 2 ^ a * 2 ≤ 2 ^ b := by
  have : 2 ^ (a + 1) ≤ 2 ^ b := Nat.pow_le_pow_right (by omega) (by omega)
  omega

theorem clog_eq {n k : Nat} (h1 : n ≤ 2 ^ k) (h2 : k = 0 ∨ 2 ^ (k - 1) < n) : clog n = k := by
  have a := clog_le n
  rcases Nat.lt_trichotomy (clog n) k with h | h | h
  · rcases h2 with h2 | h2
    · omega
    · have := Nat.pow_le_pow_right (n := 2) (by omega) (show clog n ≤ k - 1 by omega)
      omega
  · exact h
  · have b := clog_lt n (by omega)
    have := Nat.pow_le_pow_right (n := 2) (by omega) (show k ≤ clog n - 1 by omega)
    omega

theorem clog_mono {n m : Nat} (h : n ≤ m) : clog n ≤ clog m := by
  rcases Nat.lt_or_ge (clog m) (clog n) with hlt | hge
  · have a := clog_le m
    have b := clog_lt n (by omega)
    have := Nat.pow_le_pow_right (n := 2) (by omega) (show clog m ≤ clog n - 1 by omega)
    omega
  · exact hge

theorem clog_512 : clog 512 = 9 := by decide
theorem clog_65536 : clog 65536 = 16 := by decide

/-- The exponent of a filter's size: 9 at least. -/
def ex (n : Nat) : Nat := clog (max n 512)
theorem ex_lo (n : Nat) : 9 ≤ ex n := by
  have := clog_mono (show 512 ≤ max n 512 by omega)
  rw [clog_512] at this; exact this
theorem ex_hi {n : Nat} (h : n ≤ 65536) : ex n ≤ 16 := by
  have := clog_mono (show max n 512 ≤ 65536 by omega)
  rw [clog_65536] at this; exact this
/-- A filter's size: a power of two, 512 at least. -/
def fsize (n : Nat) : Nat := 2 ^ ex n
theorem fsize_lo (n : Nat) : 512 ≤ fsize n := Nat.pow_le_pow_right (n := 2) (by omega) (ex_lo n)
theorem fsize_hi {n : Nat} (h : n ≤ 65536) : fsize n ≤ 65536 := Nat.pow_le_pow_right (n := 2) (by omega) (ex_hi h)
/-- A filter's words. -/
def fwords (n : Nat) : Nat := 2 ^ (ex n - 6)
theorem fwords_eq (n : Nat) : fwords n * 64 = fsize n := by
  have h := ex_lo n
  unfold fwords fsize
  rw [show (64 : Nat) = 2 ^ 6 from rfl, ← Nat.pow_add]
  congr 1; omega
theorem fsize_div (n : Nat) : fsize n / 64 = fwords n := by
  have := fwords_eq n; omega
theorem fwords_hi {n : Nat} (h : n ≤ 65536) : fwords n ≤ 1024 := by
  have := fwords_eq n; have := fsize_hi h; omega
theorem fwords_lo (n : Nat) : 8 ≤ fwords n := by
  have := fwords_eq n; have := fsize_lo n; omega

/-- The power of two that is found by doubling. -/
def wid (n : Nat) : Nat := 2 ^ clog n
theorem wid_ge (n : Nat) : n ≤ wid n := clog_le n
theorem max_wid (n : Nat) : max 512 (wid n) = fsize n := by
  unfold wid fsize ex
  rcases Nat.lt_or_ge 512 n with h | h
  · have e : max n 512 = n := by omega
    rw [e]
    have := clog_le n; omega
  · have e : max n 512 = 512 := by omega
    rw [e, clog_512]
    have := clog_mono h
    rw [clog_512] at this
    have := Nat.pow_le_pow_right (n := 2) (by omega) this
    omega

/-- What the doubling loop keeps. -/
def DblInv (n P k : Nat) : Prop := P = 2 ^ k ∧ (k = 0 ∨ 2 ^ (k - 1) < n)
theorem DblInv.start (n : Nat) : DblInv n 1 0 := ⟨rfl, .inl rfl⟩
theorem DblInv.step {n P k : Nat} (h : DblInv n P k) (hlt : P < n) : DblInv n (P * 2) (k + 1) := by
  obtain ⟨rfl, _⟩ := h
  exact ⟨by rw [Nat.pow_succ], .inr (by simpa using hlt)⟩
theorem DblInv.done {n P k : Nat} (h : DblInv n P k) (hge : n ≤ P) : P = 2 ^ clog n ∧ k = clog n := by
  obtain ⟨rfl, h⟩ := h
  have := clog_eq hge h
  rw [this]; exact ⟨rfl, rfl⟩
theorem DblInv.bound {n P k : Nat} (h : DblInv n P k) (hn : n ≤ 65536) : 1 ≤ P ∧ P ≤ 65536 ∧ k ≤ 16 := by
  obtain ⟨rfl, h⟩ := h
  refine ⟨Nat.one_le_two_pow, ?_⟩
  rcases h with rfl | h
  · omega
  · have hk : k ≤ 16 := by
      rcases Nat.lt_or_ge 16 k with hk | hk
      · have := Nat.pow_le_pow_right (n := 2) (by omega) (show 16 ≤ k - 1 by omega)
        have e : 2 ^ 16 = 65536 := rfl
        omega
      · exact hk
    exact ⟨Nat.pow_le_pow_right (n := 2) (by omega) hk, hk⟩

end Go.Proofs.Ytoddnjpbmefgnaa
