/-
  TinyLFU: its filter is emptied; a key is put in; what it tells of a key.
-/
import Derived.Test.YtoddnjpbmefgnaaAdded
import Derived.Test.YtoddnjpbmefgnaaEstimates
import Derived.Test.YtoddnjpbmefgnaaFilter
namespace Go.Proofs.Ytoddnjpbmefgnaa
open Go.RowKit

/-- The first i words emptied. -/
def clrB (B : Nat → Bool) (i : Nat) (k : Nat) : Bool := B k && decide (64 * i ≤ k)
theorem wordOf_clr (B : Nat → Bool) (i j : Nat) : wordOf (clrB B i) j = if j < i then 0 else wordOf B j := by
  apply Nat.eq_of_testBit_eq
  intro q
  rw [testBit_wordOf]
  unfold clrB
  by_cases h : j < i
  · rw [if_pos h, Nat.zero_testBit]
    by_cases hq : q < 64
    · have : ¬ 64 * i ≤ 64 * j + q := by omega
      simp [this]
    · simp [hq]
  · rw [if_neg h, testBit_wordOf]
    have : 64 * i ≤ 64 * j + q := by omega
    simp [this]
theorem clrB_zero (B : Nat → Bool) : clrB B 0 = B := by funext k; simp [clrB]
theorem wordsA_clr (B : Nat → Bool) (m i : Nat) : (wordsA (clrB B i) m).setIfInBounds i (.int .u64 0) = wordsA (clrB B (i + 1)) m := by
  apply Array.ext_getElem?
  intro j
  by_cases hj : j < m
  · rw [wordsA_get _ hj, wordOf_clr]
    by_cases e : i = j
    · subst e
      rw [if_pos (Nat.lt_succ_self _), Array.getElem?_setIfInBounds_self_of_lt (by rw [wordsA_size]; exact hj)]
      rfl
    · rw [Array.getElem?_setIfInBounds_ne e, wordsA_get _ hj, wordOf_clr]
      by_cases h : j < i
      · rw [if_pos h, if_pos (by omega)]
      · rw [if_neg h, if_neg (by omega)]
  · rw [Array.getElem?_eq_none (by rw [Array.size_setIfInBounds, wordsA_size]; omega), Array.getElem?_eq_none (by rw [wordsA_size]; omega)]

set_option maxRecDepth 100000 in
set_option maxHeartbeats 400000 in
theorem clear_any (p g m : Nat) (el e sz L sh : Int) (B : Nat → Bool) (w : World) (hm : m ≤ 1024) (hF : Filt w p g m el e sz L sh B) :
    Calls Try.prog 110 #[.pointer (some ⟨p, 0, none⟩)] w fun e' w' => e' = .returned (.tuple #[]) ∧ (∃ B', Filt w' p g m el e sz L sh B') ∧ Chg (fun k => k = p ∨ k = g) w w' := by
  have c0 : w.cell? ⟨p, 0, none⟩ = some (.slice (some ⟨g, 0, none⟩) m m) := hF.head.cell 0
  have hne := hF.ne
  go_enter Try.func110, Try.ntmps110
  go_wp2
  clear c0
  go_loopw [8] (fun i wr => ∃ k : Nat, k ≤ m ∧ i = .int .i64 k ∧ Filt wr p g m el e sz L sh (clrB B k) ∧ Chg (fun k => k = p ∨ k = g) w wr) (fun i _ => m - (intOf i).toNat)
  case atStart => exact ⟨0, Nat.zero_le _, rfl, by rw [clrB_zero]; exact hF, Chg.refl _ _⟩
  case round =>
    clear hF
    obtain ⟨k, hk, rfl, hF, hch⟩ := hrel
    have c0 : wr.cell? ⟨p, 0, none⟩ = some (.slice (some ⟨g, 0, none⟩) m m) := hF.head.cell 0
    by_cases hlt : k < m
    · have c1 : wr.cell? ⟨g, k, none⟩ = some (.int .u64 ((wordOf (clrB B k) k : Nat) : Int)) := (hF.words.cell k).trans (wordsA_get _ hlt)
      have f1 := hF.words.free k
      have hF2 : Filt (wr.setCell ⟨g, k, none⟩ (.int .u64 0)) p g m el e sz L sh (clrB B (k + 1)) :=
        ⟨hF.head.far (p := ⟨g, k, none⟩) hne _, by have h := hF.words.set k (.int .u64 0); rw [wordsA_clr] at h; exact h⟩
      have hc2 := hch.setCell (p := ⟨g, k, none⟩) (fun _ => .inr rfl) (.int .u64 0)
      clear hF hch
      go_wp2
      go_roundw
      case rel => exact ⟨k + 1, by omega, by go_num, hF2, hc2⟩
      case measure => simp [intOf]; omega
    · go_wp2
      go_returns
      exact ⟨rfl, ⟨_, hF⟩, hch⟩

/-- A TinyLFU of 64 counters and a filter of 512 places, four a hash; its blocks among R. -/
def Tin (R : Nat → Prop) (w : World) (T : Nat) : Prop :=
  ∃ (P : Nat) (G : Nat → Nat) (S : Nat → Int) (C : Nat → Nat → Nat) (p g : Nat) (el : Int) (B : Nat → Bool) (inc : Nat), R T ∧ R P ∧ (∀ i, i < 4 → R (G i)) ∧ R p ∧ R g ∧ inc < 64 ∧
    At w T (.cells #[.pointer (some ⟨P, 0, none⟩), .pointer (some ⟨p, 0, none⟩), .int .i64 inc, .int .i64 64] 134 (0, 0)) ∧ Sk w P G S (wid 64) C ∧ Filt w p g (fwords 512) el (ex 512 : Nat) (szI 512) 4 (shI 512) B
theorem Tin.chg {R S : Nat → Prop} {w w' : World} {T : Nat} (h : Tin R w T) (hc : Chg S w w') (hS : ∀ j, R j → ¬ S j) : Tin R w' T := by
  obtain ⟨P, G, Sd, C, p, g, el, B, inc, r1, r2, r3, r4, r5, hi, h1, h2, h3⟩ := h
  exact ⟨P, G, Sd, C, p, g, el, B, inc, r1, r2, r3, r4, r5, hi, hc.at_ h1 (hS _ r1), h2.chg hc (hS _ r2) (fun i hi => hS _ (r3 i hi)), h3.chg hc (hS _ r4) (hS _ r5)⟩
theorem hid64 : Hid (Pw (wid 64)) := Lib.hid (pw_wid (by omega) (by omega))
theorem sh512 : Hid (0 ≤ shI 512) := Lib.hid (shI_lo (by omega))

set_option maxRecDepth 100000 in
set_option maxHeartbeats 400000 in
theorem tinEst_any (R : Nat → Prop) (T : Nat) (x : Int) (w : World) (h : Tin R w T) :
    Calls Try.prog 89 #[.pointer (some ⟨T, 0, none⟩), .int .u64 x] w fun e w' => (∃ v : Int, e = .returned (.int .i64 v) ∧ 0 ≤ v ∧ v ≤ 256) ∧ Below w.heap.size w w' := by
  obtain ⟨P, G, S, C, p, g, el, B, inc, r1, r2, r3, r4, r5, hi, h1, h2, h3⟩ := h
  have c0 : w.cell? ⟨T, 0, none⟩ = some (.pointer (some ⟨P, 0, none⟩)) := h1.cell 0
  have c1 : w.cell? ⟨T, 1, none⟩ = some (.pointer (some ⟨p, 0, none⟩)) := h1.cell 1
  have hlo := lowTo_le 255 (rowC C S (wid 64) x) 4
  have hest := skEst_any P G S (wid 64) C x w hid64 h2
  generalize lowTo 255 (rowC C S (wid 64) x) 4 = lo at hlo hest
  have hhas := fun W hg => has_any g (fwords 512) el (ex 512 : Nat) (szI 512) 4 (shI 512) x B W hg (by have := szI_lo 512; omega) (szI_lt 512) (fwords_hi (by omega)) (by omega) (by omega) sh512
  generalize hasB B x (szI 512) (shI 512) 4 = t at hhas
  have a0 : w.cell? ⟨p, 0, none⟩ = some (.slice (some ⟨g, 0, none⟩) (fwords 512) (fwords 512)) := h3.head.cell 0
  have a1 : w.cell? ⟨p, 1, none⟩ = some (.int .u64 el) := h3.head.cell 1
  have a2 : w.cell? ⟨p, 2, none⟩ = some (.int .u64 ((ex 512 : Nat) : Int)) := h3.head.cell 2
  have a3 : w.cell? ⟨p, 3, none⟩ = some (.int .u64 (szI 512)) := h3.head.cell 3
  have a4 : w.cell? ⟨p, 4, none⟩ = some (.int .u64 4) := h3.head.cell 4
  have a5 : w.cell? ⟨p, 5, none⟩ = some (.int .u64 (shI 512)) := h3.head.cell 5
  have HE := Lib.hid hest
  have HH := Lib.hid hhas
  have hw := h3.words
  clear hest hhas h1 h2 h3
  go_enter Try.func89, Try.ntmps89
  go_wp2_with fail
  refine HE.out.mono ?_
  rintro e w1 ⟨rfl, q, rfl⟩
  go_wp2_with fail
  refine (HH.out _ (by exact hw)).mono ?_
  rintro e w2 ⟨rfl, hw2⟩
  have hb : Below w.heap.size w w2 := by
    rw [← hw2]
    exact (below_drewN (Below.refl w.heap.size w) q).alloc (Nat.le_refl _) _
  clear hw2 HE HH a0 a1 a2 a3 a4 a5 c0 c1 hw
  cases t
  · go_wp2
    go_returns
    exact ⟨⟨_, rfl, by omega, by omega⟩, hb⟩
  · go_wp2
    go_returns
    exact ⟨⟨_, rfl, by omega, by omega⟩, hb⟩

set_option maxRecDepth 100000 in
set_option maxHeartbeats 400000 in
theorem tinReset_any (R : Nat → Prop) (T : Nat) (w : World) (inc : Nat) (P : Nat) (G : Nat → Nat) (S : Nat → Int) (C : Nat → Nat → Nat) (p g : Nat) (el : Int) (B : Nat → Bool) (r1 : R T) (r2 : R P) (r3 : ∀ i, i < 4 → R (G i)) (r4 : R p) (r5 : R g)
    (h1 : At w T (.cells #[.pointer (some ⟨P, 0, none⟩), .pointer (some ⟨p, 0, none⟩), .int .i64 inc, .int .i64 64] 134 (0, 0))) (h2 : Sk w P G S (wid 64) C) (h3 : Filt w p g (fwords 512) el (ex 512 : Nat) (szI 512) 4 (shI 512) B) :
    Calls Try.prog 104 #[.pointer (some ⟨T, 0, none⟩)] w fun e w' => e = .returned (.tuple #[]) ∧ Tin R w' T ∧ Chg R w w' := by
  have nP : T ≠ P := h1.apart h2.head (by decide)
  have nG : ∀ i, i < 4 → T ≠ G i := fun i hi => h1.apart (h2.row i hi) (by decide)
  have np : T ≠ p := h1.apart h3.head (by decide)
  have ng : T ≠ g := h1.apart h3.words (by decide)
  have nPp : P ≠ p := h2.head.apart h3.head (by decide)
  have nPg : P ≠ g := h2.head.apart h3.words (by decide)
  have nGp : ∀ i, i < 4 → G i ≠ p := fun i hi => (h2.row i hi).apart h3.head (by decide)
  have nGg : ∀ i, i < 4 → G i ≠ g := fun i hi => (h2.row i hi).apart h3.words (by decide)
  have c0 : w.cell? ⟨T, 0, none⟩ = some (.pointer (some ⟨P, 0, none⟩)) := h1.cell 0
  have c1 : w.cell? ⟨T, 1, none⟩ = some (.pointer (some ⟨p, 0, none⟩)) := h1.cell 1
  have c2 : w.cell? ⟨T, 2, none⟩ = some (.int .i64 inc) := h1.cell 2
  have f2 := h1.free 2
  have hc1 : Chg (fun j => j = T) w (w.setCell ⟨T, 2, none⟩ (.int .i64 0)) := (Chg.refl (fun j => j = T) w).setCell (p := ⟨T, 2, none⟩) (fun _ => rfl) _
  have h1' : At (w.setCell ⟨T, 2, none⟩ (.int .i64 0)) T (.cells #[.pointer (some ⟨P, 0, none⟩), .pointer (some ⟨p, 0, none⟩), .int .i64 0, .int .i64 64] 134 (0, 0)) := h1.set 2 _
  have h2' := h2.chg hc1 (fun e => nP e.symm) (fun i hi e => nG i hi e.symm)
  have h3' := h3.chg hc1 (fun e => np e.symm) (fun e => ng e.symm)
  have hR1 : Chg R w (w.setCell ⟨T, 2, none⟩ (.int .i64 0)) := hc1.mono (fun k _ e => by rw [e]; exact r1)
  go_enter Try.func104, Try.ntmps104
  go_wp2_with fail
  refine (clear_any p g _ el _ _ _ _ B _ (fwords_hi (by omega)) h3').mono ?_
  rintro e w2 ⟨rfl, ⟨B2, h32⟩, hc2⟩
  have h12 := hc2.at_ h1' (fun e => by rcases e with e | e; exact np e; exact ng e)
  have h22 := h2'.chg hc2 (fun e => by rcases e with e | e; exact nPp e; exact nPg e) (fun i hi e => by rcases e with e | e; exact nGp i hi e; exact nGg i hi e)
  have hR2 : Chg R w w2 := hR1.trans (hc2.mono (fun k _ e => by rcases e with e | e; rw [e]; exact r4; rw [e]; exact r5))
  have d0 : w2.cell? ⟨T, 0, none⟩ = some (.pointer (some ⟨P, 0, none⟩)) := h12.cell 0
  clear c0 c1 c2 f2 hc1 h1' h2' h3' hc2 hR1 h1 h2 h3
  go_wp2_with fail
  refine (skReset_any P G S (wid 64) C w2 hid64 h22).mono ?_
  rintro e w3 ⟨rfl, h23, hc3⟩
  have h13 := hc3.at_ h12 (fun e => by rcases e with e | ⟨i, hi, e⟩; exact nP e; exact nG i hi e)
  have h33 := h32.chg hc3 (fun e => by rcases e with e | ⟨i, hi, e⟩; exact nPp e.symm; exact nGp i hi e.symm) (fun e => by rcases e with e | ⟨i, hi, e⟩; exact nPg e.symm; exact nGg i hi e.symm)
  have hR3 : Chg R w w3 := hR2.trans (hc3.mono (fun k _ e => by rcases e with e | ⟨i, hi, e⟩; rw [e]; exact r2; rw [e]; exact r3 i hi))
  clear d0
  go_wp2
  go_returns
  exact ⟨rfl, ⟨P, G, S, _, p, g, el, B2, 0, r1, r2, r3, r4, r5, by omega, h13, h23, h33⟩, hR3⟩
end Go.Proofs.Ytoddnjpbmefgnaa
