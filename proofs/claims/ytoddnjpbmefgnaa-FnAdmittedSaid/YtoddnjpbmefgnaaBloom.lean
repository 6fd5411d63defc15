/-
  The walks of a filter's methods.
-/
import Derived.Test.YtoddnjpbmefgnaaShapeWalks
import Derived.Test.YtoddnjpbmefgnaaBits
namespace Go.Proofs.Ytoddnjpbmefgnaa
open Go.RowKit

theorem pow_u64 (k : Nat) : ((2 ^ (k % 64) : Nat) : Int) < 18446744073709551616 := by
  have h := Nat.pow_lt_pow_right (a := 2) (by omega) (show k % 64 < 64 by omega)
  omega
theorem bit_test (B : Nat → Bool) (idx : Nat) : (bits .and .u64 (((wordOf B (idx / 64) : Nat) : Int) / 2 ^ (idx % 64)) 1 == 1) = B idx := by
  have h := wordOf_bit B idx
  have hlt := wordOf_lt B (idx / 64)
  have e : ((wordOf B (idx / 64) : Nat) : Int) / 2 ^ (idx % 64) = ((wordOf B (idx / 64) / 2 ^ (idx % 64) : Nat) : Int) := by
    rw [Int.natCast_ediv]; simp
  have hle := Nat.div_le_self (wordOf B (idx / 64)) (2 ^ (idx % 64))
  rw [e]
  have e2 := u64_and_nat (wordOf B (idx / 64) / 2 ^ (idx % 64)) 1 (by omega) (by omega)
  rw [Nat.and_one_is_mod, h] at e2
  have e3 : bits .and .u64 ((wordOf B (idx / 64) / 2 ^ (idx % 64) : Nat) : Int) 1 = ((if B idx = true then 1 else 0 : Nat) : Int) := e2
  rw [e3]
  cases B idx <;> rfl
theorem bit_set (B : Nat → Bool) (idx : Nat) : bits .or .u64 ((wordOf B (idx / 64) : Nat) : Int) (IntKind.u64.wrap (2 ^ (idx % 64))) = ((wordOf (setB B idx) (idx / 64) : Nat) : Int) := by
  have hlt := wordOf_lt B (idx / 64)
  have hp := pow_u64 idx
  have e : (2 : Int) ^ (idx % 64) = ((2 ^ (idx % 64) : Nat) : Int) := by simp
  rw [wordOf_setB, if_pos rfl, e]
  generalize 2 ^ (idx % 64) = q at hp
  rw [IntWalk.u64_in _ ⟨by omega, by omega⟩, u64_or_nat _ _ (by omega) (by omega)]

/-- A filter at block p, its words in block g: m words, the bits B. -/
structure Filt (w : World) (p g m : Nat) (el e sz L sh : Int) (B : Nat → Bool) : Prop where
  head : At w p (.cells (blHead g m el e sz L sh) 105 (0, 0))
  words : At w g (.cells (wordsA B m) 23 (0, 0))

set_option maxRecDepth 100000 in
set_option maxHeartbeats 400000 in
theorem isSet_any (p g m idx : Nat) (B : Nat → Bool) (w : World) (h0 : w.cell? ⟨p, 0, none⟩ = some (.slice (some ⟨g, 0, none⟩) m m)) (hg : At w g (.cells (wordsA B m) 23 (0, 0))) (hi : idx / 64 < m) :
    Calls Try.prog 61 #[.pointer (some ⟨p, 0, none⟩), .int .u64 (idx : Int)] w fun e w' => e = .returned (.bool (B idx)) ∧ w = w' := by
  have hw : w.cell? ⟨g, idx / 64, none⟩ = some (.int .u64 ((wordOf B (idx / 64) : Nat) : Int)) := (hg.cell _).trans (wordsA_get B hi)
  go_enter Try.func61, Try.ntmps61
  go_wp2
  go_returns
  exact ⟨congrArg (fun b => Ending.returned (.bool b)) (bit_test B idx), rfl⟩

set_option maxRecDepth 100000 in
set_option maxHeartbeats 400000 in
theorem set_any (p g m idx : Nat) (B : Nat → Bool) (w : World) (h0 : w.cell? ⟨p, 0, none⟩ = some (.slice (some ⟨g, 0, none⟩) m m)) (hg : At w g (.cells (wordsA B m) 23 (0, 0))) (hi : idx / 64 < m) :
    Calls Try.prog 60 #[.pointer (some ⟨p, 0, none⟩), .int .u64 (idx : Int)] w fun e w' => e = .returned (.tuple #[]) ∧ w.setCell ⟨g, idx / 64, none⟩ (.int .u64 ((wordOf (setB B idx) (idx / 64) : Nat) : Int)) = w' := by
  have hw : w.cell? ⟨g, idx / 64, none⟩ = some (.int .u64 ((wordOf B (idx / 64) : Nat) : Int)) := (hg.cell _).trans (wordsA_get B hi)
  have hf : w.frozen? ⟨g, idx / 64, none⟩ = false := hg.free _
  go_enter Try.func60, Try.ntmps60
  go_wp2
  go_returns
  exact ⟨rfl, by rw [bit_set]⟩

theorem hasB_no {B : Nat → Bool} {x sz sh L : Int} {k : Nat} (hk : (k : Int) < L) (hb : B (plI x sz sh k) = false) : hasB B x sz sh L = false := by
  unfold hasB
  rw [List.all_eq_false]
  exact ⟨k, by simp; omega, by simp [hb]⟩
theorem hasB_yes {B : Nat → Bool} {x sz sh L : Int} (h : ∀ j : Nat, (j : Int) < L → B (plI x sz sh j) = true) : hasB B x sz sh L = true := by
  unfold hasB
  rw [List.all_eq_true]
  intro j hj
  exact h j (by simp at hj; omega)
theorem below_succ {P : Nat → Prop} {k : Nat} (h : ∀ j, j < k → P j) (hk : P k) : ∀ j, j < k + 1 → P j := by
  intro j hj
  rcases Nat.lt_or_ge j k with h1 | h1
  · exact h j h1
  · have : j = k := by omega
    subst this; exact hk
theorem plI_lt {x sz sh : Int} {m : Nat} (i : Nat) (h0 : 0 ≤ sz) (h1 : sz < 64 * m) (hm : m ≤ 1024) : plI x sz sh i / 64 < m := by
  have := atI_le (hiI x sh) (hiI (upI x sh) sh) i h0 (by omega)
  unfold plI
  omega

set_option maxRecDepth 100000 in
set_option maxHeartbeats 400000 in
theorem has_any (g m : Nat) (el e sz L sh x : Int) (B : Nat → Bool) (w : World) (hg : At w g (.cells (wordsA B m) 23 (0, 0)))
    (hs0 : 0 ≤ sz) (hs1 : sz < 64 * m) (hm : m ≤ 1024) (hL0 : 0 ≤ L) (hL1 : L ≤ 8) (hsh : Hid (0 ≤ sh)) :
    Calls Try.prog 36 #[.agg (blHead g m el e sz L sh), .int .u64 x] w fun e' w' => e' = .returned (.bool (hasB B x sz sh L)) ∧ w.alloc (.cells (blHead g m el e sz L sh) 105) = w' := by
  have hp0 : At (w.alloc (.cells (blHead g m el e sz L sh) 105)) w.heap.size (.cells (blHead g m el e sz L sh) 105 (0, 0)) := At.new _ _
  have hg1 := hg.alloc (.cells (blHead g m el e sz L sh) 105)
  have hr := fun y => shr_hi y hsh.out
  have hl := fun y => shl_up y hsh.out
  unfold blHead at hp0 hg1 ⊢
  go_enter Try.func36, Try.ntmps36
  go_wp2
  clear hr hl
  go_loop [7] (fun i => ∃ k : Nat, i = .int .u64 k ∧ (k : Int) ≤ L ∧ Hid (∀ j, j < k → B (plI x sz sh j) = true)) (fun i => L.toNat - (intOf i).toNat)
  case atStart => exact ⟨0, rfl, by omega, fun _ h => absurd h (Nat.not_lt_zero _)⟩
  case round =>
    obtain ⟨k, rfl, hk, hI⟩ := hrel
    by_cases hlt : (k : Int) < L
    · have hmix : bits .and .u64 (IntKind.u64.wrap (hiI x sh + IntKind.u64.wrap ((k : Int) * hiI (upI x sh) sh))) sz = ((plI x sz sh k : Nat) : Int) := atI_eq _ _ k hs0 (by omega)
      have hpl := plI_lt (x := x) (sh := sh) k hs0 hs1 hm
      cases hb : B (plI x sz sh k)
      · have hB := Lib.hid hb
        clear hb
        go_wp2_with fail
        refine (isSet_any w.heap.size g m _ B _ (hp0.cell 0) hg1 hpl).mono ?_
        rintro e' w' ⟨rfl, rfl⟩
        rw [hB.out]
        go_wp2
        go_returns
        exact ⟨congrArg (fun b => Ending.returned (.bool b)) (Eq.symm (hasB_no (by omega) hB.out)), rfl⟩
      · have hB := Lib.hid hb
        clear hb
        go_wp2_with fail
        refine (isSet_any w.heap.size g m _ B _ (hp0.cell 0) hg1 hpl).mono ?_
        rintro e' w' ⟨rfl, rfl⟩
        rw [hB.out]
        go_wp2
        go_round
        case rel => exact ⟨k + 1, by go_num, by omega, below_succ hI.out hB.out⟩
        case measure => simp [intOf]; omega
    · go_wp2
      go_returns
      exact ⟨congrArg (fun b => Ending.returned (.bool b)) (Eq.symm (hasB_yes (fun j hj => hI.out j (by omega)))), rfl⟩

/-- Set, with its world as a variable. -/
theorem set_chg (p g m idx : Nat) (B : Nat → Bool) (w : World) (h0 : w.cell? ⟨p, 0, none⟩ = some (.slice (some ⟨g, 0, none⟩) m m)) (hg : At w g (.cells (wordsA B m) 23 (0, 0))) (hi : idx / 64 < m) :
    Calls Try.prog 60 #[.pointer (some ⟨p, 0, none⟩), .int .u64 (idx : Int)] w fun e w' => e = .returned (.tuple #[]) ∧ At w' g (.cells (wordsA (setB B idx) m) 23 (0, 0)) ∧ Chg (fun k => k = g) w w' :=
  (set_any p g m idx B w h0 hg hi).mono fun e w' ⟨he, hw⟩ => ⟨he, by
    subst hw
    refine ⟨?_, (Chg.refl (fun k => k = g) w).setCell (p := ⟨g, idx / 64, none⟩) (fun _ => rfl) _⟩
    have := hg.set (idx / 64) (.int .u64 ((wordOf (setB B idx) (idx / 64) : Nat) : Int))
    rwa [wordsA_set] at this⟩

theorem Filt.ne {w : World} {p g m : Nat} {el e sz L sh : Int} {B : Nat → Bool} (h : Filt w p g m el e sz L sh B) : p ≠ g := h.head.apart h.words (by decide)
theorem Filt.chg {S : Nat → Prop} {w w' : World} {p g m : Nat} {el e sz L sh : Int} {B : Nat → Bool} (h : Filt w p g m el e sz L sh B) (hc : Chg S w w') (hp : ¬ S p) (hg : ¬ S g) : Filt w' p g m el e sz L sh B :=
  ⟨hc.at_ h.head hp, hc.at_ h.words hg⟩

theorem head_set (g m : Nat) (el el' e sz L sh : Int) : (blHead g m el e sz L sh).setIfInBounds 1 (.int .u64 el') = blHead g m el' e sz L sh := rfl

set_option maxRecDepth 100000 in
set_option maxHeartbeats 400000 in
theorem add_any (p g m : Nat) (el e sz L sh x : Int) (B : Nat → Bool) (w : World) (hF : Filt w p g m el e sz L sh B)
    (hs0 : 0 ≤ sz) (hs1 : sz < 64 * m) (hm : m ≤ 1024) (hL0 : 0 ≤ L) (hL1 : L ≤ 8) (hsh : Hid (0 ≤ sh)) :
    Calls Try.prog 33 #[.pointer (some ⟨p, 0, none⟩), .int .u64 x] w fun e' w' => e' = .returned (.tuple #[]) ∧ (∃ el', Filt w' p g m el' e sz L sh (addB B x sz sh L)) ∧ Chg (fun k => k = p ∨ k = g) w w' := by
  have hr := fun y => shr_hi y hsh.out
  have hl := fun y => shl_up y hsh.out
  have c5 : w.cell? ⟨p, 5, none⟩ = some (.int .u64 sh) := hF.head.cell 5
  go_enter Try.func33, Try.ntmps33
  go_wp2
  go_quiet (fail)
  go_wp2
  clear hr hl c5
  go_loopw [6] (fun i wr => ∃ k : Nat, i = .int .u64 k ∧ (k : Int) ≤ L ∧ (∃ el', Filt wr p g m el' e sz L sh (addN B x sz sh k)) ∧ Chg (fun k => k = p ∨ k = g) w wr) (fun i _ => L.toNat - (intOf i).toNat)
  case atStart => exact ⟨0, rfl, by omega, ⟨el, by rw [addN_zero]; exact ⟨hF.head, hF.words⟩⟩, (Chg.refl _ _).drewN _⟩
  case round =>
    obtain ⟨k, rfl, hk, ⟨el', hFr⟩, hC⟩ := hrel
    have c4 : wr.cell? ⟨p, 4, none⟩ = some (.int .u64 L) := hFr.head.cell 4
    by_cases hlt : (k : Int) < L
    · have hmix : bits .and .u64 (IntKind.u64.wrap (hiI x sh + IntKind.u64.wrap ((k : Int) * hiI (upI x sh) sh))) sz = ((plI x sz sh k : Nat) : Int) := atI_eq _ _ k hs0 (by omega)
      have hpl := plI_lt (x := x) (sh := sh) k hs0 hs1 hm
      have c3 : wr.cell? ⟨p, 3, none⟩ = some (.int .u64 sz) := hFr.head.cell 3
      go_wp2_with fail
      refine (set_chg p g m _ (addN B x sz sh k) wr (hFr.head.cell 0) hFr.words hpl).mono ?_
      rintro e' w1 ⟨rfl, hg1, hc1⟩
      have hp1 : At w1 p (.cells (blHead g m el' e sz L sh) 105 (0, 0)) := hc1.at_ hFr.head hFr.ne
      have d1 : w1.cell? ⟨p, 1, none⟩ = some (.int .u64 el') := hp1.cell 1
      have f1 : w1.frozen? ⟨p, 1, none⟩ = false := hp1.free 1
      clear c3 c4
      go_wp2
      go_roundw
      case rel =>
        refine ⟨k + 1, by go_num, by omega, ⟨IntKind.u64.wrap (el' + 1), ⟨?_, ?_⟩⟩, ?_⟩
        · exact (head_set g m el' _ e sz L sh) ▸ hp1.set 1 _
        · rw [addN_succ]; exact hg1.far (Ne.symm hFr.ne) _
        · exact (hC.trans (hc1.mono fun j _ h => .inr h)).setCell (fun _ => .inl rfl) _
      case measure => simp [intOf]; omega
    · go_wp2
      go_returns
      have e1 : addN B x sz sh k = addB B x sz sh L := by unfold addN addB; rw [show L.toNat = k by omega]
      exact ⟨rfl, ⟨el', e1 ▸ hFr⟩, hC⟩
end Go.Proofs.Ytoddnjpbmefgnaa
