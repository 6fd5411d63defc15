/-
  The policy: keys pushed; a new one.
-/
import Derived.Test.YtoddnjpbmefgnaaPol
import Derived.Deep.RegionHeld3
import Derived.IntWalk
namespace Go.Proofs.Ytoddnjpbmefgnaa
open Go.RowKit

set_option maxRecDepth 100000 in
set_option maxHeartbeats 400000 in
theorem polPush_any (RM RT : Nat → Prop) (Q T P b M m : Nat) (most : Int) (C : Nat → Option Int) (w : World) (B : Nat) (hB : ∀ j, RM j ∨ RT j → B ≤ j) (A : Option Addr) (n c : Nat) (xs : List Nat) (hZ : Lst .u64 w B A n (castL xs)) (hn : n ≤ 2147483647) (hx : ∀ x ∈ xs, x ≤ 255) (h : Pol RM RT w Q T P b M m most C) :
    Calls Try.prog 70 #[.pointer (some ⟨Q, 0, none⟩), .slice A n c] w fun e w' => e = .returned (.bool true) ∧ Pol RM RT w' Q T P b M m most C ∧ Chg (fun j => RM j ∨ RT j) w w' := by
  have q0 : w.cell? ⟨Q, 0, none⟩ = some (.pointer (some ⟨T, 0, none⟩)) := h.head.cell 0
  have q2 : w.cell? ⟨Q, 2, none⟩ = some (.bool false) := h.head.cell 2
  by_cases h0 : n = 0
  · subst h0
    go_enter Try.func70, Try.ntmps70
    go_wp2
    go_returns
    exact ⟨rfl, h, Chg.refl _ _⟩
  have hl := lst_len hZ
  obtain ⟨ba, oa, rfl, hba, hca⟩ := lst_nat hZ (show 0 < n by omega)
  have hx0 := hx _ (getD_mem (show 0 < xs.length by omega))
  generalize xs.getD 0 0 = x0 at hca hx0
  have ht := tinPush_any RT T w B (fun j hj => hB j (.inr hj)) (some ⟨ba, oa, none⟩) n c (castL xs) hZ hn h.tin
  have i0 : (n == 0) = false := by simpa using h0
  have i1 : (0 : Int) < (n : Int) := by omega
  have i2 : ((n : Int) == 0) = false := by rw [beq_eq_false_iff_ne]; omega
  go_enter Try.func70, Try.ntmps70
  go_wp2_with fail
  refine ht.mono ?_
  rintro e w2 ⟨rfl, hT2, hc2⟩
  have h2 := h.tin_turned hT2 hc2
  have q3 : w2.cell? ⟨Q, 3, none⟩ = some (.pointer (some ⟨M, 0, none⟩)) := h2.head.cell 3
  have hca2 : w2.cell? ⟨ba, oa, none⟩ = some (.int .u64 (x0 : Int)) := hc2.cell (by simpa using hca) (fun e => by have := hB _ (.inr e); simp at this; omega)
  have hmet : ∀ W, Chg (fun _ => False) w2 W → Calls Try.prog 87 #[.pointer (some ⟨M, 0, none⟩), .int .i64 10, .int .u64 (x0 : Int), .int .u64 (IntKind.u64.wrap (n : Int))] W fun e w' => e = .returned (.tuple #[]) ∧ Met RM w' M 11 ∧ Chg RM W w' := fun W hW =>
    metAdd_any RM M 10 x0 (IntKind.u64.wrap (n : Int)) W (by omega) (by omega) (h2.spm.met.chg hW (fun _ _ h => h))
  have HM := Lib.hid hmet
  have hQM : ¬ RM Q := h.mQ
  have hbM : ¬ RM ba := fun e => by have := hB _ (.inl e); omega
  clear q0 q2 ht hmet
  have i3 : 0 < n := by omega
  have e0 : IntKind.u64.wrap (n : Int) = (n : Int) := IntWalk.u64_in _ (by omega)
  rw [e0] at HM
  go_wp2_with fail
  go_region_held3 (fun w' => w'.cell? ⟨Q, 3, none⟩ = some (.pointer (some ⟨M, 0, none⟩)) ∧ w'.cell? ⟨ba, oa, none⟩ = some (.int .u64 (x0 : Int))) (first | go_keep | (exact ⟨hc5.cell q3 hQM, hc5.cell hca2 hbM⟩))
    ((go_at_call 87; refine (HM.out _ (by exact ⟨rfl, rfl, rfl, Nat.le_refl _, fun _ _ _ => rfl⟩)).mono ?_; rintro e w5 ⟨rfl, hMet5, hc5⟩))
  have hc25 : Chg RM w2 w5 := ⟨hc5.os, hc5.tape, hc5.output, hc5.size, hc5.block⟩
  have h5 := h2.met_turned hMet5 hc25
  clear q3 hca2 HM hc5
  go_wp2
  go_returns
  exact ⟨rfl, h5, (hc2.mono (fun _ _ e => .inr e)).trans (hc25.mono (fun _ _ e => .inl e))⟩

set_option maxRecDepth 100000 in
set_option maxHeartbeats 400000 in
theorem policyPush_any (RM RT : Nat → Prop) (Q T P b M m : Nat) (most : Int) (C : Nat → Option Int) (w : World) (B : Nat) (hB : ∀ j, RM j ∨ RT j → B ≤ j) (A : Option Addr) (n c : Nat) (xs : List Nat) (hZ : Lst .u64 w B A n (castL xs)) (hBw : B ≤ w.heap.size) (hn : n ≤ 2147483647) (hx : ∀ x ∈ xs, x ≤ 255) (h : Pol RM RT w Q T P b M m most C) :
    Calls Try.prog 43 #[.agg (polV Q M), .slice A n c] w fun e w' => e = .returned (.bool true) ∧ Pol RM RT w' Q T P b M m most C ∧ Chg (fun j => RM j ∨ RT j) w w' := by
  have h1 := h.chg (S := fun _ => False) ((Chg.refl _ _).alloc (.cells #[.pointer (some ⟨Q, 0, none⟩), .pointer (some ⟨M, 0, none⟩)] 87)) (fun _ _ h => h)
  have hZ1 := hZ.below ((Below.refl B w).alloc hBw (.cells #[.pointer (some ⟨Q, 0, none⟩), .pointer (some ⟨M, 0, none⟩)] 87))
  unfold polV
  go_enter Try.func43, Try.ntmps43
  go_wp2_with fail
  refine (polPush_any RM RT Q T P b M m most C _ B hB A n c xs hZ1 hn hx h1).mono ?_
  rintro e w1 ⟨rfl, h2, hc⟩
  go_wp2
  go_returns
  exact ⟨rfl, h2, ((Chg.refl _ _).alloc _).trans hc⟩

set_option maxRecDepth 100000 in
set_option maxHeartbeats 400000 in
/-- The sampled LFU is given its metrics. -/
theorem collect_any (Q T P b M : Nat) (most : Int) (w : World) (hQ : At w Q (.cells #[.pointer (some ⟨T, 0, none⟩), .pointer (some ⟨P, 0, none⟩), .bool false, .pointer none] 114 (0, 0))) (hP : At w P (.cells #[.int .i64 most, .int .i64 0, .pointer none, .map (some b)] 124 (0, 0))) :
    Calls Try.prog 69 #[.pointer (some ⟨Q, 0, none⟩), .pointer (some ⟨M, 0, none⟩)] w fun e w' => e = .returned (.tuple #[]) ∧
      At w' Q (.cells #[.pointer (some ⟨T, 0, none⟩), .pointer (some ⟨P, 0, none⟩), .bool false, .pointer (some ⟨M, 0, none⟩)] 114 (0, 0)) ∧ At w' P (.cells #[.int .i64 most, .int .i64 0, .pointer (some ⟨M, 0, none⟩), .map (some b)] 124 (0, 0)) ∧ Chg (fun j => j = Q ∨ j = P) w w' := by
  have hne : Q ≠ P := hQ.apart hP (by decide)
  have hne' : P ≠ Q := Ne.symm hne
  have c1 : w.cell? ⟨Q, 1, none⟩ = some (.pointer (some ⟨P, 0, none⟩)) := hQ.cell 1
  have c3 : w.cell? ⟨Q, 3, none⟩ = some (.pointer none) := hQ.cell 3
  have f3 := hQ.free 3
  have d2 : w.cell? ⟨P, 2, none⟩ = some (.pointer none) := hP.cell 2
  have g2 := hP.free 2
  go_enter Try.func69, Try.ntmps69
  go_wp2
  go_returns
  refine ⟨rfl, ((hQ.set 3 _).far (p := ⟨P, 2, none⟩) hne _), (hP.far (p := ⟨Q, 3, none⟩) hne' _).set 2 _, ((Chg.refl _ _).setCell (p := ⟨Q, 3, none⟩) (fun _ => .inl rfl) _).setCell (p := ⟨P, 2, none⟩) (fun _ => .inr rfl) _⟩
end Go.Proofs.Ytoddnjpbmefgnaa
