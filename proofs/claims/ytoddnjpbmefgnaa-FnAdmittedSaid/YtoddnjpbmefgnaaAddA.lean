/-
  The policy's Add where nothing is evicted: what costs more than all; what there is room for.
-/
import Derived.Test.YtoddnjpbmefgnaaVic
namespace Go.Proofs.Ytoddnjpbmefgnaa
open Go.RowKit

set_option maxRecDepth 100000 in
set_option maxHeartbeats 400000 in
theorem polAdd_over (RM RT : Nat → Prop) (Q T P b M n k : Nat) (c most : Int) (C : Nat → Option Int) (w : World) (hc : most < c) (h : Pol RM RT w Q T P b M n most C) :
    Calls Try.prog 73 #[.pointer (some ⟨Q, 0, none⟩), .int .u64 (k : Int), .int .i64 c] w fun e w' => e = .returned (.tuple #[.slice none 0 0, .bool false]) ∧ w = w' := by
  have c1 : w.cell? ⟨Q, 1, none⟩ = some (.pointer (some ⟨P, 0, none⟩)) := h.head.cell 1
  have d0 : w.cell? ⟨P, 0, none⟩ = some (.int .i64 most) := h.spm.head.cell 0
  have hg := getMax_any P most w d0
  clear d0 h
  go_enter Try.func73, Try.ntmps73
  go_wp2_with fail
  refine hg.mono ?_
  rintro e w2 ⟨rfl, hw2⟩
  have hw2' := hw2.symm
  subst hw2'
  go_wp2
  go_returns
  exact ⟨rfl, rfl⟩

set_option maxRecDepth 100000 in
set_option maxHeartbeats 400000 in
theorem polAdd_room (RM RT : Nat → Prop) (Q T P b M n k : Nat) (c most : Int) (C : Nat → Option Int) (w : World) (hk : k < 16) (hn : n < 8589934592) (hm : 0 ≤ most ∧ most ≤ 65535) (hC : OkA C) (hc : 0 ≤ c ∧ c ≤ 255) (h0 : C k = none) (hroom : total C 16 + c ≤ most) (h : Pol RM RT w Q T P b M n most C) :
    Calls Try.prog 73 #[.pointer (some ⟨Q, 0, none⟩), .int .u64 (k : Int), .int .i64 c] w fun e w' => e = .returned (.tuple #[.slice none 0 0, .bool true]) ∧ Pol RM RT w' Q T P b M (n + 1) most (putC C k (some c)) ∧ Chg (SpB RM P b) w w' := by
  have c1 : w.cell? ⟨Q, 1, none⟩ = some (.pointer (some ⟨P, 0, none⟩)) := h.head.cell 1
  have d0 : w.cell? ⟨P, 0, none⟩ = some (.int .i64 most) := h.spm.head.cell 0
  have hg := getMax_any P most w d0
  have htot := hC.tot
  have hup := spmUpd_none RM P b M n k c most C w hk h0 h.spm
  have hrm := spmRoom_any RM P b M n c most C w hm hc hC h.spm
  have hle : ¬ (most < c) := by omega
  have hge : (0 : Int) ≤ most - (total C 16 + c) := by omega
  generalize most - (total C 16 + c) = rm at hrm hge
  have HUP := Lib.hid hup
  have HRM := Lib.hid hrm
  clear d0 hup hrm
  go_enter Try.func73, Try.ntmps73
  go_wp2_with fail
  refine hg.mono ?_
  rintro e w2 ⟨rfl, hw2⟩
  have hw2' := hw2.symm
  subst hw2'
  go_wp2_with fail
  refine HUP.out.mono ?_
  rintro e w3 ⟨rfl, hw3⟩
  have hw3' := hw3.symm
  subst hw3'
  go_wp2_with fail
  refine HRM.out.mono ?_
  rintro e w4 ⟨rfl, q, hw4⟩
  have h4 : Pol RM RT w4 Q T P b M n most C := by rw [hw4]; exact h.chg (S := fun _ => False) ((Chg.refl _ _).drewN q) (fun _ _ h => h)
  have hc4 : Chg (SpB RM P b) w w4 := by rw [hw4]; exact (Chg.refl _ _).drewN q
  have e1 : w4.cell? ⟨Q, 1, none⟩ = some (.pointer (some ⟨P, 0, none⟩)) := h4.head.cell 1
  clear hw4 c1
  go_wp2_with fail
  refine (spmAdd_any RM P b M n k c most C w4 hk hn hC hc h0 h4.spm).mono ?_
  rintro e w5 ⟨rfl, hs5, hc5⟩
  have h5 := h4.spm_turned hs5 hc5
  have e3 : w5.cell? ⟨Q, 3, none⟩ = some (.pointer (some ⟨M, 0, none⟩)) := h5.head.cell 3
  clear e1
  go_wp2_with fail
  refine (metAdd_any RM M 5 k _ w5 (by omega) (by omega) h5.spm.met).mono ?_
  rintro e w6 ⟨rfl, hm6, hc6⟩
  have h6 := h5.met_turned hm6 hc6
  clear e3
  go_wp2
  go_returns
  exact ⟨rfl, h6, (hc4.trans hc5).trans (hc6.mono (fun _ _ e => .inr (.inr e)))⟩
end Go.Proofs.Ytoddnjpbmefgnaa
