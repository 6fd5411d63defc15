/-
  The sampled LFU with metrics: del, add, updateIfHas where the key is not there, room.
-/
import Derived.Test.YtoddnjpbmefgnaaMetrics
namespace Go.Proofs.Ytoddnjpbmefgnaa
open Go.RowKit

/-- The sampled LFU at block P, its metrics at block M, the metrics' blocks R. -/
structure Spm (R : Nat → Prop) (w : World) (P b M n : Nat) (most : Int) (C : Nat → Option Int) : Prop where
  head : At w P (.cells #[.int .i64 most, .int .i64 (total C 16), .pointer (some ⟨M, 0, none⟩), .map (some b)] 124 (0, 0))
  map : MapC w b n C
  met : Met R w M 11
  offP : ¬ R P
  offb : ¬ R b
/-- The blocks that it may turn. -/
def SpB (R : Nat → Prop) (P b : Nat) (j : Nat) : Prop := j = P ∨ j = b ∨ R j
theorem Spm.chg {R S : Nat → Prop} {w w' : World} {P b M n : Nat} {most : Int} {C : Nat → Option Int} (h : Spm R w P b M n most C) (hc : Chg S w w') (hS : ∀ j, SpB R P b j → ¬ S j) : Spm R w' P b M n most C :=
  ⟨hc.at_ h.head (hS _ (.inl rfl)), h.map.chg hc (hS _ (.inr (.inl rfl))), h.met.chg hc (fun _ hj => hS _ (.inr (.inr hj))), h.offP, h.offb⟩
theorem Spm.mono {R : Nat → Prop} {w : World} {P b M n m : Nat} {most : Int} {C : Nat → Option Int} (h : Spm R w P b M n most C) (hm : n ≤ m) : Spm R w P b M m most C := ⟨h.head, h.map.mono hm, h.met, h.offP, h.offb⟩
/-- What is held is of the first 16 keys, each cost of 8 bits, together of 16 bits. -/
structure OkA (C : Nat → Option Int) : Prop where
  val : ∀ k, 0 ≤ (C k).getD 0 ∧ (C k).getD 0 ≤ 255
  lt : ∀ k, (C k).isSome = true → k < 16
  tot : 0 ≤ total C 16 ∧ total C 16 ≤ 65535

set_option maxRecDepth 100000 in
set_option maxHeartbeats 400000 in
theorem spmDel_any (R : Nat → Prop) (P b M n k : Nat) (most : Int) (C : Nat → Option Int) (w : World) (hk : k < 16) (hC : OkA C) (h : Spm R w P b M n most C) :
    Calls Try.prog 75 #[.pointer (some ⟨P, 0, none⟩), .int .u64 (k : Int)] w fun e w' => e = .returned (.tuple #[]) ∧ Spm R w' P b M n most (putC C k none) ∧ Chg (SpB R P b) w w' := by
  have hlook := h.map.look (show k < 18446744073709551616 by omega)
  have hne := h.map.ne h.head
  have htot := hC.tot
  have hval := hC.val k
  have htp := total_put C k none 16 hk
  have HTP := Lib.hid htp
  obtain ⟨hH, hM, hMet, hoP, hob⟩ := h
  have c0 : w.cell? ⟨P, 0, none⟩ = some (.int .i64 most) := hH.cell 0
  have c1 : w.cell? ⟨P, 1, none⟩ = some (.int .i64 (total C 16)) := hH.cell 1
  have c2 : w.cell? ⟨P, 2, none⟩ = some (.pointer (some ⟨M, 0, none⟩)) := hH.cell 2
  have c3 : w.cell? ⟨P, 3, none⟩ = some (.map (some b)) := hH.cell 3
  have f1 := hH.free 1
  cases hc : C k with
  | none =>
    rw [hc] at hlook hval HTP
    have he : putC C k none = C := by funext j; unfold putC; split; · rename_i e; rw [e, hc]
                                      rfl
    have HE := Lib.hid he
    clear htp he hc htot
    go_enter Try.func75, Try.ntmps75
    go_wp2
    go_returns
    exact ⟨rfl, by rw [HE.out]; exact ⟨hH, hM, hMet, hoP, hob⟩, Chg.refl _ _⟩
  | some p =>
    rw [hc] at hlook hval HTP
    clear htp
    have HC := Lib.hid hc
    clear hc
    obtain ⟨D, hD, hh, hat⟩ := hM
    have Hh := Lib.hid hh
    have Hat := Lib.hid hat
    clear hh hat
    simp only [Option.getD_some, Option.isSome_some] at hlook hval
    go_enter Try.func75, Try.ntmps75
    go_wp2_with (at_delete; refine wpList_delete_own _ rfl _ _ 54 23 rfl 2 key23 Try.underlying54 _ b n D rfl (hD.setCell (Ne.symm hne) _) _ _ rfl (Maps.keyOf_int_mk Try.underlying23 (wf_u64_nat (show k < 18446744073709551616 by omega))) ?_; intro w1 hown1 hturn1; have hP1 := (Chg.of_grown (S := fun j => j = b) hturn1.grown (fun j e _ => by cases e; rfl)).at_ (hH.set 1 (.int .i64 (total C 16 - p))) hne; have d2 : w1.cell? ⟨P, 2, none⟩ = some (.pointer (some ⟨M, 0, none⟩)) := hP1.cell 2)
    have hch : Chg (fun j => j = P ∨ j = b) w w1 := ((Chg.refl _ _).setCell (p := ⟨P, 1, none⟩) (fun _ => .inl rfl) _).then (Chg.of_grown (S := fun j => j = P ∨ j = b) hturn1.grown (fun j e _ => by cases e; exact .inr rfl)) (fun _ _ h => h)
    have hMet1 := hMet.chg hch (fun j hj e => by rcases e with e | e; exact hoP (e ▸ hj); exact hob (e ▸ hj))
    have hMC1 := mapC_del Hh.out Hat.out hown1
    clear hturn1 hown1 c0 c1 c2 c3 f1 hlook hD
    refine (metAdd_any R M 6 k _ w1 (by omega) (by omega) hMet1).mono ?_
    rintro e w2 ⟨rfl, hMet2, hc2⟩
    have hP2 := hc2.at_ hP1 hoP
    have e2 : w2.cell? ⟨P, 2, none⟩ = some (.pointer (some ⟨M, 0, none⟩)) := hP2.cell 2
    have hMC2 := hMC1.chg hc2 hob
    clear d2
    go_wp2_with fail
    refine (metAdd_any R M 4 k _ w2 (by omega) (by omega) hMet2).mono ?_
    rintro e w3 ⟨rfl, hMet3, hc3⟩
    have hP3 := hc3.at_ hP2 hoP
    have hMC3 := hMC2.chg hc3 hob
    have hall : Chg (SpB R P b) w w3 := ((hch.mono (fun j _ e => by rcases e with e | e; exact .inl e; exact .inr (.inl e))).trans (hc2.mono (fun j _ e => .inr (.inr e)))).trans (hc3.mono (fun j _ e => .inr (.inr e)))
    clear e2
    go_wp2
    go_returns
    have et : total C 16 - p = total (putC C k none) 16 := by rw [HTP.out]; simp
    rw [et] at hP3
    exact ⟨rfl, ⟨hP3, hMC3, hMet3, hoP, hob⟩, hall⟩

set_option maxRecDepth 100000 in
set_option maxHeartbeats 400000 in
theorem spmAdd_any (R : Nat → Prop) (P b M n k : Nat) (c most : Int) (C : Nat → Option Int) (w : World) (hk : k < 16) (hn : n < 8589934592) (hC : OkA C) (hc : 0 ≤ c ∧ c ≤ 255) (h0 : C k = none) (h : Spm R w P b M n most C) :
    Calls Try.prog 77 #[.pointer (some ⟨P, 0, none⟩), .int .u64 (k : Int), .int .i64 c] w fun e w' => e = .returned (.tuple #[]) ∧ Spm R w' P b M (n + 1) most (putC C k (some c)) ∧ Chg (SpB R P b) w w' := by
  have hne := h.map.ne h.head
  have htot := hC.tot
  have htp := total_put C k (some c) 16 hk
  rw [h0] at htp
  have HTP := Lib.hid htp
  clear htp
  obtain ⟨hH, ⟨D, hD, hh, hat⟩, hMet, hoP, hob⟩ := h
  have Hh := Lib.hid hh
  have Hat := Lib.hid hat
  have c3 : w.cell? ⟨P, 3, none⟩ = some (.map (some b)) := hH.cell 3
  clear hh hat
  go_enter Try.func77, Try.ntmps77
  go_wp2_with (at_mapUpdate; refine wpList_mapUpdate_own _ rfl _ _ _ 54 rfl 23 2 key23 Try.underlying54 _ b n D rfl hD (by unfold maxLen; omega) _ _ _ rfl rfl (Maps.keyOf_int_mk Try.underlying23 (wf_u64_nat (show k < 18446744073709551616 by omega))) (.lit (.int .i64 c)) [] (plainElem_int Try.underlying2 (WalkArith.wf_i64 (by omega))) ?_; intro w1 hown1 hg1; have hP1 := (Chg.of_grown (S := fun j => j = b) hg1 (fun j e _ => by cases e; rfl)).at_ hH hne; have d1 : w1.cell? ⟨P, 1, none⟩ = some (.int .i64 (total C 16)) := hP1.cell 1; have df1 : w1.frozen? ⟨P, 1, none⟩ = false := hP1.free 1)
  have hch : Chg (fun j => j = P ∨ j = b) w w1 := Chg.of_grown (S := fun j => j = P ∨ j = b) hg1 (fun j e _ => by cases e; exact .inr rfl)
  go_returns
  have et : total C 16 + c = total (putC C k (some c)) 16 := by rw [HTP.out]; simp
  have hP2 := hP1.set 1 (.int .i64 (total C 16 + c))
  have hm := (mapC_put hD Hh.out Hat.out hown1).chg ((Chg.refl (fun j => j = P) w1).setCell (p := ⟨P, 1, none⟩) (fun _ => rfl) (.int .i64 (total C 16 + c))) (Ne.symm hne)
  have hall := hch.setCell (p := ⟨P, 1, none⟩) (fun _ => .inl rfl) (.int .i64 (total C 16 + c))
  have hMet2 := hMet.chg hall (fun j hj e => by rcases e with e | e; exact hoP (e ▸ hj); exact hob (e ▸ hj))
  rw [et] at hP2 hm hall hMet2 ⊢
  exact ⟨rfl, ⟨hP2, hm, hMet2, hoP, hob⟩, hall.mono (fun j _ e => by rcases e with e | e; exact .inl e; exact .inr (.inl e))⟩

set_option maxRecDepth 100000 in
set_option maxHeartbeats 400000 in
theorem spmUpd_none (R : Nat → Prop) (P b M n k : Nat) (c most : Int) (C : Nat → Option Int) (w : World) (hk : k < 16) (h0 : C k = none) (h : Spm R w P b M n most C) :
    Calls Try.prog 76 #[.pointer (some ⟨P, 0, none⟩), .int .u64 (k : Int), .int .i64 c] w fun e w' => e = .returned (.bool false) ∧ w' = w := by
  have hlook := h.map.look (show k < 18446744073709551616 by omega)
  have c3 : w.cell? ⟨P, 3, none⟩ = some (.map (some b)) := h.head.cell 3
  rw [h0] at hlook
  clear h h0
  go_enter Try.func76, Try.ntmps76
  go_wp2
  go_returns
  exact ⟨rfl, rfl⟩

set_option maxRecDepth 100000 in
set_option maxHeartbeats 400000 in
theorem spmRoom_any (R : Nat → Prop) (P b M n : Nat) (c most : Int) (C : Nat → Option Int) (w : World) (hm : 0 ≤ most ∧ most ≤ 65535) (hc : 0 ≤ c ∧ c ≤ 255) (hC : OkA C) (h : Spm R w P b M n most C) :
    Calls Try.prog 80 #[.pointer (some ⟨P, 0, none⟩), .int .i64 c] w fun e w' => e = .returned (.int .i64 (most - (total C 16 + c))) ∧ ∃ q, w' = w.drewN q := by
  have hg := fun W hW => getMax_any P most W hW
  have HG := Lib.hid hg
  have c0 : w.cell? ⟨P, 0, none⟩ = some (.int .i64 most) := h.head.cell 0
  have c1 : w.cell? ⟨P, 1, none⟩ = some (.int .i64 (total C 16)) := h.head.cell 1
  have htot := hC.tot
  generalize total C 16 = t at c1 htot ⊢
  have e1 : IntKind.i64.wrap (t + c) = t + c := IntWalk.i64_in _ (by omega)
  have e2 : IntKind.i64.wrap (most - (t + c)) = most - (t + c) := IntWalk.i64_in _ (by omega)
  clear hg
  go_enter Try.func80, Try.ntmps80
  go_wp2_with fail
  go_quiet ((go_at_call 88; exact Calls.quiet_of_same (HG.out _ (by exact c0))))
  go_wp2
  go_returns
  exact ⟨rfl, _, rfl⟩
end Go.Proofs.Ytoddnjpbmefgnaa
