/-
  The policy: whether it has a key, a key taken out, the room, keys pushed; and the exported type's same.
-/
import Derived.Test.YtoddnjpbmefgnaaSpm
import Derived.Test.YtoddnjpbmefgnaaTinyB
namespace Go.Proofs.Ytoddnjpbmefgnaa
open Go.RowKit

/-- A policy at block Q. -/
structure Pol (RM RT : Nat → Prop) (w : World) (Q T P b M n : Nat) (most : Int) (C : Nat → Option Int) : Prop where
  head : At w Q (.cells #[.pointer (some ⟨T, 0, none⟩), .pointer (some ⟨P, 0, none⟩), .bool false, .pointer (some ⟨M, 0, none⟩)] 114 (0, 0))
  spm : Spm RM w P b M n most C
  tin : Tin RT w T
  dis : ∀ j, RM j → ¬ RT j
  tP : ¬ RT P
  tb : ¬ RT b
  tQ : ¬ RT Q
  mQ : ¬ RM Q
/-- The blocks that a policy may turn. -/
def PoB (RM RT : Nat → Prop) (P b : Nat) (j : Nat) : Prop := SpB RM P b j ∨ RT j
section
variable {RM RT S : Nat → Prop} {w w' : World} {Q T P b M n m : Nat} {most : Int} {C D : Nat → Option Int}
theorem Pol.qP (h : Pol RM RT w Q T P b M n most C) : Q ≠ P := h.head.apart h.spm.head (by decide)
theorem Pol.qb (h : Pol RM RT w Q T P b M n most C) : Q ≠ b := h.spm.map.ne h.head
theorem Pol.offQ (h : Pol RM RT w Q T P b M n most C) : ¬ PoB RM RT P b Q := fun e => by
  rcases e with (e | e | e) | e
  · exact h.qP e
  · exact h.qb e
  · exact h.mQ e
  · exact h.tQ e
theorem Pol.chg (h : Pol RM RT w Q T P b M n most C) (hc : Chg S w w') (hS : ∀ j, j = Q ∨ PoB RM RT P b j → ¬ S j) : Pol RM RT w' Q T P b M n most C :=
  ⟨hc.at_ h.head (hS _ (.inl rfl)), h.spm.chg hc (fun _ hj => hS _ (.inr (.inl hj))), h.tin.chg hc (fun _ hj => hS _ (.inr (.inr hj))), h.dis, h.tP, h.tb, h.tQ, h.mQ⟩
theorem Pol.new (h : Pol RM RT w Q T P b M n most C) (hc : Below w.heap.size w w') : Pol RM RT w' Q T P b M n most C := h.chg (Chg.of_new (S := fun _ => False) hc) (fun _ _ h => h)
/-- The sampled LFU has turned. -/
theorem Pol.spm_turned (h : Pol RM RT w Q T P b M n most C) (hs : Spm RM w' P b M m most D) (hc : Chg (SpB RM P b) w w') : Pol RM RT w' Q T P b M m most D :=
  ⟨hc.at_ h.head (fun e => h.offQ (.inl e)), hs, h.tin.chg hc (fun j hj e => by
    rcases e with e | e | e
    · exact h.tP (e ▸ hj)
    · exact h.tb (e ▸ hj)
    · exact h.dis _ e hj), h.dis, h.tP, h.tb, h.tQ, h.mQ⟩
/-- The admission helper has turned. -/
theorem Pol.tin_turned (h : Pol RM RT w Q T P b M n most C) (ht : Tin RT w' T) (hc : Chg RT w w') : Pol RM RT w' Q T P b M n most C :=
  ⟨hc.at_ h.head h.tQ, h.spm.chg hc (fun j hj e => by
    rcases hj with hj | hj | hj
    · exact h.tP (hj ▸ e)
    · exact h.tb (hj ▸ e)
    · exact h.dis _ hj e), ht, h.dis, h.tP, h.tb, h.tQ, h.mQ⟩
/-- The metrics have turned. -/
theorem Pol.met_turned (h : Pol RM RT w Q T P b M n most C) (hm : Met RM w' M 11) (hc : Chg RM w w') : Pol RM RT w' Q T P b M n most C :=
  ⟨hc.at_ h.head h.mQ, ⟨hc.at_ h.spm.head h.spm.offP, h.spm.map.chg hc h.spm.offb, hm, h.spm.offP, h.spm.offb⟩, h.tin.chg hc (fun _ hj e => h.dis _ e hj), h.dis, h.tP, h.tb, h.tQ, h.mQ⟩
end

set_option maxRecDepth 100000 in
set_option maxHeartbeats 400000 in
theorem polHas_any (RM RT : Nat → Prop) (Q T P b M n k : Nat) (most : Int) (C : Nat → Option Int) (w : World) (hk : k < 16) (h : Pol RM RT w Q T P b M n most C) :
    Calls Try.prog 71 #[.pointer (some ⟨Q, 0, none⟩), .int .u64 (k : Int)] w fun e w' => e = .returned (.bool (C k).isSome) ∧ w' = w := by
  have hlook := h.spm.map.look (show k < 18446744073709551616 by omega)
  have c1 : w.cell? ⟨Q, 1, none⟩ = some (.pointer (some ⟨P, 0, none⟩)) := h.head.cell 1
  have c3 : w.cell? ⟨P, 3, none⟩ = some (.map (some b)) := h.spm.head.cell 3
  generalize (C k).isSome = t at hlook ⊢
  generalize (C k).getD 0 = v at hlook
  clear h
  go_enter Try.func71, Try.ntmps71
  go_wp2
  go_returns
  exact ⟨rfl, rfl⟩

set_option maxRecDepth 100000 in
set_option maxHeartbeats 400000 in
theorem polDel_any (RM RT : Nat → Prop) (Q T P b M n k : Nat) (most : Int) (C : Nat → Option Int) (w : World) (hk : k < 16) (hC : OkA C) (h : Pol RM RT w Q T P b M n most C) :
    Calls Try.prog 72 #[.pointer (some ⟨Q, 0, none⟩), .int .u64 (k : Int)] w fun e w' => e = .returned (.tuple #[]) ∧ Pol RM RT w' Q T P b M n most (putC C k none) ∧ Chg (SpB RM P b) w w' := by
  have c1 : w.cell? ⟨Q, 1, none⟩ = some (.pointer (some ⟨P, 0, none⟩)) := h.head.cell 1
  go_enter Try.func72, Try.ntmps72
  go_wp2_with fail
  refine (spmDel_any RM P b M n k most C w hk hC h.spm).mono ?_
  rintro e w2 ⟨rfl, hs, hc⟩
  have h2 := h.spm_turned hs hc
  clear c1
  go_wp2
  go_returns
  exact ⟨rfl, h2, hc⟩

set_option maxRecDepth 100000 in
set_option maxHeartbeats 400000 in
theorem polCap_any (RM RT : Nat → Prop) (Q T P b M n : Nat) (most : Int) (C : Nat → Option Int) (w : World) (hm : 0 ≤ most ∧ most ≤ 65535) (hC : OkA C) (h : Pol RM RT w Q T P b M n most C) :
    Calls Try.prog 74 #[.pointer (some ⟨Q, 0, none⟩)] w fun e w' => e = .returned (.int .i64 (most - total C 16)) ∧ ∃ q, w' = w.drewN q := by
  have hg := fun W hW => getMax_any P most W hW
  have HG := Lib.hid hg
  have c1 : w.cell? ⟨Q, 1, none⟩ = some (.pointer (some ⟨P, 0, none⟩)) := h.head.cell 1
  have d0 : w.cell? ⟨P, 0, none⟩ = some (.int .i64 most) := h.spm.head.cell 0
  have d1 : w.cell? ⟨P, 1, none⟩ = some (.int .i64 (total C 16)) := h.spm.head.cell 1
  have htot := hC.tot
  generalize total C 16 = t at d1 htot ⊢
  have e2 : IntKind.i64.wrap (most - t) = most - t := IntWalk.i64_in _ (by omega)
  clear hg h
  go_enter Try.func74, Try.ntmps74
  go_wp2_with fail
  go_quiet ((go_at_call 88; exact Calls.quiet_of_same (HG.out _ (by exact d0))))
  go_wp2
  go_returns
  exact ⟨rfl, _, rfl⟩

/-- An exported policy. -/
def polV (Q M : Nat) : Array Value := #[.pointer (some ⟨Q, 0, none⟩), .pointer (some ⟨M, 0, none⟩)]

set_option maxRecDepth 100000 in
set_option maxHeartbeats 400000 in
theorem policyHas_any (RM RT : Nat → Prop) (Q T P b M n k : Nat) (most : Int) (C : Nat → Option Int) (w : World) (hk : k < 16) (h : Pol RM RT w Q T P b M n most C) :
    Calls Try.prog 44 #[.agg (polV Q M), .int .u64 (k : Int)] w fun e w' => e = .returned (.bool (C k).isSome) ∧ Below w.heap.size w w' := by
  have h1 := h.chg (S := fun _ => False) ((Chg.refl _ _).alloc (.cells #[.pointer (some ⟨Q, 0, none⟩), .pointer (some ⟨M, 0, none⟩)] 87)) (fun _ _ h => h)
  have hp := polHas_any RM RT Q T P b M n k most C _ hk h1
  generalize (C k).isSome = t at hp ⊢
  unfold polV
  go_enter Try.func44, Try.ntmps44
  go_wp2_with fail
  refine hp.mono ?_
  rintro e w1 ⟨rfl, rfl⟩
  go_wp2
  go_returns
  exact ⟨rfl, (Below.refl _ _).alloc (Nat.le_refl _) _⟩

set_option maxRecDepth 100000 in
set_option maxHeartbeats 400000 in
theorem policyDel_any (RM RT : Nat → Prop) (Q T P b M n k : Nat) (most : Int) (C : Nat → Option Int) (w : World) (hk : k < 16) (hC : OkA C) (h : Pol RM RT w Q T P b M n most C) :
    Calls Try.prog 45 #[.agg (polV Q M), .int .u64 (k : Int)] w fun e w' => e = .returned (.tuple #[]) ∧ Pol RM RT w' Q T P b M n most (putC C k none) ∧ Chg (SpB RM P b) w w' := by
  have h1 := h.chg (S := fun _ => False) ((Chg.refl _ _).alloc (.cells #[.pointer (some ⟨Q, 0, none⟩), .pointer (some ⟨M, 0, none⟩)] 87)) (fun _ _ h => h)
  unfold polV
  go_enter Try.func45, Try.ntmps45
  go_wp2_with fail
  refine (polDel_any RM RT Q T P b M n k most C _ hk hC h1).mono ?_
  rintro e w1 ⟨rfl, h2, hc⟩
  go_wp2
  go_returns
  exact ⟨rfl, h2, ((Chg.refl _ _).alloc _).trans hc⟩

set_option maxRecDepth 100000 in
set_option maxHeartbeats 400000 in
theorem policyCap_any (RM RT : Nat → Prop) (Q T P b M n : Nat) (most : Int) (C : Nat → Option Int) (w : World) (hm : 0 ≤ most ∧ most ≤ 65535) (hC : OkA C) (h : Pol RM RT w Q T P b M n most C) :
    Calls Try.prog 47 #[.agg (polV Q M)] w fun e w' => e = .returned (.int .i64 (most - total C 16)) ∧ Below w.heap.size w w' := by
  have h1 := h.chg (S := fun _ => False) ((Chg.refl _ _).alloc (.cells #[.pointer (some ⟨Q, 0, none⟩), .pointer (some ⟨M, 0, none⟩)] 87)) (fun _ _ h => h)
  unfold polV
  go_enter Try.func47, Try.ntmps47
  go_wp2_with fail
  refine (polCap_any RM RT Q T P b M n most C _ hm hC h1).mono ?_
  rintro e w1 ⟨rfl, q, rfl⟩
  go_wp2
  go_returns
  exact ⟨rfl, below_drewN ((Below.refl _ _).alloc (Nat.le_refl _) _) q⟩
end Go.Proofs.Ytoddnjpbmefgnaa
