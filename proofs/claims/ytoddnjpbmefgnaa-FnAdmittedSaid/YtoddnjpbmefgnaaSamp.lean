/-
  The sampled LFU: its map of costs, and the walks of its methods.
-/
import Derived.Test.YtoddnjpbmefgnaaCostsSpec
import Derived.Maps.OwnSet
import Derived.Maps.RangeWalk
namespace Go.Proofs.Ytoddnjpbmefgnaa
open Go.RowKit

theorem zero2 (w : World) : (zeroValue 2).run Try.prog w = .ok (.int .i64 0) w := by kernel_rfl

/-- Block b is a map that holds the costs C. -/
def MapC (w : World) (b n : Nat) (C : Nat → Option Int) : Prop :=
  ∃ D : DataW Unit, w.ownsMap Try.prog 23 (plainElem Try.prog 2) b n D ∧ (∀ k : Nat, Maps.has D (.int .u64 (k : Int)) = (C k).isSome) ∧ ∀ k : Nat, D.atKey (.int .u64 (k : Int)) (.lit (.int .i64 0)) = .lit (.int .i64 ((C k).getD 0))
theorem MapC.made (w : World) : MapC (w.alloc (.map #[] 0)) w.heap.size 0 (fun _ => none) := ⟨.map [], World.ownsMap_made _ _ _ _, fun _ => rfl, fun _ => rfl⟩
section
variable {w w' : World} {b n : Nat} {C : Nat → Option Int}
theorem MapC.lt (h : MapC w b n C) : b < w.heap.size := let ⟨_, h, _⟩ := h; h.lt
theorem MapC.chg {S : Nat → Prop} (h : MapC w b n C) (hc : Chg S w w') (hS : ¬ S b) : MapC w' b n C := by
  obtain ⟨D, ⟨es, clock, hb, r⟩, h2⟩ := h
  exact ⟨D, ⟨es, clock, hc.at_ hb hS, r⟩, h2⟩
theorem MapC.ne (h : MapC w b n C) {g : Nat} {cs : Array Value} {t : TypeId} (hg : At w g (.cells cs t (0, 0))) : g ≠ b := by
  rintro rfl
  obtain ⟨D, ⟨es, clock, hb, _⟩, _⟩ := h
  have e : w.heap[g]? = _ := hg
  rw [hb] at e
  cases e
theorem MapC.look (h : MapC w b n C) {k : Nat} (hk : k < 18446744073709551616) :
    (Instr.lookup 54 (.map (some b)) (.int .u64 (k : Int)) true).run Try.prog w = .ok (.tuple #[.int .i64 ((C k).getD 0), .bool (C k).isSome]) w := by
  obtain ⟨D, ho, hh, hat⟩ := h
  obtain ⟨v, ps, hrun, hv⟩ := ho.look_ok key23 Try.underlying54 (zero2 w) (plainElem_int Try.underlying2 (WalkArith.wf_i64 (by omega))) (Maps.keyOf_int_mk Try.underlying23 (wf_u64_nat hk))
  rw [hat k] at hv
  obtain ⟨c, rfl, hc, _⟩ := plainElem_int_inv Try.underlying2 hv
  have e : (C k).getD 0 = c := by
    have h2 := congrArg Prod.fst hc
    simpa using h2
  rw [hh k] at hrun
  rw [e]; exact hrun
theorem MapC.mono {m : Nat} (h : MapC w b n C) (hm : n ≤ m) : MapC w b m C := by
  obtain ⟨D, h1, h2⟩ := h
  exact ⟨D, h1.mono hm, h2⟩
theorem mapC_put {D : DataW Unit} (ho : w.ownsMap Try.prog 23 (plainElem Try.prog 2) b n D) (hh : ∀ k : Nat, Maps.has D (.int .u64 (k : Int)) = (C k).isSome) (hat : ∀ k : Nat, D.atKey (.int .u64 (k : Int)) (.lit (.int .i64 0)) = .lit (.int .i64 ((C k).getD 0)))
    {k : Nat} {c : Int} {m : Nat} (h' : w'.ownsMap Try.prog 23 (plainElem Try.prog 2) b m (D.put (.int .u64 (k : Int)) (.lit (.int .i64 c)))) : MapC w' b m (putC C k (some c)) := by
  refine ⟨_, h', fun j => ?_, fun j => ?_⟩
  · by_cases e : j = k
    · subst e; rw [Maps.has_put_same ho.isMap (by trivial)]; simp [putC]
    · rw [Maps.has_put_other (lit_ne e), hh]; simp [putC, e]
  · by_cases e : j = k
    · subst e; rw [Maps.atKey_put_same ho.isMap (by trivial)]; simp [putC]
    · rw [Maps.atKey_put_other (lit_ne e), hat]; simp [putC, e]
theorem mapC_del {D : DataW Unit} (hh : ∀ k : Nat, Maps.has D (.int .u64 (k : Int)) = (C k).isSome) (hat : ∀ k : Nat, D.atKey (.int .u64 (k : Int)) (.lit (.int .i64 0)) = .lit (.int .i64 ((C k).getD 0)))
    {k : Nat} {m : Nat} (h' : w'.ownsMap Try.prog 23 (plainElem Try.prog 2) b m (D.del (.int .u64 (k : Int)))) : MapC w' b m (putC C k none) := by
  refine ⟨_, h', fun j => ?_, fun j => ?_⟩
  · by_cases e : j = k
    · subst e; rw [Maps.has_del_same]; simp [putC]
    · rw [Maps.has_del_other (lit_ne e), hh]; simp [putC, e]
  · by_cases e : j = k
    · subst e; rw [Maps.atKey_del_same]; simp [putC]
    · rw [Maps.atKey_del_other (lit_ne e), hat]; simp [putC, e]
end

theorem total_none : ∀ n, total (fun _ => none) n = 0
  | 0 => rfl
  | n + 1 => by unfold total; rw [total_none n]; rfl

/-- The sampled LFU at block P, without metrics. -/
structure Smp (w : World) (P b n : Nat) (most : Int) (C : Nat → Option Int) : Prop where
  head : At w P (.cells #[.int .i64 most, .int .i64 (total C 16), .pointer none, .map (some b)] 124 (0, 0))
  map : MapC w b n C
/-- The blocks of a sampled LFU. -/
def SmB (P b : Nat) (j : Nat) : Prop := j = P ∨ j = b
theorem Smp.chg {S : Nat → Prop} {w w' : World} {P b n : Nat} {most : Int} {C : Nat → Option Int} (h : Smp w P b n most C) (hc : Chg S w w') (hP : ¬ S P) (hb : ¬ S b) : Smp w' P b n most C :=
  ⟨hc.at_ h.head hP, h.map.chg hc hb⟩
theorem Smp.new {w w' : World} {P b n : Nat} {most : Int} {C : Nat → Option Int} (h : Smp w P b n most C) (hc : Below w.heap.size w w') : Smp w' P b n most C :=
  h.chg (Chg.of_new (S := fun _ => False) hc) id id

set_option maxRecDepth 100000 in
set_option maxHeartbeats 400000 in
theorem metrics_nil (t k d : Int) (w : World) : Calls Try.prog 87 #[.pointer none, .int .i64 t, .int .u64 k, .int .u64 d] w fun e w' => e = .returned (.tuple #[]) ∧ w = w' := by
  go_enter Try.func87, Try.ntmps87
  go_wp2
  go_returns
  exact ⟨rfl, rfl⟩

set_option maxRecDepth 100000 in
set_option maxHeartbeats 400000 in
theorem newSampled_any (most : Int) (w : World) : Calls Try.prog 67 #[.int .i64 most] w fun e w' => ∃ P b, e = .returned (.pointer (some ⟨P, 0, none⟩)) ∧ w.heap.size ≤ P ∧ w.heap.size ≤ b ∧ Smp w' P b 0 most (fun _ => none) ∧ Below w.heap.size w w' := by
  have hmm := @run_makeMap Try.prog
  go_enter Try.func67, Try.ntmps67
  go_wp2
  go_returns
  refine ⟨_, _, rfl, ?_, Nat.le_refl _, ⟨?_, ?_⟩, ?_⟩
  · simp
  · rw [total_none]
    have h := At.new (w.alloc (.map #[] 0)) (.cells #[.int .i64 most, .int .i64 0, .pointer none, .map (some w.heap.size)] 124 (0, 0))
    simpa using h
  · exact (MapC.made w).chg (S := fun _ => False) ((Chg.refl _ _).alloc _) id
  · exact ((Below.refl _ _).alloc (Nat.le_refl _) _).alloc (by simp) _

set_option maxRecDepth 100000 in
set_option maxHeartbeats 400000 in
theorem smpDel_any (P b n k : Nat) (most : Int) (C : Nat → Option Int) (w : World) (hk : k < 16) (hC : OkC C) (h : Smp w P b n most C) :
    Calls Try.prog 75 #[.pointer (some ⟨P, 0, none⟩), .int .u64 (k : Int)] w fun e w' => e = .returned (.tuple #[]) ∧ Smp w' P b n most (putC C k none) ∧ Chg (SmB P b) w w' := by
  have hlook := h.map.look (show k < 18446744073709551616 by omega)
  have hne := h.map.ne h.head
  have htot := hC.total 16
  have hval := hC.val k
  have htp := total_put C k none 16 hk
  have HTP := Lib.hid htp
  obtain ⟨hH, hM⟩ := h
  have c0 : w.cell? ⟨P, 0, none⟩ = some (.int .i64 most) := hH.cell 0
  have c1 : w.cell? ⟨P, 1, none⟩ = some (.int .i64 (total C 16)) := hH.cell 1
  have c2 : w.cell? ⟨P, 2, none⟩ = some (.pointer none) := hH.cell 2
  have c3 : w.cell? ⟨P, 3, none⟩ = some (.map (some b)) := hH.cell 3
  have f1 := hH.free 1
  cases hc : C k with
  | none =>
    rw [hc] at hlook hval HTP
    have he : putC C k none = C := by funext j; unfold putC; split; · rename_i e; rw [e, hc]
                                      rfl
    have HE := Lib.hid he
    clear htp he hc htot
    go_enter Try.func75, Try.ntmps75
    go_wp2
    go_returns
    exact ⟨rfl, by rw [HE.out]; exact ⟨hH, hM⟩, Chg.refl _ _⟩
  | some p =>
    rw [hc] at hlook hval HTP
    clear htp
    have HC := Lib.hid hc
    clear hc
    obtain ⟨D, hD, hh, hat⟩ := hM
    have Hh := Lib.hid hh
    have Hat := Lib.hid hat
    clear hh hat
    simp only [Option.getD_some, Option.isSome_some] at hlook hval
    go_enter Try.func75, Try.ntmps75
    go_wp2_with (first | (at_delete; refine wpList_delete_own _ rfl _ _ 54 23 rfl 2 key23 Try.underlying54 _ b n D rfl (hD.setCell (Ne.symm hne) _) _ _ rfl (Maps.keyOf_int_mk Try.underlying23 (wf_u64_nat (show k < 18446744073709551616 by omega))) ?_; intro w1 hown1 hturn1; have hP1 := (Chg.of_grown (S := fun j => j = b) hturn1.grown (fun j e _ => by cases e; rfl)).at_ (hH.set 1 (.int .i64 (total C 16 - p))) hne; have d2 : w1.cell? ⟨P, 2, none⟩ = some (.pointer none) := hP1.cell 2) | (go_at_call 87; refine (metrics_nil _ _ _ _).mono ?_; rintro e _ ⟨rfl, rfl⟩))
    have hch : Chg (SmB P b) w w1 := ((Chg.refl _ _).setCell (p := ⟨P, 1, none⟩) (fun _ => .inl rfl) _).then (Chg.of_grown (S := SmB P b) hturn1.grown (fun j e _ => by cases e; exact .inr rfl)) (fun _ _ h => h)
    go_returns
    have et : total C 16 - p = total (putC C k none) 16 := by rw [HTP.out]; simp
    rw [et] at hP1
    exact ⟨rfl, ⟨hP1, mapC_del Hh.out Hat.out hown1⟩, hch⟩

set_option maxRecDepth 100000 in
set_option maxHeartbeats 400000 in
theorem smpAdd_any (P b n k : Nat) (c most : Int) (C : Nat → Option Int) (w : World) (hk : k < 16) (hn : n < 8589934592) (hC : OkC C) (hc : 0 ≤ c ∧ c ≤ 127) (h0 : C k = none) (h : Smp w P b n most C) :
    Calls Try.prog 77 #[.pointer (some ⟨P, 0, none⟩), .int .u64 (k : Int), .int .i64 c] w fun e w' => e = .returned (.tuple #[]) ∧ Smp w' P b (n + 1) most (putC C k (some c)) ∧ Chg (SmB P b) w w' := by
  have hne := h.map.ne h.head
  have htot := hC.total 16
  have htp := total_put C k (some c) 16 hk
  rw [h0] at htp
  have HTP := Lib.hid htp
  clear htp
  obtain ⟨hH, D, hD, hh, hat⟩ := h
  have Hh := Lib.hid hh
  have Hat := Lib.hid hat
  have c3 : w.cell? ⟨P, 3, none⟩ = some (.map (some b)) := hH.cell 3
  clear hh hat
  go_enter Try.func77, Try.ntmps77
  go_wp2_with (at_mapUpdate; refine wpList_mapUpdate_own _ rfl _ _ _ 54 rfl 23 2 key23 Try.underlying54 _ b n D rfl hD (by unfold maxLen; omega) _ _ _ rfl rfl (Maps.keyOf_int_mk Try.underlying23 (wf_u64_nat (show k < 18446744073709551616 by omega))) (.lit (.int .i64 c)) [] (plainElem_int Try.underlying2 (WalkArith.wf_i64 (by omega))) ?_; intro w1 hown1 hg1; have hP1 := (Chg.of_grown (S := fun j => j = b) hg1 (fun j e _ => by cases e; rfl)).at_ hH hne; have d1 : w1.cell? ⟨P, 1, none⟩ = some (.int .i64 (total C 16)) := hP1.cell 1; have df1 : w1.frozen? ⟨P, 1, none⟩ = false := hP1.free 1)
  have hch : Chg (SmB P b) w w1 := Chg.of_grown (S := SmB P b) hg1 (fun j e _ => by cases e; exact .inr rfl)
  go_returns
  have et : total C 16 + c = total (putC C k (some c)) 16 := by rw [HTP.out]; simp
  have hP2 := hP1.set 1 (.int .i64 (total C 16 + c))
  have hm := (mapC_put hD Hh.out Hat.out hown1).chg ((Chg.refl (fun j => j = P) w1).setCell (p := ⟨P, 1, none⟩) (fun _ => rfl) (.int .i64 (total C 16 + c))) (Ne.symm hne)
  rw [et] at hP2 hm
  exact ⟨rfl, ⟨by rw [et]; exact hP2, by rw [et]; exact hm⟩, hch.setCell (p := ⟨P, 1, none⟩) (fun _ => .inl rfl) _⟩

set_option maxRecDepth 100000 in
set_option maxHeartbeats 400000 in
theorem smpUpd_any (P b n k : Nat) (c most : Int) (C : Nat → Option Int) (w : World) (hk : k < 16) (hn : n < 8589934592) (hC : OkC C) (hc : 0 ≤ c ∧ c ≤ 127) (h : Smp w P b n most C) :
    Calls Try.prog 76 #[.pointer (some ⟨P, 0, none⟩), .int .u64 (k : Int), .int .i64 c] w fun e w' => e = .returned (.bool (C k).isSome) ∧ Smp w' P b (n + 1) most (if (C k).isSome = true then putC C k (some c) else C) ∧ Chg (SmB P b) w w' := by
  have hlook := h.map.look (show k < 18446744073709551616 by omega)
  have hne := h.map.ne h.head
  have htot := hC.total 16
  have hval := hC.val k
  have htp := total_put C k (some c) 16 hk
  have hH := h.head
  have hMap := h.map
  have c2 : w.cell? ⟨P, 2, none⟩ = some (.pointer none) := hH.cell 2
  have c1 : w.cell? ⟨P, 1, none⟩ = some (.int .i64 (total C 16)) := hH.cell 1
  have c3 : w.cell? ⟨P, 3, none⟩ = some (.map (some b)) := hH.cell 3
  have f1 := hH.free 1
  cases hc0 : C k with
  | none =>
    rw [hc0] at hlook
    clear htp hc0 htot hval h
    go_enter Try.func76, Try.ntmps76
    go_wp2
    go_returns
    exact ⟨rfl, ⟨hH, hMap.mono (Nat.le_succ _)⟩, Chg.refl _ _⟩
  | some p =>
    rw [hc0] at hlook hval htp
    have HTP := Lib.hid htp
    clear hc0 htp
    obtain ⟨_, D, hD, hh, hat⟩ := h
    have Hh := Lib.hid hh
    have Hat := Lib.hid hat
    clear hh hat
    simp only [Option.getD_some, Option.isSome_some] at hlook hval
    go_enter Try.func76, Try.ntmps76
    rcases Int.lt_trichotomy p c with hpc | hpc | hpc
    all_goals
      go_wp2_with (first | (at_mapUpdate; refine wpList_mapUpdate_own _ rfl _ _ _ 54 rfl 23 2 key23 Try.underlying54 _ b n D rfl (hD.setCell (Ne.symm hne) _) (by unfold maxLen; omega) _ _ _ rfl rfl (Maps.keyOf_int_mk Try.underlying23 (wf_u64_nat (show k < 18446744073709551616 by omega))) (.lit (.int .i64 c)) [] (plainElem_int Try.underlying2 (WalkArith.wf_i64 (by omega))) ?_; intro w1 hown1 hg1) | (go_at_call 87; refine (metrics_nil _ _ _ _).mono ?_; rintro e _ ⟨rfl, rfl⟩))
    all_goals
      go_returns
      have hP1 := (Chg.of_grown (S := fun j => j = b) hg1 (fun j e _ => by cases e; rfl)).at_ (hH.set 1 _) hne
      have hch := ((Chg.refl (SmB P b) w).setCell (p := ⟨P, 1, none⟩) (fun _ => .inl rfl) _).then (Chg.of_grown (S := SmB P b) hg1 (fun j e _ => by cases e; exact .inr rfl)) (fun _ _ h => h)
      have hm := mapC_put (hD.setCell (a := ⟨P, 1, none⟩) (Ne.symm hne) (.int .i64 0)) Hh.out Hat.out hown1
      refine ⟨rfl, ⟨?_, hm⟩, hch⟩
      first
        | (have et : total (putC C k (some c)) 16 = total C 16 + (c - p) := by rw [HTP.out]; simp; omega
           rw [et]; exact hP1)
        | (have et : total (putC C k (some c)) 16 = total C 16 := by rw [HTP.out]; simp; omega
           rw [et]; exact hP1)
        | (have et : total (putC C k (some c)) 16 = total C 16 + (c - c) := by rw [HTP.out]; simp
           rw [et]; exact hP1)
end Go.Proofs.Ytoddnjpbmefgnaa
