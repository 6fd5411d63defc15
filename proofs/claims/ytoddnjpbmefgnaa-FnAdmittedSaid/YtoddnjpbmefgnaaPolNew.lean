/-
  A new policy.
-/
import Derived.Test.YtoddnjpbmefgnaaPolB
namespace Go.Proofs.Ytoddnjpbmefgnaa
open Go.RowKit

theorem Tin.cap {R : Nat → Prop} {w : World} {T : Nat} (h : Tin R w T) : Tin (fun j => R j ∧ j < w.heap.size) w T := by
  obtain ⟨P, G, Sd, C, p, g, el, B, inc, r1, r2, r3, r4, r5, hi, h1, h2, h3⟩ := h
  exact ⟨P, G, Sd, C, p, g, el, B, inc, ⟨r1, h1.lt⟩, ⟨r2, h2.head.lt⟩, fun i hi => ⟨r3 i hi, (h2.row i hi).lt⟩, ⟨r4, h3.head.lt⟩, ⟨r5, h3.words.lt⟩, hi, h1, h2, h3⟩

theorem field110 (v : Value) (w : World) : (Instr.field 110 (.agg #[v]) 0).run Try.prog w = .ok v w := by kernel_rfl

/-- A call hands back a new policy. -/
def RetPol (w : World) (most : Int) (e : Ending) (w' : World) : Prop :=
  ∃ (RM RT : Nat → Prop) (Q T P b M : Nat), e = .returned (.agg (polV Q M)) ∧ Pol RM RT w' Q T P b M 0 most (fun _ => none) ∧ (∀ j, j = Q ∨ PoB RM RT P b j → w.heap.size ≤ j ∧ j < w'.heap.size) ∧ Below w.heap.size w w'

set_option maxRecDepth 100000 in
set_option maxHeartbeats 800000 in
theorem newPolicy_any (most : Int) (S : Nat → Int) (w : World) : Calls Try.prog 42 #[.int .i64 64, .int .i64 most, .agg (seedA S), .int .u64 512, .int .u64 4] w (RetPol w most) := by
  have hs := fun W => newTiny_any S W
  have hm := fun W => newSampled_any most W
  have hx := fun W => newMetrics_any W
  have HS := Lib.hid hs
  have HM := Lib.hid hm
  have HX := Lib.hid hx
  clear hs hm hx
  unfold seedA
  go_enter Try.func42, Try.ntmps42
  go_wp2_with fail
  refine (HS.out _).mono ?_
  rintro e w1 ⟨T, rfl, hT, hb1⟩
  have hs1 := hb1.size
  have hr0 : At ((w.alloc (.cells #[.int .u64 (S 0), .int .u64 (S 1), .int .u64 (S 2), .int .u64 (S 3)] 41)).alloc (.cells #[.pointer none, .pointer none] 87)) (w.heap.size + 1) (.cells #[.pointer none, .pointer none] 87 (0, 0)) := by
    have h := At.new (w.alloc (.cells #[.int .u64 (S 0), .int .u64 (S 1), .int .u64 (S 2), .int .u64 (S 3)] 41)) (.cells #[.pointer none, .pointer none] 87 (0, 0))
    simpa using h
  have hb0 : Below w.heap.size w ((w.alloc (.cells #[.int .u64 (S 0), .int .u64 (S 1), .int .u64 (S 2), .int .u64 (S 3)] 41)).alloc (.cells #[.pointer none, .pointer none] 87)) := ((Below.refl _ _).alloc (Nat.le_refl _) _).alloc (by simp) _
  have hr1 := hr0.below hb1 (by simp)
  have hb01 := hb0.trans (hb1.mono (by simp; omega))
  have hT1 := hT.cap
  have hlo : ∀ j, ((w.alloc (.cells #[.int .u64 (S 0), .int .u64 (S 1), .int .u64 (S 2), .int .u64 (S 3)] 41)).alloc (.cells #[.pointer none, .pointer none] 87)).heap.size ≤ j → w.heap.size + 2 ≤ j := fun j h => by simpa using h
  have HLO := Lib.hid hlo
  generalize hRT : (fun j => ((w.alloc (.cells #[.int .u64 (S 0), .int .u64 (S 1), .int .u64 (S 2), .int .u64 (S 3)] 41)).alloc (.cells #[.pointer none, .pointer none] 87)).heap.size ≤ j ∧ j < w1.heap.size) = RT at hT1
  have hRTlo : ∀ j, RT j → w.heap.size + 2 ≤ j ∧ j < w1.heap.size := fun j h => by rw [← hRT] at h; exact ⟨HLO.out j h.1, h.2⟩
  have hfl := fun W => field110 (.pointer (some ⟨T, 0, none⟩)) W
  clear hT hb1 hr0 hb0 hlo HLO hRT
  go_wp2_with fail
  refine (HM.out _).mono ?_
  rintro e w2 ⟨P, b, rfl, hP, hB, hS2, hb2⟩
  have hr2 := hr1.below hb2 hr1.lt
  have hT2 := hT1.chg (Chg.of_new (S := fun _ => False) hb2) (fun _ _ h => h)
  have hb02 := hb01.trans (hb2.mono hb01.size)
  have hs2 := hb2.size
  clear hr1 hT1 hb01 hb2 hfl
  go_wp2_with fail
  refine (HX.out _).mono ?_
  rintro e w4 ⟨M, rfl, hMet, hb4⟩
  have hQ3 : At (w2.alloc (.cells #[.pointer (some ⟨T, 0, none⟩), .pointer (some ⟨P, 0, none⟩), .bool false, .pointer none] 114)) w2.heap.size (.cells #[.pointer (some ⟨T, 0, none⟩), .pointer (some ⟨P, 0, none⟩), .bool false, .pointer none] 114 (0, 0)) := At.new _ _
  have hb23 : Below w2.heap.size w2 (w2.alloc (.cells #[.pointer (some ⟨T, 0, none⟩), .pointer (some ⟨P, 0, none⟩), .bool false, .pointer none] 114)) := (Below.refl _ _).alloc (Nat.le_refl _) _
  have hb24 : Below w2.heap.size w2 w4 := hb23.trans (hb4.mono hb23.size)
  have hQ4 := hQ3.below hb4 hQ3.lt
  have hr4 := hr2.below hb24 hr2.lt
  have hT4 := hT2.chg (Chg.of_new (S := fun _ => False) hb24) (fun _ _ h => h)
  have hS4 := hS2.chg (Chg.of_new (S := fun _ => False) hb24) id id
  have hb04 := hb02.trans (hb24.mono hb02.size)
  have hPl := hS2.head.lt
  have hBl := hS2.map.lt
  have hM4 := hMet.cap
  have hQlo : ∀ j, (w2.alloc (.cells #[.pointer (some ⟨T, 0, none⟩), .pointer (some ⟨P, 0, none⟩), .bool false, .pointer none] 114)).heap.size ≤ j → w2.heap.size + 1 ≤ j := fun j h => by simpa using h
  have HQLO := Lib.hid hQlo
  generalize hRM : (fun j => (w2.alloc (.cells #[.pointer (some ⟨T, 0, none⟩), .pointer (some ⟨P, 0, none⟩), .bool false, .pointer none] 114)).heap.size ≤ j ∧ j < w4.heap.size) = RM at hM4
  have hRMlo : ∀ j, RM j → w2.heap.size + 1 ≤ j ∧ j < w4.heap.size := fun j h => by rw [← hRM] at h; exact ⟨HQLO.out j h.1, h.2⟩
  have hs4 := hb24.size
  generalize w2.heap.size = Q at hQ4 hPl hBl hRMlo hs4 hs2 ⊢
  clear hMet hQ3 hb23 hb24 hb4 hr2 hT2 hS2 hb02 hQlo HQLO hRM
  go_wp2_with fail
  have hs1' : w.heap.size + 2 ≤ w1.heap.size := by simpa using hs1
  have hV5 : At (w4.alloc (.cells #[.pointer (some ⟨Q, 0, none⟩), .pointer (some ⟨M, 0, none⟩)] 87)) w4.heap.size (.cells #[.pointer (some ⟨Q, 0, none⟩), .pointer (some ⟨M, 0, none⟩)] 87 (0, 0)) := At.new _ _
  have hc5 : Chg (fun _ => False) w4 (w4.alloc (.cells #[.pointer (some ⟨Q, 0, none⟩), .pointer (some ⟨M, 0, none⟩)] 87)) := (Chg.refl _ _).alloc _
  have hb05 := hb04.alloc hb04.size (.cells #[.pointer (some ⟨Q, 0, none⟩), .pointer (some ⟨M, 0, none⟩)] 87)
  have hP5 := hS4.head.alloc (.cells #[.pointer (some ⟨Q, 0, none⟩), .pointer (some ⟨M, 0, none⟩)] 87)
  rw [total_none] at hP5
  refine (collect_any Q T P b M most _ (hQ4.alloc _) hP5).mono ?_
  rintro e w6 ⟨rfl, hQ6, hP6, hc6⟩
  have hc46 : Chg (fun j => j = Q ∨ j = P) w4 w6 := (hc5.mono (fun _ _ h => h.elim)).trans hc6
  have hQl := hQ4.lt
  have hnb : ¬ (b = Q ∨ b = P) := fun e => by
    rcases e with e | e
    · omega
    · exact hS4.map.ne hS4.head e.symm
  have hRMP : ¬ RM P := fun e => by have := (hRMlo _ e).1; omega
  have hRMb : ¬ RM b := fun e => by have := (hRMlo _ e).1; omega
  have hRTP : ¬ RT P := fun e => by have := (hRTlo _ e).2; omega
  have hRTb : ¬ RT b := fun e => by have := (hRTlo _ e).2; omega
  have hRTQ : ¬ RT Q := fun e => by have := (hRTlo _ e).2; omega
  have hRMQ : ¬ RM Q := fun e => by have := (hRMlo _ e).1; omega
  have hpol : Pol RM RT w6 Q T P b M 0 most (fun _ => none) :=
    ⟨hQ6, ⟨by rw [total_none]; exact hP6, hS4.map.chg hc46 hnb, hM4.chg hc46 (fun j hj e => by rcases e with e | e; exact hRMQ (e ▸ hj); exact hRMP (e ▸ hj)), hRMP, hRMb⟩,
      hT4.chg hc46 (fun j hj e => by rcases e with e | e; exact hRTQ (e ▸ hj); exact hRTP (e ▸ hj)), fun j hj e => by have := (hRMlo _ hj).1; have := (hRTlo _ e).2; omega, hRTP, hRTb, hRTQ, hRMQ⟩
  have hV6 := hc6.at_ hV5 (fun e => by rcases e with e | e <;> omega)
  have hr6 := hc46.at_ hr4 (fun e => by rcases e with e | e <;> omega)
  have hb06 := hb04.trans (hc46.below hb04.size (fun j hj e => by rcases e with e | e <;> omega))
  have hlow : ∀ j, j = Q ∨ PoB RM RT P b j → w.heap.size + 2 ≤ j := fun j hj => by
    rcases hj with e | (e | e | e) | e
    · omega
    · omega
    · omega
    · have := (hRMlo _ e).1; omega
    · have := (hRTlo _ e).1; omega
  have h46 := hc46.size
  have hupp : ∀ j, j = Q ∨ PoB RM RT P b j → j < w6.heap.size := fun j hj => by
    rcases hj with e | (e | e | e) | e
    · omega
    · omega
    · omega
    · have := (hRMlo _ e).2; omega
    · have := (hRTlo _ e).2; omega
  have HU := Lib.hid hupp
  clear hupp
  have v0 : w6.cell? ⟨w4.heap.size, 0, none⟩ = some (.pointer (some ⟨Q, 0, none⟩)) := hV6.cell 0
  have v1 : w6.cell? ⟨w4.heap.size, 1, none⟩ = some (.pointer (some ⟨M, 0, none⟩)) := hV6.cell 1
  have x0 : w6.cell? ⟨w.heap.size + 1, 0, none⟩ = some (.pointer none) := hr6.cell 0
  have x1 : w6.cell? ⟨w.heap.size + 1, 1, none⟩ = some (.pointer none) := hr6.cell 1
  have y0 := hr6.free 0
  have y1 := hr6.free 1
  have HP := Lib.hid hpol
  have HL := Lib.hid hlow
  have HB := Lib.hid hb06
  have hfin := (hr6.set 0 (.pointer (some ⟨Q, 0, none⟩))).set 1 (.pointer (some ⟨M, 0, none⟩))
  have z0 : ((w6.setCell ⟨w.heap.size + 1, 0, none⟩ (.pointer (some ⟨Q, 0, none⟩))).setCell ⟨w.heap.size + 1, 1, none⟩ (.pointer (some ⟨M, 0, none⟩))).cell? ⟨w.heap.size + 1, 0, none⟩ = some (.pointer (some ⟨Q, 0, none⟩)) := hfin.cell 0
  have z1 : ((w6.setCell ⟨w.heap.size + 1, 0, none⟩ (.pointer (some ⟨Q, 0, none⟩))).setCell ⟨w.heap.size + 1, 1, none⟩ (.pointer (some ⟨M, 0, none⟩))).cell? ⟨w.heap.size + 1, 1, none⟩ = some (.pointer (some ⟨M, 0, none⟩)) := hfin.cell 1
  have Z0 := Lib.hid z0
  have Z1 := Lib.hid z1
  clear hpol hlow hb06 hV6 hr6 hfin z0 z1 hV5 hc5 hb05 hP5 hQ6 hP6 hc6 hc46 hQ4 hr4 hT4 hS4 hb04 hM4 hRTlo hRMlo hnb
  go_wp2
  have hcf : Chg (fun j => j = w.heap.size + 1) w6 ((w6.setCell ⟨w.heap.size + 1, 0, none⟩ (.pointer (some ⟨Q, 0, none⟩))).setCell ⟨w.heap.size + 1, 1, none⟩ (.pointer (some ⟨M, 0, none⟩))) :=
    ((Chg.refl (fun j => j = w.heap.size + 1) w6).setCell (p := ⟨w.heap.size + 1, 0, none⟩) (fun _ => rfl) _).setCell (p := ⟨w.heap.size + 1, 1, none⟩) (fun _ => rfl) _
  refine bodyPost_ret (v := .agg (polV Q M)) (by have h5 := Z0.out; have h6 := Z1.out; simp [results, Try.results42, go_sem, polV] at h5 h6 ⊢; simp [h5, h6]) rfl ?_
  refine ⟨RM, RT, Q, T, P, b, M, rfl, HP.out.chg hcf (fun j hj e => by have := HL.out j hj; omega), fun j hj => ⟨by have := HL.out j hj; omega, by have := HU.out j hj; have := hcf.size; omega⟩, (HB.out.setCell (p := ⟨w.heap.size + 1, 0, none⟩) (by simp) _).setCell (p := ⟨w.heap.size + 1, 1, none⟩) (by simp) _⟩
end Go.Proofs.Ytoddnjpbmefgnaa
