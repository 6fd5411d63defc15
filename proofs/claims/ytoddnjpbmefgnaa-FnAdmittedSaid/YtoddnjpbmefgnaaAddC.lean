/-
  The exported policy's Add: the key taken or not, with the pairs that are gone.
-/
import Derived.Test.YtoddnjpbmefgnaaAddB
namespace Go.Proofs.Ytoddnjpbmefgnaa
open Go.RowKit

/-- What an Add says: gs are gone, with what they cost; the key was taken or not. -/
structure AddSays (C : Nat → Option Int) (most : Int) (k : Nat) (c : Int) (gs : List (Nat × Int)) (taken : Bool) : Prop where
  gone : ∀ p ∈ gs, C p.1 = some p.2
  room : taken = true → total (remL C gs) 16 + c ≤ most
  over : most < c → gs = [] ∧ taken = false
  fits : total C 16 + c ≤ most → gs = [] ∧ taken = true
/-- The costs behind an Add. -/
def addC (C : Nat → Option Int) (k : Nat) (c : Int) (gs : List (Nat × Int)) (taken : Bool) : Nat → Option Int := if taken = true then putC (remL C gs) k (some c) else remL C gs
/-- What an Add hands back, in all its ways. -/
def RetAny (RM RT : Nat → Prop) (w : World) (Q T P b M n k : Nat) (c most : Int) (C : Nat → Option Int) (e : Ending) (w' : World) : Prop :=
  ∃ (v : Value) (us : List Nat) (gs : List (Nat × Int)) (n' : Nat) (taken : Bool), e = .returned (.tuple #[v, .bool taken]) ∧ Vic w' w.heap.size v us gs ∧ AddSays C most k c gs taken ∧ gs.length ≤ 1000 ∧ n' ≤ n + 1 ∧
    Pol RM RT w' Q T P b M n' most (addC C k c gs taken) ∧ Chg (PoB RM RT P b) w w'
theorem own_base {w : World} {a b : Nat} {e : TypeId} {size n : Nat} {v : Value} {xs : List Value} (h : w.ownsRow b e size v n xs) (hab : a ≤ b) : w.ownsRow a e size v n xs :=
  ⟨h.1, h.2.imp id (fun ⟨g, cap, cur, hv, hb, r⟩ => ⟨g, cap, cur, hv, Nat.le_trans hab hb, r⟩)⟩
theorem vic_nil (w : World) (base : Nat) : Vic w base (.slice none 0 0) [] [] := ⟨⟨rfl, .inl ⟨rfl, rfl⟩⟩, rfl, fun _ hj => absurd hj (Nat.not_lt_zero _)⟩
theorem polAdd_any (RM RT : Nat → Prop) (Q T P b M n k : Nat) (c most : Int) (C : Nat → Option Int) (w : World) (hk : k < 16) (hn : n < 8589934592) (hm : 0 ≤ most ∧ most ≤ 65535) (hC : OkA C) (hc : 0 ≤ c ∧ c ≤ 255) (h0 : C k = none) (hup : ∀ j, PoB RM RT P b j → j < w.heap.size) (h : Pol RM RT w Q T P b M n most C) :
    Calls Try.prog 73 #[.pointer (some ⟨Q, 0, none⟩), .int .u64 (k : Int), .int .i64 c] w (RetAny RM RT w Q T P b M n k c most C) := by
  have ht := hC.tot
  by_cases h1 : most < c
  · refine (polAdd_over RM RT Q T P b M n k c most C w h1 h).mono ?_
    rintro e w' ⟨rfl, rfl⟩
    exact ⟨_, [], [], n, false, rfl, vic_nil _ _, ⟨fun p hp => (by cases hp), fun h => (by cases h), fun _ => ⟨rfl, rfl⟩, fun h => by omega⟩, Nat.zero_le _, Nat.le_succ _, h, Chg.refl _ _⟩
  · by_cases h2 : total C 16 + c ≤ most
    · refine (polAdd_room RM RT Q T P b M n k c most C w hk hn hm hC hc h0 h2 h).mono ?_
      rintro e w' ⟨rfl, hP, hch⟩
      exact ⟨_, [], [], n + 1, true, rfl, vic_nil _ _, ⟨fun p hp => (by cases hp), fun _ => h2, fun h => absurd h h1, fun _ => ⟨rfl, rfl⟩⟩, Nat.zero_le _, Nat.le_refl _, hP, hch.mono (fun _ _ e => .inl e)⟩
    · refine (polAdd_evict RM RT Q T P b M n k c most C w hk hn hm hC hc (by omega) h0 (by omega) hup h).mono ?_
      rintro e w' ⟨v, us, gs, n', taken, rfl, hV, hg, hl, hn', hP, hr, hch⟩
      exact ⟨v, us, gs, n', taken, rfl, hV, ⟨hg, hr, fun h => absurd h h1, fun h => absurd h h2⟩, hl, hn', hP, hch⟩

/-- What the exported Add hands back. -/
def RetAdd (RM RT : Nat → Prop) (w : World) (Q T P b M n k : Nat) (c most : Int) (C : Nat → Option Int) (e : Ending) (w' : World) : Prop :=
  ∃ (v : Value) (gs : List (Nat × Int)) (n' : Nat) (taken : Bool), e = .returned (.tuple #[v, .bool taken]) ∧ w'.ownsRow w.heap.size 93 2 v gs.length (flatP gs) ∧ AddSays C most k c gs taken ∧ gs.length ≤ 1000 ∧ n' ≤ n + 1 ∧
    Pol RM RT w' Q T P b M n' most (addC C k c gs taken) ∧ Chg (PoB RM RT P b) w w'

set_option maxRecDepth 100000 in
set_option maxHeartbeats 800000 in
theorem policyAdd_any (RM RT : Nat → Prop) (Q T P b M n k : Nat) (c most : Int) (C : Nat → Option Int) (w : World) (hk : k < 16) (hn : n < 8589934592) (hm : 0 ≤ most ∧ most ≤ 65535) (hC : OkA C) (hc : 0 ≤ c ∧ c ≤ 255) (h0 : C k = none) (hup : ∀ j, PoB RM RT P b j → j < w.heap.size) (h : Pol RM RT w Q T P b M n most C) :
    Calls Try.prog 46 #[.agg (polV Q M), .int .u64 (k : Int), .int .i64 c] w (RetAdd RM RT w Q T P b M n k c most C) := by
  obtain ⟨i0, hi, hz0, hz1, hz2⟩ := info_parts Try.info93
  have h1 := h.chg (S := fun _ => False) ((Chg.refl _ _).alloc (.cells #[.pointer (some ⟨Q, 0, none⟩), .pointer (some ⟨M, 0, none⟩)] 87)) (fun _ _ h => h)
  have hadd := polAdd_any RM RT Q T P b M n k c most C _ hk hn hm hC hc h0 (fun j hj => by have := hup j hj; simp; omega) h1
  have hc1 : Chg (PoB RM RT P b) w (w.alloc (.cells #[.pointer (some ⟨Q, 0, none⟩), .pointer (some ⟨M, 0, none⟩)] 87)) := (Chg.refl _ _).alloc _
  have HC1 := Lib.hid hc1
  have HUPP := Lib.hid hup
  clear h h1 hup hc1
  unfold polV
  go_enter Try.func46, Try.ntmps46
  go_wp2_with fail
  refine hadd.mono ?_
  rintro e w1 ⟨v, us, gs, n', taken, rfl, hV, hS, hl, hn', hP, hch⟩
  have hch1 := HC1.out.trans hch
  have hb1 := hch1.size
  have hlen := hV.len
  have hv := own_vls hV.row
  obtain ⟨A, cc, rfl, hvls⟩ := hv
  have HS := Lib.hid hS
  clear hadd hS hch
  go_wp2
  go_loopw [10, 23] (fun v i wr => ∃ j : Nat, i = .int .i64 (j : Int) ∧ j ≤ us.length ∧ wr.ownsRow w1.heap.size 93 2 v j (flatP (gs.take j)) ∧ Below w1.heap.size w1 wr) (fun _ i _ => us.length - (intOf i).toNat)
  case atStart => exact ⟨0, rfl, Nat.zero_le _, ⟨rfl, .inl ⟨rfl, rfl⟩⟩, Below.refl _ _⟩
  case round =>
    obtain ⟨j, rfl, hj, hown, hbel⟩ := hrel
    have hsz := hbel.size
    by_cases hlt : j < us.length
    · obtain ⟨bb, o, hA, hbb, hcell⟩ := hvls.2 j (by omega)
      subst hA
      obtain ⟨hub, hit⟩ := hV.at_ j hlt
      have e1 : (us.map ptrV).getD j undef = ptrV (us.getD j 0) := by simp [List.getD, hlt]
      rw [e1] at hcell
      have hsn := take_snoc gs (0, 0) (show j < gs.length by omega)
      generalize us.getD j 0 = u at hub hit hcell
      generalize gs.getD j (0, 0) = p at hit hsn
      obtain ⟨gk, gc⟩ := p
      simp only at hit
      have hul := hit.lt
      have hcx : wr.cell? ⟨bb, o + j, none⟩ = some (.pointer (some ⟨u, 0, none⟩)) := (hbel.cell (p := ⟨bb, o + j, none⟩) hbb).trans hcell
      have hit' : At wr u (.cells #[.int .u64 (gk : Int), .int .u64 0, .int .i64 0, .int .i64 gc] 122 (0, 0)) := (Chg.of_new (S := fun _ => False) hbel).at_ hit (fun h => h)
      have hk0 : wr.cell? ⟨u, 0, none⟩ = some (.int .u64 (gk : Int)) := hit'.cell 0
      have hk3 : wr.cell? ⟨u, 3, none⟩ = some (.int .i64 gc) := hit'.cell 3
      have HSN := Lib.hid hsn
      clear e1 hcell hsn hit hit'
      have i0' : (0 : Int) ≤ (j : Int) := by omega
      have i1 : (j : Int) < (us.length : Int) := by omega
      have hlu : u < wr.heap.size := by omega
      have hB0 : ∀ (W2 w2 : World), W2.grownBy w2 u10.ownBlock → Chg (fun _ => False) (wr.alloc (.cells #[.int .u64 (gk : Int), .int .i64 gc] 93)) W2 → Below w1.heap.size w1 w2 := fun W2 w2 hg e =>
        ((hbel.alloc hsz _).trans (e.below (by simp; omega) (fun _ _ h => h))).grown hg (by have := e.size; simp at this; omega) (fun j hj => (hown.lt j hj).1)
      have hO0 : ∀ W2 : World, Chg (fun _ => False) (wr.alloc (.cells #[.int .u64 (gk : Int), .int .i64 gc] 93)) W2 → W2.ownsRow w1.heap.size 93 2 u10 j (flatP (gs.take j)) := fun W2 e => e.owns (hown.alloc _) (fun _ _ h => h)
      have hc0 : ∀ W2 : World, Chg (fun _ => False) (wr.alloc (.cells #[.int .u64 (gk : Int), .int .i64 gc] 93)) W2 → W2.cell? ⟨wr.heap.size, 0, none⟩ = some (.int .u64 (gk : Int)) := fun W2 e => e.cell ((At.new wr (.cells #[.int .u64 (gk : Int), .int .i64 gc] 93)).cell 0) id
      have hc1 : ∀ W2 : World, Chg (fun _ => False) (wr.alloc (.cells #[.int .u64 (gk : Int), .int .i64 gc] 93)) W2 → W2.cell? ⟨wr.heap.size, 1, none⟩ = some (.int .i64 gc) := fun W2 e => e.cell ((At.new wr (.cells #[.int .u64 (gk : Int), .int .i64 gc] 93)).cell 1) id
      have hm1 : j + 1 ≤ maxLen := by unfold maxLen; omega
      have hm2 : (j + 1) * 16 ≤ 140737488355328 := by omega
      have HB := Lib.hid hB0
      have HO := Lib.hid hO0
      have H0 := Lib.hid hc0
      have H1 := Lib.hid hc1
      have M1 := Lib.hid hm1
      have M2 := Lib.hid hm2
      clear hB0 hO0 hc0 hc1 hm1 hm2
      go_wp2_with fail
      go_region_held3 (fun w' => w'.cell? ⟨u, 0, none⟩ = some (.int .u64 (gk : Int)) ∧ w'.cell? ⟨u, 3, none⟩ = some (.int .i64 gc)) (first | go_keep | (exact ⟨(hb2.cell (p := ⟨u, 0, none⟩) hul).trans ((hbel.cell (p := ⟨u, 0, none⟩) hul).symm.trans hk0), (hb2.cell (p := ⟨u, 3, none⟩) hul).trans ((hbel.cell (p := ⟨u, 3, none⟩) hul).symm.trans hk3)⟩))
        ((refine step_append_pair (by rfl) _ _ 90 (by rfl) w1.heap.size 93 i0 (.agg #[.int .u64 0, .int .i64 0]) Try.underlying90 hi hz0 hz1 hz2 (by rfl) u10 j (gs.take j) (by rfl) (by exact HO.out _ ⟨rfl, rfl, rfl, Nat.le_refl _, fun _ _ _ => rfl⟩) wr.heap.size gk gc (by rfl) (by exact H0.out _ ⟨rfl, rfl, rfl, Nat.le_refl _, fun _ _ _ => rfl⟩) (by exact H1.out _ ⟨rfl, rfl, rfl, Nat.le_refl _, fun _ _ _ => rfl⟩) M1.out M2.out (by simp; omega) ?_
          intro v' w2 hown2 hgrow
          have hb2 := HB.out _ w2 hgrow (by exact ⟨rfl, rfl, rfl, Nat.le_refl _, fun _ _ _ => rfl⟩)))
      clear hgrow HB HO H0 H1 M1 M2
      go_wp2
      go_roundw
      case rel => exact ⟨j + 1, by go_num, by omega, by rw [HSN.out]; exact hown2, hb2⟩
      case measure => simp [intOf]; omega
    · have hje : gs.take j = gs := List.take_of_length_le (by omega)
      have hjl : j = gs.length := by omega
      have HJE := Lib.hid hje
      have HJL := Lib.hid hjl
      clear hje hjl
      go_wp2
      go_returns
      refine ⟨_, gs, n', taken, rfl, ?_, HS.out, hl, hn', hP.new hbel, hch1.trans (Chg.of_new hbel)⟩
      have h := own_base hown hb1
      rw [HJE.out] at h
      rw [← HJL.out]
      exact h
end Go.Proofs.Ytoddnjpbmefgnaa
