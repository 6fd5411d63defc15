/-
  The sample: a row of pointers to pairs that nobody writes; filled up to five.
-/
import Derived.Test.YtoddnjpbmefgnaaPolB
import Derived.Test.YtoddnjpbmefgnaaSets
import Derived.Maps.RangeWalk
namespace Go.Proofs.Ytoddnjpbmefgnaa
open Go.RowKit

/-- A pointer to a block. -/
def ptrV (u : Nat) : Value := .pointer (some ⟨u, 0, none⟩)
/-- A pair of a sample at block u. -/
def PairAt (w : World) (base u : Nat) (p : Nat × Int) : Prop := base ≤ u ∧ At w u (.cells #[.int .u64 (p.1 : Int), .int .i64 p.2] 152 (0, 0))
/-- A sample: us the pairs' blocks, qs the pairs. -/
structure Sam (w : World) (base : Nat) (v : Value) (us : List Nat) (qs : List (Nat × Int)) : Prop where
  row : w.ownsRow base 150 1 v us.length (us.map ptrV)
  len : us.length = qs.length
  at_ : ∀ j, j < us.length → PairAt w base (us.getD j 0) (qs.getD j (0, 0))
theorem PairAt.chg {S : Nat → Prop} {w w' : World} {base u : Nat} {p : Nat × Int} (h : PairAt w base u p) (hc : Chg S w w') (hS : ¬ S u) : PairAt w' base u p := ⟨h.1, hc.at_ h.2 hS⟩
theorem Sam.chg {S : Nat → Prop} {w w' : World} {base : Nat} {v : Value} {us : List Nat} {qs : List (Nat × Int)} (h : Sam w base v us qs) (hc : Chg S w w') (hv : ∀ k, v.ownBlock = some k → ¬ S k) (hu : ∀ j, j < us.length → ¬ S (us.getD j 0)) : Sam w' base v us qs :=
  ⟨hc.owns h.row hv, h.len, fun j hj => (h.at_ j hj).chg hc (hu j hj)⟩
theorem Try.info150 : (Try.prog.info? 150).map (fun i => (i.zero, i.size, i.bytes)) = some (some (.pointer none), 1, 8) := by kernel_rfl

set_option maxRecDepth 100000 in
set_option maxHeartbeats 400000 in
theorem fill_full (P : Nat) (A : Option Addr) (m c : Nat) (w : World) (hm : 5 ≤ m) :
    Calls Try.prog 90 #[.pointer (some ⟨P, 0, none⟩), .slice A m c] w fun e w' => e = .returned (.slice A m c) ∧ w' = w := by
  have i1 : (5 : Int) ≤ (m : Int) := by omega
  go_enter Try.func90, Try.ntmps90
  go_wp2
  go_returns
  exact ⟨rfl, rfl⟩

/-- What a fill hands back: the sample with live pairs behind it, five at most; none at all just if nothing is live. -/
def RetFill (w : World) (base : Nat) (v0 : Value) (us : List Nat) (qs : List (Nat × Int)) (C : Nat → Option Int) (e : Ending) (w' : World) : Prop :=
  ∃ (v : Value) (us' : List Nat) (qs' : List (Nat × Int)), e = .returned v ∧ Sam w' base v (us ++ us') (qs ++ qs') ∧ (us ++ us').length ≤ 5 ∧ (∀ p ∈ qs', C p.1 = some p.2) ∧ (us ++ us' = [] → ∀ k, C k = none) ∧
    Chg (fun j => v0.ownBlock = some j) w w' ∧ ∀ j, v.ownBlock = some j → v0.ownBlock = some j ∨ w.heap.size ≤ j

theorem own_iter1 {w : World} {base : Nat} {e : TypeId} {v : Value} {n m b r cnt : Nat} {xs : List Value} {D : DataW Unit} {left : Lit → Bool} {R : Value → Option (DataW Unit × List MemPlace)} (h : w.ownsRow base e 1 v m xs) (hr : w.ranges Try.prog 23 R b r n D left cnt) : v.ownBlock ≠ some r := by
  intro he
  rcases h.2 with ⟨rfl, _⟩ | ⟨g, cap, cur, rfl, _, hg, _⟩
  · simp [Value.ownBlock] at he
  · simp [Value.ownBlock] at he
    subst he
    obtain ⟨_, _, _, _, _, _, _, _, _, hit, _⟩ := hr
    rw [hg] at hit
    cases hit
theorem pair_iter {w : World} {base u : Nat} {p : Nat × Int} {n b r cnt : Nat} {D : DataW Unit} {left : Lit → Bool} {R : Value → Option (DataW Unit × List MemPlace)} (h : PairAt w base u p) (hr : w.ranges Try.prog 23 R b r n D left cnt) : u ≠ r := by
  rintro rfl
  obtain ⟨_, _, _, _, _, _, _, _, _, hit, _⟩ := hr
  have e : w.heap[u]? = _ := h.2
  rw [e] at hit
  cases hit

set_option maxRecDepth 100000 in
set_option maxHeartbeats 800000 in
theorem fill_any (P b n : Nat) (C : Nat → Option Int) (w : World) (base : Nat) (v0 : Value) (us : List Nat) (qs : List (Nat × Int)) (hbb : b < base) (hbase : base ≤ w.heap.size) (hm : us.length < 5) (c3 : w.cell? ⟨P, 3, none⟩ = some (.map (some b))) (hMap : MapC w b n C) (hS : Sam w base v0 us qs) :
    Calls Try.prog 90 #[.pointer (some ⟨P, 0, none⟩), v0] w (RetFill w base v0 us qs C) := by
  obtain ⟨i0, hi, hz0, hz1, hz2⟩ := info_parts Try.info150
  obtain ⟨D, hD, hh, hat⟩ := hMap
  have Hh := Lib.hid hh
  have Hat := Lib.hid hat
  obtain ⟨A0, c0, hv0, _⟩ := own_vls hS.row
  have i1 : ¬ ((5 : Int) ≤ (us.length : Int)) := by omega
  have i2 : ¬ (5 ≤ us.length) := by omega
  have HS := Lib.hid hS
  clear hh hat hS
  subst hv0
  go_enter Try.func90, Try.ntmps90
  go_wp2_with (at_range; refine wpList_range_own _ rfl _ 54 rfl 23 2 key23 Try.underlying54 _ b n D rfl hD ?_; intro w0 hrg0 hg0 hs0)
  have hS0 := HS.out.chg (Chg.of_grown (S := fun _ => False) hg0 (fun j e _ => by cases e)) (fun _ _ h => h) (fun _ _ h => h)
  have hc0 : Chg (fun j => (Value.slice A0 us.length c0).ownBlock = some j) w w0 := Chg.of_grown hg0 (fun j e _ => by cases e)
  have hbr : b < w.heap.size := by omega
  generalize hr : w.heap.size = r at hrg0 ⊢
  have hrw : w.heap.size ≤ r := by omega
  generalize hv0 : (Value.slice A0 us.length c0) = v0 at hS0 hc0 ⊢
  have HV0 := Lib.hid hv0
  have hq0 : ∀ p ∈ ([] : List (Nat × Int)), C p.1 = some p.2 := fun p h => by cases h
  have HQ0 := Lib.hid hq0
  have hl0 : ∀ k : Nat, Maps.has D (.int .u64 (k : Int)) = true → (C k).isSome = true := fun k h => by rw [← Hh.out]; exact h
  have HL0 := Lib.hid hl0
  have he0 : us ++ [] = [] → ∀ k : Nat, Maps.has D (.int .u64 (k : Int)) = (C k).isSome := fun _ k => Hh.out k
  have HE0 := Lib.hid he0
  have hn0 : ∀ j, v0.ownBlock = some j → v0.ownBlock = some j ∨ w.heap.size ≤ j := fun j h => .inl h
  have HN0 := Lib.hid hn0
  clear hg0 hs0 hr hD c3 hv0 hq0 hl0 he0 hn0
  go_loopw [1] (fun v wr => ∃ (left : Lit → Bool) (cnt : Nat) (us' : List Nat) (qs' : List (Nat × Int)), wr.ranges Try.prog 23 (plainElem Try.prog 2) b r n D left cnt ∧ Sam wr base v (us ++ us') (qs ++ qs') ∧ (us ++ us').length < 5 ∧ Hid (∀ p ∈ qs', C p.1 = some p.2) ∧
    Hid (∀ k : Nat, left (.int .u64 (k : Int)) = true → (C k).isSome = true) ∧ Hid (us ++ us' = [] → ∀ k : Nat, left (.int .u64 (k : Int)) = (C k).isSome) ∧ Chg (fun j => v0.ownBlock = some j) w wr ∧ Hid (∀ j, v.ownBlock = some j → v0.ownBlock = some j ∨ w.heap.size ≤ j)) (fun _ wr => wr.rangeLeft b r)
  case atStart => exact ⟨_, _, [], [], hrg0, by simpa using hS0, by simpa using hm, HQ0, HL0, HE0, hc0, HN0⟩
  case round =>
    clear hrg0 hS0 hc0 HQ0 HL0 HE0 HN0
    obtain ⟨left, cnt, us', qs', hrg, hSam, hlen, hq, hl, he, hch, hn⟩ := hrel
    have hrl := hrg.lt
    have hszw := hch.size
    go_wp2_with (at_next; refine wpList_next_ranges_ii _ rfl _ rfl 23 2 .u64 .i64 key23 Try.underlying23 Try.underlying2 b r n _ _ _ rfl hrg ?_ ?_)
    · intro _ hl0
      have hfin : us ++ us' = [] → ∀ k, C k = none := fun h k => by
        have h1 := he.out h k
        rw [hl0] at h1
        cases hck : C k with
        | none => rfl
        | some x => rw [hck] at h1; cases h1
      have HF := Lib.hid hfin
      clear hl0 hfin
      go_wp2
      go_returns
      exact ⟨_, us', qs', rfl, hSam, by omega, hq.out, HF.out, by rw [HV0.out]; exact hch, by rw [HV0.out]; exact hn.out⟩
    · intro x c w1 cnt1 hwx hwc hlx hatx hrg1 hlt hg1 hs1 hen
      obtain ⟨lx, ux⟩ := bounds_u64 hwx
      obtain ⟨k, rfl⟩ := Int.eq_ofNat_of_zero_le lx
      have hck : C k = some c := by
        have h2 := (hatx (.lit (.int .i64 0))).symm.trans (Hat.out k)
        obtain ⟨c1, hc1⟩ := Option.isSome_iff_exists.1 (hl.out k hlx)
        rw [hc1] at h2 ⊢
        have h3 : c = c1 := by simpa using h2
        rw [h3]
      have hSam1 := hSam.chg (Chg.of_grown (S := fun j => j = r) hg1 (fun j e _ => by cases e; rfl)) (fun j hj e => own_iter1 hSam.row hrg (by rw [hj, e])) (fun j hj e => pair_iter (hSam.at_ j hj) hrg e)
      have hch1 : Chg (fun j => v0.ownBlock = some j) w w1 := hch.then (Chg.of_grown (S := fun j => j = r) hg1 (fun j e _ => by cases e; rfl)) (fun j hj e => by omega)
      have hl1 : ∀ j : Nat, (left (.int .u64 (j : Int)) && !(Lit.int .u64 (j : Int)).sameKey (.int .u64 (k : Int))) = true → (C j).isSome = true := fun j h => by
        simp only [Bool.and_eq_true] at h
        exact hl.out j h.1
      have HL1 := Lib.hid hl1
      have HCK := Lib.hid hck
      have HLE := Lib.hid hrg.left_eq
      have hbw1 : base ≤ w1.heap.size := Nat.le_trans hbase hch1.size
      clear hl1 hck hatx hlx hwx hwc hg1 hs1 hSam hch hrg hl he hrl hszw
      go_wp2_with (at_builtin; refine wpList_append_own_at _ rfl _ _ 148 rfl base 150 i0 (.pointer none) 1 8 Try.underlying148 hi hz0 hz1 hz2 rfl (by decide) _ _ _ rfl ((hSam1.row.alloc _).alloc _) ⟨w1.heap.size + 1, 0, none⟩ 1 1 [ptrV w1.heap.size] rfl rfl ?c1 ?c2 ?c3 ?c4 ?c5 ?_)
      case c1 =>
        intro j u hu
        have hj : j = 0 := by have := (List.getElem?_eq_some_iff.1 hu).1; simp at this; omega
        subst hj
        have h := (At.new (w1.alloc (.cells #[.int .u64 (k : Int), .int .i64 c] 152)) (.cells #[.pointer (some ⟨w1.heap.size, 0, none⟩)] 150)).cell 0
        rw [Addr.add_lit]
        simp at hu h ⊢
        rw [← hu]
        rfl
      case c2 => intro u hu; simp at hu; subst hu; rfl
      case c3 => unfold maxLen; omega
      case c4 => omega
      case c5 => simp; omega
      intro v2 w3 hown3 hgrow3 _ hblk3
      have hcA : Chg (fun j => u1.ownBlock = some j) w1 w3 := (((Chg.refl _ _).alloc _).alloc _).trans (Chg.of_grown hgrow3 (fun j e _ => e))
      have hown3' : w3.ownsRow base 150 1 v2 (us ++ (us' ++ [w1.heap.size])).length ((us ++ (us' ++ [w1.heap.size])).map ptrV) := by
        have e1 : (us ++ (us' ++ [w1.heap.size])).length = us.length + us'.length + 1 := by simp; omega
        have e2 : (us ++ (us' ++ [w1.heap.size])).map ptrV = us.map ptrV ++ (us'.map ptrV ++ [ptrV w1.heap.size]) := by simp
        rw [e1, e2]; exact hown3
      have hnew : PairAt w3 base w1.heap.size (k, c) := by
        refine ⟨hbw1, ?_⟩
        have h1 := (At.new w1 (.cells #[.int .u64 (k : Int), .int .i64 c] 152 (0, 0))).alloc (.cells #[.pointer (some ⟨w1.heap.size, 0, none⟩)] 150)
        refine at_grown hgrow3 h1 (fun e => ?_)
        have := hSam1.row
        rcases this.2 with ⟨h, _⟩ | ⟨g, cap, cur, h, _, hg, _⟩
        · rw [h] at e; simp [Value.ownBlock] at e
        · rw [h] at e; simp [Value.ownBlock] at e
          have := (Array.getElem?_eq_some_iff.1 hg).1
          omega
      have hSam3 : Sam w3 base v2 (us ++ (us' ++ [w1.heap.size])) (qs ++ (qs' ++ [(k, c)])) := by
        refine ⟨hown3', by have := hSam1.len; simp at this ⊢; omega, fun j hj => ?_⟩
        have hll := hSam1.len
        rw [← List.append_assoc, ← List.append_assoc]
        by_cases hjl : j < (us ++ us').length
        · have h := (hSam1.at_ j hjl).chg hcA (fun e => own_ne hSam1.row (hSam1.at_ j hjl).2 (by decide) e)
          have e1 : ((us ++ us') ++ [w1.heap.size]).getD j 0 = (us ++ us').getD j 0 := by simp only [List.getD, List.getElem?_append_left hjl]
          have e2 : ((qs ++ qs') ++ [(k, c)]).getD j (0, 0) = (qs ++ qs').getD j (0, 0) := by simp only [List.getD, List.getElem?_append_left (show j < (qs ++ qs').length by omega)]
          rw [e1, e2]; exact h
        · have hje : j = (us ++ us').length := by simp at hj hjl ⊢; omega
          have e1 : ((us ++ us') ++ [w1.heap.size]).getD j 0 = w1.heap.size := by rw [hje]; simp [List.getD]
          have e2 : ((qs ++ qs') ++ [(k, c)]).getD j (0, 0) = (k, c) := by rw [hje, hll]; simp [List.getD]
          rw [e1, e2]; exact hnew
      have hch3 : Chg (fun j => v0.ownBlock = some j) w w3 := hch1.then hcA (fun j hj e => by rcases hn.out j e with h | h; exact h; omega)
      have hn3 : ∀ j, v2.ownBlock = some j → v0.ownBlock = some j ∨ w.heap.size ≤ j := fun j e => by
        rcases hblk3 with h | h
        · rw [h] at e; exact hn.out j e
        · rw [h] at e
          injection e with e
          have := hch1.size
          exact .inr (by omega)
      have hq3 : ∀ p ∈ qs' ++ [(k, c)], C p.1 = some p.2 := fun p hp => by
        rcases List.mem_append.1 hp with h | h
        · exact hq.out p h
        · simp at h; subst h; exact HCK.out
      have hrg3 := ((hrg1.alloc (.cells #[.int .u64 (k : Int), .int .i64 c] 152)).alloc (.cells #[.pointer (some ⟨w1.heap.size, 0, none⟩)] 150)).kept hgrow3 (fun e => by
        have := (hSam1.row.lt b e.symm).1
        omega) (fun e => own_iter1 hSam1.row hrg1 e.symm)
      have HLE3 := Lib.hid hrg3.left_eq
      have HN3 := Lib.hid hn3
      have HQ3 := Lib.hid hq3
      have hempty : us ++ (us' ++ [w1.heap.size]) = [] → ∀ j : Nat, (left (.int .u64 (j : Int)) && !(Lit.int .u64 (j : Int)).sameKey (.int .u64 (k : Int))) = (C j).isSome := fun h => by simp at h
      have HEM := Lib.hid hempty
      have hempty2 : us ++ (us' ++ [w1.heap.size]) = [] → ∀ k, C k = none := fun h => by simp at h
      have HEM2 := Lib.hid hempty2
      have hll3 : (us ++ (us' ++ [w1.heap.size])).length = (us ++ us').length + 1 := by simp; omega
      have HLL3 := Lib.hid hll3
      generalize hm3 : (us ++ us').length = m3 at hlen HLL3
      obtain ⟨A2, c2, hv2, _⟩ := own_vls hown3'
      rw [hll3, hm3] at hv2
      subst hv2
      clear hgrow3 hblk3 hcA hown3 hown3' hnew hSam1 hch1 hn hn3 hq hq3 hrg1 hempty hempty2 hll3 hm3 hen
      by_cases h5 : m3 + 1 < 5
      · have i5 : ¬ ((5 : Int) ≤ (m3 : Int) + 1) := by omega
        go_wp2
        go_roundw
        case rel => exact ⟨_, _, us' ++ [w1.heap.size], qs' ++ [(k, c)], hrg3, hSam3, by rw [HLL3.out]; exact h5, HQ3, HL1, HEM, hch3, HN3⟩
        case measure => rw [HLE3.out, HLE.out]; omega
      · have i5 : (5 : Int) ≤ (m3 : Int) + 1 := by omega
        go_wp2
        go_returns
        exact ⟨_, us' ++ [w1.heap.size], qs' ++ [(k, c)], rfl, hSam3, by rw [HLL3.out]; omega, HQ3.out, HEM2.out, hch3, HN3.out⟩
end Go.Proofs.Ytoddnjpbmefgnaa
