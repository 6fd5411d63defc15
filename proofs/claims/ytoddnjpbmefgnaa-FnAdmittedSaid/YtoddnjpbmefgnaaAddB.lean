/-
  The policy's Add where there is no room.
-/
import Derived.Test.YtoddnjpbmefgnaaAddA
namespace Go.Proofs.Ytoddnjpbmefgnaa
open Go.RowKit

/-- What an Add without room hands back. -/
def RetEv (RM RT : Nat → Prop) (w : World) (Q T P b M n k : Nat) (c most : Int) (C : Nat → Option Int) (e : Ending) (w' : World) : Prop :=
  ∃ (v : Value) (us : List Nat) (gs : List (Nat × Int)) (n' : Nat) (taken : Bool), e = .returned (.tuple #[v, .bool taken]) ∧ Vic w' w.heap.size v us gs ∧ (∀ p ∈ gs, C p.1 = some p.2) ∧ gs.length ≤ 1000 ∧ n' ≤ n + 1 ∧
    Pol RM RT w' Q T P b M n' most (if taken = true then putC (remL C gs) k (some c) else remL C gs) ∧ (taken = true → total (remL C gs) 16 + c ≤ most) ∧ Chg (PoB RM RT P b) w w'

/-- A row made with room and no element is an own row. -/
theorem own_made (w : World) (base : Nat) (e : TypeId) (cs : Array Value) (hb : base ≤ w.heap.size) (hm : cs.size ≤ maxLen) : (w.alloc (.cells cs e)).ownsRow base e 1 (.slice (some ⟨w.heap.size, 0, none⟩) 0 cs.size) 0 [] :=
  ⟨rfl, .inr ⟨w.heap.size, cs.size, cs, rfl, hb, heap_alloc_new w _, Nat.zero_le _, hm, by simp, by simp⟩⟩
theorem sam_made (w : World) (base : Nat) (hb : base ≤ w.heap.size) : Sam (w.alloc (.cells (madeCells #[.pointer none] 5) 150)) base (.slice (some ⟨w.heap.size, 0, none⟩) 0 5) [] [] := by
  have h := own_made w base 150 (madeCells #[.pointer none] 5) hb (by rw [size_madeCells]; decide)
  rw [size_madeCells] at h
  exact ⟨h, rfl, fun j hj => absurd hj (Nat.not_lt_zero _)⟩
theorem vic_made (w : World) (base : Nat) (hb : base ≤ w.heap.size) : Vic (w.alloc (.cells (madeCells #[.pointer none] 0) 120)) base (.slice (some ⟨w.heap.size, 0, none⟩) 0 0) [] [] := by
  have h := own_made w base 120 (madeCells #[.pointer none] 0) hb (by rw [size_madeCells]; decide)
  rw [size_madeCells] at h
  exact ⟨h, rfl, fun j hj => absurd hj (Nat.not_lt_zero _)⟩
theorem total_le (C D : Nat → Option Int) (h : ∀ k, 0 ≤ (D k).getD 0 ∧ (D k).getD 0 ≤ (C k).getD 0) : ∀ n, 0 ≤ total D n ∧ total D n ≤ total C n
  | 0 => ⟨Int.le_refl _, Int.le_refl _⟩
  | n + 1 => by
    have := total_le C D h n
    have := h n
    unfold total
    omega
theorem okA_rem {C : Nat → Option Int} (h : OkA C) (gs : List (Nat × Int)) : OkA (remL C gs) := by
  have hv : ∀ k, 0 ≤ (remL C gs k).getD 0 ∧ (remL C gs k).getD 0 ≤ (C k).getD 0 := fun k => by
    have := h.val k
    rw [remL_is]
    split
    · simp; omega
    · omega
  refine ⟨fun k => by have := hv k; have := h.val k; omega, fun k hk => ?_, ?_⟩
  · rw [remL_is] at hk
    split at hk
    · cases hk
    · exact h.lt k hk
  · have := total_le C _ hv 16
    have := h.tot
    omega
theorem rem_none {C : Nat → Option Int} (gs : List (Nat × Int)) {k : Nat} (h : C k = none) : remL C gs k = none := by
  rw [remL_is]
  split
  · rfl
  · exact h
theorem rem_some {C : Nat → Option Int} (gs : List (Nat × Int)) {k : Nat} {c : Int} (h : remL C gs k = some c) : C k = some c := by
  rw [remL_is] at h
  split at h
  · cases h
  · exact h
theorem Sam.shape {w : World} {base : Nat} {v : Value} {us : List Nat} {qs : List (Nat × Int)} (h : Sam w base v us qs) (h0 : 0 < us.length) : ∃ g cap, v = .slice (some ⟨g, 0, none⟩) us.length cap ∧ base ≤ g ∧ us.length ≤ cap := by
  rcases h.row.2 with ⟨_, hx⟩ | ⟨g, cap, cur, hv, hb, _, hcap, _⟩
  · have hx' : us = [] := by simpa using hx
    rw [hx'] at h0
    simp at h0
  · exact ⟨g, cap, hv, hb, hcap⟩
theorem Sam.cell {w : World} {base g m cap : Nat} {us : List Nat} {qs : List (Nat × Int)} (h : Sam w base (.slice (some ⟨g, 0, none⟩) m cap) us qs) {j : Nat} (hj : j < us.length) : w.cell? ⟨g, j, none⟩ = some (ptrV (us.getD j 0)) := by
  rcases h.row.2 with ⟨hx, _⟩ | ⟨g', cap', cur, hv, hb, hg, hnc, hcm, hsz, htake⟩
  · simp at hx
  · simp at hv
    obtain ⟨rfl, rfl, rfl⟩ := hv
    have hA : At w g (.cells cur 150 (0, 0)) := hg
    have h1 := hA.cell j
    rw [h1]
    have e1 : cur[j]? = cur.toList[j]? := by simp
    have e2 : cur.toList[j]? = (cur.toList.take us.length)[j]? := by rw [List.getElem?_take_of_lt hj]
    rw [Nat.mul_one] at htake
    rw [e1, e2, htake]
    simp [List.getD, hj]
theorem Sam.free {w : World} {base g m cap : Nat} {us : List Nat} {qs : List (Nat × Int)} (h : Sam w base (.slice (some ⟨g, 0, none⟩) m cap) us qs) (j : Nat) : w.frozen? ⟨g, j, none⟩ = false := by
  rcases h.row.2 with ⟨hx, _⟩ | ⟨g', cap', cur, hv, hb, hg, hnc, hcm, hsz, htake⟩
  · simp at hx
  · simp at hv
    obtain ⟨rfl, rfl, rfl⟩ := hv
    exact (show At w g (.cells cur 150 (0, 0)) from hg).free j
theorem Sam.key {w : World} {base : Nat} {v : Value} {us : List Nat} {qs : List (Nat × Int)} (h : Sam w base v us qs) {j : Nat} (hj : j < us.length) : w.cell? ⟨us.getD j 0, 0, none⟩ = some (.int .u64 ((qs.getD j (0, 0)).1 : Int)) := (h.at_ j hj).2.cell 0
theorem Sam.cost {w : World} {base : Nat} {v : Value} {us : List Nat} {qs : List (Nat × Int)} (h : Sam w base v us qs) {j : Nat} (hj : j < us.length) : w.cell? ⟨us.getD j 0, 1, none⟩ = some (.int .i64 (qs.getD j (0, 0)).2) := (h.at_ j hj).2.cell 1
/-- The measure of a round that evicts. -/
theorem meas_step (C : Nat → Option Int) (gs qs : List (Nat × Int)) (i k : Nat) (c : Int) (hi : i < qs.length) (hp : qs.getD i (0, 0) = (k, c)) (h5 : qs.length ≤ 5) (hk : k < 16) (h : gs.length + 6 * live (remL C gs) 16 + stale (remL C gs) qs ≤ 96) :
    (gs ++ [(k, c)]).length + 6 * live (remL C (gs ++ [(k, c)])) 16 + stale (remL C (gs ++ [(k, c)])) (dropAt qs (0, 0) i) ≤ 96 := by
  rw [remL_snoc]
  have hd := stale_drop (remL C gs) qs i hi
  rw [hp] at hd
  have e : (gs ++ [(k, c)]).length = gs.length + 1 := by simp
  rw [e]
  cases hl : remL C gs k with
  | none =>
    have e1 : putC (remL C gs) k none = remL C gs := by
      funext j
      unfold putC
      split
      · rename_i e; rw [e, hl]
      · rfl
    simp only [hl, Option.isNone_none, if_true] at hd
    simp only [e1]
    omega
  | some x =>
    have h1 := live_put (remL C gs) k (by rw [hl]; rfl) 16 hk
    have h2 := stale_le (putC (remL C gs) k none) (dropAt qs (0, 0) i)
    rw [dropAt_len] at h2
    simp only
    omega
theorem getD_mem' {α : Type} {xs : List α} {d : α} {j : Nat} (h : j < xs.length) : xs.getD j d ∈ xs := by
  simp only [List.getD, List.getElem?_eq_getElem h, Option.getD_some]
  exact List.getElem_mem h
/-- The length of a slice. -/
def lenV : Value → Nat
  | .slice _ n _ => n
  | _ => 0

set_option maxRecDepth 100000 in
set_option maxHeartbeats 800000 in
theorem polAdd_evict (RM RT : Nat → Prop) (Q T P b M n k : Nat) (c most : Int) (C : Nat → Option Int) (w : World) (hk : k < 16) (hn : n < 8589934592) (hm : 0 ≤ most ∧ most ≤ 65535) (hC : OkA C) (hc : 0 ≤ c ∧ c ≤ 255) (hcm : c ≤ most) (h0 : C k = none) (hroom : most < total C 16 + c) (hup : ∀ j, PoB RM RT P b j → j < w.heap.size) (h : Pol RM RT w Q T P b M n most C) :
    Calls Try.prog 73 #[.pointer (some ⟨Q, 0, none⟩), .int .u64 (k : Int), .int .i64 c] w (RetEv RM RT w Q T P b M n k c most C) := by
  have HUPP := Lib.hid hup
  clear hup
  have c1 : w.cell? ⟨Q, 1, none⟩ = some (.pointer (some ⟨P, 0, none⟩)) := h.head.cell 1
  have d0 : w.cell? ⟨P, 0, none⟩ = some (.int .i64 most) := h.spm.head.cell 0
  have hg := getMax_any P most w d0
  have htot := hC.tot
  have hup := spmUpd_none RM P b M n k c most C w hk h0 h.spm
  have hrm := spmRoom_any RM P b M n c most C w hm hc hC h.spm
  have hle : ¬ (most < c) := by omega
  have hge : ¬ ((0 : Int) ≤ most - (total C 16 + c)) := by omega
  have hrb : -70000 ≤ most - (total C 16 + c) := by omega
  generalize hrme : most - (total C 16 + c) = rm at hrm hge hrb
  have HUP := Lib.hid hup
  have HRM := Lib.hid hrm
  have HRE := Lib.hid hrme
  clear d0 hup hrm hrme
  go_enter Try.func73, Try.ntmps73
  go_wp2_with fail
  refine hg.mono ?_
  rintro e w2 ⟨rfl, hw2⟩
  have hw2' := hw2.symm
  subst hw2'
  go_wp2_with fail
  refine HUP.out.mono ?_
  rintro e w3 ⟨rfl, hw3⟩
  have hw3' := hw3.symm
  subst hw3'
  go_wp2_with fail
  refine HRM.out.mono ?_
  rintro e w4 ⟨rfl, q, hw4⟩
  have h4 : Pol RM RT w4 Q T P b M n most C := by rw [hw4]; exact h.chg (S := fun _ => False) ((Chg.refl _ _).drewN q) (fun _ _ h => h)
  have hc4 : Chg (PoB RM RT P b) w w4 := by rw [hw4]; exact (Chg.refl _ _).drewN q
  have e0 : w4.cell? ⟨Q, 0, none⟩ = some (.pointer (some ⟨T, 0, none⟩)) := h4.head.cell 0
  clear hw4 c1
  go_wp2_with fail
  refine (tinEst_any RT T (k : Int) w4 h4.tin).mono ?_
  rintro e w5 ⟨⟨hits, rfl, hh0, hh1⟩, hb5⟩
  have h5 := h4.new hb5
  have hc5 : Chg (PoB RM RT P b) w w5 := hc4.trans ((Chg.of_new (S := fun _ => False) hb5).mono (fun _ _ h => h.elim))
  clear e0 h4 hc4 hb5
  obtain ⟨iS, hiS, hzS, hsS, hyS⟩ := info_parts Try.info150
  obtain ⟨iV, hiV, hzV, hsV, hyV⟩ := info_parts Try.info120
  have hmk5 : ∀ w, (Instr.makeSlice 148 (.int .i64 0) (.int .i64 5)).run Try.prog w = .ok (.slice (some ⟨w.heap.size, 0, none⟩) 0 5) (w.alloc (.cells (madeCells #[.pointer none] 5) 150)) := fun w => by
    have := run_makeSlice (P := Try.prog) w 148 150 iS (.pointer none) Try.underlying148 hiS hzS .i64 .i64 0 5 (by omega) (by omega) (by rw [hsS]; decide) (by rw [hyS]; decide) (by omega)
    rw [hsS] at this
    exact this
  have hmk0 : ∀ w, (Instr.makeSlice 117 (.int .i64 0) (.int .i64 0)).run Try.prog w = .ok (.slice (some ⟨w.heap.size, 0, none⟩) 0 0) (w.alloc (.cells (madeCells #[.pointer none] 0) 120)) := fun w => by
    have := run_makeSlice (P := Try.prog) w 117 120 iV (.pointer none) Try.underlying117 hiV hzV .i64 .i64 0 0 (by omega) (by omega) (by rw [hsV]; decide) (by rw [hyV]; decide) (by omega)
    rw [hsV] at this
    exact this
  have hsz5 := hc5.size
  have hSam0 := (sam_made w5 w.heap.size hsz5).chg (S := fun _ => False) ((Chg.refl _ _).alloc (.cells (madeCells #[.pointer none] 0) 120)) (fun _ _ h => h) (fun _ _ h => h)
  have hVic0 := vic_made (w5.alloc (.cells (madeCells #[.pointer none] 5) 150)) w.heap.size (by simp; omega)
  have hPol0 := h5.chg (S := fun _ => False) (((Chg.refl _ _).alloc (.cells (madeCells #[.pointer none] 5) 150)).alloc (.cells (madeCells #[.pointer none] 0) 120)) (fun _ _ h => h)
  have hch0 := (hc5.alloc (.cells (madeCells #[.pointer none] 5) 150)).alloc (.cells (madeCells #[.pointer none] 0) 120)
  have hsze : (w5.alloc (.cells (madeCells #[.pointer none] 5) 150)).heap.size = w5.heap.size + 1 := by simp
  rw [hsze] at hVic0
  have hst0 : ([] : List (Nat × Int)).length + 6 * live (remL C []) 16 + stale (remL C []) [] ≤ 96 := by
    have h1 := live_le (remL C []) 16
    have h2 : stale (remL C []) [] = 0 := rfl
    rw [h2]
    simp only [List.length_nil]
    omega
  have hno : ∀ p ∈ ([] : List (Nat × Int)), C p.1 = some p.2 := fun p hp => by cases hp
  have HNO := Lib.hid hno
  clear hsze h5 hc5 hg h hno
  go_wp2
  clear hmk5 hmk0
  go_loopw [9, 11, 12] (fun rv v vv wr => ∃ (us : List Nat) (qs : List (Nat × Int)) (uv : List Nat) (gs : List (Nat × Int)), rv = .int .i64 (most - (total (remL C gs) 16 + c)) ∧ Pol RM RT wr Q T P b M n most (remL C gs) ∧ Sam wr w.heap.size v us qs ∧ us.length < 5 ∧ Hid (∀ p ∈ qs, C p.1 = some p.2) ∧
    Vic wr w.heap.size vv uv gs ∧ Hid (∀ p ∈ gs, C p.1 = some p.2) ∧ gs.length + 6 * live (remL C gs) 16 + stale (remL C gs) qs ≤ 96 ∧ Chg (PoB RM RT P b) w wr) (fun _ _ vv _ => 200 - lenV vv)
  case atStart => exact ⟨[], [], [], [], by have e := HRE.out; rw [← e]; rfl, hPol0, hSam0, by decide, HNO, hVic0, HNO, hst0, hch0⟩
  case round =>
    clear hPol0 hSam0 hVic0 hst0 hch0
    obtain ⟨us, qs, uv, gs, rfl, hPol, hSam, hu5, hqs, hVic, hgs, hmeas, hch⟩ := hrel
    have hokR := okA_rem hC gs
    have hkR := rem_none gs h0
    have htR := hokR.tot
    have q1 : wr.cell? ⟨Q, 1, none⟩ = some (.pointer (some ⟨P, 0, none⟩)) := hPol.head.cell 1
    by_cases hrr : most - (total (remL C gs) 16 + c) < 0
    · have hbu := HUPP.out b (.inl (.inr (.inl rfl)))
      have hszr := hch.size
      have m3 : wr.cell? ⟨P, 3, none⟩ = some (.map (some b)) := hPol.spm.head.cell 3
      have hfill := fill_any P b n (remL C gs) wr w.heap.size u11 us qs hbu hszr hu5 m3 hPol.spm.map hSam
      have HFI := Lib.hid hfill
      clear hfill m3
      go_wp2_with fail
      refine HFI.out.mono ?_
      rintro e w6 ⟨v1, us1, qs1, rfl, hS1, hl1, hq1, hem1, hc1, hn1⟩
      have hP6 : Pol RM RT w6 Q T P b M n most (remL C gs) := hPol.chg hc1 (fun j hj e => by
        rcases hj with rfl | hj
        · exact own_ne hSam.row hPol.head (by decide) e
        · have := HUPP.out j hj
          have := (hSam.row.lt j e).1
          omega)
      have hV6 := hVic.chg hc1 (fun j hj e => own_two hSam.row hVic.row (by decide) e hj) (fun j hj e => own_ne hSam.row (hVic.at_ j hj).2 (by decide) e)
      have hch6 : Chg (PoB RM RT P b) w w6 := hch.then hc1 (fun j hj e => by
        have := (hSam.row.lt j e).1
        omega)
      have hlen0 : 0 < (us ++ us1).length := by
        rcases Nat.eq_zero_or_pos (us ++ us1).length with e | e
        · exfalso
          have := live_none _ (hem1 (List.eq_nil_of_length_eq_zero e)) 16
          omega
        · exact e
      have hqs6 : ∀ p ∈ qs ++ qs1, C p.1 = some p.2 := fun p hp => by
        rcases List.mem_append.1 hp with h | h
        · exact hqs.out p h
        · exact rem_some gs (hq1 p h)
      have hst6 : gs.length + 6 * live (remL C gs) 16 + stale (remL C gs) (qs ++ qs1) ≤ 96 := by
        rw [stale_app _ _ _ hq1]
        exact hmeas
      generalize us ++ us1 = us2 at hS1 hl1 hlen0
      generalize qs ++ qs1 = qs2 at hS1 hqs6 hst6
      clear hPol hSam hVic hqs hmeas hch hem1 hq1 hc1 hn1 hszr HFI q1
      obtain ⟨g, cap, rfl, hgb, hcap⟩ := hS1.shape hlen0
      have hle2 := hS1.len
      have HQS := Lib.hid hqs6
      have HTR := Lib.hid htR
      have HL2 := Lib.hid hle2
      clear hqs6 htR hle2
      generalize hLe : us2.length = L at hl1 hlen0 HL2 hcap hS1 ⊢
      go_wp2
      go_loopw [13, 14, 15, 16, 82] (fun v13 v14 v15 v16 v82 wr => ∃ (i mk mi : Nat) (mh mc : Int), v82 = .int .i64 (i : Int) ∧ v13 = .int .u64 (mk : Int) ∧ v14 = .int .i64 mh ∧ v15 = .int .i64 (mi : Int) ∧ v16 = .int .i64 mc ∧ i ≤ L ∧ Chg (fun _ => False) w6 wr ∧
        Hid ((i = 0 ∧ mh = 9223372036854775807) ∨ (mi < L ∧ mh ≤ 256 ∧ qs2.getD mi (0, 0) = (mk, mc)))) (fun _ _ _ _ v82 _ => L - (intOf v82).toNat)
      case atStart => exact ⟨0, 0, 0, _, _, rfl, rfl, rfl, rfl, rfl, Nat.zero_le _, Chg.refl _ _, Lib.hid (.inl ⟨rfl, rfl⟩)⟩
      case round =>
        obtain ⟨i, mk, mi, mh, mc, rfl, rfl, rfl, rfl, rfl, hiL, hbw, hmin⟩ := hrel
        have hTr : Tin RT wr T := hP6.tin.chg hbw (fun _ _ h => h)
        by_cases hlt : i < L
        · have hSr := hS1.chg hbw (fun _ _ h => h) (fun _ _ h => h)
          have q0 : wr.cell? ⟨Q, 0, none⟩ = some (.pointer (some ⟨T, 0, none⟩)) := hbw.cell (p := ⟨Q, 0, none⟩) (hP6.head.cell 0) (fun h => h)
          have s1 := hSr.cell (j := i) (by omega)
          have s2 := hSr.key (j := i) (by omega)
          have s3 := hSr.cost (j := i) (by omega)
          generalize us2.getD i 0 = u at s1 s2 s3
          generalize hpe : qs2.getD i (0, 0) = p at s2 s3
          obtain ⟨pk, pc⟩ := p
          change wr.cell? ⟨g, i, none⟩ = some (.pointer (some ⟨u, 0, none⟩)) at s1
          change wr.cell? ⟨u, 0, none⟩ = some (.int .u64 (pk : Int)) at s2
          change wr.cell? ⟨u, 1, none⟩ = some (.int .i64 pc) at s3
          have hest : ∀ W, Chg (fun _ => False) wr W → Calls Try.prog 89 #[.pointer (some ⟨T, 0, none⟩), .int .u64 (pk : Int)] W fun e w' => (∃ v : Int, e = .returned (.int .i64 v) ∧ 0 ≤ v ∧ v ≤ 256) ∧ Chg (fun _ => False) W w' := fun W hW =>
            (tinEst_any RT T (pk : Int) W (hTr.chg hW (fun _ _ h => h))).mono (fun e w' h => ⟨h.1, Chg.of_new h.2⟩)
          have HEST := Lib.hid hest
          have HPE := Lib.hid hpe
          have i1 : (i : Int) < (L : Int) := by omega
          have i2 : (0 : Int) ≤ (i : Int) := by omega
          clear hest hSr hTr hpe
          go_wp2_with fail
          go_region_held3 (fun w' => w'.cell? ⟨Q, 0, none⟩ = some (.pointer (some ⟨T, 0, none⟩)) ∧ w'.cell? ⟨u, 0, none⟩ = some (.int .u64 (pk : Int)) ∧ w'.cell? ⟨u, 1, none⟩ = some (.int .i64 pc)) (first | go_keep | (exact ⟨hc5.cell q0 (fun h => h), hc5.cell s2 (fun h => h), hc5.cell s3 (fun h => h)⟩))
            ((go_at_call 89; refine (HEST.out _ (by exact ⟨rfl, rfl, rfl, Nat.le_refl _, fun _ _ _ => rfl⟩)).mono ?_; rintro e w5 ⟨⟨h1, rfl, hh2, hh3⟩, hc5⟩))
          have hc45 : Chg (fun _ => False) wr w5 := ⟨hc5.os, hc5.tape, hc5.output, hc5.size, hc5.block⟩
          have t2 := hc45.cell s2 (fun h => h)
          have t3 := hc45.cell s3 (fun h => h)
          have hc55 := hbw.trans hc45
          clear q0 s1 s2 s3 HEST hc5 hc45 hbw
          by_cases hmm : h1 < mh
          · go_wp2_with fail
            go_quiet (fail)
            go_wp2
            go_roundw
            case rel => exact ⟨i + 1, pk, i, h1, pc, by go_num, rfl, rfl, rfl, rfl, by omega, hc55.drewN _, Lib.hid (.inr ⟨hlt, hh3, HPE.out⟩)⟩
            case measure => simp [intOf]; omega
          · go_wp2
            go_roundw
            case rel => 
              refine ⟨i + 1, mk, mi, mh, mc, by go_num, rfl, rfl, rfl, rfl, by omega, hc55, Lib.hid ?_⟩
              rcases hmin.out with ⟨_, h⟩ | h
              · omega
              · exact .inr h
            case measure => simp [intOf]; omega
        · have hiE : i = L := by omega
          have hmin' : mi < L ∧ mh ≤ 256 ∧ qs2.getD mi (0, 0) = (mk, mc) := by
            rcases hmin.out with ⟨h, _⟩ | h
            · omega
            · exact h
          obtain ⟨hmiL, hmh, hmp⟩ := hmin'
          have hPr := hP6.chg hbw (fun _ _ h => h)
          have hVr := hV6.chg hbw (fun _ _ h => h) (fun _ _ h => h)
          have hSr := hS1.chg hbw (fun _ _ h => h) (fun _ _ h => h)
          have hcr := hch6.trans (hbw.mono (fun _ _ h => h.elim))
          clear hmin hP6 hV6 hS1 hch6 hbw hTr
          by_cases hrej : hits < mh
          · have q3 : wr.cell? ⟨Q, 3, none⟩ = some (.pointer (some ⟨M, 0, none⟩)) := hPr.head.cell 3
            go_wp2_with fail
            refine (metAdd_any RM M 8 k 1 wr (by omega) (by omega) hPr.spm.met).mono ?_
            rintro e w7 ⟨rfl, hm7, hc7⟩
            have h7 := hPr.met_turned hm7 hc7
            have hV7 := hVr.chg hc7 (fun j hj e => by have := HUPP.out j (.inl (.inr (.inr e))); have := (hVr.row.lt j hj).1; omega) (fun j hj e => by have := HUPP.out _ (.inl (.inr (.inr e))); have := (hVr.at_ j hj).1; omega)
            have hch7 : Chg (PoB RM RT P b) w w7 := hcr.trans (hc7.mono (fun _ _ e => .inl (.inr (.inr e))))
            clear q3
            go_wp2
            go_returns
            exact ⟨_, uv, gs, n, false, rfl, hV7, hgs.out, by omega, by omega, h7, fun h => (by cases h), hch7⟩
          · have q1 : wr.cell? ⟨Q, 1, none⟩ = some (.pointer (some ⟨P, 0, none⟩)) := hPr.head.cell 1
            have hmem : (mk, mc) ∈ qs2 := by
              rw [← hmp]
              exact getD_mem' (by rw [← HL2.out]; exact hmiL)
            have hCk : C mk = some mc := HQS.out _ hmem
            have hmk : mk < 16 := hC.lt mk (by rw [hCk]; rfl)
            go_wp2_with fail
            refine (spmDel_any RM P b M n mk most (remL C gs) wr hmk hokR hPr.spm).mono ?_
            rintro e w7 ⟨rfl, hs7, hc7⟩
            have h7 := hPr.spm_turned hs7 hc7
            rw [← remL_snoc C gs (mk, mc)] at h7
            have hV7 := hVr.chg hc7 (fun j hj e => by have := HUPP.out j (.inl e); have := (hVr.row.lt j hj).1; omega) (fun j hj e => by have := HUPP.out _ (.inl e); have := (hVr.at_ j hj).1; omega)
            have hS7 := hSr.chg hc7 (fun j hj e => by have := HUPP.out j (.inl e); have := (hSr.row.lt j hj).1; omega) (fun j hj e => by have := HUPP.out _ (.inl e); have := (hSr.at_ j hj).1; omega)
            have hch7 : Chg (PoB RM RT P b) w w7 := hcr.trans (hc7.mono (fun _ _ e => .inl e))
            clear q1 hPr hVr hSr hs7 hc7 hcr
            obtain ⟨l, rfl⟩ : ∃ l, L = l + 1 := ⟨L - 1, by omega⟩
            have s1 := hS7.cell (j := l) (by omega)
            have s2 := hS7.cell (j := mi) (by omega)
            have f2 := hS7.free mi
            have i1 : (0 : Int) ≤ (l : Int) := by omega
            have i2 : (l : Int) < (l : Int) + 1 := by omega
            have i3 : (0 : Int) ≤ (mi : Int) := by omega
            have i4 : (mi : Int) < (l : Int) + 1 := by omega
            have i5 : (l : Int) ≤ (cap : Int) := by omega
            have hd : Sam (w7.setCell ⟨g, mi, none⟩ (ptrV (us2.getD l 0))) w.heap.size (.slice (some ⟨g, 0, none⟩) l cap) (dropAt us2 0 mi) (dropAt qs2 (0, 0) mi) := hS7.drop (by omega) hmiL
            have hset : ∀ p, Chg (fun j => j = g) w7 (w7.setCell ⟨g, mi, none⟩ p) := fun p => (Chg.refl (fun j => j = g) w7).setCell (p := ⟨g, mi, none⟩) (fun _ => rfl) p
            have hvs : ∀ p, Vic (w7.setCell ⟨g, mi, none⟩ p) w.heap.size u12 uv gs := fun p =>
              hV7.chg (hset p) (fun j hj e => own_two hS7.row hV7.row (by decide) rfl (by rw [hj, e])) (fun j hj e => own_ne hS7.row (hV7.at_ j hj).2 (by decide) (by rw [e]; rfl))
            have hps : ∀ p, Pol RM RT (w7.setCell ⟨g, mi, none⟩ p) Q T P b M n most (remL C (gs ++ [(mk, mc)])) := fun p =>
              h7.chg (hset p) (fun j hj e => by
                rcases hj with rfl | hj
                · exact own_ne hS7.row h7.head (by decide) (by rw [e]; rfl)
                · have := HUPP.out j hj
                  omega)
            have hcs : ∀ p, Chg (PoB RM RT P b) w (w7.setCell ⟨g, mi, none⟩ p) := fun p =>
              hch7.then (hset p) (fun j hj e => by omega)
            have hsz7 := hch7.size
            have hrow12 := hV7.row
            have huv7 : uv.length ≤ 96 := by
              have := hV7.len
              omega
            generalize us2.getD l 0 = ul at s1 hd
            generalize us2.getD mi 0 = um at s2
            have hd' := hd
            have hvs' := hvs (ptrV ul)
            have hps' := hps (ptrV ul)
            have hcs' := hcs (ptrV ul)
            have HD7 := Lib.hid hd'
            have HV7 := Lib.hid hvs'
            have HP7 := Lib.hid hps'
            have HC7 := Lib.hid hcs'
            clear hset hd hvs hps hcs hd' hvs' hps' hcs' hS7 h7 hV7 hch7
            change w7.cell? ⟨g, l, none⟩ = some (.pointer (some ⟨ul, 0, none⟩)) at s1
            change w7.cell? ⟨g, mi, none⟩ = some (.pointer (some ⟨um, 0, none⟩)) at s2
            go_wp2_with (at_builtin; refine wpList_append_own_at _ rfl _ _ 117 rfl w.heap.size 120 iV (.pointer none) 1 8 Try.underlying117 hiV hzV hsV hyV rfl (by decide) _ _ _ rfl ((HV7.out.row.alloc _).alloc _) ⟨w7.heap.size + 1, 0, none⟩ 1 1 [ptrV w7.heap.size] rfl rfl ?c1 ?c2 ?c3 ?c4 ?c5 ?_)
            case c1 =>
              intro j u hu
              have hj : j = 0 := by have := (List.getElem?_eq_some_iff.1 hu).1; simp at this; omega
              subst hj
              have h := (At.new ((w7.setCell ⟨g, mi, none⟩ (ptrV ul)).alloc (.cells #[.int .u64 (mk : Int), .int .u64 0, .int .i64 0, .int .i64 mc] 122)) (.cells #[.pointer (some ⟨w7.heap.size, 0, none⟩)] 120)).cell 0
              rw [Addr.add_lit]
              simp at hu h ⊢
              rw [← hu]
              exact h
            case c2 => intro u hu; simp at hu; subst hu; rfl
            case c3 => unfold maxLen; omega
            case c4 => omega
            case c5 => simp; omega
            intro v2 w3 hown3 hgrow3 _ hblk3
            have hcA : Chg (fun j => u12.ownBlock = some j) (w7.setCell ⟨g, mi, none⟩ (ptrV ul)) w3 := (((Chg.refl _ _).alloc _).alloc _).trans (Chg.of_grown hgrow3 (fun j e _ => e))
            have hnew : At w3 w7.heap.size (.cells #[.int .u64 (mk : Int), .int .u64 0, .int .i64 0, .int .i64 mc] 122 (0, 0)) := by
              have h1 := (At.new (w7.setCell ⟨g, mi, none⟩ (ptrV ul)) (.cells #[.int .u64 (mk : Int), .int .u64 0, .int .i64 0, .int .i64 mc] 122 (0, 0))).alloc (.cells #[.pointer (some ⟨w7.heap.size, 0, none⟩)] 120)
              rw [World.size_setCell] at h1
              refine at_grown hgrow3 h1 (fun e => ?_)
              have := (HV7.out.row.lt _ e).2
              rw [World.size_setCell] at this
              omega
            have hV3 := HV7.out.snoc mk mc hsz7 hcA hnew hown3
            have hS3 := HD7.out.chg hcA (fun j hj e => own_two HD7.out.row HV7.out.row (by decide) hj e) (fun j hj e => own_ne HV7.out.row (HD7.out.at_ j hj).2 (by decide) e)
            have hP3 := HP7.out.chg hcA (fun j hj e => by
              rcases hj with rfl | hj
              · exact own_ne HV7.out.row HP7.out.head (by decide) e
              · have := HUPP.out j hj
                have := (HV7.out.row.lt j e).1
                omega)
            have hch3 : Chg (PoB RM RT P b) w w3 := HC7.out.then hcA (fun j hj e => by
              have := (HV7.out.row.lt j e).1
              omega)
            clear hgrow3 hblk3 hcA hnew HD7 HV7 HP7 HC7 s1 s2 f2
            have hmeas := meas_step C gs qs2 mi mk mc (by rw [← HL2.out]; exact hmiL) hmp (by rw [← HL2.out]; exact hl1) hmk hst6
            have hqs3 : ∀ p ∈ dropAt qs2 (0, 0) mi, C p.1 = some p.2 := fun p hp => HQS.out p (dropAt_mem (by rw [← HL2.out]; exact hmiL) hp)
            have hgs3 : ∀ p ∈ gs ++ [(mk, mc)], C p.1 = some p.2 := fun p hp => by
              rcases List.mem_append.1 hp with h | h
              · exact hgs.out p h
              · simp at h
                subst h
                exact hCk
            have hdl : (dropAt us2 0 mi).length < 5 := by rw [dropAt_len, hLe]; omega
            have hm2 : lenV u12 = uv.length := by
              obtain ⟨A, cc, e, _⟩ := own_vls hrow12
              rw [e]; rfl
            have hm3 : lenV v2 = uv.length + 1 := by
              obtain ⟨A, cc, e, _⟩ := own_vls hown3
              rw [e]; rfl
            have HM := Lib.hid (show 200 - lenV v2 < 200 - lenV u12 by rw [hm2, hm3]; omega)
            have HQ3 := Lib.hid hqs3
            have HG3 := Lib.hid hgs3
            have HDL := Lib.hid hdl
            have HME := Lib.hid hmeas
            generalize dropAt us2 0 mi = us3 at hS3 HDL
            generalize dropAt qs2 (0, 0) mi = qs3 at hS3 HQ3 HME
            generalize gs ++ [(mk, mc)] = gs3 at hV3 hP3 HG3 HME
            generalize uv ++ [w7.heap.size] = uv3 at hV3
            have q1 : w3.cell? ⟨Q, 1, none⟩ = some (.pointer (some ⟨P, 0, none⟩)) := hP3.head.cell 1
            have hrm3 := spmRoom_any RM P b M n c most (remL C gs3) w3 hm hc (okA_rem hC gs3) hP3.spm
            clear hqs3 hgs3 hdl hmeas hm2 hm3 hown3 hrow12
            go_wp2_with fail
            refine hrm3.mono ?_
            rintro e w8 ⟨rfl, q8, rfl⟩
            clear q1 hrm3
            go_wp2
            go_roundw
            case rel => exact ⟨us3, qs3, uv3, gs3, rfl, hP3.chg ((Chg.refl (fun _ => False) _).drewN q8) (fun _ _ h => h), hS3.chg ((Chg.refl (fun _ => False) _).drewN q8) (fun _ _ h => h) (fun _ _ h => h), HDL.out, HQ3, hV3.chg ((Chg.refl (fun _ => False) _).drewN q8) (fun _ _ h => h) (fun _ _ h => h), HG3, HME.out, hch3.drewN q8⟩
            case measure => exact HM.out
    · have hrr' : 0 ≤ most - (total (remL C gs) 16 + c) := by omega
      have hfit : total (remL C gs) 16 + c ≤ most := by omega
      have HFIT := Lib.hid hfit
      generalize hD : remL C gs = D at hPol hokR hkR htR hrr hrr' hfit
      have HD := Lib.hid hD
      clear hfit hD
      go_wp2_with fail
      refine (spmAdd_any RM P b M n k c most D wr hk hn hokR hc hkR hPol.spm).mono ?_
      rintro e w6 ⟨rfl, hs6, hc6⟩
      have h6 := hPol.spm_turned hs6 hc6
      have hV6 := hVic.chg hc6 (fun j hj e => by have := HUPP.out j (.inl e); have := (hVic.row.lt j hj).1; omega) (fun j hj e => by have := HUPP.out _ (.inl e); have := (hVic.at_ j hj).1; omega)
      have e3 : w6.cell? ⟨Q, 3, none⟩ = some (.pointer (some ⟨M, 0, none⟩)) := h6.head.cell 3
      clear q1
      go_wp2_with fail
      refine (metAdd_any RM M 5 k _ w6 (by omega) (by omega) h6.spm.met).mono ?_
      rintro e w7 ⟨rfl, hm7, hc7⟩
      have h7 := h6.met_turned hm7 hc7
      have hV7 := hV6.chg hc7 (fun j hj e => by have := HUPP.out j (.inl (.inr (.inr e))); have := (hV6.row.lt j hj).1; omega) (fun j hj e => by have := HUPP.out _ (.inl (.inr (.inr e))); have := (hV6.at_ j hj).1; omega)
      have hch7 : Chg (PoB RM RT P b) w w7 := (hch.trans (hc6.mono (fun _ _ e => .inl e))).trans (hc7.mono (fun _ _ e => .inl (.inr (.inr e))))
      clear e3
      go_wp2
      go_returns
      exact ⟨_, uv, gs, n + 1, true, rfl, hV7, hgs.out, by omega, Nat.le_refl _, by rw [HD.out]; exact h7, fun _ => HFIT.out, hch7⟩
end Go.Proofs.Ytoddnjpbmefgnaa
