/-
  The walk of FnAdmitted.
-/
import Derived.Test.YtoddnjpbmefgnaaAdmA
import Derived.Test.YtoddnjpbmefgnaaNever
import Derived.Deep.CutBlock
namespace Go.Proofs.Ytoddnjpbmefgnaa
open Go.RowKit

theorem range_castL (k : Nat) : (castL (List.range (k + 1))).map (Value.int .u64) = (castL (List.range k)).map (Value.int .u64) ++ [.int .u64 (k : Int)] := by simp [castL, List.range_succ]
theorem stp_in (xs cs : List Nat) (m : Nat) (hm : m ≤ cs.length) (hc : ∀ x ∈ cs, x ≤ 255) : ∀ p ∈ stpL xs (castL cs) m, p.1 < 16 ∧ 0 ≤ p.2 ∧ p.2 ≤ 255 := fun p hp => by
  simp only [stpL, List.mem_map, List.mem_range] at hp
  obtain ⟨i, hi, rfl⟩ := hp
  have h := hc _ (getD_mem (show i < cs.length by omega))
  refine ⟨Nat.mod_lt _ (by decide), ?_⟩
  rw [castL_getD]
  omega

/-- A pair that is no longer live came before. -/
theorem again_is {C : Nat → Option Int} {gone : List (Nat × Int)} (hg : ∀ p ∈ gone, C p.1 = some p.2) {j gk : Nat} {gc : Int} (hC : C gk = some gc) (hn : remL C (gone.take j) gk = none) : (gone.take j).any (fun e => e == (gk, gc)) = true := by
  rw [remL_is] at hn
  split at hn
  · rename_i h
    obtain ⟨p, hp, he⟩ := List.mem_map.1 h
    have h1 := hg p (List.mem_of_mem_take hp)
    rw [he, hC] at h1
    injection h1 with h1
    exact List.any_eq_true.2 ⟨p, hp, by obtain ⟨x, y⟩ := p; simp only at he h1; subst he; subst h1; simp⟩
  · rw [hC] at hn
    cases hn
theorem put_same {E : Nat → Option Int} {k : Nat} (h : E k = none) : putC E k none = E := by
  funext j
  unfold putC
  split
  · rename_i e; rw [e, h]
  · rfl

set_option maxRecDepth 100000 in
set_option maxHeartbeats 3200000 in
theorem adm_law (mo : Nat) (a b c d : Int) (w : World) (hmo : mo ≤ 255) (A5 : Option Addr) (n5 c5 : Nat) (ps : List Nat) (hZ5 : Lst .u8 w w.heap.size A5 n5 (castL ps)) (hp5 : ∀ x ∈ ps, x ≤ 255)
    (A6 : Option Addr) (n6 c6 : Nat) (ks : List Nat) (hZ6 : Lst .u8 w w.heap.size A6 n6 (castL ks)) (hk6 : ∀ x ∈ ks, x ≤ 255)
    (A7 : Option Addr) (n7 c7 : Nat) (cs : List Nat) (hZ7 : Lst .u8 w w.heap.size A7 n7 (castL cs)) (hc7 : ∀ x ∈ cs, x ≤ 255) :
    Calls Try.prog 9 #[.int .u8 (mo : Int), .int .u64 a, .int .u64 b, .int .u64 c, .int .u64 d, .slice A5 n5 c5, .slice A6 n6 c6, .slice A7 n7 c7] w fun e w' => e = .returned (.bool true) ∧ Below w.heap.size w w' := by
  by_cases h5 : 2147483647 < n5
  · go_enter Try.func9, Try.ntmps9
    go_wp2
    go_returns
    exact ⟨rfl, Below.refl _ _⟩
  by_cases h6 : 2147483647 < n6
  · go_enter Try.func9, Try.ntmps9
    go_wp2
    go_returns
    exact ⟨rfl, Below.refl _ _⟩
  by_cases h7 : 2147483647 < n7
  · go_enter Try.func9, Try.ntmps9
    go_wp2
    go_returns
    exact ⟨rfl, Below.refl _ _⟩
  obtain ⟨i0, hi, hz0, hz1, hz2⟩ := info_parts Try.info23
  obtain ⟨iP, hiP, hzP0, hzP1, hzP2⟩ := info_parts Try.info51
  obtain ⟨m, hm⟩ : ∃ m, m = min n6 n7 := ⟨_, rfl⟩
  have hmn : m ≤ n6 := by omega
  have hmn' : m ≤ n7 := by omega
  have hme : ∀ k : Nat, k = m → (k : Int) < n6 → ¬ (k : Int) < n7 := fun k e h => by omega
  have HME := Lib.hid hme
  have hl6 := lst_len hZ6
  have hl7 := lst_len hZ7
  have HL6 := Lib.hid hl6
  have HL7 := Lib.hid hl7
  have HP5 := Lib.hid hp5
  have HK6 := Lib.hid hk6
  have HC7 := Lib.hid hc7
  clear hm hme hl6 hl7 hp5 hk6 hc7
  go_enter Try.func9, Try.ntmps9
  go_wp2
  have hown51 := World.ownsRow_lit (base := w.heap.size) (e := 51) (size := 2) w #[] 0 (Nat.le_refl _) (Nat.zero_le _) rfl
  have hown23 := World.ownsRow_lit (base := w.heap.size) (e := 23) (size := 1) (w.alloc (.cells #[] 51)) #[] 0 (by simp) (Nat.zero_le _) rfl
  rw [World.size_alloc] at hown23
  have hb0 := ((Below.refl w.heap.size w).alloc (Nat.le_refl _) (.cells #[] 51)).alloc (by simp) (.cells #[] 23)
  have hown51' := hown51.alloc (.cells #[] 23)
  clear hown51
  go_loopg [18, 19] 16 (fun gl v i wr => ∃ k : Nat, k ≤ 16 ∧ gl = 16 - k ∧ i = .int .u64 (k : Int) ∧ wr.ownsRow w.heap.size 23 1 v k ((castL (List.range k)).map (Value.int .u64)) ∧ wr.ownsRow w.heap.size 51 2 (.slice (some ⟨w.heap.size, 0, none⟩) 0 0) 0 (flatP []) ∧ Below w.heap.size w wr)
  case atStart => exact ⟨0, Nat.zero_le _, rfl, rfl, hown23, hown51', hb0⟩
  case round => as_aux_lemma =>
    clear hown23 hown51' hb0
    obtain ⟨k, hk, hgl, rfl, hown, hst, hbel⟩ := hrel
    have hsz := hbel.size
    by_cases hlt : k < 16
    · have hcs := range_castL k
      have HS := Lib.hid hcs
      clear hcs
      go_wp2_with (at_builtin; refine wpList_append_own _ rfl _ _ 33 rfl w.heap.size 23 i0 (.int .u64 0) 1 8 Try.underlying33 hi hz0 hz1 hz2 rfl (by decide) _ _ _ rfl (hown.alloc _) ⟨wr.heap.size, 0, none⟩ 1 1 [.int .u64 (k : Int)] rfl rfl ?c1 ?c2 ?c3 ?c4 ?c5 ?_)
      case c1 => exact cell_one_new _ _ _
      case c2 => intro u hu; simp at hu; subst hu; rfl
      case c3 => unfold maxLen; omega
      case c4 => omega
      case c5 => simp; omega
      · intro v' w2 hown2 hgrow _
        have hb2 : Below w.heap.size w w2 := (hbel.alloc (by omega) _).grown hgrow (by simp; omega) (fun j hj => (hown.lt j hj).1)
        have hst2 := (((Chg.refl _ _).alloc _).trans (Chg.of_grown (S := fun j => u18.ownBlock = some j) hgrow (fun j e _ => e))).owns hst (fun j hj e => own_two' hown hst (by decide) e hj)
        clear hgrow hown hst
        go_wp2
        go_roundg (16 - (k + 1))
        case measure => omega
        case rel => exact ⟨k + 1, by omega, rfl, by go_num, by rw [HS.out]; exact hown2, hst2, hb2⟩
    · obtain rfl : k = 16 := by omega
      clear hgl
      go_upto_block 2 with fail
      go_cut [17] from 65 to 91 (fun v17 wx => wx.ownsRow w.heap.size 51 2 v17 m (flatP (stpL ks (castL cs) m)) ∧ wx.ownsRow w.heap.size 23 1 u18 16 ((castL (List.range 16)).map (Value.int .u64)) ∧ Below w.heap.size w wx)
      case first => as_aux_lemma =>
        obtain ⟨wa, hwa⟩ : ∃ wa, wa = wr := ⟨_, rfl⟩
        rw [← hwa] at hown hst hbel ⊢
        clear hwa
        go_wp2_with fail
        go_loopg [17, 20] m (fun gl v i wl => ∃ k : Nat, k ≤ m ∧ gl = m - k ∧ i = .int .i64 (k : Int) ∧ wl.ownsRow w.heap.size 51 2 v k (flatP (stpL ks (castL cs) k)) ∧ wl.ownsRow w.heap.size 23 1 u18 16 ((castL (List.range 16)).map (Value.int .u64)) ∧ Below w.heap.size w wl)
        case atStart => exact ⟨0, Nat.zero_le _, rfl, rfl, hst, hown, hbel⟩
        case round => as_aux_lemma =>
          clear hown hst hbel
          obtain ⟨k, hk, hgl, rfl, hst, hown, hbel⟩ := hrel
          have hsz := hbel.size
          by_cases hlt : k < m
          · obtain ⟨b6, o6, rfl, hb6, hcell⟩ := lst_nat hZ6 (show k < n6 by omega)
            obtain ⟨b7, o7, rfl, hb7, hcell'⟩ := lst_nat hZ7 (show k < n7 by omega)
            have hxb := HK6.out _ (getD_mem (show k < ks.length by rw [HL6.out]; omega))
            have hyb := HC7.out _ (getD_mem (show k < cs.length by rw [HL7.out]; omega))
            have hstp := stpL_succ ks (castL cs) k
            rw [castL_getD] at hstp
            generalize ks.getD k 0 = x at hcell hxb hstp
            generalize cs.getD k 0 = y at hcell' hyb hstp
            have hcx : wr.cell? ⟨b6, o6 + k, none⟩ = some (.int .u8 (x : Int)) := (hbel.cell (p := ⟨b6, o6 + k, none⟩) hb6).trans hcell
            have hcy : wr.cell? ⟨b7, o7 + k, none⟩ = some (.int .u8 (y : Int)) := (hbel.cell (p := ⟨b7, o7 + k, none⟩) hb7).trans hcell'
            have HSTP := Lib.hid hstp
            clear hstp hcell hcell'
            have i0' : (0 : Int) ≤ (k : Int) := by omega
            have i1 : (k : Int) < (n6 : Int) := by omega
            have i2 : (k : Int) < (n7 : Int) := by omega
            have hlb6 : b6 < wr.heap.size := by omega
            have hlb7 : b7 < wr.heap.size := by omega
            have hB0 : ∀ (W2 w2 : World), W2.grownBy w2 u17.ownBlock → Chg (fun _ => False) (wr.alloc (.cells #[.int .u64 ((x % 16 : Nat) : Int), .int .i64 (y : Int)] 51)) W2 → Below w.heap.size w w2 := fun W2 w2 hg e =>
              ((hbel.alloc hsz _).trans (e.below (by simp; omega) (fun _ _ h => h))).grown hg (by have := e.size; simp at this; omega) (fun j hj => (hst.lt j hj).1)
            have hA0 : ∀ (W2 w2 : World), W2.grownBy w2 u17.ownBlock → Chg (fun _ => False) (wr.alloc (.cells #[.int .u64 ((x % 16 : Nat) : Int), .int .i64 (y : Int)] 51)) W2 → w2.ownsRow w.heap.size 23 1 u18 16 ((castL (List.range 16)).map (Value.int .u64)) := fun W2 w2 hg e =>
              ((((Chg.refl (fun _ => False) wr).alloc (.cells #[.int .u64 ((x % 16 : Nat) : Int), .int .i64 (y : Int)] 51)).trans e).mono (T := fun j => u17.ownBlock = some j) (fun _ _ h => h.elim) |>.trans (Chg.of_grown (S := fun j => u17.ownBlock = some j) hg (fun j e _ => e))).owns hown (fun j hj e => own_two' hst hown (by decide) e hj)
            have hO0 : ∀ W2 : World, Chg (fun _ => False) (wr.alloc (.cells #[.int .u64 ((x % 16 : Nat) : Int), .int .i64 (y : Int)] 51)) W2 → W2.ownsRow w.heap.size 51 2 u17 k (flatP (stpL ks (castL cs) k)) := fun W2 e => e.owns (hst.alloc _) (fun _ _ h => h)
            have hc0 : ∀ W2 : World, Chg (fun _ => False) (wr.alloc (.cells #[.int .u64 ((x % 16 : Nat) : Int), .int .i64 (y : Int)] 51)) W2 → W2.cell? ⟨wr.heap.size, 0, none⟩ = some (.int .u64 ((x % 16 : Nat) : Int)) := fun W2 e => e.cell ((At.new wr (.cells #[.int .u64 ((x % 16 : Nat) : Int), .int .i64 (y : Int)] 51)).cell 0) id
            have hc1 : ∀ W2 : World, Chg (fun _ => False) (wr.alloc (.cells #[.int .u64 ((x % 16 : Nat) : Int), .int .i64 (y : Int)] 51)) W2 → W2.cell? ⟨wr.heap.size, 1, none⟩ = some (.int .i64 (y : Int)) := fun W2 e => e.cell ((At.new wr (.cells #[.int .u64 ((x % 16 : Nat) : Int), .int .i64 (y : Int)] 51)).cell 1) id
            have hm1 : k + 1 ≤ maxLen := by unfold maxLen; omega
            have hm2 : (k + 1) * 16 ≤ 140737488355328 := by omega
            have e1 : IntKind.u64.wrap ((x : Int).tmod 16) = ((x % 16 : Nat) : Int) := by rw [Int.tmod_eq_emod_of_nonneg (by omega)]; exact (IntWalk.u64_in _ (by omega)).trans (by omega)
            have e2 : IntKind.i64.wrap (y : Int) = (y : Int) := IntWalk.i64_in _ (by omega)
            have HB := Lib.hid hB0
            have HA := Lib.hid hA0
            have HO := Lib.hid hO0
            have H0 := Lib.hid hc0
            have H1 := Lib.hid hc1
            have M1 := Lib.hid hm1
            have M2 := Lib.hid hm2
            clear hB0 hA0 hO0 hc0 hc1 hm1 hm2
            go_wp2_with fail
            go_region_held3 (fun w' => w'.cell? ⟨b6, o6 + k, none⟩ = some (.int .u8 (x : Int)) ∧ w'.cell? ⟨b7, o7 + k, none⟩ = some (.int .u8 (y : Int))) (first | go_keep | (exact ⟨(hb2.cell (p := ⟨b6, o6 + k, none⟩) hb6).trans ((hbel.cell (p := ⟨b6, o6 + k, none⟩) hb6).symm.trans hcx), (hb2.cell (p := ⟨b7, o7 + k, none⟩) hb7).trans ((hbel.cell (p := ⟨b7, o7 + k, none⟩) hb7).symm.trans hcy)⟩))
              ((refine step_append_pair (by rfl) _ _ 49 (by rfl) w.heap.size 51 iP (.agg #[.int .u64 0, .int .i64 0]) Try.underlying49 hiP hzP0 hzP1 hzP2 (by rfl) u17 k (stpL ks (castL cs) k) (by rfl) (by exact HO.out _ ⟨rfl, rfl, rfl, Nat.le_refl _, fun _ _ _ => rfl⟩) wr.heap.size (x % 16) (y : Int) (by rfl) (by exact H0.out _ ⟨rfl, rfl, rfl, Nat.le_refl _, fun _ _ _ => rfl⟩) (by exact H1.out _ ⟨rfl, rfl, rfl, Nat.le_refl _, fun _ _ _ => rfl⟩) M1.out M2.out (by simp; omega) ?_
                intro v' w2 hown2 hgrow
                have ha2 := HA.out _ w2 hgrow (by exact ⟨rfl, rfl, rfl, Nat.le_refl _, fun _ _ _ => rfl⟩)
                have hb2 := HB.out _ w2 hgrow (by exact ⟨rfl, rfl, rfl, Nat.le_refl _, fun _ _ _ => rfl⟩)))
            clear hgrow HB HA HO H0 H1 M1 M2
            go_wp2
            go_roundg (m - (k + 1))
            case measure => omega
            case rel => exact ⟨k + 1, by omega, rfl, by go_num, by rw [HSTP.out]; exact hown2, ha2, hb2⟩
          · have hke : k = m := by omega
            have HK := Lib.hid hke
            have hm' := HME.out k HK.out
            clear hke hgl
            go_wp2
            all_goals
              go_meet
              case rel =>
                have e := HK.out
                rw [← e]
                exact ⟨hst, hown, hbel⟩
      case rest => as_aux_lemma =>
        obtain ⟨hstc, hallc, hbc⟩ := hcut
        obtain ⟨As, cst, rfl, hprs, _⟩ := own_prs hstc
        obtain ⟨Aa, ca, rfl, hvls⟩ := own_vls hallc
        have hall := vls_lst hvls
        have hZ5c := (hZ5.below hbc).more hbc.size
        have hstin := stp_in ks cs m (by rw [HL7.out]; omega) HC7.out
        generalize stpL ks (castL cs) m = ss at hprs hstin
        have HSTI := Lib.hid hstin
        have hadm : ∀ (W : World) (A2 : Option Addr) (c2 : Nat), Lst .u64 W W.heap.size A2 n5 (castL ps) → Below wc.heap.size wc W → Calls Try.prog 23 #[.int .i64 (mo : Int), .agg #[.int .u64 a, .int .u64 b, .int .u64 c, .int .u64 d], .slice A2 n5 c2, .slice As m cst, .slice Aa 16 ca] W (RetTr W (mo : Int) ss) := fun W A2 c2 hL hW => by
          have := admitted_any (mo : Int) (seeds a b c d) W (by omega) A2 n5 c2 ps hL (by omega) HP5.out As m cst ss ((hprs.below hW).more hW.size) (by omega) HSTI.out Aa ca ((hall.below hW).more hW.size)
          rw [seedA_is] at this
          exact this
        have HADM := Lib.hid hadm
        have hkeys := keys0_any A5 n5 c5 ps wc hZ5c (by omega) HP5.out
        have HKEYS := Lib.hid hkeys
        clear hstc hallc hvls hall hZ5c hstin hadm hkeys hown hst hbel
        go_wp2_with fail
        refine HKEYS.out.mono ?_
        rintro e w3 ⟨A2, c2, rfl, hL2, _, hb3⟩
        go_wp2_with fail
        refine (HADM.out w3 A2 c2 hL2 hb3).mono ?_
        rintro e w4 ⟨A, n, cT, ts, Cf, rfl, htr, hrun, hss, hb4⟩
        have hnm : n = m := by
          have h1 := htr.1
          have h2 := hprs.1
          rw [← hss] at h2
          simp at h2
          omega
        subst hnm
        have hbc4 : Below wc.heap.size wc w4 := hb3.trans (hb4.mono hb3.size)
        have hbw4 : Below w.heap.size w w4 := hbc.trans (hbc4.mono hbc.size)
        have hprs4 := (hprs.below hbc4).more hbc4.size
        have hM0 := MapC.made w4
        have hbm : Below w4.heap.size w4 (w4.alloc (.map #[] 0)) := (Below.refl _ _).alloc (Nat.le_refl _) _
        obtain ⟨St, hS0, _, hSt⟩ := hrun
        rw [← hS0] at hM0
        have ht0 : total (St 0) 16 = 0 := by rw [hS0]; exact total_none 16
        have HT0 := Lib.hid ht0
        have HST := Lib.hid hSt
        have HSS := Lib.hid hss
        have htl := htr.1
        have HTL := Lib.hid htl
        clear hprs hL2 hb3 hb4 hbc hbc4 hS0 hSt hss htl HADM HKEYS ht0
        have hmm := @run_makeMap Try.prog
        go_wp2
        clear hmm
        go_loopg [23, 112] n (fun gl v i wl => ∃ k q : Nat, k ≤ n ∧ gl = n - k ∧ i = .int .i64 (k : Int) ∧ v = .int .i64 (total (St k) 16) ∧ q ≤ k ∧ MapC wl w4.heap.size q (St k) ∧ Below w4.heap.size w4 wl)
        case atStart => exact ⟨0, 0, Nat.zero_le _, rfl, rfl, by rw [HT0.out], Nat.le_refl _, hM0, hbm⟩
        case round => as_aux_lemma =>
          clear hM0 hbm
          obtain ⟨k, q, hk, hgl, rfl, rfl, hqk, hM, hbel⟩ := hrel
          by_cases hlt : k < n
          · have hlt' : k < ts.length := by rw [HTL.out]; exact hlt
            obtain ⟨⟨b1, o1, rfl, hb1, hcells⟩, ⟨Ag, cg, hgv, hgp, hgc⟩, ⟨Ah, ch, hhv, hhp, _⟩⟩ := htr.2 k hlt
            obtain ⟨b2, o2, rfl, hb2, hs0, hs1⟩ := hprs4.2 k hlt
            have hsay := HST.out k hlt'
            have hsk : ss.getD k (0, 0) = ((ts.getD k tz).key, (ts.getD k tz).cost) := by
              rw [← HSS.out]
              simp [List.getD, hlt']
            rw [hsk] at hs0 hs1
            generalize ts.getD k tz = t at hcells hgv hgp hgc hhv hhp hsay hs0 hs1
            generalize hSD : St (k + 1) = D0 at hsay
            have HSD := Lib.hid hSD
            clear hSD
            obtain ⟨key, cost, out, taken, gone, left, held, gv, hv⟩ := t
            simp only at hgv hgp hgc hhv hhp hs0 hs1
            have hhd : held = heldL D0 16 := hsay.held
            have hhl : held.length = 16 := by rw [hhd]; exact heldL_len _ _
            rw [hhl] at hhv hhp
            have HHD := Lib.hid hhd
            have HHL := Lib.hid hhl
            clear hhd hhl
            subst hgv
            subst hhv
            generalize St k = C at hM hsay
            have hkey : key < 16 := hsay.key
            have hcost : 0 ≤ cost ∧ cost ≤ 255 := hsay.cost
            have hout : (C key).isSome = out := hsay.out.symm
            have x0 : wr.cell? ⟨b1, o1 + k * 7, none⟩ = some (.int .u64 (key : Int)) := (hbel.cell (p := ⟨b1, o1 + k * 7, none⟩) hb1).trans (hcells 0 (by decide))
            have x1 : wr.cell? ⟨b1, o1 + k * 7 + 1, none⟩ = some (.int .i64 cost) := (hbel.cell (p := ⟨b1, o1 + k * 7 + 1, none⟩) hb1).trans (hcells 1 (by decide))
            have x2 : wr.cell? ⟨b1, o1 + k * 7 + 2, none⟩ = some (.bool out) := (hbel.cell (p := ⟨b1, o1 + k * 7 + 2, none⟩) hb1).trans (hcells 2 (by decide))
            have x3 : wr.cell? ⟨b1, o1 + k * 7 + 3, none⟩ = some (.bool taken) := (hbel.cell (p := ⟨b1, o1 + k * 7 + 3, none⟩) hb1).trans (hcells 3 (by decide))
            have x4 : wr.cell? ⟨b1, o1 + k * 7 + 4, none⟩ = some (.slice Ag gone.length cg) := (hbel.cell (p := ⟨b1, o1 + k * 7 + 4, none⟩) hb1).trans (hcells 4 (by decide))
            have x5 : wr.cell? ⟨b1, o1 + k * 7 + 5, none⟩ = some (.int .i64 left) := (hbel.cell (p := ⟨b1, o1 + k * 7 + 5, none⟩) hb1).trans (hcells 5 (by decide))
            have x6 : wr.cell? ⟨b1, o1 + k * 7 + 6, none⟩ = some (.slice Ah 16 ch) := (hbel.cell (p := ⟨b1, o1 + k * 7 + 6, none⟩) hb1).trans (hcells 6 (by decide))
            have y0 : wr.cell? ⟨b2, o2 + k * 2, none⟩ = some (.int .u64 (key : Int)) := (hbel.cell (p := ⟨b2, o2 + k * 2, none⟩) hb2).trans hs0
            have y1 : wr.cell? ⟨b2, o2 + k * 2 + 1, none⟩ = some (.int .i64 cost) := (hbel.cell (p := ⟨b2, o2 + k * 2 + 1, none⟩) hb2).trans hs1
            obtain ⟨tcs, htcs⟩ : ∃ tcs : Array Value, tcs = #[.int .u64 (key : Int), .int .i64 cost, .bool out, .bool taken, .slice Ag gone.length cg, .int .i64 left, .slice Ah 16 ch] := ⟨_, rfl⟩
            have hN := At.new wr (.cells tcs 56)
            have hM1 := hM.chg (S := fun _ => False) ((Chg.refl _ _).alloc (.cells tcs 56)) (fun h => h)
            have hlook := hM1.look (show key < 18446744073709551616 by omega)
            rw [hout] at hlook
            have hb1w := hbel.alloc hbel.size (.cells tcs 56)
            have hlb1 : b1 < wr.heap.size := Nat.lt_of_lt_of_le hb1 hbel.size
            have hlb2 : b2 < wr.heap.size := Nat.lt_of_lt_of_le hb2 hbel.size
            have hlM := hM.lt
            obtain ⟨c0, hc0⟩ : ∃ c0, c0 = (C key).getD 0 := ⟨_, rfl⟩
            have hc0b : 0 ≤ c0 ∧ c0 ≤ 255 := by rw [hc0]; exact hsay.okC.val key
            rw [← hc0] at hlook
            have htC := hsay.okC.tot
            have i1 : (0 : Int) ≤ (k : Int) := by omega
            have i2 : (k : Int) < (n : Int) := by omega
            have hkl : k < n := hlt
            have HSAY := Lib.hid hsay
            have HC0 := Lib.hid hc0
            have HOUT := Lib.hid hout
            have HM1 := Lib.hid hM1
            have HN := Lib.hid hN
            have HTCS := Lib.hid htcs
            rw [htcs] at hlook
            clear hcells hs0 hs1 hM1 hN hsay hc0 hout hM hsk htcs hlt'
            go_wp2_with fail
            go_quiet (fail)
            go_upto_if 148 with fail
            have hN1 := HN.out.drewN nq
            have hM2 := HM1.out.chg (S := fun _ => False) ((Chg.refl _ _).drewN nq) (fun h => h)
            have hb2w := below_drewN hb1w nq
            rw [HTCS.out] at hN1 hM2 hb2w
            have hTBm : wr.heap.size ≠ w4.heap.size := by omega
            have hTBl : w4.heap.size ≤ wr.heap.size := hbel.size
            generalize (wr.alloc (.cells #[.int .u64 (key : Int), .int .i64 cost, .bool out, .bool taken, .slice Ag gone.length cg, .int .i64 left, .slice Ah 16 ch] 56)).drewN nq = W1 at hN1 hM2 hb2w ⊢
            generalize wr.heap.size = TB at hN1 hTBm hTBl ⊢
            obtain ⟨C1, hC1⟩ : ∃ C1, C1 = if out = true then putC C key none else C := ⟨_, rfl⟩
            have HC1 := Lib.hid hC1
            have HM2 := Lib.hid hM2
            have t0 : W1.cell? ⟨TB, 0, none⟩ = some (.int .u64 (key : Int)) := hN1.cell 0
            clear x0 x1 x2 x3 x4 x5 x6 y0 y1 hlook hb1w hlb1 hlb2 hlM HM1 HN hC1 hM2
            go_cut [23] from 113 to 316 (fun v wx => v = .int .i64 (total C1 16) ∧ MapC wx w4.heap.size q C1 ∧ Chg (fun j => j = w4.heap.size) W1 wx)
            case first => as_aux_lemma =>
              cases out with
              | true =>
                have htp := total_put C key none 16 hkey
                have hCe : C1 = putC C key none := HC1.out
                have htt : total C 16 - c0 = total C1 16 := by rw [hCe, htp, HC0.out]; simp
                have HTT := Lib.hid htt
                have HCE := Lib.hid hCe
                obtain ⟨Dm, hDm, hh, hat⟩ := HM2.out
                have Hh := Lib.hid hh
                have Hat := Lib.hid hat
                have HDM := Lib.hid hDm
                clear htp hCe htt hh hat hDm
                go_wp2_with (at_delete; refine wpList_delete_own _ rfl _ _ 54 23 rfl 2 key23 Try.underlying54 _ w4.heap.size q Dm rfl HDM.out _ _ rfl (Maps.keyOf_int_mk Try.underlying23 (wf_u64_nat (show key < 18446744073709551616 by omega))) ?_; intro wd hownd hturnd)
                go_meet
                case rel => exact ⟨by rw [← HTT.out], by rw [HCE.out]; exact mapC_del Hh.out Hat.out hownd, Chg.of_grown hturnd.grown (fun j e _ => by cases e; rfl)⟩
              | false =>
                have hCe : C1 = C := HC1.out
                have HCE := Lib.hid hCe
                clear hCe
                go_wp2
                go_meet
                case rel => exact ⟨by rw [HCE.out], by rw [HCE.out]; exact HM2.out, Chg.refl _ _⟩
            case rest => as_aux_lemma =>
              obtain ⟨rfl, hM3, hc3⟩ := hcut
              have hN3 := hc3.at_ hN1 hTBm
              have hb3 : Below w4.heap.size w4 wc := hb2w.trans (hc3.below hb2w.size (fun j hj e => by omega))
              have hC1 := HC1.out
              have hf4 : out = true → gone = [] ∧ taken = false := fun h => ⟨(HSAY.out.had h).2.1, (HSAY.out.had h).1⟩
              have hf5 : out = false → total C1 16 + cost ≤ (mo : Int) → gone = [] ∧ taken = true := fun h hle => by
                rw [h] at hC1
                rw [hC1] at hle
                exact (HSAY.out.new h).1.fits hle
              have hf6 : out = false → (mo : Int) < cost → gone = [] ∧ taken = false := fun h hlt => (HSAY.out.new h).1.over hlt
              have hokC1 : OkA C1 := by
                rw [hC1]
                split
                · exact okA_del HSAY.out.okC key
                · exact HSAY.out.okC
              have htC1 := hokC1.tot
              have t1 : wc.cell? ⟨TB, 1, none⟩ = some (.int .i64 cost) := hN3.cell 1
              have t3 : wc.cell? ⟨TB, 3, none⟩ = some (.bool taken) := hN3.cell 3
              have t4 : wc.cell? ⟨TB, 4, none⟩ = some (.slice Ag gone.length cg) := hN3.cell 4
              have HF4 := Lib.hid hf4
              have HF5 := Lib.hid hf5
              have HF6 := Lib.hid hf6
              have HOK1 := Lib.hid hokC1
              clear t0 hf4 hf5 hf6 hokC1 hC1 hN1 hb2w hc3
              go_upto_region 27 with fail
              go_cut [193] from 113 to 316 (fun v wx => v = .bool false ∧ wx = wc)
              case first => as_aux_lemma =>
                cases out with
                | true =>
                  go_wp2
                  go_meet
                  case rel => exact ⟨rfl, rfl⟩
                | false =>
                  by_cases hfit : cost ≤ (mo : Int) - total C1 16
                  · obtain ⟨rfl, rfl⟩ := HF5.out rfl (by omega)
                    have hno : ¬ (mo : Int) < cost := by omega
                    go_wp2
                    go_meet
                    case rel => exact ⟨rfl, rfl⟩
                  · by_cases hov : (mo : Int) < cost
                    · obtain ⟨rfl, rfl⟩ := HF6.out rfl hov
                      go_wp2
                      go_meet
                      case rel => exact ⟨rfl, rfl⟩
                    · go_wp2
                      go_meet
                      case rel => exact ⟨rfl, rfl⟩
              case rest => as_aux_lemma =>
                obtain ⟨rfl, rfl⟩ := hcut
                have hf3 : ∀ p ∈ gone, C1 p.1 = some p.2 := fun p hp => by
                  cases out with
                  | true =>
                    have h := (HF4.out rfl).1
                    rw [h] at hp
                    cases hp
                  | false =>
                    have hCe : C1 = C := HC1.out
                    rw [hCe]
                    exact (HSAY.out.new rfl).1.gone p hp
                have HF3 := Lib.hid hf3
                have hgs : gone.length ≤ 1000 := HSAY.out.small
                have hN3' := hN3
                have hM3' := hM3
                have hb3' := hb3
                have HGC := Lib.hid hgc
                clear hf3 t1 t3 hgc
                go_wp2
                clear t4
                go_loopg [23, 197] gone.length (fun gl v i wl => ∃ j : Nat, j ≤ gone.length ∧ gl = gone.length - j ∧ i = .int .i64 (j : Int) ∧ v = .int .i64 (total (remL C1 (gone.take j)) 16) ∧ MapC wl w4.heap.size q (remL C1 (gone.take j)) ∧
                  At wl TB (.cells #[.int .u64 (key : Int), .int .i64 cost, .bool out, .bool taken, .slice Ag gone.length cg, .int .i64 left, .slice Ah 16 ch] 56 (0, 0)) ∧ Below w4.heap.size w4 wl)
                case atStart => exact ⟨0, Nat.zero_le _, rfl, rfl, rfl, hM3', hN3', hb3'⟩
                case round => as_aux_lemma =>
                  clear hM3' hN3' hb3' hM3 hN3 hb3
                  obtain ⟨j, hj, hgl4, rfl, rfl, hM, hTB, hbel⟩ := hrel
                  by_cases hjl : j < gone.length
                  · obtain ⟨bg, og, rfl, hbg, hg0, hg1⟩ := hgp.2 j hjl
                    have hmem := getD_mem' (d := (0, 0)) hjl
                    have hsn := take_snoc gone (0, 0) hjl
                    generalize gone.getD j (0, 0) = g at hg0 hg1 hmem hsn
                    obtain ⟨kk, cc⟩ := g
                    simp only at hg0 hg1
                    have hCg : C1 kk = some cc := HF3.out _ hmem
                    have hgk : kk < 16 := HOK1.out.lt kk (by rw [hCg]; rfl)
                    obtain rfl : out = false := by
                      cases out with
                      | false => rfl
                      | true =>
                        have h := (HF4.out rfl).1
                        rw [h] at hjl
                        exact absurd hjl (Nat.not_lt_zero _)
                    have hokE := okA_rem HOK1.out (gone.take j)
                    have htE := hokE.tot
                    have hag : remL C1 (gone.take j) kk = none → (gone.take j).any (fun e => e == (kk, cc)) = true := fun h => again_is HF3.out hCg h
                    have hso : ∀ x, remL C1 (gone.take j) kk = some x → x = cc := fun x h => by
                      have := rem_some _ h
                      rw [hCg] at this
                      injection this with this
                      exact this.symm
                    have hrs : remL C1 (gone.take (j + 1)) = putC (remL C1 (gone.take j)) kk none := by rw [hsn, remL_snoc]
                    have hvE2 : 0 ≤ cc ∧ cc ≤ 255 := by
                      have := HOK1.out.val kk
                      rw [hCg] at this
                      exact this
                    have htp := total_put (remL C1 (gone.take j)) kk none 16 hgk
                    generalize remL C1 (gone.take j) = E at hM hokE htE hag hso hrs htp ⊢
                    have x0 : wr.cell? ⟨bg, og + j * 2, none⟩ = some (.int .u64 (kk : Int)) := (hbel.cell (p := ⟨bg, og + j * 2, none⟩) hbg).trans hg0
                    have x1 : wr.cell? ⟨bg, og + j * 2 + 1, none⟩ = some (.int .i64 cc) := (hbel.cell (p := ⟨bg, og + j * 2 + 1, none⟩) hbg).trans hg1
                    have hGN := At.new wr (.cells #[.int .u64 (kk : Int), .int .i64 cc] 51)
                    have hMG := hM.chg (S := fun _ => False) ((Chg.refl _ _).alloc (.cells #[.int .u64 (kk : Int), .int .i64 cc] 51)) (fun h => h)
                    have hTG := hTB.alloc (.cells #[.int .u64 (kk : Int), .int .i64 cc] 51)
                    have hbG := hbel.alloc hbel.size (.cells #[.int .u64 (kk : Int), .int .i64 cc] 51)
                    have hlook := hMG.look (show kk < 18446744073709551616 by omega)
                    have t4 : (wr.alloc (.cells #[.int .u64 (kk : Int), .int .i64 cc] 51)).cell? ⟨TB, 4, none⟩ = some (.slice (some ⟨bg, og, none⟩) gone.length cg) := hTG.cell 4
                    have i3 : (0 : Int) ≤ (j : Int) := by omega
                    have i4 : (j : Int) < (gone.length : Int) := by omega
                    have i5 : (j : Int) ≤ (cg : Int) := by have := HGC.out; omega
                    have HHAG := Lib.hid hag
                    have HSO := Lib.hid hso
                    have HRS := Lib.hid hrs
                    have HTP := Lib.hid htp
                    have HMG := Lib.hid hMG
                    have HTG := Lib.hid hTG
                    have HBG := Lib.hid hbG
                    have HGN := Lib.hid hGN
                    obtain ⟨is, his⟩ : ∃ is, is = (E kk).isSome := ⟨_, rfl⟩
                    obtain ⟨old, hold⟩ : ∃ old, old = (E kk).getD 0 := ⟨_, rfl⟩
                    rw [← his, ← hold] at hlook
                    have HIS := Lib.hid his
                    have HOLD := Lib.hid hold
                    clear hg0 hg1 hmem hsn hCg hokE hag hso hrs htp hMG hTG hbG hGN his hold hM
                    go_wp2
                    clear hlook
                    generalize wr.heap.size = GB at HGN ⊢
                    generalize wr.alloc (.cells #[.int .u64 (kk : Int), .int .i64 cc] 51) = W5 at HMG HTG HBG HGN t4 ⊢
                    clear t4 x0 x1 hTB hbel
                    go_loopg [32, 214] j (fun gl v i wl => ∃ l : Nat, l ≤ j ∧ gl = j - l ∧ i = .int .i64 (l : Int) ∧ v = .bool ((gone.take l).any (fun e => e == (kk, cc))) ∧ Chg (fun _ => False) W5 wl)
                    case atStart => exact ⟨0, Nat.zero_le _, rfl, rfl, rfl, Chg.refl _ _⟩
                    case round => as_aux_lemma =>
                      obtain ⟨l, hl, hgl5, rfl, rfl, hch⟩ := hrel
                      by_cases hlj : l < j
                      · obtain ⟨bq, oq, he, hbq, hq0, hq1⟩ := hgp.2 l (by omega)
                        injection he with he
                        injection he with he1 he2
                        subst he1
                        subst he2
                        have hsn := take_snoc gone (0, 0) (show l < gone.length by omega)
                        generalize gone.getD l (0, 0) = ge at hq0 hq1 hsn
                        obtain ⟨ek, ec⟩ := ge
                        simp only at hq0 hq1
                        have hany : (gone.take (l + 1)).any (fun e => e == (kk, cc)) = ((gone.take l).any (fun e => e == (kk, cc)) || (ek, ec) == (kk, cc)) := by rw [hsn]; simp [List.any_append]
                        generalize (gone.take l).any (fun e => e == (kk, cc)) = av at hany ⊢
                        have z0 : wr.cell? ⟨bg, og + l * 2, none⟩ = some (.int .u64 (ek : Int)) := hch.cell ((HBG.out.cell (p := ⟨bg, og + l * 2, none⟩) hbq).trans hq0) (fun h => h)
                        have z1 : wr.cell? ⟨bg, og + l * 2 + 1, none⟩ = some (.int .i64 ec) := hch.cell ((HBG.out.cell (p := ⟨bg, og + l * 2 + 1, none⟩) hbq).trans hq1) (fun h => h)
                        have hGr := hch.at_ HGN.out (fun h => h)
                        have g0 : wr.cell? ⟨GB, 0, none⟩ = some (.int .u64 (kk : Int)) := hGr.cell 0
                        have g1 : wr.cell? ⟨GB, 1, none⟩ = some (.int .i64 cc) := hGr.cell 1
                        have hlG := hGr.lt
                        have i6 : (0 : Int) ≤ (l : Int) := by omega
                        have i7 : (l : Int) < (j : Int) := by omega
                        have HANY := Lib.hid hany
                        clear hq0 hq1 hsn hany hGr
                        cases av with
                        | true =>
                          go_wp2
                          go_roundg (j - (l + 1))
                          case measure => omega
                          case rel => exact ⟨l + 1, by omega, rfl, by go_num, by rw [HANY.out]; rfl, hch.alloc _⟩
                        | false =>
                          by_cases hcmp : ek = kk ∧ ec = cc
                          · obtain ⟨rfl, rfl⟩ := hcmp
                            go_wp2
                            go_roundg (j - (l + 1))
                            case measure => omega
                            case rel => exact ⟨l + 1, by omega, rfl, by go_num, by rw [HANY.out]; simp, hch.alloc _⟩
                          · have hne : ((ek, ec) == (kk, cc)) = false := beq_eq_false_iff_ne.2 (fun e => hcmp (by injection e with e1 e2; exact ⟨e1, e2⟩))
                            have HNE := Lib.hid hne
                            clear hne
                            go_wp2
                            all_goals
                              go_roundg (j - (l + 1))
                              case measure => omega
                              case rel => exact ⟨l + 1, by omega, rfl, by go_num, by rw [HANY.out, HNE.out]; rfl, hch.alloc _⟩
                      · obtain rfl : l = j := by omega
                        have hMr := HMG.out.chg hch (fun h => h)
                        have hTr := hch.at_ HTG.out (fun h => h)
                        have hGr := hch.at_ HGN.out (fun h => h)
                        have hbr := HBG.out.trans (hch.below HBG.out.size (fun _ _ h => h))
                        have g0 : wr.cell? ⟨GB, 0, none⟩ = some (.int .u64 (kk : Int)) := hGr.cell 0
                        have g1 : wr.cell? ⟨GB, 1, none⟩ = some (.int .i64 cc) := hGr.cell 1
                        have hTBm' := hTBm
                        cases is with
                        | false =>
                          have hnone : E kk = none := by
                            have := HIS.out
                            cases h : E kk with
                            | none => rfl
                            | some x => rw [h] at this; cases this
                          have hav := HHAG.out hnone
                          have hEE : putC E kk none = E := put_same hnone
                          rw [hav]
                          have HEE := Lib.hid hEE
                          clear hnone hav hEE
                          go_wp2
                          go_roundg (gone.length - (l + 1))
                          case measure => omega
                          case rel => exact ⟨l + 1, by omega, rfl, by go_num, by rw [HRS.out, HEE.out], by rw [HRS.out, HEE.out]; exact hMr, hTr, hbr⟩
                        | true =>
                          have hsome : E kk = some cc := by
                            have := HIS.out
                            cases h : E kk with
                            | none => rw [h] at this; cases this
                            | some x => rw [HSO.out x h]
                          have holdE : old = cc := by rw [HOLD.out, hsome]; rfl
                          subst holdE
                          have htt : total E 16 - old = total (putC E kk none) 16 := by rw [HTP.out, hsome]; simp
                          have hvb : 0 ≤ old ∧ old ≤ 255 := by
                            exact hvE2
                          have HTT := Lib.hid htt
                          obtain ⟨Dm, hDm, hh, hat⟩ := hMr
                          have Hh := Lib.hid hh
                          have Hat := Lib.hid hat
                          have HDM := Lib.hid hDm
                          clear hsome htt hh hat hDm
                          go_wp2_with (at_delete; refine wpList_delete_own _ rfl _ _ 54 23 rfl 2 key23 Try.underlying54 _ w4.heap.size q Dm rfl HDM.out _ _ rfl (Maps.keyOf_int_mk Try.underlying23 (wf_u64_nat (show kk < 18446744073709551616 by omega))) ?_; intro wd hownd hturnd)
                          have hcd : Chg (fun j => j = w4.heap.size) wr wd := Chg.of_grown hturnd.grown (fun j e _ => by cases e; rfl)
                          have hTd := hcd.at_ hTr hTBm'
                          have hbd := hbr.trans (hcd.below hbr.size (fun j hj e => by omega))
                          have hMd := mapC_del Hh.out Hat.out hownd
                          clear hturnd hownd
                          go_wp2
                          go_roundg (gone.length - (l + 1))
                          case measure => omega
                          case rel => exact ⟨l + 1, by omega, rfl, by go_num, by rw [HRS.out, ← HTT.out], by rw [HRS.out]; exact hMd, hTd, hbd⟩
                  · have hje : gone.take j = gone := List.take_of_length_le (by omega)
                    have hD : D0 = addC C1 key cost gone taken := by
                      cases out with
                      | true =>
                        obtain ⟨h1, h2, h3⟩ := HSAY.out.had rfl
                        simp only at h1 h2 h3
                        rw [h1, h2, h3]
                        exact HC1.out.symm
                      | false =>
                        have hCe : C1 = C := HC1.out
                        rw [hCe]
                        exact (HSAY.out.new rfl).2
                    have hto : taken = true → out = false := fun h => by
                      cases out with
                      | false => rfl
                      | true => rw [(HF4.out rfl).2] at h; cases h
                    have htc : taken = true → ¬ (mo : Int) < cost := fun h hlt => by
                      have := (HF6.out (hto h) hlt).2
                      rw [this] at h
                      cases h
                    have hDt : taken = true → D0 = putC (remL C1 gone) key (some cost) ∧ total D0 16 = total (remL C1 gone) 16 + cost := fun h => by
                      have ho := hto h
                      subst ho
                      subst h
                      have hCe : C1 = C := HC1.out
                      have hnone : C key = none := by
                        have := HOUT.out
                        cases h : C key with
                        | none => rfl
                        | some x => rw [h] at this; cases this
                      have h1 : D0 = putC (remL C1 gone) key (some cost) := hD
                      refine ⟨h1, ?_⟩
                      rw [h1, hCe]
                      exact total_add hkey hnone cost gone
                    have hDf : taken = false → D0 = remL C1 gone := fun h => by
                      subst h
                      exact hD
                    have hokE := okA_rem HOK1.out gone
                    have htE := hokE.tot
                    rw [hje] at hM ⊢
                    have HDT := Lib.hid hDt
                    have HDF := Lib.hid hDf
                    have HTO := Lib.hid hto
                    have HTCO := Lib.hid htc
                    generalize remL C1 gone = E at hM htE HDT HDF ⊢
                    have t0 : wr.cell? ⟨TB, 0, none⟩ = some (.int .u64 (key : Int)) := hTB.cell 0
                    have t1 : wr.cell? ⟨TB, 1, none⟩ = some (.int .i64 cost) := hTB.cell 1
                    have t3 : wr.cell? ⟨TB, 3, none⟩ = some (.bool taken) := hTB.cell 3
                    have hTBm' := hTBm
                    clear hje hD hto htc hDt hDf hokE hgl4
                    go_upto_if 253 with fail
                    go_cut [23] from 113 to 316 (fun v wx => v = .int .i64 (total D0 16) ∧ (∃ q', q' ≤ k + 1 ∧ MapC wx w4.heap.size q' D0) ∧ At wx TB (.cells #[.int .u64 (key : Int), .int .i64 cost, .bool out, .bool taken, .slice Ag gone.length cg, .int .i64 left, .slice Ah 16 ch] 56 (0, 0)) ∧ Below w4.heap.size w4 wx)
                    case first => as_aux_lemma =>
                      cases taken with
                      | false =>
                        have hDe := HDF.out rfl
                        have HDE := Lib.hid hDe
                        clear hDe
                        go_wp2
                        go_meet
                        case rel => exact ⟨by rw [HDE.out], ⟨q, by omega, by rw [HDE.out]; exact hM⟩, hTB, hbel⟩
                      | true =>
                        obtain ⟨hDe, hte⟩ := HDT.out rfl
                        have HDE := Lib.hid hDe
                        have HTE := Lib.hid hte
                        obtain ⟨Dm, hDm, hh, hat⟩ := hM
                        have Hh := Lib.hid hh
                        have Hat := Lib.hid hat
                        have HDM := Lib.hid hDm
                        clear hDe hte hh hat hDm
                        go_wp2_with (at_mapUpdate; refine wpList_mapUpdate_own _ rfl _ _ _ 54 rfl 23 2 key23 Try.underlying54 _ w4.heap.size q Dm rfl HDM.out (by unfold maxLen; omega) _ _ _ rfl rfl (Maps.keyOf_int_mk Try.underlying23 (wf_u64_nat (show key < 18446744073709551616 by omega))) (.lit (.int .i64 cost)) [] (plainElem_int Try.underlying2 (WalkArith.wf_i64 (by omega))) ?_; intro wu hownu hgu; have hcu := (Chg.of_grown (S := fun j => j = w4.heap.size) hgu (fun j e _ => by cases e; rfl)); have hTu := hcu.at_ hTB hTBm'; have t1u : wu.cell? ⟨TB, 1, none⟩ = some (.int .i64 cost) := hTu.cell 1)
                        go_meet
                        case rel => exact ⟨by rw [HTE.out], ⟨q + 1, by omega, by rw [HDE.out]; exact mapC_put HDM.out Hh.out Hat.out hownu⟩, hTu, hbel.trans (hcu.below hbel.size (fun j hj e => by omega))⟩
                    case rest => as_aux_lemma =>
                      obtain ⟨rfl, ⟨q', hq', hM5⟩, hT5, hb5⟩ := hcut
                      have hlE : left = (mo : Int) - total D0 16 := HSAY.out.left
                      have hmD : total D0 16 ≤ (mo : Int) := HSAY.out.most
                      have htD : 0 ≤ total D0 16 ∧ total D0 16 ≤ 65535 := HSAY.out.okD.tot
                      subst hlE
                      have hl0 : ¬ (mo : Int) - total D0 16 < 0 := by omega
                      have t1 : wc.cell? ⟨TB, 1, none⟩ = some (.int .i64 cost) := hT5.cell 1
                      have t3 : wc.cell? ⟨TB, 3, none⟩ = some (.bool taken) := hT5.cell 3
                      have t5 : wc.cell? ⟨TB, 5, none⟩ = some (.int .i64 ((mo : Int) - total D0 16)) := hT5.cell 5
                      have t6 : wc.cell? ⟨TB, 6, none⟩ = some (.slice Ah 16 ch) := hT5.cell 6
                      go_upto_region 48 with fail
                      go_cut [294] from 113 to 316 (fun v wx => v = .bool false ∧ wx = wc)
                      case first => as_aux_lemma =>
                        cases taken with
                        | false =>
                          go_wp2
                          go_meet
                          case rel => exact ⟨rfl, rfl⟩
                        | true =>
                          have ho := HTO.out rfl
                          subst ho
                          have hno := HTCO.out rfl
                          go_wp2
                          go_meet
                          case rel => exact ⟨rfl, rfl⟩
                      case rest => as_aux_lemma =>
                        obtain ⟨rfl, rfl⟩ := hcut
                        clear t1 t3 t5
                        go_wp2
                        clear t6
                        go_loopg [298] 16 (fun gl i wl => ∃ l : Nat, l ≤ 16 ∧ gl = 16 - l ∧ i = .int .i64 (l : Int) ∧ MapC wl w4.heap.size q' D0 ∧
                          At wl TB (.cells #[.int .u64 (key : Int), .int .i64 cost, .bool out, .bool taken, .slice Ag gone.length cg, .int .i64 ((mo : Int) - total D0 16), .slice Ah 16 ch] 56 (0, 0)) ∧ Below w4.heap.size w4 wl)
                        case atStart => exact ⟨0, Nat.zero_le _, rfl, rfl, hM5, hT5, hb5⟩
                        case round => as_aux_lemma =>
                          obtain ⟨l, hl, hgl6, rfl, hM6, hT6, hb6⟩ := hrel
                          by_cases hll : l < 16
                          · obtain ⟨bh, oh, rfl, hbh, hx⟩ := hhp.2 l hll
                            have he : (held.map Value.bool).getD l undef = .bool (D0 l).isSome := by
                              rw [HHD.out]
                              simp [heldL, List.getD, hll]
                            rw [he] at hx
                            have hlook := hM6.look (show l < 18446744073709551616 by omega)
                            generalize (D0 l).isSome = bb at hx hlook
                            generalize (D0 l).getD 0 = cb at hlook
                            have y0 : wr.cell? ⟨bh, oh + l, none⟩ = some (.bool bb) := (hb6.cell (p := ⟨bh, oh + l, none⟩) hbh).trans hx
                            have t6 : wr.cell? ⟨TB, 6, none⟩ = some (.slice (some ⟨bh, oh, none⟩) 16 ch) := hT6.cell 6
                            have i6 : (0 : Int) ≤ (l : Int) := by omega
                            have i7 : (l : Int) < 16 := by omega
                            clear he hx
                            go_wp2
                            go_roundg (16 - (l + 1))
                            case measure => omega
                            case rel => exact ⟨l + 1, by omega, rfl, by go_num, hM6, hT6, hb6⟩
                          · obtain rfl : l = 16 := by omega
                            go_wp2
                            go_roundg (n - (k + 1))
                            case measure => omega
                            case rel => exact ⟨k + 1, q', by omega, rfl, by go_num, by rw [HSD.out], hq', by rw [HSD.out]; exact hM6, hb6⟩
          · have hsh : Calls Try.prog 11 #[.int .u64 0, .int .u64 1] wr _ := shape_any 0 1 wr (by omega)
            have e0 : ((fsize 0 : Nat) : Int) - 1 = 511 := by
              have h : fsize 0 = 512 := by
                show 2 ^ clog 512 = 512
                rw [clog_512]
              rw [h]
              rfl
            rw [e0] at hsh
            have hbr := hbw4.trans (hbel.mono hbw4.size)
            have HSH := Lib.hid hsh
            clear e0 hsh hgl
            go_wp2_with fail
            refine HSH.out.mono ?_
            rintro e w9 ⟨rfl, hb9⟩
            go_wp2
            go_returns
            exact ⟨rfl, hbr.trans (hb9.mono hbr.size)⟩
end Go.Proofs.Ytoddnjpbmefgnaa
