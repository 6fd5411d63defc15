/-
  The walk of impl.Costs.
-/
import Derived.Test.YtoddnjpbmefgnaaPairsW
import Derived.Deep.RegionHeld3
namespace Go.Proofs.Ytoddnjpbmefgnaa
open Go.RowKit

theorem Smp.mono {w : World} {P b n m : Nat} {most : Int} {C : Nat → Option Int} (h : Smp w P b n most C) (hm : n ≤ m) : Smp w P b m most C := ⟨h.head, h.map.mono hm⟩
/-- A call hands back what is held, what it costs together, and the room for one more. -/
def RetCo (w : World) (C : Nat → Option Int) (most : Int) (e : Ending) (w' : World) : Prop :=
  ∃ A n c, e = .returned (.tuple #[.slice A n c, .int .i64 (total C 16), .int .i64 (most - (total C 16 + 1))]) ∧ Prs w' w'.heap.size A n (outC C 16) ∧ Below w.heap.size w w'
theorem okS_take {ss : List (Nat × Int)} (h : OkS ss) (k : Nat) : OkS (ss.take k) := fun p hp => h p (List.mem_of_mem_take hp)

theorem Prs.chg {S : Nat → Prop} {w w' : World} {B : Nat} {A : Option Addr} {n : Nat} {ps : List (Nat × Int)} (h : Prs w B A n ps) (hc : Chg S w w') (hS : ∀ g o s, A = some ⟨g, o, s⟩ → ¬ S g) : Prs w' B A n ps :=
  ⟨h.1, fun j hj => by
    obtain ⟨b, o, e, hB, h0, h1⟩ := h.2 j hj
    exact ⟨b, o, e, hB, hc.cell h0 (hS b o none e), hc.cell h1 (hS b o none e)⟩⟩

theorem wpList_append_pair2 {P : Program} {w : World} {ops : Array Oper} {rest : List Oper} {o : Oper} {a : Act} {Q : Exit → Act → World → Prop} (hgd : o.guard = none) (s x : Operand) (t : TypeId)
    (ho : o.op = .call { callee := .builtin .append, args := #[s, x], argTypes := #[t, t] })
    (base : Nat) (e : TypeId) (i : TypeInfo) (z : Value) (ht : P.underlying t = some (.slice e)) (hi : P.info? e = some i) (hz : i.zero = some z)
    (hsize : i.size = 2) (hby : i.bytes = 16) (hzs : z.cells.size = 2)
    (v : Value) (n : Nat) (ps : List (Nat × Int)) (hs : a.eval s = v) (hown : w.ownsRow base e 2 v n (flatP ps))
    (H : Nat) (k : Nat) (c : Int) (hx : a.eval x = .slice (some ⟨H, 0, none⟩) 1 1) (h0 : w.cell? ⟨H, 0, none⟩ = some (.int .u64 (k : Int))) (h1 : w.cell? ⟨H, 1, none⟩ = some (.int .i64 c))
    (h63 : n + 1 ≤ maxLen) (hbytes : (n + 1) * 16 ≤ 140737488355328) (hbase : base ≤ w.heap.size)
    (h : ∀ v' w', w'.ownsRow base e 2 v' (n + 1) (flatP (ps ++ [(k, c)])) → w.grownBy w' v.ownBlock → (v'.ownBlock = v.ownBlock ∨ v'.ownBlock = some w.heap.size) → wpList P ops Q rest (a.put o.dst v') w') :
    wpList P ops Q (o :: rest) a w := by
  refine wpList_plain hgd fun K hK => ?_
  obtain ⟨v', w', hrun, a1, a2, _, a4⟩ := run_append_own_at (P := P) (w := w) base t o.type e i z 2 16 ht hi hz hsize hby hzs (by decide) v n (flatP ps) hown ⟨H, 0, none⟩ 1 1 (encP (k, c)) rfl (fun j u hu => by
      rw [Addr.add_lit]
      match j, hu with
      | 0, hu => simp [encP] at hu; rw [← hu]; exact h0
      | 1, hu => simp [encP] at hu; rw [← hu]; exact h1
      | j + 2, hu => simp [encP] at hu) (fun u hu => by simp [encP] at hu; rcases hu with rfl | rfl <;> rfl) h63 hbytes hbase
  unfold Oper.wp
  simp only [execOp, ho, resolve, invoke, builtin, Sem.run_bind, Sem.run_pure, Result.andThen_ok, List.map_toArray, List.map_cons, List.map_nil, hs, hx, hrun]
  exact hK _ _ (h v' w' (by rw [flatP_snoc]; exact a1) a2 a4)

set_option maxRecDepth 100000 in
set_option maxHeartbeats 800000 in
theorem costs_any (most : Int) (A : Option Addr) (n c : Nat) (ss : List (Nat × Int)) (w : World) (hm : 0 ≤ most ∧ most ≤ 65535) (hZ : Prs w w.heap.size A n ss) (hn : n ≤ 2147483647) (hs : OkS ss) :
    Calls Try.prog 25 #[.int .i64 most, .slice A n c] w (RetCo w (holdL ss) most) := by
  obtain ⟨i0, hi, hz0, hz1, hz2⟩ := info_parts Try.info51
  have hnew := fun W => sampledNew_any most W
  have HN := Lib.hid hnew
  obtain ⟨Cf, hCf⟩ : ∃ Cf, holdL ss = Cf := ⟨_, rfl⟩
  rw [hCf]
  have HCF := Lib.hid hCf
  clear hnew hCf
  go_enter Try.func25, Try.ntmps25
  go_wp2_with fail
  refine (HN.out _).mono ?_
  rintro e w1 ⟨P, b, rfl, hP, hB, hS1, hb1⟩
  go_wp2
  have hR : At (w1.alloc (.cells #[.pointer (some ⟨P, 0, none⟩)] 98)) w1.heap.size (.cells #[.pointer (some ⟨P, 0, none⟩)] 98 (0, 0)) := At.new _ _
  have hS2 := hS1.chg (S := fun _ => False) ((Chg.refl _ _).alloc (.cells #[.pointer (some ⟨P, 0, none⟩)] 98)) id id
  have hb2 := hb1.alloc hb1.size (.cells #[.pointer (some ⟨P, 0, none⟩)] 98)
  have hPl := hS1.head.lt
  have hBl := hS1.map.lt
  have hRw := hb1.size
  generalize w1.alloc (.cells #[.pointer (some ⟨P, 0, none⟩)] 98) = w2 at hR hS2 hb2 ⊢
  generalize w1.heap.size = R at hR hPl hBl hRw ⊢
  have hRS : ¬ SmB P b R := by unfold SmB; omega
  clear hS1 hb1 HN
  go_loopw [17] (fun i wr => ∃ k : Nat, k ≤ n ∧ i = .int .i64 k ∧ At wr R (.cells #[.pointer (some ⟨P, 0, none⟩)] 98 (0, 0)) ∧ Smp wr P b (2 * k) most (holdL (ss.take k)) ∧ Below w.heap.size w wr) (fun i _ => n - (intOf i).toNat)
  case atStart => exact ⟨0, Nat.zero_le _, rfl, hR, hS2, hb2⟩
  case round =>
    clear hR hS2 hb2
    obtain ⟨k, hk, rfl, hRr, hS, hbel⟩ := hrel
    have hok := okC_hold (ss.take k) (okS_take hs k)
    by_cases hlt : k < n
    · obtain ⟨ba, oa, rfl, hba, hc0, hc1⟩ := hZ.2 k hlt
      have hsn := take_snoc ss (0, 0) (show k < ss.length by have := hZ.1; omega)
      obtain ⟨p, hp⟩ : ∃ p, p = ss.getD k (0, 0) := ⟨_, rfl⟩
      have hpk := hs p (by rw [hp]; have e : ss.getD k (0, 0) = ss[k]'(by have := hZ.1; omega) := by simp [List.getD, show k < ss.length by have := hZ.1; omega]
                           rw [e]; exact List.getElem_mem _)
      rw [← hp] at hc0 hc1 hsn
      clear hp
      obtain ⟨pk, pc⟩ := p
      simp only at hc0 hc1 hpk
      have c0 : wr.cell? ⟨ba, oa + k * 2, none⟩ = some (Value.int .u64 (pk : Int)) := (hbel.cell (p := ⟨ba, oa + k * 2, none⟩) hba).trans hc0
      have c1 : wr.cell? ⟨ba, oa + k * 2 + 1, none⟩ = some (Value.int .i64 pc) := (hbel.cell (p := ⟨ba, oa + k * 2 + 1, none⟩) hba).trans hc1
      have hst : holdL (ss.take (k + 1)) = stepC (holdL (ss.take k)) (pk, pc) := by rw [hsn, holdL_snoc]
      generalize holdL (ss.take k) = C at hS hok hst
      have HST := Lib.hid hst
      clear hst hsn hc0 hc1
      have hS1 := hS.chg (S := fun _ => False) ((Chg.refl _ _).alloc (.cells #[.int .u64 (pk : Int), .int .i64 pc] 51)) id id
      have hR1 := hRr.alloc (.cells #[.int .u64 (pk : Int), .int .i64 pc] 51)
      have cR : (wr.alloc (.cells #[.int .u64 (pk : Int), .int .i64 pc] 51)).cell? ⟨R, 0, none⟩ = some (.pointer (some ⟨P, 0, none⟩)) := hR1.cell 0
      have hb1 := hbel.alloc hbel.size (.cells #[.int .u64 (pk : Int), .int .i64 pc] 51)
      by_cases hneg : pc < 0
      · have he : stepC C (pk, pc) = putC C pk none := by unfold stepC ofI; rw [if_pos hneg]
        have HE := Lib.hid he
        clear he
        go_wp2_with fail
        refine (sampledDel_any P b (2 * k) pk most C _ hpk.1 hok hS1).mono ?_
        rintro e w3 ⟨rfl, hS3, hc3⟩
        have hR3 := hc3.at_ hR1 hRS
        have hb3 := hb1.trans (hc3.below hb1.size (fun j hj h => by rcases h with h | h <;> omega))
        clear c0 c1 cR hS1 hR1 hb1 hc3
        go_wp2
        go_roundw
        case rel => exact ⟨k + 1, by omega, by go_num, hR3, by rw [HST.out, HE.out]; exact hS3.mono (by omega), hb3⟩
        case measure => simp [intOf]; omega
      · have he : stepC C (pk, pc) = putC C pk (some pc) := by unfold stepC ofI; rw [if_neg hneg]
        have HE := Lib.hid he
        have hpc0 : 0 ≤ pc := by omega
        clear he
        have hu := sampledUpd_any P b (2 * k) pk pc most C _ hpk.1 (by omega) hok ⟨hpc0, hpk.2.2⟩ hS1
        cases hck : C pk with
        | some v =>
          rw [hck] at hu
          simp only [Option.isSome_some, if_true] at hu
          clear hck
          go_wp2_with fail
          refine hu.mono ?_
          rintro e w3 ⟨rfl, hS3, hc3⟩
          have hR3 := hc3.at_ hR1 hRS
          have hb3 := hb1.trans (hc3.below hb1.size (fun j hj h => by rcases h with h | h <;> omega))
          clear c0 c1 cR hS1 hR1 hb1 hc3 hu
          go_wp2
          go_roundw
          case rel => exact ⟨k + 1, by omega, by go_num, hR3, by rw [HST.out, HE.out]; exact hS3.mono (by omega), hb3⟩
          case measure => simp [intOf]; omega
        | none =>
          rw [hck] at hu
          simp only [Option.isSome_none, Bool.false_eq_true, if_false] at hu
          have hPc : (wr.alloc (.cells #[.int .u64 (pk : Int), .int .i64 pc] 51)).cell? ⟨wr.heap.size, 0, none⟩ = some (.int .u64 (pk : Int)) := (At.new wr (.cells #[.int .u64 (pk : Int), .int .i64 pc] 51)).cell 0
          have hV := At.new wr (.cells #[.int .u64 (pk : Int), .int .i64 pc] 51)
          have hVS : ¬ SmB P b wr.heap.size := by have := hS.head.lt; have := hS.map.lt; unfold SmB; omega
          have HCK := Lib.hid hck
          clear hck
          go_wp2_with fail
          refine hu.mono ?_
          rintro e w3 ⟨rfl, hS3, hc3⟩
          have hR3 := hc3.at_ hR1 hRS
          have hV3 := hc3.at_ hV hVS
          have hb3 := hb1.trans (hc3.below hb1.size (fun j hj h => by rcases h with h | h <;> omega))
          have d0 : w3.cell? ⟨wr.heap.size, 0, none⟩ = some (.int .u64 (pk : Int)) := hV3.cell 0
          have d1 : w3.cell? ⟨wr.heap.size, 1, none⟩ = some (.int .i64 pc) := hV3.cell 1
          have dR : w3.cell? ⟨R, 0, none⟩ = some (.pointer (some ⟨P, 0, none⟩)) := hR3.cell 0
          clear c0 c1 cR hS1 hR1 hb1 hc3 hu hPc hV hV3
          go_wp2_with fail
          refine (sampledAdd_any P b (2 * k + 1) pk pc most C _ hpk.1 (by omega) hok ⟨hpc0, hpk.2.2⟩ HCK.out hS3).mono ?_
          rintro e w4 ⟨rfl, hS4, hc4⟩
          have hR4 := hc4.at_ hR3 hRS
          have hb4 := hb3.trans (hc4.below hb3.size (fun j hj h => by rcases h with h | h <;> omega))
          clear d0 d1 dR hS3 hR3 hb3 hc4
          go_wp2
          go_roundw
          case rel => exact ⟨k + 1, by omega, by go_num, hR4, by rw [HST.out, HE.out]; exact hS4.mono (by omega), hb4⟩
          case measure => simp [intOf]; omega
    · obtain rfl : k = n := by omega
      rw [List.take_of_length_le (Nat.le_of_eq hZ.1)] at hS hok
      obtain ⟨w4, hw4⟩ : ∃ w4, w4 = wr := ⟨_, rfl⟩
      rw [← hw4] at hRr hS hbel ⊢
      clear hw4
      rw [HCF.out] at hS hok
      have htot := hok.total 16
      have hS1 := hS.chg (S := fun _ => False) ((Chg.refl _ _).alloc (.cells #[] 51)) id id
      have hR1 := hRr.alloc (.cells #[] 51)
      have cR : (w4.alloc (.cells #[] 51)).cell? ⟨R, 0, none⟩ = some (.pointer (some ⟨P, 0, none⟩)) := hR1.cell 0
      have hown0 : (w4.alloc (.cells #[] 51)).ownsRow w4.heap.size 51 2 (.slice (some ⟨w4.heap.size, 0, none⟩) 0 0) 0 (flatP []) := World.ownsRow_lit w4 #[] 0 (Nat.le_refl _) (Nat.zero_le _) rfl
      have hb1 : Below w4.heap.size w4 (w4.alloc (.cells #[] 51)) := (Below.refl _ _).alloc (Nat.le_refl _) _
      go_wp2_with fail
      refine (pairs_any P b (2 * k) most Cf _ (by omega) hok hS1).mono ?_
      rintro e w3 ⟨A2, n2, c2, rfl, hpr, hnw, hb3⟩
      have hown3 := (Chg.of_new (S := fun _ => False) hb3).owns hown0 (fun _ _ h => h)
      have hb13 := hb1.trans (hb3.mono hb1.size)
      have hn2 : n2 ≤ 16 := by have := outC_len Cf 16; rw [hpr.1] at this; exact this
      have hpl := hpr.1
      have hnb0 : ∀ g o s, A2 = some ⟨g, o, s⟩ → (Value.slice (some ⟨w4.heap.size, 0, none⟩) 0 0).ownBlock ≠ some g := fun g o s e h => by
        have := hnw g o s e
        simp at this
        simp [Value.ownBlock] at h
        omega
      have HNB0 := Lib.hid hnb0
      clear hS1 hR1 cR hown0 hb1 hnw hnb0
      generalize hB3 : w3.heap.size = B3 at hpr
      have HB3 : B3 ≤ w3.heap.size := by omega
      generalize houts : outC Cf 16 = outs at hpr hpl
      have HO := Lib.hid houts
      clear hB3 houts
      go_wp2
      go_loopw [10, 48] (fun v i wr => ∃ q : Nat, q ≤ n2 ∧ i = .int .i64 q ∧ wr.ownsRow w4.heap.size 51 2 v q (flatP (outs.take q)) ∧ Prs wr B3 A2 n2 outs ∧ Hid (∀ g o s, A2 = some ⟨g, o, s⟩ → v.ownBlock ≠ some g) ∧ B3 ≤ wr.heap.size ∧ Below w4.heap.size w4 wr) (fun _ i _ => n2 - (intOf i).toNat)
      case atStart => exact ⟨0, Nat.zero_le _, rfl, hown3, hpr, HNB0, HB3, hb13⟩
      case round =>
        clear hown3 hpr hb13 hb3
        obtain ⟨q, hq, rfl, hown, hpr, hnb, hB3, hbq⟩ := hrel
        have hszq := hbq.size
        by_cases hql : q < n2
        · obtain ⟨g, og, rfl, hg, hc0, hc1⟩ := hpr.2 q hql
          have hsn := take_snoc outs (0, 0) (show q < outs.length by omega)
          obtain ⟨p, hp⟩ : ∃ p, p = outs.getD q (0, 0) := ⟨_, rfl⟩
          rw [← hp] at hc0 hc1 hsn
          clear hp
          obtain ⟨pk, pc⟩ := p
          simp only at hc0 hc1
          have HSN := Lib.hid hsn
          clear hsn
          go_wp2_with (at_builtin; refine wpList_append_pair2 rfl _ _ 49 rfl w4.heap.size 51 i0 (.agg #[.int .u64 0, .int .i64 0]) Try.underlying49 hi hz0 hz1 hz2 rfl _ q (outs.take q) rfl ((hown.alloc _).alloc _) (wr.heap.size + 1) pk pc rfl ?c4 ?c5 ?c1 ?c2 ?c3 ?_)
          case c4 =>
            simp
          case c5 =>
            simp
          case c1 => unfold maxLen; omega
          case c2 => omega
          case c3 => simp; omega
          intro v' w5 hown5 hgrow hblk
          have hC5 : Chg (fun j => u10.ownBlock = some j) wr w5 := ((Chg.refl _ _).alloc _).alloc _ |>.trans (Chg.of_grown hgrow (fun j e _ => e))
          have hpr5 := hpr.chg hC5 (fun g' o s e h => hnb.out g' o s e h)
          have hnb5 : ∀ g' o s, some (⟨g, og, none⟩ : Addr) = some ⟨g', o, s⟩ → v'.ownBlock ≠ some g' := fun g' o s e h => by
            rcases hblk with hb | hb
            · rw [hb] at h; exact hnb.out g' o s e h
            · rw [hb] at h
              cases e
              injection h with h
              omega
          have HNB5 := Lib.hid hnb5
          have hb5 : Below w4.heap.size w4 w5 := hbq.trans (hC5.below hszq (fun j hj h => by have := (hown.lt j h).1; omega))
          have hB5 : B3 ≤ w5.heap.size := Nat.le_trans hB3 hC5.size
          clear hgrow hblk hC5 hpr hnb hnb5 hown hc0 hc1 hbq
          go_wp2
          go_roundw
          case rel => exact ⟨q + 1, by omega, by go_num, by rw [HSN.out]; exact hown5, hpr5, HNB5, hB5, hb5⟩
          case measure => simp [intOf]; omega
        · obtain rfl : q = n2 := by omega
          rw [List.take_of_length_le (Nat.le_of_eq hpl)] at hown
          have hSq := hS.new hbq
          have hRq := hRr.below hbq hRr.lt
          have cR : wr.cell? ⟨R, 0, none⟩ = some (.pointer (some ⟨P, 0, none⟩)) := hRq.cell 0
          have hRl : R < wr.heap.size := hRq.lt
          have hu : ∀ W : World, Chg (fun _ => False) wr W → Calls Try.prog 53 #[.agg #[.pointer (some ⟨P, 0, none⟩)]] W fun e w' => e = .returned (.int .i64 (total Cf 16)) ∧ Below W.heap.size W w' := fun W h => sampledUsed_any P b _ most Cf W (hSq.chg h id id)
          have hv : ∀ W : World, Chg (fun _ => False) wr W → Calls Try.prog 54 #[.agg #[.pointer (some ⟨P, 0, none⟩)], .int .i64 1] W fun e w' => e = .returned (.int .i64 (most - (total Cf 16 + 1))) ∧ Below W.heap.size W w' := fun W h => sampledRoom_any P b _ most Cf W hm hok (hSq.chg h id id)
          generalize htE : total Cf 16 = t at htot hu hv
          have HT := Lib.hid htE
          have HU := Lib.hid hu
          have HV := Lib.hid hv
          clear hu hv htE
          go_wp2_with fail
          go_region_held3 (fun w' => w'.cell? ⟨R, 0, none⟩ = some (.pointer (some ⟨P, 0, none⟩))) (first | go_keep | (exact (hbx.cell (p := ⟨R, 0, none⟩) (by simpa using hRl)).trans (by simpa using cR)) | (exact ((hby.cell (p := ⟨R, 0, none⟩) (by have := hbx.size; simp at this ⊢; omega)).trans (hbx.cell (p := ⟨R, 0, none⟩) (by simpa using hRl))).trans (by simpa using cR)))
            ((first
              | (go_at_call 53; refine (HU.out _ (by exact ⟨rfl, rfl, rfl, Nat.le_refl _, fun _ _ _ => rfl⟩)).mono ?_; rintro e w5 ⟨rfl, hbx⟩)
              | (go_at_call 54; refine (HV.out _ (by exact ⟨hbx.os, hbx.tape, hbx.output, hbx.size, fun k hk _ => hbx.block k hk⟩)).mono ?_; rintro e w6 ⟨rfl, hby⟩)))
          have hx5 : Below wr.heap.size wr w5 := ⟨hbx.os, hbx.tape, hbx.output, hbx.size, hbx.block⟩
          have hy6 : Below w5.heap.size w5 w6 := ⟨hby.os, hby.tape, hby.output, hby.size, hby.block⟩
          have hxy := hx5.trans (hy6.mono hx5.size)
          clear HU HV hbx hby
          go_wp2
          go_returns
          obtain ⟨A3, c3, rfl, hv3, _⟩ := own_prs hown
          exact ⟨A3, q, c3, by rw [HT.out]; rfl, by rw [HO.out]; exact (hv3.below hxy).more hxy.size, (hbel.trans (hbq.mono hbel.size)).trans (hxy.mono (hbel.trans (hbq.mono hbel.size)).size)⟩
end Go.Proofs.Ytoddnjpbmefgnaa
