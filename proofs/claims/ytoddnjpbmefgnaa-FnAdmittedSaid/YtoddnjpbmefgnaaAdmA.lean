/-
  The walk of impl.Admitted.
-/
import Derived.Test.YtoddnjpbmefgnaaTurn
import Derived.Test.YtoddnjpbmefgnaaPolNew
import Derived.Deep.LoopGhost
import Derived.Deep.CutRange
import Derived.Deep.RegionLaw
namespace Go.Proofs.Ytoddnjpbmefgnaa
open Go.RowKit

/-- What the call hands back: the turns, one for each step. -/
def RetTr (w : World) (most : Int) (ss : List (Nat × Int)) (e : Ending) (w' : World) : Prop :=
  ∃ A n c ts C, e = .returned (.slice A n c) ∧ Trn w' w'.heap.size A n ts ∧ RunTo most ts C ∧ ts.map (fun t => (t.key, t.cost)) = ss ∧ Below w.heap.size w w'
/-- What stands at the head of each step. -/
structure AdmS (RM RT : Nat → Prop) (Q T P b M R B0 m : Nat) (most : Int) (w wr : World) (v : Value) (ss : List (Nat × Int)) (k : Nat) (ts : List TurnT) (C : Nat → Option Int) : Prop where
  pol : Pol RM RT wr Q T P b M m most C
  box : At wr R (.cells (polV Q M) 87 (0, 0))
  row : wr.ownsRow B0 56 7 v k (flatT ts)
  len : ts.length = k
  own : ∀ j, j < ts.length → TurnOwn wr B0 (ts.getD j tz)
  bel : Below w.heap.size w wr
  b0 : B0 ≤ wr.heap.size
  run : RunTo most ts C
  says : ts.map (fun t => (t.key, t.cost)) = ss.take k
  ok : OkA C
  le : total C 16 ≤ most

theorem own_one {w : World} {base : Nat} {e : TypeId} {size n : Nat} {v : Value} {xs : List Value} (h : w.ownsRow base e size v n xs) : v.oneCell' = true := by
  rcases h.2 with ⟨rfl, _⟩ | ⟨_, _, _, rfl, _⟩ <;> rfl
theorem own_two' {w : World} {base base' : Nat} {e e' : TypeId} {size size' : Nat} {v v' : Value} {n n' g : Nat} {xs xs' : List Value} (h : w.ownsRow base e size v n xs) (h' : w.ownsRow base' e' size' v' n' xs') (hne : e ≠ e') (hg : v.ownBlock = some g) : v'.ownBlock ≠ some g := by
  rcases h.2 with ⟨rfl, _⟩ | ⟨g1, cap, cur, rfl, _, hh, _⟩
  · simp [Value.ownBlock] at hg
  · simp [Value.ownBlock] at hg
    subst hg
    exact own_ne h' (show At w g1 (.cells cur e (0, 0)) from hh) (Ne.symm hne)
theorem Try.info56 : (Try.prog.info? 56).map (fun i => (i.zero, i.size, i.bytes)) = some (some (.agg #[.int .u64 0, .int .i64 0, .bool false, .bool false, .slice none 0 0, .int .i64 0, .slice none 0 0]), 7, 80) := by kernel_rfl
/-- A step is done: its turn is appended. -/
theorem AdmS.step {RM RT : Nat → Prop} {Q T P b M R B0 m m' : Nat} {most : Int} {w w0 w1 w3 : World} {v v2 : Value} {ss : List (Nat × Int)} {k : Nat} {ts : List TurnT} {C D : Nat → Option Int} {t : TurnT} {o : Obj}
    (h : AdmS RM RT Q T P b M R B0 m most w w0 v ss k ts C) (hB : ∀ j, j = Q ∨ PoB RM RT P b j → w.heap.size ≤ j ∧ j < B0 ∧ j ≠ R) (hw : w.heap.size ≤ B0) (hc : Chg (PoB RM RT P b) w0 w1)
    (hP : Pol RM RT w1 Q T P b M m' most D) (hR : At w1 R (.cells (polV Q M) 87 (0, 0))) (hg : w1.ownsRow B0 51 2 t.gv t.gone.length (flatP t.gone)) (hh : w1.ownsRow B0 4 1 t.hv t.held.length (t.held.map Value.bool))
    (hsay : TurnSays most C t D) (hss : ss.take (k + 1) = ss.take k ++ [(t.key, t.cost)]) (hown : w3.ownsRow B0 56 7 v2 (k + 1) (flatT ts ++ encT t)) (hgrow : (w1.alloc o).grownBy w3 v.ownBlock) : AdmS RM RT Q T P b M R B0 m' most w w3 v2 ss (k + 1) (ts ++ [t]) D := by
  have hrow1 := hc.owns h.row (fun j hj e => by
    have := hB j (.inr e)
    have := (h.row.lt j hj).1
    omega)
  have hc3 : Chg (fun j => v.ownBlock = some j) w1 w3 := ((Chg.refl _ _).alloc o).trans (Chg.of_grown hgrow (fun j e _ => e))
  have hc03 : Chg (fun j => PoB RM RT P b j ∨ v.ownBlock = some j) w0 w3 := (hc.mono (fun _ _ e => .inl e)).trans (hc3.mono (fun _ _ e => .inr e))
  refine ⟨hP.chg hc3 (fun j hj e => ?_), hc3.at_ hR (own_ne hrow1 hR (by decide)), by rw [flatT_snoc]; exact hown, by have := h.len; simp; omega, fun j hj => ?_, h.bel.trans (hc03.below h.bel.size (fun j hj e => ?_)), Nat.le_trans h.b0 hc03.size, h.run.snoc hsay, ?_, hsay.okD, hsay.most⟩
  · have := hB j hj
    have := (hrow1.lt j e).1
    omega
  · by_cases e : j < ts.length
    · have e1 : (ts ++ [t]).getD j tz = ts.getD j tz := by simp only [List.getD, List.getElem?_append_left e]
      rw [e1]
      have h1 := (h.own j e).chg hc (fun i hi e => by have := hB i (.inr e); have := ((h.own j (by assumption)).gone.lt i hi).1; omega) (fun i hi e => by have := hB i (.inr e); have := ((h.own j (by assumption)).held.lt i hi).1; omega)
      exact h1.chg hc3 (fun i hi e => own_two' hrow1 h1.gone (by decide) e hi) (fun i hi e => own_two' hrow1 h1.held (by decide) e hi)
    · have hj' : j = ts.length := by simp at hj; omega
      subst hj'
      have e1 : (ts ++ [t]).getD ts.length tz = t := by simp [List.getD]
      rw [e1]
      exact ⟨hc3.owns hg (fun i hi e => own_two' hrow1 hg (by decide) e hi), hc3.owns hh (fun i hi e => own_two' hrow1 hh (by decide) e hi)⟩
  · rcases e with e | e
    · have := hB j (.inr e)
      omega
    · have := (h.row.lt j e).1
      omega
  · rw [hss, ← h.says]
    simp
theorem chg_set (w : World) (g o : Nat) (v : Value) : Chg (fun j => j = g) w (w.setCell ⟨g, o, none⟩ v) := (Chg.refl (fun j => j = g) w).setCell (p := ⟨g, o, none⟩) (fun _ => rfl) v
theorem vls_one (w : World) (v : Value) (t : TypeId) : Vls (w.alloc (.cells #[v] t)) (w.heap.size + 1) (some ⟨w.heap.size, 0, none⟩) 1 [v] := ⟨rfl, fun j hj => ⟨w.heap.size, 0, rfl, Nat.lt_succ_self _, by
  have e : j = 0 := by omega
  subst e
  exact (At.new w (.cells #[v] t)).cell 0⟩⟩
theorem run_append_bool (w : World) (base : Nat) (v : Value) (n : Nat) (xs : List Value) (hown : w.ownsRow base 4 1 v n xs) (d : Bool) (h63 : n + 1 ≤ maxLen) (hbytes : (n + 1) * 1 ≤ 140737488355328) (hbase : base ≤ w.heap.size) :
    ∃ v' w', (Builtin.append_ #[34, 34] 34 #[v, .slice (some ⟨w.heap.size, 0, none⟩) 1 1]).run Try.prog (w.alloc (.cells #[.bool d] 4)) = .ok v' w' ∧ w'.ownsRow base 4 1 v' (n + 1) (xs ++ [.bool d]) ∧ (w.alloc (.cells #[.bool d] 4)).grownBy w' v.ownBlock := by
  obtain ⟨iB, hiB, hzB0, hzB1, hzB2⟩ := info_parts Try.info4
  obtain ⟨v', w', hrun, a1, a2, _, _⟩ := run_append_own_at (P := Try.prog) (w := w.alloc (.cells #[.bool d] 4)) base 34 34 4 iB (.bool false) 1 1 Try.underlying34 hiB hzB0 hzB1 hzB2 rfl (by decide) v n xs (hown.alloc _) ⟨w.heap.size, 0, none⟩ 1 1 [.bool d] rfl (fun j u hu => by
    have hj : j = 0 := by have := (List.getElem?_eq_some_iff.1 hu).1; simp at this; omega
    subst hj
    rw [Addr.add_lit]
    simp at hu
    rw [← hu]
    exact (At.new w (.cells #[.bool d] 4)).cell 0) (fun u hu => by simp at hu; subst hu; rfl) h63 hbytes (by simp; omega)
  exact ⟨v', w', hrun, a1, a2⟩
/-- Seven cells of a new block, stored one by one. -/
theorem set7 {S : Nat → Prop} {a w : World} {g : Nat} {t : TypeId} {z0 z1 z2 z3 z4 z5 z6 : Value} (h : At w g (.cells #[z0, z1, z2, z3, z4, z5, z6] t (0, 0))) (hc : Chg S a w) (hg : a.heap.size ≤ g) (v0 v1 v2 v3 v4 v5 v6 : Value) :
    At (((((((w.setCell ⟨g, 0, none⟩ v0).setCell ⟨g, 1, none⟩ v1).setCell ⟨g, 2, none⟩ v2).setCell ⟨g, 3, none⟩ v3).setCell ⟨g, 4, none⟩ v4).setCell ⟨g, 5, none⟩ v5).setCell ⟨g, 6, none⟩ v6) g (.cells #[v0, v1, v2, v3, v4, v5, v6] t (0, 0)) ∧
    Chg S a (((((((w.setCell ⟨g, 0, none⟩ v0).setCell ⟨g, 1, none⟩ v1).setCell ⟨g, 2, none⟩ v2).setCell ⟨g, 3, none⟩ v3).setCell ⟨g, 4, none⟩ v4).setCell ⟨g, 5, none⟩ v5).setCell ⟨g, 6, none⟩ v6) := by
  have hn : ∀ p : Addr, p.block = g → p.block < a.heap.size → S p.block := fun p e hl => by omega
  have h0 : At _ g (.cells #[v0, z1, z2, z3, z4, z5, z6] t (0, 0)) := h.set 0 v0
  have h1 : At _ g (.cells #[v0, v1, z2, z3, z4, z5, z6] t (0, 0)) := h0.set 1 v1
  have h2 : At _ g (.cells #[v0, v1, v2, z3, z4, z5, z6] t (0, 0)) := h1.set 2 v2
  have h3 : At _ g (.cells #[v0, v1, v2, v3, z4, z5, z6] t (0, 0)) := h2.set 3 v3
  have h4 : At _ g (.cells #[v0, v1, v2, v3, v4, z5, z6] t (0, 0)) := h3.set 4 v4
  have h5 : At _ g (.cells #[v0, v1, v2, v3, v4, v5, z6] t (0, 0)) := h4.set 5 v5
  have h6 : At _ g (.cells #[v0, v1, v2, v3, v4, v5, v6] t (0, 0)) := h5.set 6 v6
  refine ⟨h6, ?_⟩
  exact ((((((hc.setCell (hn _ rfl) v0).setCell (hn _ rfl) v1).setCell (hn _ rfl) v2).setCell (hn _ rfl) v3).setCell (hn _ rfl) v4).setCell (hn _ rfl) v5).setCell (hn _ rfl) v6

set_option maxRecDepth 100000 in
set_option maxHeartbeats 1600000 in
theorem admitted_any (most : Int) (S : Nat → Int) (w : World) (hm : 0 ≤ most ∧ most ≤ 255)
    (A2 : Option Addr) (n2 c2 : Nat) (xs : List Nat) (hZ2 : Lst .u64 w w.heap.size A2 n2 (castL xs)) (hn2 : n2 ≤ 2147483647) (hx : ∀ x ∈ xs, x ≤ 255)
    (A3 : Option Addr) (n3 c3 : Nat) (ss : List (Nat × Int)) (hZ3 : Prs w w.heap.size A3 n3 ss) (hn3 : n3 ≤ 2147483647) (hs : ∀ p ∈ ss, p.1 < 16 ∧ 0 ≤ p.2 ∧ p.2 ≤ 255)
    (A4 : Option Addr) (c4 : Nat) (hZ4 : Lst .u64 w w.heap.size A4 16 (castL (List.range 16))) :
    Calls Try.prog 23 #[.int .i64 most, .agg (seedA S), .slice A2 n2 c2, .slice A3 n3 c3, .slice A4 16 c4] w (RetTr w most ss) := by
  obtain ⟨iB, hiB, hzB0, hzB1, hzB2⟩ := info_parts Try.info4
  obtain ⟨iP, hiP, hzP0, hzP1, hzP2⟩ := info_parts Try.info51
  obtain ⟨iT, hiT, hzT0, hzT1, hzT2⟩ := info_parts Try.info56
  have hnew := fun W => newPolicy_any most S W
  have HN := Lib.hid hnew
  have HS := Lib.hid hs
  have HX := Lib.hid hx
  clear hnew hs hx
  unfold seedA at HN ⊢
  go_enter Try.func23, Try.ntmps23
  go_wp2_with fail
  refine (HN.out _).mono ?_
  rintro e w1 ⟨RM, RT, Q, T, P, b, M, rfl, hP1, hB1, hb1⟩
  have hbw1 : Below w.heap.size w w1 := ((Below.refl _ _).alloc (Nat.le_refl _) _).trans (hb1.mono (by simp))
  have hBB : ∀ j, j = Q ∨ PoB RM RT P b j → w.heap.size ≤ j ∧ j < w1.heap.size := fun j hj => by
    have := hB1 j hj
    simp at this
    omega
  have HBB := Lib.hid hBB
  clear hB1 hb1 hBB HN
  have hR := At.new w1 (.cells #[.pointer (some ⟨Q, 0, none⟩), .pointer (some ⟨M, 0, none⟩)] 87)
  have hP2 := hP1.chg (S := fun _ => False) ((Chg.refl _ _).alloc (.cells #[.pointer (some ⟨Q, 0, none⟩), .pointer (some ⟨M, 0, none⟩)] 87)) (fun _ _ h => h)
  have hb2 := hbw1.alloc hbw1.size (.cells #[.pointer (some ⟨Q, 0, none⟩), .pointer (some ⟨M, 0, none⟩)] 87)
  have hpu := policyPush_any RM RT Q T P b M 0 most (fun _ => none) _ w.heap.size (fun j hj => (HBB.out j (.inr (by rcases hj with h | h; exact .inl (.inr (.inr h)); exact .inr h))).1) A2 n2 c2 xs (hZ2.below hb2) hb2.size hn2 HX.out hP2
  have HPU := Lib.hid hpu
  have r0 := hR.cell 0
  have r1 := hR.cell 1
  have hsz1 := hbw1.size
  clear hpu hZ2 hP1 hbw1
  unfold polV at HPU ⊢
  go_wp2_with fail
  refine HPU.out.mono ?_
  rintro e w2 ⟨rfl, hP3, hc3⟩
  have hoff : ¬ (RM w1.heap.size ∨ RT w1.heap.size) := fun e => by
    have := HBB.out w1.heap.size (.inr (by rcases e with h | h; exact .inl (.inr (.inr h)); exact .inr h))
    omega
  have hR3 := hc3.at_ hR hoff
  have hb3 : Below w.heap.size w w2 := hb2.trans (hc3.below hb2.size (fun j hj e => by
    have := HBB.out j (.inr (by rcases e with h | h; exact .inl (.inr (.inr h)); exact .inr h))
    omega))
  have hsz3 := hc3.size
  simp only [World.size_alloc] at hsz3
  have hPB : ∀ j, j = Q ∨ PoB RM RT P b j → w.heap.size ≤ j ∧ j < w2.heap.size ∧ j ≠ w1.heap.size := fun j hj => by
    have := HBB.out j hj
    omega
  have HPB := Lib.hid hPB
  have hb4 := hb3.alloc hb3.size (.cells #[] 56)
  have hA0 : AdmS RM RT Q T P b M w1.heap.size w2.heap.size 0 most w (w2.alloc (.cells #[] 56)) (.slice (some ⟨w2.heap.size, 0, none⟩) 0 0) ss 0 [] (fun _ => none) :=
    ⟨hP3.chg (S := fun _ => False) ((Chg.refl _ _).alloc (.cells #[] 56)) (fun _ _ h => h), hR3.alloc _, World.ownsRow_lit w2 #[] 0 (Nat.le_refl _) (Nat.zero_le _) rfl, rfl, fun j hj => absurd hj (Nat.not_lt_zero _), hb4, by simp, RunTo.start most, rfl, okA_none, by rw [total_none]; exact hm.1⟩
  have HA0 := Lib.hid hA0
  have hZ3' := hZ3
  clear hoff hR3 hb3 hb2 hPB hb4 hA0 HPU hc3 hP3 hR hP2 r0 r1 HBB hZ3'
  generalize w1.heap.size = R at HPB HA0 hsz1 hsz3 ⊢
  go_wp2
  go_loopg [12, 31] n3 (fun gk v i wr => ∃ (k : Nat) (ts : List TurnT) (C : Nat → Option Int) (m : Nat), k ≤ n3 ∧ gk = n3 - k ∧ i = .int .i64 (k : Int) ∧ m ≤ k ∧ AdmS RM RT Q T P b M R w2.heap.size m most w wr v ss k ts C)
  case atStart => exact ⟨0, [], _, 0, Nat.zero_le _, rfl, rfl, Nat.le_refl _, HA0.out⟩
  case round =>
    clear HA0
    obtain ⟨k, ts, C, m, hk, hgk, rfl, hmk, hA⟩ := hrel
    by_cases hlt : k < n3
    · have hl3 := hZ3.1
      obtain ⟨b3, o3, rfl, hb3, hp0, hp1⟩ := hZ3.2 k (by omega)
      have hsn := take_snoc ss (0, 0) (show k < ss.length by omega)
      have hin := getD_mem' (d := (0, 0)) (show k < ss.length by omega)
      generalize ss.getD k (0, 0) = p at hp0 hp1 hsn hin
      obtain ⟨pk, pc⟩ := p
      simp only at hp0 hp1
      obtain ⟨hpk, hpc⟩ := HS.out _ hin
      simp only at hpk hpc
      have q0 : wr.cell? ⟨b3, o3 + k * 2, none⟩ = some (.int .u64 (pk : Int)) := (hA.bel.cell (p := ⟨b3, o3 + k * 2, none⟩) hb3).trans hp0
      have q1 : wr.cell? ⟨b3, o3 + k * 2 + 1, none⟩ = some (.int .i64 pc) := (hA.bel.cell (p := ⟨b3, o3 + k * 2 + 1, none⟩) hb3).trans hp1
      have HSN := Lib.hid hsn
      have hRl := hA.box.lt
      have hneR : ¬ wr.heap.size + 1 = R := by omega
      have HA := Lib.hid hA
      have hR1 := hA.box.alloc (.cells #[.int .u64 (pk : Int), .int .i64 pc] 51)
      have r0 : (wr.alloc (.cells #[.int .u64 (pk : Int), .int .i64 pc] 51)).cell? ⟨R, 0, none⟩ = some (.pointer (some ⟨Q, 0, none⟩)) := hR1.cell 0
      have r1 : (wr.alloc (.cells #[.int .u64 (pk : Int), .int .i64 pc] 51)).cell? ⟨R, 1, none⟩ = some (.pointer (some ⟨M, 0, none⟩)) := hR1.cell 1
      have hN := At.new wr (.cells #[.int .u64 (pk : Int), .int .i64 pc] 51)
      have n0 : (wr.alloc (.cells #[.int .u64 (pk : Int), .int .i64 pc] 51)).cell? ⟨wr.heap.size, 0, none⟩ = some (.int .u64 (pk : Int)) := hN.cell 0
      have n1 : (wr.alloc (.cells #[.int .u64 (pk : Int), .int .i64 pc] 51)).cell? ⟨wr.heap.size, 1, none⟩ = some (.int .i64 pc) := hN.cell 1
      have hhas : ∀ W, Chg (fun _ => False) (wr.alloc (.cells #[.int .u64 (pk : Int), .int .i64 pc] 51)) W → Calls Try.prog 44 #[.agg #[.pointer (some ⟨Q, 0, none⟩), .pointer (some ⟨M, 0, none⟩)], .int .u64 (pk : Int)] W fun e w' => e = .returned (.bool (C pk).isSome) ∧ Chg (fun _ => False) W w' := fun W hW =>
        (policyHas_any RM RT Q T P b M m pk most C W hpk ((hA.pol.chg (S := fun _ => False) ((Chg.refl _ _).alloc _) (fun _ _ h => h)).chg hW (fun _ _ h => h))).mono (fun e w' h => ⟨h.1, Chg.of_new h.2⟩)
      have HH := Lib.hid hhas
      have i0 : (0 : Int) ≤ (k : Int) := by omega
      have i1 : (k : Int) < (n3 : Int) := by omega
      clear hp0 hp1 hsn hin hA hhas hR1 hN hl3
      go_upto_region 7 with fail
      go_cut [15] from 35 to 100 (fun v15 wx => ∃ TB : Nat, v15 = .pointer (some ⟨TB, 0, none⟩) ∧ wr.heap.size < TB ∧ At wx TB (.cells #[.int .u64 (pk : Int), .int .i64 pc, .bool (C pk).isSome, .bool false, .slice none 0 0, .int .i64 0, .slice none 0 0] 56 (0, 0)) ∧ Chg (fun _ => False) (wr.alloc (.cells #[.int .u64 (pk : Int), .int .i64 pc] 51)) wx)
      case first =>
        have hWa : Chg (fun _ => False) (wr.alloc (.cells #[.int .u64 (pk : Int), .int .i64 pc] 51)) (((wr.alloc (.cells #[.int .u64 (pk : Int), .int .i64 pc] 51)).alloc (.cells #[.int .u64 0, .int .i64 0, .bool false, .bool false, .slice none 0 0, .int .i64 0, .slice none 0 0] 56)).drew) := ((Chg.refl _ _).alloc _).drew
        have hWb : Chg (fun _ => False) (wr.alloc (.cells #[.int .u64 (pk : Int), .int .i64 pc] 51)) ((wr.alloc (.cells #[.int .u64 (pk : Int), .int .i64 pc] 51)).drew) := (Chg.refl _ _).drew
        have hTz : At ((wr.alloc (.cells #[.int .u64 (pk : Int), .int .i64 pc] 51)).alloc (.cells #[.int .u64 0, .int .i64 0, .bool false, .bool false, .slice none 0 0, .int .i64 0, .slice none 0 0] 56)) (wr.heap.size + 1) (.cells #[.int .u64 0, .int .i64 0, .bool false, .bool false, .slice none 0 0, .int .i64 0, .slice none 0 0] 56) := by
          have h := At.new (wr.alloc (.cells #[.int .u64 (pk : Int), .int .i64 pc] 51)) (.cells #[.int .u64 0, .int .i64 0, .bool false, .bool false, .slice none 0 0, .int .i64 0, .slice none 0 0] 56)
          rw [World.size_alloc] at h
          exact h
        have hoff : (wr.alloc (.cells #[.int .u64 (pk : Int), .int .i64 pc] 51)).heap.size ≤ wr.heap.size + 1 := by rw [World.size_alloc]; exact Nat.le_refl _
        have HOFF := Lib.hid hoff
        have HWa := Lib.hid hWa
        have HWb := Lib.hid hWb
        have HTz := Lib.hid hTz
        clear hWa hWb hTz hoff
        go_region_held3 (fun w' => w'.cell? ⟨wr.heap.size, 0, none⟩ = some (.int .u64 (pk : Int)) ∧ w'.cell? ⟨wr.heap.size, 1, none⟩ = some (.int .i64 pc) ∧ w'.cell? ⟨R, 0, none⟩ = some (.pointer (some ⟨Q, 0, none⟩)) ∧ w'.cell? ⟨R, 1, none⟩ = some (.pointer (some ⟨M, 0, none⟩))) (first | go_keep | (exact ⟨n0', n1', r0', r1'⟩) | (refine ⟨?_, ?_, ?_, ?_⟩ <;> go_keep))
          ((go_at_call 44; refine (HH.out _ (by first | exact HWa.out | exact HWb.out)).mono ?_; rintro e w5 ⟨rfl, hc5⟩; have hcc := (by first | exact HWa.out.trans hc5 | exact HWb.out.trans hc5 : Chg (fun _ => False) (wr.alloc (.cells #[.int .u64 (pk : Int), .int .i64 pc] 51)) w5); have hszc := hcc.size; simp only [World.size_alloc] at hszc; have hlA : wr.heap.size < w5.heap.size := (by omega); have hlR : R < w5.heap.size := (by omega); have hnA : ¬ w5.heap.size = wr.heap.size := (by omega); have hnR : ¬ w5.heap.size = R := (by omega); clear hszc; have n0' := hcc.cell n0 (fun h => h); have n1' := hcc.cell n1 (fun h => h); have r0' := hcc.cell r0 (fun h => h); have r1' := hcc.cell r1 (fun h => h); first | (have hT5 := hc5.at_ (show At (((wr.alloc (.cells #[.int .u64 (pk : Int), .int .i64 pc] 51)).alloc (.cells #[.int .u64 0, .int .i64 0, .bool false, .bool false, .slice none 0 0, .int .i64 0, .slice none 0 0] 56)).drew) _ (.cells #[.int .u64 0, .int .i64 0, .bool false, .bool false, .slice none 0 0, .int .i64 0, .slice none 0 0] 56) from HTz.out) (fun h => h); have t0 := hT5.cell 0; have t1 := hT5.cell 1; have t2 := hT5.cell 2; have t3 := hT5.cell 3; have t4 := hT5.cell 4; have t5 := hT5.cell 5; have t6 := hT5.cell 6; have f0 := hT5.free 0; have f1 := hT5.free 1; have f2 := hT5.free 2; have f3 := hT5.free 3; have f4 := hT5.free 4; have f5 := hT5.free 5; have f6 := hT5.free 6; have hsz := hc5.size; simp at t0 t1 t2 t3 t4 t5 t6 f0 f1 f2 f3 f4 f5 f6 hsz) | skip))
        all_goals
          go_wp2
          go_meet
          case rel =>
            first
            | exact ⟨wr.heap.size + 1, rfl, Nat.lt_succ_self _, set7 hT5 hcc HOFF.out _ _ _ _ _ _ _⟩
            | exact ⟨w5.heap.size, rfl, by omega, At.new _ _, hcc.alloc _⟩
      case rest =>
        obtain ⟨TB, rfl, hTB, hT, hcx⟩ := hcut
        have hcw : Chg (fun _ => False) wr wc := ((Chg.refl _ _).alloc _).trans hcx
        have hPc := HA.out.pol.chg hcw (fun _ _ h => h)
        have hRc := hcw.at_ HA.out.box (fun h => h)
        have hNc := hcx.at_ (At.new wr (.cells #[.int .u64 (pk : Int), .int .i64 pc] 51)) (fun h => h)
        have hlTB := hT.lt
        have hszc := hcw.size
        have hoT : ¬ PoB RM RT P b TB := fun e => by
          have := HPB.out TB (.inr e)
          have := HA.out.b0
          omega
        have hoR : ¬ PoB RM RT P b R := fun e => (HPB.out R (.inr e)).2.2 rfl
        have hoN : ¬ PoB RM RT P b wr.heap.size := fun e => by
          have := HPB.out wr.heap.size (.inr e)
          have := HA.out.b0
          omega
        have hup : ∀ j, PoB RM RT P b j → j < wc.heap.size := fun j e => by
          have := HPB.out j (.inr e)
          have := HA.out.b0
          omega
        have HUP := Lib.hid hup
        have r0 : wc.cell? ⟨R, 0, none⟩ = some (.pointer (some ⟨Q, 0, none⟩)) := hRc.cell 0
        have r1 : wc.cell? ⟨R, 1, none⟩ = some (.pointer (some ⟨M, 0, none⟩)) := hRc.cell 1
        have n0 : wc.cell? ⟨wr.heap.size, 0, none⟩ = some (.int .u64 (pk : Int)) := hNc.cell 0
        have n1 : wc.cell? ⟨wr.heap.size, 1, none⟩ = some (.int .i64 pc) := hNc.cell 1
        have t2 : wc.cell? ⟨TB, 2, none⟩ = some (.bool (C pk).isSome) := hT.cell 2
        have hokC := HA.out.ok
        have hleC := HA.out.le
        obtain ⟨o, ho⟩ : ∃ o, o = (C pk).isSome := ⟨_, rfl⟩
        rw [← ho] at t2 hT
        have HO := Lib.hid ho
        clear q0 q1 HH hcx hup ho
        go_upto_if 45 with fail
        go_cut [] from 35 to 100 (fun wd => ∃ (taken : Bool) (gone : List (Nat × Int)) (gv : Value) (D : Nat → Option Int) (m' : Nat), Pol RM RT wd Q T P b M m' most D ∧ m' ≤ k + 1 ∧ At wd TB (.cells #[.int .u64 (pk : Int), .int .i64 pc, .bool o, .bool taken, gv, .int .i64 0, .slice none 0 0] 56 (0, 0)) ∧
          wd.ownsRow wc.heap.size 51 2 gv gone.length (flatP gone) ∧ Hid ((o = true → taken = false ∧ gone = [] ∧ D = putC C pk none) ∧ (o = false → AddSays C most pk pc gone taken ∧ D = addC C pk pc gone taken) ∧ gone.length ≤ 1000) ∧ Chg (fun j => PoB RM RT P b j ∨ j = TB) wc wd)
        case first =>
          cases o with
          | true =>
            go_wp2_with fail
            refine (policyDel_any RM RT Q T P b M m pk most C wc hpk hokC hPc).mono ?_
            rintro e w6 ⟨rfl, hP6, hc6⟩
            have hc6' : Chg (PoB RM RT P b) wc w6 := hc6.mono (fun _ _ h => .inl h)
            have hT6 := hc6'.at_ hT hoT
            clear r0 r1 n0 n1 t2
            go_wp2
            go_meet
            case rel => exact ⟨false, [], _, _, m, hP6, by omega, hT6, ⟨rfl, .inl ⟨rfl, rfl⟩⟩, Lib.hid ⟨fun _ => ⟨rfl, rfl, rfl⟩, fun h => (by cases h), Nat.zero_le _⟩, hc6'.mono (fun _ _ h => .inl h)⟩
          | false =>
            have hck : C pk = none := by
              have := HO.out
              cases h : C pk with
              | none => rfl
              | some x => rw [h] at this; cases this
            have hadd := policyAdd_any RM RT Q T P b M m pk pc most C wc hpk (by omega) (by omega) hokC hpc hck HUP.out hPc
            clear hck
            go_wp2_with fail
            refine hadd.mono ?_
            rintro e w6 ⟨v, gs, m', taken, rfl, hown, hsay, hlen, hm', hP6, hc6⟩
            have hT6 := hc6.at_ hT hoT
            obtain ⟨Av, cv, rfl, hprs, _⟩ := own_prs hown
            have t3 : w6.cell? ⟨TB, 3, none⟩ = some (.bool false) := hT6.cell 3
            have f3 := hT6.free 3
            have hS3 := hT6.set 3 (.bool taken)
            have hvT := own_ne hown hT6 (by decide)
            have hQT : ∀ j, j = Q ∨ PoB RM RT P b j → ¬ j = TB := fun j hj e => by
              rw [e] at hj
              rcases hj with hj | hj
              · have := (HPB.out TB (.inl hj)); have := HA.out.b0; omega
              · exact hoT hj
            have hP3 := hP6.chg (chg_set w6 TB 3 (.bool taken)) hQT
            have HQT := Lib.hid hQT
            clear hQT
            have hown3 := (chg_set w6 TB 3 (.bool taken)).owns hown (fun j hj e => hvT (by rw [hj, e]))
            have hc3 : Chg (fun j => PoB RM RT P b j ∨ j = TB) wc (w6.setCell ⟨TB, 3, none⟩ (.bool taken)) := (hc6.mono (fun _ _ h => .inl h)).then (chg_set w6 TB 3 (.bool taken)) (fun _ _ e => .inr e)
            have HP3 := Lib.hid hP3
            have HSAY := Lib.hid hsay
            have HC3 := Lib.hid hc3
            clear r0 r1 n0 n1 t2 hadd hP6 hsay hc6 hP3 hc3 hprs hown
            go_wp2
            generalize w6.setCell ⟨TB, 3, none⟩ (.bool taken) = W3 at hS3 hown3 HP3 HC3 ⊢
            change At W3 TB (.cells #[.int .u64 (pk : Int), .int .i64 pc, .bool false, .bool taken, .slice none 0 0, .int .i64 0, .slice none 0 0] 56 (0, 0)) at hS3
            obtain ⟨A', c', hv', hprs, _⟩ := own_prs hown3
            have hvA : Av = A' := by injection hv'
            subst hvA
            clear hv' t3 f3 hT6
            have hsz3 := HC3.out.size
            go_loopg [63] gs.length (fun gl i wl => ∃ (j : Nat) (gv : Value), j ≤ gs.length ∧ gl = gs.length - j ∧ i = .int .i64 (j : Int) ∧ At wl TB (.cells #[.int .u64 (pk : Int), .int .i64 pc, .bool false, .bool taken, gv, .int .i64 0, .slice none 0 0] 56 (0, 0)) ∧ wl.ownsRow W3.heap.size 51 2 gv j (flatP (gs.take j)) ∧ Chg (fun j => j = TB) W3 wl)
            case atStart => exact ⟨0, .slice none 0 0, Nat.zero_le _, rfl, rfl, hS3, ⟨rfl, .inl ⟨rfl, rfl⟩⟩, Chg.refl _ _⟩
            case round =>
              obtain ⟨j, gv, hj, hgl, rfl, hTl, hownl, hcl⟩ := hrel
              have hszl := hcl.size
              by_cases hjl : j < gs.length
              · obtain ⟨bb, o2, rfl, hbb, g0, g1⟩ := hprs.2 j hjl
                have hbT : bb ≠ TB := fun e => hvT (by simp [Value.ownBlock, e])
                have hsn := take_snoc gs (0, 0) hjl
                generalize gs.getD j (0, 0) = gp at g0 g1 hsn
                obtain ⟨pk2, pc2⟩ := gp
                simp only at g0 g1
                have x0 := hcl.cell g0 hbT
                have x1 := hcl.cell g1 hbT
                have t4 : wr.cell? ⟨TB, 4, none⟩ = some gv := hTl.cell 4
                have f4 := hTl.free 4
                have HSN2 := Lib.hid hsn
                have i2 : (0 : Int) ≤ (j : Int) := by omega
                have i3 : (j : Int) < (gs.length : Int) := by omega
                have ot := own_ne hownl hTl (by decide)
                have hm1 : j + 1 ≤ maxLen := by unfold maxLen; omega
                have hm2 : (j + 1) * 16 ≤ 140737488355328 := by omega
                have HM1 := Lib.hid hm1
                have HM2 := Lib.hid hm2
                have hy0 : ((wr.alloc (.cells #[.int .u64 (pk2 : Int), .int .i64 pc2] 93)).alloc (.cells #[.int .u64 (pk2 : Int), .int .i64 pc2] 51)).cell? ⟨wr.heap.size + 1, 0, none⟩ = some (.int .u64 (pk2 : Int)) := by
                  have h := (At.new (wr.alloc (.cells #[.int .u64 (pk2 : Int), .int .i64 pc2] 93)) (.cells #[.int .u64 (pk2 : Int), .int .i64 pc2] 51)).cell 0
                  rw [World.size_alloc] at h
                  exact h
                have hy1 : ((wr.alloc (.cells #[.int .u64 (pk2 : Int), .int .i64 pc2] 93)).alloc (.cells #[.int .u64 (pk2 : Int), .int .i64 pc2] 51)).cell? ⟨wr.heap.size + 1, 1, none⟩ = some (.int .i64 pc2) := by
                  have h := (At.new (wr.alloc (.cells #[.int .u64 (pk2 : Int), .int .i64 pc2] 93)) (.cells #[.int .u64 (pk2 : Int), .int .i64 pc2] 51)).cell 1
                  rw [World.size_alloc] at h
                  exact h
                have HY0 := Lib.hid hy0
                have HY1 := Lib.hid hy1
                have hlT := hTl.lt
                have hTa := (hTl.alloc (.cells #[.int .u64 (pk2 : Int), .int .i64 pc2] 93)).alloc (.cells #[.int .u64 (pk2 : Int), .int .i64 pc2] 51)
                clear g0 g1 hsn hm1 hm2 hy0 hy1
                go_wp2_with (at_builtin; refine wpList_append_pair rfl _ _ 49 rfl W3.heap.size 51 iP (.agg #[.int .u64 0, .int .i64 0]) Try.underlying49 hiP hzP0 hzP1 hzP2 rfl gv j (gs.take j) rfl ((hownl.alloc _).alloc _) (wr.heap.size + 1) pk2 pc2 rfl HY0.out HY1.out HM1.out HM2.out ?c3 ?_)
                case c3 => simp; omega
                intro v' w8 hown8 hgrow
                have hT8 := (Chg.of_grown (S := fun j => gv.ownBlock = some j) hgrow (fun j e _ => e)).at_ hTa ot
                have hc8 := (Chg.of_grown (S := fun j => gv.ownBlock = some j) hgrow (fun j e _ => e))
                have hc9 : Chg (fun j => j = TB) W3 w8 := ((hcl.alloc _).alloc _).then hc8 (fun j hj e => by
                  have := (hownl.lt j e).1
                  omega)
                have t8 : w8.cell? ⟨TB, 4, none⟩ = some gv := hT8.cell 4
                have f8 := hT8.free 4
                have ov8 := own_ne hown8 hT8 (by decide)
                obtain ⟨A8, c8, rfl, _⟩ := own_prs hown8
                clear hgrow hc8 HY0 HY1 hTa ot hownl x0 x1 t4 f4
                go_wp2
                go_roundg (gs.length - (j + 1))
                case measure => omega
                case rel => exact ⟨j + 1, _, by omega, rfl, by go_num, hT8.set 4 _, by rw [HSN2.out]; exact (chg_set w8 TB 4 _).owns hown8 (fun jj hjj e => ov8 (by rw [hjj, e])), hc9.trans (chg_set w8 TB 4 _)⟩
              · have hje : gs.take j = gs := List.take_of_length_le (by omega)
                have hjl' : j = gs.length := by omega
                have HJE := Lib.hid hje
                have HJL := Lib.hid hjl'
                clear hje hjl' hgl
                go_wp2
                go_meet
                case rel => exact ⟨taken, gs, gv, addC C pk pc gs taken, m', HP3.out.chg hcl HQT.out, by omega, hTl, by
                  have h := own_base hownl hsz3
                  rw [HJE.out] at h
                  rw [← HJL.out]
                  exact h, Lib.hid ⟨fun h => (by cases h), fun _ => ⟨HSAY.out, rfl⟩, hlen⟩, HC3.out.then hcl (fun _ _ e => .inr e)⟩
        case rest =>
          obtain ⟨taken, gone, gv, D, m', hPd, hm', hTd, hownd, hsayd, hcd⟩ := hcut
          have hcr : Chg (PoB RM RT P b) wr wc := (hcw.mono (fun _ _ h => h.elim)).then hcd (fun j hj e => by
            rcases e with e | e
            · exact e
            · omega)
          have hRd := hcd.at_ hRc (fun e => by
            rcases e with e | e
            · exact hoR e
            · omega)
          have hwsz := HA.out.bel.size
          have hDD : OkA D ∧ total D 16 ≤ most := by
            have hx := HO.out
            cases o with
            | true =>
              obtain ⟨_, _, rfl⟩ := hsayd.out.1 rfl
              exact ⟨okA_del hokC pk, Int.le_trans (total_rem_le hokC [(pk, 0)]) hleC⟩
            | false =>
              have hck : C pk = none := by
                cases h : C pk with
                | none => rfl
                | some x => rw [h] at hx; cases hx
              obtain ⟨ha, rfl⟩ := hsayd.out.2.1 rfl
              exact ⟨okA_add hokC hpk hpc hck (by omega) ha, most_add hokC hpk hck hleC ha⟩
          obtain ⟨hokD, hleD⟩ := hDD
          have r0d : wc.cell? ⟨R, 0, none⟩ = some (.pointer (some ⟨Q, 0, none⟩)) := hRd.cell 0
          have r1d : wc.cell? ⟨R, 1, none⟩ = some (.pointer (some ⟨M, 0, none⟩)) := hRd.cell 1
          have hcap := policyCap_any RM RT Q T P b M m' most D wc (by omega) hokD hPd
          have hQT : ∀ j, j = Q ∨ PoB RM RT P b j → ¬ j = TB := fun j hj e => by
            rw [e] at hj
            rcases hj with hj | hj
            · have := (HPB.out TB (.inl hj)); have := HA.out.b0; omega
            · exact hoT hj
          have HQT := Lib.hid hQT
          have hRT : ¬ R = TB := by omega
          clear r0 r1 n0 n1 t2 hQT hPc hRc hNc hT hcw
          go_wp2_with fail
          refine hcap.mono ?_
          rintro e w7 ⟨rfl, hb7⟩
          have hc7 : Chg (fun _ => False) wc w7 := Chg.of_new hb7
          have hT7 := hc7.at_ hTd (fun h => h)
          have t5 : w7.cell? ⟨TB, 5, none⟩ = some (.int .i64 0) := hT7.cell 5
          have f5 := hT7.free 5
          have hle : ∃ le, le = most - total D 16 := ⟨_, rfl⟩
          obtain ⟨le, hle⟩ := hle
          rw [← hle]
          have HLE := Lib.hid hle
          have hS9 := hT7.set 5 (.int .i64 le)
          have hP9 := (hPd.chg hc7 (fun _ _ h => h)).chg (chg_set w7 TB 5 (.int .i64 le)) HQT.out
          have hR9 := (chg_set w7 TB 5 (.int .i64 le)).at_ (hc7.at_ hRd (fun h => h)) hRT
          have hown9 := (chg_set w7 TB 5 (.int .i64 le)).owns (hc7.owns hownd (fun _ _ h => h)) (fun j hj e => own_ne hownd hTd (by decide) (by rw [hj, e]))
          have hc9 : Chg (PoB RM RT P b) wr (w7.setCell ⟨TB, 5, none⟩ (.int .i64 le)) := (hcr.trans (hc7.mono (fun _ _ h => h.elim))).then (chg_set w7 TB 5 (.int .i64 le)) (fun j hj e => by omega)
          have hszg := hcd.size
          clear r0d r1d hcap hb7 hle hPd hTd hRd hownd hcd hcr hc7
          go_wp2
          generalize w7.setCell ⟨TB, 5, none⟩ (.int .i64 le) = W9 at hS9 hP9 hR9 hown9 hc9 ⊢
          change At W9 TB (.cells #[.int .u64 (pk : Int), .int .i64 pc, .bool o, .bool taken, gv, .int .i64 le, .slice none 0 0] 56 (0, 0)) at hS9
          have hlT9 := hS9.lt
          clear t5 f5 hT7
          go_loopg [83] 16 (fun gl i wl => ∃ (j : Nat) (hv : Value), j ≤ 16 ∧ gl = 16 - j ∧ i = .int .i64 (j : Int) ∧ At wl TB (.cells #[.int .u64 (pk : Int), .int .i64 pc, .bool o, .bool taken, gv, .int .i64 le, hv] 56 (0, 0)) ∧ wl.ownsRow W9.heap.size 4 1 hv j ((heldL D j).map Value.bool) ∧ Chg (fun j => j = TB) W9 wl)
          case atStart => exact ⟨0, .slice none 0 0, Nat.zero_le _, rfl, rfl, hS9, ⟨rfl, .inl ⟨rfl, rfl⟩⟩, Chg.refl _ _⟩
          case round =>
            obtain ⟨j, hv, hj, hgl, rfl, hTl, hownl, hcl⟩ := hrel
            have hszl := hcl.size
            by_cases hjl : j < 16
            · obtain ⟨b4, o4, rfl, hb4, hx4⟩ := lst_nat hZ4 hjl
              have e4 : (List.range 16).getD j 0 = j := by simp [List.getD, hjl]
              rw [e4] at hx4
              have hbw9 : Below w.heap.size w W9 := HA.out.bel.trans (hc9.below HA.out.bel.size (fun j hj e => by
                have := (HPB.out j (.inr e)).1
                omega))
              have y0 : wr.cell? ⟨b4, o4 + j, none⟩ = some (.int .u64 (j : Int)) := hcl.cell (p := ⟨b4, o4 + j, none⟩) ((hbw9.cell (p := ⟨b4, o4 + j, none⟩) hb4).trans hx4) (fun e => by simp only at e; omega)
              have hRl := hcl.at_ hR9 hRT
              have r0l : wr.cell? ⟨R, 0, none⟩ = some (.pointer (some ⟨Q, 0, none⟩)) := hRl.cell 0
              have r1l : wr.cell? ⟨R, 1, none⟩ = some (.pointer (some ⟨M, 0, none⟩)) := hRl.cell 1
              have t6 : wr.cell? ⟨TB, 6, none⟩ = some hv := hTl.cell 6
              have f6 := hTl.free 6
              have hPl := hP9.chg hcl HQT.out
              have hhas2 : ∀ W, Chg (fun _ => False) wr W → Calls Try.prog 44 #[.agg #[.pointer (some ⟨Q, 0, none⟩), .pointer (some ⟨M, 0, none⟩)], .int .u64 (j : Int)] W fun e w' => e = .returned (.bool (D j).isSome) ∧ Chg (fun _ => False) W w' := fun W hW =>
                (policyHas_any RM RT Q T P b M m' j most D W hjl (hPl.chg hW (fun _ _ h => h))).mono (fun e w' h => ⟨h.1, Chg.of_new h.2⟩)
              have hhs := heldL_succ D j
              generalize (D j).isSome = dj at hhas2 hhs
              have hhm : (heldL D (j + 1)).map Value.bool = (heldL D j).map Value.bool ++ [Value.bool dj] := by rw [hhs]; simp
              have HH2 := Lib.hid hhas2
              have HHM := Lib.hid hhm
              have h1c : ∀ u ∈ [Value.bool dj], u.oneCell' = true := fun u hu => by simp at hu; subst hu; rfl
              have H1C := Lib.hid h1c
              have hm1 : j + 1 ≤ maxLen := by unfold maxLen; omega
              have hm2 : (j + 1) * 1 ≤ 140737488355328 := by omega
              have HM1 := Lib.hid hm1
              have HM2 := Lib.hid hm2
              have i2 : (0 : Int) ≤ (j : Int) := by omega
              have i3 : (j : Int) < 16 := by omega
              clear hx4 e4 hbw9 hRl hPl hhas2 hhs hhm h1c hm1 hm2
              go_upto_region 21 with fail
              go_region_law (first
                  | (refine step_append_vls (by rfl) _ _ 34 (by rfl) W9.heap.size 4 iB (.bool false) 1 Try.underlying34 hiB hzB0 hzB1 hzB2 (by rfl) hv j ((heldL D j).map Value.bool) (by rfl) (by exact ho5.alloc _) (w5.heap.size + 1) (some ⟨w5.heap.size, 0, none⟩) 1 1 [.bool dj] (by rfl) (by exact vls_one _ _ _) (fun e => by cases e) H1C.out HM1.out HM2.out (by simp; omega) ?_
                     intro v6 w6 hown6 hgrow6
                     have hT6 := (Chg.of_grown (S := fun j => hv.ownBlock = some j) hgrow6 (fun j e _ => e)).at_ (hT5.alloc (.cells #[.bool dj] 4)) (own_ne ho5 hT5 (by decide))
                     have hc6 : Chg (fun j => j = TB) W9 w6 := ((hcl.trans (hcc.mono (fun _ _ h => h.elim))).alloc (.cells #[.bool dj] 4)).then (Chg.of_grown (S := fun j => hv.ownBlock = some j) hgrow6 (fun j e _ => e)) (fun j hj e => by have := (hownl.lt j e).1; omega)
                     have t66 : w6.cell? ⟨TB, 6, none⟩ = some hv := hT6.cell 6
                     have f66 := hT6.free 6
                     have ov6 := own_ne hown6 hT6 (by decide)
                     rw [← HHM.out] at hown6
                     obtain ⟨A6, c6, rfl, _⟩ := own_vls hown6
                     clear hgrow6)
                  | (go_simp; go_at_call 44; refine (HH2.out _ (by exact ⟨rfl, rfl, rfl, Nat.le_refl _, fun _ _ _ => rfl⟩)).mono ?_; rintro e w5 ⟨rfl, hc5⟩; have hcc : Chg (fun _ => False) wr w5 := Chg.trans (by exact ⟨rfl, rfl, rfl, Nat.le_refl _, fun _ _ _ => rfl⟩) hc5; have hT5 := hcc.at_ hTl (fun h => h); have hlT5 := hT5.lt; have t65 : w5.cell? ⟨TB, 6, none⟩ = some hv := hT5.cell 6; have ho5 := hcc.owns hownl (fun _ _ h => h); have hsz5 := hcc.size))
              all_goals
                go_wp2
                go_roundg (16 - (j + 1))
                case measure => omega
                case rel => exact ⟨j + 1, _, by omega, rfl, by go_num, hT6.set 6 _, (chg_set w6 TB 6 _).owns hown6 (fun jj hjj e => ov6 (by rw [hjj, e])), hc6.trans (chg_set w6 TB 6 _)⟩
            · obtain rfl : j = 16 := by omega
              have hcE : Chg (PoB RM RT P b) _ wr := hc9.then hcl (fun j hj e => by omega)
              have hrowE := hcE.owns HA.out.row (fun j hj e => by
                have := HPB.out j (.inr e)
                have := (HA.out.row.lt j hj).1
                omega)
              have hgE := hcl.owns hown9 (fun j hj e => own_ne hown9 hS9 (by decide) (by rw [hj, e]))
              have hgb := own_base hgE (show w2.heap.size ≤ _ from Nat.le_trans HA.out.b0 hszc)
              have hhb := own_base hownl (show w2.heap.size ≤ W9.heap.size from Nat.le_trans HA.out.b0 hc9.size)
              have hPE := hP9.chg hcl HQT.out
              have hRE := hcl.at_ hR9 hRT
              have hsayE : TurnSays most C ⟨pk, pc, o, taken, gone, le, heldL D 16, gv, hv⟩ D :=
                ⟨hpk, hpc, HO.out, hsayd.out.1, hsayd.out.2.1, HLE.out, rfl, hsayd.out.2.2, hokC, hokD, hleD⟩
              have t0 : wr.cell? ⟨TB, 0, none⟩ = some (.int .u64 (pk : Int)) := hTl.cell 0
              have t1 : wr.cell? ⟨TB, 1, none⟩ = some (.int .i64 pc) := hTl.cell 1
              have t2 : wr.cell? ⟨TB, 2, none⟩ = some (.bool o) := hTl.cell 2
              have t3 : wr.cell? ⟨TB, 3, none⟩ = some (.bool taken) := hTl.cell 3
              have t4 : wr.cell? ⟨TB, 4, none⟩ = some gv := hTl.cell 4
              have t5 : wr.cell? ⟨TB, 5, none⟩ = some (.int .i64 le) := hTl.cell 5
              have t6 : wr.cell? ⟨TB, 6, none⟩ = some hv := hTl.cell 6
              have HSAYE := Lib.hid hsayE
              have h1c : ∀ u ∈ encT ⟨pk, pc, o, taken, gone, le, heldL D 16, gv, hv⟩, u.oneCell' = true := fun u hu => by
                simp only [encT, List.mem_cons, List.not_mem_nil, or_false] at hu
                rcases hu with rfl | rfl | rfl | rfl | rfl | rfl | rfl
                · rfl
                · rfl
                · rfl
                · rfl
                · exact own_one hgE
                · rfl
                · exact own_one hownl
              have H1C := Lib.hid h1c
              have hm1 : k + 1 ≤ maxLen := by unfold maxLen; omega
              have hm2 : (k + 1) * 80 ≤ 140737488355328 := by omega
              have HM1 := Lib.hid hm1
              have HM2 := Lib.hid hm2
              have hbE : w2.heap.size ≤ wr.heap.size := Nat.le_trans HA.out.b0 hcE.size
              clear hsayE h1c hm1 hm2
              go_wp2_with (at_builtin; refine wpList_append_own_at _ rfl _ _ 52 rfl w2.heap.size 56 iT (.agg #[.int .u64 0, .int .i64 0, .bool false, .bool false, .slice none 0 0, .int .i64 0, .slice none 0 0]) 7 80 Try.underlying52 hiT hzT0 hzT1 hzT2 rfl (by decide) _ _ _ rfl (hrowE.alloc _) ⟨wr.heap.size, 0, none⟩ 1 1 (encT ⟨pk, pc, o, taken, gone, le, heldL D 16, gv, hv⟩) rfl rfl ?c1 H1C.out HM1.out HM2.out ?c5 ?_)
              case c1 =>
                intro i u hu
                have h := (At.new wr (.cells (encT ⟨pk, pc, o, taken, gone, le, heldL D 16, gv, hv⟩).toArray 56)).cell i
                rw [Addr.add_lit, Nat.zero_add]
                exact h.trans (by rw [List.getElem?_toArray]; exact hu)
              case c5 => simp; omega
              intro v9 w9 hown10 hgrow10 _ _
              have hA9 := HA.out.step HPB.out (by omega) (t := ⟨pk, pc, o, taken, gone, le, heldL D 16, gv, hv⟩) hcE hPE hRE hgb (by
                have h := hhb
                simp only [heldL_len] at h ⊢
                exact h) HSAYE.out HSN.out hown10 hgrow10
              have HA9 := Lib.hid hA9
              clear hA9 hown10 hgrow10 t0 t1 t2 t3 t4 t5 t6 hcE hrowE hgE hgb hhb hPE hRE
              go_wp2
              go_roundg (n3 - (k + 1))
              case measure => omega
              case rel => exact ⟨k + 1, _, D, m', by omega, rfl, by go_num, hm', HA9.out⟩
    · have hke : k = n3 := by omega
      have htk : ss.take k = ss := List.take_of_length_le (by have := hZ3.1; omega)
      have HTK := Lib.hid htk
      have HA := Lib.hid hA
      clear hA htk hgk hke
      go_wp2
      go_returns
      have hA := HA.out
      obtain ⟨A, c, rfl, htrn⟩ := own_trn hA.row hA.own
      exact ⟨A, k, c, ts, C, rfl, htrn, hA.run, by rw [← HTK.out]; exact hA.says, hA.bel⟩
end Go.Proofs.Ytoddnjpbmefgnaa
