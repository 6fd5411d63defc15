/-
  The walks of spec.Steps and spec.After.
-/
import Derived.Test.YtoddnjpbmefgnaaCostsMath
import Derived.Deep.RegionHeld3
namespace Go.Proofs.Ytoddnjpbmefgnaa
open Go.RowKit

theorem run_append_pair {P : Program} {w : World} (t ty : TypeId) (base : Nat) (e : TypeId) (i : TypeInfo) (z : Value) (ht : P.underlying t = some (.slice e)) (hi : P.info? e = some i) (hz : i.zero = some z)
    (hsize : i.size = 2) (hby : i.bytes = 16) (hzs : z.cells.size = 2)
    (v : Value) (n : Nat) (ps : List (Nat × Int)) (hown : w.ownsRow base e 2 v n (flatP ps))
    (H : Nat) (k : Nat) (c : Int) (h0 : w.cell? ⟨H, 0, none⟩ = some (.int .u64 (k : Int))) (h1 : w.cell? ⟨H, 1, none⟩ = some (.int .i64 c))
    (h63 : n + 1 ≤ maxLen) (hbytes : (n + 1) * 16 ≤ 140737488355328) (hbase : base ≤ w.heap.size) :
    ∃ v' w', (Builtin.append_ #[t, t] ty #[v, .slice (some ⟨H, 0, none⟩) 1 1]).run P w = .ok v' w' ∧ w'.ownsRow base e 2 v' (n + 1) (flatP (ps ++ [(k, c)])) ∧ w.grownBy w' v.ownBlock := by
  obtain ⟨v', w', hrun, a1, a2, _, _⟩ := run_append_own_at (P := P) (w := w) base t ty e i z 2 16 ht hi hz hsize hby hzs (by decide) v n (flatP ps) hown ⟨H, 0, none⟩ 1 1 (encP (k, c)) rfl (fun j u hu => by
      rw [Addr.add_lit]
      match j, hu with
      | 0, hu => simp [encP] at hu; rw [← hu]; exact h0
      | 1, hu => simp [encP] at hu; rw [← hu]; exact h1
      | j + 2, hu => simp [encP] at hu) (fun u hu => by simp [encP] at hu; rcases hu with rfl | rfl <;> rfl) h63 hbytes hbase
  exact ⟨v', w', hrun, by rw [flatP_snoc]; exact a1, a2⟩

theorem step_append_pair {P : Program} {w : World} {ops : Array Oper} {o : Oper} {a : Act} {K : Act → World → Prop} {Q : Exit → Act → World → Prop} {E : Prop} (hgd : o.guard = none) (s x : Operand) (t : TypeId)
    (ho : o.op = .call { callee := .builtin .append, args := #[s, x], argTypes := #[t, t] })
    (base : Nat) (e : TypeId) (i : TypeInfo) (z : Value) (ht : P.underlying t = some (.slice e)) (hi : P.info? e = some i) (hz : i.zero = some z)
    (hsize : i.size = 2) (hby : i.bytes = 16) (hzs : z.cells.size = 2)
    (v : Value) (n : Nat) (ps : List (Nat × Int)) (hs : a.eval s = v) (hown : w.ownsRow base e 2 v n (flatP ps))
    (H : Nat) (k : Nat) (c : Int) (hx : a.eval x = .slice (some ⟨H, 0, none⟩) 1 1) (h0 : w.cell? ⟨H, 0, none⟩ = some (.int .u64 (k : Int))) (h1 : w.cell? ⟨H, 1, none⟩ = some (.int .i64 c))
    (h63 : n + 1 ≤ maxLen) (hbytes : (n + 1) * 16 ≤ 140737488355328) (hbase : base ≤ w.heap.size)
    (h : ∀ v' w', w'.ownsRow base e 2 v' (n + 1) (flatP (ps ++ [(k, c)])) → w.grownBy w' v.ownBlock → K (a.put o.dst v') w') :
    if Region.wanted o (yielded ops a.tmps) = true then Oper.wp P o a w K Q else E := by
  have hw : Region.wanted o (yielded ops a.tmps) = true := by simp [Region.wanted, hgd]
  rw [if_pos hw]
  obtain ⟨v', w', hrun, a1, a2⟩ := run_append_pair (P := P) (w := w) t o.type base e i z ht hi hz hsize hby hzs v n ps hown H k c h0 h1 h63 hbytes hbase
  unfold Oper.wp
  simp [execOp, ho, resolve, invoke, builtin, hs, hx, hrun, Result.andThen]
  exact h v' w' a1 a2

theorem wpList_append_pair {P : Program} {w : World} {ops : Array Oper} {rest : List Oper} {o : Oper} {a : Act} {Q : Exit → Act → World → Prop} (hgd : o.guard = none) (s x : Operand) (t : TypeId)
    (ho : o.op = .call { callee := .builtin .append, args := #[s, x], argTypes := #[t, t] })
    (base : Nat) (e : TypeId) (i : TypeInfo) (z : Value) (ht : P.underlying t = some (.slice e)) (hi : P.info? e = some i) (hz : i.zero = some z)
    (hsize : i.size = 2) (hby : i.bytes = 16) (hzs : z.cells.size = 2)
    (v : Value) (n : Nat) (ps : List (Nat × Int)) (hs : a.eval s = v) (hown : w.ownsRow base e 2 v n (flatP ps))
    (H : Nat) (k : Nat) (c : Int) (hx : a.eval x = .slice (some ⟨H, 0, none⟩) 1 1) (h0 : w.cell? ⟨H, 0, none⟩ = some (.int .u64 (k : Int))) (h1 : w.cell? ⟨H, 1, none⟩ = some (.int .i64 c))
    (h63 : n + 1 ≤ maxLen) (hbytes : (n + 1) * 16 ≤ 140737488355328) (hbase : base ≤ w.heap.size)
    (h : ∀ v' w', w'.ownsRow base e 2 v' (n + 1) (flatP (ps ++ [(k, c)])) → w.grownBy w' v.ownBlock → wpList P ops Q rest (a.put o.dst v') w') :
    wpList P ops Q (o :: rest) a w := by
  refine wpList_plain hgd fun K hK => ?_
  obtain ⟨v', w', hrun, a1, a2⟩ := run_append_pair (P := P) (w := w) t o.type base e i z ht hi hz hsize hby hzs v n ps hown H k c h0 h1 h63 hbytes hbase
  unfold Oper.wp
  simp only [execOp, ho, resolve, invoke, builtin, Sem.run_bind, Sem.run_pure, Result.andThen_ok, List.map_toArray, List.map_cons, List.map_nil, hs, hx, hrun]
  exact hK _ _ (h v' w' a1 a2)

theorem Try.info51 : (Try.prog.info? 51).map (fun i => (i.zero, i.size, i.bytes)) = some (some (.agg #[.int .u64 0, .int .i64 0]), 2, 16) := by kernel_rfl
theorem Try.info93 : (Try.prog.info? 93).map (fun i => (i.zero, i.size, i.bytes)) = some (some (.agg #[.int .u64 0, .int .i64 0]), 2, 16) := by kernel_rfl

/-- The first n steps that keys and costs say. -/
def stpL (xs : List Nat) (zs : List Int) (n : Nat) : List (Nat × Int) := (List.range n).map fun i => (xs.getD i 0 % 16, zs.getD i 0)
theorem stpL_succ (xs : List Nat) (zs : List Int) (n : Nat) : stpL xs zs (n + 1) = stpL xs zs n ++ [(xs.getD n 0 % 16, zs.getD n 0)] := by simp [stpL, List.range_succ]
theorem stpL_len (xs : List Nat) (zs : List Int) (n : Nat) : (stpL xs zs n).length = n := by simp [stpL]
/-- A call hands back a slice of pairs of its own. -/
def RetPrs (w : World) (n : Nat) (ps : List (Nat × Int)) (e : Ending) (w' : World) : Prop := ∃ A c, e = .returned (.slice A n c) ∧ Prs w' w'.heap.size A n ps ∧ Below w.heap.size w w'

set_option maxRecDepth 100000 in
set_option maxHeartbeats 400000 in
theorem steps_any (A : Option Addr) (n c : Nat) (xs : List Nat) (A' : Option Addr) (n' c' : Nat) (zs : List Int) (w : World) (hZ : Lst .u8 w w.heap.size A n (castL xs)) (hZ' : Lst .i8 w w.heap.size A' n' zs) (hn : n ≤ 2147483647) (hx : ∀ x ∈ xs, x ≤ 255) (hf : Fit .i8 zs) :
    Calls Try.prog 24 #[.slice A n c, .slice A' n' c'] w (RetPrs w (min n n') (stpL xs zs (min n n'))) := by
  obtain ⟨i0, hi, hz0, hz1, hz2⟩ := info_parts Try.info51
  obtain ⟨m, hm⟩ : ∃ m, m = min n n' := ⟨_, rfl⟩
  rw [← hm]
  have hmn : m ≤ n := by omega
  have hmn' : m ≤ n' := by omega
  have hme : ∀ k : Nat, k = m → (k : Int) < n → ¬ (k : Int) < n' := fun k e h => by omega
  have HME := Lib.hid hme
  clear hm hme
  go_enter Try.func24, Try.ntmps24
  go_wp2
  go_loopw [5, 6] (fun v i wr => ∃ k : Nat, k ≤ m ∧ i = .int .i64 k ∧ wr.ownsRow w.heap.size 51 2 v k (flatP (stpL xs zs k)) ∧ Below w.heap.size w wr) (fun _ i _ => m - (intOf i).toNat)
  case atStart => exact ⟨0, Nat.zero_le _, rfl, World.ownsRow_lit w #[] 0 (Nat.le_refl _) (Nat.zero_le _) rfl, (Below.refl _ _).alloc (Nat.le_refl _) _⟩
  case round =>
    obtain ⟨k, hk, rfl, hown, hbel⟩ := hrel
    have hsz := hbel.size
    by_cases hlt : k < m
    · have hl := lst_len hZ
      have hl' := hZ'.1
      obtain ⟨b, o, rfl, hb, hcell⟩ := lst_nat hZ (show k < n by omega)
      obtain ⟨b', o', rfl, hb', hcell'⟩ := hZ'.2 k (by omega)
      have hxb := hx _ (getD_mem (show k < xs.length by omega))
      have hzb := bounds_i8 (hf.getD (show k < zs.length by omega))
      have hst := stpL_succ xs zs k
      generalize xs.getD k 0 = x at hcell hxb hst
      generalize zs.getD k 0 = y at hcell' hzb hst
      have hcx : wr.cell? ⟨b, o + k, none⟩ = some (.int .u8 (x : Int)) := (hbel.cell (p := ⟨b, o + k, none⟩) hb).trans hcell
      have hcy : wr.cell? ⟨b', o' + k, none⟩ = some (.int .i8 y) := (hbel.cell (p := ⟨b', o' + k, none⟩) hb').trans hcell'
      have HS := Lib.hid hst
      clear hst hcell hcell' hl hl'
      have i0' : (0 : Int) ≤ (k : Int) := by omega
      have i1 : (k : Int) < (n : Int) := by omega
      have i2 : (k : Int) < (n' : Int) := by omega
      have hlb : b < wr.heap.size := by omega
      have hlb' : b' < wr.heap.size := by omega
      have hB0 : ∀ (W2 w2 : World) (v : Value), W2.grownBy w2 u5.ownBlock → Chg (fun _ => False) (wr.alloc (.cells #[.int .u64 ((x % 16 : Nat) : Int), .int .i64 y] 51)) W2 → Below w.heap.size w w2 := fun W2 w2 v hg e =>
        ((hbel.alloc hsz _).trans (e.below (by simp; omega) (fun _ _ h => h))).grown hg (by have := e.size; simp at this; omega) (fun j hj => (hown.lt j hj).1)
      have hO0 : ∀ W2 : World, Chg (fun _ => False) (wr.alloc (.cells #[.int .u64 ((x % 16 : Nat) : Int), .int .i64 y] 51)) W2 → W2.ownsRow w.heap.size 51 2 u5 k (flatP (stpL xs zs k)) := fun W2 e => e.owns (hown.alloc _) (fun _ _ h => h)
      have hc0 : ∀ W2 : World, Chg (fun _ => False) (wr.alloc (.cells #[.int .u64 ((x % 16 : Nat) : Int), .int .i64 y] 51)) W2 → W2.cell? ⟨wr.heap.size, 0, none⟩ = some (.int .u64 ((x % 16 : Nat) : Int)) := fun W2 e => e.cell ((At.new wr (.cells #[.int .u64 ((x % 16 : Nat) : Int), .int .i64 y] 51)).cell 0) id
      have hc1 : ∀ W2 : World, Chg (fun _ => False) (wr.alloc (.cells #[.int .u64 ((x % 16 : Nat) : Int), .int .i64 y] 51)) W2 → W2.cell? ⟨wr.heap.size, 1, none⟩ = some (.int .i64 y) := fun W2 e => e.cell ((At.new wr (.cells #[.int .u64 ((x % 16 : Nat) : Int), .int .i64 y] 51)).cell 1) id
      have hm1 : k + 1 ≤ maxLen := by unfold maxLen; omega
      have hm2 : (k + 1) * 16 ≤ 140737488355328 := by omega
      have e1 : IntKind.u64.wrap ((x : Int).tmod 16) = ((x % 16 : Nat) : Int) := by rw [Int.tmod_eq_emod_of_nonneg (by omega)]; exact (IntWalk.u64_in _ (by omega)).trans (by omega)
      have e2 : IntKind.i64.wrap y = y := IntWalk.i64_in _ (by omega)
      have HB := Lib.hid hB0
      have HO := Lib.hid hO0
      have H0 := Lib.hid hc0
      have H1 := Lib.hid hc1
      have M1 := Lib.hid hm1
      have M2 := Lib.hid hm2
      clear hB0 hO0 hc0 hc1 hm1 hm2
      go_wp2_with fail
      go_region_held3 (fun w' => w'.cell? ⟨b, o + k, none⟩ = some (.int .u8 (x : Int)) ∧ w'.cell? ⟨b', o' + k, none⟩ = some (.int .i8 y)) (first | go_keep | (exact ⟨(hb2.cell (p := ⟨b, o + k, none⟩) hb).trans ((hbel.cell (p := ⟨b, o + k, none⟩) hb).symm.trans hcx), (hb2.cell (p := ⟨b', o' + k, none⟩) hb').trans ((hbel.cell (p := ⟨b', o' + k, none⟩) hb').symm.trans hcy)⟩))
        ((refine step_append_pair (by rfl) _ _ 49 (by rfl) w.heap.size 51 i0 (.agg #[.int .u64 0, .int .i64 0]) Try.underlying49 hi hz0 hz1 hz2 (by rfl) u5 k (stpL xs zs k) (by rfl) (by exact HO.out _ ⟨rfl, rfl, rfl, Nat.le_refl _, fun _ _ _ => rfl⟩) wr.heap.size (x % 16) y (by rfl) (by exact H0.out _ ⟨rfl, rfl, rfl, Nat.le_refl _, fun _ _ _ => rfl⟩) (by exact H1.out _ ⟨rfl, rfl, rfl, Nat.le_refl _, fun _ _ _ => rfl⟩) M1.out M2.out (by simp; omega) ?_
          intro v' w2 hown2 hgrow
          have hb2 := HB.out _ w2 u5 hgrow (by exact ⟨rfl, rfl, rfl, Nat.le_refl _, fun _ _ _ => rfl⟩)))
      clear hgrow HB HO H0 H1 M1 M2
      go_wp2
      go_roundw
      case rel => exact ⟨k + 1, by omega, by go_num, by rw [HS.out]; exact hown2, hb2⟩
      case measure => simp [intOf]; omega
    · have hke : k = m := by omega
      have HK := Lib.hid hke
      clear hke
      have hm' := HME.out k HK.out
      go_wp2
      all_goals
        go_returns
        obtain ⟨A2, c2, rfl, hv, _⟩ := own_prs hown
        have e := HK.out
        subst e
        exact ⟨A2, c2, rfl, hv, hbel⟩
end Go.Proofs.Ytoddnjpbmefgnaa
