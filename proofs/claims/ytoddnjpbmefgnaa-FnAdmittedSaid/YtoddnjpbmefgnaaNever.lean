/-
  The keys with what a nil slice says, an append at a step of a drawn region, and the walk of FnNeverBelow.
-/
import Derived.Test.YtoddnjpbmefgnaaEstLaw
import Derived.Deep.RegionHeld3
import Derived.IntWalk
namespace Go.Proofs.Ytoddnjpbmefgnaa
open Go.RowKit

theorem own_vls0 {w : World} {base : Nat} {e : TypeId} {v : Value} {n : Nat} {xs : List Value} (h : w.ownsRow base e 1 v n xs) : ∃ A c, v = .slice A n c ∧ Vls w w.heap.size A n xs ∧ Nil0 A n c := by
  have hl : xs.length = n := by have := h.1; omega
  rcases h.2 with ⟨rfl, rfl⟩ | ⟨g, cap, cur, rfl, hb, hg, r⟩
  · exact ⟨none, 0, rfl, ⟨hl, fun j hj => absurd hj (Nat.not_lt_zero _)⟩, fun _ => ⟨rfl, rfl⟩⟩
  · refine ⟨_, _, rfl, ⟨hl, fun j hj => ⟨g, 0, rfl, (Array.getElem?_eq_some_iff.1 hg).1, ?_⟩⟩, fun e => by cases e⟩
    rw [Nat.zero_add, h.cellAt j (by omega)]
    simp [List.getD, hl, hj]
/-- RetLst, and a nil slice has no room. -/
def RetLst0 (k : IntKind) (w : World) (n : Nat) (zs : List Int) (e : Ending) (w' : World) : Prop := ∃ A c, e = .returned (.slice A n c) ∧ Lst k w' w'.heap.size A n zs ∧ Nil0 A n c ∧ Below w.heap.size w w'

theorem step_append_vls {P : Program} {w : World} {ops : Array Oper} {o : Oper} {a : Act} {K : Act → World → Prop} {Q : Exit → Act → World → Prop} {E : Prop} (hgd : o.guard = none) (s x : Operand) (t : TypeId)
    (ho : o.op = .call { callee := .builtin .append, args := #[s, x], argTypes := #[t, t] })
    (base : Nat) (e : TypeId) (i : TypeInfo) (z : Value) (bytes : Nat) (ht : P.underlying t = some (.slice e)) (hi : P.info? e = some i) (hz : i.zero = some z)
    (hsize : i.size = 1) (hby : i.bytes = bytes) (hzs : z.cells.size = 1)
    (v : Value) (n : Nat) (xs : List Value) (hs : a.eval s = v) (hown : w.ownsRow base e 1 v n xs)
    (B : Nat) (A : Option Addr) (m c : Nat) (news : List Value) (hx : a.eval x = .slice A m c) (hv : Vls w B A m news) (hA : Nil0 A m c) (h1 : ∀ u ∈ news, u.oneCell' = true)
    (h63 : n + m ≤ maxLen) (hbytes : (n + m) * bytes ≤ 140737488355328) (hbase : base ≤ w.heap.size)
    (h : ∀ v' w', w'.ownsRow base e 1 v' (n + m) (xs ++ news) → w.grownBy w' v.ownBlock → K (a.put o.dst v') w') :
    if Region.wanted o (yielded ops a.tmps) = true then Oper.wp P o a w K Q else E := by
  have hw : Region.wanted o (yielded ops a.tmps) = true := by simp [Region.wanted, hgd]
  rw [if_pos hw]
  cases A with
  | none =>
    obtain ⟨rfl, rfl⟩ := hA rfl
    have hn : news = [] := List.eq_nil_of_length_eq_zero hv.1
    subst hn
    have hrun := run_append_owned_none (P := P) w base t o.type e i 1 ht hi v n xs hown
    unfold Oper.wp
    simp [execOp, ho, resolve, invoke, builtin, hs, hx, hrun, Result.andThen]
    exact h v w (by simpa using hown) (World.grownBy.refl w _)
  | some ad =>
    obtain ⟨v', w', hrun, a1, a2, _, _⟩ := run_append_own_at (P := P) (w := w) base t o.type e i z 1 bytes ht hi hz hsize hby hzs (by decide) v n xs hown ad m c news (by have := hv.1; omega) (fun j u hu => by
      have hj : j < m := by have := (List.getElem?_eq_some_iff.1 hu).1; have := hv.1; omega
      obtain ⟨b, o', e', _, hc⟩ := hv.2 j hj
      injection e' with e'
      subst e'
      rw [Addr.add_lit, hc]
      simp [List.getD, hu]) h1 h63 hbytes hbase
    unfold Oper.wp
    simp [execOp, ho, resolve, invoke, builtin, hs, hx, hrun, Result.andThen]
    exact h v' w' a1 a2

set_option maxRecDepth 100000 in
set_option maxHeartbeats 400000 in
theorem keys0_any (A : Option Addr) (n c : Nat) (xs : List Nat) (w : World) (hZ : Lst .u8 w w.heap.size A n (castL xs)) (hn : n ≤ 2147483648) (hx : ∀ x ∈ xs, x ≤ 255) :
    Calls Try.prog 21 #[.slice A n c] w (RetLst0 .u64 w n (castL xs)) := by
  obtain ⟨i0, hi, hz0, hz1, hz2⟩ := info_parts Try.info23
  go_enter Try.func21, Try.ntmps21
  go_wp2
  go_loopw [3, 9] (fun v i wr => ∃ k : Nat, k ≤ n ∧ i = .int .i64 k ∧ wr.ownsRow w.heap.size 23 1 v k ((castL (xs.take k)).map (Value.int .u64)) ∧ Below w.heap.size w wr) (fun _ i _ => n - (intOf i).toNat)
  case atStart => exact ⟨0, Nat.zero_le _, rfl, World.ownsRow_lit w #[] 0 (Nat.le_refl _) (Nat.zero_le _) rfl, (Below.refl _ _).alloc (Nat.le_refl _) _⟩
  case round =>
    obtain ⟨k, hk, rfl, hown, hbel⟩ := hrel
    have hsz := hbel.size
    by_cases hlt : k < n
    · have hl := lst_len hZ
      obtain ⟨b, o, rfl, hb, hcell⟩ := lst_nat hZ hlt
      have hsn := take_snoc xs 0 (show k < xs.length by omega)
      have hxb := hx _ (getD_mem (show k < xs.length by omega))
      generalize xs.getD k 0 = x at hcell hsn hxb
      have hcx : wr.cell? ⟨b, o + k, none⟩ = some (.int .u8 (x : Int)) := (hbel.cell (p := ⟨b, o + k, none⟩) hb).trans hcell
      have hcs : (castL (xs.take (k + 1))).map (Value.int .u64) = (castL (xs.take k)).map (Value.int .u64) ++ [.int .u64 (x : Int)] := by rw [hsn]; simp [castL]
      have HS := Lib.hid hcs
      have HL := Lib.hid hl
      clear hsn hcell hl hcs
      go_wp2_with (at_builtin; refine wpList_append_own _ rfl _ _ 33 rfl w.heap.size 23 i0 (.int .u64 0) 1 8 Try.underlying33 hi hz0 hz1 hz2 rfl (by decide) _ _ _ rfl (hown.alloc _) ⟨wr.heap.size, 0, none⟩ 1 1 [.int .u64 (x : Int)] rfl rfl ?c1 ?c2 ?c3 ?c4 ?c5 ?_)
      case c1 => exact cell_one_new _ _ _
      case c2 => intro u hu; simp at hu; subst hu; rfl
      case c3 => unfold maxLen; omega
      case c4 => omega
      case c5 => simp; omega
      · intro v' w2 hown2 hgrow _
        have hb2 : Below w.heap.size w w2 := (hbel.alloc (by omega) _).grown hgrow (by simp; omega) (fun j hj => (hown.lt j hj).1)
        clear hgrow hown
        go_wp2
        go_roundw
        case rel => exact ⟨k + 1, by omega, by go_num, by rw [HS.out]; exact hown2, hb2⟩
        case measure => simp [intOf]; omega
    · obtain rfl : k = n := by omega
      go_wp2
      go_returns
      obtain ⟨A2, c2, rfl, hv, hnil⟩ := own_vls0 hown
      refine ⟨A2, c2, rfl, ?_, hnil, hbel⟩
      rw [List.take_of_length_le (Nat.le_of_eq (lst_len hZ))] at hv
      exact vls_lst hv

theorem tell_get' (f : Int → Nat) (x : Int) (zs : List Int) {i : Nat} (h : i < zs.length) : (castL (tellL f (x :: zs))).getD (i + 1) 0 = ((f (zs.getD i 0) : Nat) : Int) := by
  simp [tellL, castL, List.getD, h]

set_option maxRecDepth 100000 in
set_option maxHeartbeats 400000 in
theorem never_law (q : Nat) (a b c d : Int) (w : World) (hq : q ≤ 255) (A : Option Addr) (n cp : Nat) (xs : List Nat) (hZ : Lst .u8 w w.heap.size A n (castL xs)) (hx : ∀ x ∈ xs, x ≤ 255) :
    Calls Try.prog 8 #[.int .u8 (q : Int), .int .u64 a, .int .u64 b, .int .u64 c, .int .u64 d, .slice A n cp] w fun e w' => e = .returned (.bool true) ∧ Below w.heap.size w w' := by
  by_cases h1 : 2147483647 < n
  · go_enter Try.func8, Try.ntmps8
    go_wp2
    go_returns
    exact ⟨rfl, Below.refl _ _⟩
  obtain ⟨i0, hi, hz0, hz1, hz2⟩ := info_parts Try.info23
  obtain ⟨N, hN⟩ : ∃ N : Nat, N = 2 + q := ⟨_, rfl⟩
  have hNc : (N : Int) = 2 + (q : Int) := by omega
  have hN1 : 2 ≤ N := by omega
  have hN2 : N ≤ 257 := by omega
  have hlen := lst_len hZ
  obtain ⟨zs, hzs⟩ : ∃ zs, zs = castL xs := ⟨_, rfl⟩
  have hzl : zs.length = n := by rw [hzs, castL_length]; exact hlen
  have hcallE : ∀ (W : World) (A1 A' : Option Addr) (c1 c' : Nat), Lst .u64 W W.heap.size A1 n zs → Lst .u64 W W.heap.size A' (1 + n) (1 :: zs) → Calls Try.prog 19 #[.int .i64 (2 + (q : Int)), .agg #[.int .u64 a, .int .u64 b, .int .u64 c, .int .u64 d], .slice A1 n c1, .bool false, .slice A' (1 + n) c'] W (RetLst .i64 W (1 + n) (castL (tellL (est zs (seeds a b c d) (wid N) false) (1 :: zs)))) := by
    intro W A1 A' c1 c' hW hW'
    have := estimates_any N (seeds a b c d) false W hN1 hN2 A1 n c1 zs hW (by omega) A' (1 + n) c' (1 :: zs) hW' (by omega)
    rw [seedA_is, hNc] at this
    exact this
  have hge : ∀ x, min 15 (many zs x) ≤ est zs (seeds a b c d) (wid N) false x := fun x => est_ge zs _ _ x
  generalize est zs (seeds a b c d) (wid N) false = f at hcallE hge
  have hkeys := keys0_any A n cp xs w hZ (by omega) hx
  rw [← hzs] at hkeys
  have HE := Lib.hid hcallE
  have HK := Lib.hid hkeys
  have HG := Lib.hid hge
  clear hcallE hge hkeys hN hNc hN1 hN2 hzs
  go_enter Try.func8, Try.ntmps8
  go_wp2_with fail
  refine HK.out.mono ?_
  rintro e w1 ⟨Ab, cb, rfl, hL, hnil, hb1⟩
  go_wp2_with fail
  have hZ1 := (Lst.below hL ((Below.refl w1.heap.size w1).alloc (Nat.le_refl _) (.cells #[.int .u64 a, .int .u64 b, .int .u64 c, .int .u64 d] 41))).more (show w1.heap.size ≤ (w1.alloc (.cells #[.int .u64 a, .int .u64 b, .int .u64 c, .int .u64 d] 41)).heap.size by simp)
  have h41 : At (w1.alloc (.cells #[.int .u64 a, .int .u64 b, .int .u64 c, .int .u64 d] 41)) w1.heap.size (.cells #[.int .u64 a, .int .u64 b, .int .u64 c, .int .u64 d] 41 (0, 0)) := At.new _ _
  have hb01 := hb1.alloc hb1.size (.cells #[.int .u64 a, .int .u64 b, .int .u64 c, .int .u64 d] 41)
  generalize w1.alloc (.cells #[.int .u64 a, .int .u64 b, .int .u64 c, .int .u64 d] 41) = W at hZ1 h41 hb01 ⊢
  generalize w1.heap.size = g at h41 ⊢
  clear hL hb1
  have s0 : W.cell? ⟨g, 0, none⟩ = some (.int .u64 a) := h41.cell 0
  have s1 : W.cell? ⟨g, 1, none⟩ = some (.int .u64 b) := h41.cell 1
  have s2 : W.cell? ⟨g, 2, none⟩ = some (.int .u64 c) := h41.cell 2
  have s3 : W.cell? ⟨g, 3, none⟩ = some (.int .u64 d) := h41.cell 3
  have hgl := h41.lt
  have hown0 : ∀ W2 : World, Chg (fun _ => False) (W.alloc (.cells #[.int .u64 1] 23)) W2 → W2.ownsRow W.heap.size 23 1 (.slice (some ⟨W.heap.size, 0, none⟩) 1 1) 1 [.int .u64 1] := fun W2 e =>
    e.owns (World.ownsRow_lit (base := W.heap.size) (e := 23) (size := 1) W #[.int .u64 1] 1 (Nat.le_refl _) (by decide) rfl) (fun _ _ h => h)
  have hV0 : ∀ W2 : World, Chg (fun _ => False) (W.alloc (.cells #[.int .u64 1] 23)) W2 → Vls W2 W.heap.size Ab n (zs.map (Value.int .u64)) := fun W2 e =>
    (lst_vls hZ1).below (((Below.refl _ _).alloc (Nat.le_refl _) _).trans (e.below (by simp) (fun _ _ h => h)))
  have hB0 : ∀ W2 w2 : World, W2.grownBy w2 (some W.heap.size) → Chg (fun _ => False) (W.alloc (.cells #[.int .u64 1] 23)) W2 → Below W.heap.size W w2 := fun W2 w2 hg e =>
    (((Below.refl _ _).alloc (Nat.le_refl _) _).trans (e.below (by simp) (fun _ _ h => h))).grown hg (by have := e.size; simp at this; omega) (fun j hj => by injection hj with hj; omega)
  have hone : ∀ u ∈ zs.map (Value.int .u64), u.oneCell' = true := fun u hu => by obtain ⟨y, _, rfl⟩ := List.mem_map.1 hu; rfl
  have hm1 : 1 + n ≤ maxLen := by unfold maxLen; omega
  have hm2 : (1 + n) * 8 ≤ 140737488355328 := by omega
  have HO := Lib.hid hown0
  have HV := Lib.hid hV0
  have HB := Lib.hid hB0
  have H1 := Lib.hid hone
  have HM1 := Lib.hid hm1
  have HM2 := Lib.hid hm2
  clear hown0 hV0 hB0 hone hm1 hm2
  go_region_held3 (fun w' => w'.cell? ⟨g, 0, none⟩ = some (.int .u64 a) ∧ w'.cell? ⟨g, 1, none⟩ = some (.int .u64 b) ∧ w'.cell? ⟨g, 2, none⟩ = some (.int .u64 c) ∧ w'.cell? ⟨g, 3, none⟩ = some (.int .u64 d)) (first | go_keep | (exact ⟨(hb2.cell (p := ⟨g, 0, none⟩) (by simpa using hgl)).trans (by simpa using s0), (hb2.cell (p := ⟨g, 1, none⟩) (by simpa using hgl)).trans (by simpa using s1), (hb2.cell (p := ⟨g, 2, none⟩) (by simpa using hgl)).trans (by simpa using s2), (hb2.cell (p := ⟨g, 3, none⟩) (by simpa using hgl)).trans (by simpa using s3)⟩) | (exact ⟨((hb2.trans (hb3.mono hb2.size)).cell (p := ⟨g, 0, none⟩) (by simpa using hgl)).trans (by simpa using s0), ((hb2.trans (hb3.mono hb2.size)).cell (p := ⟨g, 1, none⟩) (by simpa using hgl)).trans (by simpa using s1), ((hb2.trans (hb3.mono hb2.size)).cell (p := ⟨g, 2, none⟩) (by simpa using hgl)).trans (by simpa using s2), ((hb2.trans (hb3.mono hb2.size)).cell (p := ⟨g, 3, none⟩) (by simpa using hgl)).trans (by simpa using s3)⟩))
    ((first
      | (refine step_append_vls (by rfl) _ _ 33 (by rfl) W.heap.size 23 i0 (.int .u64 0) 8 Try.underlying33 hi hz0 hz1 hz2 (by rfl) (.slice (some ⟨W.heap.size, 0, none⟩) 1 1) 1 [.int .u64 1] (by rfl) (by exact HO.out _ ⟨rfl, rfl, rfl, Nat.le_refl _, fun _ _ _ => rfl⟩) W.heap.size Ab n cb (zs.map (Value.int .u64)) (by rfl) (by exact HV.out _ ⟨rfl, rfl, rfl, Nat.le_refl _, fun _ _ _ => rfl⟩) hnil H1.out HM1.out HM2.out (by simp) ?_
         intro v' w2 hown hgrow
         have hb2 := HB.out _ w2 hgrow (by exact ⟨rfl, rfl, rfl, Nat.le_refl _, fun _ _ _ => rfl⟩)
         obtain ⟨A', c', rfl, hv⟩ := own_vls hown)
      | (go_at_call 19
         refine (HE.out _ Ab A' cb c' (by exact ((hZ1.below hb2).more hb2.size)) (by exact vls_lst hv)).mono ?_
         rintro e w3 ⟨G, cg, rfl, hG, hb3⟩)))
  have hb3' : Below w2.heap.size w2 w3 := ⟨hb3.os, hb3.tape, hb3.output, hb3.size, hb3.block⟩
  have hbW := hb2.trans (hb3'.mono hb2.size)
  have hbw := hb01.trans (hbW.mono hb01.size)
  have hL3 : Lst .u64 w3 w3.heap.size Ab n zs := (hZ1.below hbW).more hbW.size
  clear hb2 hb3 hb3' hb01 hZ1 hv h41 s0 s1 s2 s3 hbW hown hgrow hgl
  clear HE HO HV HB H1 HM1 HM2
  go_wp2_with fail
  go_loopw [47] (fun i wr => ∃ k : Nat, k ≤ n ∧ i = .int .i64 k ∧ Below w3.heap.size w3 wr) (fun i _ => n - (intOf i).toNat)
  case atStart => exact ⟨0, Nat.zero_le _, rfl, Below.refl _ _⟩
  case round =>
    obtain ⟨k, hk, rfl, hwr⟩ := hrel
    have hbr := hbw.trans (hwr.mono hbw.size)
    by_cases hlt : k < n
    · have hLr := hL3.below hwr
      have hcount := fun x w => count_any Ab n cb zs x w w3.heap.size
      obtain ⟨ba, oa, rfl, hba, hca⟩ := hL3.2 k hlt
      obtain ⟨bg, og, rfl, hbg, hcg⟩ := hG.2 (k + 1) (by omega)
      rw [tell_get' _ _ _ (by omega)] at hcg
      generalize zs.getD k 0 = y at hcg hca
      have hcgr : wr.cell? ⟨bg, og + (k + 1), none⟩ = some (.int .i64 ((f y : Nat) : Int)) := (hwr.cell (p := ⟨bg, og + (k + 1), none⟩) hbg).trans hcg
      have hcar : wr.cell? ⟨ba, oa + k, none⟩ = some (.int .u64 y) := (hwr.cell (p := ⟨ba, oa + k, none⟩) hba).trans hca
      have hcy := fun w => hcount y w
      have HCN := Lib.hid hcy
      have hgy := HG.out y
      have hml := many_le zs y
      clear hcount hcy hcg hca
      have i1 : (k : Int) + 1 < ((1 + n : Nat) : Int) := by omega
      have i2 : IntKind.i64.wrap ((k : Int) + 1) = (k : Int) + 1 := IntWalk.i64_in _ (by omega)
      have i3 : ((k : Int) + 1).toNat = k + 1 := by omega
      have i4 : (0 : Int) ≤ (k : Int) + 1 := by omega
      generalize f y = fy at hcgr hgy
      generalize many zs y = m at HCN hgy hml
      go_wp2_with fail
      go_quiet ((go_at_call 22; exact Calls.quiet_of_same (HCN.out _ (by exact hLr) (by omega))))
      by_cases hm : m < 15
      · have j1 : (m : Int) < 15 := by omega
        have j2 : ¬ ((fy : Int) < (m : Int)) := by omega
        clear hgy hml i1 i2 i3 i4
        go_wp2
        go_roundw
        case rel => exact ⟨k + 1, by omega, by go_num, below_drewN hwr _⟩
        case measure => simp [intOf]; omega
      · have j1 : ¬ ((m : Int) < 15) := by omega
        have j2 : ¬ ((fy : Int) < 15) := by omega
        clear hgy hml i1 i2 i3 i4
        go_wp2
        go_roundw
        case rel => exact ⟨k + 1, by omega, by go_num, below_drewN hwr _⟩
        case measure => simp [intOf]; omega
    · go_wp2
      go_returns
      exact ⟨rfl, hbr⟩
end Go.Proofs.Ytoddnjpbmefgnaa
