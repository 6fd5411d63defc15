/-
  The walks of NewRow, Row's methods, Places, Counters, Raised.
-/
import Derived.Test.YtoddnjpbmefgnaaRow
import Derived.Test.YtoddnjpbmefgnaaSets
namespace Go.Proofs.Ytoddnjpbmefgnaa
open Go.RowKit

set_option maxRecDepth 100000 in
set_option maxHeartbeats 400000 in
theorem rowNew_any (n : Nat) (w : World) (hn : n ≤ 2048) :
    Calls Try.prog 29 #[.int .i64 (n : Int)] w fun e w' => ∃ g, e = .returned (.agg #[.slice (some ⟨g, 0, none⟩) (n / 2) (n / 2)]) ∧ w.heap.size ≤ g ∧ At w' g (.cells (rowA (fun _ => 0) (n / 2)) 5 (0, 0)) ∧ Below w.heap.size w w' := by
  go_enter Try.func29, Try.ntmps29
  go_wp2_with fail
  refine (newRow_any n _ hn).mono ?_
  rintro e w1 ⟨rfl, rfl⟩
  go_wp2
  go_returns
  refine ⟨w.heap.size + 1, rfl, Nat.le_succ _, ?_, ((Below.refl _ _).alloc (Nat.le_refl _) _).alloc (by simp) _⟩
  have := At.new (w.alloc (.cells #[.slice (some ⟨w.heap.size + 1, 0, none⟩) (n / 2) (n / 2)] 71)) (.cells (rowA (fun _ => 0) (n / 2)) 5)
  simpa using this

set_option maxRecDepth 100000 in
set_option maxHeartbeats 400000 in
theorem rowInc_any (g m n : Nat) (C : Nat → Nat) (w : World) (hg : At w g (.cells (rowA C m) 5 (0, 0))) (hn : n / 2 < m) (hm : m ≤ 1024) (hC : Small C) :
    Calls Try.prog 30 #[.agg #[.slice (some ⟨g, 0, none⟩) m m], .int .u64 (n : Int)] w fun e w' => e = .returned (.tuple #[]) ∧ At w' g (.cells (rowA (bump C n) m) 5 (0, 0)) ∧ Chg (fun k => k = g) w w' := by
  go_enter Try.func30, Try.ntmps30
  go_wp2_with fail
  refine (inc_any g m n C _ (hg.alloc _) hn hm hC).mono ?_
  rintro e w1 ⟨rfl, hg1, hc1⟩
  go_wp2
  go_returns
  exact ⟨rfl, hg1, ((Chg.refl _ _).alloc _).trans hc1⟩

set_option maxRecDepth 100000 in
set_option maxHeartbeats 400000 in
theorem rowReset_any (g m : Nat) (C : Nat → Nat) (w : World) (hg : At w g (.cells (rowA C m) 5 (0, 0))) (hm : m ≤ 1024) (hC : Small C) :
    Calls Try.prog 31 #[.agg #[.slice (some ⟨g, 0, none⟩) m m]] w fun e w' => e = .returned (.tuple #[]) ∧ At w' g (.cells (rowA (half C) m) 5 (0, 0)) ∧ Chg (fun k => k = g) w w' := by
  go_enter Try.func31, Try.ntmps31
  go_wp2_with fail
  refine (reset_any g m C _ (hg.alloc _) hm hC).mono ?_
  rintro e w1 ⟨rfl, hg1, hc1⟩
  go_wp2
  go_returns
  exact ⟨rfl, hg1, ((Chg.refl _ _).alloc _).trans hc1⟩

set_option maxRecDepth 100000 in
set_option maxHeartbeats 400000 in
theorem rowGet_any (g m n : Nat) (C : Nat → Nat) (w : World) (hg : At w g (.cells (rowA C m) 5 (0, 0))) (hn : n / 2 < m) (hm : m ≤ 1024) (hC : Small C) :
    Calls Try.prog 32 #[.agg #[.slice (some ⟨g, 0, none⟩) m m], .int .u64 (n : Int)] w fun e w' => e = .returned (.int .u8 ((C n : Nat) : Int)) ∧ Below w.heap.size w w' := by
  go_enter Try.func32, Try.ntmps32
  go_wp2_with fail
  refine (get_any g m n C _ (hg.alloc _) hn hm hC).mono ?_
  rintro e w1 ⟨rfl, rfl⟩
  go_wp2
  go_returns
  exact ⟨rfl, (Below.refl _ _).alloc (Nat.le_refl _) _⟩

/-- A row that a call builds is no row of another element type. -/
theorem own_ne {w : World} {base : Nat} {e t : TypeId} {size n g : Nat} {v : Value} {xs : List Value} {cs : Array Value} (h : w.ownsRow base e size v n xs) (hg : At w g (.cells cs t (0, 0))) (hne : e ≠ t) : v.ownBlock ≠ some g := by
  rcases h.2 with ⟨rfl, _⟩ | ⟨g', cap, cur, rfl, _, hh, _⟩
  · simp [Value.ownBlock]
  · intro he
    have e1 : g' = g := by simpa [Value.ownBlock] using he
    subst e1
    exact At.apart (t := e) hh hg hne rfl
/-- What is no block of the row that an append has turned stands. -/
theorem at_grown {w w' : World} {row : Option Nat} (h : w.grownBy w' row) {g : Nat} {o : Obj} (hg : At w g o) (hne : row ≠ some g) : At w' g o :=
  (h.block g hg.lt fun e => hne e.symm).trans hg

/-- Natural numbers as integers. -/
def castL (xs : List Nat) : List Int := xs.map fun x : Nat => (x : Int)
theorem castL_length (xs : List Nat) : (castL xs).length = xs.length := by simp [castL]
theorem castL_getD (xs : List Nat) (j : Nat) : (castL xs).getD j 0 = ((xs.getD j 0 : Nat) : Int) := by
  simp only [castL, List.getD, List.getElem?_map]
  cases xs[j]? <;> rfl
theorem castL_append (xs ys : List Nat) : castL (xs ++ ys) = castL xs ++ castL ys := by simp [castL]
theorem lst_nat {k : IntKind} {w : World} {B : Nat} {A : Option Addr} {n : Nat} {xs : List Nat} (h : Lst k w B A n (castL xs)) {j : Nat} (hj : j < n) :
    ∃ b o, A = some ⟨b, o, none⟩ ∧ b < B ∧ w.cell? ⟨b, o + j, none⟩ = some (.int k ((xs.getD j 0 : Nat) : Int)) := by
  obtain ⟨b, o, e, hb, hc⟩ := h.2 j hj
  exact ⟨b, o, e, hb, by rw [hc, castL_getD]⟩
theorem lst_len {k : IntKind} {w : World} {B : Nat} {A : Option Addr} {n : Nat} {xs : List Nat} (h : Lst k w B A n (castL xs)) : xs.length = n := by
  have := h.1; rwa [castL_length] at this
theorem getD_mem {xs : List Nat} {j : Nat} (h : j < xs.length) : xs.getD j 0 ∈ xs := by
  have e : xs.getD j 0 = xs[j] := by simp [List.getD, h]
  rw [e]; exact List.getElem_mem h
/-- Numbers below N. -/
def modL (xs : List Nat) (N : Nat) : List Nat := xs.map (· % N)
theorem modL_snoc (xs : List Nat) (x N : Nat) : (castL (modL (xs ++ [x]) N)).map (Value.int .i64) = (castL (modL xs N)).map (Value.int .i64) ++ [.int .i64 ((x : Int) % (N : Int))] := by
  simp [castL, modL]
theorem modL_lt {xs : List Nat} {N : Nat} (hN : 1 ≤ N) : ∀ p ∈ modL xs N, p < N := by
  intro p hp
  obtain ⟨x, _, rfl⟩ := List.mem_map.1 hp
  exact Nat.mod_lt _ hN
/-- The first N counters. -/
def cntL (C : Nat → Nat) (N : Nat) : List Nat := (List.range N).map C
theorem cntL_snoc (C : Nat → Nat) (k : Nat) : (castL (cntL C (k + 1))).map (Value.int .i64) = (castL (cntL C k)).map (Value.int .i64) ++ [.int .i64 ((C k : Nat) : Int)] := by
  simp [castL, cntL, List.range_succ]
theorem cntL_length (C : Nat → Nat) (N : Nat) : (cntL C N).length = N := by simp [cntL]
theorem cntL_getD (C : Nat → Nat) {N k : Nat} (h : k < N) : (cntL C N).getD k 0 = C k := by simp [cntL, List.getD, h]
theorem Try.info3 : (Try.prog.info? 3).map (fun i => (i.zero, i.size, i.bytes)) = some (some (.int .i64 0), 1, 8) := by kernel_rfl

set_option maxRecDepth 100000 in
set_option maxHeartbeats 400000 in
theorem places_any (A : Option Addr) (n c N : Nat) (xs : List Nat) (w : World) (hZ : Lst .u16 w w.heap.size A n (castL xs)) (hn : n ≤ 2147483648) (hx : ∀ x ∈ xs, x ≤ 65535) (hN : 1 ≤ N) (hN2 : N ≤ 64) :
    Calls Try.prog 13 #[.slice A n c, .int .i64 (N : Int)] w (RetLst .i64 w n (castL (modL xs N))) := by
  obtain ⟨i0, hi, hz0, hz1, hz2⟩ := info_parts Try.info3
  go_enter Try.func13, Try.ntmps13
  go_wp2
  go_loopw [5, 11] (fun v i wr => ∃ k : Nat, k ≤ n ∧ i = .int .i64 k ∧ wr.ownsRow w.heap.size 3 1 v k ((castL (modL (xs.take k) N)).map (Value.int .i64)) ∧ Below w.heap.size w wr) (fun _ i _ => n - (intOf i).toNat)
  case atStart => exact ⟨0, Nat.zero_le _, rfl, World.ownsRow_lit w #[] 0 (Nat.le_refl _) (Nat.zero_le _) rfl, (Below.refl _ _).alloc (Nat.le_refl _) _⟩
  case round =>
    obtain ⟨k, hk, rfl, hown, hbel⟩ := hrel
    have hsz := hbel.size
    by_cases hlt : k < n
    · have hl := lst_len hZ
      obtain ⟨b, o, rfl, hb, hcell⟩ := lst_nat hZ hlt
      have hsn := take_snoc xs 0 (show k < xs.length by omega)
      have hxb := hx _ (getD_mem (show k < xs.length by omega))
      generalize xs.getD k 0 = x at hcell hsn hxb
      have hcx : wr.cell? ⟨b, o + k, none⟩ = some (.int .u16 (x : Int)) := (hbel.cell (p := ⟨b, o + k, none⟩) hb).trans hcell
      have HS := Lib.hid hsn
      have HL := Lib.hid hl
      clear hsn hcell hl
      go_wp2_with (at_builtin; refine wpList_append_own _ rfl _ _ 29 rfl w.heap.size 3 i0 (.int .i64 0) 1 8 Try.underlying29 hi hz0 hz1 hz2 rfl (by decide) _ _ _ rfl (hown.alloc _) ⟨wr.heap.size, 0, none⟩ 1 1 [.int .i64 ((x : Int) % (N : Int))] rfl rfl ?c1 ?c2 ?c3 ?c4 ?c5 ?_)
      case c1 => exact cell_one_new _ _ _
      case c2 => intro u hu; simp at hu; subst hu; rfl
      case c3 => unfold maxLen; omega
      case c4 => omega
      case c5 => simp; omega
      · intro v' w2 hown2 hgrow _
        have hb2 : Below w.heap.size w w2 := (hbel.alloc (by omega) _).grown hgrow (by simp; omega) (fun j hj => (hown.lt j hj).1)
        clear hgrow hown
        go_wp2
        go_roundw
        case rel =>
          refine ⟨k + 1, by omega, by go_num, ?_, hb2⟩
          rw [HS.out, modL_snoc]
          exact hown2
        case measure => simp [intOf]; omega
    · obtain rfl : k = n := by omega
      go_wp2
      go_returns
      obtain ⟨A2, c2, rfl, hv⟩ := own_vls hown
      refine ⟨A2, c2, rfl, ?_, hbel⟩
      rw [List.take_of_length_le (Nat.le_of_eq (lst_len hZ))] at hv
      exact vls_lst hv

set_option maxRecDepth 100000 in
set_option maxHeartbeats 400000 in
theorem counters_any (A : Option Addr) (n c N : Nat) (ps : List Nat) (b : Bool) (w : World) (hZ : Lst .i64 w w.heap.size A n (castL ps)) (hn : n ≤ 2147483648) (hp : ∀ p ∈ ps, p < N) (hN2 : N ≤ 64) (hev : N / 2 * 2 = N) :
    Calls Try.prog 14 #[.int .i64 (N : Int), .slice A n c, .bool b] w (RetLst .i64 w N (castL (cntL (fin (cnt ps) b) N))) := by
  obtain ⟨i0, hi, hz0, hz1, hz2⟩ := info_parts Try.info3
  have hev := Lib.hid hev
  go_enter Try.func14, Try.ntmps14
  go_wp2_with fail
  refine (rowNew_any N w (by omega)).mono ?_
  rintro e w1 ⟨g, rfl, hg, hA, hb1⟩
  go_wp2
  have hR : At (w1.alloc (.cells #[.slice (some ⟨g, 0, none⟩) (N / 2) (N / 2)] 71)) w1.heap.size (.cells #[.slice (some ⟨g, 0, none⟩) (N / 2) (N / 2)] 71 (0, 0)) := At.new _ _
  have hA1 := hA.alloc (.cells #[.slice (some ⟨g, 0, none⟩) (N / 2) (N / 2)] 71)
  have hbel0 := hb1.alloc hb1.size (.cells #[.slice (some ⟨g, 0, none⟩) (N / 2) (N / 2)] 71)
  have hRw := hb1.size
  generalize w1.alloc (.cells #[.slice (some ⟨g, 0, none⟩) (N / 2) (N / 2)] 71) = w2 at hR hA1 hbel0 ⊢
  generalize w1.heap.size = R at hR hRw ⊢
  clear hA hb1
  go_loopw [16] (fun i wr => ∃ k : Nat, k ≤ n ∧ i = .int .i64 k ∧ At wr R (.cells #[.slice (some ⟨g, 0, none⟩) (N / 2) (N / 2)] 71 (0, 0)) ∧ At wr g (.cells (rowA (cnt (ps.take k)) (N / 2)) 5 (0, 0)) ∧ Below w.heap.size w wr) (fun i _ => n - (intOf i).toNat)
  case atStart => exact ⟨0, Nat.zero_le _, rfl, hR, hA1, hbel0⟩
  case round =>
    clear hR hA1 hbel0
    obtain ⟨k, hk, rfl, hRr, hgr, hbel⟩ := hrel
    have cR : wr.cell? ⟨R, 0, none⟩ = some (.slice (some ⟨g, 0, none⟩) (N / 2) (N / 2)) := hRr.cell 0
    by_cases hlt : k < n
    · have hl := lst_len hZ
      obtain ⟨b', o, rfl, hb, hcell⟩ := lst_nat hZ hlt
      have hsn := take_snoc ps 0 (show k < ps.length by omega)
      have hpb := hp _ (getD_mem (show k < ps.length by omega))
      generalize ps.getD k 0 = p at hcell hsn hpb
      have hcx : wr.cell? ⟨b', o + k, none⟩ = some (.int .i64 (p : Int)) := (hbel.cell (p := ⟨b', o + k, none⟩) hb).trans hcell
      have HS := Lib.hid hsn
      have HL := Lib.hid hl
      clear hsn hcell hl
      go_wp2_with fail
      refine (rowInc_any g (N / 2) p (cnt (ps.take k)) wr hgr (by have := hev.out; omega) (by omega) (small_cnt _)).mono ?_
      rintro e w3 ⟨rfl, hg3, hc3⟩
      have hR3 := hc3.at_ hRr (hRr.apart hgr (by decide))
      have hb3 := hbel.trans (hc3.below hbel.size (fun j hj h => by omega))
      clear cR hcx
      go_wp2
      go_roundw
      case rel => exact ⟨k + 1, by omega, by go_num, hR3, by rw [HS.out, cnt_snoc]; exact hg3, hb3⟩
      case measure => simp [intOf]; omega
    · obtain rfl : k = n := by omega
      rw [List.take_of_length_le (Nat.le_of_eq (lst_len hZ))] at hgr
      have hfin : Calls Try.prog 31 #[.agg #[.slice (some ⟨g, 0, none⟩) (N / 2) (N / 2)]] wr fun e w' => e = .returned (.tuple #[]) ∧ At w' g (.cells (rowA (half (cnt ps)) (N / 2)) 5 (0, 0)) ∧ Chg (fun k => k = g) wr w' := rowReset_any g (N / 2) (cnt ps) wr hgr (by omega) (small_cnt _)
      have HF := Lib.hid hfin
      clear hfin
      have hst : ∃ D, D = fin (cnt ps) b := ⟨_, rfl⟩
      obtain ⟨D, hD⟩ := hst
      have HD := Lib.hid hD
      have hDs : Small D := by rw [hD]; exact small_fin (small_cnt _) b
      have HDs := Lib.hid hDs
      clear hD hDs
      have hRlt := hRr.lt
      cases b
      case' true =>
        go_wp2_with fail
        refine (HF.out).mono ?_
        rintro e w3 ⟨rfl, hg3, hc3⟩
        have hR3 := hc3.at_ hRr (hRr.apart hgr (by decide))
        have hb3 := hbel.trans (hc3.below hbel.size (fun j hj h => by omega))
        have hg4 : At w3 g (.cells (rowA D (N / 2)) 5 (0, 0)) := by rw [HD.out]; exact hg3
      case' false =>
        obtain ⟨w3, hw3⟩ : ∃ w3, w3 = wr := ⟨_, rfl⟩
        have hR3 := hRr
        have hb3 := hbel
        have hg4 : At wr g (.cells (rowA D (N / 2)) 5 (0, 0)) := by rw [HD.out]; exact hgr
        rw [← hw3] at hR3 hb3 hg4 cR ⊢
        clear hw3
      all_goals
        clear hbel hgr hRr
        try clear cR
        go_wp2
        go_loopw [10, 30] (fun v i wr => ∃ k : Nat, k ≤ N ∧ i = .int .i64 k ∧ At wr R (.cells #[.slice (some ⟨g, 0, none⟩) (N / 2) (N / 2)] 71 (0, 0)) ∧ At wr g (.cells (rowA D (N / 2)) 5 (0, 0)) ∧ wr.ownsRow w.heap.size 3 1 v k ((castL (cntL D k)).map (Value.int .i64)) ∧ Below w.heap.size w wr) (fun _ i _ => N - (intOf i).toNat)
        case atStart => exact ⟨0, Nat.zero_le _, rfl, hR3.alloc _, hg4.alloc _, World.ownsRow_lit w3 #[] 0 hb3.size (Nat.zero_le _) rfl, hb3.alloc hb3.size _⟩
        case round =>
          clear hR3 hg4 hb3
          obtain ⟨k, hk, rfl, hRr, hgr, hown, hbel⟩ := hrel
          by_cases hlt : k < N
          · have cR : wr.cell? ⟨R, 0, none⟩ = some (.slice (some ⟨g, 0, none⟩) (N / 2) (N / 2)) := hRr.cell 0
            have hDk := HDs.out k
            go_wp2_with fail
            refine (rowGet_any g (N / 2) k D wr hgr (by have := hev.out; omega) (by omega) HDs.out).mono ?_
            rintro e w4 ⟨rfl, hb4⟩
            have hown4 := (Chg.of_new (S := fun _ => False) hb4).owns hown (fun _ _ h => h)
            have hR4 := hRr.below hb4 hRr.lt
            have hg4 := hgr.below hb4 hgr.lt
            have hb5 := hbel.trans (hb4.mono hbel.size)
            have hsz := hb5.size
            clear cR hb4 hown hgr hRr hbel
            go_wp2_with (at_builtin; refine wpList_append_own _ rfl _ _ 29 rfl w.heap.size 3 i0 (.int .i64 0) 1 8 Try.underlying29 hi hz0 hz1 hz2 rfl (by decide) _ _ _ rfl (hown4.alloc _) ⟨w4.heap.size, 0, none⟩ 1 1 [.int .i64 ((D k : Nat) : Int)] rfl rfl ?_ ?_ ?_ ?_ ?_ ?_)
            · exact cell_one_new _ _ _
            · intro u hu; simp at hu; subst hu; rfl
            · unfold maxLen; omega
            · omega
            · simp; omega
            · intro v' w5 hown5 hgrow _
              have hb6 : Below w.heap.size w w5 := (hb5.alloc (by omega) _).grown hgrow (by simp; omega) (fun j hj => (hown4.lt j hj).1)
              have hR5 := at_grown hgrow (hR4.alloc _) (own_ne hown4 hR4 (by decide))
              have hg5 := at_grown hgrow (hg4.alloc _) (own_ne hown4 hg4 (by decide))
              clear hgrow hown4 hR4 hg4 hb5
              go_wp2
              go_roundw
              case rel => exact ⟨k + 1, by omega, by go_num, hR5, hg5, by rw [cntL_snoc]; exact hown5, hb6⟩
              case measure => simp [intOf]; omega
          · obtain rfl : k = N := by omega
            go_wp2
            go_returns
            obtain ⟨A2, c2, rfl, hv⟩ := own_vls hown
            exact ⟨A2, c2, rfl, by have e := HD.out; rw [← e]; exact vls_lst hv, hbel⟩
end Go.Proofs.Ytoddnjpbmefgnaa
