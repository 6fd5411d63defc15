/-
  The walks of spec.Estimate, spec.Keys, spec.Count.
-/
import Derived.Test.YtoddnjpbmefgnaaEstimates
import Derived.Test.YtoddnjpbmefgnaaShapeWalks
namespace Go.Proofs.Ytoddnjpbmefgnaa
open Go.RowKit

theorem seed_index0 (f : Nat → Value) (w : World) : (Instr.index 41 (.agg #[f 0, f 1, f 2, f 3]) (.int .i64 0)).run Try.prog w = .ok (f 0) w := by kernel_rfl
theorem seed_index1 (f : Nat → Value) (w : World) : (Instr.index 41 (.agg #[f 0, f 1, f 2, f 3]) (.int .i64 1)).run Try.prog w = .ok (f 1) w := by kernel_rfl
theorem seed_index2 (f : Nat → Value) (w : World) : (Instr.index 41 (.agg #[f 0, f 1, f 2, f 3]) (.int .i64 2)).run Try.prog w = .ok (f 2) w := by kernel_rfl
theorem seed_index3 (f : Nat → Value) (w : World) : (Instr.index 41 (.agg #[f 0, f 1, f 2, f 3]) (.int .i64 3)).run Try.prog w = .ok (f 3) w := by kernel_rfl
theorem seed_index (f : Nat → Value) {k : Nat} (h : k < 4) (w : World) : (Instr.index 41 (.agg #[f 0, f 1, f 2, f 3]) (.int .i64 (k : Int))).run Try.prog w = .ok (f k) w := by
  match k, h with
  | 0, _ => exact seed_index0 f w
  | 1, _ => exact seed_index1 f w
  | 2, _ => exact seed_index2 f w
  | 3, _ => exact seed_index3 f w

theorem min_nat (a b : Nat) : ((min a b : Nat) : Int) = if b < a then (b : Int) else (a : Int) := by
  split <;> omega
theorem fin_at (C : Nat → Nat) (b : Bool) (j : Nat) : fin C b j = if b = true then C j / 2 else C j := by
  unfold fin half; split <;> rfl
theorem min_int (a b : Nat) : ((min a b : Nat) : Int) = if (b : Int) < (a : Int) then (b : Int) else (a : Int) := by
  split <;> omega

set_option maxRecDepth 100000 in
set_option maxHeartbeats 800000 in
theorem specEst_any (N : Nat) (S : Nat → Int) (bb : Bool) (x : Int) (w : World) (hN1 : 2 ≤ N) (hN : N ≤ 257)
    (A : Option Addr) (n c : Nat) (zs : List Int) (hZ : Lst .u64 w w.heap.size A n zs) (hn : n ≤ 2147483648) :
    Calls Try.prog 20 #[.int .i64 (N : Int), .agg (seedA S), .slice A n c, .bool bb, .int .u64 x] w fun e w' => e = .returned (.int .i64 ((est zs S (wid N) bb x : Nat) : Int)) ∧ Below w.heap.size w w' := by
  have hW := Lib.hid (pw_wid hN1 (by omega))
  have hwh := hW.out.hi
  have hwl := hW.out.lo
  have hix : ∀ k : Nat, k < 4 → ∀ w, (Instr.index 41 (.agg #[.int .u64 (S 0), .int .u64 (S 1), .int .u64 (S 2), .int .u64 (S 3)]) (.int .i64 (k : Int))).run Try.prog w = .ok (.int .u64 (S k)) w := fun k hk w => seed_index (fun i => .int .u64 (S i)) hk w
  have HX := Lib.hid hix
  clear hix
  unfold seedA
  go_enter Try.func20, Try.ntmps20
  go_wp2_with fail
  refine (width_any N _ (by omega)).mono ?_
  rintro e w1 ⟨rfl, rfl⟩
  obtain ⟨W, hWe⟩ : ∃ W, W = wid N := ⟨_, rfl⟩
  rw [← hWe] at hW hwh hwl ⊢
  have HWE := Lib.hid hWe
  clear hWe
  go_wp2
  have hb0 : Below w.heap.size w (w.alloc (.cells #[.int .u64 (S 0), .int .u64 (S 1), .int .u64 (S 2), .int .u64 (S 3)] 41)) := (Below.refl _ _).alloc (Nat.le_refl _) _
  go_loopw [12, 22] (fun v i wr => ∃ k : Nat, k ≤ 4 ∧ i = .int .i64 k ∧ v = .int .i64 ((lowTo 15 (rowV zs S W bb x) k : Nat) : Int) ∧ Below w.heap.size w wr) (fun _ i _ => 4 - (intOf i).toNat)
  case atStart => exact ⟨0, by omega, rfl, rfl, hb0⟩
  case round =>
    clear hb0
    obtain ⟨k, hk, rfl, rfl, hbel⟩ := hrel
    have hlo := lowTo_le 15 (rowV zs S W bb x) k
    by_cases hlt : k < 4
    · have hrun := HX.out k hlt
      have hsucc : lowTo 15 (rowV zs S W bb x) (k + 1) = min (lowTo 15 (rowV zs S W bb x) k) (fin (skC zs (S k) W) bb (xo x (S k) % W)) := rfl
      have HSU := Lib.hid hsucc
      clear hsucc
      generalize lowTo 15 (rowV zs S W bb x) k = m at hlo HSU ⊢
      generalize S k = s at hrun HSU
      go_wp2
      clear hrun
      go_loopw [15, 27] (fun v i wr => ∃ q : Nat, q ≤ n ∧ i = .int .i64 q ∧ v = .int .i64 ((skC (zs.take q) s W (xo x s % W) : Nat) : Int) ∧ Below w.heap.size w wr) (fun _ i _ => n - (intOf i).toNat)
      case atStart => exact ⟨0, Nat.zero_le _, rfl, rfl, hbel⟩
      case round =>
        clear hbel
        obtain ⟨q, hq, rfl, rfl, hbel⟩ := hrel
        have hsm := small_skC (zs.take q) s W (xo x s % W)
        by_cases hql : q < n
        · obtain ⟨b', o, rfl, hb, hcell⟩ := hZ.2 q hql
          have hsn := take_snoc zs 0 (show q < zs.length by have := hZ.1; omega)
          generalize zs.getD q 0 = y at hcell hsn
          have hcx : wr.cell? ⟨b', o + q, none⟩ = some (.int .u64 y) := (hbel.cell (p := ⟨b', o + q, none⟩) hb).trans hcell
          have hx := xo_eq x s
          have hy := xo_eq y s
          have hst : skC (zs.take (q + 1)) s W (xo x s % W) = if xo x s % W = xo y s % W then min 15 (skC (zs.take q) s W (xo y s % W) + 1) else skC (zs.take q) s W (xo x s % W) := by rw [hsn, skC_snoc]; rfl
          have HST := Lib.hid hst
          clear hsn hcell hst
          by_cases he : xo x s % W = xo y s % W
          · have ht : (((xo y s : Nat) : Int) % (W : Int) == ((xo x s : Nat) : Int) % (W : Int)) = true := by
              rw [beq_iff_eq]; omega
            rw [he] at hsm HST ⊢
            have he' : skC (zs.take (q + 1)) s W (xo y s % W) = min 15 (skC (zs.take q) s W (xo y s % W) + 1) := HST.out.trans (if_pos rfl)
            have HE := Lib.hid he'
            clear he he' HST
            generalize skC (zs.take q) s W (xo y s % W) = u at hsm HE ⊢
            go_wp2
            go_quiet (fail)
            go_wp2
            go_roundw
            case rel =>
              refine ⟨q + 1, by omega, by go_num, ?_, below_drewN hbel _⟩
              rw [HE.out, min_int]; rfl
            case measure => simp [intOf]; omega
          · have ht : (((xo y s : Nat) : Int) % (W : Int) == ((xo x s : Nat) : Int) % (W : Int)) = false := by
              rw [beq_eq_false_iff_ne]; omega
            have he' : skC (zs.take (q + 1)) s W (xo x s % W) = skC (zs.take q) s W (xo x s % W) := HST.out.trans (if_neg he)
            have HE := Lib.hid he'
            clear he he' HST
            go_wp2
            go_quiet (fail)
            go_wp2
            go_roundw
            case rel => exact ⟨q + 1, by omega, by go_num, by rw [HE.out], below_drewN hbel _⟩
            case measure => simp [intOf]; omega
        · obtain rfl : q = n := by omega
          rw [List.take_of_length_le (Nat.le_of_eq hZ.1)] at hsm ⊢
          rw [fin_at] at HSU
          generalize skC zs s W (xo x s % W) = u at hsm HSU ⊢
          cases bb
          · rw [if_neg (by simp)] at HSU
            go_wp2
            go_roundw
            case rel => exact ⟨k + 1, by omega, by go_num, by rw [HSU.out, min_nat], hbel⟩
            case measure => simp [intOf]; omega
          · rw [if_pos rfl] at HSU
            have e2 : ((u / 2 : Nat) : Int) = (u : Int) / 2 := by omega
            have E2 := Lib.hid e2
            clear e2
            go_wp2
            go_roundw
            case rel => exact ⟨k + 1, by omega, by go_num, by rw [HSU.out, min_int, E2.out], hbel⟩
            case measure => simp [intOf]; omega
    · obtain rfl : k = 4 := by omega
      go_wp2
      go_returns
      exact ⟨by rw [← HWE.out]; rfl, hbel⟩

set_option maxRecDepth 100000 in
set_option maxHeartbeats 400000 in
theorem count_any (A : Option Addr) (n c : Nat) (zs : List Int) (x : Int) (w : World) (B : Nat) (hZ : Lst .u64 w B A n zs) (hn : n ≤ 2147483648) :
    Calls Try.prog 22 #[.slice A n c, .int .u64 x] w fun e w' => e = .returned (.int .i64 ((many zs x : Nat) : Int)) ∧ w' = w := by
  go_enter Try.func22, Try.ntmps22
  go_wp2
  go_loop [5, 10] (fun v i => ∃ k : Nat, k ≤ n ∧ i = .int .i64 k ∧ v = .int .i64 ((many (zs.take k) x : Nat) : Int)) (fun _ i => n - (intOf i).toNat)
  case atStart => exact ⟨0, Nat.zero_le _, rfl, rfl⟩
  case round =>
    obtain ⟨k, hk, rfl, rfl⟩ := hrel
    have hle := many_le (zs.take k) x
    rw [List.length_take] at hle
    by_cases hlt : k < n
    · obtain ⟨b', o, rfl, hb, hcx⟩ := hZ.2 k hlt
      have hsn := take_snoc zs 0 (show k < zs.length by have := hZ.1; omega)
      generalize zs.getD k 0 = y at hcx hsn
      have hms := many_snoc (zs.take k) y x
      rw [← hsn] at hms
      have HM := Lib.hid hms
      clear hsn hms
      have hle2 : many (zs.take k) x ≤ k := by omega
      clear hle
      generalize many (zs.take k) x = u at hle2 HM ⊢
      by_cases he : y = x
      · have ht : (y == x) = true := by simpa using he
        rw [ht] at HM
        clear he
        go_wp2
        go_round
        case rel => exact ⟨k + 1, by omega, by go_num, by rw [HM.out]; simp⟩
        case measure => simp [intOf]; omega
      · have ht : (y == x) = false := by simpa using he
        rw [ht] at HM
        clear he
        go_wp2
        go_round
        case rel => exact ⟨k + 1, by omega, by go_num, by rw [HM.out]; simp⟩
        case measure => simp [intOf]; omega
    · obtain rfl : k = n := by omega
      go_wp2
      go_returns
      exact ⟨by rw [List.take_of_length_le (Nat.le_of_eq hZ.1)]; rfl, rfl⟩

set_option maxRecDepth 100000 in
set_option maxHeartbeats 400000 in
theorem keys_any (A : Option Addr) (n c : Nat) (xs : List Nat) (w : World) (hZ : Lst .u8 w w.heap.size A n (castL xs)) (hn : n ≤ 2147483648) (hx : ∀ x ∈ xs, x ≤ 255) :
    Calls Try.prog 21 #[.slice A n c] w (RetLst .u64 w n (castL xs)) := by
  obtain ⟨i0, hi, hz0, hz1, hz2⟩ := info_parts Try.info23
  go_enter Try.func21, Try.ntmps21
  go_wp2
  go_loopw [3, 9] (fun v i wr => ∃ k : Nat, k ≤ n ∧ i = .int .i64 k ∧ wr.ownsRow w.heap.size 23 1 v k ((castL (xs.take k)).map (Value.int .u64)) ∧ Below w.heap.size w wr) (fun _ i _ => n - (intOf i).toNat)
  case atStart => exact ⟨0, Nat.zero_le _, rfl, World.ownsRow_lit w #[] 0 (Nat.le_refl _) (Nat.zero_le _) rfl, (Below.refl _ _).alloc (Nat.le_refl _) _⟩
  case round =>
    obtain ⟨k, hk, rfl, hown, hbel⟩ := hrel
    have hsz := hbel.size
    by_cases hlt : k < n
    · have hl := lst_len hZ
      obtain ⟨b, o, rfl, hb, hcell⟩ := lst_nat hZ hlt
      have hsn := take_snoc xs 0 (show k < xs.length by omega)
      have hxb := hx _ (getD_mem (show k < xs.length by omega))
      generalize xs.getD k 0 = x at hcell hsn hxb
      have hcx : wr.cell? ⟨b, o + k, none⟩ = some (.int .u8 (x : Int)) := (hbel.cell (p := ⟨b, o + k, none⟩) hb).trans hcell
      have hcs : (castL (xs.take (k + 1))).map (Value.int .u64) = (castL (xs.take k)).map (Value.int .u64) ++ [.int .u64 (x : Int)] := by rw [hsn]; simp [castL]
      have HS := Lib.hid hcs
      have HL := Lib.hid hl
      clear hsn hcell hl hcs
      go_wp2_with (at_builtin; refine wpList_append_own _ rfl _ _ 33 rfl w.heap.size 23 i0 (.int .u64 0) 1 8 Try.underlying33 hi hz0 hz1 hz2 rfl (by decide) _ _ _ rfl (hown.alloc _) ⟨wr.heap.size, 0, none⟩ 1 1 [.int .u64 (x : Int)] rfl rfl ?c1 ?c2 ?c3 ?c4 ?c5 ?_)
      case c1 => exact cell_one_new _ _ _
      case c2 => intro u hu; simp at hu; subst hu; rfl
      case c3 => unfold maxLen; omega
      case c4 => omega
      case c5 => simp; omega
      · intro v' w2 hown2 hgrow _
        have hb2 : Below w.heap.size w w2 := (hbel.alloc (by omega) _).grown hgrow (by simp; omega) (fun j hj => (hown.lt j hj).1)
        clear hgrow hown
        go_wp2
        go_roundw
        case rel => exact ⟨k + 1, by omega, by go_num, by rw [HS.out]; exact hown2, hb2⟩
        case measure => simp [intOf]; omega
    · obtain rfl : k = n := by omega
      go_wp2
      go_returns
      obtain ⟨A2, c2, rfl, hv⟩ := own_vls hown
      refine ⟨A2, c2, rfl, ?_, hbel⟩
      rw [List.take_of_length_le (Nat.le_of_eq (lst_len hZ))] at hv
      exact vls_lst hv
end Go.Proofs.Ytoddnjpbmefgnaa
