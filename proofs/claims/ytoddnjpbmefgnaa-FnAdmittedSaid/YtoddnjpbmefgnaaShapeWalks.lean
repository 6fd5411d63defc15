/-
  The walks under FnExactShape: getSize, Size, newBloom, ZZBloom, ZZShape, Shape, Width.
-/
import Derived.Test.YtoddnjpbmefgnaaProg
import Derived.Test.YtoddnjpbmefgnaaMath
import Derived.Test.YtoddnjpbmefgnaaBase
import Derived.Deep.OwnRows
import Derived.Deep.QuietTactic
import Derived.BigQuiet
namespace Go.Proofs.Ytoddnjpbmefgnaa
open Go.RowKit

theorem ex_of_lt {n : Nat} (h : n < 512) : clog 512 = ex n := by unfold ex; rw [show max n 512 = 512 by omega]
theorem ex_of_ge {n : Nat} (h : ¬ n < 512) : clog n = ex n := by unfold ex; rw [show max n 512 = n by omega]
theorem ret_u64s {a b c d : Nat} (h1 : a = c) (h2 : b = d) : Ending.returned (.tuple #[.int .u64 (a : Int), .int .u64 (b : Int)]) = .returned (.tuple #[.int .u64 (c : Int), .int .u64 (d : Int)]) := by rw [h1, h2]

set_option maxRecDepth 100000 in
set_option maxHeartbeats 400000 in
theorem getSize_any (n : Nat) (w : World) (hn : n ≤ 65536) :
    Calls Try.prog 81 #[.int .u64 (n : Int)] w fun e w' => e = .returned (.tuple #[.int .u64 (fsize n : Nat), .int .u64 (ex n : Nat)]) ∧ w = w' := by
  by_cases hlt : n < 512
  · go_enter Try.func81, Try.ntmps81
    go_wp2
    go_loop [2, 3] (fun s x => ∃ P k : Nat, s = .int .u64 P ∧ x = .int .u64 k ∧ 1 ≤ P ∧ P ≤ 65536 ∧ k ≤ 16 ∧ Hid (DblInv 512 P k)) (fun s _ => 65536 - (intOf s).toNat)
    case atStart => exact ⟨1, 0, rfl, rfl, by omega, by omega, by omega, DblInv.start 512⟩
    case round =>
      obtain ⟨P, k, rfl, rfl, hP1, hP, hk, hI⟩ := hrel
      by_cases hp : P < 512
      · go_wp2
        go_round
        case rel =>
          have := (hI.out.step hp).bound (by omega)
          exact ⟨P * 2, k + 1, by go_num, by go_num, this.1, this.2.1, this.2.2, hI.out.step hp⟩
        case measure => simp [intOf]; omega
      · go_wp2
        go_ret2
        obtain ⟨e1, e2⟩ := hI.out.done (by omega)
        exact ⟨ret_u64s (by rw [e1, ex_of_lt hlt]; rfl) (by rw [e2, ex_of_lt hlt]), rfl⟩
  · go_enter Try.func81, Try.ntmps81
    go_wp2
    go_loop [2, 3] (fun s x => ∃ P k : Nat, s = .int .u64 P ∧ x = .int .u64 k ∧ 1 ≤ P ∧ P ≤ 65536 ∧ k ≤ 16 ∧ Hid (DblInv n P k)) (fun s _ => 65536 - (intOf s).toNat)
    case atStart => exact ⟨1, 0, rfl, rfl, by omega, by omega, by omega, DblInv.start n⟩
    case round =>
      obtain ⟨P, k, rfl, rfl, hP1, hP, hk, hI⟩ := hrel
      by_cases hp : P < n
      · go_wp2
        go_round
        case rel =>
          have := (hI.out.step hp).bound (by omega)
          exact ⟨P * 2, k + 1, by go_num, by go_num, this.1, this.2.1, this.2.2, hI.out.step hp⟩
        case measure => simp [intOf]; omega
      · go_wp2
        go_ret2
        obtain ⟨e1, e2⟩ := hI.out.done (by omega)
        exact ⟨ret_u64s (by rw [e1, ex_of_ge hlt]; rfl) (by rw [e2, ex_of_ge hlt]), rfl⟩

theorem Try.info23 : (Try.prog.info? 23).map (fun i => (i.zero, i.size, i.bytes)) = some (some (.int .u64 0), 1, 8) := by kernel_rfl

theorem make_words (n : Nat) (hn : n ≤ 65536) (w : World) :
    (Instr.makeSlice 33 (.int .u64 ((fsize n : Nat) / 64 : Int)) (.int .u64 ((fsize n : Nat) / 64 : Int))).run Try.prog w =
      .ok (.slice (some ⟨w.heap.size, 0, none⟩) (fwords n) (fwords n)) (w.alloc (.cells (madeCells #[.int .u64 0] (fwords n)) 23)) := by
  have e : ((fsize n : Nat) / 64 : Int) = ((fwords n : Nat) : Int) := by have := fsize_div n; omega
  rw [e]
  have h6 := fwords_hi hn
  exact run_make_row' 33 23 (.int .u64 0) 8 Try.underlying33 Try.info23 rfl .u64 .u64 (fwords n) (by omega) (by omega) w

/-- A filter's own cells. -/
def blHead (g m : Nat) (el e sz L sh : Int) : Array Value :=
  #[.slice (some ⟨g, 0, none⟩) m m, .int .u64 el, .int .u64 e, .int .u64 sz, .int .u64 L, .int .u64 sh]

set_option maxRecDepth 100000 in
set_option maxHeartbeats 400000 in
theorem newBloom_any (n : Nat) (L : Int) (w : World) (hn : n ≤ 65536) :
    Calls Try.prog 55 #[.int .u64 (n : Int), .int .u64 L] w fun e w' => e = .returned (.pointer (some ⟨w.heap.size, 0, none⟩)) ∧
      (w.alloc (.cells (blHead (w.heap.size + 1) (fwords n) 0 (ex n : Nat) ((fsize n : Nat) - 1) L (64 - (ex n : Nat))) 105)).alloc (.cells (madeCells #[.int .u64 0] (fwords n)) 23) = w' := by
  have h1 := fsize_lo n
  have h2 := fsize_hi hn
  have h3 := ex_lo n
  have h4 := ex_hi hn
  have hmk := make_words n hn
  go_enter Try.func55, Try.ntmps55
  go_wp2_with fail
  refine (getSize_any n w hn).mono ?_
  rintro e w' ⟨rfl, rfl⟩
  go_wp2
  go_returns
  exact ⟨rfl, rfl⟩

set_option maxRecDepth 100000 in
theorem zzBloom_any (n : Nat) (L : Int) (w : World) (hn : n ≤ 65536) :
    Calls Try.prog 27 #[.int .u64 (n : Int), .int .u64 L] w fun e w' => e = .returned (.pointer (some ⟨w.heap.size, 0, none⟩)) ∧
      (w.alloc (.cells (blHead (w.heap.size + 1) (fwords n) 0 (ex n : Nat) ((fsize n : Nat) - 1) L (64 - (ex n : Nat))) 105)).alloc (.cells (madeCells #[.int .u64 0] (fwords n)) 23) = w' := by
  go_enter Try.func27, Try.ntmps27
  go_wp2_with fail
  refine (newBloom_any n L w hn).mono ?_
  rintro e w' ⟨rfl, rfl⟩
  go_wp2
  go_returns
  exact ⟨rfl, rfl⟩

set_option maxRecDepth 100000 in
theorem zzShape_any (p g m : Nat) (el e sz L sh : Int) (w : World) (h : At w p (.cells (blHead g m el e sz L sh) 105 (0, 0))) :
    Calls Try.prog 28 #[.pointer (some ⟨p, 0, none⟩)] w fun e' w' => e' = .returned (.tuple #[.int .u64 sz, .int .u64 e, .int .u64 L, .int .u64 sh]) ∧ ∃ n, w' = w.drewN n := by
  have h2 : w.cell? ⟨p, 2, none⟩ = some (.int .u64 e) := h.cell 2
  have h3 : w.cell? ⟨p, 3, none⟩ = some (.int .u64 sz) := h.cell 3
  have h4 : w.cell? ⟨p, 4, none⟩ = some (.int .u64 L) := h.cell 4
  have h5 : w.cell? ⟨p, 5, none⟩ = some (.int .u64 sh) := h.cell 5
  go_enter Try.func28, Try.ntmps28
  go_wp2
  go_quiet (fail)
  go_wp2
  go_returns
  exact ⟨rfl, _, rfl⟩

set_option maxRecDepth 100000 in
theorem shape_any (n : Nat) (L : Int) (w : World) (hn : n ≤ 65536) :
    Calls Try.prog 11 #[.int .u64 (n : Int), .int .u64 L] w fun e w' =>
      e = .returned (.tuple #[.int .u64 ((fsize n : Nat) - 1), .int .u64 (ex n : Nat), .int .u64 L, .int .u64 (64 - (ex n : Nat))]) ∧ Below w.heap.size w w' := by
  have hb := (At.new w (.cells (blHead (w.heap.size + 1) (fwords n) 0 (ex n : Nat) ((fsize n : Nat) - 1) L (64 - (ex n : Nat))) 105)).alloc (.cells (madeCells #[.int .u64 0] (fwords n)) 23)
  have hbel : Below w.heap.size w ((w.alloc (.cells (blHead (w.heap.size + 1) (fwords n) 0 (ex n : Nat) ((fsize n : Nat) - 1) L (64 - (ex n : Nat))) 105)).alloc (.cells (madeCells #[.int .u64 0] (fwords n)) 23)) :=
    ((Below.refl _ _).alloc (Nat.le_refl _) _).alloc (by simp) _
  go_enter Try.func11, Try.ntmps11
  go_wp2_with fail
  refine (zzBloom_any n L w hn).mono ?_
  rintro e w' ⟨rfl, rfl⟩
  go_wp2_with fail
  refine (zzShape_any w.heap.size _ _ _ _ _ _ _ _ hb).mono ?_
  rintro e w' ⟨rfl, k, rfl⟩
  go_wp2
  go_returns
  exact ⟨rfl, below_drewN hbel k⟩

set_option maxRecDepth 100000 in
set_option maxHeartbeats 400000 in
theorem width_any (n : Nat) (w : World) (hn : n ≤ 65536) :
    Calls Try.prog 12 #[.int .i64 (n : Int)] w fun e w' => e = .returned (.int .i64 (wid n : Nat)) ∧ w = w' := by
  go_enter Try.func12, Try.ntmps12
  go_wp2
  go_loop [3] (fun s => ∃ P k : Nat, s = .int .i64 P ∧ 1 ≤ P ∧ P ≤ 65536 ∧ Hid (DblInv n P k)) (fun s => 65536 - (intOf s).toNat)
  case atStart => exact ⟨1, 0, rfl, by omega, by omega, DblInv.start n⟩
  case round =>
    obtain ⟨P, k, rfl, hP1, hP, hI⟩ := hrel
    by_cases hp : P < n
    · go_wp2
      go_round
      case rel =>
        have := (hI.out.step hp).bound (by omega)
        exact ⟨P * 2, k + 1, by go_num, this.1, this.2.1, hI.out.step hp⟩
      case measure => simp [intOf]; omega
    · go_wp2
      go_returns
      obtain ⟨e1, e2⟩ := hI.out.done (by omega)
      exact ⟨by rw [e1]; rfl, rfl⟩

theorem pow_cast (n : Nat) : (2 : Int) ^ ex n = ((fsize n : Nat) : Int) := by
  unfold fsize
  exact (Int.natCast_pow 2 (ex n)).symm

set_option maxRecDepth 100000 in
set_option maxHeartbeats 400000 in
theorem law_any (n l : Nat) (w : World) (hn : n ≤ 65535) (hl : l ≤ 255) :
    Calls Try.prog 3 #[.int .u16 (n : Int), .int .u8 (l : Int)] w fun e w' => e = .returned (.bool true) ∧ Below w.heap.size w w' := by
  have h1 := fsize_lo n
  have h2 := fsize_hi (n := n) (by omega)
  have h3 := ex_lo n
  have h4 := ex_hi (n := n) (by omega)
  have h5 := pow_cast n
  have hmax := max_wid n
  by_cases hw : 512 < wid n
  · have e1 : wid n = fsize n := by omega
    clear hmax
    go_enter Try.func3, Try.ntmps3
    go_wp2_with fail
    refine (shape_any n _ w (by omega)).mono ?_
    rintro e w' ⟨rfl, hb⟩
    go_wp2_with fail
    refine (width_any n _ (by omega)).mono ?_
    rintro e w1 ⟨rfl, rfl⟩
    go_wp2
    go_returns
    exact ⟨rfl, hb⟩
  · have e1 : fsize n = 512 := by omega
    clear hmax
    go_enter Try.func3, Try.ntmps3
    go_wp2_with fail
    refine (shape_any n _ w (by omega)).mono ?_
    rintro e w' ⟨rfl, hb⟩
    go_wp2_with fail
    refine (width_any n _ (by omega)).mono ?_
    rintro e w1 ⟨rfl, rfl⟩
    go_wp2
    go_returns
    exact ⟨rfl, hb⟩
end Go.Proofs.Ytoddnjpbmefgnaa
