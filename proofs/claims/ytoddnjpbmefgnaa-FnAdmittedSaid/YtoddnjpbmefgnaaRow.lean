/-
  The walks of a row of counters.
-/
import Derived.Test.YtoddnjpbmefgnaaProg
import Derived.Test.YtoddnjpbmefgnaaRowMath
import Derived.Deep.OwnRows
import Derived.Deep.QuietTactic
import Derived.BigQuiet
namespace Go.Proofs.Ytoddnjpbmefgnaa
open Go.RowKit

set_option maxRecDepth 100000 in
set_option maxHeartbeats 400000 in
theorem get_any (g m n : Nat) (C : Nat → Nat) (w : World) (hg : At w g (.cells (rowA C m) 5 (0, 0))) (hn : n / 2 < m) (hm : m ≤ 1024) (hC : Small C) :
    Calls Try.prog 59 #[.slice (some ⟨g, 0, none⟩) m m, .int .u64 (n : Int)] w fun e w' => e = .returned (.int .u8 ((C n : Nat) : Int)) ∧ w = w' := by
  have hw : w.cell? ⟨g, n / 2, none⟩ = some (.int .u8 ((byteOf C (n / 2) : Nat) : Int)) := (hg.cell _).trans (rowA_get C hn)
  have hp := parity_u64 (n := n) (by omega)
  rcases Nat.mod_two_eq_zero_or_one n with h | h
  · have hv := get_even hC h
    rw [h] at hp
    clear h
    go_enter Try.func59, Try.ntmps59
    go_wp2
    go_returns
    exact ⟨rfl, rfl⟩
  · have hv := get_odd hC h
    rw [h] at hp
    clear h
    go_enter Try.func59, Try.ntmps59
    go_wp2
    go_returns
    exact ⟨rfl, rfl⟩

set_option maxRecDepth 100000 in
set_option maxHeartbeats 400000 in
theorem inc_any (g m n : Nat) (C : Nat → Nat) (w : World) (hg : At w g (.cells (rowA C m) 5 (0, 0))) (hn : n / 2 < m) (hm : m ≤ 1024) (hC : Small C) :
    Calls Try.prog 57 #[.slice (some ⟨g, 0, none⟩) m m, .int .u64 (n : Int)] w fun e w' => e = .returned (.tuple #[]) ∧ At w' g (.cells (rowA (bump C n) m) 5 (0, 0)) ∧ Chg (fun k => k = g) w w' := by
  have hw : w.cell? ⟨g, n / 2, none⟩ = some (.int .u8 ((byteOf C (n / 2) : Nat) : Int)) := (hg.cell _).trans (rowA_get C hn)
  have hf : w.frozen? ⟨g, n / 2, none⟩ = false := hg.free _
  have hp := parity_u64 (n := n) (by omega)
  have hst := hg.set (n / 2) (.int .u8 ((byteOf (bump C n) (n / 2) : Nat) : Int))
  rw [rowA_set] at hst
  have HS := Lib.hid hst
  clear hst
  have hch := (Chg.refl (fun k => k = g) w).setCell (p := ⟨g, n / 2, none⟩) (fun _ => rfl) (.int .u8 ((byteOf (bump C n) (n / 2) : Nat) : Int))
  have HC := Lib.hid hch
  clear hch
  by_cases hc : C n < 15
  · rcases Nat.mod_two_eq_zero_or_one n with h | h
    · have hv := get_even hC h
      have hb : byteOf C (n / 2) + 1 ≤ 255 := by have := byteOf_le (small_bump hC n) (n / 2); rw [byteOf_even h hc] at this; exact this
      have he := Lib.hid (byteOf_even h hc)
      rw [h] at hp
      clear h
      go_enter Try.func57, Try.ntmps57
      go_wp2
      go_returns
      have e : ((byteOf (bump C n) (n / 2) : Nat) : Int) = ((byteOf C (n / 2) : Nat) : Int) + 1 := by have := he.out; omega
      rw [e] at HS HC
      exact ⟨rfl, HS.out, HC.out⟩
    · have hv := get_odd hC h
      have hb : byteOf C (n / 2) + 16 ≤ 255 := by have := byteOf_le (small_bump hC n) (n / 2); rw [byteOf_odd h hc] at this; exact this
      have he := Lib.hid (byteOf_odd h hc)
      rw [h] at hp
      clear h
      go_enter Try.func57, Try.ntmps57
      go_wp2
      go_returns
      have e : ((byteOf (bump C n) (n / 2) : Nat) : Int) = ((byteOf C (n / 2) : Nat) : Int) + 16 := by have := he.out; omega
      rw [e] at HS HC
      exact ⟨rfl, HS.out, HC.out⟩
  · have hfull := bump_full hC hc
    have HF := Lib.hid hfull
    clear hfull HS HC
    rcases Nat.mod_two_eq_zero_or_one n with h | h
    · have hv := get_even hC h
      rw [h] at hp
      clear h
      go_enter Try.func57, Try.ntmps57
      go_wp2
      go_returns
      exact ⟨rfl, by rw [HF.out]; exact hg, Chg.refl _ _⟩
    · have hv := get_odd hC h
      rw [h] at hp
      clear h
      go_enter Try.func57, Try.ntmps57
      go_wp2
      go_returns
      exact ⟨rfl, by rw [HF.out]; exact hg, Chg.refl _ _⟩

set_option maxRecDepth 100000 in
set_option maxHeartbeats 400000 in
theorem reset_any (g m : Nat) (C : Nat → Nat) (w : World) (hg : At w g (.cells (rowA C m) 5 (0, 0))) (hm : m ≤ 1024) (hC : Small C) :
    Calls Try.prog 58 #[.slice (some ⟨g, 0, none⟩) m m] w fun e w' => e = .returned (.tuple #[]) ∧ At w' g (.cells (rowA (half C) m) 5 (0, 0)) ∧ Chg (fun k => k = g) w w' := by
  go_enter Try.func58, Try.ntmps58
  go_wp2
  go_loopw [5] (fun i wr => ∃ k : Nat, k ≤ m ∧ i = .int .i64 k ∧ At wr g (.cells (rowA (halfTo C k) m) 5 (0, 0)) ∧ Chg (fun k => k = g) w wr) (fun i _ => m - (intOf i).toNat)
  case atStart => exact ⟨0, Nat.zero_le _, rfl, by rw [halfTo_zero]; exact hg, Chg.refl _ _⟩
  case round =>
    obtain ⟨k, hk, rfl, hgr, hch⟩ := hrel
    by_cases hlt : k < m
    · have hw : wr.cell? ⟨g, k, none⟩ = some (.int .u8 ((byteOf (halfTo C k) k : Nat) : Int)) := (hgr.cell _).trans (rowA_get _ hlt)
      rw [byteOf_halfTo_ge (Nat.le_refl _)] at hw
      have hf : wr.frozen? ⟨g, k, none⟩ = false := hgr.free _
      have hv := byteOf_half hC k
      have hst := hgr.set k (.int .u8 ((byteOf (half C) k : Nat) : Int))
      rw [rowA_half_step] at hst
      have HS := Lib.hid hst
      clear hst
      go_wp2
      go_roundw
      case rel => exact ⟨k + 1, by omega, by go_num, HS.out, hch.setCell (fun _ => rfl) _⟩
      case measure => simp [intOf]; omega
    · obtain rfl : k = m := by omega
      go_wp2
      go_returns
      exact ⟨rfl, by rw [← rowA_half_all]; exact hgr, hch⟩

theorem Try.info5 : (Try.prog.info? 5).map (fun i => (i.zero, i.size, i.bytes)) = some (some (.int .u8 0), 1, 1) := by kernel_rfl

set_option maxRecDepth 100000 in
set_option maxHeartbeats 400000 in
theorem newRow_any (n : Nat) (w : World) (hn : n ≤ 2048) :
    Calls Try.prog 56 #[.int .i64 (n : Int)] w fun e w' => e = .returned (.slice (some ⟨w.heap.size, 0, none⟩) (n / 2) (n / 2)) ∧ w.alloc (.cells (rowA (fun _ => 0) (n / 2)) 5) = w' := by
  have hmk : ∀ w, (Instr.makeSlice 69 (.int .i64 ((n : Int) / 2)) (.int .i64 ((n : Int) / 2))).run Try.prog w = .ok (.slice (some ⟨w.heap.size, 0, none⟩) (n / 2) (n / 2)) (w.alloc (.cells (rowA (fun _ => 0) (n / 2)) 5)) := fun w => by
    have := run_make_row' 69 5 (.int .u8 0) 1 Try.underlying69 Try.info5 rfl .i64 .i64 (n / 2) (by omega) (by omega) w
    rw [rowA_zero] at this
    have e : ((n / 2 : Nat) : Int) = (n : Int) / 2 := by omega
    rw [e] at this
    exact this
  go_enter Try.func56, Try.ntmps56
  go_wp2
  go_returns
  exact ⟨rfl, rfl⟩
end Go.Proofs.Ytoddnjpbmefgnaa
