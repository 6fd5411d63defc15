/-
  The walks of a sketch of four rows, more: Reset, Estimate, the exported type Sketch.
-/
import Derived.Test.YtoddnjpbmefgnaaSketch
namespace Go.Proofs.Ytoddnjpbmefgnaa
open Go.RowKit

/-- The first k rows halved. -/
def halfR (C : Nat → Nat → Nat) (k : Nat) : Nat → Nat → Nat := fun i => if i < k then half (C i) else C i
theorem halfR_zero (C : Nat → Nat → Nat) : halfR C 0 = C := by funext i; simp [halfR]
theorem halfR_at (C : Nat → Nat → Nat) (k : Nat) : halfR C k k = C k := by simp [halfR]
theorem halfR_succ (C : Nat → Nat → Nat) (k : Nat) : halfR C (k + 1) = setV (halfR C k) k (half (C k)) := by
  funext i
  simp only [halfR, setV]
  by_cases h : i = k
  · subst h; rw [if_pos (by omega), if_pos rfl]
  · rw [if_neg h]
    by_cases h2 : i < k
    · rw [if_pos h2, if_pos (by omega)]
    · rw [if_neg h2, if_neg (by omega)]

theorem row_index0 (f : Nat → Value) (w : World) : (Instr.index 130 (.agg #[f 0, f 1, f 2, f 3]) (.int .i64 0)).run Try.prog w = .ok (f 0) w := by kernel_rfl
theorem row_index1 (f : Nat → Value) (w : World) : (Instr.index 130 (.agg #[f 0, f 1, f 2, f 3]) (.int .i64 1)).run Try.prog w = .ok (f 1) w := by kernel_rfl
theorem row_index2 (f : Nat → Value) (w : World) : (Instr.index 130 (.agg #[f 0, f 1, f 2, f 3]) (.int .i64 2)).run Try.prog w = .ok (f 2) w := by kernel_rfl
theorem row_index3 (f : Nat → Value) (w : World) : (Instr.index 130 (.agg #[f 0, f 1, f 2, f 3]) (.int .i64 3)).run Try.prog w = .ok (f 3) w := by kernel_rfl
theorem row_index (f : Nat → Value) {k : Nat} (h : k < 4) (w : World) : (Instr.index 130 (.agg #[f 0, f 1, f 2, f 3]) (.int .i64 (k : Int))).run Try.prog w = .ok (f k) w := by
  match k, h with
  | 0, _ => exact row_index0 f w
  | 1, _ => exact row_index1 f w
  | 2, _ => exact row_index2 f w
  | 3, _ => exact row_index3 f w

set_option maxRecDepth 100000 in
set_option maxHeartbeats 400000 in
theorem skReset_any (P : Nat) (G : Nat → Nat) (S : Nat → Int) (W : Nat) (C : Nat → Nat → Nat) (w : World) (hW : Hid (Pw W)) (h : Sk w P G S W C) :
    Calls Try.prog 64 #[.pointer (some ⟨P, 0, none⟩)] w fun e w' => e = .returned (.tuple #[]) ∧ Sk w' P G S W (halfR C 4) ∧ Chg (SkB P G) w w' := by
  have hhi := hW.out.hi
  have c0 : w.cell? ⟨P, 0, none⟩ = some (rowS (W / 2) (G 0)) := h.head.cell 0
  have c1 : w.cell? ⟨P, 1, none⟩ = some (rowS (W / 2) (G 1)) := h.head.cell 1
  have c2 : w.cell? ⟨P, 2, none⟩ = some (rowS (W / 2) (G 2)) := h.head.cell 2
  have c3 : w.cell? ⟨P, 3, none⟩ = some (rowS (W / 2) (G 3)) := h.head.cell 3
  have hix : ∀ k : Nat, k < 4 → ∀ w, (Instr.index 130 (.agg #[rowS (W / 2) (G 0), rowS (W / 2) (G 1), rowS (W / 2) (G 2), rowS (W / 2) (G 3)]) (.int .i64 (k : Int))).run Try.prog w = .ok (rowS (W / 2) (G k)) w := fun k hk w => row_index (fun i => rowS (W / 2) (G i)) hk w
  have HX := Lib.hid hix
  clear hix
  go_enter Try.func64, Try.ntmps64
  go_wp2
  clear c0 c1 c2 c3
  go_loopw [8] (fun i wr => ∃ k : Nat, k ≤ 4 ∧ i = .int .i64 k ∧ Sk wr P G S W (halfR C k) ∧ Chg (SkB P G) w wr) (fun i _ => 4 - (intOf i).toNat)
  case atStart => exact ⟨0, by omega, rfl, by rw [halfR_zero]; exact h, Chg.refl _ _⟩
  case round =>
    obtain ⟨k, hk, rfl, hr, hch⟩ := hrel
    by_cases hlt : k < 4
    · have hrun := HX.out k hlt
      have hg := hr.row k hlt
      have hsm := hr.small k hlt
      rw [halfR_at] at hg hsm
      have HSM := Lib.hid hsm
      have hstep := fun (w' : World) h1 h2 => hr.turned (w' := w') hlt (small_half hsm) h1 h2
      have HST := Lib.hid hstep
      clear hsm hstep hr
      go_wp2_with fail
      refine (reset_any (G k) (W / 2) (C k) wr hg (by omega) HSM.out).mono ?_
      rintro e w3 ⟨rfl, hg3, hc3⟩
      clear hrun
      go_wp2
      go_roundw
      case rel => exact ⟨k + 1, by omega, by go_num, by rw [halfR_succ]; exact HST.out w3 hg3 hc3, hch.trans (hc3.mono fun j _ e => .inr ⟨k, hlt, e⟩)⟩
      case measure => simp [intOf]; omega
    · obtain rfl : k = 4 := by omega
      go_wp2
      go_returns
      exact ⟨rfl, hr, hch⟩

theorem get_same (g m n : Nat) (C : Nat → Nat) (w : World) (hg : At w g (.cells (rowA C m) 5 (0, 0))) (hn : n / 2 < m) (hm : m ≤ 1024) (hC : Small C) :
    Calls Try.prog 59 #[.slice (some ⟨g, 0, none⟩) m m, .int .u64 (n : Int)] w fun e w' => e = .returned (.int .u8 ((C n : Nat) : Int)) ∧ w' = w :=
  (get_any g m n C w hg hn hm hC).mono fun _ _ ⟨h, e⟩ => ⟨h, e.symm⟩

theorem drew_more {w wr : World} (h : ∃ q, wr = w.drewN q) (n : Nat) : ∃ q, wr.drewN n = w.drewN q := by
  obtain ⟨q, rfl⟩ := h
  exact ⟨q + n, World.drewN_drewN _ _ _⟩
/-- A hash's place in a row. -/
def pc (y s : Int) (W : Nat) : Nat := xo y s % W
/-- The counter of y in row i. -/
def rowC (C : Nat → Nat → Nat) (S : Nat → Int) (W : Nat) (y : Int) (i : Nat) : Nat := C i (xo y (S i) % W)

set_option maxRecDepth 100000 in
set_option maxHeartbeats 400000 in
theorem skEst_any (P : Nat) (G : Nat → Nat) (S : Nat → Int) (W : Nat) (C : Nat → Nat → Nat) (y : Int) (w : World) (hW : Hid (Pw W)) (h : Sk w P G S W C) :
    Calls Try.prog 65 #[.pointer (some ⟨P, 0, none⟩), .int .u64 y] w fun e w' => e = .returned (.int .i64 ((lowTo 255 (rowC C S W y) 4 : Nat) : Int)) ∧ ∃ n, w' = w.drewN n := by
  have hhi := hW.out.hi
  go_enter Try.func65, Try.ntmps65
  go_wp2
  go_loopw [5, 8] (fun v i wr => ∃ k : Nat, k ≤ 4 ∧ i = .int .i64 k ∧ v = .int .u8 ((lowTo 255 (rowC C S W y) k : Nat) : Int) ∧ ∃ q, wr = w.drewN q) (fun _ i _ => 4 - (intOf i).toNat)
  case atStart => exact ⟨0, by omega, rfl, rfl, 0, rfl⟩
  case round =>
    obtain ⟨k, hk, rfl, rfl, hq⟩ := hrel
    have hS : Sk wr P G S W C := by obtain ⟨q, rfl⟩ := hq; exact ⟨h.head, h.row, h.inj, h.small⟩
    have HQ := Lib.hid hq
    clear hq
    have hlo := lowTo_le 255 (rowC C S W y) k
    by_cases hlt : k < 4
    · have cr : wr.cell? ⟨P, k, none⟩ = some (.slice (some ⟨G k, 0, none⟩) (W / 2) (W / 2)) := (hS.head.cell k).trans (skV_row _ _ _ hlt)
      have cs : wr.cell? ⟨P, 4 + k, none⟩ = some (.int .u64 (S k)) := (hS.head.cell (4 + k)).trans (skV_seed _ _ _ hlt)
      have cm : wr.cell? ⟨P, 8, none⟩ = some (.int .u64 ((W : Int) - 1)) := hS.head.cell 8
      have hx := xo_eq y (S k)
      have ha : bits .and .u64 ((xo y (S k) : Nat) : Int) ((W : Int) - 1) = ((pc y (S k) W : Nat) : Int) := hW.out.mask y (S k)
      have hpl : pc y (S k) W / 2 < W / 2 := hW.out.place (xo y (S k))
      have hg := hS.row k hlt
      have hsm := hS.small k hlt
      have HSM := Lib.hid hsm
      have hcl : ∀ W' : World, At W' (G k) (.cells (rowA (C k) (W / 2)) 5 (0, 0)) → Calls Try.prog 59 #[.slice (some ⟨G k, 0, none⟩) (W / 2) (W / 2), .int .u64 ((pc y (S k) W : Nat) : Int)] W' fun e w' => e = .returned (.int .u8 ((rowC C S W y k : Nat) : Int)) ∧ w' = W' :=
        fun W' hg' => get_same (G k) (W / 2) (pc y (S k) W) (C k) W' hg' hpl (by omega) HSM.out
      have HCL := Lib.hid hcl
      have hle : rowC C S W y k ≤ 15 := HSM.out _
      have hsucc : lowTo 255 (rowC C S W y) (k + 1) = min (lowTo 255 (rowC C S W y) k) (rowC C S W y k) := rfl
      have HS := Lib.hid hsucc
      clear hsm hcl hsucc
      generalize lowTo 255 (rowC C S W y) k = m at hlo HS ⊢
      generalize rowC C S W y k = u at hle HS HCL
      go_wp2_with fail
      go_quiet ((go_at_call 59; exact Calls.quiet_of_same (HCL.out _ (by exact hg))))
      clear cr cs cm hx ha
      by_cases hm : u < m
      · go_wp2
        go_roundw
        case rel => exact ⟨k + 1, by omega, by go_num, by rw [HS.out, Nat.min_eq_right (by omega)], drew_more HQ.out nq⟩
        case measure => simp [intOf]; omega
      · go_wp2
        go_roundw
        case rel => exact ⟨k + 1, by omega, by go_num, by rw [HS.out, Nat.min_eq_left (by omega)], drew_more HQ.out nq⟩
        case measure => simp [intOf]; omega
    · obtain rfl : k = 4 := by omega
      go_wp2
      go_returns
      exact ⟨rfl, HQ.out⟩
end Go.Proofs.Ytoddnjpbmefgnaa
