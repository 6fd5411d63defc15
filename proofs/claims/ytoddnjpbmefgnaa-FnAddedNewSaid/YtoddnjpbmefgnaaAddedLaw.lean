/-
  The walk of FnAddedNew.
-/
import Derived.Test.YtoddnjpbmefgnaaAdded
namespace Go.Proofs.Ytoddnjpbmefgnaa
open Go.RowKit

set_option maxRecDepth 100000 in
set_option maxHeartbeats 400000 in
theorem added_law (N l : Nat) (w : World) (hN : N ≤ 65535) (hl : l ≤ 255)
    (A : Option Addr) (n c : Nat) (zs : List Int) (hZ : Lst .u64 w w.heap.size A n zs) (hnc : n ≤ c) :
    Calls Try.prog 6 #[.int .u16 (N : Int), .int .u8 (l : Int), .slice A n c] w fun e w' => e = .returned (.bool true) ∧ Below w.heap.size w w' := by
  by_cases h1 : 2147483647 < n
  · go_enter Try.func6, Try.ntmps6
    go_wp2
    go_returns
    exact ⟨rfl, Below.refl _ _⟩
  have s0 := szI_lo N
  have s3 := Lib.hid (shI_lo (n := N) (by omega))
  go_enter Try.func6, Try.ntmps6
  go_wp2_with fail
  refine (shape_is N _ w (by omega)).mono ?_
  rintro e w1 ⟨rfl, hb1⟩
  go_wp2_with fail
  refine (addedNew_any N _ w1 (by omega) (by omega) (by omega) A n c zs ((hZ.below hb1).more hb1.size) (by omega)).mono ?_
  rintro e w2 ⟨Aa, ca, Ah, ch, rfl, hva, hvh, hb2⟩
  have hbel := hb1.trans (hb2.mono hb1.size)
  clear hb1 hb2
  go_wp2
  go_loopw [58] (fun i wr => ∃ k : Nat, k ≤ n ∧ i = .int .i64 k ∧ Below w2.heap.size w2 wr) (fun i _ => n - (intOf i).toNat)
  case atStart => exact ⟨0, Nat.zero_le _, rfl, Below.refl _ _⟩
  case round =>
    obtain ⟨k, hk, rfl, hwr⟩ := hrel
    have hbw := hbel.trans (hwr.mono hbel.size)
    by_cases hlt : k < n
    · obtain ⟨b, o, rfl, hb, hcell⟩ := hZ.2 k hlt
      obtain ⟨ba, oa, rfl, hba, hca⟩ := hva.2 k hlt
      obtain ⟨bh, oh, rfl, hbh, hch⟩ := hvh.2 k hlt
      rw [addedL_get _ _ _ _ hlt] at hca
      rw [hadL_get _ _ _ _ hlt] at hch
      generalize zs.getD k 0 = x at hcell hca hch
      have hcx : wr.cell? ⟨b, o + k, none⟩ = some (.int .u64 x) := (hbw.cell (p := ⟨b, o + k, none⟩) hb).trans hcell
      have hcar : wr.cell? ⟨ba, oa + k, none⟩ = some (.bool (!hasL (zs.take k) x (szI N) (shI N) (1 + (l : Int) % 8))) := (hwr.cell (p := ⟨ba, oa + k, none⟩) hba).trans hca
      have hchr : wr.cell? ⟨bh, oh + k, none⟩ = some (.bool (hasL (zs.take k) x (szI N) (shI N) (1 + (l : Int) % 8))) := (hwr.cell (p := ⟨bh, oh + k, none⟩) hbh).trans hch
      have hcall : ∀ W : World, Lst .u64 W W.heap.size (some ⟨b, o, none⟩) k (zs.take k) → Calls Try.prog 17 #[.slice (some ⟨b, o, none⟩) k c, .int .u64 x, .int .u64 (szI N), .int .u64 (1 + (l : Int) % 8), .int .u64 (shI N)] W fun e w' => e = .returned (.bool (hasL (zs.take k) x (szI N) (shI N) (1 + (l : Int) % 8))) ∧ Below W.heap.size W w' :=
        fun W hW => specHas_any _ k c _ x _ _ _ W hW (by omega) (by omega) (by have := fsize_hi (n := N) (by omega); unfold szI; omega) (by omega) (by omega) s3
      generalize hasL (zs.take k) x (szI N) (shI N) (1 + (l : Int) % 8) = t at hcar hchr hcall
      have HC := Lib.hid hcall
      have hZr := ((hZ.below hbw).more hbw.size).take hk
      have hbar : ba < wr.heap.size := Nat.lt_of_lt_of_le hba hwr.size
      have hbhr : bh < wr.heap.size := Nat.lt_of_lt_of_le hbh hwr.size
      have hkc : k ≤ c := by omega
      clear hcall hcell hca hch
      have i0 : (0 : Int) ≤ (k : Int) := by omega
      have i1 : (k : Int) < (n : Int) := by omega
      obtain ⟨u, hu⟩ : ∃ u, u = !t := ⟨_, rfl⟩
      rw [← hu] at hcar
      have hgd : (u == t) = false := by rw [hu]; cases t <;> rfl
      clear hu
      go_wp2_with fail
      go_region_held3 (fun w' => w'.cell? ⟨ba, oa + k, none⟩ = some (.bool u) ∧ w'.cell? ⟨bh, oh + k, none⟩ = some (.bool t)) (first | go_keep | (exact ⟨(hbx.cell (p := ⟨ba, oa + k, none⟩) (by simpa using hbar)).trans (by simpa using hcar), (hbx.cell (p := ⟨bh, oh + k, none⟩) (by simpa using hbhr)).trans (by simpa using hchr)⟩)) ((go_at_call 17; refine (HC.out _ (by exact hZr)).mono ?_; rintro e w3 ⟨rfl, hbx⟩))
      go_wp2
      have hx3 : Below wr.heap.size wr w3 := ⟨hbx.os, hbx.tape, hbx.output, hbx.size, hbx.block⟩
      go_roundw
      case rel => exact ⟨k + 1, by omega, by go_num, hwr.trans (hx3.mono hwr.size)⟩
      case measure => simp [intOf]; omega
    · go_wp2
      go_returns
      exact ⟨rfl, hbw⟩
end Go.Proofs.Ytoddnjpbmefgnaa
