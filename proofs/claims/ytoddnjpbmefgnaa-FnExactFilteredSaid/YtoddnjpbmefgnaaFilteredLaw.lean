/-
  The walk of FnExactFiltered.
-/
import Derived.Test.YtoddnjpbmefgnaaFilter
import Derived.Test.YtoddnjpbmefgnaaSets
import Derived.Deep.RegionHeld3
namespace Go.Proofs.Ytoddnjpbmefgnaa
open Go.RowKit

theorem answers_get (B : Nat → Bool) (sz sh L : Int) (zs : List Int) {j : Nat} (h : j < zs.length) : (answers B sz sh L zs).getD j undef = .bool (hasB B (zs.getD j 0) sz sh L) := by
  simp [answers, List.getD, h]

set_option maxRecDepth 100000 in
set_option maxHeartbeats 400000 in
theorem filtered_law (N l : Nat) (w : World) (hN : N ≤ 65535) (hl : l ≤ 255)
    (A : Option Addr) (n c : Nat) (zs : List Int) (hZ : Lst .u64 w w.heap.size A n zs)
    (A' : Option Addr) (n' c' : Nat) (zs' : List Int) (hZ' : Lst .u64 w w.heap.size A' n' zs') :
    Calls Try.prog 5 #[.int .u16 (N : Int), .int .u8 (l : Int), .slice A n c, .slice A' n' c'] w fun e w' => e = .returned (.bool true) ∧ Below w.heap.size w w' := by
  by_cases h1 : 2147483647 < n
  · go_enter Try.func5, Try.ntmps5
    go_wp2
    go_returns
    exact ⟨rfl, Below.refl _ _⟩
  by_cases h2 : 2147483647 < n'
  · go_enter Try.func5, Try.ntmps5
    go_wp2
    go_returns
    exact ⟨rfl, Below.refl _ _⟩
  have s0 := szI_lo N
  have s1 := szI_lt N
  have s2 := fwords_hi (n := N) (by omega)
  have s3 := Lib.hid (shI_lo (n := N) (by omega))
  go_enter Try.func5, Try.ntmps5
  go_wp2_with fail
  refine (shape_is N _ w (by omega)).mono ?_
  rintro e w1 ⟨rfl, hb1⟩
  go_wp2_with fail
  refine (filtered_any N _ w1 (by omega) (by omega) (by omega) A n c zs ((hZ.below hb1).more hb1.size) (by omega) A' n' c' zs' ((hZ'.below hb1).more hb1.size) (by omega)).mono ?_
  rintro e w2 ⟨v, rfl, hown, hb2⟩
  have hbel := hb1.trans (hb2.mono hb1.size)
  obtain ⟨Ag, cg, rfl, hv⟩ := own_vls hown
  clear hown hb1 hb2
  go_wp2
  go_loopw [55] (fun i wr => ∃ k : Nat, k ≤ n' ∧ i = .int .i64 k ∧ Below w2.heap.size w2 wr) (fun i _ => n' - (intOf i).toNat)
  case atStart => exact ⟨0, Nat.zero_le _, rfl, Below.refl _ _⟩
  case round =>
    obtain ⟨k, hk, rfl, hwr⟩ := hrel
    have hbw := hbel.trans (hwr.mono hbel.size)
    by_cases hlt : k < n'
    · obtain ⟨b, o, rfl, hb, hcell⟩ := hZ'.2 k hlt
      obtain ⟨bg, og, rfl, hbg, hcg⟩ := hv.2 k hlt
      rw [answers_get _ _ _ _ _ (by have := hZ'.1; omega)] at hcg
      generalize zs'.getD k 0 = x at hcell hcg
      have hcx : wr.cell? ⟨b, o + k, none⟩ = some (.int .u64 x) := (hbw.cell (p := ⟨b, o + k, none⟩) hb).trans hcell
      have hcgr : wr.cell? ⟨bg, og + k, none⟩ = some (.bool (hasL zs x (szI N) (shI N) (1 + (l : Int) % 8))) := (hwr.cell (p := ⟨bg, og + k, none⟩) hbg).trans hcg
      have hcall : ∀ W : World, Lst .u64 W W.heap.size A n zs → Calls Try.prog 17 #[.slice A n c, .int .u64 x, .int .u64 (szI N), .int .u64 (1 + (l : Int) % 8), .int .u64 (shI N)] W fun e w' => e = .returned (.bool (hasL zs x (szI N) (shI N) (1 + (l : Int) % 8))) ∧ Below W.heap.size W w' :=
        fun W hW => specHas_any A n c zs x _ _ _ W hW (by omega) (by omega) (by have := fsize_hi (n := N) (by omega); unfold szI; omega) (by omega) (by omega) s3
      generalize hasL zs x (szI N) (shI N) (1 + (l : Int) % 8) = t at hcgr hcall
      have HC := Lib.hid hcall
      have hZr := (hZ.below hbw).more hbw.size
      have hbgr : bg < wr.heap.size := Nat.lt_of_lt_of_le hbg hwr.size
      clear hcall hcell hcg
      go_wp2_with fail
      go_region_held3 (fun w' => w'.cell? ⟨bg, og + k, none⟩ = some (.bool t)) (first | go_keep | (exact (hbx.cell (p := ⟨bg, og + k, none⟩) (by simpa using hbgr)).trans (by simpa using hcgr))) ((go_at_call 17; refine (HC.out _ (by exact hZr)).mono ?_; rintro e w3 ⟨rfl, hbx⟩))
      go_wp2
      have hx3 : Below wr.heap.size wr w3 := ⟨hbx.os, hbx.tape, hbx.output, hbx.size, hbx.block⟩
      go_roundw
      case rel => exact ⟨k + 1, by omega, by go_num, hwr.trans (hx3.mono hwr.size)⟩
      case measure => simp [intOf]; omega
    · go_wp2
      go_returns
      exact ⟨rfl, hbw⟩
end Go.Proofs.Ytoddnjpbmefgnaa
