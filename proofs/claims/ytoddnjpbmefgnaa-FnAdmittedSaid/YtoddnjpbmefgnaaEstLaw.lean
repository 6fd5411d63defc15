/-
  The walk of FnExactEstimates.
-/
import Derived.Test.YtoddnjpbmefgnaaSpecEst
import Derived.Test.YtoddnjpbmefgnaaAppend
namespace Go.Proofs.Ytoddnjpbmefgnaa
open Go.RowKit

/-- Four seeds as a function. -/
def seeds (a b c d : Int) (i : Nat) : Int := if i = 0 then a else if i = 1 then b else if i = 2 then c else d
theorem seedA_is (a b c d : Int) : seedA (seeds a b c d) = #[.int .u64 a, .int .u64 b, .int .u64 c, .int .u64 d] := rfl

theorem tell_get (f : Int → Nat) (zs : List Int) {i : Nat} (h : i < zs.length) : (castL (tellL f zs)).getD i 0 = ((f (zs.getD i 0) : Nat) : Int) := by
  simp [tellL, castL, List.getD, h]

set_option maxRecDepth 100000 in
set_option maxHeartbeats 400000 in
theorem est_law (q : Nat) (a b c d : Int) (bb : Bool) (x : Int) (w : World) (hq : q ≤ 255) (A : Option Addr) (n cp : Nat) (zs : List Int) (hZ : Lst .u64 w w.heap.size A n zs) (hA : Nil0 A n cp) :
    Calls Try.prog 7 #[.int .u8 (q : Int), .int .u64 a, .int .u64 b, .int .u64 c, .int .u64 d, .slice A n cp, .bool bb, .int .u64 x] w fun e w' => e = .returned (.bool true) ∧ Below w.heap.size w w' := by
  by_cases h1 : 2147483647 < n
  · go_enter Try.func7, Try.ntmps7
    go_wp2
    go_returns
    exact ⟨rfl, Below.refl _ _⟩
  obtain ⟨i0, hi, hz0, hz1, hz2⟩ := info_parts Try.info23
  obtain ⟨N, hN⟩ : ∃ N : Nat, N = 2 + q := ⟨_, rfl⟩
  have hNc : (N : Int) = 2 + (q : Int) := by omega
  have hN1 : 2 ≤ N := by omega
  have hN2 : N ≤ 257 := by omega
  have hlen := hZ.1
  have hcallE : ∀ (W : World) (A' : Option Addr) (c' : Nat), Lst .u64 W W.heap.size A n zs → Lst .u64 W W.heap.size A' (1 + n) (x :: zs) → Calls Try.prog 19 #[.int .i64 (2 + (q : Int)), .agg #[.int .u64 a, .int .u64 b, .int .u64 c, .int .u64 d], .slice A n cp, .bool bb, .slice A' (1 + n) c'] W (RetLst .i64 W (1 + n) (castL (tellL (est zs (seeds a b c d) (wid N) bb) (x :: zs)))) := by
    intro W A' c' hW hW'
    have := estimates_any N (seeds a b c d) bb W hN1 hN2 A n cp zs hW (by omega) A' (1 + n) c' (x :: zs) hW' (by omega)
    rw [seedA_is, hNc] at this
    exact this
  have hcallS : ∀ (W : World) (y : Int), Lst .u64 W W.heap.size A n zs → Calls Try.prog 20 #[.int .i64 (2 + (q : Int)), .agg #[.int .u64 a, .int .u64 b, .int .u64 c, .int .u64 d], .slice A n cp, .bool bb, .int .u64 y] W fun e w' => e = .returned (.int .i64 ((est zs (seeds a b c d) (wid N) bb y : Nat) : Int)) ∧ Below W.heap.size W w' := by
    intro W y hW
    have := specEst_any N (seeds a b c d) bb y W hN1 hN2 A n cp zs hW (by omega)
    rw [seedA_is, hNc] at this
    exact this
  generalize est zs (seeds a b c d) (wid N) bb = f at hcallE hcallS
  have HE := Lib.hid hcallE
  have HC := Lib.hid hcallS
  clear hcallE hcallS hN hNc hN1 hN2
  go_enter Try.func7, Try.ntmps7
  have hV := lst_vls hZ
  have hown0 : ((w.alloc (.cells #[.int .u64 a, .int .u64 b, .int .u64 c, .int .u64 d] 41)).alloc (.cells #[.int .u64 x] 23)).ownsRow w.heap.size 23 1 (.slice (some ⟨w.heap.size + 1, 0, none⟩) 1 1) 1 [.int .u64 x] := by
    have h := World.ownsRow_lit (base := w.heap.size) (e := 23) (size := 1) (w.alloc (.cells #[.int .u64 a, .int .u64 b, .int .u64 c, .int .u64 d] 41)) #[.int .u64 x] 1 (by simp) (by decide) rfl
    simpa using h
  go_wp2_with (at_builtin; refine wpList_append_vls rfl _ _ 33 rfl w.heap.size 23 i0 (.int .u64 0) 8 Try.underlying33 hi hz0 hz1 hz2 rfl _ 1 [.int .u64 x] rfl hown0 w.heap.size A n cp (zs.map (Value.int .u64)) rfl ?c1 hA ?c2 ?c3 ?c4 ?c5 ?_)
  case c1 => exact hV.below (((Below.refl _ _).alloc (Nat.le_refl _) _).alloc (by simp) _)
  case c2 => intro u hu; obtain ⟨y, _, rfl⟩ := List.mem_map.1 hu; rfl
  case c3 => unfold maxLen; omega
  case c4 => omega
  case c5 => simp; omega
  intro v' w1 hown hgrow hblk
  have hb1 : Below w.heap.size w w1 := (((Below.refl _ _).alloc (Nat.le_refl _) _).alloc (by simp) _).grown hgrow (by simp; omega) (fun j hj => (hown0.lt j hj).1)
  have h41 : At w1 w.heap.size (.cells #[.int .u64 a, .int .u64 b, .int .u64 c, .int .u64 d] 41 (0, 0)) := at_grown hgrow ((At.new w _).alloc _) (own_ne hown0 ((At.new w _).alloc _) (by decide))
  clear hown0 hgrow hblk
  obtain ⟨A', c', rfl, hv⟩ := own_vls hown
  have hZ' : Lst .u64 w1 w1.heap.size A' (1 + n) (x :: zs) := vls_lst hv
  have hZ1 := (hZ.below hb1).more hb1.size
  clear hown hv hV
  have s0 : w1.cell? ⟨w.heap.size, 0, none⟩ = some (.int .u64 a) := h41.cell 0
  have s1 : w1.cell? ⟨w.heap.size, 1, none⟩ = some (.int .u64 b) := h41.cell 1
  have s2 : w1.cell? ⟨w.heap.size, 2, none⟩ = some (.int .u64 c) := h41.cell 2
  have s3 : w1.cell? ⟨w.heap.size, 3, none⟩ = some (.int .u64 d) := h41.cell 3
  go_wp2_with fail
  clear s0 s1 s2 s3
  refine (HE.out w1 A' c' hZ1 hZ').mono ?_
  rintro e w2 ⟨G, cg, rfl, hG, hb2⟩
  have hb02 := hb1.trans (hb2.mono hb1.size)
  have h412 := h41.below hb2 h41.lt
  have hZ2 := hZ'.below hb2
  have h12 := hb2.size
  clear hb1 hb2 h41 hZ' hZ1 HE
  go_wp2
  go_loopw [50] (fun i wr => ∃ k : Nat, k ≤ 1 + n ∧ i = .int .i64 k ∧ Below w2.heap.size w2 wr) (fun i _ => 1 + n - (intOf i).toNat)
  case atStart => exact ⟨0, Nat.zero_le _, rfl, Below.refl _ _⟩
  case round =>
    obtain ⟨k, hk, rfl, hwr⟩ := hrel
    have hbw := hb02.trans (hwr.mono hb02.size)
    by_cases hlt : k < 1 + n
    · obtain ⟨bg, og, rfl, hbg, hcg⟩ := hG.2 k hlt
      obtain ⟨ba, oa, rfl, hba, hca⟩ := hZ2.2 k hlt
      rw [tell_get _ _ (by simp; omega)] at hcg
      generalize (x :: zs).getD k 0 = y at hcg hca
      have hcgr : wr.cell? ⟨bg, og + k, none⟩ = some (.int .i64 ((f y : Nat) : Int)) := (hwr.cell (p := ⟨bg, og + k, none⟩) hbg).trans hcg
      have hcar : wr.cell? ⟨ba, oa + k, none⟩ = some (.int .u64 y) := (hwr.cell (p := ⟨ba, oa + k, none⟩) (by simp; omega)).trans hca
      have hsr : At wr w.heap.size (.cells #[.int .u64 a, .int .u64 b, .int .u64 c, .int .u64 d] 41 (0, 0)) := h412.below hwr h412.lt
      have s0 : wr.cell? ⟨w.heap.size, 0, none⟩ = some (.int .u64 a) := hsr.cell 0
      have s1 : wr.cell? ⟨w.heap.size, 1, none⟩ = some (.int .u64 b) := hsr.cell 1
      have s2 : wr.cell? ⟨w.heap.size, 2, none⟩ = some (.int .u64 c) := hsr.cell 2
      have s3 : wr.cell? ⟨w.heap.size, 3, none⟩ = some (.int .u64 d) := hsr.cell 3
      have hsl := hsr.lt
      have hcall := fun W hW => HC.out W y hW
      have HC2 := Lib.hid hcall
      have hZr := (hZ.below hbw).more hbw.size
      have hbgr : bg < wr.heap.size := Nat.lt_of_lt_of_le hbg hwr.size
      have hbar : ba < wr.heap.size := by have := hwr.size; omega
      clear hcall hcg hca hsr
      have i0 : (0 : Int) ≤ (k : Int) := by omega
      have i1 : (k : Int) < ((1 + n : Nat) : Int) := by omega
      generalize f y = fy at hcgr HC2
      go_wp2_with fail
      go_region_held3 (fun w' => w'.cell? ⟨bg, og + k, none⟩ = some (.int .i64 (fy : Int)) ∧ w'.cell? ⟨ba, oa + k, none⟩ = some (.int .u64 y) ∧ w'.cell? ⟨w.heap.size, 0, none⟩ = some (.int .u64 a) ∧ w'.cell? ⟨w.heap.size, 1, none⟩ = some (.int .u64 b) ∧ w'.cell? ⟨w.heap.size, 2, none⟩ = some (.int .u64 c) ∧ w'.cell? ⟨w.heap.size, 3, none⟩ = some (.int .u64 d)) (first | go_keep | (exact ⟨(hbx.cell (p := ⟨bg, og + k, none⟩) (by simpa using hbgr)).trans (by simpa using hcgr), (hbx.cell (p := ⟨ba, oa + k, none⟩) (by simpa using hbar)).trans (by simpa using hcar), (hbx.cell (p := ⟨w.heap.size, 0, none⟩) (by simpa using hsl)).trans (by simpa using s0), (hbx.cell (p := ⟨w.heap.size, 1, none⟩) (by simpa using hsl)).trans (by simpa using s1), (hbx.cell (p := ⟨w.heap.size, 2, none⟩) (by simpa using hsl)).trans (by simpa using s2), (hbx.cell (p := ⟨w.heap.size, 3, none⟩) (by simpa using hsl)).trans (by simpa using s3)⟩)) ((go_at_call 20; refine (HC2.out _ (by exact hZr)).mono ?_; rintro e w3 ⟨rfl, hbx⟩))
      go_wp2
      have hx3 : Below wr.heap.size wr w3 := ⟨hbx.os, hbx.tape, hbx.output, hbx.size, hbx.block⟩
      go_roundw
      case rel => exact ⟨k + 1, by omega, by go_num, hwr.trans (hx3.mono hwr.size)⟩
      case measure => simp [intOf]; omega
    · go_wp2
      go_returns
      exact ⟨rfl, hbw⟩
end Go.Proofs.Ytoddnjpbmefgnaa
