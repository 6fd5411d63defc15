/-
  The walks of impl.Filtered, spec.Bits, spec.Has.
-/
import Derived.Test.YtoddnjpbmefgnaaHas
namespace Go.Proofs.Ytoddnjpbmefgnaa
open Go.RowKit

theorem owns_lower {w : World} {base base' : Nat} {e : TypeId} {size : Nat} {v : Value} {n : Nat} {xs : List Value} (h : w.ownsRow base e size v n xs) (hb : base' ≤ base) : w.ownsRow base' e size v n xs := by
  refine ⟨h.1, ?_⟩
  rcases h.2 with hn | ⟨g, cap, cur, hv, hg, rest⟩
  · exact .inl hn
  · exact .inr ⟨g, cap, cur, hv, Nat.le_trans hb hg, rest⟩

/-- A filter's size less one, and its shift. -/
def szI (n : Nat) : Int := ((fsize n : Nat) : Int) - 1
def shI (n : Nat) : Int := 64 - ((ex n : Nat) : Int)
theorem szI_lo (n : Nat) : 511 ≤ szI n := by have := fsize_lo n; unfold szI; omega
theorem szI_lt (n : Nat) : szI n < 64 * fwords n := by have := fwords_eq n; unfold szI; omega
theorem shI_lo {n : Nat} (h : n ≤ 65536) : 0 ≤ shI n := by have := ex_hi h; unfold shI; omega

theorem shape_is (n : Nat) (L : Int) (w : World) (hn : n ≤ 65536) :
    Calls Try.prog 11 #[.int .u64 (n : Int), .int .u64 L] w fun e w' => e = .returned (.tuple #[.int .u64 (szI n), .int .u64 (ex n : Nat), .int .u64 L, .int .u64 (shI n)]) ∧ Below w.heap.size w w' := shape_any n L w hn

/-- A new filter. -/
theorem bloom_new (n : Nat) (L : Int) (w : World) (hn : n ≤ 65536) :
    Calls Try.prog 27 #[.int .u64 (n : Int), .int .u64 L] w fun e w' => ∃ p g, e = .returned (.pointer (some ⟨p, 0, none⟩)) ∧ w.heap.size ≤ p ∧ w.heap.size ≤ g ∧
      Filt w' p g (fwords n) 0 (ex n : Nat) (szI n) L (shI n) (fun _ => false) ∧ Below w.heap.size w w' :=
  (zzBloom_any n L w hn).mono fun e w' ⟨he, hw⟩ => by
    subst hw
    refine ⟨w.heap.size, w.heap.size + 1, he, Nat.le_refl _, Nat.le_succ _, ⟨(At.new w _).alloc _, ?_⟩, ((Below.refl _ _).alloc (Nat.le_refl _) _).alloc (by simp) _⟩
    rw [wordsA_none]
    have := At.new (w.alloc (.cells (blHead (w.heap.size + 1) (fwords n) 0 (ex n : Nat) ((fsize n : Nat) - 1) L (64 - (ex n : Nat))) 105)) (.cells (wordsA (fun _ => false) (fwords n)) 23)
    simpa using this

set_option maxRecDepth 100000 in
set_option maxHeartbeats 400000 in
theorem filtered_any (N : Nat) (L : Int) (w : World) (hN : N ≤ 65536) (hL0 : 0 ≤ L) (hL1 : L ≤ 8)
    (A : Option Addr) (n c : Nat) (zs : List Int) (hZ : Lst .u64 w w.heap.size A n zs) (hn : n ≤ 2147483648)
    (A' : Option Addr) (n' c' : Nat) (zs' : List Int) (hZ' : Lst .u64 w w.heap.size A' n' zs') (hn' : n' ≤ 2147483648) :
    Calls Try.prog 16 #[.int .u64 (N : Int), .int .u64 L, .slice A n c, .slice A' n' c'] w fun e' w' => ∃ v, e' = .returned v ∧
      w'.ownsRow w.heap.size 4 1 v n' (answers (bitsOf zs (szI N) (shI N) L) (szI N) (shI N) L zs') ∧ Below w.heap.size w w' := by
  have s0 := szI_lo N
  have s1 := szI_lt N
  have s2 := fwords_hi hN
  have s3 := Lib.hid (shI_lo hN)
  go_enter Try.func16, Try.ntmps16
  go_wp2_with fail
  refine (bloom_new N L w hN).mono ?_
  rintro e w1 ⟨p, g, rfl, hp, hg, hF, hb1⟩
  go_wp2
  go_loopw [17] (fun i wr => ∃ k : Nat, k ≤ n ∧ i = .int .i64 k ∧ (∃ el, Filt wr p g (fwords N) el (ex N : Nat) (szI N) L (shI N) (bitsOf (zs.take k) (szI N) (shI N) L)) ∧ Below w.heap.size w wr) (fun i _ => n - (intOf i).toNat)
  case atStart => exact ⟨0, Nat.zero_le _, rfl, ⟨0, hF⟩, hb1⟩
  case round =>
    obtain ⟨k, hk, rfl, ⟨el, hFr⟩, hbel⟩ := hrel
    by_cases hlt : k < n
    · obtain ⟨b, o, rfl, hb, hcell⟩ := hZ.2 k hlt
      have hsn := take_snoc zs 0 (show k < zs.length by have := hZ.1; omega)
      generalize zs.getD k 0 = x at hcell hsn
      have hcx : wr.cell? ⟨b, o + k, none⟩ = some (.int .u64 x) := (hbel.cell (p := ⟨b, o + k, none⟩) hb).trans hcell
      have HS := Lib.hid hsn
      clear hsn hcell
      go_wp2_with fail
      refine (add_any p g (fwords N) el (ex N : Nat) (szI N) L (shI N) x _ wr hFr (by omega) s1 s2 hL0 hL1 s3).mono ?_
      rintro e' w2 ⟨rfl, ⟨el', hF2⟩, hC⟩
      have hb2 : Below w.heap.size w w2 := hbel.trans (hC.below hbel.size (fun j hj h => by omega))
      go_wp2
      go_roundw
      case rel => exact ⟨k + 1, by omega, by go_num, ⟨el', by rw [HS.out, bitsOf_snoc]; exact hF2⟩, hb2⟩
      case measure => simp [intOf]; omega
    · obtain rfl : k = n := by omega
      rw [List.take_of_length_le (Nat.le_of_eq hZ.1)] at hFr
      go_wp2_with fail
      refine (hasList_any p g (fwords N) el (ex N : Nat) (szI N) L (shI N) _ wr hFr (by omega) s1 s2 hL0 hL1 s3 A' n' c' zs' ((hZ'.below hbel).more hbel.size) hn').mono ?_
      rintro e' w2 ⟨v, rfl, hown, hb2⟩
      go_wp2
      go_returns
      exact ⟨_, rfl, owns_lower hown hbel.size, hbel.trans (hb2.mono hbel.size)⟩
end Go.Proofs.Ytoddnjpbmefgnaa
