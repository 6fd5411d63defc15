/-
  The walks of impl.has, impl.Filtered, spec.Bits, spec.Has.
-/
import Derived.Test.YtoddnjpbmefgnaaBloom
import Derived.Maps.OwnOps
import Derived.Maps.OwnSet
namespace Go.Proofs.Ytoddnjpbmefgnaa
open Go.RowKit

theorem Try.info4 : (Try.prog.info? 4).map (fun i => (i.zero, i.size, i.bytes)) = some (some (.bool false), 1, 1) := by kernel_rfl

/-- The answers of a set of bits to a list of hashes, as cells. -/
def answers (B : Nat → Bool) (sz sh L : Int) (zs : List Int) : List Value := zs.map fun x => .bool (hasB B x sz sh L)
theorem answers_snoc (B : Nat → Bool) (sz sh L : Int) (zs : List Int) (x : Int) : answers B sz sh L (zs ++ [x]) = answers B sz sh L zs ++ [.bool (hasB B x sz sh L)] := by simp [answers]

set_option maxRecDepth 100000 in
set_option maxHeartbeats 400000 in
theorem hasList_any (p g m : Nat) (el e sz L sh : Int) (B : Nat → Bool) (w : World) (hF : Filt w p g m el e sz L sh B)
    (hs0 : 0 ≤ sz) (hs1 : sz < 64 * m) (hm : m ≤ 1024) (hL0 : 0 ≤ L) (hL1 : L ≤ 8) (hsh : Hid (0 ≤ sh))
    (A : Option Addr) (n c : Nat) (zs : List Int) (hZ : Lst .u64 w w.heap.size A n zs) (hn : n ≤ 2147483648) :
    Calls Try.prog 34 #[.pointer (some ⟨p, 0, none⟩), .slice A n c] w fun e' w' => ∃ v, e' = .returned v ∧ w'.ownsRow w.heap.size 4 1 v n (answers B sz sh L zs) ∧ Below w.heap.size w w' := by
  obtain ⟨i0, hi, hz0, hz1, hz2⟩ := info_parts Try.info4
  go_enter Try.func34, Try.ntmps34
  go_wp2
  go_loopw [5, 11] (fun v i wr => ∃ k : Nat, k ≤ n ∧ i = .int .i64 k ∧ wr.ownsRow w.heap.size 4 1 v k (answers B sz sh L (zs.take k)) ∧ Below w.heap.size w wr) (fun _ i _ => n - (intOf i).toNat)
  case atStart => exact ⟨0, Nat.zero_le _, rfl, World.ownsRow_lit w #[] 0 (Nat.le_refl _) (Nat.zero_le _) rfl, (Below.refl _ _).alloc (Nat.le_refl _) _⟩
  case round =>
    obtain ⟨k, hk, rfl, hown, hbel⟩ := hrel
    by_cases hlt : k < n
    · obtain ⟨b, o, rfl, hb, hcell⟩ := hZ.2 k hlt
      have hsn := take_snoc zs 0 (show k < zs.length by have := hZ.1; omega)
      generalize zs.getD k 0 = x at hcell hsn
      have hcx : wr.cell? ⟨b, o + k, none⟩ = some (.int .u64 x) := (hbel.cell (p := ⟨b, o + k, none⟩) hb).trans hcell
      have HS := Lib.hid hsn
      clear hsn hcell
      have hFr : Filt wr p g m el e sz L sh B := ⟨hF.head.below hbel hF.head.lt, hF.words.below hbel hF.words.lt⟩
      have c0 : wr.cell? ⟨p, 0, none⟩ = some (.slice (some ⟨g, 0, none⟩) m m) := hFr.head.cell 0
      have c1 : wr.cell? ⟨p, 1, none⟩ = some (.int .u64 el) := hFr.head.cell 1
      have c2 : wr.cell? ⟨p, 2, none⟩ = some (.int .u64 e) := hFr.head.cell 2
      have c3 : wr.cell? ⟨p, 3, none⟩ = some (.int .u64 sz) := hFr.head.cell 3
      have c4 : wr.cell? ⟨p, 4, none⟩ = some (.int .u64 L) := hFr.head.cell 4
      have c5 : wr.cell? ⟨p, 5, none⟩ = some (.int .u64 sh) := hFr.head.cell 5
      go_wp2_with fail
      refine (has_any g m el e sz L sh x B wr hFr.words hs0 hs1 hm hL0 hL1 hsh).mono ?_
      rintro e' w1 ⟨rfl, hw1⟩
      have hb1 : Below wr.heap.size wr w1 := by rw [← hw1]; exact (Below.refl _ _).alloc (Nat.le_refl _) _
      clear hw1 c0 c1 c2 c3 c4 c5
      have hown1 := (Chg.of_new (S := fun _ => False) hb1).owns hown (fun _ _ h => h)
      have hsz := hbel.size
      have hsz1 := hb1.size
      go_wp2_with (at_builtin; refine wpList_append_own _ rfl _ _ 34 rfl w.heap.size 4 i0 (.bool false) 1 1 Try.underlying34 hi hz0 hz1 hz2 rfl (by decide) _ _ _ rfl (hown1.alloc _) ⟨w1.heap.size, 0, none⟩ 1 1 [.bool (hasB B x sz sh L)] rfl rfl ?c1 ?c2 ?c3 ?c4 ?c5 ?_)
      case c1 => exact cell_one_new _ _ _
      case c2 => intro u hu; simp at hu; subst hu; rfl
      case c3 => unfold maxLen; omega
      case c4 => omega
      case c5 => simp; omega
      · intro v' w2 hown2 hgrow _
        have hb2 : Below w.heap.size w w2 := ((hbel.trans (hb1.mono hsz)).alloc (by omega) _).grown hgrow (by simp; omega) (fun j hj => (hown1.lt j hj).1)
        clear hgrow hown1 hown
        go_wp2
        go_roundw
        case rel => exact ⟨k + 1, by omega, by go_num, by rw [HS.out, answers_snoc]; exact hown2, hb2⟩
        case measure => simp [intOf]; omega
    · obtain rfl : k = n := by omega
      go_wp2
      go_returns
      exact ⟨_, rfl, by rw [← List.take_of_length_le (Nat.le_of_eq hZ.1)]; exact hown, hbel⟩
end Go.Proofs.Ytoddnjpbmefgnaa
