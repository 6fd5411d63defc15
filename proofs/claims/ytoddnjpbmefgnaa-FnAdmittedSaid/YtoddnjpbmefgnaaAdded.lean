/-
  The walks of AddIfNotHas, impl.AddedNew, FnAddedNew.
-/
import Derived.Test.YtoddnjpbmefgnaaFilter
import Derived.Test.YtoddnjpbmefgnaaSets
import Derived.Deep.RegionHeld3
import Derived.Test.YtoddnjpbmefgnaaCounters
namespace Go.Proofs.Ytoddnjpbmefgnaa
open Go.RowKit

set_option maxRecDepth 100000 in
set_option maxHeartbeats 400000 in
theorem addIf_any (p g m : Nat) (el e sz L sh x : Int) (B : Nat → Bool) (w : World) (hF : Filt w p g m el e sz L sh B)
    (hs0 : 0 ≤ sz) (hs1 : sz < 64 * m) (hm : m ≤ 1024) (hL0 : 0 ≤ L) (hL1 : L ≤ 8) (hsh : Hid (0 ≤ sh)) :
    Calls Try.prog 37 #[.pointer (some ⟨p, 0, none⟩), .int .u64 x] w fun e' w' => e' = .returned (.bool (!hasB B x sz sh L)) ∧ (∃ el', Filt w' p g m el' e sz L sh (addB B x sz sh L)) ∧ Chg (fun k => k = p ∨ k = g) w w' := by
  have c0 : w.cell? ⟨p, 0, none⟩ = some (.slice (some ⟨g, 0, none⟩) m m) := hF.head.cell 0
  have c1 : w.cell? ⟨p, 1, none⟩ = some (.int .u64 el) := hF.head.cell 1
  have c2 : w.cell? ⟨p, 2, none⟩ = some (.int .u64 e) := hF.head.cell 2
  have c3 : w.cell? ⟨p, 3, none⟩ = some (.int .u64 sz) := hF.head.cell 3
  have c4 : w.cell? ⟨p, 4, none⟩ = some (.int .u64 L) := hF.head.cell 4
  have c5 : w.cell? ⟨p, 5, none⟩ = some (.int .u64 sh) := hF.head.cell 5
  go_enter Try.func37, Try.ntmps37
  go_wp2_with fail
  refine (has_any g m el e sz L sh x B w hF.words hs0 hs1 hm hL0 hL1 hsh).mono ?_
  rintro e' w1 ⟨rfl, hw1⟩
  have hc1 : Chg (fun k => k = p ∨ k = g) w w1 := by rw [← hw1]; exact (Chg.refl _ _).alloc _
  have hF1 : Filt w1 p g m el e sz L sh B := by rw [← hw1]; exact ⟨hF.head.alloc _, hF.words.alloc _⟩
  clear hw1 c0 c1 c2 c3 c4 c5
  cases hb : hasB B x sz sh L
  · have HB := Lib.hid hb
    clear hb
    go_wp2_with fail
    refine (add_any p g m el e sz L sh x B w1 hF1 hs0 hs1 hm hL0 hL1 hsh).mono ?_
    rintro e' w2 ⟨rfl, hF2, hc2⟩
    go_wp2
    go_returns
    rw [HB.out]
    exact ⟨rfl, hF2, hc1.trans hc2⟩
  · have HB := Lib.hid hb
    clear hb
    go_wp2
    go_returns
    rw [HB.out, addB_of_has HB.out]
    exact ⟨rfl, ⟨el, hF1⟩, hc1⟩

/-- Which hashes of a list were there ahead; which were added. -/
def hadL (zs : List Int) (sz sh L : Int) (n : Nat) : List Value := (List.range n).map fun j => .bool (hasL (zs.take j) (zs.getD j 0) sz sh L)
def addedL (zs : List Int) (sz sh L : Int) (n : Nat) : List Value := (List.range n).map fun j => .bool (!hasL (zs.take j) (zs.getD j 0) sz sh L)
theorem hadL_succ (zs : List Int) (sz sh L : Int) (n : Nat) : hadL zs sz sh L (n + 1) = hadL zs sz sh L n ++ [.bool (hasL (zs.take n) (zs.getD n 0) sz sh L)] := by simp [hadL, List.range_succ]
theorem addedL_succ (zs : List Int) (sz sh L : Int) (n : Nat) : addedL zs sz sh L (n + 1) = addedL zs sz sh L n ++ [.bool (!hasL (zs.take n) (zs.getD n 0) sz sh L)] := by simp [addedL, List.range_succ]
theorem hadL_get (zs : List Int) (sz sh L : Int) {n j : Nat} (h : j < n) : (hadL zs sz sh L n).getD j undef = .bool (hasL (zs.take j) (zs.getD j 0) sz sh L) := by simp [hadL, List.getD, h]
theorem addedL_get (zs : List Int) (sz sh L : Int) {n j : Nat} (h : j < n) : (addedL zs sz sh L n).getD j undef = .bool (!hasL (zs.take j) (zs.getD j 0) sz sh L) := by simp [addedL, List.getD, h]

/-- What AddedNew hands back. -/
def RetAdded (w : World) (n : Nat) (zs : List Int) (sz sh L : Int) (e : Ending) (w' : World) : Prop :=
  ∃ A c A' c', e = .returned (.tuple #[.slice A n c, .slice A' n c']) ∧ Vls w' w'.heap.size A n (addedL zs sz sh L n) ∧ Vls w' w'.heap.size A' n (hadL zs sz sh L n) ∧ Below w.heap.size w w'

/-- The row that an append leaves is no other row. -/
theorem own_apart {w : World} {q : Nat} {base : Nat} {e : TypeId} {size n : Nat} {v v' u : Value} {xs : List Value} (hu : w.ownsRow base e size u n xs) (hne : u.ownBlock ≠ v.ownBlock) (hsome : v.ownBlock ≠ none)
    (hloc : v'.ownBlock = v.ownBlock ∨ v'.ownBlock = some q) (hs : w.heap.size ≤ q) : u.ownBlock ≠ v'.ownBlock ∧ v'.ownBlock ≠ none := by
  rcases hloc with h | h
  · rw [h]; exact ⟨hne, hsome⟩
  · rw [h]
    refine ⟨fun he => ?_, by simp⟩
    have := (hu.lt _ he).2
    omega

set_option maxRecDepth 100000 in
set_option maxHeartbeats 400000 in
theorem addedNew_any (N : Nat) (L : Int) (w : World) (hN : N ≤ 65536) (hL0 : 0 ≤ L) (hL1 : L ≤ 8)
    (A : Option Addr) (n c : Nat) (zs : List Int) (hZ : Lst .u64 w w.heap.size A n zs) (hn : n ≤ 2147483648) :
    Calls Try.prog 18 #[.int .u64 (N : Int), .int .u64 L, .slice A n c] w (RetAdded w n zs (szI N) (shI N) L) := by
  obtain ⟨i0, hi, hz0, hz1, hz2⟩ := info_parts Try.info4
  have s0 := szI_lo N
  have s1 := szI_lt N
  have s2 := fwords_hi hN
  have s3 := Lib.hid (shI_lo hN)
  go_enter Try.func18, Try.ntmps18
  go_wp2_with fail
  refine (bloom_new N L w hN).mono ?_
  rintro e w1 ⟨p, g, rfl, hp, hg, hF, hb1⟩
  go_wp2
  have o1 := (World.ownsRow_lit (base := w.heap.size) (e := 4) (size := 1) w1 #[] 0 hb1.size (Nat.zero_le _) rfl).alloc (.cells #[] 4)
  have o2 := World.ownsRow_lit (base := w.heap.size) (e := 4) (size := 1) (w1.alloc (.cells #[] 4)) #[] 0 (Nat.le_trans hb1.size (by simp)) (Nat.zero_le _) rfl
  have hbel0 := (hb1.alloc hb1.size (.cells #[] 4)).alloc (Nat.le_trans hb1.size (by simp)) (.cells #[] 4)
  have hF0 : Filt ((w1.alloc (.cells #[] 4)).alloc (.cells #[] 4)) p g (fwords N) 0 (ex N : Nat) (szI N) L (shI N) (fun _ => false) := ⟨(hF.head.alloc _).alloc _, (hF.words.alloc _).alloc _⟩
  have es : (w1.alloc (.cells #[] 4)).heap.size = w1.heap.size + 1 := by simp
  rw [es] at o2
  clear es
  go_loopw [9, 10, 20] (fun v u i wr => ∃ k : Nat, k ≤ n ∧ i = .int .i64 k ∧ wr.ownsRow w.heap.size 4 1 v k (addedL zs (szI N) (shI N) L k) ∧ wr.ownsRow w.heap.size 4 1 u k (hadL zs (szI N) (shI N) L k) ∧
    v.ownBlock ≠ u.ownBlock ∧ v.ownBlock ≠ none ∧ u.ownBlock ≠ none ∧ (∃ el, Filt wr p g (fwords N) el (ex N : Nat) (szI N) L (shI N) (bitsOf (zs.take k) (szI N) (shI N) L)) ∧ Below w.heap.size w wr) (fun _ _ i _ => n - (intOf i).toNat)
  case atStart => exact ⟨0, Nat.zero_le _, rfl, o1, o2, by simp [Value.ownBlock], by simp [Value.ownBlock], by simp [Value.ownBlock], ⟨0, hF0⟩, hbel0⟩
  case round =>
    clear o1 o2 hbel0 hF0 hF hb1
    obtain ⟨k, hk, rfl, ho1, ho2, hne, hv, hu, ⟨el, hFr⟩, hbel⟩ := hrel
    by_cases hlt : k < n
    · obtain ⟨b, o, rfl, hb, hcell⟩ := hZ.2 k hlt
      have hsn := take_snoc zs 0 (show k < zs.length by have := hZ.1; omega)
      have e1 := addedL_succ zs (szI N) (shI N) L k
      have e2 := hadL_succ zs (szI N) (shI N) L k
      generalize zs.getD k 0 = x at hcell hsn e1 e2
      have hcx : wr.cell? ⟨b, o + k, none⟩ = some (.int .u64 x) := (hbel.cell (p := ⟨b, o + k, none⟩) hb).trans hcell
      have HS := Lib.hid hsn
      have E1 := Lib.hid e1
      have E2 := Lib.hid e2
      have hbk : ∃ BB, BB = bitsOf (zs.take k) (szI N) (shI N) L := ⟨_, rfl⟩
      obtain ⟨BB, hBB⟩ := hbk
      have HB := Lib.hid hBB
      rw [← hBB] at hFr
      have HN := Lib.hid hne
      have HV := Lib.hid hv
      have HU := Lib.hid hu
      clear hsn hcell e1 e2 hBB hne hv hu
      have c0 : wr.cell? ⟨p, 0, none⟩ = some (.slice (some ⟨g, 0, none⟩) (fwords N) (fwords N)) := hFr.head.cell 0
      have c1 : wr.cell? ⟨p, 1, none⟩ = some (.int .u64 el) := hFr.head.cell 1
      have c2 : wr.cell? ⟨p, 2, none⟩ = some (.int .u64 ((ex N : Nat) : Int)) := hFr.head.cell 2
      have c3 : wr.cell? ⟨p, 3, none⟩ = some (.int .u64 (szI N)) := hFr.head.cell 3
      have c4 : wr.cell? ⟨p, 4, none⟩ = some (.int .u64 L) := hFr.head.cell 4
      have c5 : wr.cell? ⟨p, 5, none⟩ = some (.int .u64 (shI N)) := hFr.head.cell 5
      go_wp2_with fail
      refine (has_any g (fwords N) el (ex N : Nat) (szI N) L (shI N) x BB wr hFr.words (by omega) s1 s2 hL0 hL1 s3).mono ?_
      rintro e' w1 ⟨rfl, hw1⟩
      have hb1 : Below wr.heap.size wr w1 := by rw [← hw1]; exact (Below.refl _ _).alloc (Nat.le_refl _) _
      clear hw1 c0 c1 c2 c3 c4 c5 hcx
      have p1 := (Chg.of_new (S := fun _ => False) hb1).owns ho1 (fun _ _ h => h)
      have p2 := (Chg.of_new (S := fun _ => False) hb1).owns ho2 (fun _ _ h => h)
      have hF1 : Filt w1 p g (fwords N) el (ex N : Nat) (szI N) L (shI N) BB := hFr.chg (Chg.of_new (S := fun _ => False) hb1) id id
      have hbel1 := hbel.trans (hb1.mono hbel.size)
      have hsz1 := hbel1.size
      clear ho1 ho2 hFr hbel hb1
      go_wp2_with (at_builtin; refine wpList_append_own_at _ rfl _ _ 34 rfl w.heap.size 4 i0 (.bool false) 1 1 Try.underlying34 hi hz0 hz1 hz2 rfl (by decide) _ _ _ rfl (p2.alloc _) ⟨w1.heap.size, 0, none⟩ 1 1 [.bool (hasB BB x (szI N) (shI N) L)] rfl rfl ?c1 ?c2 ?c3 ?c4 ?c5 ?_)
      case c1 => exact cell_one_new _ _ _
      case c2 => intro y hy; simp at hy; subst hy; rfl
      case c3 => unfold maxLen; omega
      case c4 => omega
      case c5 => simp; omega
      intro u' w2 q2 hgrow _ hloc
      have a1 := own_apart p1 HN.out HU.out hloc (Nat.le_succ _)
      have q1 := (p1.alloc (.cells #[.bool (hasB BB x (szI N) (shI N) L)] 4)).kept hgrow (.inr HN.out)
      have hF2 : Filt w2 p g (fwords N) el (ex N : Nat) (szI N) L (shI N) BB := ⟨at_grown hgrow (hF1.head.alloc _) (own_ne p2 hF1.head (by decide)), at_grown hgrow (hF1.words.alloc _) (own_ne p2 hF1.words (by decide))⟩
      have hbel2 : Below w.heap.size w w2 := (hbel1.alloc (by omega) _).grown hgrow (by simp; omega) (fun j hj => (p2.lt j hj).1)
      have A1 := Lib.hid a1
      clear hgrow hloc a1 p1 p2 hF1 hbel1
      go_wp2_with fail
      refine (addIf_any p g (fwords N) el (ex N : Nat) (szI N) L (shI N) x BB w2 hF2 (by omega) s1 s2 hL0 hL1 s3).mono ?_
      rintro e' w3 ⟨rfl, ⟨el', hF3⟩, hC3⟩
      have r1 := hC3.owns q1 (fun j hj hS => by rcases hS with rfl | rfl; exact own_ne q1 hF2.head (by decide) hj; exact own_ne q1 hF2.words (by decide) hj)
      have r2 := hC3.owns q2 (fun j hj hS => by rcases hS with rfl | rfl; exact own_ne q2 hF2.head (by decide) hj; exact own_ne q2 hF2.words (by decide) hj)
      have hbel3 : Below w.heap.size w w3 := hbel2.trans (hC3.below hbel2.size (fun j hj h => by omega))
      have hsz3 := hbel3.size
      clear q1 q2 hF2 hC3 hbel2
      go_wp2_with (at_builtin; refine wpList_append_own_at _ rfl _ _ 34 rfl w.heap.size 4 i0 (.bool false) 1 1 Try.underlying34 hi hz0 hz1 hz2 rfl (by decide) _ _ _ rfl (r1.alloc _) ⟨w3.heap.size, 0, none⟩ 1 1 [.bool (!hasB BB x (szI N) (shI N) L)] rfl rfl ?d1 ?d2 ?d3 ?d4 ?d5 ?_)
      case d1 => exact cell_one_new _ _ _
      case d2 => intro y hy; simp at hy; subst hy; rfl
      case d3 => unfold maxLen; omega
      case d4 => omega
      case d5 => simp; omega
      intro v' w4 t1 hgrow _ hloc
      have a2 := own_apart r2 (Ne.symm A1.out.1) HV.out hloc (Nat.le_succ _)
      have t2 := (r2.alloc (.cells #[.bool (!hasB BB x (szI N) (shI N) L)] 4)).kept hgrow (.inr (Ne.symm A1.out.1))
      have hF4 : Filt w4 p g (fwords N) el' (ex N : Nat) (szI N) L (shI N) (addB BB x (szI N) (shI N) L) := ⟨at_grown hgrow (hF3.head.alloc _) (own_ne r1 hF3.head (by decide)), at_grown hgrow (hF3.words.alloc _) (own_ne r1 hF3.words (by decide))⟩
      have hbel4 : Below w.heap.size w w4 := (hbel3.alloc (by omega) _).grown hgrow (by simp; omega) (fun j hj => (r1.lt j hj).1)
      have A2 := Lib.hid a2
      clear hgrow hloc a2 r1 r2 hF3 hbel3
      go_wp2
      go_roundw
      case rel =>
        have ht : hasL (zs.take k) x (szI N) (shI N) L = hasB BB x (szI N) (shI N) L := by rw [HB.out]; rfl
        refine ⟨k + 1, by omega, by go_num, by rw [E1.out, ht]; exact t1, by rw [E2.out, ht]; exact t2, Ne.symm A2.out.1, A2.out.2, A1.out.2, ⟨el', ?_⟩, hbel4⟩
        rw [HS.out, bitsOf_snoc, ← HB.out]; exact hF4
      case measure => simp [intOf]; omega
    · obtain rfl : k = n := by omega
      go_wp2
      go_returns
      obtain ⟨A1, c1, rfl, hv1⟩ := own_vls ho1
      obtain ⟨A2, c2, rfl, hv2⟩ := own_vls ho2
      exact ⟨A1, c1, A2, c2, rfl, hv1, hv2, hbel⟩
end Go.Proofs.Ytoddnjpbmefgnaa
