/-
  The walk of Sampled.Pairs.
-/
import Derived.Test.YtoddnjpbmefgnaaPairs
namespace Go.Proofs.Ytoddnjpbmefgnaa
open Go.RowKit Go.Shelf Go.Sort

theorem same_nat (a b : Nat) : (Lit.int .u64 (a : Int)).sameKey (.int .u64 (b : Int)) = decide (a = b) := by
  unfold Lit.sameKey
  by_cases h : a = b
  · subst h; simp
  · have : ¬ ((a : Int) = (b : Int)) := by omega
    simp [h, this]

/-- What a range over the map has met so far. -/
def Col (C : Nat → Option Int) (left : Lit → Bool) (ps : List (Nat × Int)) : Prop :=
  ps.Nodup ∧ (∀ k c, (k, c) ∈ ps ↔ C k = some c ∧ left (.int .u64 (k : Int)) = false) ∧ ∀ k : Nat, left (.int .u64 (k : Int)) = true → (C k).isSome = true
theorem Col.start {C : Nat → Option Int} {left : Lit → Bool} (h : ∀ k : Nat, left (.int .u64 (k : Int)) = (C k).isSome) : Col C left [] := by
  refine ⟨List.nodup_nil, fun k c => ?_, fun k hk => by rw [← h]; exact hk⟩
  constructor
  · intro h; cases h
  · rintro ⟨h1, h2⟩
    rw [h, h1] at h2
    cases h2
theorem Col.step {C : Nat → Option Int} {left : Lit → Bool} {ps : List (Nat × Int)} (h : Col C left ps) {k : Nat} (hk : left (.int .u64 (k : Int)) = true) : Col C (fun z => left z && !z.sameKey (.int .u64 (k : Int))) (ps ++ [(k, (C k).getD 0)]) := by
  obtain ⟨h1, h2, h3⟩ := h
  have hs := h3 k hk
  obtain ⟨c0, hc0⟩ := Option.isSome_iff_exists.1 hs
  refine ⟨?_, fun j c => ?_, fun j hj => ?_⟩
  · rw [List.nodup_append]
    refine ⟨h1, by simp, ?_⟩
    rintro ⟨a, x⟩ ha ⟨a', y⟩ hb heq
    simp at hb
    obtain ⟨rfl, _⟩ := hb
    cases heq
    have := ((h2 _ _).1 ha).2
    rw [hk] at this
    cases this
  · rw [List.mem_append, h2]
    simp only [List.mem_singleton, Prod.mk.injEq, Bool.and_eq_false_iff, Bool.not_eq_false', same_nat, decide_eq_true_eq]
    rw [hc0]
    constructor
    · rintro (⟨a, b⟩ | ⟨rfl, rfl⟩)
      · exact ⟨a, .inl b⟩
      · exact ⟨hc0, .inr rfl⟩
    · rintro ⟨a, b | rfl⟩
      · exact .inl ⟨a, b⟩
      · rw [hc0] at a
        injection a with a
        exact .inr ⟨rfl, by simp [a]⟩
  · simp only [Bool.and_eq_true] at hj
    exact h3 j hj.1

theorem own_not_iter {w : World} {base : Nat} {e : TypeId} {v : Value} {n m b r cnt : Nat} {xs : List Value} {D : DataW Unit} {left : Lit → Bool} {R : Value → Option (DataW Unit × List MemPlace)} (h : w.ownsRow base e 2 v m xs) (hr : w.ranges Try.prog 23 R b r n D left cnt) : v.ownBlock ≠ some r := by
  intro he
  rcases h.2 with ⟨rfl, _⟩ | ⟨g, cap, cur, rfl, _, hg, _⟩
  · simp [Value.ownBlock] at he
  · simp [Value.ownBlock] at he
    subst he
    obtain ⟨_, _, _, _, _, _, _, _, _, hit, _⟩ := hr
    rw [hg] at hit
    cases hit
theorem own_cases {w : World} {base : Nat} {v : Value} {m : Nat} {ps : List (Nat × Int)} (h : w.ownsRow base 93 2 v m (flatP ps)) :
    (v = .slice none 0 0 ∧ ps = [] ∧ m = 0) ∨ ∃ g cap, v = .slice (some ⟨g, 0, none⟩) m cap ∧ base ≤ g ∧ g < w.heap.size ∧ HoldsK encP 2 w g 0 ps.toArray := by
  have hl : ps.length = m := by have := h.1; rw [flatP_len] at this; omega
  have h' := h
  rcases h.2 with ⟨rfl, hx⟩ | ⟨g, cap, cur, rfl, hb, hg, _⟩
  · left
    have h0 : m = 0 := by
      have h1 := h.1
      first | (rw [hx] at h1; simp at h1; omega) | omega
    subst h0
    exact ⟨rfl, List.eq_nil_of_length_eq_zero hl, rfl⟩
  · exact .inr ⟨g, cap, rfl, hb, (Array.getElem?_eq_some_iff.1 hg).1, own_holdsP h'⟩

/-- A call hands back pairs in the order of their keys, and turns nothing that was there. -/
def RetPr (w : World) (ps : List (Nat × Int)) (e : Ending) (w' : World) : Prop := ∃ A n c, e = .returned (.slice A n c) ∧ Prs w' w'.heap.size A n ps ∧ (∀ g o s, A = some ⟨g, o, s⟩ → w.heap.size ≤ g) ∧ Below w.heap.size w w'

set_option maxRecDepth 100000 in
set_option maxHeartbeats 400000 in
theorem pairs_any (P b n : Nat) (most : Int) (C : Nat → Option Int) (w : World) (hn : n ≤ 8589934592) (hC : OkC C) (h : Smp w P b n most C) :
    Calls Try.prog 52 #[.agg #[.pointer (some ⟨P, 0, none⟩)]] w (RetPr w (outC C 16)) := by
  obtain ⟨i0, hi, hz0, hz1, hz2⟩ := info_parts Try.info93
  have h1 := h.chg (S := fun _ => False) ((Chg.refl _ _).alloc (.cells #[.pointer (some ⟨P, 0, none⟩)] 98)) id id
  have hbx : At (w.alloc (.cells #[.pointer (some ⟨P, 0, none⟩)] 98)) w.heap.size (.cells #[.pointer (some ⟨P, 0, none⟩)] 98 (0, 0)) := At.new _ _
  have hbel0 : Below w.heap.size w (w.alloc (.cells #[.pointer (some ⟨P, 0, none⟩)] 98)) := (Below.refl _ _).alloc (Nat.le_refl _) _
  have cb := hbx.cell 0
  have c3 : (w.alloc (.cells #[.pointer (some ⟨P, 0, none⟩)] 98)).cell? ⟨P, 3, none⟩ = some (.map (some b)) := h1.head.cell 3
  obtain ⟨D, hD, hh, hat⟩ := h1.map
  have Hh := Lib.hid hh
  have Hat := Lib.hid hat
  have hsz := hD.size_le
  have hblt := hD.lt
  have hbw := h.map.lt
  clear hh hat h1 h
  go_enter Try.func52, Try.ntmps52
  go_wp2_with (at_range; refine wpList_range_own _ rfl _ 54 rfl 23 2 key23 Try.underlying54 _ b n D rfl hD ?_; intro w0 hrg0 hg0 hs0)
  go_frame
  have e1 : (w.alloc (.cells #[.pointer (some ⟨P, 0, none⟩)] 98)).heap.size = w.heap.size + 1 := by simp
  have hb0 : Below w.heap.size w w0 := hbel0.grown hg0 (by rw [e1]; omega) (fun j hj => by cases hj)
  have hstart : Col C (Maps.has D) [] := Col.start Hh.out
  clear hg0 hs0 hbel0 hbx cb c3 hD
  generalize (w.alloc (.cells #[.pointer (some ⟨P, 0, none⟩)] 98)).heap.size = r at hrg0 hblt e1 ⊢
  have hrw : w.heap.size ≤ r := by omega
  clear e1
  go_loopw [3] (fun v wr => ∃ (left : Lit → Bool) (cnt m : Nat) (ps : List (Nat × Int)), wr.ranges Try.prog 23 (plainElem Try.prog 2) b r n D left cnt ∧ wr.ownsRow w.heap.size 93 2 v m (flatP ps) ∧ Hid (Col C left ps) ∧ m + cnt ≤ Maps.size D ∧ Below w.heap.size w wr) (fun _ wr => wr.rangeLeft b r)
  case atStart => exact ⟨_, _, 0, [], hrg0, World.ownsRow_nil _ _ _ _, hstart, by omega, hb0⟩
  case round =>
    clear hrg0 hb0 hstart
    obtain ⟨left, cnt, m, ps, hrg, hown, hcol, hcnt, hbel⟩ := hrel
    have hrl := hrg.lt
    have hsz2 := hbel.size
    go_wp2_with (at_next; refine wpList_next_ranges_ii _ rfl _ rfl 23 2 .u64 .i64 key23 Try.underlying23 Try.underlying2 b r n _ _ _ rfl hrg ?_ ?_)
    · intro _ hl0
      obtain ⟨hnd, hmem0, _⟩ := hcol.out
      have hmem : ∀ k c, (k, c) ∈ ps ↔ C k = some c := fun k c => (hmem0 k c).trans ⟨fun h => h.1, fun h => ⟨h, hl0 _⟩⟩
      rcases own_cases hown with ⟨rfl, rfl, rfl⟩ | ⟨g, cap, rfl, hbg, hgl, hH⟩
      · have he : ([] : List (Nat × Int)) = outC C 16 := sorted_is hC (List.Perm.refl _) hmem hnd List.Pairwise.nil
        have HE := Lib.hid he
        clear hmem hmem0 hnd he hl0
        go_wp2_with fail
        refine (sort_none _ _).mono ?_
        rintro e _ ⟨rfl, rfl⟩
        go_wp2
        go_returns
        exact ⟨none, 0, 0, rfl, by rw [← HE.out]; exact Prs.nil _ _ _, fun g o s e => by (cases e), hbel⟩
      · have hl : ps.length = m := by have := hown.1; rw [flatP_len] at this; omega
        have hso := sort_some g cap ps wr hH hgl (by omega)
        rw [hl] at hso
        have hfin : ∀ ds : List (Nat × Int), ds.Perm ps → ds.Pairwise (fun x y => x.1 ≤ y.1) → ds = outC C 16 := fun ds h1 h2 => sorted_is hC h1 hmem hnd h2
        have HF := Lib.hid hfin
        have HS := Lib.hid hso
        clear hmem hmem0 hnd hfin hso hl0 hH hl
        go_wp2_with fail
        refine HS.out.mono ?_
        rintro e w2 ⟨rfl, ds, hp, hs, hpr, hg2⟩
        have e2 := HF.out ds hp hs
        subst e2
        have hb2 : Below w.heap.size w w2 := hbel.grown hg2 hsz2 (fun j hj => by cases hj; exact hbg)
        clear hp hs hg2
        go_wp2
        go_returns
        exact ⟨_, _, _, rfl, hpr, fun g' o s e => by (cases e; exact hbg), hb2⟩
    · intro x c w1 cnt1 hwx hwc hlx hatx hrg1 hlt hg1 hs1 hen
      obtain ⟨lx, ux⟩ := bounds_u64 hwx
      obtain ⟨k, rfl⟩ := Int.eq_ofNat_of_zero_le lx
      have hce : c = (C k).getD 0 := by
        have h2 := (hatx (.lit (.int .i64 0))).symm.trans (Hat.out k)
        simpa using h2
      have hcol1 := hcol.out.step hlx
      rw [← hce] at hcol1
      have HC1 := Lib.hid hcol1
      have hown1 := (Chg.of_grown (S := fun j => j = r) hg1 (fun j e _ => by cases e; rfl)).owns hown (fun j hj e => own_not_iter hown hrg (by rw [hj, e]))
      have hb1 : Below w.heap.size w w1 := hbel.grown hg1 hsz2 (fun j hj => by cases hj; omega)
      have hrl1 := hrg1.lt
      have hsz3 := hb1.size
      have HLE := Lib.hid hrg.left_eq
      clear hcol1 hce hatx hcol hown hrg hbel hlx hwx hwc hg1 hs1 hsz2
      go_wp2_with (at_builtin; refine wpList_append_pair rfl _ _ 90 rfl w.heap.size 93 i0 (.agg #[.int .u64 0, .int .i64 0]) Try.underlying90 hi hz0 hz1 hz2 rfl _ m ps rfl (hown1.alloc _) w1.heap.size k c rfl ((At.new _ _).cell 0) ((At.new _ _).cell 1) ?c1 ?c2 ?c3 ?_)
      case c1 => unfold maxLen; omega
      case c2 => omega
      case c3 => first | omega | (simp; omega)
      intro v' w2 hown2 hgrow
      have hb2 : Below w.heap.size w w2 := (hb1.alloc hsz3 _).grown hgrow (by simp; omega) (fun jj hjj => (hown1.lt jj hjj).1)
      have hrg2 := (hrg1.alloc (.cells #[.int .u64 (k : Int), .int .i64 c] 93)).kept hgrow (fun e => by have := (hown1.lt b e.symm).1; omega) (fun e => own_not_iter hown1 hrg1 e.symm)
      have HLE2 := Lib.hid hrg2.left_eq
      clear hgrow hown1 hrg1
      go_wp2
      go_roundw
      case rel => exact ⟨_, _, m + 1, _, hrg2, hown2, HC1, by omega, hb2⟩
      case measure => rw [HLE2.out, HLE.out]; omega
end Go.Proofs.Ytoddnjpbmefgnaa
