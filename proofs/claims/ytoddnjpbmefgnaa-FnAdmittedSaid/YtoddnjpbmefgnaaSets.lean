/-
  A map from hashes to bools that a call makes, as a set of numbers; the slices that a call makes, read as numbers or bools.
-/
import Derived.Test.YtoddnjpbmefgnaaHas
import Derived.Maps.Views
namespace Go.Proofs.Ytoddnjpbmefgnaa
open Go.RowKit

theorem key23 : Maps.Keyed Try.prog 23 := Maps.int_keyed Try.underlying23
theorem zero4 (w : World) : (zeroValue 4).run Try.prog w = .ok (.bool false) w := by kernel_rfl

theorem wf_u64_nat {k : Nat} (h : k < 18446744073709551616) : (Lit.int .u64 (k : Int)).wf = true := WalkArith.wf_u64 ⟨by omega, by omega⟩

/-- Block b is a map that holds 'true' at just the numbers of S (of those that fit). -/
def SetAt (w : World) (b c : Nat) (S : Nat → Bool) : Prop :=
  ∃ D : DataW Unit, w.ownsMap Try.prog 23 (plainElem Try.prog 4) b c D ∧ Maps.IsMap D ∧ ∀ k : Nat, D.atKey (.int .u64 (k : Int)) (.lit (.bool false)) = .lit (.bool (S k))

theorem SetAt.made (w : World) : SetAt (w.alloc (.map #[] 0)) w.heap.size 0 (fun _ => false) :=
  ⟨.map [], World.ownsMap_made _ _ _ _, Maps.isMap_empty, fun _ => rfl⟩
theorem SetAt.chg {S : Nat → Prop} {w w' : World} {b c : Nat} {T : Nat → Bool} (h : SetAt w b c T) (hc : Chg S w w') (hS : ¬ S b) : SetAt w' b c T := by
  obtain ⟨D, ⟨es, clock, hb, r⟩, h2⟩ := h
  exact ⟨D, ⟨es, clock, hc.at_ hb hS, r⟩, h2⟩
theorem SetAt.lt {w : World} {b c : Nat} {T : Nat → Bool} (h : SetAt w b c T) : b < w.heap.size := let ⟨_, h, _⟩ := h; h.lt
theorem SetAt.look {w : World} {b c : Nat} {T : Nat → Bool} (h : SetAt w b c T) {k : Nat} (hk : k < 18446744073709551616) :
    (Instr.lookup 76 (.map (some b)) (.int .u64 (k : Int)) false).run Try.prog w = .ok (.bool (T k)) w := by
  obtain ⟨D, ho, _, hat⟩ := h
  obtain ⟨v, ps, hrun, hv⟩ := ho.lookup key23 Try.underlying76 (zero4 w) (plainElem_bool Try.underlying4 false) (Maps.keyOf_int_mk Try.underlying23 (wf_u64_nat hk))
  rw [hat k] at hv
  have : v = .bool (T k) := by
    cases v <;> simp [plainElem, Try.underlying4] at hv
    rw [hv.1]
  rw [← this]; exact hrun
theorem SetAt.mono {w : World} {b c c' : Nat} {T : Nat → Bool} (h : SetAt w b c T) (hc : c ≤ c') : SetAt w b c' T := by
  obtain ⟨D, h1, h2⟩ := h
  exact ⟨D, h1.mono hc, h2⟩
/-- A cell does not lie in the map's block. -/
theorem SetAt.ne {w : World} {b c : Nat} {T : Nat → Bool} (h : SetAt w b c T) {b' o : Nat} {v : Value} (hc : w.cell? ⟨b', o, none⟩ = some v) : b' ≠ b := by
  rintro rfl
  obtain ⟨D, ⟨es, clock, hb, _⟩, _⟩ := h
  simp [World.cell?, hb] at hc
theorem SetAt.lst {w w' : World} {b c : Nat} {T : Nat → Bool} (h : SetAt w b c T) (hC : Chg (fun k => k = b) w w') {k : IntKind} {B : Nat} {A : Option Addr} {n : Nat} {zs : List Int} (hl : Lst k w B A n zs) : Lst k w' B A n zs :=
  ⟨hl.1, fun j hj => by
    obtain ⟨b', o, e, hB, hc⟩ := hl.2 j hj
    exact ⟨b', o, e, hB, hC.cell hc (h.ne hc)⟩⟩
theorem lit_ne {a b : Nat} (h : a ≠ b) : Lit.int .u64 (a : Int) ≠ Lit.int .u64 (b : Int) := fun e => by
  injection e with _ e
  omega
theorem put_set {D : DataW Unit} (hD : Maps.IsMap D) {S : Nat → Bool} (hat : ∀ k : Nat, D.atKey (.int .u64 (k : Int)) (.lit (.bool false)) = .lit (.bool (S k))) (j : Nat) :
    ∀ k : Nat, (D.put (.int .u64 (j : Int)) (.lit (.bool true))).atKey (.int .u64 (k : Int)) (.lit (.bool false)) = .lit (.bool (setB S j k)) := by
  intro k
  by_cases h : k = j
  · subst h
    rw [Maps.atKey_put_same hD (by trivial)]
    simp [setB]
  · rw [Maps.atKey_put_other (lit_ne h), hat]
    simp [setB, h]

/-- A slice at A, of n elements, holds the values xs; its cells lie below block B. -/
def Vls (w : World) (B : Nat) (A : Option Addr) (n : Nat) (xs : List Value) : Prop :=
  xs.length = n ∧ ∀ j, j < n → ∃ b o, A = some ⟨b, o, none⟩ ∧ b < B ∧ w.cell? ⟨b, o + j, none⟩ = some (xs.getD j undef)
theorem Vls.keep {w w' : World} {B : Nat} {A : Option Addr} {n : Nat} {xs : List Value} (h : Vls w B A n xs) (hb : ∀ b o, b < B → w'.cell? ⟨b, o, none⟩ = w.cell? ⟨b, o, none⟩) : Vls w' B A n xs :=
  ⟨h.1, fun j hj => by
    obtain ⟨b, o, e, hB, hc⟩ := h.2 j hj
    exact ⟨b, o, e, hB, (hb b _ hB).trans hc⟩⟩
theorem Vls.below {w w' : World} {B : Nat} {A : Option Addr} {n : Nat} {xs : List Value} (h : Vls w B A n xs) (hb : Below B w w') : Vls w' B A n xs := h.keep fun _ _ hB => hb.cell (p := ⟨_, _, none⟩) hB
/-- What a call has built by append, as a slice that is read. -/
theorem own_vls {w : World} {base : Nat} {e : TypeId} {v : Value} {n : Nat} {xs : List Value} (h : w.ownsRow base e 1 v n xs) : ∃ A c, v = .slice A n c ∧ Vls w w.heap.size A n xs := by
  have hl : xs.length = n := by have := h.1; omega
  rcases h.2 with ⟨rfl, rfl⟩ | ⟨g, cap, cur, rfl, hb, hg, r⟩
  · exact ⟨none, 0, rfl, hl, fun j hj => absurd hj (Nat.not_lt_zero _)⟩
  · refine ⟨_, _, rfl, hl, fun j hj => ⟨g, 0, rfl, (Array.getElem?_eq_some_iff.1 hg).1, ?_⟩⟩
    rw [Nat.zero_add, h.cellAt j (by omega)]
    simp [List.getD, hl, hj]
theorem vls_lst {k : IntKind} {w : World} {B : Nat} {A : Option Addr} {n : Nat} {zs : List Int} (h : Vls w B A n (zs.map (Value.int k))) : Lst k w B A n zs :=
  ⟨by have := h.1; simpa using this, fun j hj => by
    obtain ⟨b, o, e, hb, hc⟩ := h.2 j hj
    have hl : j < zs.length := by have := h.1; simp at this; omega
    refine ⟨b, o, e, hb, hc.trans ?_⟩
    simp [List.getD, hl]⟩

/-- A call hands back a slice of its own that reads as the numbers zs (the values xs), and turns nothing that was there. -/
def RetLst (k : IntKind) (w : World) (n : Nat) (zs : List Int) (e : Ending) (w' : World) : Prop := ∃ A c, e = .returned (.slice A n c) ∧ Lst k w' w'.heap.size A n zs ∧ Below w.heap.size w w'
def RetVls (w : World) (n : Nat) (xs : List Value) (e : Ending) (w' : World) : Prop := ∃ A c, e = .returned (.slice A n c) ∧ Vls w' w'.heap.size A n xs ∧ Below w.heap.size w w'

theorem plI_u64 {x sz sh : Int} (i : Nat) (h0 : 0 ≤ sz) (h1 : sz ≤ 65536) : plI x sz sh i < 18446744073709551616 := by
  have := atI_le (hiI x sh) (hiI (upI x sh) sh) i h0 (by omega)
  unfold plI; omega
/-- The places of a hash, in order. -/
def places (x sz sh : Int) (n : Nat) : List Int := (List.range n).map fun i => ((plI x sz sh i : Nat) : Int)
theorem places_succ (x sz sh : Int) (n : Nat) : places x sz sh (n + 1) = places x sz sh n ++ [((plI x sz sh n : Nat) : Int)] := by simp [places, List.range_succ]
theorem places_length (x sz sh : Int) (n : Nat) : (places x sz sh n).length = n := by simp [places]
theorem places_get (x sz sh : Int) {n j : Nat} (h : j < n) : (places x sz sh n).getD j 0 = ((plI x sz sh j : Nat) : Int) := by simp [places, List.getD, h]

set_option maxRecDepth 100000 in
set_option maxHeartbeats 400000 in
theorem bits_any (x sz L sh : Int) (w : World) (hs0 : 0 ≤ sz) (hs1 : sz ≤ 65536) (hL0 : 0 ≤ L) (hL1 : L ≤ 8) (hsh : Hid (0 ≤ sh)) :
    Calls Try.prog 35 #[.int .u64 x, .int .u64 sz, .int .u64 L, .int .u64 sh] w  (RetLst .u64 w L.toNat (places x sz sh L.toNat)) := by
  obtain ⟨i0, hi, hz0, hz1, hz2⟩ := info_parts Try.info23
  have hr := fun y => shr_hi y hsh.out
  have hl := fun y => shl_up y hsh.out
  go_enter Try.func35, Try.ntmps35
  go_wp2
  clear hr hl
  go_loopw [9, 12] (fun v i wr => ∃ k : Nat, i = .int .u64 k ∧ (k : Int) ≤ L ∧ wr.ownsRow w.heap.size 23 1 v k ((places x sz sh k).map (Value.int .u64)) ∧ Below w.heap.size w wr) (fun _ i _ => L.toNat - (intOf i).toNat)
  case atStart => exact ⟨0, rfl, by omega, World.ownsRow_lit w #[] 0 (Nat.le_refl _) (Nat.zero_le _) rfl, (Below.refl _ _).alloc (Nat.le_refl _) _⟩
  case round =>
    obtain ⟨k, rfl, hk, hown, hbel⟩ := hrel
    have hsz := hbel.size
    by_cases hlt : (k : Int) < L
    · have hmix : bits .and .u64 (IntKind.u64.wrap (hiI x sh + IntKind.u64.wrap ((k : Int) * hiI (upI x sh) sh))) sz = ((plI x sz sh k : Nat) : Int) := atI_eq _ _ k hs0 (by omega)
      go_wp2_with (at_builtin; refine wpList_append_own _ rfl _ _ 33 rfl w.heap.size 23 i0 (.int .u64 0) 1 8 Try.underlying33 hi hz0 hz1 hz2 rfl (by decide) _ _ _ rfl (hown.alloc _) ⟨wr.heap.size, 0, none⟩ 1 1 [.int .u64 ((plI x sz sh k : Nat) : Int)] rfl rfl ?c1 ?c2 ?c3 ?c4 ?c5 ?_)
      case c1 => exact cell_one_new _ _ _
      case c2 => intro u hu; simp at hu; subst hu; rfl
      case c3 => unfold maxLen; omega
      case c4 => omega
      case c5 => simp; omega
      · intro v' w2 hown2 hgrow _
        have hb2 : Below w.heap.size w w2 := (hbel.alloc (by omega) _).grown hgrow (by simp; omega) (fun j hj => (hown.lt j hj).1)
        clear hgrow hown hmix
        go_wp2
        go_roundw
        case rel => exact ⟨k + 1, by go_num, by omega, by rw [places_succ, List.map_append]; exact hown2, hb2⟩
        case measure => simp [intOf]; omega
    · have hkl : k = L.toNat := by omega
      have HK := Lib.hid hkl
      clear hkl
      go_wp2
      go_returns
      obtain ⟨A, c, rfl, hv⟩ := own_vls hown
      have e := HK.out
      subst e
      exact ⟨A, c, rfl, vls_lst hv, hbel⟩

/-- The bits of the first k hashes, and the first j places of one more. -/
def bitsAnd (zs : List Int) (x sz sh L : Int) (j : Nat) : Nat → Bool := addN (bitsOf zs sz sh L) x sz sh j
theorem bitsAnd_zero (zs : List Int) (x sz sh L : Int) : bitsAnd zs x sz sh L 0 = bitsOf zs sz sh L := addN_zero _ _ _ _
theorem bitsAnd_succ (zs : List Int) (x sz sh L : Int) (j : Nat) : bitsAnd zs x sz sh L (j + 1) = setB (bitsAnd zs x sz sh L j) (plI x sz sh j) := addN_succ _ _ _ _ _
theorem bitsAnd_all (zs : List Int) (x sz sh L : Int) : bitsAnd zs x sz sh L L.toNat = bitsOf (zs ++ [x]) sz sh L := by rw [bitsOf_snoc]; rfl

set_option maxRecDepth 100000 in
set_option maxHeartbeats 400000 in
theorem specHas_any (A : Option Addr) (n c : Nat) (zs : List Int) (x sz L sh : Int) (w : World) (hZ : Lst .u64 w w.heap.size A n zs) (hn : n ≤ 2147483648)
    (hs0 : 0 ≤ sz) (hs1 : sz ≤ 65536) (hL0 : 0 ≤ L) (hL1 : L ≤ 8) (hsh : Hid (0 ≤ sh)) :
    Calls Try.prog 17 #[.slice A n c, .int .u64 x, .int .u64 sz, .int .u64 L, .int .u64 sh] w fun e w' => e = .returned (.bool (hasL zs x sz sh L)) ∧ Below w.heap.size w w' := by
  have hmm := @run_makeMap Try.prog
  go_enter Try.func17, Try.ntmps17
  go_wp2
  go_loopw [21] (fun i wr => ∃ k : Nat, k ≤ n ∧ i = .int .i64 k ∧ SetAt wr w.heap.size (8 * k) (bitsOf (zs.take k) sz sh L) ∧ Below w.heap.size w wr) (fun i _ => n - (intOf i).toNat)
  case atStart => exact ⟨0, Nat.zero_le _, rfl, SetAt.made w, (Below.refl _ _).alloc (Nat.le_refl _) _⟩
  case round =>
    obtain ⟨k, hk, rfl, hS, hbel⟩ := hrel
    by_cases hlt : k < n
    · obtain ⟨b, o, rfl, hb, hcell⟩ := hZ.2 k hlt
      have hsn := take_snoc zs 0 (show k < zs.length by have := hZ.1; omega)
      generalize zs.getD k 0 = y at hcell hsn
      have hcx : wr.cell? ⟨b, o + k, none⟩ = some (.int .u64 y) := (hbel.cell (p := ⟨b, o + k, none⟩) hb).trans hcell
      have HS := Lib.hid hsn
      clear hsn hcell
      go_wp2_with fail
      refine (bits_any y sz L sh wr hs0 hs1 hL0 hL1 hsh).mono ?_
      rintro e w1 ⟨Ab, cb, rfl, hlb, hb1⟩
      have hS1 := hS.chg (Chg.of_new (S := fun _ => False) hb1) id
      have hbel1 := hbel.trans (hb1.mono hbel.size)
      clear hcx hS
      go_wp2
      generalize hB1 : w1.heap.size = B1 at hlb
      have HB1 := Lib.hid hB1
      clear hB1 hb1
      go_loopw [31] (fun i wr => ∃ q : Nat, q ≤ L.toNat ∧ i = .int .i64 q ∧ SetAt wr w.heap.size (8 * k + q) (bitsAnd (zs.take k) y sz sh L q) ∧ Lst .u64 wr B1 Ab L.toNat (places y sz sh L.toNat) ∧ Below w.heap.size w wr) (fun i _ => L.toNat - (intOf i).toNat)
      case atStart => exact ⟨0, Nat.zero_le _, rfl, by rw [bitsAnd_zero]; exact hS1, hlb, hbel1⟩
      case round =>
        clear hS1 hbel1 hlb
        obtain ⟨q, hq, rfl, hS2, hlb, hbel2⟩ := hrel
        by_cases hql : q < L.toNat
        · obtain ⟨b2, o2, rfl, hb2, hcell2⟩ := hlb.2 q hql
          rw [places_get _ _ _ hql] at hcell2
          have hlb' := fun w' h => hS2.lst (w' := w') h hlb
          have hlo := hS2.lt
          obtain ⟨D, hD, hm, hat⟩ := hS2
          have Hat := Lib.hid hat
          have Hlb := Lib.hid hlb'
          have Hl := Lib.hid hlb
          clear hat hlb' hlb
          go_wp2_with (at_mapUpdate; refine wpList_mapUpdate_own _ rfl _ _ _ 76 rfl 23 4 key23 Try.underlying76 _ w.heap.size (8 * k + q) D rfl hD (by unfold maxLen; omega) _ _ _ rfl rfl (Maps.keyOf_int_mk Try.underlying23 (wf_u64_nat (plI_u64 q hs0 hs1))) (.lit (.bool true)) [] (plainElem_bool Try.underlying4 true) ?_)
          intro w3 hD3 hg3
          have hC3 : Chg (fun k => k = w.heap.size) wr w3 := Chg.of_grown hg3 (fun j e _ => by cases e; rfl)
          clear hcell2
          go_wp2
          go_roundw
          case rel =>
            refine ⟨q + 1, by omega, by go_num, ⟨_, hD3, hm.put _ _, ?_⟩, Hlb.out w3 hC3, hbel2.trans (hC3.below hbel2.size (fun j hj h => by omega))⟩
            rw [bitsAnd_succ]
            exact put_set hm Hat.out _
          case measure => simp [intOf]; omega
        · obtain hqe : q = L.toNat := by omega
          have HQ := Lib.hid hqe
          clear hqe
          go_wp2
          go_roundw
          case rel =>
            refine ⟨k + 1, by omega, by go_num, ?_, hbel2⟩
            rw [HS.out, ← bitsAnd_all, ← HQ.out]
            exact hS2.mono (by have := HQ.out; omega)
          case measure => simp [intOf]; omega
    · obtain rfl : k = n := by omega
      rw [List.take_of_length_le (Nat.le_of_eq hZ.1)] at hS
      go_wp2_with fail
      refine (bits_any x sz L sh wr hs0 hs1 hL0 hL1 hsh).mono ?_
      rintro e w1 ⟨Ab, cb, rfl, hlb, hb1⟩
      have hS1 := hS.chg (Chg.of_new (S := fun _ => False) hb1) id
      have hbel1 := hbel.trans (hb1.mono hbel.size)
      clear hS hb1
      go_wp2
      go_loop [45] (fun i => ∃ q : Nat, q ≤ L.toNat ∧ i = .int .i64 q ∧ Hid (∀ j, j < q → bitsOf zs sz sh L (plI x sz sh j) = true)) (fun i => L.toNat - (intOf i).toNat)
      case atStart => exact ⟨0, Nat.zero_le _, rfl, fun _ h => absurd h (Nat.not_lt_zero _)⟩
      case round =>
        obtain ⟨q, hq, rfl, hI⟩ := hrel
        by_cases hql : q < L.toNat
        · obtain ⟨b2, o2, rfl, hb2, hcell2⟩ := hlb.2 q hql
          rw [places_get _ _ _ hql] at hcell2
          have hrun := hS1.look (plI_u64 (x := x) (sh := sh) q hs0 hs1)
          cases hbit : bitsOf zs sz sh L (plI x sz sh q)
          · rw [hbit] at hrun
            have HB := Lib.hid hbit
            clear hbit
            go_wp2
            go_returns
            exact ⟨congrArg (fun b => Ending.returned (.bool b)) (Eq.symm (hasB_no (by omega) HB.out)), hbel1⟩
          · rw [hbit] at hrun
            have HB := Lib.hid hbit
            clear hbit
            go_wp2
            go_round
            case rel => exact ⟨q + 1, by omega, by go_num, below_succ hI.out HB.out⟩
            case measure => simp [intOf]; omega
        · go_wp2
          go_returns
          exact ⟨congrArg (fun b => Ending.returned (.bool b)) (Eq.symm (hasB_yes (fun j hj => hI.out j (by omega)))), hbel1⟩
end Go.Proofs.Ytoddnjpbmefgnaa
