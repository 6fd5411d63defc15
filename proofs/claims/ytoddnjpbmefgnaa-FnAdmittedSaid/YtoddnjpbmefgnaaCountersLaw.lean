/-
  The walks of spec.Raised and FnExactCounters.
-/
import Derived.Test.YtoddnjpbmefgnaaCounters
namespace Go.Proofs.Ytoddnjpbmefgnaa
open Go.RowKit

/-- Counters as integers, one in a cell. -/
def intsA (C : Nat → Nat) (m : Nat) : Array Value := ((List.range m).map fun i => Value.int .i64 ((C i : Nat) : Int)).toArray
theorem intsA_get (C : Nat → Nat) {m i : Nat} (h : i < m) : (intsA C m)[i]? = some (.int .i64 ((C i : Nat) : Int)) := by simp [intsA, h]
/-- A function turned at one place. -/
def turn (C : Nat → Nat) (p u : Nat) : Nat → Nat := fun j => if j = p then u else C j
theorem intsA_set (C : Nat → Nat) (m p u : Nat) : (intsA C m).setIfInBounds p (.int .i64 ((u : Nat) : Int)) = intsA (turn C p u) m := by
  apply Array.ext
  · simp [intsA]
  · intro i h1 h2
    have hi : i < m := by simpa [intsA] using h2
    rw [Array.getElem_setIfInBounds (by simpa [intsA] using hi)]
    split
    · rename_i e; subst e; simp [intsA, turn]
    · rename_i e
      have e' : ¬ i = p := fun h => e h.symm
      simp [intsA, turn, e']
theorem intsA_zero (m : Nat) : madeCells #[.int .i64 0] m = intsA (fun _ => 0) m := by
  apply Array.ext
  · simp [intsA, madeCells]
  · intro i h1 h2
    have hz : (#[Value.int .i64 0] : Array Value).size = 1 := rfl
    simp [intsA, madeCells, hz, Nat.mod_one]
theorem bump_is (C : Nat → Nat) (p : Nat) : bump C p = turn C p (min 15 (C p + 1)) := rfl
/-- The first k counters halved, if that is asked for. -/
def finTo (C : Nat → Nat) (b : Bool) (k : Nat) : Nat → Nat := fun j => if b = true ∧ j < k then C j / 2 else C j
theorem finTo_zero (C : Nat → Nat) (b : Bool) : finTo C b 0 = C := by funext j; simp [finTo]
theorem finTo_yes (C : Nat → Nat) (k : Nat) : finTo C true (k + 1) = turn (finTo C true k) k (C k / 2) := by
  funext j
  simp only [finTo, turn, true_and]
  rcases Nat.lt_trichotomy j k with h | h | h
  · rw [if_pos (by omega), if_neg (by omega), if_pos h]
  · subst h; rw [if_pos (by omega), if_pos rfl]
  · rw [if_neg (by omega), if_neg (by omega), if_neg (by omega)]
theorem finTo_at (C : Nat → Nat) (b : Bool) (k : Nat) : finTo C b k k = C k := by simp [finTo]
theorem finTo_no (C : Nat → Nat) (k : Nat) : finTo C false k = C := by funext j; simp [finTo]
theorem intsA_fin (C : Nat → Nat) (b : Bool) (m : Nat) : intsA (finTo C b m) m = intsA (fin C b) m := by
  apply Array.ext
  · simp [intsA]
  · intro i h1 h2
    have hi : i < m := by simpa [intsA] using h2
    simp only [intsA, List.getElem_toArray, List.getElem_map, List.getElem_range]
    cases b <;> simp [finTo, fin, half, hi]
theorem lst_ints {w : World} {g m : Nat} {C : Nat → Nat} (h : At w g (.cells (intsA C m) 3 (0, 0))) : Lst .i64 w w.heap.size (some ⟨g, 0, none⟩) m (castL (cntL C m)) :=
  ⟨by rw [castL_length, cntL_length], fun j hj => ⟨g, 0, rfl, h.lt, by rw [Nat.zero_add, h.cell, intsA_get C hj, castL_getD, cntL_getD C hj]⟩⟩

set_option maxRecDepth 100000 in
set_option maxHeartbeats 400000 in
theorem raised_any (A : Option Addr) (n c N : Nat) (ps : List Nat) (b : Bool) (w : World) (hZ : Lst .i64 w w.heap.size A n (castL ps)) (hn : n ≤ 2147483648) (hp : ∀ p ∈ ps, p < N) (hN2 : N ≤ 64) :
    Calls Try.prog 15 #[.int .i64 (N : Int), .slice A n c, .bool b] w (RetLst .i64 w N (castL (cntL (fin (cnt ps) b) N))) := by
  have hmk := run_make_row' 29 3 (.int .i64 0) 8 Try.underlying29 Try.info3 rfl .i64 .i64 N (by omega) (by omega)
  simp only [intsA_zero] at hmk
  go_enter Try.func15, Try.ntmps15
  go_wp2
  clear hmk
  have hg0 : At (w.alloc (.cells (intsA (fun _ => 0) N) 3)) w.heap.size (.cells (intsA (cnt []) N) 3 (0, 0)) := At.new _ _
  go_loopw [15] (fun i wr => ∃ k : Nat, k ≤ n ∧ i = .int .i64 k ∧ At wr w.heap.size (.cells (intsA (cnt (ps.take k)) N) 3 (0, 0)) ∧ Below w.heap.size w wr) (fun i _ => n - (intOf i).toNat)
  case atStart => exact ⟨0, Nat.zero_le _, rfl, hg0, (Below.refl _ _).alloc (Nat.le_refl _) _⟩
  case round =>
    clear hg0
    obtain ⟨k, hk, rfl, hgr, hbel⟩ := hrel
    by_cases hlt : k < n
    · have hl := lst_len hZ
      obtain ⟨b', o, rfl, hb, hcell⟩ := lst_nat hZ hlt
      have hsn := take_snoc ps 0 (show k < ps.length by omega)
      have hpb := hp _ (getD_mem (show k < ps.length by omega))
      generalize ps.getD k 0 = p at hcell hsn hpb
      have hcx : wr.cell? ⟨b', o + k, none⟩ = some (.int .i64 (p : Int)) := (hbel.cell (p := ⟨b', o + k, none⟩) hb).trans hcell
      have hcp : wr.cell? ⟨w.heap.size, p, none⟩ = some (.int .i64 ((cnt (ps.take k) p : Nat) : Int)) := (hgr.cell p).trans (intsA_get _ hpb)
      have hfp : wr.frozen? ⟨w.heap.size, p, none⟩ = false := hgr.free p
      have hsm := small_cnt (ps.take k) p
      have hst := hgr.set p (.int .i64 ((min 15 (cnt (ps.take k) p + 1) : Nat) : Int))
      rw [intsA_set, ← bump_is, ← cnt_snoc, ← hsn] at hst
      have HT := Lib.hid hst
      have HL := Lib.hid hl
      clear hst hsn hcell hl
      generalize cnt (ps.take k) p = q at hcp hsm HT
      have e : ((min 15 (q + 1) : Nat) : Int) = if (q : Int) + 1 < 15 then (q : Int) + 1 else 15 := by
        split <;> omega
      rw [e] at HT
      clear e
      go_wp2
      go_roundw
      case rel => exact ⟨k + 1, by omega, by go_num, HT.out, hbel.setCell (Nat.le_refl _) _⟩
      case measure => simp [intOf]; omega
    · obtain rfl : k = n := by omega
      rw [List.take_of_length_le (Nat.le_of_eq (lst_len hZ))] at hgr
      obtain ⟨D, hD⟩ : ∃ D, D = cnt ps := ⟨_, rfl⟩
      have hC := small_cnt ps
      rw [← hD] at hC hgr
      have HC := Lib.hid hC
      have HD := Lib.hid hD
      clear hC hD
      go_wp2
      go_loopw [31] (fun i wr => ∃ k : Nat, k ≤ N ∧ i = .int .i64 k ∧ At wr w.heap.size (.cells (intsA (finTo D b k) N) 3 (0, 0)) ∧ Below w.heap.size w wr) (fun i _ => N - (intOf i).toNat)
      case atStart => exact ⟨0, Nat.zero_le _, rfl, by rw [finTo_zero]; exact hgr, hbel⟩
      case round =>
        clear hgr hbel
        obtain ⟨q, hq, rfl, hgr, hbel⟩ := hrel
        by_cases hlt2 : q < N
        · cases b
          · have e1 : finTo D false (q + 1) = finTo D false q := by rw [finTo_no, finTo_no]
            have E1 := Lib.hid e1
            clear e1
            go_wp2
            go_roundw
            case rel => exact ⟨q + 1, by omega, by go_num, by rw [E1.out]; exact hgr, hbel⟩
            case measure => simp [intOf]; omega
          · have hcp : wr.cell? ⟨w.heap.size, q, none⟩ = some (.int .i64 ((D q : Nat) : Int)) := (hgr.cell q).trans (by rw [intsA_get _ hlt2, finTo_at])
            have hfp : wr.frozen? ⟨w.heap.size, q, none⟩ = false := hgr.free q
            have hsm := HC.out q
            have hst := hgr.set q (.int .i64 ((D q / 2 : Nat) : Int))
            rw [intsA_set, ← finTo_yes] at hst
            have e : ((D q / 2 : Nat) : Int) = ((D q : Nat) : Int) / 2 := by omega
            rw [e] at hst
            have HT := Lib.hid hst
            clear hst e
            go_wp2
            go_roundw
            case rel => exact ⟨q + 1, by omega, by go_num, HT.out, hbel.setCell (Nat.le_refl _) _⟩
            case measure => simp [intOf]; omega
        · obtain rfl : q = N := by omega
          rw [intsA_fin] at hgr
          go_wp2
          go_returns
          exact ⟨_, _, rfl, by rw [← HD.out]; exact lst_ints hgr, hbel⟩

/-- Numbers that are not below 0, as natural numbers. -/
theorem nat_list (M : Nat) : ∀ zs : List Int, (∀ z ∈ zs, 0 ≤ z ∧ z ≤ (M : Int)) → ∃ xs : List Nat, zs = castL xs ∧ ∀ x ∈ xs, x ≤ M
  | [], _ => ⟨[], rfl, fun _ h => by simp at h⟩
  | z :: zs, h => by
    obtain ⟨xs, e, hx⟩ := nat_list M zs fun y hy => h y (List.mem_cons_of_mem _ hy)
    have hz := h z List.mem_cons_self
    refine ⟨z.toNat :: xs, ?_, ?_⟩
    · rw [e]
      have : ((z.toNat : Nat) : Int) = z := by omega
      simp [castL, this]
    · intro x hx'
      rcases List.mem_cons.1 hx' with rfl | h'
      · omega
      · exact hx x h'

set_option maxRecDepth 100000 in
set_option maxHeartbeats 400000 in
theorem counters_law (x : Nat) (A : Option Addr) (n c : Nat) (xs : List Nat) (b : Bool) (w : World) (hx : x ≤ 255) (hZ : Lst .u16 w w.heap.size A n (castL xs)) (hxs : ∀ x ∈ xs, x ≤ 65535) :
    Calls Try.prog 4 #[.int .u8 (x : Int), .slice A n c, .bool b] w fun e w' => e = .returned (.bool true) ∧ Below w.heap.size w w' := by
  by_cases h1 : 2147483647 < n
  · go_enter Try.func4, Try.ntmps4
    go_wp2
    go_returns
    exact ⟨rfl, Below.refl _ _⟩
  obtain ⟨N, hN⟩ : ∃ N, N = 2 + 2 * (x % 32) := ⟨_, rfl⟩
  have hN1 : 1 ≤ N ∧ N ≤ 64 := by omega
  have hev : N / 2 * 2 = N := by omega
  have eN : (2 : Int) + 2 * ((x : Int) % 32) = (N : Int) := by omega
  have HE := Lib.hid hev
  have HN := Lib.hid eN
  clear hev eN hN
  go_enter Try.func4, Try.ntmps4
  go_wp2_with fail
  rw [HN.out]
  refine (places_any A n c N xs w hZ (by omega) hxs hN1.1 hN1.2).mono ?_
  rintro e w1 ⟨A1, c1, rfl, hl1, hb1⟩
  have hlt := modL_lt (xs := xs) hN1.1
  have HL := Lib.hid hlt
  clear hlt
  go_wp2_with fail
  refine (counters_any A1 n c1 N _ b w1 hl1 (by omega) HL.out hN1.2 HE.out).mono ?_
  rintro e w2 ⟨A2, c2, rfl, hl2, hb2⟩
  have hl1' := (hl1.below hb2).more hb2.size
  go_wp2_with fail
  refine (raised_any A1 n c1 N _ b w2 hl1' (by omega) HL.out hN1.2).mono ?_
  rintro e w3 ⟨A3, c3, rfl, hl3, hb3⟩
  have hl2' := hl2.below hb3
  have hbel := (hb1.trans (hb2.mono hb1.size)).trans (hb3.mono (Nat.le_trans hb1.size hb2.size))
  clear hl1 hl1' hl2 hb1 hb2 hb3
  go_wp2
  go_loopw [37] (fun i wr => ∃ k : Nat, k ≤ N ∧ i = .int .i64 k ∧ ∃ q, wr = w3.drewN q) (fun i _ => N - (intOf i).toNat)
  case atStart => exact ⟨0, Nat.zero_le _, rfl, 0, rfl⟩
  case round =>
    obtain ⟨k, hk, rfl, q, rfl⟩ := hrel
    by_cases hlt : k < N
    · obtain ⟨b2, o2, rfl, _, hc2⟩ := lst_nat hl2' hlt
      obtain ⟨b3, o3, rfl, _, hc3⟩ := lst_nat hl3 hlt
      rw [cntL_getD _ hlt] at hc2 hc3
      generalize fin (cnt (modL xs N)) b k = u at hc2 hc3
      go_wp2
      go_quiet (fail)
      go_wp2
      go_roundw
      case rel => exact ⟨k + 1, by omega, by go_num, _, rfl⟩
      case measure => simp [intOf]; omega
    · go_wp2
      go_returns
      exact ⟨rfl, below_drewN hbel q⟩
end Go.Proofs.Ytoddnjpbmefgnaa
