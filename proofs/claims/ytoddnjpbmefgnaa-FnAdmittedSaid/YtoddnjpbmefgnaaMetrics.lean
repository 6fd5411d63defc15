/-
  The metrics: rows of counters behind pointers; made, and added to.
-/
import Derived.Test.YtoddnjpbmefgnaaSampW
import Derived.Deep.RegionHeld3
namespace Go.Proofs.Ytoddnjpbmefgnaa
open Go.RowKit

/-- A counter of its own block. -/
def Num (R : Nat → Prop) (w : World) (U : Nat) : Prop := R U ∧ ∃ v, At w U (.cells #[.int .u64 v] 23 (0, 0))
/-- A row of pointers, the first q of them to counters. -/
def RowM (R : Nat → Prop) (w : World) (S q : Nat) : Prop := R S ∧ ∃ rs : Array Value, At w S (.cells rs 144 (0, 0)) ∧ rs.size = 256 ∧ ∀ j, j < q → ∃ U, rs[j]? = some (.pointer (some ⟨U, 0, none⟩)) ∧ Num R w U
/-- The metrics, the first i rows of them whole. -/
def Met (R : Nat → Prop) (w : World) (M i : Nat) : Prop := R M ∧ ∃ cs : Array Value, At w M (.cells cs 143 (0, 0)) ∧ cs.size = 12 ∧ ∀ t, t < i → ∃ S, cs[t]? = some (.slice (some ⟨S, 0, none⟩) 256 256) ∧ RowM R w S 256
section
variable {R T S : Nat → Prop} {w w' : World}
theorem Num.chg {U : Nat} (h : Num R w U) (hc : Chg S w w') (hS : ∀ j, R j → ¬ S j) : Num R w' U := ⟨h.1, h.2.choose, hc.at_ h.2.choose_spec (hS _ h.1)⟩
theorem RowM.chg {s q : Nat} (h : RowM R w s q) (hc : Chg S w w') (hS : ∀ j, R j → ¬ S j) : RowM R w' s q := by
  obtain ⟨h0, rs, h1, h2, h3⟩ := h
  exact ⟨h0, rs, hc.at_ h1 (hS _ h0), h2, fun j hj => let ⟨U, a, b⟩ := h3 j hj; ⟨U, a, b.chg hc hS⟩⟩
theorem Met.chg {M i : Nat} (h : Met R w M i) (hc : Chg S w w') (hS : ∀ j, R j → ¬ S j) : Met R w' M i := by
  obtain ⟨h0, cs, h1, h2, h3⟩ := h
  exact ⟨h0, cs, hc.at_ h1 (hS _ h0), h2, fun t ht => let ⟨s, a, b⟩ := h3 t ht; ⟨s, a, b.chg hc hS⟩⟩
theorem Num.put {U g : Nat} {v u : Int} (h : Num R w U) (hg : At w g (.cells #[.int .u64 v] 23 (0, 0))) : Num R (w.setCell ⟨g, 0, none⟩ (.int .u64 u)) U := by
  obtain ⟨h0, x, h1⟩ := h
  by_cases e : U = g
  · subst e; exact ⟨h0, u, by simpa using hg.set 0 (.int .u64 u)⟩
  · exact ⟨h0, x, h1.far (p := ⟨g, 0, none⟩) e _⟩
theorem RowM.put {s q g : Nat} {v u : Int} (h : RowM R w s q) (hg : At w g (.cells #[.int .u64 v] 23 (0, 0))) : RowM R (w.setCell ⟨g, 0, none⟩ (.int .u64 u)) s q := by
  obtain ⟨h0, rs, h1, h2, h3⟩ := h
  exact ⟨h0, rs, h1.far (p := ⟨g, 0, none⟩) (h1.apart hg (by decide)) _, h2, fun j hj => let ⟨U, a, b⟩ := h3 j hj; ⟨U, a, b.put hg⟩⟩
theorem Met.put {M i g : Nat} {v u : Int} (h : Met R w M i) (hg : At w g (.cells #[.int .u64 v] 23 (0, 0))) : Met R (w.setCell ⟨g, 0, none⟩ (.int .u64 u)) M i := by
  obtain ⟨h0, cs, h1, h2, h3⟩ := h
  exact ⟨h0, cs, h1.far (p := ⟨g, 0, none⟩) (h1.apart hg (by decide)) _, h2, fun t ht => let ⟨s, a, b⟩ := h3 t ht; ⟨s, a, b.put hg⟩⟩
theorem Num.lt {U : Nat} (h : Num R w U) : U < w.heap.size := h.2.choose_spec.lt
/-- All that is there is below the heap's size. -/
theorem Met.cap {M i : Nat} (h : Met R w M i) : Met (fun j => R j ∧ j < w.heap.size) w M i := by
  obtain ⟨h0, cs, h1, h2, h3⟩ := h
  refine ⟨⟨h0, h1.lt⟩, cs, h1, h2, fun t ht => ?_⟩
  obtain ⟨s, a, b0, rs, b1, b2, b3⟩ := h3 t ht
  exact ⟨s, a, ⟨b0, b1.lt⟩, rs, b1, b2, fun j hj => let ⟨U, c, d⟩ := b3 j hj; ⟨U, c, ⟨d.1, d.lt⟩, d.2⟩⟩
end

set_option maxRecDepth 100000 in
set_option maxHeartbeats 400000 in
theorem metAdd_any (R : Nat → Prop) (M t k : Nat) (d : Int) (w : World) (ht : t < 11) (hk : k < 18446744073709551616) (h : Met R w M 11) :
    Calls Try.prog 87 #[.pointer (some ⟨M, 0, none⟩), .int .i64 (t : Int), .int .u64 (k : Int), .int .u64 d] w fun e w' => e = .returned (.tuple #[]) ∧ Met R w' M 11 ∧ Chg R w w' := by
  have h' := h
  obtain ⟨hR, cs, hM, hs, hrow⟩ := h'
  obtain ⟨s, hcs, hRs, rs, hS, hrs, hnum⟩ := hrow t ht
  obtain ⟨U, hU, hRU, v, hAU⟩ := hnum (k % 25 * 10) (by omega)
  have c0 : w.cell? ⟨M, t, none⟩ = some (.slice (some ⟨s, 0, none⟩) 256 256) := (hM.cell t).trans hcs
  have c1 : w.cell? ⟨s, k % 25 * 10, none⟩ = some (.pointer (some ⟨U, 0, none⟩)) := (hS.cell _).trans hU
  have c2 : w.cell? ⟨U, 0, none⟩ = some (.int .u64 v) := hAU.cell 0
  have f2 := hAU.free 0
  clear hrow hnum hcs hU hS hM
  have hk25 : k % 25 < 25 := Nat.mod_lt _ (by decide)
  go_enter Try.func87, Try.ntmps87
  go_wp2
  go_returns
  exact ⟨rfl, h.put hAU, (Chg.refl _ _).setCell (p := ⟨U, 0, none⟩) (fun _ => hRU) _⟩

theorem Try.info158 : (Try.prog.info? 158).map (fun i => (i.zero, i.size, i.bytes)) = some (some (.float .f64 0), 1, 8) := by kernel_rfl

set_option maxRecDepth 100000 in
set_option maxHeartbeats 400000 in
theorem bounds_any (w : World) : Calls Try.prog 85 #[.int .u32 1, .int .u32 16] w fun e w' => ∃ A c, e = .returned (.slice A 16 c) ∧ Below w.heap.size w w' := by
  obtain ⟨i0, hi, hz0, hz1, hz2⟩ := info_parts Try.info158
  go_enter Try.func85, Try.ntmps85
  go_wp2
  go_loopw [5, 6] (fun v i wr => ∃ (k : Nat) (xs : List Value), k ≤ 16 ∧ i = .int .u32 ((k + 1 : Nat) : Int) ∧ wr.ownsRow w.heap.size 158 1 v k xs ∧ Below w.heap.size w wr) (fun _ i _ => 17 - (intOf i).toNat)
  case atStart => exact ⟨0, [], by omega, rfl, World.ownsRow_nil _ _ _ _, Below.refl _ _⟩
  case round =>
    obtain ⟨k, xs, hk, rfl, hown, hbel⟩ := hrel
    have hsz := hbel.size
    by_cases hlt : k < 16
    · go_wp2_with (at_builtin; refine wpList_append_own _ rfl _ _ 137 rfl w.heap.size 158 i0 (.float .f64 0) 1 8 Try.underlying137 hi hz0 hz1 hz2 rfl (by decide) _ _ _ rfl (hown.alloc _) ⟨wr.heap.size, 0, none⟩ 1 1 [.float .f64 (floatOfInt .f64 (wrap64 (2 ^ (k + 1))))] rfl rfl ?c1 ?c2 ?c3 ?c4 ?c5 ?_)
      case c1 => exact cell_one_new _ _ _
      case c2 => intro u hu; simp at hu; subst hu; rfl
      case c3 => unfold maxLen; omega
      case c4 => omega
      case c5 => simp; omega
      · intro v' w2 hown2 hgrow _
        have hb2 : Below w.heap.size w w2 := (hbel.alloc (by omega) _).grown hgrow (by simp; omega) (fun j hj => (hown.lt j hj).1)
        clear hgrow hown
        go_wp2
        go_roundw
        case rel => exact ⟨k + 1, _, by omega, by go_num, hown2, hb2⟩
        case measure => simp [intOf]; omega
    · obtain rfl : k = 16 := by omega
      go_wp2
      go_returns
      obtain ⟨A, c, rfl, _⟩ := own_vls hown
      exact ⟨A, c, rfl, hbel⟩

theorem Try.info2 : (Try.prog.info? 2).map (fun i => (i.zero, i.size, i.bytes)) = some (some (.int .i64 0), 1, 8) := by kernel_rfl
theorem Try.info144 : (Try.prog.info? 144).map (fun i => (i.zero, i.size, i.bytes)) = some (some (.pointer none), 1, 8) := by kernel_rfl

set_option maxRecDepth 100000 in
set_option maxHeartbeats 400000 in
theorem histData_any (A : Option Addr) (c : Nat) (w : World) : Calls Try.prog 84 #[.slice A 16 c] w fun e w' => ∃ P, e = .returned (.pointer P) ∧ Below w.heap.size w w' := by
  have hmk : ∀ w, (Instr.makeSlice 155 (.int .i64 17) (.int .i64 17)).run Try.prog w = .ok (.slice (some ⟨w.heap.size, 0, none⟩) 17 17) (w.alloc (.cells (madeCells #[.int .i64 0] 17) 2)) := fun w =>
    run_make_row' 155 2 (.int .i64 0) 8 Try.underlying155 Try.info2 rfl .i64 .i64 17 (by omega) (by omega) w
  go_enter Try.func84, Try.ntmps84
  go_wp2
  go_returns
  exact ⟨_, rfl, ((Below.refl _ _).alloc (Nat.le_refl _) _).alloc (by simp) _⟩

/-- The world behind a new counter whose pointer is stored at place q of block S. -/
def wNum (w : World) (S q : Nat) : World := (w.setCell ⟨S, q, none⟩ (.pointer (some ⟨w.heap.size, 0, none⟩))).alloc (.cells #[.int .u64 0] 23)
theorem size_set (w : World) (p : Addr) (v : Value) : (w.setCell p v).heap.size = w.heap.size := by simp [World.setCell]
section
variable {R : Nat → Prop} {w : World} {S q : Nat} {rs0 : Array Value}
theorem Num.newNum {U : Nat} (h : Num R w U) (hS : At w S (.cells rs0 144 (0, 0))) : Num R (wNum w S q) U := by
  obtain ⟨h0, v, h1⟩ := h
  exact ⟨h0, v, (h1.far (p := ⟨S, q, none⟩) (h1.apart hS (by decide)) _).alloc _⟩
theorem Num.born (w : World) (S q : Nat) (hR : R w.heap.size) : Num R (wNum w S q) w.heap.size := by
  have h := At.new (w.setCell ⟨S, q, none⟩ (.pointer (some ⟨w.heap.size, 0, none⟩))) (.cells #[.int .u64 0] 23 (0, 0))
  rw [size_set] at h
  exact ⟨hR, 0, h⟩
theorem RowM.newNum {s n : Nat} (h : RowM R w s n) (hS : At w S (.cells rs0 144 (0, 0))) (hR : R w.heap.size) : RowM R (wNum w S q) s n := by
  obtain ⟨h0, rs, h1, h2, h3⟩ := h
  by_cases e : s = S
  · subst e
    refine ⟨h0, _, (h1.set q _).alloc _, by simpa using h2, fun j hj => ?_⟩
    obtain ⟨U, a, b⟩ := h3 j hj
    by_cases e2 : q = j
    · subst e2
      have : q < rs.size := (Array.getElem?_eq_some_iff.1 a).1
      exact ⟨w.heap.size, by simp [this], Num.born w s q hR⟩
    · exact ⟨U, by simp [e2, a], b.newNum hS⟩
  · exact ⟨h0, rs, (h1.far (p := ⟨S, q, none⟩) e _).alloc _, h2, fun j hj => let ⟨U, a, b⟩ := h3 j hj; ⟨U, a, b.newNum hS⟩⟩
theorem RowM.next (h : RowM R w S q) (hq : q < 256) (hR : R w.heap.size) : RowM R (wNum w S q) S (q + 1) := by
  obtain ⟨h0, rs, h1, h2, h3⟩ := h
  refine ⟨h0, _, (h1.set q _).alloc _, by simpa using h2, fun j hj => ?_⟩
  by_cases e2 : q = j
  · subst e2
    exact ⟨w.heap.size, by simp [h2, hq], Num.born w S q hR⟩
  · obtain ⟨U, a, b⟩ := h3 j (by omega)
    exact ⟨U, by simp [e2, a], b.newNum h1⟩
end
/-- The metrics, the first k rows of them whole, row k at block S. -/
def Met2 (R : Nat → Prop) (w : World) (M k S : Nat) : Prop := R M ∧ ∃ cs : Array Value, At w M (.cells cs 143 (0, 0)) ∧ cs.size = 12 ∧ cs[k]? = some (.slice (some ⟨S, 0, none⟩) 256 256) ∧ ∀ t, t < k → ∃ s, cs[t]? = some (.slice (some ⟨s, 0, none⟩) 256 256) ∧ RowM R w s 256
section
variable {R : Nat → Prop} {w : World} {M k S q : Nat} {rs0 : Array Value}
theorem Met2.newNum (h : Met2 R w M k S) (hS : At w S (.cells rs0 144 (0, 0))) (hR : R w.heap.size) : Met2 R (wNum w S q) M k S := by
  obtain ⟨h0, cs, h1, h2, hk, h3⟩ := h
  exact ⟨h0, cs, (h1.far (p := ⟨S, q, none⟩) (h1.apart hS (by decide)) _).alloc _, h2, hk, fun t ht => let ⟨s, a, b⟩ := h3 t ht; ⟨s, a, b.newNum hS hR⟩⟩
theorem Met2.whole (h : Met2 R w M k S) (hS : RowM R w S 256) : Met R w M (k + 1) := by
  obtain ⟨h0, cs, h1, h2, hk, h3⟩ := h
  refine ⟨h0, cs, h1, h2, fun t ht => ?_⟩
  by_cases e : t = k
  · subst e; exact ⟨S, hk, hS⟩
  · exact h3 t (by omega)
theorem Met2.chg {T : Nat → Prop} {w' : World} (h : Met2 R w M k S) (hc : Chg T w w') (hS : ∀ j, R j → ¬ T j) : Met2 R w' M k S := by
  obtain ⟨h0, cs, h1, h2, hk, h3⟩ := h
  exact ⟨h0, cs, hc.at_ h1 (hS _ h0), h2, hk, fun t ht => let ⟨s, a, b⟩ := h3 t ht; ⟨s, a, b.chg hc hS⟩⟩
/-- The world behind a new row whose slice is stored at place k of block M. -/
def wRow (w : World) (M k : Nat) : World := (w.setCell ⟨M, k, none⟩ (.slice (some ⟨w.heap.size, 0, none⟩) 256 256)).alloc (.cells (madeCells #[.pointer none] 256) 144)
theorem Num.newRow {U : Nat} {cs0 : Array Value} (h : Num R w U) (hM : At w M (.cells cs0 143 (0, 0))) : Num R (wRow w M k) U := by
  obtain ⟨h0, v, h1⟩ := h
  exact ⟨h0, v, (h1.far (p := ⟨M, k, none⟩) (h1.apart hM (by decide)) _).alloc _⟩
theorem RowM.newRow {s n : Nat} {cs0 : Array Value} (h : RowM R w s n) (hM : At w M (.cells cs0 143 (0, 0))) : RowM R (wRow w M k) s n := by
  obtain ⟨h0, rs, h1, h2, h3⟩ := h
  exact ⟨h0, rs, (h1.far (p := ⟨M, k, none⟩) (h1.apart hM (by decide)) _).alloc _, h2, fun j hj => let ⟨U, a, b⟩ := h3 j hj; ⟨U, a, b.newRow hM⟩⟩
theorem Met.newRow (h : Met R w M k) (hk : k < 12) : Met2 R (wRow w M k) M k w.heap.size := by
  obtain ⟨h0, cs, h1, h2, h3⟩ := h
  refine ⟨h0, _, (h1.set k _).alloc _, by simpa using h2, by simp [h2, hk], fun t ht => ?_⟩
  obtain ⟨s, a, b⟩ := h3 t ht
  exact ⟨s, by simp [show k ≠ t by omega, a], b.newRow h1⟩
theorem RowM.made (w : World) (M k : Nat) (hR : R w.heap.size) : RowM R (wRow w M k) w.heap.size 0 := by
  have h := At.new (w.setCell ⟨M, k, none⟩ (.slice (some ⟨w.heap.size, 0, none⟩) 256 256)) (.cells (madeCells #[.pointer none] 256) 144 (0, 0))
  rw [size_set] at h
  exact ⟨hR, _, h, size_madeCells _ _, fun j hj => absurd hj (Nat.not_lt_zero _)⟩
end

/-- A call hands back new metrics. -/
def RetMet (w : World) (e : Ending) (w' : World) : Prop := ∃ M, e = .returned (.pointer (some ⟨M, 0, none⟩)) ∧ Met (fun j => w.heap.size ≤ j) w' M 11 ∧ Below w.heap.size w w'

set_option maxRecDepth 100000 in
set_option maxHeartbeats 800000 in
theorem newMetrics_any (w : World) : Calls Try.prog 68 #[] w (RetMet w) := by
  have hb := fun W => bounds_any W
  have hh := fun A c W => histData_any A c W
  go_enter Try.func68, Try.ntmps68
  go_wp2_with fail
  refine (hb _).mono ?_
  rintro e w1 ⟨A, c, rfl, hb1⟩
  go_wp2_with fail
  refine (hh A c _).mono ?_
  rintro e w2 ⟨P, rfl, hb2⟩
  have hb02 := hb1.trans (hb2.mono hb1.size)
  have hmk : ∀ w, (Instr.makeSlice 140 (.int .i64 256) (.int .i64 256)).run Try.prog w = .ok (.slice (some ⟨w.heap.size, 0, none⟩) 256 256) (w.alloc (.cells (madeCells #[.pointer none] 256) 144)) := fun w =>
    run_make_row' 140 144 (.pointer none) 8 Try.underlying140 Try.info144 rfl .i64 .i64 256 (by omega) (by omega) w
  clear hb hh hb1 hb2
  go_wp2
  have hM0 : Met (fun j => w.heap.size ≤ j) (w2.alloc (.cells #[.slice none 0 0, .slice none 0 0, .slice none 0 0, .slice none 0 0, .slice none 0 0, .slice none 0 0, .slice none 0 0, .slice none 0 0, .slice none 0 0, .slice none 0 0, .slice none 0 0, .pointer P] 143)) w2.heap.size 0 :=
    ⟨hb02.size, _, At.new _ _, rfl, fun t ht => absurd ht (Nat.not_lt_zero _)⟩
  have hb0 := hb02.alloc hb02.size (.cells #[.slice none 0 0, .slice none 0 0, .slice none 0 0, .slice none 0 0, .slice none 0 0, .slice none 0 0, .slice none 0 0, .slice none 0 0, .slice none 0 0, .slice none 0 0, .slice none 0 0, .pointer P] 143)
  have hMs := hb02.size
  generalize w2.alloc (.cells #[.slice none 0 0, .slice none 0 0, .slice none 0 0, .slice none 0 0, .slice none 0 0, .slice none 0 0, .slice none 0 0, .slice none 0 0, .slice none 0 0, .slice none 0 0, .slice none 0 0, .pointer P] 143) = w3 at hM0 hb0 ⊢
  generalize w2.heap.size = M at hM0 hMs ⊢
  clear hb02
  go_loopw [2] (fun i wr => ∃ k : Nat, k ≤ 11 ∧ i = .int .i64 k ∧ Met (fun j => w.heap.size ≤ j) wr M k ∧ Below w.heap.size w wr) (fun i _ => 11 - (intOf i).toNat)
  case atStart => exact ⟨0, by omega, rfl, hM0, hb0⟩
  case round =>
    clear hM0 hb0
    obtain ⟨k, hk, rfl, hMk, hbel⟩ := hrel
    have hsz := hbel.size
    by_cases hlt : k < 11
    · have hm' := hMk
      obtain ⟨_, cs, hAM, hcs, _⟩ := hm'
      obtain ⟨old, hold⟩ : ∃ v, cs[k]? = some v := ⟨_, Array.getElem?_eq_getElem (by omega)⟩
      have c0 : wr.cell? ⟨M, k, none⟩ = some old := (hAM.cell k).trans hold
      have f0 := hAM.free k
      have hMl := hAM.lt
      have i0 : (0 : Int) ≤ (k : Int) := by omega
      have i1 : (k : Int) < 11 := by omega
      have hMet2 := Met.newRow hMk (show k < 12 by omega)
      have hRow0 := RowM.made (R := fun j => w.heap.size ≤ j) wr M k hsz
      have hb2 : Below w.heap.size w (wRow wr M k) := (hbel.setCell (p := ⟨M, k, none⟩) hMs _).alloc (by rw [size_set]; exact hsz) _
      have hA2 := hAM.alloc (.cells (madeCells #[.pointer none] 256) 144)
      have d0 := (hA2.cell k).trans hold
      have g0 := hA2.free k
      have hA3 := (hAM.set k (.slice (some ⟨wr.heap.size, 0, none⟩) 256 256)).alloc (.cells (madeCells #[.pointer none] 256) 144)
      obtain ⟨nv, d1⟩ : ∃ v, ((wr.setCell ⟨M, k, none⟩ (.slice (some ⟨wr.heap.size, 0, none⟩) 256 256)).alloc (.cells (madeCells #[.pointer none] 256) 144)).cell? ⟨M, k, none⟩ = some v :=
        ⟨_, (hA3.cell k).trans (Array.getElem?_eq_getElem (show k < (cs.setIfInBounds k (.slice (some ⟨wr.heap.size, 0, none⟩) 256 256)).size by simp; omega))⟩
      have g1 := hA3.free k
      have D1 := Lib.hid d1
      have G1 := Lib.hid g1
      have D0 := Lib.hid d0
      have G0 := Lib.hid g0
      clear hAM hold hcs hA2 d0 g0 hA3 d1 g1
      go_wp2_with fail
      go_region_held3 (fun w' => (∃ v, w'.cell? ⟨M, k, none⟩ = some v) ∧ w'.frozen? ⟨M, k, none⟩ = false) (first | (exact ⟨⟨_, D0.out⟩, G0.out⟩) | (exact ⟨⟨_, D1.out⟩, G1.out⟩) | (exact ⟨⟨_, c0⟩, f0⟩) | go_keep) (fail)
      obtain ⟨W5, hW5⟩ : ∃ W, W = (wRow wr M k).drew := ⟨_, rfl⟩
      have hc5 : Chg (fun _ => False) (wRow wr M k) W5 := by rw [hW5]; exact (Chg.refl _ _).drew
      have hM5 := hMet2.chg hc5 (fun _ _ h => h)
      have hS5 := hRow0.chg hc5 (fun _ _ h => h)
      have hb5 := hb2.trans (hc5.below hb2.size (fun _ _ h => h))
      unfold wRow at hW5
      rw [← hW5]
      generalize wr.heap.size = Sb at hM5 hS5 ⊢
      clear hW5 hc5 hMet2 hRow0 hb2 D1 G1 D0 G0 c0 f0 hMk hbel
      have hM5' := hM5
      obtain ⟨_, cs5, hA5, _, hk5, _⟩ := hM5'
      have c5 : W5.cell? ⟨M, k, none⟩ = some (.slice (some ⟨Sb, 0, none⟩) 256 256) := (hA5.cell k).trans hk5
      clear hA5 hk5
      go_wp2
      go_loopw [27] (fun i wr' => ∃ q : Nat, q ≤ 256 ∧ i = .int .i64 q ∧ Met2 (fun j => w.heap.size ≤ j) wr' M k Sb ∧ RowM (fun j => w.heap.size ≤ j) wr' Sb q ∧ Below w.heap.size w wr') (fun i _ => 256 - (intOf i).toNat)
      case atStart => exact ⟨0, by omega, rfl, hM5, hS5, hb5⟩
      case round =>
        clear hM5 hS5 hb5 c5
        obtain ⟨q, hq, rfl, hMq, hSq, hbq⟩ := hrel
        have hszq := hbq.size
        by_cases hql : q < 256
        · have hSq' := hSq
          obtain ⟨hSR, rs, hAS, hrs, _⟩ := hSq'
          obtain ⟨old2, hold2⟩ : ∃ v, rs[q]? = some v := ⟨_, Array.getElem?_eq_getElem (by omega)⟩
          have c6 := (hAS.cell q).trans hold2
          have f6 := hAS.free q
          have hMn := hMq.newNum (q := q) hAS hszq
          have hSn := hSq.next hql hszq
          have hbn : Below w.heap.size w (wNum wr Sb q) := (hbq.setCell (p := ⟨Sb, q, none⟩) hSR _).alloc (by rw [size_set]; exact hszq) _
          have hSl := hAS.lt
          clear hold2 hrs
          clear hMq hSq hbq
          go_wp2
          go_roundw
          case rel => exact ⟨q + 1, by omega, by go_num, hMn, hSn, hbn⟩
          case measure => simp [intOf]; omega
        · obtain rfl : q = 256 := by omega
          go_wp2
          go_roundw
          case rel => exact ⟨k + 1, by omega, by go_num, hMq.whole hSq, hbq⟩
          case measure => simp [intOf]; omega
    · obtain rfl : k = 11 := by omega
      go_wp2
      go_returns
      exact ⟨M, rfl, hMk, hbel⟩
end Go.Proofs.Ytoddnjpbmefgnaa
