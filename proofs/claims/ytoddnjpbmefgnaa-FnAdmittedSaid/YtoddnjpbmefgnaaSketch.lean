/-
  The walks of a sketch of four rows.
-/
import Derived.Test.YtoddnjpbmefgnaaRow
import Derived.Test.YtoddnjpbmefgnaaSketchMath
import Derived.Test.YtoddnjpbmefgnaaCounters
import Derived.RegionCalls
import Derived.StillTailTactics
import Derived.Deep.RegionWith
import Derived.Deep.RegionHeld3
namespace Go.Proofs.Ytoddnjpbmefgnaa
open Go.RowKit

set_option maxRecDepth 100000 in
set_option maxHeartbeats 400000 in
theorem next_any (n : Nat) (w : World) (h1 : 1 ≤ n) (hn : n ≤ 257) :
    Calls Try.prog 83 #[.int .i64 (n : Int)] w fun e w' => e = .returned (.int .i64 ((wid n : Nat) : Int)) ∧ w = w' := by
  obtain ⟨k, rfl⟩ : ∃ k, n = k + 1 := ⟨n - 1, by omega⟩
  have hall := up_all ⟨k, by omega⟩
  simp only at hall
  obtain ⟨b1, b2, b3, b4, b5, b6, hw⟩ := hall
  have HW := Lib.hid hw
  have e1 : bits .or .i64 (k : Int) ((k : Int) / 2) = ((up1 k : Nat) : Int) := or_div 2 (by omega)
  have e2 : bits .or .i64 ((up1 k : Nat) : Int) (((up1 k : Nat) : Int) / 4) = ((up2 k : Nat) : Int) := or_div 4 b1
  have e3 : bits .or .i64 ((up2 k : Nat) : Int) (((up2 k : Nat) : Int) / 16) = ((up3 k : Nat) : Int) := or_div 16 b2
  have e4 : bits .or .i64 ((up3 k : Nat) : Int) (((up3 k : Nat) : Int) / 256) = ((up4 k : Nat) : Int) := or_div 256 b3
  have e5 : bits .or .i64 ((up4 k : Nat) : Int) (((up4 k : Nat) : Int) / 65536) = ((up5 k : Nat) : Int) := or_div 65536 b4
  have e6 : bits .or .i64 ((up5 k : Nat) : Int) (((up5 k : Nat) : Int) / 4294967296) = ((up6 k : Nat) : Int) := or_div 4294967296 b5
  clear hw
  go_enter Try.func83, Try.ntmps83
  go_wp2
  go_returns
  exact ⟨congrArg (fun z => Ending.returned (.int .i64 z)) (by have := HW.out; omega), rfl⟩

theorem wid_hi {n : Nat} (h : n ≤ 512) : wid n ≤ 512 := by
  have := clog_mono h
  rw [clog_512] at this
  exact Nat.pow_le_pow_right (n := 2) (by omega) this

/-- A sketch's own cells: four rows, four seeds, the mask. -/
def skV (R : Nat → Value) (S : Nat → Int) (mk : Int) : Array Value :=
  #[R 0, R 1, R 2, R 3, .int .u64 (S 0), .int .u64 (S 1), .int .u64 (S 2), .int .u64 (S 3), .int .u64 mk]
def setV {α : Type} (f : Nat → α) (k : Nat) (v : α) : Nat → α := fun j => if j = k then v else f j
theorem skV_row (R : Nat → Value) (S : Nat → Int) (mk : Int) {k : Nat} (h : k < 4) : (skV R S mk)[k]? = some (R k) := by
  match k, h with
  | 0, _ | 1, _ | 2, _ | 3, _ => rfl
theorem skV_seed (R : Nat → Value) (S : Nat → Int) (mk : Int) {k : Nat} (h : k < 4) : (skV R S mk)[4 + k]? = some (.int .u64 (S k)) := by
  match k, h with
  | 0, _ | 1, _ | 2, _ | 3, _ => rfl
theorem skV_setR (R : Nat → Value) (S : Nat → Int) (mk : Int) {k : Nat} (h : k < 4) (v : Value) : (skV R S mk).setIfInBounds k v = skV (setV R k v) S mk := by
  match k, h with
  | 0, _ | 1, _ | 2, _ | 3, _ => rfl
theorem skV_setS (R : Nat → Value) (S : Nat → Int) (mk : Int) {k : Nat} (h : k < 4) (u : Int) : (skV R S mk).setIfInBounds (4 + k) (.int .u64 u) = skV R (setV S k u) mk := by
  match k, h with
  | 0, _ | 1, _ | 2, _ | 3, _ => rfl

theorem seeds_step (S : Nat → Int) (k : Nat) : setV (fun i => if i < k then S i else 0) k (S k) = fun i => if i < k + 1 then S i else 0 := by
  funext i
  simp only [setV]
  by_cases h : i = k
  · subst h; rw [if_pos rfl, if_pos (by omega)]
  · rw [if_neg h]
    by_cases h2 : i < k
    · rw [if_pos h2, if_pos (by omega)]
    · rw [if_neg h2, if_neg (by omega)]
/-- Four seeds as an array. -/
def seedA (S : Nat → Int) : Array Value := #[.int .u64 (S 0), .int .u64 (S 1), .int .u64 (S 2), .int .u64 (S 3)]
theorem seedA_get (S : Nat → Int) {k : Nat} (h : k < 4) : (seedA S)[k]? = some (.int .u64 (S k)) := by
  match k, h with
  | 0, _ | 1, _ | 2, _ | 3, _ => rfl

/-- The slice over row block g. -/
def rowS (m : Nat) (g : Nat) : Value := .slice (some ⟨g, 0, none⟩) m m

/-- The sketch at block P: the first k rows (blocks G i, m bytes, counters C i) and seeds are laid. -/
structure SkTo (w : World) (k P : Nat) (G : Nat → Nat) (m : Nat) (S : Nat → Int) (mk : Int) (C : Nat → Nat → Nat) : Prop where
  head : At w P (.cells (skV (fun i => if i < k then rowS m (G i) else .slice none 0 0) (fun i => if i < k then S i else 0) mk) 132 (0, 0))
  row : ∀ i, i < k → At w (G i) (.cells (rowA (C i) m) 5 (0, 0))
  inj : ∀ i j, i < k → j < k → G i = G j → i = j

theorem rows_step (m : Nat) (G : Nat → Nat) (k g : Nat) : setV (fun i => if i < k then rowS m (G i) else .slice none 0 0) k (rowS m g) = fun i => if i < k + 1 then rowS m (setV G k g i) else .slice none 0 0 := by
  funext i
  simp only [setV]
  by_cases h : i = k
  · subst h; rw [if_pos rfl, if_pos (by omega), if_pos rfl]
  · rw [if_neg h]
    by_cases h2 : i < k
    · rw [if_pos h2, if_pos (by omega), if_neg h]
    · rw [if_neg h2, if_neg (by omega)]
theorem sk_step {w : World} {k P m : Nat} {G : Nat → Nat} {S : Nat → Int} {mk : Int}
    (hP : At w P (.cells (skV (fun i => if i < k then rowS m (G i) else .slice none 0 0) (fun i => if i < k + 1 then S i else 0) mk) 132 (0, 0)))
    (hrow : ∀ i, i < k → At w (G i) (.cells (rowA (fun _ => 0) m) 5 (0, 0))) (hinj : ∀ i j, i < k → j < k → G i = G j → i = j) (hlt : k < 4) :
    SkTo ((w.alloc (.cells (rowA (fun _ => 0) m) 5)).setCell ⟨P, k, none⟩ (rowS m w.heap.size)).drew (k + 1) P (setV G k w.heap.size) m S mk (fun _ _ => 0) := by
  have hne : w.heap.size ≠ P := by have := hP.lt; omega
  refine ⟨?_, fun i hi => ?_, fun i j hi hj e => ?_⟩
  · have := (hP.alloc (.cells (rowA (fun _ => 0) m) 5)).set k (rowS m w.heap.size)
    rw [skV_setR _ _ _ hlt, rows_step] at this
    exact this
  · by_cases h : i = k
    · subst h
      rw [show setV G i w.heap.size i = w.heap.size by simp [setV]]
      exact (At.new w (.cells (rowA (fun _ => 0) m) 5)).far hne _
    · rw [show setV G k w.heap.size i = G i by simp [setV, h]]
      have hr := hrow i (by omega)
      exact (hr.alloc _).far (hr.apart hP (by decide)) _
  · by_cases h : i = k
    · by_cases h' : j = k
      · omega
      · rw [show setV G k w.heap.size i = w.heap.size by simp [setV, h], show setV G k w.heap.size j = G j by simp [setV, h']] at e
        have := (hrow j (by omega)).lt
        omega
    · by_cases h' : j = k
      · rw [show setV G k w.heap.size j = w.heap.size by simp [setV, h'], show setV G k w.heap.size i = G i by simp [setV, h]] at e
        have := (hrow i (by omega)).lt
        omega
      · rw [show setV G k w.heap.size j = G j by simp [setV, h'], show setV G k w.heap.size i = G i by simp [setV, h]] at e
        exact hinj i j (by omega) (by omega) e

set_option maxRecDepth 100000 in
set_option maxHeartbeats 400000 in
theorem newSketch_any (n : Nat) (S : Nat → Int) (w : World) (h1 : 2 ≤ n) (hn : n ≤ 257) :
    Calls Try.prog 62 #[.int .i64 (n : Int), .agg (seedA S)] w fun e w' => ∃ P G, e = .returned (.pointer (some ⟨P, 0, none⟩)) ∧ w.heap.size ≤ P ∧ (∀ i, i < 4 → w.heap.size ≤ G i) ∧
      SkTo w' 4 P G (wid n / 2) S (((wid n : Nat) : Int) - 1) (fun _ _ => 0) ∧ Below w.heap.size w w' := by
  have hS : At (w.alloc (.cells (seedA S) 41)) w.heap.size (.cells (seedA S) 41 (0, 0)) := At.new _ _
  have hww := wid_ge n
  unfold seedA at hS ⊢
  go_enter Try.func62, Try.ntmps62
  go_wp2_with fail
  have hwh := wid_hi (n := n) (by omega)
  refine (next_any n _ (by omega) hn).mono ?_
  rintro e w1 ⟨rfl, rfl⟩
  go_wp2
  obtain ⟨q, hq⟩ : ∃ q, q = w.heap.size := ⟨_, rfl⟩
  have hb0 : Below w.heap.size w ((w.alloc (.cells (seedA S) 41)).alloc (.cells (skV (fun _ => .slice none 0 0) (fun _ => 0) (((wid n : Nat) : Int) - 1)) 132)) := ((Below.refl _ _).alloc (Nat.le_refl _) _).alloc (by simp) _
  have hQ0 := hS.alloc (.cells (skV (fun _ => .slice none 0 0) (fun _ => 0) (((wid n : Nat) : Int) - 1)) 132)
  have hP0 : At ((w.alloc (.cells (seedA S) 41)).alloc (.cells (skV (fun _ => .slice none 0 0) (fun _ => 0) (((wid n : Nat) : Int) - 1)) 132)) (w.heap.size + 1) (.cells (skV (fun _ => .slice none 0 0) (fun _ => 0) (((wid n : Nat) : Int) - 1)) 132 (0, 0)) := by
    have := At.new (w.alloc (.cells (seedA S) 41)) (.cells (skV (fun _ => .slice none 0 0) (fun _ => 0) (((wid n : Nat) : Int) - 1)) 132)
    simpa using this
  obtain ⟨mk, hmk⟩ : ∃ mk, mk = ((wid n : Nat) : Int) - 1 := ⟨_, rfl⟩
  have HM := Lib.hid hmk
  rw [← hmk] at hb0 hQ0 hP0
  clear hmk hq hS
  go_loopw [6] (fun i wr => ∃ (k : Nat) (G : Nat → Nat), k ≤ 4 ∧ i = .int .i64 k ∧ SkTo wr k (w.heap.size + 1) G (wid n / 2) S mk (fun _ _ => 0) ∧ (∀ j, j < k → w.heap.size ≤ G j) ∧ At wr w.heap.size (.cells (seedA S) 41 (0, 0)) ∧ Below w.heap.size w wr) (fun i _ => 4 - (intOf i).toNat)
  case atStart => 
    refine ⟨0, fun _ => 0, by omega, rfl, ⟨?_, fun _ h => absurd h (Nat.not_lt_zero _), fun _ _ h => absurd h (Nat.not_lt_zero _)⟩, fun _ h => absurd h (Nat.not_lt_zero _), ?_, ?_⟩
    · rw [HM.out] at hP0 ⊢; simp only [Nat.not_lt_zero, if_false]; exact hP0
    · rw [HM.out] at hQ0; exact hQ0
    · rw [HM.out] at hb0; exact hb0
  case round =>
    clear hb0 hQ0 hP0
    obtain ⟨k, G, hk, rfl, hT, hG, hQ, hbel⟩ := hrel
    by_cases hlt : k < 4
    · have cq : wr.cell? ⟨w.heap.size, k, none⟩ = some (.int .u64 (S k)) := (hQ.cell k).trans (seedA_get S hlt)
      have cp : wr.cell? ⟨w.heap.size + 1, 4 + k, none⟩ = some (.int .u64 (if k < k then S k else 0)) := (hT.head.cell (4 + k)).trans (skV_seed _ _ _ hlt)
      have fp : wr.frozen? ⟨w.heap.size + 1, 4 + k, none⟩ = false := hT.head.free _
      rw [if_neg (Nat.lt_irrefl k)] at cp
      have hP2 : At (wr.setCell ⟨w.heap.size + 1, 4 + k, none⟩ (.int .u64 (S k))).drew (w.heap.size + 1) (.cells (skV (fun i => if i < k then rowS (wid n / 2) (G i) else .slice none 0 0) (fun i => if i < k + 1 then S i else 0) mk) 132 (0, 0)) := by
        have := hT.head.set (4 + k) (.int .u64 (S k))
        rw [skV_setS _ _ _ hlt, seeds_step] at this
        exact this
      have hQ2 : At (wr.setCell ⟨w.heap.size + 1, 4 + k, none⟩ (.int .u64 (S k))).drew w.heap.size (.cells (seedA S) 41 (0, 0)) := hQ.far (by simp) _
      have hR2 : ∀ i, i < k → At (wr.setCell ⟨w.heap.size + 1, 4 + k, none⟩ (.int .u64 (S k))).drew (G i) (.cells (rowA (fun _ => 0) (wid n / 2)) 5 (0, 0)) := fun i hi => (hT.row i hi).far ((hT.row i hi).apart hT.head (by decide)) _
      have hb2 : Below w.heap.size w (wr.setCell ⟨w.heap.size + 1, 4 + k, none⟩ (.int .u64 (S k))).drew := (hbel.setCell (Nat.le_succ _) _).drew
      have hinj := hT.inj
      have HR := Lib.hid hR2
      have HI := Lib.hid hinj
      have HG := Lib.hid hG
      clear hR2 hinj hG hT
      go_wp2
      go_region
      go_wp2_with fail
      generalize (wr.setCell ⟨w.heap.size + 1, 4 + k, none⟩ (.int .u64 (S k))).drew = w2 at hP2 hQ2 HR hb2 ⊢
      clear cq cp fp hQ hbel
      have c2 : ∀ o, (w2.alloc o).cell? ⟨w.heap.size + 1, k, none⟩ = some (.slice none 0 0) := fun o => ((hP2.alloc o).cell k).trans (by rw [skV_row _ _ _ hlt, if_neg (Nat.lt_irrefl k)])
      have f2 : ∀ o, (w2.alloc o).frozen? ⟨w.heap.size + 1, k, none⟩ = false := fun o => (hP2.alloc o).free k
      go_region_with ((go_at_call 56; refine (newRow_any (wid n) _ (by omega)).mono ?_; rintro e w3 ⟨rfl, rfl⟩))
      go_wp2
      have hsz2 := hb2.size
      go_roundw
      case rel =>
        refine ⟨k + 1, setV G k w2.heap.size, by omega, by go_num, sk_step hP2 HR.out HI.out hlt, fun j hj => ?_, ((hQ2.alloc _).far (by simp) _), ((hb2.alloc hb2.size _).setCell (Nat.le_succ _) _).drew⟩
        simp only [setV]
        by_cases h : j = k
        · rw [if_pos h]; exact hsz2
        · rw [if_neg h]; exact HG.out j (by omega)
      case measure => simp [intOf]; omega
    · obtain rfl : k = 4 := by omega
      go_wp2
      go_returns
      exact ⟨w.heap.size + 1, G, rfl, Nat.le_succ _, hG, by have e := HM.out; rw [← e]; exact hT, hbel⟩

/-- A sketch at block P of W counters a row, by seeds S: its counters C. -/
structure Sk (w : World) (P : Nat) (G : Nat → Nat) (S : Nat → Int) (W : Nat) (C : Nat → Nat → Nat) : Prop where
  head : At w P (.cells (skV (fun i => rowS (W / 2) (G i)) S (((W : Nat) : Int) - 1)) 132 (0, 0))
  row : ∀ i, i < 4 → At w (G i) (.cells (rowA (C i) (W / 2)) 5 (0, 0))
  inj : ∀ i j, i < 4 → j < 4 → G i = G j → i = j
  small : ∀ i, i < 4 → Small (C i)
theorem Sk.chg {T : Nat → Prop} {w w' : World} {P : Nat} {G : Nat → Nat} {S : Nat → Int} {W : Nat} {C : Nat → Nat → Nat} (h : Sk w P G S W C) (hc : Chg T w w') (hP : ¬ T P) (hG : ∀ i, i < 4 → ¬ T (G i)) : Sk w' P G S W C :=
  ⟨hc.at_ h.head hP, fun i hi => hc.at_ (h.row i hi) (hG i hi), h.inj, h.small⟩
theorem Sk.below {B : Nat} {w w' : World} {P : Nat} {G : Nat → Nat} {S : Nat → Int} {W : Nat} {C : Nat → Nat → Nat} (h : Sk w P G S W C) (hb : Below B w w') (hP : P < B) (hG : ∀ i, i < 4 → G i < B) : Sk w' P G S W C :=
  ⟨h.head.below hb hP, fun i hi => (h.row i hi).below hb (hG i hi), h.inj, h.small⟩
theorem SkTo.sk {w : World} {P : Nat} {G : Nat → Nat} {S : Nat → Int} {W : Nat} (h : SkTo w 4 P G (W / 2) S (((W : Nat) : Int) - 1) (fun _ _ => 0)) : Sk w P G S W (fun _ _ => 0) :=
  ⟨h.head, h.row, h.inj, fun _ _ => small_zero⟩
/-- The blocks of a sketch. -/
def SkB (P : Nat) (G : Nat → Nat) (k : Nat) : Prop := k = P ∨ ∃ i, i < 4 ∧ k = G i
/-- One row turned. -/
theorem Sk.turned {w w' : World} {P : Nat} {G : Nat → Nat} {S : Nat → Int} {W : Nat} {C : Nat → Nat → Nat} (h : Sk w P G S W C) {k : Nat} (hk : k < 4) {D : Nat → Nat} (hD : Small D)
    (hg : At w' (G k) (.cells (rowA D (W / 2)) 5 (0, 0))) (hc : Chg (fun j => j = G k) w w') : Sk w' P G S W (setV C k D) := by
  refine ⟨hc.at_ h.head (fun e => (h.row k hk).apart h.head (by decide) e.symm), fun i hi => ?_, h.inj, fun i hi => ?_⟩
  · by_cases e : i = k
    · subst e; simpa [setV] using hg
    · rw [show setV C k D i = C i by simp [setV, e]]
      exact hc.at_ (h.row i hi) (fun e' => e (h.inj i k hi hk e'))
  · by_cases e : i = k
    · subst e; simpa [setV] using hD
    · rw [show setV C k D i = C i by simp [setV, e]]
      exact h.small i hi

/-- The first k rows raised at a hash's places. -/
def incTo (C : Nat → Nat → Nat) (S : Nat → Int) (W : Nat) (y : Int) (k : Nat) : Nat → Nat → Nat := fun i => if i < k then bump (C i) (xo y (S i) % W) else C i
theorem incTo_zero (C : Nat → Nat → Nat) (S : Nat → Int) (W : Nat) (y : Int) : incTo C S W y 0 = C := by funext i; simp [incTo]
theorem incTo_at (C : Nat → Nat → Nat) (S : Nat → Int) (W : Nat) (y : Int) (k : Nat) : incTo C S W y k k = C k := by simp [incTo]
theorem incTo_succ (C : Nat → Nat → Nat) (S : Nat → Int) (W : Nat) (y : Int) (k : Nat) : incTo C S W y (k + 1) = setV (incTo C S W y k) k (bump (C k) (xo y (S k) % W)) := by
  funext i
  simp only [incTo, setV]
  by_cases h : i = k
  · subst h; rw [if_pos (by omega), if_pos rfl]
  · rw [if_neg h]
    by_cases h2 : i < k
    · rw [if_pos h2, if_pos (by omega)]
    · rw [if_neg h2, if_neg (by omega)]
/-- All four rows raised. -/
def incA (C : Nat → Nat → Nat) (S : Nat → Int) (W : Nat) (y : Int) : Nat → Nat → Nat := incTo C S W y 4

set_option maxRecDepth 100000 in
set_option maxHeartbeats 400000 in
theorem skInc_any (P : Nat) (G : Nat → Nat) (S : Nat → Int) (W : Nat) (C : Nat → Nat → Nat) (y : Int) (w : World) (hW : Hid (Pw W)) (h : Sk w P G S W C) :
    Calls Try.prog 63 #[.pointer (some ⟨P, 0, none⟩), .int .u64 y] w fun e w' => e = .returned (.tuple #[]) ∧ Sk w' P G S W (incA C S W y) ∧ Chg (SkB P G) w w' := by
  have hhi := hW.out.hi
  go_enter Try.func63, Try.ntmps63
  go_wp2
  go_loopw [5] (fun i wr => ∃ k : Nat, k ≤ 4 ∧ i = .int .i64 k ∧ Sk wr P G S W (incTo C S W y k) ∧ Chg (SkB P G) w wr) (fun i _ => 4 - (intOf i).toNat)
  case atStart => exact ⟨0, by omega, rfl, by rw [incTo_zero]; exact h, Chg.refl _ _⟩
  case round =>
    obtain ⟨k, hk, rfl, hr, hch⟩ := hrel
    by_cases hlt : k < 4
    · have cr : wr.cell? ⟨P, k, none⟩ = some (.slice (some ⟨G k, 0, none⟩) (W / 2) (W / 2)) := (hr.head.cell k).trans (skV_row _ _ _ hlt)
      have cs : wr.cell? ⟨P, 4 + k, none⟩ = some (.int .u64 (S k)) := (hr.head.cell (4 + k)).trans (skV_seed _ _ _ hlt)
      have cm : wr.cell? ⟨P, 8, none⟩ = some (.int .u64 ((W : Int) - 1)) := hr.head.cell 8
      have hx := xo_eq y (S k)
      have ha := hW.out.mask y (S k)
      have hpl := hW.out.place (xo y (S k))
      have hg := hr.row k hlt
      have hsm := hr.small k hlt
      rw [incTo_at] at hg hsm
      have HSM := Lib.hid hsm
      have hstep := fun (w' : World) h1 h2 => hr.turned (w' := w') hlt (small_bump hsm (xo y (S k) % W)) h1 h2
      have HST := Lib.hid hstep
      clear hsm hstep hr
      go_wp2_with fail
      go_still_tail 19, (by kernel_rfl)
      change wpList _ _ _ _ _ wr.drew
      go_wp2_with fail
      refine (inc_any (G k) (W / 2) (xo y (S k) % W) (C k) wr.drew (by exact hg) hpl (by omega) HSM.out).mono ?_
      rintro e w3 ⟨rfl, hg3, hc3⟩
      clear cr cs cm hx ha
      go_wp2
      have hc4 : Chg (fun j => j = G k) wr w3 := ⟨hc3.os, hc3.tape, hc3.output, hc3.size, hc3.block⟩
      go_roundw
      case rel => exact ⟨k + 1, by omega, by go_num, by rw [incTo_succ]; exact HST.out w3 hg3 hc4, hch.trans (hc4.mono fun j _ e => .inr ⟨k, hlt, e⟩)⟩
      case measure => simp [intOf]; omega
    · obtain rfl : k = 4 := by omega
      go_wp2
      go_returns
      exact ⟨rfl, hr, hch⟩
end Go.Proofs.Ytoddnjpbmefgnaa
