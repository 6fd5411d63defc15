/-
  The plain law of the costs: what is held behind steps, all together, and listed in the order of the keys.
-/
import Derived.Test.YtoddnjpbmefgnaaNever
namespace Go.Proofs.Ytoddnjpbmefgnaa
open Go.RowKit

/-- C with another value at k. -/
def putC (C : Nat → Option Int) (k : Nat) (o : Option Int) (j : Nat) : Option Int := if j = k then o else C j
/-- A cost below nought takes the key out. -/
def ofI (c : Int) : Option Int := if c < 0 then none else some c
def stepC (C : Nat → Option Int) (p : Nat × Int) : Nat → Option Int := putC C p.1 (ofI p.2)
/-- What is held behind steps. -/
def holdL (ss : List (Nat × Int)) : Nat → Option Int := ss.foldl stepC (fun _ => none)
theorem holdL_snoc (ss : List (Nat × Int)) (p : Nat × Int) : holdL (ss ++ [p]) = stepC (holdL ss) p := by simp [holdL, List.foldl_append]
/-- The cost that a key was given last. -/
def lastI (o : Option Int) (key : Nat) (p : Nat × Int) : Option Int := if p.1 = key then some p.2 else o
def lastL (ss : List (Nat × Int)) (key : Nat) : Option Int := ss.foldl (fun o p => lastI o key p) none
theorem lastL_snoc (ss : List (Nat × Int)) (p : Nat × Int) (key : Nat) : lastL (ss ++ [p]) key = lastI (lastL ss key) key p := by simp [lastL, List.foldl_append]
theorem hold_last_aux (key : Nat) : ∀ (ss : List (Nat × Int)) (C : Nat → Option Int) (o : Option Int), C key = o.bind ofI → (ss.foldl stepC C) key = (ss.foldl (fun o p => lastI o key p) o).bind ofI
  | [], _, _, h => h
  | p :: ss, C, o, h => by
    simp only [List.foldl_cons]
    apply hold_last_aux key ss
    unfold stepC putC lastI
    by_cases e : p.1 = key
    · rw [if_pos e.symm, if_pos e]; rfl
    · rw [if_neg (fun h => e h.symm), if_neg e]; exact h
theorem hold_last (ss : List (Nat × Int)) (key : Nat) : holdL ss key = (lastL ss key).bind ofI := hold_last_aux key ss _ _ rfl

/-- What the first n keys cost together. -/
def total (C : Nat → Option Int) : Nat → Int
  | 0 => 0
  | n + 1 => total C n + (C n).getD 0
theorem total_put (C : Nat → Option Int) (k : Nat) (o : Option Int) : ∀ n, k < n → total (putC C k o) n = total C n + o.getD 0 - (C k).getD 0 := by
  have h0 : ∀ n, n ≤ k → total (putC C k o) n = total C n := by
    intro n
    induction n with
    | zero => intro _; rfl
    | succ n ih =>
      intro h
      unfold total
      rw [ih (by omega)]
      simp [putC, show n ≠ k by omega]
  intro n
  induction n with
  | zero => intro h; omega
  | succ n ih =>
    intro h
    unfold total
    by_cases e : n = k
    · subst e
      rw [h0 n (Nat.le_refl _)]
      simp [putC]; omega
    · rw [ih (by omega)]
      simp [putC, e]; omega
/-- Held costs are small, and of the first 16 keys. -/
def OkC (C : Nat → Option Int) : Prop := ∀ k c, C k = some c → k < 16 ∧ 0 ≤ c ∧ c ≤ 127
theorem OkC.val {C : Nat → Option Int} (h : OkC C) (k : Nat) : 0 ≤ (C k).getD 0 ∧ (C k).getD 0 ≤ 127 := by
  cases e : C k with
  | none => simp
  | some c => have := h k c e; simp; omega
theorem OkC.put {C : Nat → Option Int} (h : OkC C) {k : Nat} {o : Option Int} (hk : ∀ c, o = some c → k < 16 ∧ 0 ≤ c ∧ c ≤ 127) : OkC (putC C k o) := by
  intro j c e
  unfold putC at e
  by_cases ej : j = k
  · rw [if_pos ej] at e; subst ej; exact hk c e
  · rw [if_neg ej] at e; exact h j c e
theorem OkC.total {C : Nat → Option Int} (h : OkC C) : ∀ n, 0 ≤ total C n ∧ Ytoddnjpbmefgnaa.total C n ≤ 127 * (n : Int)
  | 0 => by simp [Ytoddnjpbmefgnaa.total]
  | n + 1 => by
    have := OkC.total h n
    have := h.val n
    unfold Ytoddnjpbmefgnaa.total
    omega
/-- Steps at the first 16 keys, their costs of 8 bits. -/
def OkS (ss : List (Nat × Int)) : Prop := ∀ p ∈ ss, p.1 < 16 ∧ -128 ≤ p.2 ∧ p.2 ≤ 127
theorem okC_step {C : Nat → Option Int} (h : OkC C) {p : Nat × Int} (hp : p.1 < 16 ∧ -128 ≤ p.2 ∧ p.2 ≤ 127) : OkC (stepC C p) := h.put fun c e => by
  unfold ofI at e
  split at e
  · cases e
  · injection e with e; omega
theorem okC_fold : ∀ (ss : List (Nat × Int)) (C : Nat → Option Int), OkC C → OkS ss → OkC (ss.foldl stepC C)
  | [], _, h, _ => h
  | p :: ss, _, h, hs => okC_fold ss _ (okC_step h (hs p (List.mem_cons_self ..))) fun q hq => hs q (List.mem_cons_of_mem _ hq)
theorem okC_hold (ss : List (Nat × Int)) (hs : OkS ss) : OkC (holdL ss) := okC_fold ss _ (fun _ _ e => by cases e) hs

/-- What is held, in the order of the keys. -/
def oneC (o : Option Int) (n : Nat) : List (Nat × Int) := match o with | none => [] | some c => [(n, c)]
def outC (C : Nat → Option Int) : Nat → List (Nat × Int)
  | 0 => []
  | n + 1 => outC C n ++ oneC (C n) n
theorem mem_outC (C : Nat → Option Int) (k : Nat) (c : Int) : ∀ n, (k, c) ∈ outC C n ↔ k < n ∧ C k = some c
  | 0 => by simp [outC]
  | n + 1 => by
    unfold outC
    rw [List.mem_append, mem_outC C k c n]
    constructor
    · rintro (⟨h1, h2⟩ | h)
      · exact ⟨by omega, h2⟩
      · cases e : C n with
        | none => simp [oneC, e] at h
        | some d =>
          simp [oneC, e] at h
          obtain ⟨rfl, rfl⟩ := h
          exact ⟨by omega, e⟩
    · rintro ⟨h1, h2⟩
      by_cases h : k < n
      · exact .inl ⟨h, h2⟩
      · obtain rfl : k = n := by omega
        right; simp [oneC, h2]
theorem outC_lt (C : Nat → Option Int) : ∀ n, (outC C n).Pairwise (fun x y => x.1 < y.1)
  | 0 => List.Pairwise.nil
  | n + 1 => by
    unfold outC
    rw [List.pairwise_append]
    refine ⟨outC_lt C n, ?_, ?_⟩
    · cases C n <;> simp [oneC]
    · intro x hx y hy
      have h1 := ((mem_outC C x.1 x.2 n).1 hx).1
      cases e : C n with
      | none => simp [oneC, e] at hy
      | some d => simp [oneC, e] at hy; subst hy; exact h1
theorem outC_len (C : Nat → Option Int) : ∀ n, (outC C n).length ≤ n
  | 0 => Nat.le_refl _
  | n + 1 => by
    unfold outC
    have := outC_len C n
    rw [List.length_append]
    cases C n <;> simp [oneC] <;> omega
theorem sorted_is {C : Nat → Option Int} (hC : OkC C) {ps d : List (Nat × Int)} (hp : d.Perm ps) (hmem : ∀ k c, (k, c) ∈ ps ↔ C k = some c) (hnd : ps.Nodup) (hs : d.Pairwise (fun x y => x.1 ≤ y.1)) : d = outC C 16 := by
  have hm : ∀ k c, (k, c) ∈ outC C 16 ↔ C k = some c := fun k c => by
    rw [mem_outC]
    exact ⟨fun h => h.2, fun h => ⟨(hC k c h).1, h⟩⟩
  have hno : (outC C 16).Nodup := (outC_lt C 16).imp fun h e => by subst e; omega
  have hpo : d.Perm (outC C 16) := hp.trans ((List.perm_ext_iff_of_nodup hnd hno).2 fun ⟨k, c⟩ => (hmem k c).trans (hm k c).symm)
  refine List.Perm.eq_of_pairwise ?_ hs ((outC_lt C 16).imp fun h => Nat.le_of_lt h) hpo
  rintro ⟨a, x⟩ ⟨b, y⟩ ha hb h1 h2
  obtain rfl : a = b := by simp at h1 h2; omega
  have e1 := (hmem a x).1 (hp.mem_iff.1 ha)
  have e2 := (hm a y).1 hb
  rw [e1] at e2
  injection e2 with e2
  rw [e2]

/-- A pair's two cells. -/
def encP (x : Nat × Int) : List Value := [.int .u64 (x.1 : Int), .int .i64 x.2]
def flatP (ps : List (Nat × Int)) : List Value := ps.flatMap encP
theorem flatP_snoc (ps : List (Nat × Int)) (p : Nat × Int) : flatP (ps ++ [p]) = flatP ps ++ encP p := by simp [flatP]
theorem flatP_len : ∀ ps : List (Nat × Int), (flatP ps).length = ps.length * 2
  | [] => rfl
  | p :: ps => by
    have := flatP_len ps
    simp [flatP, encP] at this ⊢
    omega
theorem flatP_get0 : ∀ (ps : List (Nat × Int)) (j : Nat), j < ps.length → (flatP ps)[j * 2]? = some (.int .u64 ((ps.getD j (0, 0)).1 : Int))
  | [], j, h => absurd h (Nat.not_lt_zero _)
  | p :: ps, 0, _ => rfl
  | p :: ps, j + 1, h => by
    have := flatP_get0 ps j (by simpa using h)
    rw [show (j + 1) * 2 = j * 2 + 2 by omega]
    simpa [flatP, encP] using this
theorem flatP_get1 : ∀ (ps : List (Nat × Int)) (j : Nat), j < ps.length → (flatP ps)[j * 2 + 1]? = some (.int .i64 (ps.getD j (0, 0)).2)
  | [], j, h => absurd h (Nat.not_lt_zero _)
  | p :: ps, 0, _ => rfl
  | p :: ps, j + 1, h => by
    have := flatP_get1 ps j (by simpa using h)
    rw [show (j + 1) * 2 + 1 = (j * 2 + 1) + 2 by omega]
    simpa [flatP, encP] using this
/-- A slice of pairs that is read; its cells lie below block B. -/
def Prs (w : World) (B : Nat) (A : Option Addr) (n : Nat) (ps : List (Nat × Int)) : Prop :=
  ps.length = n ∧ ∀ j, j < n → ∃ b o, A = some ⟨b, o, none⟩ ∧ b < B ∧ w.cell? ⟨b, o + j * 2, none⟩ = some (.int .u64 ((ps.getD j (0, 0)).1 : Int)) ∧ w.cell? ⟨b, o + j * 2 + 1, none⟩ = some (.int .i64 (ps.getD j (0, 0)).2)
theorem Prs.below {w w' : World} {B : Nat} {A : Option Addr} {n : Nat} {ps : List (Nat × Int)} (h : Prs w B A n ps) (hb : Below B w w') : Prs w' B A n ps :=
  ⟨h.1, fun j hj => by
    obtain ⟨b, o, e, hB, h0, h1⟩ := h.2 j hj
    exact ⟨b, o, e, hB, (hb.cell (p := ⟨b, o + j * 2, none⟩) hB).trans h0, (hb.cell (p := ⟨b, o + j * 2 + 1, none⟩) hB).trans h1⟩⟩
theorem Prs.more {w : World} {B B' : Nat} {A : Option Addr} {n : Nat} {ps : List (Nat × Int)} (h : Prs w B A n ps) (hB : B ≤ B') : Prs w B' A n ps :=
  ⟨h.1, fun j hj => by
    obtain ⟨b, o, e, hb, h0, h1⟩ := h.2 j hj
    exact ⟨b, o, e, Nat.lt_of_lt_of_le hb hB, h0, h1⟩⟩
theorem Prs.nil (w : World) (B : Nat) (A : Option Addr) : Prs w B A 0 [] := ⟨rfl, fun _ h => absurd h (Nat.not_lt_zero _)⟩
/-- What a call has built by append, as a slice of pairs that is read. -/
theorem own_prs {w : World} {base : Nat} {e : TypeId} {v : Value} {n : Nat} {ps : List (Nat × Int)} (h : w.ownsRow base e 2 v n (flatP ps)) : ∃ A c, v = .slice A n c ∧ Prs w w.heap.size A n ps ∧ Nil0 A n c := by
  have hl : ps.length = n := by have := h.1; rw [flatP_len] at this; omega
  rcases h.2 with ⟨rfl, hx⟩ | ⟨g, cap, cur, rfl, hb, hg, r⟩
  · have h0 : n = 0 := by
      have h1 := h.1
      first | (rw [hx] at h1; simp at h1; omega) | omega
    subst h0
    exact ⟨none, 0, rfl, ⟨hl, fun j hj => absurd hj (Nat.not_lt_zero _)⟩, fun _ => ⟨rfl, rfl⟩⟩
  · refine ⟨_, _, rfl, ⟨hl, fun j hj => ⟨g, 0, rfl, (Array.getElem?_eq_some_iff.1 hg).1, ?_, ?_⟩⟩, fun e => by cases e⟩
    · rw [Nat.zero_add, h.cellAt (j * 2) (by omega)]
      exact flatP_get0 ps j (by omega)
    · rw [Nat.zero_add, h.cellAt (j * 2 + 1) (by omega)]
      exact flatP_get1 ps j (by omega)
end Go.Proofs.Ytoddnjpbmefgnaa
