/-
  The turns of a policy: what each says, and the row that they lie in.
-/
import Derived.Test.YtoddnjpbmefgnaaAddC
namespace Go.Proofs.Ytoddnjpbmefgnaa
open Go.RowKit

/-- A turn: what it says, and the slices of the gone pairs and of what is held. -/
structure TurnT where
  key : Nat
  cost : Int
  out : Bool
  taken : Bool
  gone : List (Nat × Int)
  left : Int
  held : List Bool
  gv : Value
  hv : Value
def tz : TurnT := ⟨0, 0, false, false, [], 0, [], .slice none 0 0, .slice none 0 0⟩
/-- Which of the first n keys are held. -/
def heldL (C : Nat → Option Int) (n : Nat) : List Bool := (List.range n).map fun k => (C k).isSome
theorem heldL_succ (C : Nat → Option Int) (n : Nat) : heldL C (n + 1) = heldL C n ++ [(C n).isSome] := by simp [heldL, List.range_succ]
theorem heldL_len (C : Nat → Option Int) (n : Nat) : (heldL C n).length = n := by simp [heldL]
theorem heldL_get (C : Nat → Option Int) {n k : Nat} (h : k < n) : (heldL C n).getD k false = (C k).isSome := by simp [heldL, List.getD, h]
/-- A turn's cells. -/
def encT (t : TurnT) : List Value := [.int .u64 (t.key : Int), .int .i64 t.cost, .bool t.out, .bool t.taken, t.gv, .int .i64 t.left, t.hv]
def flatT : List TurnT → List Value
  | [] => []
  | t :: ts => encT t ++ flatT ts
theorem flatT_snoc : ∀ (ts : List TurnT) (t : TurnT), flatT (ts ++ [t]) = flatT ts ++ encT t
  | [], t => by simp [flatT]
  | s :: ts, t => by simp [flatT, flatT_snoc ts t]
theorem flatT_len : ∀ (ts : List TurnT), (flatT ts).length = ts.length * 7
  | [] => rfl
  | t :: ts => by simp [flatT, flatT_len ts, encT]; omega
theorem flatT_get : ∀ (ts : List TurnT) (j i : Nat), j < ts.length → i < 7 → (flatT ts)[j * 7 + i]? = (encT (ts.getD j tz))[i]?
  | [], j, _, h, _ => absurd h (Nat.not_lt_zero _)
  | t :: ts, 0, i, _, hi => by
    have hl : (encT t).length = 7 := rfl
    simp only [flatT]
    rw [List.getElem?_append_left (by omega)]
    simp
  | t :: ts, j + 1, i, h, hi => by
    have hl : (encT t).length = 7 := rfl
    simp only [flatT]
    rw [List.getElem?_append_right (by omega), show (j + 1) * 7 + i - (encT t).length = j * 7 + i by omega, flatT_get ts j i (by simpa using h) hi]
    simp

/-- What a turn says: the costs C ahead of it, D behind it. -/
structure TurnSays (most : Int) (C : Nat → Option Int) (t : TurnT) (D : Nat → Option Int) : Prop where
  key : t.key < 16
  cost : 0 ≤ t.cost ∧ t.cost ≤ 255
  out : t.out = (C t.key).isSome
  had : t.out = true → t.taken = false ∧ t.gone = [] ∧ D = putC C t.key none
  new : t.out = false → AddSays C most t.key t.cost t.gone t.taken ∧ D = addC C t.key t.cost t.gone t.taken
  left : t.left = most - total D 16
  held : t.held = heldL D 16
  small : t.gone.length ≤ 1000
  okC : OkA C
  okD : OkA D
  most : total D 16 ≤ most
/-- The turns say how the costs came to be C. -/
def RunTo (most : Int) (ts : List TurnT) (C : Nat → Option Int) : Prop :=
  ∃ St : Nat → Nat → Option Int, St 0 = (fun _ => none) ∧ St ts.length = C ∧ ∀ i, i < ts.length → TurnSays most (St i) (ts.getD i tz) (St (i + 1))
theorem RunTo.start (most : Int) : RunTo most [] (fun _ => none) := ⟨fun _ _ => none, rfl, rfl, fun _ h => absurd h (Nat.not_lt_zero _)⟩
theorem RunTo.snoc {most : Int} {ts : List TurnT} {C D : Nat → Option Int} {t : TurnT} (h : RunTo most ts C) (hs : TurnSays most C t D) : RunTo most (ts ++ [t]) D := by
  obtain ⟨St, h0, hn, hi⟩ := h
  refine ⟨fun i => if i ≤ ts.length then St i else D, ?_, ?_, fun i hlt => ?_⟩
  · simp only; rw [if_pos (Nat.zero_le _)]; exact h0
  · simp only [List.length_append, List.length_singleton]; rw [if_neg (by omega)]
  · by_cases e : i < ts.length
    · have e1 : (ts ++ [t]).getD i tz = ts.getD i tz := by simp only [List.getD, List.getElem?_append_left e]
      rw [e1]
      simp only
      rw [if_pos (show i ≤ ts.length by omega), if_pos (show i + 1 ≤ ts.length by omega)]
      exact hi i e
    · have hie : i = ts.length := by simp at hlt; omega
      subst hie
      have e1 : (ts ++ [t]).getD ts.length tz = t := by simp [List.getD]
      rw [e1]
      simp only
      rw [if_pos (Nat.le_refl _), if_neg (by omega), hn]
      exact hs

theorem okA_none : OkA (fun _ => none) := ⟨fun _ => by simp, fun _ h => (by simp at h), by rw [total_none]; decide⟩
theorem okA_del {C : Nat → Option Int} (h : OkA C) (k : Nat) : OkA (putC C k none) := okA_rem h [(k, 0)]
theorem total_rem_le {C : Nat → Option Int} (h : OkA C) (gs : List (Nat × Int)) : total (remL C gs) 16 ≤ total C 16 := (total_le C _ (fun k => by
  have := h.val k
  rw [remL_is]
  split
  · simp; omega
  · omega) 16).2
theorem total_add {C : Nat → Option Int} {k : Nat} (hk : k < 16) (h0 : C k = none) (c : Int) (gs : List (Nat × Int)) : total (putC (remL C gs) k (some c)) 16 = total (remL C gs) 16 + c := by
  rw [total_put _ _ _ 16 hk, rem_none gs h0]
  simp
theorem okA_add {C : Nat → Option Int} (h : OkA C) {most : Int} {k : Nat} {c : Int} {gs : List (Nat × Int)} {taken : Bool} (hk : k < 16) (hc : 0 ≤ c ∧ c ≤ 255) (h0 : C k = none) (hm : most ≤ 65535) (hs : AddSays C most k c gs taken) : OkA (addC C k c gs taken) := by
  have hr := okA_rem h gs
  unfold addC
  split
  · rename_i ht
    have h1 := hs.room ht
    have h2 := hr.tot
    refine ⟨fun j => ?_, fun j hj => ?_, ?_⟩
    · unfold putC
      split
      · simpa using hc
      · exact hr.val j
    · unfold putC at hj
      split at hj
      · omega
      · exact hr.lt j hj
    · rw [total_add hk h0]
      omega
  · exact hr
theorem most_add {C : Nat → Option Int} (h : OkA C) {most : Int} {k : Nat} {c : Int} {gs : List (Nat × Int)} {taken : Bool} (hk : k < 16) (h0 : C k = none) (hm : total C 16 ≤ most) (hs : AddSays C most k c gs taken) : total (addC C k c gs taken) 16 ≤ most := by
  unfold addC
  split
  · rename_i ht
    rw [total_add hk h0]
    exact hs.room ht
  · have := total_rem_le h gs
    omega

/-- A turn's two rows are the call's own. -/
structure TurnOwn (w : World) (base : Nat) (t : TurnT) : Prop where
  gone : w.ownsRow base 51 2 t.gv t.gone.length (flatP t.gone)
  held : w.ownsRow base 4 1 t.hv t.held.length (t.held.map Value.bool)
theorem TurnOwn.chg {S : Nat → Prop} {w w' : World} {base : Nat} {t : TurnT} (h : TurnOwn w base t) (hc : Chg S w w') (h1 : ∀ k, t.gv.ownBlock = some k → ¬ S k) (h2 : ∀ k, t.hv.ownBlock = some k → ¬ S k) : TurnOwn w' base t := ⟨hc.owns h.gone h1, hc.owns h.held h2⟩

theorem own_cap {w : World} {base : Nat} {e : TypeId} {size n c : Nat} {A : Option Addr} {xs : List Value} (h : w.ownsRow base e size (.slice A n c) n xs) : n ≤ c := by
  rcases h.2 with ⟨hv, _⟩ | ⟨g, cap, cur, hv, _, _, hn, _⟩
  · injection hv with _ h1 h2
    omega
  · injection hv with _ _ h2
    omega
/-- The turns as a slice that is read; its cells, and those of the turns' slices, lie below block B. -/
def Trn (w : World) (B : Nat) (A : Option Addr) (n : Nat) (ts : List TurnT) : Prop :=
  ts.length = n ∧ ∀ j, j < n → (∃ b o, A = some ⟨b, o, none⟩ ∧ b < B ∧ ∀ i, i < 7 → w.cell? ⟨b, o + j * 7 + i, none⟩ = (encT (ts.getD j tz))[i]?) ∧
    (∃ Ag cg, (ts.getD j tz).gv = .slice Ag (ts.getD j tz).gone.length cg ∧ Prs w B Ag (ts.getD j tz).gone.length (ts.getD j tz).gone ∧ (ts.getD j tz).gone.length ≤ cg) ∧
    ∃ Ah ch, (ts.getD j tz).hv = .slice Ah (ts.getD j tz).held.length ch ∧ Vls w B Ah (ts.getD j tz).held.length ((ts.getD j tz).held.map Value.bool) ∧ Nil0 Ah (ts.getD j tz).held.length ch
theorem own_trn {w : World} {base base' : Nat} {e : TypeId} {v : Value} {n : Nat} {ts : List TurnT} (h : w.ownsRow base e 7 v n (flatT ts)) (ho : ∀ j, j < ts.length → TurnOwn w base' (ts.getD j tz)) : ∃ A c, v = .slice A n c ∧ Trn w w.heap.size A n ts := by
  have hl : ts.length = n := by have := h.1; rw [flatT_len] at this; omega
  have hr : ∀ j, j < n → (∃ Ag cg, (ts.getD j tz).gv = .slice Ag (ts.getD j tz).gone.length cg ∧ Prs w w.heap.size Ag (ts.getD j tz).gone.length (ts.getD j tz).gone ∧ (ts.getD j tz).gone.length ≤ cg) ∧
      ∃ Ah ch, (ts.getD j tz).hv = .slice Ah (ts.getD j tz).held.length ch ∧ Vls w w.heap.size Ah (ts.getD j tz).held.length ((ts.getD j tz).held.map Value.bool) ∧ Nil0 Ah (ts.getD j tz).held.length ch := fun j hj =>
    ⟨by
      have hg := (ho j (by omega)).gone
      obtain ⟨Ag, cg, hv, hp, _⟩ := own_prs hg
      exact ⟨Ag, cg, hv, hp, own_cap (by rw [hv] at hg; exact hg)⟩, own_vls0 (ho j (by omega)).held⟩
  rcases h.2 with ⟨rfl, hx⟩ | ⟨g, cap, cur, rfl, hb, hg, r⟩
  · have h0 : n = 0 := by
      have h1 := h.1
      rw [hx] at h1
      simp at h1
      omega
    subst h0
    exact ⟨none, 0, rfl, hl, fun j hj => absurd hj (Nat.not_lt_zero _)⟩
  · refine ⟨_, _, rfl, hl, fun j hj => ⟨⟨g, 0, rfl, (Array.getElem?_eq_some_iff.1 hg).1, fun i hi => ?_⟩, hr j hj⟩⟩
    rw [Nat.zero_add, h.cellAt (j * 7 + i) (by omega), ← flatT_get ts j i (by omega) hi]
end Go.Proofs.Ytoddnjpbmefgnaa
