/-
  Small words on memory for all walks: what a block holds, which blocks a call may have turned, a slice of numbers that is read.
-/
import Derived.WalkKit
import Derived.WalkLawsBesides
import Derived.WalkSpells
import Derived.Lib.Hide
import Derived.Handy
import Derived.Maps.AppendAt
namespace Go.Proofs.Ytoddnjpbmefgnaa
open Go.RowKit

/-- Block g holds the object o. -/
def At (w : World) (g : Nat) (o : Obj) : Prop := w.heap[g]? = some o

section
variable {w w' : World} {g : Nat} {o : Obj}
theorem At.lt (h : At w g o) : g < w.heap.size := (Array.getElem?_eq_some_iff.1 h).1
theorem At.one (h : At w g o) {o' : Obj} (h' : At w g o') : o = o' := Option.some.inj (h.symm.trans h')
theorem At.new (w : World) (o : Obj) : At (w.alloc o) w.heap.size o := heap_alloc_new w o
theorem At.alloc (h : At w g o) (o' : Obj) : At (w.alloc o') g o := (Below.heap_alloc w o' g h.lt).trans h
theorem At.far (h : At w g o) {p : Addr} (hp : g ≠ p.block) (u : Value) : At (w.setCell p u) g o := (Below.heap_setCell w p u g hp).trans h
theorem At.drewN (h : At w g o) (n : Nat) : At (w.drewN n) g o := h
theorem At.below {B : Nat} (h : At w g o) (hb : Below B w w') (hg : g < B) : At w' g o := (hb.block g hg).trans h
variable {t : TypeId} {cs : Array Value}
theorem At.cell (h : At w g (.cells cs t (0, 0))) (i : Nat) : w.cell? ⟨g, i, none⟩ = cs[i]? := by
  have h' : w.heap[g]? = _ := h
  simp [World.cell?, h']
theorem At.free (h : At w g (.cells cs t (0, 0))) (i : Nat) : w.frozen? ⟨g, i, none⟩ = false := by
  have h' : w.heap[g]? = _ := h
  simp [World.frozen?, h']
theorem At.set (h : At w g (.cells cs t (0, 0))) (i : Nat) (u : Value) : At (w.setCell ⟨g, i, none⟩ u) g (.cells (cs.setIfInBounds i u) t (0, 0)) := by
  have h' : w.heap[g]? = _ := h
  simp [At, World.setCell, Array.getElem?_modify, h']
/-- Rows of two element types are two blocks. -/
theorem At.apart (h : At w g (.cells cs t (0, 0))) {g' : Nat} {t' : TypeId} {cs' : Array Value} (h' : At w g' (.cells cs' t' (0, 0))) (hne : t ≠ t') : g ≠ g' := by
  rintro rfl
  have e := h.one h'
  injection e with _ e
  exact hne e
end

/-- w' is w, but for new blocks and for blocks of S. -/
structure Chg (S : Nat → Prop) (w w' : World) : Prop where
  os : w'.os = w.os
  tape : w'.tape = w.tape
  output : w'.output = w.output
  size : w.heap.size ≤ w'.heap.size
  block : ∀ k, k < w.heap.size → ¬ S k → w'.heap[k]? = w.heap[k]?

section
variable {S T : Nat → Prop} {a b c w : World}
theorem Chg.refl (S : Nat → Prop) (w : World) : Chg S w w := ⟨rfl, rfl, rfl, Nat.le_refl _, fun _ _ _ => rfl⟩
theorem Chg.mono (h : Chg S a b) (hST : ∀ k, k < a.heap.size → S k → T k) : Chg T a b :=
  ⟨h.os, h.tape, h.output, h.size, fun k hk hn => h.block k hk fun hs => hn (hST k hk hs)⟩
/-- Two steps; the second may turn what the first has laid. -/
theorem Chg.then (h : Chg S a b) (k : Chg T b c) (hT : ∀ j, j < a.heap.size → T j → S j) : Chg S a c :=
  ⟨k.os.trans h.os, k.tape.trans h.tape, k.output.trans h.output, Nat.le_trans h.size k.size,
    fun j hj hn => (k.block j (Nat.lt_of_lt_of_le hj h.size) fun ht => hn (hT j hj ht)).trans (h.block j hj hn)⟩
theorem Chg.trans (h : Chg S a b) (k : Chg S b c) : Chg S a c := h.then k fun _ _ => id
theorem Chg.drew (h : Chg S a w) : Chg S a w.drew := ⟨h.os, h.tape, h.output, h.size, h.block⟩
theorem Chg.drewN (h : Chg S a w) (n : Nat) : Chg S a (w.drewN n) := ⟨h.os, h.tape, h.output, h.size, h.block⟩
theorem Chg.alloc (h : Chg S a w) (o : Obj) : Chg S a (w.alloc o) :=
  h.trans ⟨rfl, rfl, rfl, by simp, fun _ hk _ => Below.heap_alloc _ _ _ hk⟩
theorem Chg.setCell (h : Chg S a w) {p : Addr} (hp : p.block < a.heap.size → S p.block) (u : Value) : Chg S a (w.setCell p u) :=
  h.then (T := fun k => k = p.block) ⟨rfl, rfl, rfl, by simp [World.setCell], fun k _ hn => Below.heap_setCell _ _ _ _ hn⟩ (fun j hj e => by subst e; exact hp hj)
theorem Chg.of_below {B : Nat} (h : Below B a b) (hS : ∀ k, k < a.heap.size → B ≤ k → S k) : Chg S a b :=
  ⟨h.os, h.tape, h.output, h.size, fun k hk hn => h.block k (Nat.lt_of_not_le fun hB => hn (hS k hk hB))⟩
/-- A call that writes nothing that was there. -/
theorem Chg.of_new (h : Below a.heap.size a b) : Chg S a b := Chg.of_below h fun _ hk hB => absurd hB (Nat.not_le_of_lt hk)
theorem Chg.of_grown {row : Option Nat} (h : a.grownBy b row) (hS : ∀ k, row = some k → k < a.heap.size → S k) : Chg S a b :=
  ⟨h.os, h.tape, h.output, h.size, fun k hk hn => h.block k hk fun e => hn (hS k e.symm hk)⟩
theorem Chg.below (h : Chg S a b) {B : Nat} (hB : B ≤ a.heap.size) (hS : ∀ k, k < B → ¬ S k) : Below B a b :=
  ⟨h.os, h.tape, h.output, h.size, fun k hk => h.block k (Nat.lt_of_lt_of_le hk hB) (hS k hk)⟩
theorem Chg.at_ (h : Chg S a b) {g : Nat} {o : Obj} (hg : At a g o) (hS : ¬ S g) : At b g o := (h.block g hg.lt hS).trans hg
theorem Chg.cell (h : Chg S a b) {p : Addr} {v : Value} (hp : a.cell? p = some v) (hS : ¬ S p.block) : b.cell? p = some v :=
  (World.cell?_of_block (h.block p.block (World.block_lt_of_cell? a p hp) hS)).trans hp
theorem Chg.owns (h : Chg S a b) {base : Nat} {e : TypeId} {size : Nat} {v : Value} {n : Nat} {xs : List Value} (ho : a.ownsRow base e size v n xs) (hS : ∀ k, v.ownBlock = some k → ¬ S k) :
    b.ownsRow base e size v n xs := by
  refine ⟨ho.1, ?_⟩
  rcases ho.2 with hn | ⟨g, cap, cur, rfl, hb, hg, rest⟩
  · exact .inl hn
  · exact .inr ⟨g, cap, cur, rfl, hb, (h.block g (Array.getElem?_eq_some_iff.1 hg).1 (hS g (by simp [Value.ownBlock]))).trans hg, rest⟩
end

/-- A slice at A, of n elements, reads as the numbers zs; its cells lie below block B. -/
def Lst (k : IntKind) (w : World) (B : Nat) (A : Option Addr) (n : Nat) (zs : List Int) : Prop :=
  zs.length = n ∧ ∀ j, j < n → ∃ b o, A = some ⟨b, o, none⟩ ∧ b < B ∧ w.cell? ⟨b, o + j, none⟩ = some (.int k (zs.getD j 0))

section
variable {k : IntKind} {w w' : World} {B B' : Nat} {A : Option Addr} {n : Nat} {zs : List Int}
theorem Lst.nil (k : IntKind) (w : World) (B : Nat) (A : Option Addr) : Lst k w B A 0 [] := ⟨rfl, fun _ h => absurd h (Nat.not_lt_zero _)⟩
theorem Lst.keep (h : Lst k w B A n zs) (hb : ∀ b o, b < B → w'.cell? ⟨b, o, none⟩ = w.cell? ⟨b, o, none⟩) : Lst k w' B A n zs :=
  ⟨h.1, fun j hj => by
    obtain ⟨b, o, e, hB, hc⟩ := h.2 j hj
    exact ⟨b, o, e, hB, (hb b _ hB).trans hc⟩⟩
theorem Lst.below (h : Lst k w B A n zs) (hb : Below B w w') : Lst k w' B A n zs := h.keep fun _ _ hB => hb.cell (p := ⟨_, _, none⟩) hB
theorem Lst.more (h : Lst k w B A n zs) (hB : B ≤ B') : Lst k w B' A n zs :=
  ⟨h.1, fun j hj => by
    obtain ⟨b, o, e, hb, hc⟩ := h.2 j hj
    exact ⟨b, o, e, Nat.lt_of_lt_of_le hb hB, hc⟩⟩
/-- The first m elements. -/
theorem Lst.take (h : Lst k w B A n zs) {m : Nat} (hm : m ≤ n) : Lst k w B A m (zs.take m) :=
  ⟨by rw [List.length_take, h.1]; omega, fun j hj => by
    obtain ⟨b, o, e, hb, hc⟩ := h.2 j (by omega)
    refine ⟨b, o, e, hb, hc.trans ?_⟩
    simp [List.getD, hj]⟩
end

/-- Numbers of a kind. -/
def Fit (k : IntKind) (zs : List Int) : Prop := ∀ z ∈ zs, (Lit.int k z).wf = true
theorem Fit.getD {k : IntKind} {zs : List Int} (h : Fit k zs) {j : Nat} (hj : j < zs.length) : (Lit.int k (zs.getD j 0)).wf = true := by
  have e : zs.getD j 0 = zs[j] := by simp [List.getD, hj]
  rw [e]; exact h _ (List.getElem_mem hj)

theorem take_snoc {α : Type} (zs : List α) (d : α) {j : Nat} (h : j < zs.length) : zs.take (j + 1) = zs.take j ++ [zs.getD j d] := by
  have e : zs.getD j d = zs[j] := by simp [List.getD, h]
  rw [e, List.take_add_one, List.getElem?_eq_getElem h]; rfl

end Go.Proofs.Ytoddnjpbmefgnaa
