/-
  An append onto a row of the call's own, from a slice that is read: nil, empty or not.
-/
import Derived.Test.YtoddnjpbmefgnaaSets
namespace Go.Proofs.Ytoddnjpbmefgnaa
open Go.RowKit

/-- A slice that came in: nil has no room. -/
def Nil0 (A : Option Addr) (n c : Nat) : Prop := A = none → n = 0 ∧ c = 0

theorem lst_vls {k : IntKind} {w : World} {B : Nat} {A : Option Addr} {n : Nat} {zs : List Int} (h : Lst k w B A n zs) : Vls w B A n (zs.map (Value.int k)) :=
  ⟨by have := h.1; simpa using this, fun j hj => by
    obtain ⟨b, o, e, hb, hc⟩ := h.2 j hj
    have hl : j < zs.length := by have := h.1; omega
    exact ⟨b, o, e, hb, hc.trans (by simp [List.getD, hl])⟩⟩
theorem Vls.more {w : World} {B B' : Nat} {A : Option Addr} {n : Nat} {xs : List Value} (h : Vls w B A n xs) (hB : B ≤ B') : Vls w B' A n xs :=
  ⟨h.1, fun j hj => by
    obtain ⟨b, o, e, hb, hc⟩ := h.2 j hj
    exact ⟨b, o, e, Nat.lt_of_lt_of_le hb hB, hc⟩⟩

theorem wpList_append_vls {P : Program} {w : World} {ops : Array Oper} {rest : List Oper} {o : Oper} {a : Act} {Q : Exit → Act → World → Prop} (hgd : o.guard = none) (s x : Operand) (t : TypeId)
    (ho : o.op = .call { callee := .builtin .append, args := #[s, x], argTypes := #[t, t] })
    (base : Nat) (e : TypeId) (i : TypeInfo) (z : Value) (bytes : Nat) (ht : P.underlying t = some (.slice e)) (hi : P.info? e = some i) (hz : i.zero = some z)
    (hsize : i.size = 1) (hby : i.bytes = bytes) (hzs : z.cells.size = 1)
    (v : Value) (n : Nat) (xs : List Value) (hs : a.eval s = v) (hown : w.ownsRow base e 1 v n xs)
    (B : Nat) (A : Option Addr) (m c : Nat) (news : List Value) (hx : a.eval x = .slice A m c) (hv : Vls w B A m news) (hA : Nil0 A m c) (h1 : ∀ u ∈ news, u.oneCell' = true)
    (h63 : n + m ≤ maxLen) (hbytes : (n + m) * bytes ≤ 140737488355328) (hbase : base ≤ w.heap.size)
    (h : ∀ v' w', w'.ownsRow base e 1 v' (n + m) (xs ++ news) → w.grownBy w' v.ownBlock → (v'.ownBlock = v.ownBlock ∨ v'.ownBlock = some w.heap.size) → wpList P ops Q rest (a.put o.dst v') w') :
    wpList P ops Q (o :: rest) a w := by
  cases A with
  | none =>
    obtain ⟨rfl, rfl⟩ := hA rfl
    have hn : news = [] := List.eq_nil_of_length_eq_zero hv.1
    subst hn
    refine wpList_plain hgd fun K hK => ?_
    have hrun := run_append_owned_none (P := P) w base t o.type e i 1 ht hi v n xs hown
    unfold Oper.wp execOp
    simp only [ho, resolve, invoke, builtin, Sem.run_bind, Sem.run_pure, Result.andThen_ok, List.map_toArray, List.map_cons, List.map_nil, hs, hx, hrun]
    exact hK _ _ (h v w (by simpa using hown) (World.grownBy.refl w _) (.inl rfl))
  | some ad =>
    refine wpList_append_own_at w hgd s x t ho base e i z 1 bytes ht hi hz hsize hby hzs (by decide) v n xs hs hown ad m c news hx (by have := hv.1; omega) (fun j u hu => ?_) h1 h63 hbytes hbase (fun v' w' a1 a2 _ a4 => h v' w' a1 a2 a4)
    have hj : j < m := by have := (List.getElem?_eq_some_iff.1 hu).1; have := hv.1; omega
    obtain ⟨b, o', e', _, hc⟩ := hv.2 j hj
    injection e' with e'
    subst e'
    rw [Addr.add_lit, hc]
    simp [List.getD, hu]
end Go.Proofs.Ytoddnjpbmefgnaa
