/-
  The walks of the exported type Sampled, but Pairs.
-/
import Derived.Test.YtoddnjpbmefgnaaSamp
namespace Go.Proofs.Ytoddnjpbmefgnaa
open Go.RowKit

set_option maxRecDepth 100000 in
set_option maxHeartbeats 400000 in
theorem getMax_any (P : Nat) (most : Int) (w : World) (c0 : w.cell? ⟨P, 0, none⟩ = some (.int .i64 most)) :
    Calls Try.prog 88 #[.pointer (some ⟨P, 0, none⟩)] w fun e w' => e = .returned (.int .i64 most) ∧ w' = w := by
  go_enter Try.func88, Try.ntmps88
  go_wp2
  go_returns
  exact ⟨rfl, rfl⟩

set_option maxRecDepth 100000 in
set_option maxHeartbeats 400000 in
theorem room_any (P b n : Nat) (most : Int) (C : Nat → Option Int) (w : World) (hm : 0 ≤ most ∧ most ≤ 65535) (hC : OkC C) (h : Smp w P b n most C) :
    Calls Try.prog 80 #[.pointer (some ⟨P, 0, none⟩), .int .i64 1] w fun e w' => e = .returned (.int .i64 (most - (total C 16 + 1))) ∧ ∃ q, w' = w.drewN q := by
  have hg := fun W hW => getMax_any P most W hW
  have HG := Lib.hid hg
  have c0 : w.cell? ⟨P, 0, none⟩ = some (.int .i64 most) := h.head.cell 0
  have c1 : w.cell? ⟨P, 1, none⟩ = some (.int .i64 (total C 16)) := h.head.cell 1
  have htot := hC.total 16
  generalize total C 16 = t at c1 htot ⊢
  have e1 : IntKind.i64.wrap (t + 1) = t + 1 := IntWalk.i64_in _ (by omega)
  have e2 : IntKind.i64.wrap (most - (t + 1)) = most - (t + 1) := IntWalk.i64_in _ (by omega)
  clear hg
  go_enter Try.func80, Try.ntmps80
  go_wp2_with fail
  go_quiet ((go_at_call 88; exact Calls.quiet_of_same (HG.out _ (by exact c0))))
  go_wp2
  go_returns
  exact ⟨rfl, _, rfl⟩

/-- A call hands back a new sampled LFU. -/
def RetSm (w : World) (most : Int) (e : Ending) (w' : World) : Prop :=
  ∃ P b, e = .returned (.agg #[.pointer (some ⟨P, 0, none⟩)]) ∧ w.heap.size ≤ P ∧ w.heap.size ≤ b ∧ Smp w' P b 0 most (fun _ => none) ∧ Below w.heap.size w w'

set_option maxRecDepth 100000 in
set_option maxHeartbeats 400000 in
theorem sampledNew_any (most : Int) (w : World) : Calls Try.prog 48 #[.int .i64 most] w (RetSm w most) := by
  have hs := fun W => newSampled_any most W
  have HS := Lib.hid hs
  clear hs
  go_enter Try.func48, Try.ntmps48
  go_wp2_with fail
  refine (HS.out _).mono ?_
  rintro e w1 ⟨P, b, rfl, hP, hB, hT, hb⟩
  have hsz := hb.size
  simp at hP hB hsz
  have hc : w1.cell? ⟨w.heap.size, 0, none⟩ = some (.pointer none) := by
    rw [hb.cell (p := ⟨w.heap.size, 0, none⟩) (by simp)]
    simp
  have hf : w1.frozen? ⟨w.heap.size, 0, none⟩ = false := by
    rw [hb.frozen (p := ⟨w.heap.size, 0, none⟩) (by simp)]
    simp
  have hb0 : Below w.heap.size w w1 := ((Below.refl _ _).alloc (Nat.le_refl _) _).trans (hb.mono (by simp))
  have HT := Lib.hid hT
  clear hT hb
  go_wp2
  have hc2 := World.cell?_setCell_same w1 _ (Value.pointer (some ⟨P, 0, none⟩)) hc
  refine bodyPost_ret (v := .agg #[.pointer (some ⟨P, 0, none⟩)]) (by simp [results, Try.results48, go_sem, hc2]) rfl ?_
  refine ⟨P, b, rfl, by omega, by omega, HT.out.chg ((Chg.refl (fun j => j = w.heap.size) w1).setCell (p := ⟨w.heap.size, 0, none⟩) (fun _ => rfl) _) (by omega) (by omega), hb0.setCell (Nat.le_refl _) _⟩

set_option maxRecDepth 100000 in
set_option maxHeartbeats 400000 in
theorem sampledDel_any (P b n k : Nat) (most : Int) (C : Nat → Option Int) (w : World) (hk : k < 16) (hC : OkC C) (h : Smp w P b n most C) :
    Calls Try.prog 49 #[.agg #[.pointer (some ⟨P, 0, none⟩)], .int .u64 (k : Int)] w fun e w' => e = .returned (.tuple #[]) ∧ Smp w' P b n most (putC C k none) ∧ Chg (SmB P b) w w' := by
  have h1 := h.chg (S := fun _ => False) ((Chg.refl _ _).alloc (.cells #[.pointer (some ⟨P, 0, none⟩)] 98)) id id
  go_enter Try.func49, Try.ntmps49
  go_wp2_with fail
  refine (smpDel_any P b n k most C _ hk hC h1).mono ?_
  rintro e w1 ⟨rfl, hs1, hc1⟩
  go_wp2
  go_returns
  exact ⟨rfl, hs1, ((Chg.refl _ _).alloc _).trans hc1⟩

set_option maxRecDepth 100000 in
set_option maxHeartbeats 400000 in
theorem sampledAdd_any (P b n k : Nat) (c most : Int) (C : Nat → Option Int) (w : World) (hk : k < 16) (hn : n < 8589934592) (hC : OkC C) (hc : 0 ≤ c ∧ c ≤ 127) (h0 : C k = none) (h : Smp w P b n most C) :
    Calls Try.prog 51 #[.agg #[.pointer (some ⟨P, 0, none⟩)], .int .u64 (k : Int), .int .i64 c] w fun e w' => e = .returned (.tuple #[]) ∧ Smp w' P b (n + 1) most (putC C k (some c)) ∧ Chg (SmB P b) w w' := by
  have h1 := h.chg (S := fun _ => False) ((Chg.refl _ _).alloc (.cells #[.pointer (some ⟨P, 0, none⟩)] 98)) id id
  go_enter Try.func51, Try.ntmps51
  go_wp2_with fail
  refine (smpAdd_any P b n k c most C _ hk hn hC hc h0 h1).mono ?_
  rintro e w1 ⟨rfl, hs1, hc1⟩
  go_wp2
  go_returns
  exact ⟨rfl, hs1, ((Chg.refl _ _).alloc _).trans hc1⟩

set_option maxRecDepth 100000 in
set_option maxHeartbeats 400000 in
theorem sampledUpd_any (P b n k : Nat) (c most : Int) (C : Nat → Option Int) (w : World) (hk : k < 16) (hn : n < 8589934592) (hC : OkC C) (hc : 0 ≤ c ∧ c ≤ 127) (h : Smp w P b n most C) :
    Calls Try.prog 50 #[.agg #[.pointer (some ⟨P, 0, none⟩)], .int .u64 (k : Int), .int .i64 c] w fun e w' => e = .returned (.bool (C k).isSome) ∧ Smp w' P b (n + 1) most (if (C k).isSome = true then putC C k (some c) else C) ∧ Chg (SmB P b) w w' := by
  have h1 := h.chg (S := fun _ => False) ((Chg.refl _ _).alloc (.cells #[.pointer (some ⟨P, 0, none⟩)] 98)) id id
  have hu := fun W (hW : Smp W P b n most C) => smpUpd_any P b n k c most C W hk hn hC hc hW
  generalize (if (C k).isSome = true then putC C k (some c) else C) = C' at hu ⊢
  generalize (C k).isSome = t at hu ⊢
  have HU := Lib.hid hu
  clear hu
  go_enter Try.func50, Try.ntmps50
  go_wp2_with fail
  refine (HU.out _ h1).mono ?_
  rintro e w1 ⟨rfl, hs1, hc1⟩
  go_wp2
  go_returns
  exact ⟨rfl, hs1, ((Chg.refl _ _).alloc _).trans hc1⟩

set_option maxRecDepth 100000 in
set_option maxHeartbeats 400000 in
theorem sampledUsed_any (P b n : Nat) (most : Int) (C : Nat → Option Int) (w : World) (h : Smp w P b n most C) :
    Calls Try.prog 53 #[.agg #[.pointer (some ⟨P, 0, none⟩)]] w fun e w' => e = .returned (.int .i64 (total C 16)) ∧ Below w.heap.size w w' := by
  have h1 := h.chg (S := fun _ => False) ((Chg.refl _ _).alloc (.cells #[.pointer (some ⟨P, 0, none⟩)] 98)) id id
  have c1 : (w.alloc (.cells #[.pointer (some ⟨P, 0, none⟩)] 98)).cell? ⟨P, 1, none⟩ = some (.int .i64 (total C 16)) := h1.head.cell 1
  go_enter Try.func53, Try.ntmps53
  go_wp2
  go_returns
  exact ⟨rfl, (Below.refl _ _).alloc (Nat.le_refl _) _⟩

set_option maxRecDepth 100000 in
set_option maxHeartbeats 400000 in
theorem sampledRoom_any (P b n : Nat) (most : Int) (C : Nat → Option Int) (w : World) (hm : 0 ≤ most ∧ most ≤ 65535) (hC : OkC C) (h : Smp w P b n most C) :
    Calls Try.prog 54 #[.agg #[.pointer (some ⟨P, 0, none⟩)], .int .i64 1] w fun e w' => e = .returned (.int .i64 (most - (total C 16 + 1))) ∧ Below w.heap.size w w' := by
  have h1 := h.chg (S := fun _ => False) ((Chg.refl _ _).alloc (.cells #[.pointer (some ⟨P, 0, none⟩)] 98)) id id
  go_enter Try.func54, Try.ntmps54
  go_wp2_with fail
  refine (room_any P b n most C _ hm hC h1).mono ?_
  rintro e w1 ⟨rfl, q, rfl⟩
  go_wp2
  go_returns
  exact ⟨rfl, below_drewN ((Below.refl _ _).alloc (Nat.le_refl _) _) q⟩
end Go.Proofs.Ytoddnjpbmefgnaa
