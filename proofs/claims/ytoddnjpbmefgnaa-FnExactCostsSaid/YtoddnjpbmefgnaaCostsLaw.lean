/-
  The walk of FnExactCosts.
-/
import Derived.Test.YtoddnjpbmefgnaaCosts
import Derived.Test.YtoddnjpbmefgnaaCostsAfter
namespace Go.Proofs.Ytoddnjpbmefgnaa
open Go.RowKit

theorem okS_stp (xs : List Nat) (zs : List Int) (hf : Fit .i8 zs) (m : Nat) : OkS (stpL xs zs m) := by
  intro p hp
  simp only [stpL, List.mem_map, List.mem_range] at hp
  obtain ⟨i, _, rfl⟩ := hp
  refine ⟨Nat.mod_lt _ (by decide), ?_⟩
  by_cases h : i < zs.length
  · exact bounds_i8 (hf.getD h)
  · simp [List.getD, h]

set_option maxRecDepth 100000 in
set_option maxHeartbeats 800000 in
theorem costs_law (N : Nat) (w : World) (hN : N ≤ 65535) (A : Option Addr) (n c : Nat) (xs : List Nat) (A' : Option Addr) (n' c' : Nat) (zs : List Int)
    (hZ : Lst .u8 w w.heap.size A n (castL xs)) (hZ' : Lst .i8 w w.heap.size A' n' zs) (hx : ∀ x ∈ xs, x ≤ 255) (hf : Fit .i8 zs) :
    Calls Try.prog 10 #[.int .u16 (N : Int), .slice A n c, .slice A' n' c'] w fun e w' => e = .returned (.bool true) ∧ Below w.heap.size w w' := by
  by_cases h1 : 2147483647 < n
  · go_enter Try.func10, Try.ntmps10
    go_wp2
    go_returns
    exact ⟨rfl, Below.refl _ _⟩
  by_cases h2 : 2147483647 < n'
  · go_enter Try.func10, Try.ntmps10
    go_wp2
    go_returns
    exact ⟨rfl, Below.refl _ _⟩
  have hok := okS_stp xs zs hf (min n n')
  have hst := steps_any A n c xs A' n' c' zs w hZ hZ' (by omega) hx hf
  obtain ⟨m, hm⟩ : ∃ m, m = min n n' := ⟨_, rfl⟩
  have hmn : m ≤ 2147483647 := by omega
  rw [← hm] at hok hst
  generalize stpL xs zs m = ss at hok hst
  have HOK := Lib.hid hok
  have HST := Lib.hid hst
  clear hok hst hm
  go_enter Try.func10, Try.ntmps10
  go_wp2_with fail
  refine HST.out.mono ?_
  rintro e w1 ⟨B, cb, rfl, hp1, hb1⟩
  go_wp2_with fail
  refine (costs_any (N : Int) B m cb ss w1 (by omega) hp1 hmn HOK.out).mono ?_
  rintro e w2 ⟨G, ng, cg, rfl, hG, hb2⟩
  have hp2 := (hp1.below hb2).more hb2.size
  go_wp2_with fail
  refine (after_any B m cb ss w2 hp2 hmn HOK.out).mono ?_
  rintro e w3 ⟨D, nd, cd, rfl, hD, hb3⟩
  have hG3 := (hG.below hb3).more hb3.size
  have hng : ng = nd := hG.1.symm.trans hD.1
  have htot := (okC_hold ss HOK.out).total 16
  have hbw := (hb1.trans (hb2.mono hb1.size)).trans (hb3.mono (hb1.trans (hb2.mono hb1.size)).size)
  have hnl : nd ≤ 16 := by have := outC_len (holdL ss) 16; rw [hD.1] at this; exact this
  subst hng
  clear hG hp1 hp2 hb1 hb2 hb3
  generalize outC (holdL ss) 16 = outs at hG3 hD
  generalize total (holdL ss) 16 = t at htot ⊢
  have e1 : ((N : Int) - (t + 1) != (N : Int) - t - 1) = false := by rw [bne_eq_false_iff_eq]; omega
  go_wp2_with fail
  clear e1
  go_loopw [62] (fun i wr => ∃ k : Nat, k ≤ ng ∧ i = .int .i64 k ∧ Below w3.heap.size w3 wr) (fun i _ => ng - (intOf i).toNat)
  case atStart => exact ⟨0, Nat.zero_le _, rfl, Below.refl _ _⟩
  case round =>
    obtain ⟨k, hk, rfl, hwr⟩ := hrel
    have hbr := hbw.trans (hwr.mono hbw.size)
    by_cases hlt : k < ng
    · obtain ⟨bg, og, rfl, hbg, hg0, hg1⟩ := hG3.2 k hlt
      obtain ⟨bd, od, rfl, hbd, hd0, hd1⟩ := hD.2 k hlt
      obtain ⟨p, hp⟩ : ∃ p, p = outs.getD k (0, 0) := ⟨_, rfl⟩
      rw [← hp] at hg0 hg1 hd0 hd1
      clear hp
      obtain ⟨pk, pc⟩ := p
      simp only at hg0 hg1 hd0 hd1
      have g0 : wr.cell? ⟨bg, og + k * 2, none⟩ = some (Value.int .u64 (pk : Int)) := (hwr.cell (p := ⟨bg, og + k * 2, none⟩) hbg).trans hg0
      have g1 : wr.cell? ⟨bg, og + k * 2 + 1, none⟩ = some (Value.int .i64 pc) := (hwr.cell (p := ⟨bg, og + k * 2 + 1, none⟩) hbg).trans hg1
      have d0 : wr.cell? ⟨bd, od + k * 2, none⟩ = some (Value.int .u64 (pk : Int)) := (hwr.cell (p := ⟨bd, od + k * 2, none⟩) hbd).trans hd0
      have d1 : wr.cell? ⟨bd, od + k * 2 + 1, none⟩ = some (Value.int .i64 pc) := (hwr.cell (p := ⟨bd, od + k * 2 + 1, none⟩) hbd).trans hd1
      clear hg0 hg1 hd0 hd1
      have i0 : (0 : Int) ≤ (k : Int) := by omega
      have i1 : (k : Int) < (ng : Int) := by omega
      go_wp2_with fail
      go_quiet (fail)
      go_wp2
      go_roundw
      case rel => exact ⟨k + 1, by omega, by go_num, below_drewN hwr _⟩
      case measure => simp [intOf]; omega
    · have hc5 := costs_any 5 none 0 0 [] wr (by omega) (Prs.nil _ _ _) (by omega) (fun p hp => by cases hp)
      have ht0 : total (holdL []) 16 = 0 := total_none 16
      go_wp2_with fail
      refine hc5.mono ?_
      rintro e w5 ⟨A5, n5, c5, rfl, _, hb5⟩
      rw [ht0]
      go_wp2
      go_returns
      exact ⟨rfl, hbr.trans (hb5.mono hbr.size)⟩
end Go.Proofs.Ytoddnjpbmefgnaa
