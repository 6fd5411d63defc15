/-
  TinyLFU: keys are put in; a new one.
-/
import Derived.Test.YtoddnjpbmefgnaaTiny
namespace Go.Proofs.Ytoddnjpbmefgnaa
open Go.RowKit

set_option maxRecDepth 100000 in
set_option maxHeartbeats 800000 in
theorem tinInc_any (R : Nat → Prop) (T : Nat) (x : Int) (w : World) (h : Tin R w T) :
    Calls Try.prog 93 #[.pointer (some ⟨T, 0, none⟩), .int .u64 x] w fun e w' => e = .returned (.tuple #[]) ∧ Tin R w' T ∧ Chg R w w' := by
  obtain ⟨P, G, S, C, p, g, el, B, inc, r1, r2, r3, r4, r5, hi, h1, h2, h3⟩ := h
  have nP : T ≠ P := h1.apart h2.head (by decide)
  have nG : ∀ i, i < 4 → T ≠ G i := fun i hi => h1.apart (h2.row i hi) (by decide)
  have np : T ≠ p := h1.apart h3.head (by decide)
  have ng : T ≠ g := h1.apart h3.words (by decide)
  have nPp : P ≠ p := h2.head.apart h3.head (by decide)
  have nPg : P ≠ g := h2.head.apart h3.words (by decide)
  have nGp : ∀ i, i < 4 → G i ≠ p := fun i hi => (h2.row i hi).apart h3.head (by decide)
  have nGg : ∀ i, i < 4 → G i ≠ g := fun i hi => (h2.row i hi).apart h3.words (by decide)
  have c1 : w.cell? ⟨T, 1, none⟩ = some (.pointer (some ⟨p, 0, none⟩)) := h1.cell 1
  have hadd := addIf_any p g (fwords 512) el (ex 512 : Nat) (szI 512) 4 (shI 512) x B w h3 (by have := szI_lo 512; omega) (szI_lt 512) (fwords_hi (by omega)) (by omega) (by omega) sh512
  generalize hasB B x (szI 512) (shI 512) 4 = t at hadd
  generalize addB B x (szI 512) (shI 512) 4 = B2 at hadd
  have HA := Lib.hid hadd
  clear hadd
  go_enter Try.func93, Try.ntmps93
  go_wp2_with fail
  refine HA.out.mono ?_
  rintro e w2 ⟨rfl, ⟨el2, h32⟩, hc2⟩
  have h12 := hc2.at_ h1 (fun e => by rcases e with e | e; exact np e; exact ng e)
  have h22 := h2.chg hc2 (fun e => by rcases e with e | e; exact nPp e; exact nPg e) (fun i hi e => by rcases e with e | e; exact nGp i hi e; exact nGg i hi e)
  have hR2 : Chg R w w2 := hc2.mono (fun k _ e => by rcases e with e | e; rw [e]; exact r4; rw [e]; exact r5)
  clear c1 hc2 h1 h2 h3 HA
  have einc : ((inc + 1 : Nat) : Int) = (inc : Int) + 1 := by omega
  have hrest : ∀ (w3 : World) (C3 : Nat → Nat → Nat), At w3 T (.cells #[.pointer (some ⟨P, 0, none⟩), .pointer (some ⟨p, 0, none⟩), .int .i64 inc, .int .i64 64] 134 (0, 0)) → Sk w3 P G S (wid 64) C3 → Filt w3 p g (fwords 512) el2 (ex 512 : Nat) (szI 512) 4 (shI 512) B2 → Chg R w w3 →
      ∃ w4, w4 = w3.setCell ⟨T, 2, none⟩ (.int .i64 ((inc : Int) + 1)) ∧ At w4 T (.cells #[.pointer (some ⟨P, 0, none⟩), .pointer (some ⟨p, 0, none⟩), .int .i64 ((inc : Int) + 1), .int .i64 64] 134 (0, 0)) ∧ Sk w4 P G S (wid 64) C3 ∧ Filt w4 p g (fwords 512) el2 (ex 512 : Nat) (szI 512) 4 (shI 512) B2 ∧ Chg R w w4 := fun w3 C3 k1 k2 k3 k4 => by
    have hc : Chg (fun j => j = T) w3 (w3.setCell ⟨T, 2, none⟩ (.int .i64 ((inc : Int) + 1))) := (Chg.refl (fun j => j = T) w3).setCell (p := ⟨T, 2, none⟩) (fun _ => rfl) _
    exact ⟨_, rfl, k1.set 2 _, k2.chg hc (fun e => nP e.symm) (fun i hi e => nG i hi e.symm), k3.chg hc (fun e => np e.symm) (fun e => ng e.symm), k4.trans (hc.mono (fun k _ e => by rw [e]; exact r1))⟩
  have HREST := Lib.hid hrest
  have hend : ∀ (w4 : World) (C4 : Nat → Nat → Nat), inc + 1 < 64 → At w4 T (.cells #[.pointer (some ⟨P, 0, none⟩), .pointer (some ⟨p, 0, none⟩), .int .i64 ((inc : Int) + 1), .int .i64 64] 134 (0, 0)) → Sk w4 P G S (wid 64) C4 → Filt w4 p g (fwords 512) el2 (ex 512 : Nat) (szI 512) 4 (shI 512) B2 → Tin R w4 T :=
    fun w4 C4 hlt k1 k2 k3 => ⟨P, G, S, C4, p, g, el2, B2, inc + 1, r1, r2, r3, r4, r5, hlt, by rw [einc]; exact k1, k2, k3⟩
  have hres : ∀ (w4 : World) (C4 : Nat → Nat → Nat), At w4 T (.cells #[.pointer (some ⟨P, 0, none⟩), .pointer (some ⟨p, 0, none⟩), .int .i64 ((inc : Int) + 1), .int .i64 64] 134 (0, 0)) → Sk w4 P G S (wid 64) C4 → Filt w4 p g (fwords 512) el2 (ex 512 : Nat) (szI 512) 4 (shI 512) B2 →
      Calls Try.prog 104 #[.pointer (some ⟨T, 0, none⟩)] w4 fun e w' => e = .returned (.tuple #[]) ∧ Tin R w' T ∧ Chg R w4 w' :=
    fun w4 C4 k1 k2 k3 => tinReset_any R T w4 (inc + 1) P G S C4 p g el2 B2 r1 r2 r3 r4 r5 (by rw [einc]; exact k1) k2 k3
  have HEND := Lib.hid hend
  have HRES := Lib.hid hres
  have d0 : w2.cell? ⟨T, 0, none⟩ = some (.pointer (some ⟨P, 0, none⟩)) := h12.cell 0
  clear hrest hend hres einc
  cases t
  case' true =>
    go_wp2_with fail
    refine (skInc_any P G S (wid 64) C x w2 hid64 h22).mono ?_
    rintro e w3 ⟨rfl, k2, kc⟩
    have k1 := kc.at_ h12 (fun e => by rcases e with e | ⟨i, hi, e⟩; exact nP e; exact nG i hi e)
    have k3 := h32.chg kc (fun e => by rcases e with e | ⟨i, hi, e⟩; exact nPp e.symm; exact nGp i hi e.symm) (fun e => by rcases e with e | ⟨i, hi, e⟩; exact nPg e.symm; exact nGg i hi e.symm)
    have k4 := hR2.trans (kc.mono (fun k _ e => by rcases e with e | ⟨i, hi, e⟩; rw [e]; exact r2; rw [e]; exact r3 i hi))
    clear kc h12 h22 h32 hR2 d0
  case' false =>
    obtain ⟨w3, hw3⟩ : ∃ w3, w3 = w2 := ⟨_, rfl⟩
    have k1 := h12
    have k2 := h22
    have k3 := h32
    have k4 := hR2
    rw [← hw3] at k1 k2 k3 k4 ⊢
    clear h12 h22 h32 hR2 d0 hw3
  all_goals
    obtain ⟨w4, hw4, m1, m2, m3, m4⟩ := HREST.out _ _ k1 k2 k3 k4
    have b2 : w3.cell? ⟨T, 2, none⟩ = some (.int .i64 (inc : Int)) := k1.cell 2
    have bf := k1.free 2
    have b3 : w4.cell? ⟨T, 3, none⟩ = some (.int .i64 64) := m1.cell 3
    have b4 : w4.cell? ⟨T, 2, none⟩ = some (.int .i64 ((inc : Int) + 1)) := m1.cell 2
    clear k1 k2 k3 k4
    by_cases hlt : inc + 1 < 64
    · have hT := HEND.out w4 _ hlt m1 m2 m3
      clear m1 m2 m3
      have i1 : ¬ (64 ≤ (inc : Int) + 1) := by omega
      go_wp2_with fail
      rw [← hw4]
      clear b2 bf hw4
      go_quiet (fail)
      go_wp2
      go_returns
      exact ⟨rfl, hT.chg (S := fun _ => False) ((Chg.refl _ _).drewN _) (fun _ _ h => h), m4.drewN _⟩
    · have hr := fun k => HRES.out (w4.drewN k) _ (At.drewN m1 k) (m2.chg (T := fun _ => False) ((Chg.refl _ _).drewN k) id (fun _ _ => id)) (m3.chg (S := fun _ => False) ((Chg.refl _ _).drewN k) id id)
      clear m1 m2 m3
      have i1 : (64 : Int) ≤ (inc : Int) + 1 := by omega
      have HR := Lib.hid hr
      clear hr
      go_wp2_with fail
      rw [← hw4]
      clear b2 bf hw4
      go_quiet (fail)
      go_wp2_with fail
      refine (HR.out _).mono ?_
      rintro e w5 ⟨rfl, hT, hc5⟩
      go_wp2
      go_returns
      exact ⟨rfl, hT, (m4.drewN _).trans hc5⟩

set_option maxRecDepth 100000 in
set_option maxHeartbeats 400000 in
theorem tinPush_any (R : Nat → Prop) (T : Nat) (w : World) (B : Nat) (hB : ∀ j, R j → B ≤ j) (A : Option Addr) (n c : Nat) (zs : List Int) (hZ : Lst .u64 w B A n zs) (hn : n ≤ 2147483647) (h : Tin R w T) :
    Calls Try.prog 86 #[.pointer (some ⟨T, 0, none⟩), .slice A n c] w fun e w' => e = .returned (.tuple #[]) ∧ Tin R w' T ∧ Chg R w w' := by
  go_enter Try.func86, Try.ntmps86
  go_wp2
  go_loopw [8] (fun i wr => ∃ k : Nat, k ≤ n ∧ i = .int .i64 k ∧ Tin R wr T ∧ Chg R w wr) (fun i _ => n - (intOf i).toNat)
  case atStart => exact ⟨0, Nat.zero_le _, rfl, h, Chg.refl _ _⟩
  case round =>
    clear h
    obtain ⟨k, hk, rfl, hT, hc⟩ := hrel
    by_cases hlt : k < n
    · obtain ⟨b, o, rfl, hb, hcell⟩ := hZ.2 k hlt
      generalize zs.getD k 0 = x at hcell
      have hcx : wr.cell? ⟨b, o + k, none⟩ = some (.int .u64 x) := hc.cell hcell (fun hR => by have := hB _ hR; simp at this; omega)
      clear hcell
      go_wp2_with fail
      refine (tinInc_any R T x wr hT).mono ?_
      rintro e w3 ⟨rfl, hT3, hc3⟩
      have hc4 := hc.trans (hc3.mono (fun k _ h => h))
      clear hcx hT hc hc3
      go_wp2
      go_roundw
      case rel => exact ⟨k + 1, by omega, by go_num, hT3, hc4⟩
      case measure => simp [intOf]; omega
    · go_wp2
      go_returns
      exact ⟨rfl, hT, hc⟩

/-- A call hands back a new TinyLFU. -/
def RetTin (w : World) (e : Ending) (w' : World) : Prop :=
  ∃ T, e = .returned (.agg #[.pointer (some ⟨T, 0, none⟩)]) ∧ Tin (fun j => w.heap.size ≤ j) w' T ∧ Below w.heap.size w w'

set_option maxRecDepth 100000 in
set_option maxHeartbeats 800000 in
theorem newTiny_any (S : Nat → Int) (w : World) : Calls Try.prog 66 #[.int .i64 64, .agg (seedA S), .int .u64 512, .int .u64 4] w (RetTin w) := by
  have hs := fun W => newSketch_any 64 S W (by omega) (by omega)
  have hf := fun W => bloom_new 512 4 W (by omega)
  have HS := Lib.hid hs
  have HF := Lib.hid hf
  clear hs hf
  unfold seedA
  go_enter Try.func66, Try.ntmps66
  go_wp2_with fail
  refine (HS.out _).mono ?_
  rintro e w1 ⟨P, G, rfl, hP, hG, hT, hb⟩
  have hsz := hb.size
  simp at hP hsz
  have hb0 : Below w.heap.size w w1 := (((Below.refl _ _).alloc (Nat.le_refl _) _).alloc (by simp) _).trans (hb.mono (by simp; omega))
  have hc : w1.cell? ⟨w.heap.size + 1, 0, none⟩ = some (.pointer none) := by
    rw [hb.cell (p := ⟨w.heap.size + 1, 0, none⟩) (by simp)]
    simp
  have hf : w1.frozen? ⟨w.heap.size + 1, 0, none⟩ = false := by
    rw [hb.frozen (p := ⟨w.heap.size + 1, 0, none⟩) (by simp)]
    simp
  have hk := hT.sk
  have hG' : ∀ i, i < 4 → w.heap.size + 1 < G i := fun i hi => by have := hG i hi; simp at this; omega
  clear hT hG hb
  go_wp2_with fail
  refine (HF.out _).mono ?_
  rintro e w2 ⟨p, g, rfl, hp, hg, hF, hb2⟩
  have hk2 := hk.chg (Chg.of_new (S := fun _ => False) hb2) id (fun _ _ => id)
  have hc2 : w2.cell? ⟨w.heap.size + 1, 0, none⟩ = some (.pointer none) := (hb2.cell (p := ⟨w.heap.size + 1, 0, none⟩) (by simp; omega)).trans hc
  have hf2 : w2.frozen? ⟨w.heap.size + 1, 0, none⟩ = false := (hb2.frozen (p := ⟨w.heap.size + 1, 0, none⟩) (by simp; omega)).trans hf
  have hb02 := hb0.trans (hb2.mono hb0.size)
  have hs2 := hb2.size
  have HK := Lib.hid hk2
  have HFF := Lib.hid hF
  clear hk hk2 hF hc hf hb2 hb0
  have hl2 : w.heap.size + 1 < w2.heap.size := World.block_lt_of_cell? w2 _ hc2
  have hc3 : (w2.alloc (.cells #[.pointer (some ⟨P, 0, none⟩), .pointer (some ⟨p, 0, none⟩), .int .i64 0, .int .i64 64] 134)).cell? ⟨w.heap.size + 1, 0, none⟩ = some (.pointer none) := (World.cell?_of_block (Below.heap_alloc w2 _ _ hl2)).trans hc2
  have hf3 : (w2.alloc (.cells #[.pointer (some ⟨P, 0, none⟩), .pointer (some ⟨p, 0, none⟩), .int .i64 0, .int .i64 64] 134)).frozen? ⟨w.heap.size + 1, 0, none⟩ = false := (World.frozen?_of_block (Below.heap_alloc w2 _ _ hl2)).trans hf2
  have hA3 := At.new (w2.setCell ⟨w.heap.size + 1, 0, none⟩ (.pointer (some ⟨w2.heap.size, 0, none⟩))) (.cells #[.pointer (some ⟨P, 0, none⟩), .pointer (some ⟨p, 0, none⟩), .int .i64 0, .int .i64 64] 134 (0, 0))
  have hsz3 : (w2.setCell ⟨w.heap.size + 1, 0, none⟩ (.pointer (some ⟨w2.heap.size, 0, none⟩))).heap.size = w2.heap.size := by simp [World.setCell]
  rw [hsz3] at hA3
  have hc4 := World.cell?_setCell_same w2 _ (Value.pointer (some ⟨w2.heap.size, 0, none⟩)) hc2
  have hc5 : ((w2.setCell ⟨w.heap.size + 1, 0, none⟩ (.pointer (some ⟨w2.heap.size, 0, none⟩))).alloc (.cells #[.pointer (some ⟨P, 0, none⟩), .pointer (some ⟨p, 0, none⟩), .int .i64 0, .int .i64 64] 134)).cell? ⟨w.heap.size + 1, 0, none⟩ = some (.pointer (some ⟨w2.heap.size, 0, none⟩)) := (World.cell?_of_block (Below.heap_alloc _ _ _ (by rw [hsz3]; exact hl2))).trans hc4
  have hch := ((Chg.refl (fun j => j = w.heap.size + 1) w2).setCell (p := ⟨w.heap.size + 1, 0, none⟩) (fun _ => rfl) (.pointer (some ⟨w2.heap.size, 0, none⟩))).alloc (.cells #[.pointer (some ⟨P, 0, none⟩), .pointer (some ⟨p, 0, none⟩), .int .i64 0, .int .i64 64] 134)
  have hbb := (hb02.setCell (p := ⟨w.heap.size + 1, 0, none⟩) (by simp) (.pointer (some ⟨w2.heap.size, 0, none⟩))).alloc (by rw [hsz3]; exact hb02.size) (.cells #[.pointer (some ⟨P, 0, none⟩), .pointer (some ⟨p, 0, none⟩), .int .i64 0, .int .i64 64] 134)
  have HA3 := Lib.hid hA3
  have HC5 := Lib.hid hc5
  have HCH := Lib.hid hch
  have HBB := Lib.hid hbb
  clear hA3 hc4 hc5 hch hbb hsz3
  go_wp2
  refine bodyPost_ret (v := .agg #[.pointer (some ⟨w2.heap.size, 0, none⟩)]) (by have h5 := HC5.out; simp [results, Try.results66, go_sem] at h5 ⊢; simp [h5]) rfl ?_
  exact ⟨w2.heap.size, rfl, ⟨P, G, S, _, p, g, 0, _, 0, by omega, by omega, fun i hi => by have := hG' i hi; omega, by omega, by omega, by omega, HA3.out, HK.out.chg HCH.out (by omega) (fun i hi => by have := hG' i hi; omega), HFF.out.chg HCH.out (by omega) (by omega)⟩, HBB.out⟩
end Go.Proofs.Ytoddnjpbmefgnaa
