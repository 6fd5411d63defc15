/-
  The walks of the exported type Sketch and of impl.Estimates.
-/
import Derived.Test.YtoddnjpbmefgnaaSketchB
namespace Go.Proofs.Ytoddnjpbmefgnaa
open Go.RowKit

/-- A call hands back a new sketch. -/
def RetSk (w : World) (S : Nat → Int) (W : Nat) (e : Ending) (w' : World) : Prop :=
  ∃ P G, e = .returned (.agg #[.pointer (some ⟨P, 0, none⟩)]) ∧ w.heap.size ≤ P ∧ (∀ i, i < 4 → w.heap.size ≤ G i) ∧ Sk w' P G S W (fun _ _ => 0) ∧ Below w.heap.size w w'

set_option maxRecDepth 100000 in
set_option maxHeartbeats 400000 in
theorem sketchNew_any (n : Nat) (S : Nat → Int) (w : World) (h1 : 2 ≤ n) (hn : n ≤ 257) :
    Calls Try.prog 38 #[.int .i64 (n : Int), .agg (seedA S)] w (RetSk w S (wid n)) := by
  have hs := fun W => newSketch_any n S W h1 hn
  have HS := Lib.hid hs
  clear hs
  unfold seedA
  go_enter Try.func38, Try.ntmps38
  go_wp2_with fail
  refine (HS.out _).mono ?_
  rintro e w1 ⟨P, G, rfl, hP, hG, hT, hb⟩
  have hsz := hb.size
  simp at hP hsz
  have hc : w1.cell? ⟨w.heap.size + 1, 0, none⟩ = some (.pointer none) := by
    rw [hb.cell (p := ⟨w.heap.size + 1, 0, none⟩) (by simp)]
    simp
  have hf : w1.frozen? ⟨w.heap.size + 1, 0, none⟩ = false := by
    rw [hb.frozen (p := ⟨w.heap.size + 1, 0, none⟩) (by simp)]
    simp
  have hb0 : Below w.heap.size w w1 := (((Below.refl _ _).alloc (Nat.le_refl _) _).alloc (by simp) _).trans (hb.mono (by simp; omega))
  have hk := hT.sk
  have hG' : ∀ i, i < 4 → w.heap.size + 1 < G i := fun i hi => by have := hG i hi; simp at this; omega
  have HK := Lib.hid hk
  have HG := Lib.hid hG'
  clear hT hG hk hG' hb
  go_wp2
  have hc2 := World.cell?_setCell_same w1 _ (Value.pointer (some ⟨P, 0, none⟩)) hc
  refine bodyPost_ret (v := .agg #[.pointer (some ⟨P, 0, none⟩)]) (by simp [results, Try.results38, go_sem, hc2]) rfl ?_
  refine ⟨P, G, rfl, by omega, fun i hi => by have := HG.out i hi; omega, HK.out.chg ((Chg.refl (fun j => j = w.heap.size + 1) w1).setCell (fun _ => rfl) _) (by omega) (fun i hi => by have := HG.out i hi; omega), hb0.setCell (Nat.le_succ _) _⟩

set_option maxRecDepth 100000 in
set_option maxHeartbeats 400000 in
theorem sketchInc_any (P : Nat) (G : Nat → Nat) (S : Nat → Int) (W : Nat) (C : Nat → Nat → Nat) (y : Int) (w : World) (hW : Hid (Pw W)) (h : Sk w P G S W C) :
    Calls Try.prog 39 #[.agg #[.pointer (some ⟨P, 0, none⟩)], .int .u64 y] w fun e w' => e = .returned (.tuple #[]) ∧ Sk w' P G S W (incA C S W y) ∧ Chg (SkB P G) w w' := by
  have h1 := h.chg (T := fun _ => False) ((Chg.refl _ _).alloc (.cells #[.pointer (some ⟨P, 0, none⟩)] 81)) id (fun _ _ => id)
  go_enter Try.func39, Try.ntmps39
  go_wp2_with fail
  refine (skInc_any P G S W C y _ hW h1).mono ?_
  rintro e w1 ⟨rfl, hs1, hc1⟩
  go_wp2
  go_returns
  exact ⟨rfl, hs1, ((Chg.refl _ _).alloc _).trans hc1⟩

set_option maxRecDepth 100000 in
set_option maxHeartbeats 400000 in
theorem sketchReset_any (P : Nat) (G : Nat → Nat) (S : Nat → Int) (W : Nat) (C : Nat → Nat → Nat) (w : World) (hW : Hid (Pw W)) (h : Sk w P G S W C) :
    Calls Try.prog 40 #[.agg #[.pointer (some ⟨P, 0, none⟩)]] w fun e w' => e = .returned (.tuple #[]) ∧ Sk w' P G S W (halfR C 4) ∧ Chg (SkB P G) w w' := by
  have h1 := h.chg (T := fun _ => False) ((Chg.refl _ _).alloc (.cells #[.pointer (some ⟨P, 0, none⟩)] 81)) id (fun _ _ => id)
  go_enter Try.func40, Try.ntmps40
  go_wp2_with fail
  refine (skReset_any P G S W C _ hW h1).mono ?_
  rintro e w1 ⟨rfl, hs1, hc1⟩
  go_wp2
  go_returns
  exact ⟨rfl, hs1, ((Chg.refl _ _).alloc _).trans hc1⟩

set_option maxRecDepth 100000 in
set_option maxHeartbeats 400000 in
theorem sketchEst_any (P : Nat) (G : Nat → Nat) (S : Nat → Int) (W : Nat) (C : Nat → Nat → Nat) (y : Int) (w : World) (hW : Hid (Pw W)) (h : Sk w P G S W C) :
    Calls Try.prog 41 #[.agg #[.pointer (some ⟨P, 0, none⟩)], .int .u64 y] w fun e w' => e = .returned (.int .i64 ((lowTo 255 (rowC C S W y) 4 : Nat) : Int)) ∧ Below w.heap.size w w' := by
  have h1 := h.chg (T := fun _ => False) ((Chg.refl _ _).alloc (.cells #[.pointer (some ⟨P, 0, none⟩)] 81)) id (fun _ _ => id)
  go_enter Try.func41, Try.ntmps41
  go_wp2_with fail
  refine (skEst_any P G S W C y _ hW h1).mono ?_
  rintro e w1 ⟨rfl, n, rfl⟩
  go_wp2
  go_returns
  exact ⟨rfl, below_drewN ((Below.refl _ _).alloc (Nat.le_refl _) _) n⟩

theorem Sk.ext {w : World} {P : Nat} {G : Nat → Nat} {S : Nat → Int} {W : Nat} {C D : Nat → Nat → Nat} (h : Sk w P G S W C) (e : ∀ i, i < 4 → C i = D i) : Sk w P G S W D :=
  ⟨h.head, fun i hi => e i hi ▸ h.row i hi, h.inj, fun i hi => e i hi ▸ h.small i hi⟩
theorem lowTo_congr (st : Nat) {f g : Nat → Nat} (k : Nat) (h : ∀ i, i < k → f i = g i) : lowTo st f k = lowTo st g k := by
  induction k with
  | zero => rfl
  | succ k ih => unfold lowTo; rw [ih (fun i hi => h i (by omega)), h k (by omega)]
/-- The counters of a list in row i. -/
def skL (zs : List Int) (S : Nat → Int) (W : Nat) (i : Nat) : Nat → Nat := skC zs (S i) W
/-- .. halved, if that is asked for. -/
def skF (zs : List Int) (S : Nat → Int) (W : Nat) (b : Bool) (i : Nat) : Nat → Nat := fin (skC zs (S i) W) b
theorem skL_snoc (zs : List Int) (y : Int) (S : Nat → Int) (W : Nat) : ∀ i, i < 4 → incA (skL zs S W) S W y i = skL (zs ++ [y]) S W i := by
  intro i hi
  unfold incA incTo skL
  rw [if_pos hi, skC_snoc]
theorem skF_half (zs : List Int) (S : Nat → Int) (W : Nat) : ∀ i, i < 4 → halfR (skL zs S W) 4 i = skF zs S W true i := by
  intro i hi
  unfold halfR skF skL fin
  rw [if_pos hi]; simp
theorem est_is (zs : List Int) (S : Nat → Int) (W : Nat) (b : Bool) (x : Int) : lowTo 255 (rowC (skF zs S W b) S W x) 4 = est zs S W b x := by
  have e : rowC (skF zs S W b) S W x = rowV zs S W b x := rfl
  rw [e, low_255 (fun i => rowV_le zs S W b x i)]
  rfl
/-- What is told of a list of hashes. -/
def tellL (f : Int → Nat) (asks : List Int) : List Nat := asks.map f
theorem tellL_snoc (f : Int → Nat) (asks : List Int) (x : Int) : (castL (tellL f (asks ++ [x]))).map (Value.int .i64) = (castL (tellL f asks)).map (Value.int .i64) ++ [.int .i64 ((f x : Nat) : Int)] := by
  simp [tellL, castL]

set_option maxRecDepth 100000 in
set_option maxHeartbeats 800000 in
theorem estimates_any (N : Nat) (S : Nat → Int) (bb : Bool) (w : World) (hN1 : 2 ≤ N) (hN : N ≤ 257)
    (A : Option Addr) (n c : Nat) (zs : List Int) (hZ : Lst .u64 w w.heap.size A n zs) (hn : n ≤ 2147483648)
    (A' : Option Addr) (n' c' : Nat) (zs' : List Int) (hZ' : Lst .u64 w w.heap.size A' n' zs') (hn' : n' ≤ 2147483649) :
    Calls Try.prog 19 #[.int .i64 (N : Int), .agg (seedA S), .slice A n c, .bool bb, .slice A' n' c'] w (RetLst .i64 w n' (castL (tellL (est zs S (wid N) bb) zs'))) := by
  obtain ⟨i0, hi, hz0, hz1, hz2⟩ := info_parts Try.info3
  have hs := fun W => sketchNew_any N S W hN1 hN
  have HS := Lib.hid hs
  have hW := Lib.hid (pw_wid hN1 (by omega))
  have hwh := hW.out.hi
  clear hs
  unfold seedA
  go_enter Try.func19, Try.ntmps19
  go_wp2_with fail
  refine (HS.out _).mono ?_
  rintro e w1 ⟨P, G, rfl, hP, hG, hK, hb⟩
  have hP1 : w.heap.size ≤ P := by simp at hP; omega
  have hG1 : ∀ i, i < 4 → w.heap.size ≤ G i := fun i hi => by have := hG i hi; simp at this; omega
  have hb0 : Below w.heap.size w w1 := ((Below.refl _ _).alloc (Nat.le_refl _) _).trans (hb.mono (by simp))
  have HG := Lib.hid hG1
  clear hP hG hb hG1
  go_wp2
  have hR : At (w1.alloc (.cells #[.pointer (some ⟨P, 0, none⟩)] 81)) w1.heap.size (.cells #[.pointer (some ⟨P, 0, none⟩)] 81 (0, 0)) := At.new _ _
  have hK1 := hK.chg (T := fun _ => False) ((Chg.refl _ _).alloc (.cells #[.pointer (some ⟨P, 0, none⟩)] 81)) id (fun _ _ => id)
  have hbel0 := hb0.alloc hb0.size (.cells #[.pointer (some ⟨P, 0, none⟩)] 81)
  have hRw := hb0.size
  generalize w1.alloc (.cells #[.pointer (some ⟨P, 0, none⟩)] 81) = w2 at hR hK1 hbel0 ⊢
  generalize w1.heap.size = R at hR hRw ⊢
  clear hK hb0
  go_loopw [22] (fun i wr => ∃ k : Nat, k ≤ n ∧ i = .int .i64 k ∧ At wr R (.cells #[.pointer (some ⟨P, 0, none⟩)] 81 (0, 0)) ∧ Sk wr P G S (wid N) (skL (zs.take k) S (wid N)) ∧ Below w.heap.size w wr) (fun i _ => n - (intOf i).toNat)
  case atStart => exact ⟨0, Nat.zero_le _, rfl, hR, hK1, hbel0⟩
  case round =>
    clear hR hK1 hbel0
    obtain ⟨k, hk, rfl, hRr, hKr, hbel⟩ := hrel
    have cR : wr.cell? ⟨R, 0, none⟩ = some (.pointer (some ⟨P, 0, none⟩)) := hRr.cell 0
    by_cases hlt : k < n
    · obtain ⟨b', o, rfl, hb, hcell⟩ := hZ.2 k hlt
      have hsn := take_snoc zs 0 (show k < zs.length by have := hZ.1; omega)
      generalize zs.getD k 0 = x at hcell hsn
      have hcx : wr.cell? ⟨b', o + k, none⟩ = some (.int .u64 x) := (hbel.cell (p := ⟨b', o + k, none⟩) hb).trans hcell
      have HSN := Lib.hid hsn
      clear hsn hcell
      go_wp2_with fail
      refine (sketchInc_any P G S (wid N) _ x wr hW hKr).mono ?_
      rintro e w3 ⟨rfl, hK3, hc3⟩
      have hR3 := hc3.at_ hRr (fun h => by rcases h with h | ⟨i, hi, h⟩; exact hRr.apart hKr.head (by decide) h; exact hRr.apart (hKr.row i hi) (by decide) h)
      have hb3 := hbel.trans (hc3.below hbel.size (fun j hj h => by rcases h with h | ⟨i, hi, h⟩; omega; have := HG.out i hi; omega))
      clear cR hcx
      go_wp2
      go_roundw
      case rel => exact ⟨k + 1, by omega, by go_num, hR3, by rw [HSN.out]; exact hK3.ext (skL_snoc _ _ _ _), hb3⟩
      case measure => simp [intOf]; omega
    · obtain rfl : k = n := by omega
      rw [List.take_of_length_le (Nat.le_of_eq hZ.1)] at hKr
      obtain ⟨D, hD⟩ : ∃ D, D = skF zs S (wid N) bb := ⟨_, rfl⟩
      obtain ⟨f, hf⟩ : ∃ f, f = est zs S (wid N) bb := ⟨_, rfl⟩
      have hE : ∀ x, lowTo 255 (rowC D S (wid N) x) 4 = f x := fun x => by rw [hD, hf]; exact est_is _ _ _ _ _
      have hfl : ∀ x, f x ≤ 15 := fun x => by rw [hf]; exact est_le _ _ _ _ _
      have HD := Lib.hid hD
      have HF := Lib.hid hf
      have HE := Lib.hid hE
      have HFL := Lib.hid hfl
      clear hD hf hE hfl
      cases bb
      case' true =>
        go_wp2_with fail
        refine (sketchReset_any P G S (wid N) _ wr hW hKr).mono ?_
        rintro e w3 ⟨rfl, hK3, hc3⟩
        have hR3 := hc3.at_ hRr (fun h => by rcases h with h | ⟨i, hi, h⟩; exact hRr.apart hKr.head (by decide) h; exact hRr.apart (hKr.row i hi) (by decide) h)
        have hb3 := hbel.trans (hc3.below hbel.size (fun j hj h => by rcases h with h | ⟨i, hi, h⟩; omega; have := HG.out i hi; omega))
        have hK4 : Sk w3 P G S (wid N) D := by rw [HD.out]; exact hK3.ext (skF_half _ _ _)
        clear hK3 hc3
      case' false =>
        obtain ⟨w3, hw3⟩ : ∃ w3, w3 = wr := ⟨_, rfl⟩
        have hR3 := hRr
        have hb3 := hbel
        have hK4 : Sk wr P G S (wid N) D := by rw [HD.out]; exact hKr
        rw [← hw3] at hR3 hb3 hK4 cR ⊢
        clear hw3
      all_goals
        clear hbel hKr hRr
        try clear cR
        go_wp2
        go_loopw [14, 36] (fun v i wr => ∃ k : Nat, k ≤ n' ∧ i = .int .i64 k ∧ At wr R (.cells #[.pointer (some ⟨P, 0, none⟩)] 81 (0, 0)) ∧ Sk wr P G S (wid N) D ∧ wr.ownsRow w.heap.size 3 1 v k ((castL (tellL f (zs'.take k))).map (Value.int .i64)) ∧ Below w.heap.size w wr) (fun _ i _ => n' - (intOf i).toNat)
        case atStart => exact ⟨0, Nat.zero_le _, rfl, hR3.alloc _, hK4.chg (T := fun _ => False) ((Chg.refl _ _).alloc _) id (fun _ _ => id), World.ownsRow_lit w3 #[] 0 hb3.size (Nat.zero_le _) rfl, hb3.alloc hb3.size _⟩
        case round =>
          clear hR3 hK4 hb3
          obtain ⟨k, hk, rfl, hRr, hKr, hown, hbel⟩ := hrel
          by_cases hlt : k < n'
          · obtain ⟨b', o, rfl, hb, hcell⟩ := hZ'.2 k hlt
            have hsn := take_snoc zs' 0 (show k < zs'.length by have := hZ'.1; omega)
            generalize zs'.getD k 0 = x at hcell hsn
            have hcx : wr.cell? ⟨b', o + k, none⟩ = some (.int .u64 x) := (hbel.cell (p := ⟨b', o + k, none⟩) hb).trans hcell
            have HSN := Lib.hid hsn
            have cR : wr.cell? ⟨R, 0, none⟩ = some (.pointer (some ⟨P, 0, none⟩)) := hRr.cell 0
            have hfx := HFL.out x
            clear hsn hcell
            go_wp2_with fail
            refine (sketchEst_any P G S (wid N) D x wr hW hKr).mono ?_
            rintro e w4 ⟨rfl, hb4⟩
            rw [HE.out x]
            have hown4 := (Chg.of_new (S := fun _ => False) hb4).owns hown (fun _ _ h => h)
            have hR4 := hRr.below hb4 hRr.lt
            have hK4 := hKr.below hb4 hKr.head.lt (fun i hi => (hKr.row i hi).lt)
            have hb5 := hbel.trans (hb4.mono hbel.size)
            have hsz := hb5.size
            clear cR hb4 hown hKr hRr hbel hcx
            go_wp2_with (at_builtin; refine wpList_append_own _ rfl _ _ 29 rfl w.heap.size 3 i0 (.int .i64 0) 1 8 Try.underlying29 hi hz0 hz1 hz2 rfl (by decide) _ _ _ rfl (hown4.alloc _) ⟨w4.heap.size, 0, none⟩ 1 1 [.int .i64 ((f x : Nat) : Int)] rfl rfl ?_ ?_ ?_ ?_ ?_ ?_)
            · exact cell_one_new _ _ _
            · intro u hu; simp at hu; subst hu; rfl
            · unfold maxLen; omega
            · omega
            · simp; omega
            · intro v' w5 hown5 hgrow _
              have hb6 : Below w.heap.size w w5 := (hb5.alloc (by omega) _).grown hgrow (by simp; omega) (fun j hj => (hown4.lt j hj).1)
              have hR5 := at_grown hgrow (hR4.alloc _) (own_ne hown4 hR4 (by decide))
              have hK5 : Sk w5 P G S (wid N) D := ⟨at_grown hgrow (hK4.head.alloc _) (own_ne hown4 hK4.head (by decide)), fun i hi => at_grown hgrow ((hK4.row i hi).alloc _) (own_ne hown4 (hK4.row i hi) (by decide)), hK4.inj, hK4.small⟩
              clear hgrow hown4 hR4 hK4 hb5
              go_wp2
              go_roundw
              case rel => exact ⟨k + 1, by omega, by go_num, hR5, hK5, by rw [HSN.out, tellL_snoc]; exact hown5, hb6⟩
              case measure => simp [intOf]; omega
          · obtain rfl : k = n' := by omega
            rw [List.take_of_length_le (Nat.le_of_eq hZ'.1)] at hown
            go_wp2
            go_returns
            obtain ⟨A2, c2, rfl, hv⟩ := own_vls hown
            exact ⟨A2, c2, rfl, by have e := HF.out; rw [← e]; exact vls_lst hv, hbel⟩
end Go.Proofs.Ytoddnjpbmefgnaa
