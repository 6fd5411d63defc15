/-
  The walk of spec.After.
-/
import Derived.Test.YtoddnjpbmefgnaaCostsSpec
namespace Go.Proofs.Ytoddnjpbmefgnaa
open Go.RowKit

/-- A call hands back a slice of pairs of its own, and a sum. -/
def RetAft (w : World) (C : Nat → Option Int) (e : Ending) (w' : World) : Prop := ∃ A n c, e = .returned (.tuple #[.slice A n c, .int .i64 (total C 16)]) ∧ Prs w' w'.heap.size A n (outC C 16) ∧ Below w.heap.size w w'
/-- Where the last step at a key lies. -/
def LastAt (ss : List (Nat × Int)) (n : Nat) (o : Option Int) (key : Nat) (a : Int) : Prop :=
  (a = -1 ∧ o = none) ∨ ∃ j : Nat, a = j ∧ j < n ∧ (ss.getD j (0, 0)).1 = key ∧ o = some (ss.getD j (0, 0)).2
theorem LastAt.fit {ss : List (Nat × Int)} {n : Nat} {o : Option Int} {key : Nat} {a : Int} (h : LastAt ss n o key a) (hn : n ≤ 2147483647) : -1 ≤ a ∧ a ≤ 2147483647 := by
  rcases h with ⟨rfl, _⟩ | ⟨j, rfl, hj, _⟩ <;> omega

set_option maxRecDepth 100000 in
set_option maxHeartbeats 400000 in
theorem after_any (A : Option Addr) (n c : Nat) (ss : List (Nat × Int)) (w : World) (hZ : Prs w w.heap.size A n ss) (hn : n ≤ 2147483647) (hs : OkS ss) :
    Calls Try.prog 26 #[.slice A n c] w (RetAft w (holdL ss)) := by
  obtain ⟨i0, hi, hz0, hz1, hz2⟩ := info_parts Try.info51
  have hok := okC_hold ss hs
  have hhl := fun k => hold_last ss k
  generalize holdL ss = C at hok hhl ⊢
  have HL := Lib.hid hhl
  clear hhl
  go_enter Try.func26, Try.ntmps26
  go_wp2
  go_loopw [4, 5, 6] (fun v s i wr => ∃ k m : Nat, k ≤ 16 ∧ m ≤ k ∧ i = .int .u64 k ∧ s = .int .i64 (total C k) ∧ wr.ownsRow w.heap.size 51 2 v m (flatP (outC C k)) ∧ Below w.heap.size w wr) (fun _ _ i _ => 16 - (intOf i).toNat)
  case atStart => exact ⟨0, 0, by omega, Nat.le_refl _, rfl, rfl, World.ownsRow_lit w #[] 0 (Nat.le_refl _) (Nat.zero_le _) rfl, (Below.refl _ _).alloc (Nat.le_refl _) _⟩
  case round =>
    obtain ⟨k, m, hk, hm, rfl, rfl, hown, hbel⟩ := hrel
    by_cases hlt : k < 16
    · have htot := hok.total k
      have hval := hok.val k
      have hts : total C (k + 1) = total C k + (C k).getD 0 := rfl
      have hos : outC C (k + 1) = outC C k ++ oneC (C k) k := rfl
      have hlk := HL.out k
      have HT := Lib.hid hts
      have HO := Lib.hid hos
      have HK := Lib.hid hlk
      generalize total C k = t at htot HT ⊢
      clear hts hos hlk
      go_wp2
      go_loopw [7, 17] (fun a i wr' => ∃ (q : Nat) (x : Int), q ≤ n ∧ i = .int .i64 q ∧ a = .int .i64 x ∧ LastAt ss n (lastL (ss.take q) k) k x ∧ Below wr.heap.size wr wr') (fun _ i _ => n - (intOf i).toNat)
      case atStart => exact ⟨0, -1, Nat.zero_le _, rfl, rfl, .inl ⟨rfl, rfl⟩, Below.refl _ _⟩
      case round =>
        obtain ⟨q, x, hq, rfl, rfl, hla, hwr⟩ := hrel
        have hbw := hbel.trans (hwr.mono hbel.size)
        have hxf := hla.fit hn
        by_cases hql : q < n
        · obtain ⟨b, o, rfl, hb, hc0, hc1⟩ := hZ.2 q hql
          have hsn := take_snoc ss (0, 0) (show q < ss.length by have := hZ.1; omega)
          obtain ⟨p, hp⟩ : ∃ p, p = ss.getD q (0, 0) := ⟨_, rfl⟩
          have hpk := hs p (by rw [hp]; have e : ss.getD q (0, 0) = ss[q]'(by have := hZ.1; omega) := by simp [List.getD, show q < ss.length by have := hZ.1; omega]
                               rw [e]; exact List.getElem_mem _)
          have hp' := hp
          rw [← hp] at hc0 hc1 hsn
          obtain ⟨pk, pc⟩ := p
          simp only at hc0 hc1 hpk
          have c0 : _ = some (Value.int .u64 (pk : Int)) := (hbw.cell (p := ⟨b, o + q * 2, none⟩) hb).trans hc0
          have c1 : _ = some (Value.int .i64 pc) := (hbw.cell (p := ⟨b, o + q * 2 + 1, none⟩) hb).trans hc1
          have hll := lastL_snoc (ss.take q) (pk, pc) k
          rw [← hsn] at hll
          have HLL := Lib.hid hll
          have HP := Lib.hid hp'
          have HA := Lib.hid hla
          clear hc0 hc1 hsn hll hp' hp hla
          by_cases he : pk = k
          · have ht : ((pk : Int) == (k : Int)) = true := by rw [beq_iff_eq]; omega
            go_wp2
            go_roundw
            case rel =>
              refine ⟨q + 1, q, by omega, by go_num, rfl, .inr ⟨q, rfl, hql, by rw [← HP.out]; exact he, ?_⟩, hwr.alloc hwr.size _⟩
              rw [HLL.out, ← HP.out]; simp [lastI, he]
            case measure => simp [intOf]; omega
          · have ht : ((pk : Int) == (k : Int)) = false := by rw [beq_eq_false_iff_ne]; omega
            go_wp2
            go_roundw
            case rel =>
              refine ⟨q + 1, x, by omega, by go_num, rfl, ?_, hwr.alloc hwr.size _⟩
              rw [HLL.out]; simp only [lastI, if_neg he]; exact HA.out
            case measure => simp [intOf]; omega
        · obtain rfl : q = n := by omega
          rw [List.take_of_length_le (Nat.le_of_eq hZ.1)] at hla
          have hck := HK.out
          have hown2 := (Chg.of_new (S := fun _ => False) hwr).owns hown (fun _ _ h => h)
          have hsz2 := hbw.size
          clear hown hwr hbel HK
          rcases hla with ⟨rfl, hl⟩ | ⟨j, rfl, hj, hjk, hl⟩
          · rw [hl] at hck
            have hn0 : C k = none := hck
            rw [hn0] at hval
            have HN := Lib.hid hn0
            clear hl hck hn0 hval
            go_wp2
            go_roundw
            case rel => exact ⟨k + 1, m, by omega, by omega, by go_num, by rw [HT.out, HN.out]; simp, by rw [HO.out, HN.out]; simpa [oneC] using hown2, hbw⟩
            case measure => simp [intOf]; omega
          · obtain ⟨b, o, rfl, hb, hc0, hc1⟩ := hZ.2 j hj
            rw [hl] at hck
            rw [hjk] at hc0
            generalize (ss.getD j (0, 0)).2 = pc at hc1 hck
            have c0 : _ = some (Value.int .u64 (k : Int)) := (hbw.cell (p := ⟨b, o + j * 2, none⟩) hb).trans hc0
            have c1 : _ = some (Value.int .i64 pc) := (hbw.cell (p := ⟨b, o + j * 2 + 1, none⟩) hb).trans hc1
            clear hl hc0 hc1 hjk
            by_cases hneg : pc < 0
            · have hn0 : C k = none := by rw [hck]; simp [Option.bind, ofI, hneg]
              have HN := Lib.hid hn0
              have hg : ¬ (0 ≤ pc) := by omega
              clear hck hn0 hval
              go_wp2
              go_roundw
              case rel => exact ⟨k + 1, m, by omega, by omega, by go_num, by rw [HT.out, HN.out]; simp, by rw [HO.out, HN.out]; simpa [oneC] using hown2, hbw⟩
              case measure => simp [intOf]; omega
            · have hn0 : C k = some pc := by rw [hck]; simp [Option.bind, ofI, hneg]
              rw [hn0] at hval
              simp at hval
              have HN := Lib.hid hn0
              have hg : 0 ≤ pc := by omega
              clear hck hn0
              go_wp2_with (at_builtin; refine wpList_append_pair rfl _ _ 49 rfl w.heap.size 51 i0 (.agg #[.int .u64 0, .int .i64 0]) Try.underlying49 hi hz0 hz1 hz2 rfl _ m (outC C k) rfl (hown2.alloc _) wr.heap.size k pc rfl ((At.new _ _).cell 0) ((At.new _ _).cell 1) ?c1 ?c2 ?c3 ?_)
              case c1 => unfold maxLen; omega
              case c2 => omega
              case c3 => omega
              intro v' w3 hown3 hgrow
              have hb3 : Below w.heap.size w w3 := (hbw.alloc hsz2 _).grown hgrow (by simp; omega) (fun jj hjj => (hown2.lt jj hjj).1)
              have d1 : w3.cell? ⟨b, o + j * 2 + 1, none⟩ = some (.int .i64 pc) := (hb3.cell (p := ⟨b, o + j * 2 + 1, none⟩) hb).trans ((hbw.cell (p := ⟨b, o + j * 2 + 1, none⟩) hb).symm.trans c1)
              clear hgrow c0 c1 hown2
              go_wp2
              go_roundw
              case rel => exact ⟨k + 1, m + 1, by omega, by omega, by go_num, by rw [HT.out, HN.out]; simp, by rw [HO.out, HN.out]; exact hown3, hb3⟩
              case measure => simp [intOf]; omega
    · obtain rfl : k = 16 := by omega
      go_wp2
      go_returns
      obtain ⟨A2, c2, rfl, hv, _⟩ := own_prs hown
      exact ⟨A2, m, c2, rfl, hv, hbel⟩
end Go.Proofs.Ytoddnjpbmefgnaa
