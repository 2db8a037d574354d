/-
  The walk of FnWriteAgreesWithOtherWriters (4), out of the contracts.
-/
import Derived.Test.YoectwDoorSame
namespace Go.Proofs.YoectwDoor
open Go Go.RowKit

/-- WriteString, its length told by a number of its own. -/
theorem writeS_len (B n m : Nat) (w : World) (xs : List Value) (s : ByteArray) (hm : s.size = m) (hp : Prn w B n xs)
    (hmax : w.cell? ⟨0, 0, none⟩ = some (.int .i64 2147483647)) (hsum : (n : Int) + (m : Int) ≤ 2147483647) :
    Calls Ectg.prog 11 #[.pointer (some ⟨B, 0, none⟩), .string s] w fun e w' => e = .returned (.tuple #[.int .i64 m, .nilIface]) ∧ Prn w' B (n + m) (xs ++ byteCells s) ∧ Below B w w' := by
  subst hm
  exact writeS_any B n w xs s hp hmax hsum

/-- One byte more. -/
theorem elems_succ (k : Nat) (zs : List Int) (h : k < zs.length) : elems k zs ++ [.int .u8 (zs.getD k 0)] = elems (k + 1) zs := by
  unfold elems
  rw [List.take_succ_eq_append_getElem h, List.map_append, List.map_cons, List.map_nil, List.getD_eq_getElem?_getD, List.getElem?_eq_getElem h, Option.getD_some]

set_option maxHeartbeats 400000 in
theorem agrees_long (b0 : Option Addr) (lb cb : Nat) (w : World) (h : 1048576 < (lb : Int)) :
    Calls Ectg.prog 4 #[.slice b0 lb cb] w fun e w' => e = .returned (.bool true) ∧ w = w' := by
  go_enter Ectg.func4, Ectg.ntmps4
  go_wp2_with (go_at_call 10; refine (bytes1_no _ _ _ _ h).mono ?_; rintro e w' ⟨rfl, rfl⟩)
  go_ret
  exact ⟨rfl, rfl⟩

set_option maxHeartbeats 400000 in
theorem agrees_wide (b0 : Option Addr) (lb cb : Nat) (w : World) (h : (lb : Int) ≤ 1048576) (h2 : 65536 < (lb : Int)) :
    Calls Ectg.prog 4 #[.slice b0 lb cb] w fun e w' => e = .returned (.bool true) ∧ w = w' := by
  go_enter Ectg.func4, Ectg.ntmps4
  go_wp2_with (go_at_call 10; refine (bytes1_yes _ _ _ _ h).mono ?_; rintro e w' ⟨rfl, rfl⟩)
  go_ret
  exact ⟨rfl, rfl⟩

set_option maxHeartbeats 400000 in
theorem agrees_main (b0 : Option Addr) (lb cb : Nat) (zs : List Int) (w : World) (hlb : (lb : Int) ≤ 65536) (rb : IsRow w b0 lb cb zs)
    (hmax : w.cell? ⟨0, 0, none⟩ = some (.int .i64 2147483647)) :
    Calls Ectg.prog 4 #[.slice b0 lb cb] w fun e w' => e = .returned (.bool true) ∧ Below w.heap.size w w' := by
  have RB : Hid (IsRow w b0 lb cb zs) := rb
  have MX : Hid (w.cell? ⟨0, 0, none⟩ = some (.int .i64 2147483647)) := hmax
  have ZB : Hid (lb ≤ zs.length) := isRow_len rb
  obtain ⟨s, hss, hsc, hcv⟩ := conv_any (isRow_len rb) (isRow_wf rb)
  have SS : Hid (s.size = lb) := hss
  have SC : Hid (byteCells s = elems lb zs) := hsc
  have CV : Hid (∀ (w : World) (base : Nat) (ao : Option Addr) (cap : Nat), w.ownsRow base 5 1 (.slice ao lb cap) lb (elems lb zs) → (convert 22 9 (.slice ao lb cap)).run Ectg.prog w = .ok (.string s) w) := hcv
  have M0 : Hid (0 < w.heap.size) := World.block_lt_of_cell? w _ hmax
  have hdb : decide (65536 < (lb : Int)) = false := by simp; omega
  clear rb hmax hss hsc hcv
  go_enter Ectg.func4, Ectg.ntmps4
  go_wp2_with (go_at_call 10; refine (bytes1_yes _ _ _ _ (by omega)).mono ?_; rintro e w' ⟨rfl, rfl⟩)
  refine (clone_any b0 lb cb zs _ RB.out (by omega)).mono ?_
  rintro e w1 ⟨bo, c1, rfl, OB, B1⟩
  have OB1 : Hid (w1.ownsRow w.heap.size 5 1 (.slice bo lb c1) lb (elems lb zs)) := OB
  have BB1 : Hid (Below w.heap.size w w1) := B1
  have LB : Hid (∀ k, (Value.slice bo lb c1).ownBlock = some k → k < w1.heap.size) := fun k hk => (OB.lt k hk).2
  clear OB B1 RB
  go_wp2_with fail
  refine (new_any _).mono ?_
  rintro e w2 ⟨rfl, P2, B2, S2⟩
  have HP2 : Hid (Prn w2 w1.heap.size 0 []) := P2
  have OB2 : Hid (w2.ownsRow w.heap.size 5 1 (.slice bo lb c1) lb (elems lb zs)) := owned_below OB1.out B2 LB.out
  have BB2 : Hid (Below w.heap.size w w2) := BB1.out.trans (B2.mono BB1.out.size)
  have MX2 : Hid (w2.cell? ⟨0, 0, none⟩ = some (.int .i64 2147483647)) := (BB2.out.cell (p := ⟨0, 0, none⟩) M0.out).trans MX.out
  clear P2 B2 S2 OB1
  go_wp2_with fail
  refine (write_any w1.heap.size 0 lb w.heap.size w2 [] (elems lb zs) bo c1 HP2.out MX2.out (by omega) OB2.out (elems_one _ _)).mono ?_
  rintro e w3 ⟨rfl, P3, B3⟩
  rw [Nat.zero_add, List.nil_append] at P3
  have Q3 : Hid (Prn w3 w1.heap.size lb (elems lb zs)) := P3
  have OB3 : Hid (w3.ownsRow w.heap.size 5 1 (.slice bo lb c1) lb (elems lb zs)) := owned_below OB2.out B3 LB.out
  have BB3 : Hid (Below w.heap.size w w3) := BB2.out.trans (B3.mono BB1.out.size)
  have LB3 : Hid (∀ k, (Value.slice bo lb c1).ownBlock = some k → k < w3.heap.size) := fun k hk => (OB3.out.lt k hk).2
  clear P3 B3 HP2 OB2 BB2 MX2 LB BB1
  go_wp2_with fail
  refine (new_any _).mono ?_
  rintro e w4 ⟨rfl, P4, B4, S4⟩
  have HP4 : Hid (Prn w4 w3.heap.size 0 []) := P4
  have Q4 : Hid (Prn w4 w1.heap.size lb (elems lb zs)) := prn_below Q3.out B4 (Nat.le_refl _)
  have OB4 : Hid (w4.ownsRow w.heap.size 5 1 (.slice bo lb c1) lb (elems lb zs)) := owned_below OB3.out B4 LB3.out
  have BB4 : Hid (Below w.heap.size w w4) := BB3.out.trans (B4.mono BB3.out.size)
  have BQ4 : Hid (Below w3.heap.size w3 w4) := B4
  have MX4 : Hid (w4.cell? ⟨0, 0, none⟩ = some (.int .i64 2147483647)) := (BB4.out.cell (p := ⟨0, 0, none⟩) M0.out).trans MX.out
  have hcv4 := CV.out w4 _ _ _ OB4.out
  clear P4 B4 S4 Q4
  go_wp2_with fail
  refine (writeS_len w3.heap.size 0 lb w4 [] s SS.out HP4.out MX4.out (by omega)).mono ?_
  rintro e w5 ⟨rfl, P5, B5⟩
  rw [Nat.zero_add, List.nil_append, SC.out] at P5
  have R5 : Hid (Prn w5 w3.heap.size lb (elems lb zs)) := P5
  have BQ5 : Hid (Below w3.heap.size w3 w5) := BQ4.out.trans B5
  clear P5 B5 HP4 OB4 BB4 BQ4 MX4 hcv4
  go_wp2_with fail
  refine (new_any _).mono ?_
  rintro e w6 ⟨rfl, P6, B6, S6⟩
  have HP6 : Hid (Prn w6 w5.heap.size 0 []) := P6
  have BR6 : Hid (Below w5.heap.size w5 w6) := B6
  clear P6 B6 S6
  go_wp2
  go_loopw [10] (fun i wr => ∃ k : Nat, k ≤ lb ∧ i = .int .i64 k ∧ Prn wr w5.heap.size k (elems k zs) ∧ Below w5.heap.size w5 wr) (fun i _ => lb - (intOf i).toNat)
  case atStart => exact ⟨0, Nat.zero_le _, rfl, HP6.out, BR6.out⟩
  case round =>
    obtain ⟨k, hk, rfl, PR, BR⟩ := hrel
    clear HP6 BR6
    have HPR : Hid (Prn wr w5.heap.size k (elems k zs)) := PR
    have HBR : Hid (Below w5.heap.size w5 wr) := BR
    have BQR : Hid (Below w3.heap.size w3 wr) := BQ5.out.trans (BR.mono BQ5.out.size)
    have BBR : Hid (Below w.heap.size w wr) := BB3.out.trans (BQR.out.mono BB3.out.size)
    have OBR : Hid (wr.ownsRow w.heap.size 5 1 (.slice bo lb c1) lb (elems lb zs)) := owned_below OB3.out BQR.out LB3.out
    clear PR BR
    by_cases hlt : k < lb
    · have MXR : Hid (wr.cell? ⟨0, 0, none⟩ = some (.int .i64 2147483647)) := (BBR.out.cell (p := ⟨0, 0, none⟩) M0.out).trans MX.out
      obtain ⟨g, e1, cB⟩ := own_elem OBR.out ZB.out k hlt
      have HW := writeB_any w5.heap.size k wr (elems k zs) (zs.getD k 0) HPR.out MXR.out (by omega)
      rw [elems_succ k zs (by have := ZB.out; omega)] at HW
      have HWH : Hid (Calls Ectg.prog 12 #[.pointer (some ⟨w5.heap.size, 0, none⟩), .int .u8 (zs.getD k 0)] wr fun e w' => e = .returned (.tuple #[.int .i64 1, .nilIface]) ∧ Prn w' w5.heap.size (k + 1) (elems (k + 1) zs) ∧ Below w5.heap.size wr w') := HW
      clear HW OBR MXR HPR OB3 LB3
      subst e1
      generalize zs.getD k 0 = z at cB HWH
      go_wp2_with fail
      refine HWH.out.mono ?_
      rintro e w7 ⟨rfl, P7, B7⟩
      have HP7 : Hid (Prn w7 w5.heap.size (k + 1) (elems (k + 1) zs)) := P7
      have HB7 : Hid (Below w5.heap.size w5 w7) := HBR.out.trans B7
      clear P7 B7
      go_wp2
      go_roundw
      case rel => exact ⟨k + 1, by omega, by go_num, HP7.out, HB7.out⟩
      case measure => simp [intOf]; omega
    · have hke : k = lb := by omega
      subst hke
      have hcvr := CV.out wr _ _ _ OBR.out
      obtain ⟨f1, d1, x1, _, o1⟩ := prn_below Q3.out BQR.out (Nat.le_refl _)
      obtain ⟨f2, d2, x2, _, o2⟩ := prn_below R5.out HBR.out (Nat.le_refl _)
      obtain ⟨f3, d3, x3, _, o3⟩ := HPR.out
      rw [← SC.out] at o1 o2 o3
      have X1 : Hid (wr.cell? ⟨w1.heap.size, 0, none⟩ = some (.slice f1 k d1)) := x1
      have X2 : Hid (wr.cell? ⟨w3.heap.size, 0, none⟩ = some (.slice f2 k d2)) := x2
      have X3 : Hid (wr.cell? ⟨w5.heap.size, 0, none⟩ = some (.slice f3 k d3)) := x3
      have O1 : Hid (wr.ownsRow (w1.heap.size + 1) 5 1 (.slice f1 k d1) k (byteCells s)) := o1
      have O2 : Hid (wr.ownsRow (w3.heap.size + 1) 5 1 (.slice f2 k d2) k (byteCells s)) := o2
      have O3 : Hid (wr.ownsRow (w5.heap.size + 1) 5 1 (.slice f3 k d3) k (byteCells s)) := o3
      clear x1 x2 x3 o1 o2 o3 HPR OBR Q3 R5 OB3 LB3 BQ5 BQR HBR CV SC MX M0
      go_wp2_with fail
      refine (buf_any w1.heap.size k f1 d1 wr X1.out).mono ?_
      rintro e w' ⟨rfl, rfl⟩
      go_wp2_with fail
      refine (same_any f1 k d1 _ s wr SS.out (by omega) O1.out).mono ?_
      rintro e w' ⟨rfl, n1, rfl⟩
      go_wp2_with fail
      refine (buf_any w3.heap.size k f2 d2 (wr.drewN n1) X2.out).mono ?_
      rintro e w' ⟨rfl, rfl⟩
      go_wp2_with fail
      refine (same_any f2 k d2 _ s (wr.drewN n1) SS.out (by omega) O2.out).mono ?_
      rintro e w' ⟨rfl, n2, rfl⟩
      go_wp2_with fail
      refine (buf_any w5.heap.size k f3 d3 _ (by exact X3.out)).mono ?_
      rintro e w' ⟨rfl, rfl⟩
      go_wp2_with fail
      refine (same_any f3 k d3 (w5.heap.size + 1) s _ SS.out (by omega) (by exact O3.out)).mono ?_
      rintro e w' ⟨rfl, n3, rfl⟩
      go_wp2
      go_ret
      exact ⟨rfl, below_drewN BBR.out _⟩

/-- THE LAW's WALK: whatever the slice, it returns true and writes nothing that was there. -/
theorem agrees_any (b0 : Option Addr) (lb cb : Nat) (zs : List Int) (w : World) (rb : IsRow w b0 lb cb zs) (hmax : w.cell? ⟨0, 0, none⟩ = some (.int .i64 2147483647)) :
    Calls Ectg.prog 4 #[.slice b0 lb cb] w fun e w' => e = .returned (.bool true) ∧ Below w.heap.size w w' := by
  by_cases h : 1048576 < (lb : Int)
  · refine (agrees_long b0 lb cb w h).mono ?_
    rintro e w' ⟨rfl, rfl⟩
    exact ⟨rfl, Below.refl _ _⟩
  · by_cases h2 : 65536 < (lb : Int)
    · refine (agrees_wide b0 lb cb w (by omega) h2).mono ?_
      rintro e w' ⟨rfl, rfl⟩
      exact ⟨rfl, Below.refl _ _⟩
    · exact agrees_main b0 lb cb zs w (by omega) rb hmax
end Go.Proofs.YoectwDoor
