/-
  The walk of FnWriteConcatenates (3), out of the contracts.
-/
import Derived.Test.YoectwDoorClone
namespace Go.Proofs.YoectwDoor
open Go Go.RowKit

/-- What came in lies as it lay. -/
theorem isRow_below {w w' : World} {B : Nat} {a : Option Addr} {len cap : Nat} {zs : List Int} (h : IsRow w a len cap zs) (hb : Below B w w') (hB : w.heap.size ≤ B) : IsRow w' a len cap zs := by
  rcases h with h | ⟨x, rfl, h1, h2, h3, h4⟩
  · exact .inl h
  · exact .inr ⟨x, rfl, h1, h2, fun i hi => (hb.cell (Nat.lt_of_lt_of_le (World.block_lt_of_cell? w _ (h3 i hi)) hB)).trans (h3 i hi), h4⟩

/-- A cell of an owned row. -/
theorem own_at {w : World} {base n cap : Nat} {ao : Option Addr} {xs : List Value} (h : w.ownsRow base 5 1 (.slice ao n cap) n xs) (k : Nat) (hk : k < n) (u : Value) (hu : xs[k]? = some u) :
    ∃ g, ao = some ⟨g, 0, none⟩ ∧ w.cell? ⟨g, k, none⟩ = some u := by
  rcases h.2 with ⟨_, h0⟩ | ⟨g, c, cur, hv, _⟩
  · omega
  · have hv' : ao = some ⟨g, 0, none⟩ ∧ cap = c := by simpa using hv
    obtain ⟨rfl, rfl⟩ := hv'
    exact ⟨g, rfl, (h.cellAt k (by omega)).trans hu⟩

theorem isRow_len {w : World} {a : Option Addr} {len cap : Nat} {zs : List Int} (h : IsRow w a len cap zs) : len ≤ zs.length := by
  rcases h with ⟨_, rfl, _, rfl⟩ | ⟨x, _, h1, h2, _⟩
  · simp
  · omega

/-- The byte at k of an owned copy. -/
theorem own_elem {w : World} {base n cap : Nat} {ao : Option Addr} {zs : List Int} (h : w.ownsRow base 5 1 (.slice ao n cap) n (elems n zs)) (hz : n ≤ zs.length) (k : Nat) (hk : k < n) :
    ∃ g, ao = some ⟨g, 0, none⟩ ∧ w.cell? ⟨g, k, none⟩ = some (.int .u8 (zs.getD k 0)) := own_at h k hk _ (elems_get n zs hz k hk)

/-- The byte at k, and at n + k, of two copies one behind the other. -/
theorem own_first {w : World} {base n m cap : Nat} {ao : Option Addr} {zs ys : List Int} (h : w.ownsRow base 5 1 (.slice ao (n + m) cap) (n + m) (elems n zs ++ elems m ys)) (hz : n ≤ zs.length) (k : Nat) (hk : k < n) :
    ∃ g, ao = some ⟨g, 0, none⟩ ∧ w.cell? ⟨g, k, none⟩ = some (.int .u8 (zs.getD k 0)) :=
  own_at h k (by omega) _ (by rw [List.getElem?_append_left (by rw [elems_length n zs hz]; exact hk)]; exact elems_get n zs hz k hk)
theorem own_second {w : World} {base n m cap : Nat} {ao : Option Addr} {zs ys : List Int} (h : w.ownsRow base 5 1 (.slice ao (n + m) cap) (n + m) (elems n zs ++ elems m ys)) (hz : n ≤ zs.length) (hy : m ≤ ys.length) (k : Nat) (hk : k < m) :
    ∃ g, ao = some ⟨g, 0, none⟩ ∧ w.cell? ⟨g, n + k, none⟩ = some (.int .u8 (ys.getD k 0)) :=
  own_at h (n + k) (by omega) _ (by rw [List.getElem?_append_right (by rw [elems_length n zs hz]; omega), elems_length n zs hz, Nat.add_sub_cancel_left]; exact elems_get m ys hy k hk)

set_option maxHeartbeats 400000 in
theorem concat_long (a0 b0 : Option Addr) (la ca lb cb : Nat) (w : World) (h : 1048576 < (la : Int) + (lb : Int)) :
    Calls Ectg.prog 3 #[.slice a0 la ca, .slice b0 lb cb] w fun e w' => e = .returned (.bool true) ∧ w = w' := by
  go_enter Ectg.func3, Ectg.ntmps3
  go_wp2_with (go_at_call 5; refine (bytes2_no _ _ _ _ _ _ _ h).mono ?_; rintro e w' ⟨rfl, rfl⟩)
  go_ret
  exact ⟨rfl, rfl⟩

set_option maxHeartbeats 400000 in
theorem concat_wide (a0 b0 : Option Addr) (la ca lb cb : Nat) (w : World) (h : (la : Int) + (lb : Int) ≤ 1048576) (h2 : 524288 < (la : Int) ∨ 524288 < (lb : Int)) :
    Calls Ectg.prog 3 #[.slice a0 la ca, .slice b0 lb cb] w fun e w' => e = .returned (.bool true) ∧ w = w' := by
  by_cases h3 : 524288 < (la : Int)
  · clear h2
    go_enter Ectg.func3, Ectg.ntmps3
    go_wp2_with (go_at_call 5; refine (bytes2_yes _ _ _ _ _ _ _ h).mono ?_; rintro e w' ⟨rfl, rfl⟩)
    go_ret
    exact ⟨rfl, rfl⟩
  · have h4 : 524288 < (lb : Int) := by omega
    clear h2
    go_enter Ectg.func3, Ectg.ntmps3
    go_wp2_with (go_at_call 5; refine (bytes2_yes _ _ _ _ _ _ _ h).mono ?_; rintro e w' ⟨rfl, rfl⟩)
    go_ret
    exact ⟨rfl, rfl⟩

set_option maxHeartbeats 400000 in
theorem concat_main (a0 b0 : Option Addr) (la ca lb cb : Nat) (za zb : List Int) (w : World) (hla : (la : Int) ≤ 524288) (hlb : (lb : Int) ≤ 524288) (ra : IsRow w a0 la ca za) (rb : IsRow w b0 lb cb zb)
    (hmax : w.cell? ⟨0, 0, none⟩ = some (.int .i64 2147483647)) :
    Calls Ectg.prog 3 #[.slice a0 la ca, .slice b0 lb cb] w fun e w' => e = .returned (.bool true) ∧ Below w.heap.size w w' := by
  have RA : Hid (IsRow w a0 la ca za) := ra
  have RB : Hid (IsRow w b0 lb cb zb) := rb
  have MX : Hid (w.cell? ⟨0, 0, none⟩ = some (.int .i64 2147483647)) := hmax
  have ZA : Hid (la ≤ za.length) := isRow_len ra
  have ZB : Hid (lb ≤ zb.length) := isRow_len rb
  have M0 : Hid (0 < w.heap.size) := World.block_lt_of_cell? w _ hmax
  have hda : decide (524288 < (la : Int)) = false := by simp; omega
  have hdb : decide (524288 < (lb : Int)) = false := by simp; omega
  clear ra rb hmax
  go_enter Ectg.func3, Ectg.ntmps3
  go_wp2_with (go_at_call 5; refine (bytes2_yes _ _ _ _ _ _ _ (by omega)).mono ?_; rintro e w' ⟨rfl, rfl⟩)
  refine (clone_any a0 la ca za _ RA.out (by omega)).mono ?_
  rintro e w1 ⟨ao, c1, rfl, OA, B1⟩
  have OA1 : Hid (w1.ownsRow w.heap.size 5 1 (.slice ao la c1) la (elems la za)) := OA
  have HB1 : Hid (Below w.heap.size w w1) := B1
  clear OA B1
  go_wp2_with fail
  refine (clone_any b0 lb cb zb _ (isRow_below RB.out HB1.out (Nat.le_refl _)) (by omega)).mono ?_
  rintro e w2 ⟨bo, c2, rfl, OB, B2⟩
  have OB2 : Hid (w2.ownsRow w1.heap.size 5 1 (.slice bo lb c2) lb (elems lb zb)) := OB
  have HB2 : Hid (Below w1.heap.size w1 w2) := B2
  clear OB B2
  go_wp2_with fail
  refine (new_any _).mono ?_
  rintro e w3 ⟨rfl, P3, B3, S3⟩
  have HP3 : Hid (Prn w3 w2.heap.size 0 []) := P3
  have HB3 : Hid (Below w2.heap.size w2 w3) := B3
  have HS3 : Hid (w2.heap.size < w3.heap.size) := S3
  clear P3 B3 S3
  have LA : Hid (∀ k, (Value.slice ao la c1).ownBlock = some k → k < w2.heap.size) := fun k hk => Nat.lt_of_lt_of_le (OA1.out.lt k hk).2 HB2.out.size
  have LB : Hid (∀ k, (Value.slice bo lb c2).ownBlock = some k → k < w2.heap.size) := fun k hk => (OB2.out.lt k hk).2
  have Z2 : Hid (w.heap.size ≤ w2.heap.size) := Nat.le_trans HB1.out.size HB2.out.size
  have OA3 : Hid (w3.ownsRow w.heap.size 5 1 (.slice ao la c1) la (elems la za)) := owned_below (owned_below OA1.out HB2.out fun k hk => (OA1.out.lt k hk).2) HB3.out LA.out
  have OB3 : Hid (w3.ownsRow w1.heap.size 5 1 (.slice bo lb c2) lb (elems lb zb)) := owned_below OB2.out HB3.out LB.out
  have BB3 : Hid (Below w.heap.size w w3) := (HB1.out.trans (HB2.out.mono HB1.out.size)).trans (HB3.out.mono Z2.out)
  have MX3 : Hid (w3.cell? ⟨0, 0, none⟩ = some (.int .i64 2147483647)) := (BB3.out.cell (p := ⟨0, 0, none⟩) M0.out).trans MX.out
  clear OA1 OB2 HB1 HB2 HB3 HS3 MX RA RB
  go_wp2_with fail
  refine (write_any w2.heap.size 0 la w.heap.size w3 [] (elems la za) ao c1 HP3.out MX3.out (by omega) OA3.out (elems_one _ _)).mono ?_
  rintro e w4 ⟨rfl, P4, B4⟩
  have HP4 : Hid (Prn w4 w2.heap.size (0 + la) ([] ++ elems la za)) := P4
  have OA4 : Hid (w4.ownsRow w.heap.size 5 1 (.slice ao la c1) la (elems la za)) := owned_below OA3.out B4 LA.out
  have OB4 : Hid (w4.ownsRow w1.heap.size 5 1 (.slice bo lb c2) lb (elems lb zb)) := owned_below OB3.out B4 LB.out
  have BB4 : Hid (Below w.heap.size w w4) := BB3.out.trans (B4.mono Z2.out)
  have MX4 : Hid (w4.cell? ⟨0, 0, none⟩ = some (.int .i64 2147483647)) := (B4.cell (p := ⟨0, 0, none⟩) (Nat.lt_of_lt_of_le M0.out Z2.out)).trans MX3.out
  clear P4 B4 HP3 OA3 OB3 BB3 MX3
  go_wp2_with fail
  refine (write_any w2.heap.size (0 + la) lb w1.heap.size w4 ([] ++ elems la za) (elems lb zb) bo c2 HP4.out MX4.out (by omega) OB4.out (elems_one _ _)).mono ?_
  rintro e w5 ⟨rfl, P5, B5⟩
  have OA5 : Hid (w5.ownsRow w.heap.size 5 1 (.slice ao la c1) la (elems la za)) := owned_below OA4.out B5 LA.out
  have OB5 : Hid (w5.ownsRow w1.heap.size 5 1 (.slice bo lb c2) lb (elems lb zb)) := owned_below OB4.out B5 LB.out
  have BB5 : Hid (Below w.heap.size w w5) := BB4.out.trans (B5.mono Z2.out)
  obtain ⟨fo, fc, hfc, _, OF⟩ := P5
  have OF5 : Hid (w5.ownsRow (w2.heap.size + 1) 5 1 (.slice fo (0 + la + lb) fc) (0 + la + lb) ([] ++ elems la za ++ elems lb zb)) := OF
  clear B5 OF HP4 OA4 OB4 BB4 MX4 LA LB Z2 M0
  rw [show 0 + la + lb = la + lb from by omega] at OF5 hfc
  rw [List.nil_append] at OF5
  go_wp2_with (go_at_call 9; refine (buf_any _ _ _ _ _ hfc).mono ?_; rintro e w' ⟨rfl, rfl⟩)
  clear hfc
  go_loopw [11] (fun i wr => ∃ k : Nat, k ≤ la ∧ i = .int .i64 k ∧ ∃ nq, wr = w5.drewN nq) (fun i _ => la - (intOf i).toNat)
  case atStart => exact ⟨0, Nat.zero_le _, rfl, 0, rfl⟩
  case round =>
    obtain ⟨k, hk, rfl, nq, rfl⟩ := hrel
    by_cases hlt : k < la
    · obtain ⟨g1, e1, cA⟩ := own_elem OA5.out ZA.out k hlt
      obtain ⟨gf, e2, cF⟩ := own_first OF5.out ZA.out k hlt
      clear OA5 OB5 OF5
      subst e1
      subst e2
      generalize za.getD k 0 = z at cA cF
      go_wp2_with fail
      go_quiet (fail)
      go_wp2
      go_roundw
      case rel => exact ⟨k + 1, by omega, by go_num, _, rfl⟩
      case measure => simp [intOf]; omega
    · clear OA5
      go_wp2
      go_loopw [12] (fun i wr => ∃ j : Nat, j ≤ lb ∧ i = .int .i64 j ∧ ∃ nq, wr = w5.drewN nq) (fun i _ => lb - (intOf i).toNat)
      case atStart => exact ⟨0, Nat.zero_le _, rfl, _, rfl⟩
      case round =>
        obtain ⟨j, hj, rfl, nq2, rfl⟩ := hrel
        by_cases hjt : j < lb
        · obtain ⟨g2, e1, cB⟩ := own_elem OB5.out ZB.out j hjt
          obtain ⟨gf, e2, cF⟩ := own_second OF5.out ZA.out ZB.out j hjt
          clear OB5 OF5
          subst e1
          subst e2
          generalize zb.getD j 0 = z at cB cF
          go_wp2_with fail
          go_quiet (fail)
          go_wp2
          go_roundw
          case rel => exact ⟨j + 1, by omega, by go_num, _, rfl⟩
          case measure => simp [intOf]; omega
        · go_wp2
          go_ret
          exact ⟨rfl, below_drewN BB5.out _⟩

/-- THE LAW's WALK: whatever the two slices, it returns true and writes nothing that was there. -/
theorem concat_any (a0 b0 : Option Addr) (la ca lb cb : Nat) (za zb : List Int) (w : World) (ra : IsRow w a0 la ca za) (rb : IsRow w b0 lb cb zb) (hmax : w.cell? ⟨0, 0, none⟩ = some (.int .i64 2147483647)) :
    Calls Ectg.prog 3 #[.slice a0 la ca, .slice b0 lb cb] w fun e w' => e = .returned (.bool true) ∧ Below w.heap.size w w' := by
  by_cases h : 1048576 < (la : Int) + (lb : Int)
  · refine (concat_long a0 b0 la ca lb cb w h).mono ?_
    rintro e w' ⟨rfl, rfl⟩
    exact ⟨rfl, Below.refl _ _⟩
  · by_cases h2 : 524288 < (la : Int) ∨ 524288 < (lb : Int)
    · refine (concat_wide a0 b0 la ca lb cb w (by omega) h2).mono ?_
      rintro e w' ⟨rfl, rfl⟩
      exact ⟨rfl, Below.refl _ _⟩
    · exact concat_main a0 b0 la ca lb cb za zb w (by omega) (by omega) ra rb hmax
end Go.Proofs.YoectwDoor
