/-
  The contracts of zzClone (6) and of the two bounds on lengths (5, 10).
-/
import Derived.Test.YoectwDoorWrites
namespace Go.Proofs.YoectwDoor
open Go Go.RowKit

/-- WHAT IS KNOWN OF A []byte THAT CAME IN: it is nil; or it leads to 'cap' cells, the numbers 'zs' (the first 'len' are its elements). -/
def IsRow (w : World) (a : Option Addr) (len cap : Nat) (zs : List Int) : Prop :=
  (a = none ∧ len = 0 ∧ cap = 0 ∧ zs = []) ∨
  ∃ x, a = some x ∧ len ≤ cap ∧ zs.length = cap ∧ (∀ i, i < zs.length → w.cell? (x.add i) = some (.int .u8 (zs.getD i 0))) ∧ ∀ n ∈ zs, (Lit.int .u8 n).wf = true

/-- Its elements, as cells. -/
def elems (len : Nat) (zs : List Int) : List Value := (zs.take len).map (Value.int .u8)

theorem elems_one (len : Nat) (zs : List Int) : ∀ u ∈ elems len zs, u.oneCell' = true := by
  intro u hu
  obtain ⟨z, _, rfl⟩ := List.mem_map.1 hu
  rfl

theorem elems_length (len : Nat) (zs : List Int) (h : len ≤ zs.length) : (elems len zs).length = len := by
  simp [elems]; omega

theorem elems_get (len : Nat) (zs : List Int) (h : len ≤ zs.length) (j : Nat) (hj : j < len) : (elems len zs)[j]? = some (.int .u8 (zs.getD j 0)) := by
  have hz : j < zs.length := by omega
  simp [elems, hj, List.getElem?_eq_getElem hz]

/-- So far k bytes have been copied into the new row. -/
def Part (w : World) (B len k : Nat) (zs : List Int) : Prop := ∃ ys, w.ownsRow B 5 1 (.slice (some ⟨B, 0, none⟩) len len) len ys ∧ ∀ j, j < k → ys[j]? = some (.int .u8 (zs.getD j 0))

theorem part_cell {w : World} {B len k : Nat} {zs : List Int} (h : Part w B len k zs) (j : Nat) (hj : j < len) : ∃ v, w.cell? ⟨B, j, none⟩ = some v := by
  obtain ⟨ys, hown, _⟩ := h
  have hl : ys.length = len := by simpa using hown.1
  exact ⟨_, (hown.cellAt j (by omega)).trans (List.getElem?_eq_getElem (by omega))⟩

theorem part_frozen {w : World} {B len k : Nat} {zs : List Int} (h : Part w B len k zs) (j : Nat) : w.frozen? ⟨B, j, none⟩ = false := by
  obtain ⟨ys, hown, _⟩ := h
  exact hown.frozenAt j

theorem part_step {w : World} {B len k : Nat} {zs : List Int} (h : Part w B len k zs) (hk : k < len) : Part (w.setCell ⟨B, k, none⟩ (.int .u8 (zs.getD k 0))) B len (k + 1) zs := by
  obtain ⟨ys, hown, hj⟩ := h
  have hl : ys.length = len := by simpa using hown.1
  refine ⟨_, (hown.stored k _).1, fun j hjk => ?_⟩
  by_cases e : j = k
  · subst e
    rw [List.getElem?_set_self (by omega)]
  · rw [List.getElem?_set_ne (by omega)]
    exact hj j (by omega)

theorem part_done {w : World} {B len : Nat} {zs : List Int} (h : Part w B len len zs) (hz : len ≤ zs.length) : w.ownsRow B 5 1 (.slice (some ⟨B, 0, none⟩) len len) len (elems len zs) := by
  obtain ⟨ys, hown, hj⟩ := h
  have hl : ys.length = len := by simpa using hown.1
  have : ys = elems len zs := by
    apply List.ext_getElem?
    intro j
    by_cases e : j < len
    · rw [hj j e, elems_get len zs hz j e]
    · rw [List.getElem?_eq_none (by omega), List.getElem?_eq_none (by rw [elems_length len zs hz]; omega)]
  rw [← this]
  exact hown

theorem clone_nil (w : World) : Calls Ectg.prog 6 #[.slice none 0 0] w fun e w' => e = .returned (.slice none 0 0) ∧ w = w' := by
  have hn := fun (w : World) (a : Option Addr) (l c : Nat) => Lib.run_eql_slice_nil (P := Ectg.prog) w 22 5 a l c 0 0 Ectg.underlying22
  go_enter Ectg.func6, Ectg.ntmps6
  go_wp2
  go_ret
  exact ⟨rfl, rfl⟩

set_option maxHeartbeats 400000 in
theorem clone_row (x : Addr) (len cap : Nat) (zs : List Int) (w : World) (hlc : len ≤ cap) (hlen : (len : Int) ≤ 1048576) (hz : zs.length = cap) (hcell : ∀ i, i < zs.length → w.cell? (x.add i) = some (.int .u8 (zs.getD i 0))) :
    Calls Ectg.prog 6 #[.slice (some x) len cap] w fun e w' => e = .returned (.slice (some ⟨w.heap.size, 0, none⟩) len len) ∧ w'.ownsRow w.heap.size 5 1 (.slice (some ⟨w.heap.size, 0, none⟩) len len) len (elems len zs) ∧ Below w.heap.size w w' := by
  have hn := fun (w : World) (a : Option Addr) (l c : Nat) => Lib.run_eql_slice_nil (P := Ectg.prog) w 22 5 a l c 0 0 Ectg.underlying22
  obtain ⟨i0, hi, hz0, hz1, hz2⟩ := info_parts info5
  have H4 : Hid (Ectg.prog.info? 5 = some i0) := hi
  have HC : Hid (∀ i, i < zs.length → w.cell? (x.add i) = some (.int .u8 (zs.getD i 0))) := hcell
  have HZ : Hid (zs.length = cap) := hz
  clear hi hcell hz
  go_enter Ectg.func6, Ectg.ntmps6
  go_wp2_with (at_make; refine wpList_make_full _ rfl (.tmp 8) (.tmp 8) 22 rfl w.heap.size 5 i0 (.int .u8 0) 1 Ectg.underlying22 H4.out hz0 hz1 .i64 .i64 _ _ len rfl rfl rfl rfl (by rw [hz2]; omega) (by unfold maxLen; omega) (Nat.le_refl _) ?_; intro w1 hown hg; have HP : Hid (Part w1 w.heap.size len 0 zs) := ⟨_, hown, fun _ h => absurd h (Nat.not_lt_zero _)⟩; have HB : Hid (Below w.heap.size w w1) := (Below.refl _ w).grown hg (Nat.le_refl _) (fun _ h => by cases h); clear hown hg)
  go_loopw [4] (fun i wr => ∃ k : Nat, k ≤ len ∧ i = .int .i64 k ∧ Part wr w.heap.size len k zs ∧ Below w.heap.size w wr) (fun i _ => len - (intOf i).toNat)
  case atStart => exact ⟨0, Nat.zero_le _, rfl, HP.out, HB.out⟩
  case round =>
    obtain ⟨k, hk, rfl, hpart, hbel⟩ := hrel
    clear HP HB
    by_cases hlt : k < len
    · have hold : wr.cell? (x.add k) = some (.int .u8 (zs.getD k 0)) := by
        have h0 := HC.out k (by have := HZ.out; omega)
        exact (hbel.cell (World.block_lt_of_cell? w _ h0)).trans h0
      obtain ⟨v, hv⟩ := part_cell hpart k hlt
      have hfz := part_frozen hpart k
      have HS : Hid (Part (wr.setCell ⟨w.heap.size, k, none⟩ (.int .u8 (zs.getD k 0))) w.heap.size len (k + 1) zs) := part_step hpart hlt
      have HB : Hid (Below w.heap.size w (wr.setCell ⟨w.heap.size, k, none⟩ (.int .u8 (zs.getD k 0)))) := hbel.setCell (p := ⟨w.heap.size, k, none⟩) (Nat.le_refl _) _
      clear hpart hbel
      go_wp2
      go_roundw
      case rel => exact ⟨k + 1, by omega, by go_num, by rw [← List.getD_eq_getElem?_getD]; exact HS.out, by rw [← List.getD_eq_getElem?_getD]; exact HB.out⟩
      case measure => simp [intOf]; omega
    · have hke : k = len := by omega
      subst hke
      have HD : Hid (wr.ownsRow w.heap.size 5 1 (.slice (some ⟨w.heap.size, 0, none⟩) k k) k (elems k zs)) := part_done hpart (by have := HZ.out; omega)
      clear hpart
      go_wp2
      go_ret
      exact ⟨rfl, HD.out, hbel⟩

/-- zzClone: nil for nil; else a new row with the same bytes. -/
theorem clone_any (a : Option Addr) (len cap : Nat) (zs : List Int) (w : World) (hr : IsRow w a len cap zs) (hlen : (len : Int) ≤ 1048576) :
    Calls Ectg.prog 6 #[.slice a len cap] w fun e w' => ∃ ao c, e = .returned (.slice ao len c) ∧ w'.ownsRow w.heap.size 5 1 (.slice ao len c) len (elems len zs) ∧ Below w.heap.size w w' := by
  rcases hr with ⟨rfl, rfl, rfl, rfl⟩ | ⟨x, rfl, hlc, hz, hcell, _⟩
  · refine (clone_nil w).mono ?_
    rintro e w' ⟨rfl, rfl⟩
    exact ⟨none, 0, rfl, World.ownsRow_nil _ _ _ _, Below.refl _ _⟩
  · refine (clone_row x len cap zs w hlc hlen hz hcell).mono ?_
    rintro e w' ⟨rfl, ho, hb⟩
    exact ⟨_, _, rfl, ho, hb⟩

/-! ### The bound on lengths -/

theorem bytes2_yes (a b : Option Addr) (n m ca cb : Nat) (w : World) (h : (n : Int) + (m : Int) ≤ 1048576) :
    Calls Ectg.prog 5 #[.slice a n ca, .slice b m cb] w fun e w' => e = .returned (.bool true) ∧ w = w' := by
  go_enter Ectg.func5, Ectg.ntmps5
  go_wp2
  go_ret
  exact ⟨rfl, rfl⟩

theorem bytes2_no (a b : Option Addr) (n m ca cb : Nat) (w : World) (h : 1048576 < (n : Int) + (m : Int)) :
    Calls Ectg.prog 5 #[.slice a n ca, .slice b m cb] w fun e w' => e = .returned (.bool false) ∧ w = w' := by
  go_enter Ectg.func5, Ectg.ntmps5
  go_wp2
  all_goals
    go_ret
    exact ⟨rfl, rfl⟩

theorem bytes1_yes (a : Option Addr) (n ca : Nat) (w : World) (h : (n : Int) ≤ 1048576) :
    Calls Ectg.prog 10 #[.slice a n ca] w fun e w' => e = .returned (.bool true) ∧ w = w' := by
  go_enter Ectg.func10, Ectg.ntmps10
  go_wp2
  go_ret
  exact ⟨rfl, rfl⟩

theorem bytes1_no (a : Option Addr) (n ca : Nat) (w : World) (h : 1048576 < (n : Int)) :
    Calls Ectg.prog 10 #[.slice a n ca] w fun e w' => e = .returned (.bool false) ∧ w = w' := by
  go_enter Ectg.func10, Ectg.ntmps10
  go_wp2
  go_ret
  exact ⟨rfl, rfl⟩
end Go.Proofs.YoectwDoor
