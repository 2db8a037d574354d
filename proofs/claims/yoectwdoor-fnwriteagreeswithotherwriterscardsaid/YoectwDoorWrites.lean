/-
  The contracts of ZZbuf (9), of fmtbuf's three writers (15, 16, 17) and of the printer's (8, 11, 12).
-/
import Derived.Test.YoectwDoorPrinter
import Derived.Deep.DeepMust
namespace Go.Proofs.YoectwDoor
open Go Go.RowKit

theorem info5 : (Ectg.prog.info? 5).map (fun i => (i.zero, i.size, i.bytes)) = some (some (.int .u8 0), 1, 1) := by kernel_rfl

/-- The printer's buffer, handed out. -/
theorem buf_any (B n : Nat) (ao : Option Addr) (cap : Nat) (w : World) (hc : w.cell? ⟨B, 0, none⟩ = some (.slice ao n cap)) :
    Calls Ectg.prog 9 #[.pointer (some ⟨B, 0, none⟩)] w fun e w' => e = .returned (.slice ao n cap) ∧ w = w' := by
  go_enter Ectg.func9, Ectg.ntmps9
  go_wp2
  go_ret
  exact ⟨rfl, rfl⟩

/-- WHAT AN append TO THE PRINTER's BUFFER LEAVES: the struct's cell as it was; the new slice's form; the state once that slice is stored back. -/
theorem write_step {B n m : Nat} {w W w1 : World} {v v' : Value} {xs ys : List Value} (hc : w.cell? ⟨B, 0, none⟩ = some v) (hf : w.frozen? ⟨B, 0, none⟩ = false) (hown : w.ownsRow (B + 1) 5 1 v n xs)
    (hW : Below w.heap.size w W) (ho : w1.ownsRow (B + 1) 5 1 v' m ys) (hg : W.grownBy w1 v.ownBlock) :
    w1.cell? ⟨B, 0, none⟩ = some v ∧ w1.frozen? ⟨B, 0, none⟩ = false ∧ ∃ ao' cap', v' = .slice ao' m cap' ∧
      Prn (w1.setCell ⟨B, 0, none⟩ (.slice ao' m cap')) B m ys ∧ Below B w (w1.setCell ⟨B, 0, none⟩ (.slice ao' m cap')) := by
  have hlt : B < w.heap.size := World.block_lt_of_cell? w _ hc
  have hrow : ∀ k, v.ownBlock = some k → B + 1 ≤ k := fun k hk => (hown.lt k hk).1
  have hold : ∀ k, k ≤ B → w1.heap[k]? = w.heap[k]? := fun k hk =>
    (hg.block k (Nat.lt_of_lt_of_le (show k < w.heap.size by omega) hW.size) (fun e => by have := hrow k e.symm; omega)).trans (hW.block k (by omega))
  have c1 : w1.cell? ⟨B, 0, none⟩ = some v := (World.cell?_of_block (w := w) (a := ⟨B, 0, none⟩) (hold B (Nat.le_refl _))).trans hc
  have f1 : w1.frozen? ⟨B, 0, none⟩ = false := (World.frozen?_of_block (w := w) (a := ⟨B, 0, none⟩) (hold B (Nat.le_refl _))).trans hf
  have hbel : Below B w w1 := ⟨hg.os.trans hW.os, hg.tape.trans hW.tape, hg.output.trans hW.output, Nat.le_trans hW.size hg.size, fun k hk => hold k (by omega)⟩
  obtain ⟨ao', cap', rfl⟩ := owned_form ho
  refine ⟨c1, f1, ao', cap', rfl, ⟨ao', cap', World.cell?_setCell_same _ _ _ c1, ?_, ownsRow_setCell_below ho (by simp) _⟩, hbel.setCell (p := ⟨B, 0, none⟩) (Nat.le_refl _) _⟩
  rw [World.frozen?_setCell]
  exact f1

theorem drewN_below (w : World) (nq : Nat) : Below w.heap.size w (w.drewN nq) := ⟨rfl, rfl, rfl, Nat.le_refl _, fun _ _ => rfl⟩

set_option maxHeartbeats 400000 in
theorem fwrite_any (B n m base : Nat) (ao : Option Addr) (cap : Nat) (w : World) (xs news : List Value) (bo : Option Addr) (bc : Nat) (hc : w.cell? ⟨B, 0, none⟩ = some (.slice ao n cap)) (hf : w.frozen? ⟨B, 0, none⟩ = false)
    (hmax : w.cell? ⟨0, 0, none⟩ = some (.int .i64 2147483647)) (hsum : (n : Int) + (m : Int) ≤ 2147483647)
    (hown : w.ownsRow (B + 1) 5 1 (.slice ao n cap) n xs) (hsrc : w.ownsRow base 5 1 (.slice bo m bc) m news) (hone : ∀ u ∈ news, u.oneCell' = true) :
    Calls Ectg.prog 15 #[.pointer (some ⟨B, 0, none⟩), .slice bo m bc] w fun e w' => e = .returned (.tuple #[]) ∧ Prn w' B (n + m) (xs ++ news) ∧ Below B w w' := by
  obtain ⟨i0, hi, hz0, hz1, hz2⟩ := info_parts info5
  have H1 : Hid (w.ownsRow (B + 1) 5 1 (.slice ao n cap) n xs) := hown
  have H2 : Hid (w.ownsRow base 5 1 (.slice bo m bc) m news) := hsrc
  have H3 : Hid (∀ u ∈ news, u.oneCell' = true) := hone
  have H4 : Hid (Ectg.prog.info? 5 = some i0) := hi
  have H5 : Hid (B + 1 ≤ w.heap.size) := World.block_lt_of_cell? w _ hc
  clear hown hsrc hone hi
  go_enter Ectg.func15, Ectg.ntmps15
  go_wp2_with fail
  go_quiet (fail)
  go_wp2_with (at_builtin; go_must (refine wpList_append_own_src _ rfl (.tmp 17) (.tmp 18) 36 22 rfl (B + 1) 5 i0 (.int .u8 0) 1 1 Ectg.underlying36 H4.out hz0 hz1 hz2 rfl (.slice ao n cap) n xs rfl H1.out (.slice bo m bc) m news rfl (Src.ofOwned Ectg.underlying22 H2.out H3.out) (by unfold maxLen; omega) (by omega) H5.out ?_); intro v' w1 ho hg; obtain ⟨c1, f1, ao', cap', hv', HE⟩ := write_step hc hf H1.out (drewN_below w _) ho hg; rw [hv']; clear ho hg hc hf)
  go_end0
  exact ⟨rfl, HE⟩

set_option maxHeartbeats 400000 in
theorem fwriteS_any (B n : Nat) (ao : Option Addr) (cap : Nat) (w : World) (xs : List Value) (s : ByteArray) (hc : w.cell? ⟨B, 0, none⟩ = some (.slice ao n cap)) (hf : w.frozen? ⟨B, 0, none⟩ = false)
    (hmax : w.cell? ⟨0, 0, none⟩ = some (.int .i64 2147483647)) (hsum : (n : Int) + (s.size : Int) ≤ 2147483647)
    (hown : w.ownsRow (B + 1) 5 1 (.slice ao n cap) n xs) :
    Calls Ectg.prog 16 #[.pointer (some ⟨B, 0, none⟩), .string s] w fun e w' => e = .returned (.tuple #[]) ∧ Prn w' B (n + s.size) (xs ++ byteCells s) ∧ Below B w w' := by
  obtain ⟨i0, hi, hz0, hz1, hz2⟩ := info_parts info5
  have H1 : Hid (w.ownsRow (B + 1) 5 1 (.slice ao n cap) n xs) := hown
  have H4 : Hid (Ectg.prog.info? 5 = some i0) := hi
  have H5 : Hid (B + 1 ≤ w.heap.size) := World.block_lt_of_cell? w _ hc
  clear hown hi
  go_enter Ectg.func16, Ectg.ntmps16
  go_wp2_with fail
  go_quiet (fail)
  go_wp2_with (at_builtin; go_must (refine wpList_append_own_src _ rfl (.tmp 17) (.tmp 18) 36 9 rfl (B + 1) 5 i0 (.int .u8 0) 1 1 Ectg.underlying36 H4.out hz0 hz1 hz2 rfl (.slice ao n cap) n xs rfl H1.out (.string s) s.size (byteCells s) rfl (Src.ofString _ Ectg.underlying9 s) (by unfold maxLen; omega) (by omega) H5.out ?_); intro v' w1 ho hg; obtain ⟨c1, f1, ao', cap', hv', HE⟩ := write_step hc hf H1.out (drewN_below w _) ho hg; rw [hv']; clear ho hg hc hf)
  go_end0
  exact ⟨rfl, HE⟩

/-- The one byte that 'append(b, c)' lays ahead of itself, as a source. -/
theorem byte_src (w : World) (c : Int) (nq : Nat) : Src Ectg.prog 1 36 (.slice (some ⟨w.heap.size, 0, none⟩) 1 1) 1 [.int .u8 c] ((w.drewN nq).alloc (.cells #[.int .u8 c] 5)) :=
  Src.ofSlice _ Ectg.underlying36 ⟨w.heap.size, 0, none⟩ 1 1 [.int .u8 c] rfl
    (fun j u hj => by
      match j, hj with
      | 0, hj =>
        have hu : Value.int .u8 c = u := by simpa using hj
        subst hu
        exact World.cell?_alloc_new (w.drewN nq) #[.int .u8 c] 5 0
      | (j + 1), hj => simp at hj)
    (fun u hu => by
      have hu' : u = Value.int .u8 c := by simpa using hu
      subst hu'
      rfl)

set_option maxHeartbeats 400000 in
theorem fwriteB_any (B n : Nat) (ao : Option Addr) (cap : Nat) (w : World) (xs : List Value) (c : Int) (hc : w.cell? ⟨B, 0, none⟩ = some (.slice ao n cap)) (hf : w.frozen? ⟨B, 0, none⟩ = false)
    (hmax : w.cell? ⟨0, 0, none⟩ = some (.int .i64 2147483647)) (hsum : (n : Int) < 2147483647)
    (hown : w.ownsRow (B + 1) 5 1 (.slice ao n cap) n xs) :
    Calls Ectg.prog 17 #[.pointer (some ⟨B, 0, none⟩), .int .u8 c] w fun e w' => e = .returned (.tuple #[]) ∧ Prn w' B (n + 1) (xs ++ [.int .u8 c]) ∧ Below B w w' := by
  obtain ⟨i0, hi, hz0, hz1, hz2⟩ := info_parts info5
  have hlt : B + 1 ≤ w.heap.size := World.block_lt_of_cell? w _ hc
  have H0 : Hid (w.ownsRow (B + 1) 5 1 (.slice ao n cap) n xs) := hown
  have H1 : Hid (∀ nq, ((w.drewN nq).alloc (.cells #[.int .u8 c] 5)).ownsRow (B + 1) 5 1 (.slice ao n cap) n xs) := fun nq => World.ownsRow.alloc (w := w.drewN nq) hown _
  have H2 : Hid (∀ nq, Below w.heap.size w ((w.drewN nq).alloc (.cells #[.int .u8 c] 5))) := fun nq => (drewN_below w nq).alloc (Nat.le_refl _) _
  have H4 : Hid (Ectg.prog.info? 5 = some i0) := hi
  have H5 : Hid (∀ nq, B + 1 ≤ ((w.drewN nq).alloc (.cells #[.int .u8 c] 5)).heap.size) := fun nq => Nat.le_trans hlt (H2 nq).size
  have hge : decide ((2147483647 : Int) ≤ (n : Int)) = false := by simp; omega
  clear hown hi hlt
  go_enter Ectg.func17, Ectg.ntmps17
  go_wp2_with fail
  go_quiet (fail)
  go_wp2_with (at_builtin; go_must (refine wpList_append_own_src _ rfl (.tmp 14) (.tmp 16) 36 36 rfl (B + 1) 5 i0 (.int .u8 0) 1 1 Ectg.underlying36 H4.out hz0 hz1 hz2 rfl (.slice ao n cap) n xs rfl (H1.out _) (.slice (some ⟨w.heap.size, 0, none⟩) 1 1) 1 [.int .u8 c] rfl (byte_src w c _) (by unfold maxLen; omega) (by omega) (H5.out _) ?_); intro v' w1 ho hg; obtain ⟨c1, f1, ao', cap', hv', HE⟩ := write_step hc hf H0.out (H2.out _) ho hg; rw [hv']; clear ho hg hc hf)
  go_end0
  exact ⟨rfl, HE⟩

/-! ### The printer's three writers -/

set_option maxHeartbeats 400000 in
theorem write_any (B n m base : Nat) (w : World) (xs news : List Value) (bo : Option Addr) (bc : Nat) (hp : Prn w B n xs)
    (hmax : w.cell? ⟨0, 0, none⟩ = some (.int .i64 2147483647)) (hsum : (n : Int) + (m : Int) ≤ 2147483647)
    (hsrc : w.ownsRow base 5 1 (.slice bo m bc) m news) (hone : ∀ u ∈ news, u.oneCell' = true) :
    Calls Ectg.prog 8 #[.pointer (some ⟨B, 0, none⟩), .slice bo m bc] w fun e w' => e = .returned (.tuple #[.int .i64 m, .nilIface]) ∧ Prn w' B (n + m) (xs ++ news) ∧ Below B w w' := by
  obtain ⟨ao, cap, hc, hf, hown⟩ := hp
  have H := fwrite_any B n m base ao cap w xs news bo bc hc hf hmax hsum hown hsrc hone
  have HH : Hid (Calls Ectg.prog 15 #[.pointer (some ⟨B, 0, none⟩), .slice bo m bc] w fun e w' => e = .returned (.tuple #[]) ∧ Prn w' B (n + m) (xs ++ news) ∧ Below B w w') := H
  clear H hown hsrc hone hmax hc hf
  go_enter Ectg.func8, Ectg.ntmps8
  go_wp2_with (go_at_call 15; refine HH.out.mono ?_; rintro e w' ⟨rfl, HE⟩)
  go_ret2
  exact ⟨rfl, HE⟩

set_option maxHeartbeats 400000 in
theorem writeS_any (B n : Nat) (w : World) (xs : List Value) (s : ByteArray) (hp : Prn w B n xs)
    (hmax : w.cell? ⟨0, 0, none⟩ = some (.int .i64 2147483647)) (hsum : (n : Int) + (s.size : Int) ≤ 2147483647) :
    Calls Ectg.prog 11 #[.pointer (some ⟨B, 0, none⟩), .string s] w fun e w' => e = .returned (.tuple #[.int .i64 s.size, .nilIface]) ∧ Prn w' B (n + s.size) (xs ++ byteCells s) ∧ Below B w w' := by
  obtain ⟨ao, cap, hc, hf, hown⟩ := hp
  have H := fwriteS_any B n ao cap w xs s hc hf hmax hsum hown
  have HH : Hid (Calls Ectg.prog 16 #[.pointer (some ⟨B, 0, none⟩), .string s] w fun e w' => e = .returned (.tuple #[]) ∧ Prn w' B (n + s.size) (xs ++ byteCells s) ∧ Below B w w') := H
  clear H hown hmax hc hf
  go_enter Ectg.func11, Ectg.ntmps11
  go_wp2_with (go_at_call 16; refine HH.out.mono ?_; rintro e w' ⟨rfl, HE⟩)
  go_ret2
  exact ⟨rfl, HE⟩

set_option maxHeartbeats 400000 in
theorem writeB_any (B n : Nat) (w : World) (xs : List Value) (c : Int) (hp : Prn w B n xs)
    (hmax : w.cell? ⟨0, 0, none⟩ = some (.int .i64 2147483647)) (hsum : (n : Int) < 2147483647) :
    Calls Ectg.prog 12 #[.pointer (some ⟨B, 0, none⟩), .int .u8 c] w fun e w' => e = .returned (.tuple #[.int .i64 1, .nilIface]) ∧ Prn w' B (n + 1) (xs ++ [.int .u8 c]) ∧ Below B w w' := by
  obtain ⟨ao, cap, hc, hf, hown⟩ := hp
  have H := fwriteB_any B n ao cap w xs c hc hf hmax hsum hown
  have HH : Hid (Calls Ectg.prog 17 #[.pointer (some ⟨B, 0, none⟩), .int .u8 c] w fun e w' => e = .returned (.tuple #[]) ∧ Prn w' B (n + 1) (xs ++ [.int .u8 c]) ∧ Below B w w') := H
  clear H hown hmax hc hf
  go_enter Ectg.func12, Ectg.ntmps12
  go_wp2_with (go_at_call 17; refine HH.out.mono ?_; rintro e w' ⟨rfl, HE⟩)
  go_ret2
  exact ⟨rfl, HE⟩
end Go.Proofs.YoectwDoor
