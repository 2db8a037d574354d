/-
  The printer's state, and the contracts of clearFlags (18), init (14) and ZZnewPrinter (7).
-/
import Derived.Test.YoectwDoorProg
import Derived.Test.YoectwDoorLaws
import Derived.WalkKit
import Derived.WalkSpells
import Derived.WalkLawsBesides
import Derived.Deep.MidRow
import Derived.Deep.QuietTactic
import Derived.BigQuiet
import Derived.Deep.RegionWith
namespace Go.Proofs.YoectwDoor
open Go Go.RowKit

/-- The twelve flags, all off. -/
def offs : List Value := [.bool false, .bool false, .bool false, .bool false, .bool false, .bool false, .bool false, .bool false, .bool false, .bool false, .bool false, .bool false]

theorem info41 : (Ectg.prog.info? 41).map (·.size) = some offs.toArray.size := by kernel_rfl

theorem offs_one : offs.toArray.all (·.oneCell') = true := by kernel_rfl

set_option maxHeartbeats 400000 in
theorem clear_any (B : Nat) (w : World) (ht : w.there B 3 12) :
    Calls Ectg.prog 18 #[.pointer (some ⟨B, 2, none⟩)] w fun e w' => e = .returned (.tuple #[]) ∧ w' = w.setCells B 3 offs := by
  have H : Hid (w.there B 3 12) := ht
  clear ht
  go_enter Ectg.func18, Ectg.ntmps18
  go_wp2_with (refine wpList_store_mid rfl 41 (.tmp 5) (.tmp 3) rfl B 3 offs.toArray rfl rfl H.out info41 offs_one ?_)
  go_end0
  exact ⟨rfl, rfl⟩

set_option maxHeartbeats 400000 in
theorem init_any (B : Nat) (w : World) (ht : w.there B 2 13) :
    Calls Ectg.prog 14 #[.pointer (some ⟨B, 2, none⟩), .pointer (some ⟨B, 0, none⟩)] w fun e w' => e = .returned (.tuple #[]) ∧ w' = (w.setCell ⟨B, 2, none⟩ (.pointer (some ⟨B, 0, none⟩))).setCells B 3 offs := by
  obtain ⟨u, hu⟩ := Option.isSome_iff_exists.1 (ht 0 (by omega)).1
  have hf := (ht 0 (by omega)).2
  simp only [Nat.add_zero] at hu hf
  have H : Hid ((w.setCell ⟨B, 2, none⟩ (.pointer (some ⟨B, 0, none⟩))).there B 3 12) := by
    have h1 := World.there_setCells (w := w) (b' := B) (o' := 3) (n := 12) (fun j hj => by have := ht (j + 1) (by omega); rwa [show 2 + (j + 1) = 3 + j from by omega] at this) B 2 [.pointer (some ⟨B, 0, none⟩)]
    exact h1
  clear ht
  go_enter Ectg.func14, Ectg.ntmps14
  go_wp2_with (go_at_call 18; refine (clear_any B _ H.out).mono ?_; rintro e w' ⟨rfl, rfl⟩)
  go_end0
  exact ⟨rfl, rfl⟩

/-- THE PRINTER's STATE: the struct lies in block B; its first cell (the field 'buf') holds a slice that owns the n bytes xs, in a block behind B. -/
def Prn (w : World) (B n : Nat) (xs : List Value) : Prop := ∃ ao cap, w.cell? ⟨B, 0, none⟩ = some (.slice ao n cap) ∧ w.frozen? ⟨B, 0, none⟩ = false ∧ w.ownsRow (B + 1) 5 1 (.slice ao n cap) n xs

/-- A new printer's 88 cells, all zero. -/
def blank : Array Value := #[.slice none 0 0, .nilIface, .pointer none] ++ Array.replicate 12 (.bool false) ++ #[.int .i64 0, .int .i64 0] ++ Array.replicate 68 (.int .u8 0) ++ Array.replicate 3 (.bool false)

theorem blank_size : blank.size = 88 := by kernel_rfl
theorem blank_head : blank[0]? = some (.slice none 0 0) := by kernel_rfl

theorem run_zero46 (w : World) : (zeroValue 46).run Ectg.prog w = .ok (.agg blank) w := by kernel_rfl

theorem blank_there (w : World) : (w.alloc (.cells blank 46)).drew.there w.heap.size 2 13 := by
  intro j hj
  have hc : (w.alloc (.cells blank 46)).cell? ⟨w.heap.size, 2 + j, none⟩ = blank[2 + j]? := World.cell?_alloc_new w blank 46 (2 + j)
  have hf : (w.alloc (.cells blank 46)).frozen? ⟨w.heap.size, 2 + j, none⟩ = false := World.frozen?_alloc_new w blank 46 (2 + j)
  refine ⟨?_, hf⟩
  show ((w.alloc (.cells blank 46)).cell? ⟨w.heap.size, 2 + j, none⟩).isSome = true
  rw [hc, Array.getElem?_eq_getElem (by rw [blank_size]; omega)]
  rfl

/-- 'Below' behind a store of many cells. -/
theorem below_setCells {B b : Nat} (hb : B ≤ b) : ∀ (vs : List Value) (o : Nat) {w0 w : World}, Below B w0 w → Below B w0 (w.setCells b o vs)
  | [], _, _, _, h => h
  | v :: r, o, _, _, h => below_setCells hb r (o + 1) (h.setCell (p := ⟨b, o, none⟩) hb v)

theorem new_end (w : World) (x : Value) (w' : World) (hw : w' = ((w.alloc (.cells blank 46)).drew.setCell ⟨w.heap.size, 2, none⟩ x).setCells w.heap.size 3 offs) :
    Prn w' w.heap.size 0 [] ∧ Below w.heap.size w w' ∧ w.heap.size < w'.heap.size := by
  subst hw
  have hb : Below w.heap.size w (((w.alloc (.cells blank 46)).drew.setCell ⟨w.heap.size, 2, none⟩ x).setCells w.heap.size 3 offs) := below_setCells (Nat.le_refl _) _ _ (((((Below.refl w.heap.size w).alloc (Nat.le_refl _) (.cells blank 46))).drew).setCell (p := ⟨w.heap.size, 2, none⟩) (Nat.le_refl _) x)
  have hb2 : Below w.heap.size (w.alloc (.cells blank 46)) (((w.alloc (.cells blank 46)).drew.setCell ⟨w.heap.size, 2, none⟩ x).setCells w.heap.size 3 offs) := below_setCells (Nat.le_refl _) _ _ (((Below.refl w.heap.size (w.alloc (.cells blank 46))).drew).setCell (p := ⟨w.heap.size, 2, none⟩) (Nat.le_refl _) x)
  refine ⟨⟨none, 0, ?_, ?_, World.ownsRow_nil _ _ _ _⟩, hb, ?_⟩
  · rw [World.cell?_setCells_out _ _ _ _ _ (fun _ _ => .inl (by simp)), World.cell?_setCell_other _ _ _ _ (by simp)]
    exact (World.cell?_alloc_new w blank 46 0).trans blank_head
  · rw [World.frozen?_setCells, World.frozen?_setCell]
    exact World.frozen?_alloc_new w blank 46 0
  · have := hb2.size
    simp only [World.size_alloc] at this
    omega

set_option maxHeartbeats 400000 in
theorem new_any (w : World) :
    Calls Ectg.prog 7 #[] w fun e w' => e = .returned (.pointer (some ⟨w.heap.size, 0, none⟩)) ∧ Prn w' w.heap.size 0 [] ∧ Below w.heap.size w w' ∧ w.heap.size < w'.heap.size := by
  have hnew := run_zero46
  have H : Hid ((w.alloc (.cells blank 46)).drew.there w.heap.size 2 13) := blank_there w
  go_enter Ectg.func7, Ectg.ntmps7
  go_wp2_with fail
  go_region_with (go_at_call 14; refine (init_any w.heap.size _ H.out).mono ?_; rintro e w' ⟨rfl, hw⟩; have HW := new_end w _ w' hw; clear hw)
  all_goals
    go_wp2
    go_ret
    exact ⟨rfl, HW⟩
end Go.Proofs.YoectwDoor
