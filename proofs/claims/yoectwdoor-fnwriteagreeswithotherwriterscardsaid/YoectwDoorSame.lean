/-
  'string(b)' of an owned copy; the contract of zzSame (13); the printer's state carried on.
-/
import Derived.Test.YoectwDoorConcat
namespace Go.Proofs.YoectwDoor
open Go Go.RowKit

/-- The printer's state behind whatever leaves the older blocks alone. -/
theorem prn_below {w w' : World} {B C n : Nat} {xs : List Value} (h : Prn w B n xs) (hb : Below C w w') (hC : w.heap.size ≤ C) : Prn w' B n xs := by
  obtain ⟨ao, cap, hc, hf, ho⟩ := h
  have hlt : B < C := Nat.lt_of_lt_of_le (World.block_lt_of_cell? w _ hc) hC
  exact ⟨ao, cap, (hb.cell (p := ⟨B, 0, none⟩) hlt).trans hc, (hb.frozen (p := ⟨B, 0, none⟩) hlt).trans hf, owned_below ho hb fun k hk => Nat.lt_of_lt_of_le (ho.lt k hk).2 hC⟩

/-- THE STRING OF A COPY: it has its length; its bytes, as cells, are the copy's; and the conversion yields it. -/
theorem conv_any {n : Nat} {zs : List Int} (hz : n ≤ zs.length) (hwf : ∀ z ∈ zs, (Lit.int .u8 z).wf = true) :
    ∃ s : ByteArray, s.size = n ∧ byteCells s = elems n zs ∧
      ∀ (w : World) (base : Nat) (ao : Option Addr) (cap : Nat), w.ownsRow base 5 1 (.slice ao n cap) n (elems n zs) → (convert 22 9 (.slice ao n cap)).run Ectg.prog w = .ok (.string s) w := by
  refine ⟨strOfNums (zs.take n), ?_, ?_, ?_⟩
  · rw [strOfNums_size, List.length_take]
    omega
  · unfold byteCells elems
    rw [strOfNums_data, List.map_map]
    apply List.map_congr_left
    intro z hzm
    have hb : 0 ≤ z ∧ z ≤ 255 := by
      have := hwf z (List.mem_of_mem_take hzm)
      simp [Lit.wf, IntKind.min, IntKind.max, IntKind.signed, IntKind.bits] at this
      omega
    show Value.int .u8 ((UInt8.ofNat z.toNat).toNat : Int) = Value.int .u8 z
    congr 1
    rw [UInt8.toNat_ofNat']
    omega
  · intro w base ao cap h
    rcases h.2 with ⟨hv, h0⟩ | ⟨g, c, cur, hv, _⟩
    · have hv' : ao = none ∧ n = 0 ∧ cap = 0 := by simpa using hv
      obtain ⟨rfl, rfl, rfl⟩ := hv'
      exact run_convert_bytes_nil w 22 5 Ectg.underlying22 Ectg.underlying5 0 0 9 Ectg.underlying9
    · have hv' : ao = some ⟨g, 0, none⟩ ∧ cap = c := by simpa using hv
      obtain ⟨rfl, rfl⟩ := hv'
      refine run_convert_bytes_arg w 22 5 Ectg.underlying22 Ectg.underlying5 g 0 n cap (zs.take n) (by rw [List.length_take]; omega) ?_ 9 Ectg.underlying9
      intro i hi
      rw [Nat.zero_add, h.cellAt i (by omega), elems_get n zs hz i hi]
      simp [hi]

theorem isRow_wf {w : World} {a : Option Addr} {len cap : Nat} {zs : List Int} (h : IsRow w a len cap zs) : ∀ z ∈ zs, (Lit.int .u8 z).wf = true := by
  rcases h with ⟨_, _, _, rfl⟩ | ⟨x, _, _, _, _, h⟩
  · intro z hz
    cases hz
  · exact h

set_option maxHeartbeats 400000 in
theorem same_any (fo : Option Addr) (n fc base : Nat) (s : ByteArray) (w : World) (hn : s.size = n) (hlen : (n : Int) ≤ 1048576) (hown : w.ownsRow base 5 1 (.slice fo n fc) n (byteCells s)) :
    Calls Ectg.prog 13 #[.slice fo n fc, .string s] w fun e w' => e = .returned (.bool true) ∧ ∃ nq, w' = w.drewN nq := by
  subst hn
  have HO : Hid (w.ownsRow base 5 1 (.slice fo s.size fc) s.size (byteCells s)) := hown
  clear hown
  go_enter Ectg.func13, Ectg.ntmps13
  go_wp2
  go_loopw [5] (fun i wr => ∃ k : Nat, k ≤ s.size ∧ i = .int .i64 k ∧ ∃ nq, wr = w.drewN nq) (fun i _ => s.size - (intOf i).toNat)
  case atStart => exact ⟨0, Nat.zero_le _, rfl, 0, rfl⟩
  case round =>
    obtain ⟨k, hk, rfl, nq, rfl⟩ := hrel
    by_cases hlt : k < s.size
    · obtain ⟨g, e1, cF⟩ := own_at HO.out k hlt (.int .u8 (s[k].toNat : Int)) (by unfold byteCells; rw [List.getElem?_map, List.getElem?_eq_getElem (by simpa using hlt)]; rfl)
      clear HO
      subst e1
      go_wp2_with fail
      go_quiet (fail)
      go_wp2
      go_roundw
      case rel => exact ⟨k + 1, by omega, by go_num, _, rfl⟩
      case measure => simp [intOf]; omega
    · go_wp2
      go_ret
      exact ⟨rfl, _, rfl⟩
end Go.Proofs.YoectwDoor
