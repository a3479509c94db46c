/- Numbers by hexadecimal digits. -/
import Derived.Test.YthkinpadambpcaaGreatDoorPl
import Derived.Test.YthkinpadambpcaaGreatDoorWa
import Derived.WalkKit
import Derived.WalkSpells
import Derived.WalkLawsBesides
import Derived.Lib.Hide
import Derived.Laws.IdiomStrings
namespace Go.Proofs.YthkinpadambpcaaGreatDoor
open Go.RowKit Go.Lib

/-- The digits' room: its last j places are filled. -/
def HexBuf (B n j : Nat) (w : World) : Prop := (∀ t, t < 64 → ∃ z, w.cell? ⟨B, t, none⟩ = some (.int .u8 z)) ∧ (∀ t, t < j → w.cell? ⟨B, 63 - t, none⟩ = some (.int .u8 ((hexB (n / 16 ^ t % 16)).toNat : Int))) ∧ ∃ cs, w.heap[B]? = some (.cells cs 241 (0, 0))
theorem HexBuf.step {B n j : Nat} {w : World} (h : HexBuf B n j w) (hj : j < 64) : HexBuf B n (j + 1) (w.setCell ⟨B, 63 - j, none⟩ (.int .u8 ((hexB (n / 16 ^ j % 16)).toNat : Int))) := by
  obtain ⟨z0, hz0⟩ := h.1 (63 - j) (by omega)
  obtain ⟨cs, hcs⟩ := h.2.2
  refine ⟨fun t ht => ?_, fun t ht => ?_, _, heap_setCell_same w B (63 - j) cs 241 _ hcs⟩
  · by_cases e : t = 63 - j
    · subst e; exact ⟨_, World.cell?_setCell_same _ _ _ hz0⟩
    · obtain ⟨z, hz⟩ := h.1 t ht
      exact ⟨z, (World.cell?_setCell_other _ _ _ _ (by intro hh; injection hh with _ hh _; omega)).trans hz⟩
  · by_cases e : t = j
    · subst e; exact World.cell?_setCell_same _ _ _ hz0
    · exact (World.cell?_setCell_other _ _ _ _ (by intro hh; injection hh with _ hh _; omega)).trans (h.2.1 t (by omega))
theorem HexBuf.frozen {B n j : Nat} {w : World} (h : HexBuf B n j w) (t : Nat) : w.frozen? ⟨B, t, none⟩ = false := by
  obtain ⟨cs, hcs⟩ := h.2.2
  exact frozen_of_row w B t cs 241 hcs
/-- The digits. -/
def digs : ByteArray := ⟨#[48, 49, 50, 51, 52, 53, 54, 55, 56, 57, 97, 98, 99, 100, 101, 102, 103, 104, 105, 106, 107, 108, 109, 110, 111, 112, 113, 114, 115, 116, 117, 118, 119, 120, 121, 122]⟩
theorem digs_at (m : Nat) (hm : m < 16) (h : m < digs.size) : (digs[m]'h).toNat = (hexB m).toNat := by
  have hall : (List.range 16).all (fun m => (digs.get! m).toNat == (hexB m).toNat) = true := by decide +kernel
  have := List.all_eq_true.1 hall m (List.mem_range.2 hm)
  rw [← getE digs m h]
  simpa using this

set_option maxRecDepth 100000 in
set_option maxHeartbeats 1000000 in
theorem FormatUint_hex (n : Nat) (w : World) (h0 : 4096 ≤ n) (h1 : n < 65536) :
    Calls Tryz.prog 191 #[.int .u64 (n : Int), .int .i64 16] w fun e w' => e = .returned (.string ⟨(hex4 n).toArray⟩) ∧ Below w.heap.size w w' := by
  go_enter Tryz.func191, Tryz.ntmps191
  go_wp2_with fail
  go_loopw [0, 6] (fun x i wr => ∃ j : Nat, j ≤ 4 ∧ x = .int .u64 ((n / 16 ^ j : Nat) : Int) ∧ i = .int .i64 (64 - (j : Int)) ∧ Hid (HexBuf w.heap.size n j wr) ∧ Below w.heap.size w wr ∧ w.heap.size < wr.heap.size) (fun _ i _ => (intOf i).toNat)
  case atStart =>
    refine ⟨0, Nat.zero_le _, by simp, by simp, ⟨fun t ht => ?_, fun t ht => ?_, ?_⟩, (Below.refl _ _).alloc (Nat.le_refl _) _, by simp⟩
    · refine ⟨0, ?_⟩
      rw [World.cell?_alloc_new]
      exact (show (Array.replicate 64 (Value.int .u8 0))[t]? = some (Value.int .u8 0) by rw [Array.getElem?_replicate, if_pos ht])
    · omega
    · exact ⟨_, heap_alloc_new w _⟩
  case round =>
    obtain ⟨j, hj, rfl, rfl, HB, hB, hz⟩ := hrel
    by_cases hlt : j < 4
    · have hm : n / 16 ^ j % 16 < 16 := Nat.mod_lt _ (by omega)
      obtain ⟨z0, hz0⟩ := HB.out.1 (63 - j) (by omega)
      have hfr := HB.out.frozen (63 - j)
      have hst := Lib.hid (HB.out.step (by omega))
      have hpos : 0 < n / 16 ^ j := by
        rcases (show j = 0 ∨ j = 1 ∨ j = 2 ∨ j = 3 by omega) with rfl | rfl | rfl | rfl <;> omega
      have hlt6 : n / 16 ^ j < 65536 := Nat.lt_of_le_of_lt (Nat.div_le_self _ _) h1
      have hdv : n / 16 ^ j / 16 = n / 16 ^ (j + 1) := by rw [Nat.div_div_eq_div_mul, Nat.pow_succ]
      have HDV := Lib.hid hdv
      have HDG := Lib.hid (digs_at (n / 16 ^ j % 16) hm (Nat.lt_trans hm (by decide)))
      unfold digs at HDG
      clear hdv HB
      generalize hx : n / 16 ^ j = x at *
      have hm2 : 0 ≤ (x : Int) % 16 ∧ (x : Int) % 16 < 36 := by omega
      rcases (show j = 0 ∨ j = 1 ∨ j = 2 ∨ j = 3 by omega) with rfl | rfl | rfl | rfl
      · rw [show (64 - ((0 : Nat) : Int)) = 64 from rfl]
        go_wp2_with fail
        rw [HDG.out]
        exact ⟨⟨1, by omega, by rw [← HDV.out]; go_num, by go_num, hst.out, hB.setCell (Nat.le_refl _) _, by rw [World.size_setCell]; exact hz⟩, by decide⟩
      · rw [show (64 - ((1 : Nat) : Int)) = 63 from rfl]
        go_wp2_with fail
        rw [HDG.out]
        exact ⟨⟨2, by omega, by rw [← HDV.out]; go_num, by go_num, hst.out, hB.setCell (Nat.le_refl _) _, by rw [World.size_setCell]; exact hz⟩, by decide⟩
      · rw [show (64 - ((2 : Nat) : Int)) = 62 from rfl]
        go_wp2_with fail
        rw [HDG.out]
        exact ⟨⟨3, by omega, by rw [← HDV.out]; go_num, by go_num, hst.out, hB.setCell (Nat.le_refl _) _, by rw [World.size_setCell]; exact hz⟩, by decide⟩
      · rw [show (64 - ((3 : Nat) : Int)) = 61 from rfl]
        go_wp2_with fail
        rw [HDG.out]
        exact ⟨⟨4, by omega, by rw [← HDV.out]; go_num, by go_num, hst.out, hB.setCell (Nat.le_refl _) _, by rw [World.size_setCell]; exact hz⟩, by decide⟩
    · obtain rfl : j = 4 := by omega
      rw [show (64 - ((4 : Nat) : Int)) = 60 from rfl]
      have h0 : ((n / 16 ^ 4 : Nat) : Int) = 0 := by omega
      have hcv : (convert 86 9 (.slice (some ⟨w.heap.size, 60, none⟩) 4 4)).run Tryz.prog wr = .ok (.string ⟨(hex4 n).toArray⟩) wr := run_convert_bytes_back (P := Tryz.prog) wr 86 9 5 ⟨w.heap.size, 60, none⟩ 4 (hex4 n) Tryz.underlying86 Tryz.underlying5 Tryz.underlying9 (fun t ht => by
        have h4 : t < 4 := ht
        have hc := HB.out.2.1 (3 - t) (by omega)
        rw [show 63 - (3 - t) = 60 + t by omega] at hc
        rw [Addr.add_lit, hc]
        rcases (show t = 0 ∨ t = 1 ∨ t = 2 ∨ t = 3 by omega) with rfl | rfl | rfl | rfl
        · exact (show some (Value.int .u8 ((hexB (n / 4096 % 16)).toNat : Int)) = some (Value.int .u8 ((hexB (n / 4096)).toNat : Int)) by rw [Nat.mod_eq_of_lt (by omega)])
        · rfl
        · rfl
        · exact (show some (Value.int .u8 ((hexB (n / 1 % 16)).toNat : Int)) = some (Value.int .u8 ((hexB (n % 16)).toNat : Int)) by rw [Nat.div_one]))
      rw [h0]
      go_wp2_with fail
      go_ret
      exact ⟨rfl, hB⟩

theorem FormatInt_hex (n : Nat) (w : World) (h0 : 4096 ≤ n) (h1 : n < 65536) :
    Calls Tryz.prog 157 #[.int .i64 (n : Int), .int .i64 16] w fun e w' => e = .returned (.string ⟨(hex4 n).toArray⟩) ∧ Below w.heap.size w w' := by
  have hn : ¬ (n : Int) < 0 := by omega
  go_enter Tryz.func157, Tryz.ntmps157
  go_wp2_with fail
  refine (FormatUint_hex n w h0 h1).mono ?_
  rintro e w' ⟨rfl, hb⟩
  go_wp2_with fail
  go_ret
  exact ⟨rfl, hb⟩
theorem Hex_hex (n : Nat) (w : World) (h0 : 4096 ≤ n) (h1 : n < 65536) :
    Calls Tryz.prog 119 #[.int .i64 (n : Int)] w fun e w' => e = .returned (.string ⟨(hex4 n).toArray⟩) ∧ Below w.heap.size w w' := by
  go_enter Tryz.func119, Tryz.ntmps119
  go_wp2_with fail
  refine (FormatInt_hex n w h0 h1).mono ?_
  rintro e w' ⟨rfl, hb⟩
  go_wp2_with fail
  go_ret
  exact ⟨rfl, hb⟩
end Go.Proofs.YthkinpadambpcaaGreatDoor
