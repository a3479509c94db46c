/- The escapers of scripts at one text. -/
import Derived.Test.YthkinpadambpcaaGreatDoorRe
namespace Go.Proofs.YthkinpadambpcaaGreatDoor
open Go.RowKit Go.Lib

theorem assert_text (s : ByteArray) (w : World) : (Instr.typeAssert (.iface 9 (.string s)) 20 9 true).run Tryz.prog w = .ok (.tuple #[.string s, .bool true]) w := by
  simp [Instr.typeAssert, run_underlying Tryz.underlying9]
set_option maxRecDepth 100000 in
theorem stringify_text (s : ByteArray) (g c : Nat) (w : World) (hc : w.cell? ⟨g, 0, none⟩ = some (.iface 9 (.string s))) :
    Calls Tryz.prog 67 #[.slice (some ⟨g, 0, none⟩) 1 c] w fun e w' => e = .returned (.tuple #[.string s, .int .u8 0]) ∧ w = w' := by
  have hta := fun w => assert_text s w
  go_enter Tryz.func67, Tryz.ntmps67
  go_wp2_with fail
  go_ret2
  exact ⟨rfl, rfl⟩

/-- What an escaper of one text gives. -/
def Gives (f : ByteArray → ByteArray) (s : ByteArray) (w : World) (e : Ending) (w' : World) : Prop := e = .returned (.string (f s)) ∧ Below w.heap.size w w'
def escB' (f : Nat → Option (List UInt8)) (s : ByteArray) : ByteArray := ⟨(esc f s.data.toList).toArray⟩

theorem jsStr_text (s : ByteArray) (g c : Nat) (w : World) (hs : s.size ≤ 1000000) (hU : Utf8Tabs 1 2 w) (hc : w.cell? ⟨g, 0, none⟩ = some (.iface 9 (.string s))) (hesc : (esc (repF strTab) s.data.toList).length ≤ 1000000) :
    Calls Tryz.prog 50 #[.slice (some ⟨g, 0, none⟩) 1 c] w (Gives (escB' (repF strTab)) s w) := by
  have HU := Lib.hid hU
  have HE := Lib.hid hesc
  have HC := Lib.hid hc
  clear hU hesc hc
  go_enter Tryz.func50, Tryz.ntmps50
  go_wp2_with fail
  refine (stringify_text s g c w HC.out).mono ?_
  rintro e w' ⟨rfl, rfl⟩
  go_wp2_with fail
  refine (str_tab w).mono ?_
  rintro e w1 ⟨rfl, ht, hb, hz⟩
  go_wp2_with fail
  refine (replace_any strTab 97 w.heap.size s w1 rfl (by omega) hs (tabs_below HU.out hb (tabs_lt HU.out)) ht HE.out).mono ?_
  rintro e w2 ⟨rfl, hb2⟩
  go_wp2_with fail
  go_ret
  exact ⟨rfl, hb.trans (hb2.mono hb.size)⟩
theorem jsTmpl_text (s : ByteArray) (g c : Nat) (w : World) (hs : s.size ≤ 1000000) (hU : Utf8Tabs 1 2 w) (hc : w.cell? ⟨g, 0, none⟩ = some (.iface 9 (.string s))) (hesc : (esc (repF bqTab) s.data.toList).length ≤ 1000000) :
    Calls Tryz.prog 51 #[.slice (some ⟨g, 0, none⟩) 1 c] w (Gives (escB' (repF bqTab)) s w) := by
  have HU := Lib.hid hU
  have HE := Lib.hid hesc
  have HC := Lib.hid hc
  clear hU hesc hc
  go_enter Tryz.func51, Tryz.ntmps51
  go_wp2_with fail
  refine (stringify_text s g c w HC.out).mono ?_
  rintro e w' ⟨rfl, rfl⟩
  go_wp2_with fail
  refine (bq_tab w).mono ?_
  rintro e w1 ⟨rfl, ht, hb, hz⟩
  go_wp2_with fail
  refine (replace_any bqTab 126 w.heap.size s w1 rfl (by omega) hs (tabs_below HU.out hb (tabs_lt HU.out)) ht HE.out).mono ?_
  rintro e w2 ⟨rfl, hb2⟩
  go_wp2_with fail
  go_ret
  exact ⟨rfl, hb.trans (hb2.mono hb.size)⟩
theorem jsReg_text (s : ByteArray) (g c : Nat) (w : World) (hs : s.size ≤ 1000000) (hU : Utf8Tabs 1 2 w) (hc : w.cell? ⟨g, 0, none⟩ = some (.iface 9 (.string s))) (hesc : (esc (repF regTab) s.data.toList).length ≤ 1000000)
    (hne : esc (repF regTab) s.data.toList ≠ []) :
    Calls Tryz.prog 49 #[.slice (some ⟨g, 0, none⟩) 1 c] w (Gives (escB' (repF regTab)) s w) := by
  have HU := Lib.hid hU
  have HE := Lib.hid hesc
  have HC := Lib.hid hc
  have hl : (escB' (repF regTab) s).toList.isEmpty = false := by
    rw [Lib.toList_data]
    show (esc (repF regTab) s.data.toList).isEmpty = false
    simpa using hne
  have hl2 : (escB' (repF regTab) s).toList ≠ [] := by
    intro h0; rw [h0] at hl; cases hl
  clear hU hesc hc hne
  go_enter Tryz.func49, Tryz.ntmps49
  go_wp2_with fail
  refine (stringify_text s g c w HC.out).mono ?_
  rintro e w' ⟨rfl, rfl⟩
  go_wp2_with fail
  refine (reg_tab w).mono ?_
  rintro e w1 ⟨rfl, ht, hb, hz⟩
  go_wp2_with fail
  have hr : Calls Tryz.prog 85 #[.string s, .slice (some ⟨w.heap.size, 0, none⟩) 126 126] w1 (Gives (escB' (repF regTab)) s w1) := replace_any regTab 126 w.heap.size s w1 rfl (by omega) hs (tabs_below HU.out hb (tabs_lt HU.out)) ht HE.out
  refine hr.mono ?_
  rintro e w2 ⟨rfl, hb2⟩
  clear hr
  go_wp2_with fail
  go_ret
  exact ⟨rfl, hb.trans (hb2.mono hb.size)⟩
end Go.Proofs.YthkinpadambpcaaGreatDoor
