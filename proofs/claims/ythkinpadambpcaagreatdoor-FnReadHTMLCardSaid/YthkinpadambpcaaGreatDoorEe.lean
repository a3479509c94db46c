/- escape: an escaper by its name, at one text. -/
import Derived.Test.YthkinpadambpcaaGreatDoorEc
namespace Go.Proofs.YthkinpadambpcaaGreatDoor
open Go.RowKit Go.Lib
attribute [local go_sem] storeFloat

/-- The escaper of a name makes F s of s. -/
def EscOK (nm : List UInt8) (F : ByteArray → ByteArray) (s : ByteArray) : Prop :=
  ∀ w : World, Utf8Tabs 1 2 w → Calls Tryz.prog 10 #[.string ⟨nm.toArray⟩, dataOf s] w fun e w' => e = .returned (.tuple #[.string (F s), .bool true]) ∧ Below w.heap.size w w'

set_option maxRecDepth 100000 in
set_option maxHeartbeats 1000000 in
theorem escape_at (nm : List UInt8) (n : Nat) (F : ByteArray → ByteArray) (s : ByteArray) (hl : nm.length ≤ 100) (hn : n < 17) (hyes : sortedNames.getD n [] = pre ++ nm) (hno : ∀ j, j < n → sortedNames.getD j [] ≠ pre ++ nm) (hs : s.size ≤ 100000)
    (hcall : ∀ g c w', Utf8Tabs 1 2 w' → w'.cell? ⟨g, 0, none⟩ = some (.iface 9 (.string s)) → Calls Tryz.prog 26 #[.string ⟨(pre ++ nm).toArray⟩, .slice (some ⟨g, 0, none⟩) 1 c] w' (Gives F s w')) : EscOK nm F s := by
  intro w hU
  have HK := Lib.hid (fun w => kindOf_at nm n w hl hn hyes hno)
  have HE := Lib.hid (fun ga w hU hd hga => Escape_at n (pre ++ nm) F s ga w hn hyes hs hU hd hga hcall)
  have HU := Lib.hid hU
  clear hyes hno hcall hU
  unfold dataOf
  go_enter Tryz.func10, Tryz.ntmps10
  go_wp2_with fail
  refine (HK.out _).mono ?_
  rintro e w1 ⟨rfl, hb1⟩
  have hz1 := hb1.size
  simp only [World.size_alloc] at hz1
  have hbox : w1.heap[w.heap.size]? = some (.cells #[.int .i64 5, .int .i64 0, .float .f64 0, .string s, .slice none 0 0, .slice none 0 0] 30 (0, 0)) := by
    rw [hb1.block _ (by simp)]; exact heap_alloc_new w _
  have hcb : ∀ j, w1.cell? ⟨w.heap.size, j, none⟩ = (#[.int .i64 5, .int .i64 0, .float .f64 0, .string s, .slice none 0 0, .slice none 0 0] : Array Value)[j]? := fun j => cell_of_row w1 _ j _ 30 (0, 0) hbox
  have x0 := hcb 0
  have x1 := hcb 1
  have x2 := hcb 2
  have x3 := hcb 3
  have x4 := hcb 4
  have x5 := hcb 5
  simp at x0 x1 x2 x3 x4 x5
  have hB1 : Below w.heap.size w w1 := ((Below.refl _ _).alloc (Nat.le_refl _) _).trans (hb1.mono (by simp))
  clear hbox hcb hb1
  go_wp2_with fail
  have hn0 : ¬ ((n : Int) < 0) := by omega
  have hda : DataAt (w1.alloc (.cells #[.int .i64 5, .int .i64 0, .float .f64 0, .string s, .slice none 0 0, .slice none 0 0] 30)) w1.heap.size s := by
    refine ⟨?_, ?_, ?_, ?_, ?_, ?_⟩ <;> simp
  have hB2 : Below w.heap.size w (w1.alloc (.cells #[.int .i64 5, .int .i64 0, .float .f64 0, .string s, .slice none 0 0, .slice none 0 0] 30)) := hB1.alloc (by omega) _
  refine (HE.out w1.heap.size _ (tabs_below HU.out hB2 (tabs_lt HU.out)) hda (by simp)).mono ?_
  rintro e w2 ⟨rfl, hb2⟩
  go_wp2_with fail
  go_ret2
  exact ⟨rfl, hB2.trans (hb2.mono (by simp; omega))⟩
end Go.Proofs.YthkinpadambpcaaGreatDoor
