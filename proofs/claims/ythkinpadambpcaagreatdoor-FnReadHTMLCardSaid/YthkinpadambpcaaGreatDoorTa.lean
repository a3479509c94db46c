/- The tables of replacements: each call lays its table in a new block. -/
import Derived.Test.YthkinpadambpcaaGreatDoorProg
import Derived.Test.YthkinpadambpcaaGreatDoorPl
import Derived.WalkKit
import Derived.WalkSpells
import Derived.WalkLawsBesides
import Derived.Lib.Hide
namespace Go.Proofs.YthkinpadambpcaaGreatDoor
open Go.RowKit Go.Lib

/-- A table as cells. -/
def tabCells (t : List (List UInt8)) : Array Value := (t.map fun l => Value.string ⟨l.toArray⟩).toArray

/-- Block g holds a table. -/
def TabAt (w : World) (g : Nat) (t : List (List UInt8)) : Prop := w.heap[g]? = some (.cells (tabCells t) 9 (0, 0))
theorem TabAt.lt {w : World} {g : Nat} {t : List (List UInt8)} (h : TabAt w g t) : g < w.heap.size := (Array.getElem?_eq_some_iff.1 h).1
theorem TabAt.below {w w' : World} {B g : Nat} {t : List (List UInt8)} (h : TabAt w g t) (hb : Below B w w') (hg : g < B) : TabAt w' g t := (hb.block g hg).trans h
theorem TabAt.cell {w : World} {g : Nat} {t : List (List UInt8)} (h : TabAt w g t) (r : Nat) (hr : r < t.length) : w.cell? ⟨g, r, none⟩ = some (.string ⟨(t.getD r []).toArray⟩) := by
  have h0 : w.cell? ⟨g, r, none⟩ = (tabCells t)[r]? := cell_of_row w g r (tabCells t) 9 (0, 0) h
  rw [h0]
  simp [tabCells, List.getD_eq_getElem?_getD, List.getElem?_eq_getElem hr]
theorem TabAt.new (w : World) (t : List (List UInt8)) : TabAt (w.alloc (.cells (tabCells t) 9)) w.heap.size t := heap_alloc_new w _

/-- What each table's function does. -/
def TabOut (n : Nat) (t : List (List UInt8)) (w : World) (e : Ending) (w' : World) : Prop :=
  e = .returned (.slice (some ⟨w.heap.size, 0, none⟩) n n) ∧ TabAt w' w.heap.size t ∧ Below w.heap.size w w' ∧ w'.heap.size = w.heap.size + 1
theorem tabOut_of {n : Nat} {t : List (List UInt8)} {w w' : World} {e : Ending} (h : e = .returned (.slice (some ⟨w.heap.size, 0, none⟩) n n)) (hw : w' = w.alloc (.cells (tabCells t) 9)) : TabOut n t w e w' := by
  subst hw
  exact ⟨h, TabAt.new w t, (Below.refl _ _).alloc (Nat.le_refl _) _, by simp⟩

set_option maxRecDepth 100000 in
theorem low_tab (w : World) : Calls Tryz.prog 137 #[] w (TabOut 32 lowTab w) := by
  have h : Calls Tryz.prog 137 #[] w fun e w' => e = .returned (.slice (some ⟨w.heap.size, 0, none⟩) 32 32) ∧ w' = w.alloc (.cells (tabCells lowTab) 9) := by
    go_enter Tryz.func137, Tryz.ntmps137
    go_wp2
    go_ret
    exact ⟨rfl, rfl⟩
  exact h.mono fun _ _ ⟨a, b⟩ => tabOut_of a b

set_option maxRecDepth 100000 in
theorem str_tab (w : World) : Calls Tryz.prog 88 #[] w (TabOut 97 strTab w) := by
  have h : Calls Tryz.prog 88 #[] w fun e w' => e = .returned (.slice (some ⟨w.heap.size, 0, none⟩) 97 97) ∧ w' = w.alloc (.cells (tabCells strTab) 9) := by
    go_enter Tryz.func88, Tryz.ntmps88
    go_wp2
    go_ret
    exact ⟨rfl, rfl⟩
  exact h.mono fun _ _ ⟨a, b⟩ => tabOut_of a b

set_option maxRecDepth 100000 in
theorem bq_tab (w : World) : Calls Tryz.prog 89 #[] w (TabOut 126 bqTab w) := by
  have h : Calls Tryz.prog 89 #[] w fun e w' => e = .returned (.slice (some ⟨w.heap.size, 0, none⟩) 126 126) ∧ w' = w.alloc (.cells (tabCells bqTab) 9) := by
    go_enter Tryz.func89, Tryz.ntmps89
    go_wp2
    go_ret
    exact ⟨rfl, rfl⟩
  exact h.mono fun _ _ ⟨a, b⟩ => tabOut_of a b

set_option maxRecDepth 100000 in
theorem reg_tab (w : World) : Calls Tryz.prog 86 #[] w (TabOut 126 regTab w) := by
  have h : Calls Tryz.prog 86 #[] w fun e w' => e = .returned (.slice (some ⟨w.heap.size, 0, none⟩) 126 126) ∧ w' = w.alloc (.cells (tabCells regTab) 9) := by
    go_enter Tryz.func86, Tryz.ntmps86
    go_wp2
    go_ret
    exact ⟨rfl, rfl⟩
  exact h.mono fun _ _ ⟨a, b⟩ => tabOut_of a b

set_option maxRecDepth 100000 in
theorem html_tab (w : World) : Calls Tryz.prog 71 #[] w (TabOut 63 htmlTab w) := by
  have h : Calls Tryz.prog 71 #[] w fun e w' => e = .returned (.slice (some ⟨w.heap.size, 0, none⟩) 63 63) ∧ w' = w.alloc (.cells (tabCells htmlTab) 9) := by
    go_enter Tryz.func71, Tryz.ntmps71
    go_wp2
    go_ret
    exact ⟨rfl, rfl⟩
  exact h.mono fun _ _ ⟨a, b⟩ => tabOut_of a b

set_option maxRecDepth 100000 in
theorem bare_tab (w : World) : Calls Tryz.prog 98 #[] w (TabOut 97 bareTab w) := by
  have h : Calls Tryz.prog 98 #[] w fun e w' => e = .returned (.slice (some ⟨w.heap.size, 0, none⟩) 97 97) ∧ w' = w.alloc (.cells (tabCells bareTab) 9) := by
    go_enter Tryz.func98, Tryz.ntmps98
    go_wp2
    go_ret
    exact ⟨rfl, rfl⟩
  exact h.mono fun _ _ ⟨a, b⟩ => tabOut_of a b
end Go.Proofs.YthkinpadambpcaaGreatDoor
