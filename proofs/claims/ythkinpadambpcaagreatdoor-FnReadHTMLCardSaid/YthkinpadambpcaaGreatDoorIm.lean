/- The thin package's doors at one text: plain, plainly, fit. -/
import Derived.Test.YthkinpadambpcaaGreatDoorProg
import Derived.WalkKit
import Derived.WalkSpells
import Derived.WalkLawsBesides
import Derived.Lib.Hide
import Derived.Deep.QuietTactic
import Derived.BigQuiet
namespace Go.Proofs.YthkinpadambpcaaGreatDoor
open Go.RowKit Go.Lib

theorem storeFloat (P : Program) (w : World) (a : Addr) (m : Mode) (k : FloatKind) (b : Nat) : (store a (.float k b) m).run P w = stored P w a (.float k b) m := run_store P w a _ m rfl
attribute [local go_sem] storeFloat

/-- A text as data. -/
def dataOf (s : ByteArray) : Value := .agg #[.int .i64 5, .int .i64 0, .float .f64 0, .string s, .slice none 0 0, .slice none 0 0]

set_option maxRecDepth 100000 in
theorem plain_any (s : ByteArray) (w : World) : Calls Tryz.prog 11 #[.string s] w fun e w' => e = .returned (dataOf s) ∧ Below w.heap.size w w' := by
  go_enter Tryz.func11, Tryz.ntmps11
  go_wp2
  refine bodyPost_ret (v := dataOf s) (by simp [results, Tryz.results11, go_sem, dataOf]) rfl ⟨rfl, ?_⟩
  exact (Below.refl _ _).alloc (Nat.le_refl _) _
set_option maxRecDepth 100000 in
theorem plainly_text (s : ByteArray) (w : World) : Calls Tryz.prog 24 #[dataOf s] w fun e w' => e = .returned (.iface 9 (.string s)) ∧ Below w.heap.size w w' := by
  unfold dataOf
  go_enter Tryz.func24, Tryz.ntmps24
  go_wp2
  go_ret
  exact ⟨rfl, (Below.refl _ _).alloc (Nat.le_refl _) _⟩

theorem bits_zero (w : World) : (callFunc 38 #[.float .f64 0]).run Tryz.prog w = .ok (.value (.int .u64 0)) w := by kernel_rfl
set_option maxRecDepth 100000 in
set_option maxHeartbeats 1000000 in
theorem fit_text (s : ByteArray) (b : Nat) (L : Int) (w : World) (hs : s.size ≤ 1000000) (hL : 1 + (s.size : Int) ≤ L) (hL2 : L ≤ 2000000) (hc : w.cell? ⟨b, 0, none⟩ = some (.int .i64 L)) (hf : w.frozen? ⟨b, 0, none⟩ = false) :
    Calls Tryz.prog 23 #[dataOf s, .int .i64 0, .pointer (some ⟨b, 0, none⟩)] w fun e w' => e = .returned (.bool true) ∧ Below w.heap.size (w.setCell ⟨b, 0, none⟩ (.int .i64 (L - (1 + s.size)))) w' := by
  have hb : b < w.heap.size := by
    rcases Nat.lt_or_ge b w.heap.size with h' | h'
    · exact h'
    · simp [World.cell?, Array.getElem?_eq_none h'] at hc
  have hcA : ∀ o, (w.alloc o).cell? ⟨b, 0, none⟩ = some (.int .i64 L) := fun o => (World.cell?_of_block (w := w) (a := ⟨b, 0, none⟩) (Below.heap_alloc w o b hb)).trans hc
  have hfA : ∀ o, (w.alloc o).frozen? ⟨b, 0, none⟩ = false := fun o => (World.frozen?_of_block (w := w) (a := ⟨b, 0, none⟩) (Below.heap_alloc w o b hb)).trans hf
  have hcB : ∀ o, ((w.setCell ⟨b, 0, none⟩ (.int .i64 (L - (1 + s.size)))).alloc o).cell? ⟨b, 0, none⟩ = some (.int .i64 (L - (1 + s.size))) := fun o =>
    (World.cell?_of_block (w := w.setCell ⟨b, 0, none⟩ (.int .i64 (L - (1 + s.size)))) (a := ⟨b, 0, none⟩) (Below.heap_alloc _ o b (by simpa [World.setCell] using hb))).trans (World.cell?_setCell_same _ _ _ hc)
  have hM : 0 ≤ L - (1 + (s.size : Int)) := by omega
  have hd : decide (L - (1 + (s.size : Int)) < 0) = false := by simp; omega
  have hbits := fun w => bits_zero w
  unfold dataOf
  go_enter Tryz.func23, Tryz.ntmps23
  simp only [List.cons_append, List.nil_append, List.append_eq]
  go_wp2_with fail
  go_region
  go_wp2_with fail
  refine wp_loop_rounds 1 ?_
  rw [rounds_succ]
  go_wp2_with fail
  go_quiet (fail)
  go_wp2_with fail
  refine wp_loop_rounds 1 ?_
  rw [rounds_succ]
  go_wp2_with fail
  go_ret
  refine ⟨rfl, ?_⟩
  exact below_drewN ((Below.refl _ _).alloc (by simp) _) _
end Go.Proofs.YthkinpadambpcaaGreatDoor
