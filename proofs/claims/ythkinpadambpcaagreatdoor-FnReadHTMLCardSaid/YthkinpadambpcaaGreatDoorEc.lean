/- Escape: the door of the thin package, at one text. -/
import Derived.Test.YthkinpadambpcaaGreatDoorIm
import Derived.Test.YthkinpadambpcaaGreatDoorKi
import Derived.Test.YthkinpadambpcaaGreatDoorZe
import Derived.Defers
import Derived.Recover
import Derived.Laws.Pointers
namespace Go.Proofs.YthkinpadambpcaaGreatDoor
open Go.RowKit Go.Lib

attribute [local go_sem] storeFloat

/-- The deferred look for a panic: there is none. -/
theorem catch_idle (p q : Value) (w : World) :
    CallsD Tryz.prog 25 #[p, q] .returning w fun e u' w' => e = .returned (.tuple #[]) ∧ u' = .returning ∧ w' = w := by
  refine callsD_of_wpS Tryz.func25 rfl fun c₀ cs hu => ?_
  apply wpS_seq
  apply wpS_region
  simp [wpOpsS, go_sem, recoverD, hu, Tryz.ntmps25, Exit.thenS]
  refine wpS_cond (t := false) (by simp [Act.eval, Array.replicate]) ?_
  simp only [Bool.false_eq_true, if_false]
  refine wpS_of_wp (wp_skip ?_)
  cases c₀
  simp_all [bodyPostS, results, Tryz.results25]

/-- A text as data lies in the six cells of a block. -/
def DataAt (w : World) (g : Nat) (s : ByteArray) : Prop :=
  w.cell? ⟨g, 0, none⟩ = some (.int .i64 5) ∧ w.cell? ⟨g, 1, none⟩ = some (.int .i64 0) ∧ w.cell? ⟨g, 2, none⟩ = some (.float .f64 0) ∧ w.cell? ⟨g, 3, none⟩ = some (.string s) ∧ w.cell? ⟨g, 4, none⟩ = some (.slice none 0 0) ∧ w.cell? ⟨g, 5, none⟩ = some (.slice none 0 0)

theorem info20 : (Tryz.prog.info? 20).map (fun i => (i.zero, i.size, i.bytes)) = some (some .nilIface, 1, 16) := by kernel_rfl

set_option maxRecDepth 100000 in
set_option maxHeartbeats 2000000 in
theorem Escape_at (n : Nat) (lit : List UInt8) (F : ByteArray → ByteArray) (s : ByteArray) (ga : Nat) (w : World) (hn : n < 17) (hlit : sortedNames.getD n [] = lit) (hs : s.size ≤ 100000) (hU : Utf8Tabs 1 2 w) (hd : DataAt w ga s) (hga : ga < w.heap.size)
    (hcall : ∀ g c w', Utf8Tabs 1 2 w' → w'.cell? ⟨g, 0, none⟩ = some (.iface 9 (.string s)) → Calls Tryz.prog 26 #[.string ⟨lit.toArray⟩, .slice (some ⟨g, 0, none⟩) 1 c] w' (Gives F s w')) :
    Calls Tryz.prog 18 #[.int .i64 (n : Int), .slice (some ⟨ga, 0, none⟩) 1 1] w fun e w' => e = .returned (.tuple #[.string (F s), .bool false]) ∧ Below w.heap.size w w' := by
  have hmf : ∀ (fn : Fn) (first cap : Array Value) (w : World), (Instr.makeFunc fn first cap).run Tryz.prog w = .ok (.func fn first cap) w := fun _ _ _ _ => rfl
  have HC := Lib.hid hcall
  have HU := Lib.hid hU
  have HD := Lib.hid hd
  have HL := Lib.hid hlit
  clear hcall hU hd hlit
  go_enter_defers Tryz.func18, Tryz.ntmps18
  go_wp2_with fail
  refine (ZZEscapers_any _).mono ?_
  rintro e w1 ⟨g, cap, rfl, hc, hg, hg2, hb⟩
  have HN := Lib.hid hc
  clear hc
  go_wp2_with fail
  have hw1z : w.heap.size + 2 ≤ w1.heap.size := by have := hb.size; simp at this; omega
  have hb0 : Below w.heap.size w w1 := (((Below.refl _ _).alloc (Nat.le_refl _) _).alloc (by simp) _).trans (hb.mono (by simp; omega))
  have hgw : ga < w1.heap.size := by omega
  obtain ⟨d0, d1, d2, d3, d4, d5⟩ : DataAt w1 ga s := by
    obtain ⟨d0, d1, d2, d3, d4, d5⟩ := HD.out
    have hcl : ∀ j, w1.cell? ⟨ga, j, none⟩ = w.cell? ⟨ga, j, none⟩ := fun j => hb0.cell (p := ⟨ga, j, none⟩) hga
    exact ⟨(hcl 0).trans d0, (hcl 1).trans d1, (hcl 2).trans d2, (hcl 3).trans d3, (hcl 4).trans d4, (hcl 5).trans d5⟩
  refine wp_loop_rounds 2 ?_
  rw [rounds_succ]
  go_wp2_with fail
  have hcl : ∀ o, ((w1.alloc (.cells #[.int .i64 200000] 3)).alloc o).cell? ⟨w1.heap.size, 0, none⟩ = some (.int .i64 200000) := fun o =>
    (World.cell?_of_block (w := w1.alloc (.cells #[.int .i64 200000] 3)) (a := ⟨w1.heap.size, 0, none⟩) (Below.heap_alloc _ o _ (by simp))).trans (by simp)
  have hfl : ∀ o, ((w1.alloc (.cells #[.int .i64 200000] 3)).alloc o).frozen? ⟨w1.heap.size, 0, none⟩ = false := fun o =>
    (World.frozen?_of_block (w := w1.alloc (.cells #[.int .i64 200000] 3)) (a := ⟨w1.heap.size, 0, none⟩) (Below.heap_alloc _ o _ (by simp))).trans (by simp)
  refine (fit_text s w1.heap.size 200000 _ (by omega) (by omega) (by omega) (hcl _) (hfl _)).mono ?_
  rintro e w3 ⟨rfl, hb3⟩
  have hz3 : w1.heap.size + 2 ≤ w3.heap.size := by have := hb3.size; simp at this; omega
  have hk3 : ∀ k, k < w1.heap.size → w3.heap[k]? = w1.heap[k]? := fun k hk => by
    rw [hb3.block k (by simp; omega), Below.heap_setCell _ _ _ _ (by simp; omega), Below.heap_alloc _ _ _ (by simp; omega), Below.heap_alloc _ _ _ hk]
  have hB3 : Below w.heap.size w w3 := ⟨hb3.os.trans hb0.os, hb3.tape.trans hb0.tape, hb3.output.trans hb0.output, by omega, fun k hk => (hk3 k (by omega)).trans (hb0.block k hk)⟩
  have hbox : w3.heap[w1.heap.size + 1]? = some (.cells #[.int .i64 5, .int .i64 0, .float .f64 0, .string s, .slice none 0 0, .slice none 0 0] 30 (0, 0)) := by
    rw [hb3.block _ (by simp), Below.heap_setCell _ _ _ _ (by simp)]
    have := heap_alloc_new (w1.alloc (.cells #[.int .i64 200000] 3)) (.cells #[.int .i64 5, .int .i64 0, .float .f64 0, .string s, .slice none 0 0, .slice none 0 0] 30)
    simpa using this
  have hcb : ∀ j, w3.cell? ⟨w1.heap.size + 1, j, none⟩ = (#[.int .i64 5, .int .i64 0, .float .f64 0, .string s, .slice none 0 0, .slice none 0 0] : Array Value)[j]? := fun j => cell_of_row w3 _ j _ 30 (0, 0) hbox
  have x0 := hcb 0
  have x1 := hcb 1
  have x2 := hcb 2
  have x3 := hcb 3
  have x4 := hcb 4
  have x5 := hcb 5
  simp at x0 x1 x2 x3 x4 x5
  clear hbox hcb hb3 hcl hfl d0 d1 d2 d3 d4 d5
  have HK3 := Lib.hid hk3
  clear hk3
  go_wp2_with fail
  refine (plainly_text s _).mono ?_
  rintro e w4 ⟨rfl, hb4⟩
  clear x0 x1 x2 x3 x4 x5
  obtain ⟨iE, hiE, hz0, hz1, hz2⟩ := info_parts info20
  go_wp2_with (at_builtin; refine wpList_append_own _ rfl _ _ 42 rfl w.heap.size 20 iE .nilIface 1 16 Tryz.underlying42 hiE hz0 hz1 hz2 rfl (by decide) (.slice none 0 0) 0 [] rfl ⟨by simp, .inl ⟨rfl, rfl⟩⟩ ⟨w4.heap.size, 0, none⟩ 1 1 [.iface 9 (.string s)] rfl rfl (cell_one_new _ _ _) (by simp [Value.oneCell']) (by unfold maxLen; omega) (by omega) (by have := hb4.size; simp; omega) ?_; intro v5 w5 hown5 hg5 hnil5; go_frame)
  have hz4 := hb4.size
  have hz5 := hg5.size
  simp only [World.size_alloc] at hz5
  have hk5 : ∀ k, k < w1.heap.size → w5.heap[k]? = w1.heap[k]? := fun k hk => by
    rw [hg5.block k (by simp; omega) (by simp [Value.ownBlock]), Below.heap_alloc _ _ _ (by omega), hb4.block k (by omega), HK3.out k hk]
  have hB5 : Below w.heap.size w w5 := ⟨hg5.os.trans (hb4.os.trans hB3.os), hg5.tape.trans (hb4.tape.trans hB3.tape), hg5.output.trans (hb4.output.trans hB3.output), by omega, fun k hk => (hk5 k (by omega)).trans (hb0.block k hk)⟩
  obtain ⟨g5, cap5, hv5⟩ : ∃ g5 cap5, v5 = .slice (some ⟨g5, 0, none⟩) 1 cap5 := by
    rcases hown5.2 with ⟨_, h0⟩ | ⟨g', cap', _, hv, _⟩
    · omega
    · exact ⟨g', cap', hv⟩
  subst hv5
  have hc5 : w5.cell? ⟨g5, 0, none⟩ = some (.iface 9 (.string s)) := by
    rw [hown5.cellAt 0 (by omega)]; rfl
  have hcn : w5.cell? ⟨g, n, none⟩ = some (.string ⟨lit.toArray⟩) := by
    rw [← HL.out, ← HN.out n hn]
    exact World.cell?_of_block (w := w1) (a := ⟨g, n, none⟩) (hk5 g hg)
  have HC5 := Lib.hid (HC.out g5 cap5 w5 (tabs_below HU.out hB5 (tabs_lt HU.out)) hc5)
  have HK5 := Lib.hid hk5
  clear hk5 hc5 hown5 hg5 hb4 hnil5 hz0 hz1 hz2 hiE HK3
  rw [rounds_succ]
  go_wp2_with fail
  refine HC5.out.mono ?_
  rintro e w6 ⟨rfl, hb6⟩
  have hz6 := hb6.size
  have hr0 : w1.heap[w.heap.size]? = some (.cells #[.string ⟨#[]⟩] 9 (0, 0)) := by
    rw [hb.block _ (by simp; omega), Below.heap_alloc _ _ _ (by simp)]
    exact heap_alloc_new w _
  have hr1 : w1.heap[w.heap.size + 1]? = some (.cells #[.bool false] 4 (0, 0)) := by
    rw [hb.block _ (by simp)]
    have := heap_alloc_new (w.alloc (.cells #[.string ⟨#[]⟩] 9)) (.cells #[.bool false] 4)
    simpa using this
  have hs0 : w6.heap[w.heap.size]? = some (.cells #[.string ⟨#[]⟩] 9 (0, 0)) := by
    rw [hb6.block _ (by omega), HK5.out _ (by omega)]; exact hr0
  have hs1 : w6.heap[w.heap.size + 1]? = some (.cells #[.bool false] 4 (0, 0)) := by
    rw [hb6.block _ (by omega), HK5.out _ (by omega)]; exact hr1
  have y0 : w6.cell? ⟨w.heap.size, 0, none⟩ = some (.string ⟨#[]⟩) := cell_of_row w6 _ 0 _ 9 (0, 0) hs0
  have y1 : w6.cell? ⟨w.heap.size + 1, 0, none⟩ = some (.bool false) := cell_of_row w6 _ 0 _ 4 (0, 0) hs1
  have f0 : w6.frozen? ⟨w.heap.size, 0, none⟩ = false := by simp [World.frozen?, hs0]
  have f1 : w6.frozen? ⟨w.heap.size + 1, 0, none⟩ = false := by simp [World.frozen?, hs1]
  have hB6 : Below w.heap.size w w6 := hB5.trans (hb6.mono (by omega))
  clear hr0 hr1 hs0 hs1
  go_wp2_with fail
  refine leaves_cons (f := 25) (args := #[.pointer (some ⟨w.heap.size, 0, none⟩), .pointer (some ⟨w.heap.size + 1, 0, none⟩)]) (by simp) (by simp [go_sem]) ?_
  refine (catch_idle _ _ _).mono ?_
  rintro e u' w'' ⟨rfl, rfl, rfl⟩
  simp [Leaves, settle, results, Tryz.results18, go_sem, y0, y1]
  exact (hB6.setCell (by simp) _).setCell (by simp) _
end Go.Proofs.YthkinpadambpcaaGreatDoor
