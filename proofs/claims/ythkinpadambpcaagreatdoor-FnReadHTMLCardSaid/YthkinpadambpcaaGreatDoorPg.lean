/- The readers of a page's references: digits, letters, the table of names. -/
import Derived.Test.YthkinpadambpcaaGreatDoorZz
import Derived.Test.YthkinpadambpcaaGreatDoorWd
import Derived.Maps.OwnSet
namespace Go.Proofs.YthkinpadambpcaaGreatDoor
open Go.RowKit Go.Lib Go.Maps

theorem pageDigit_yes (n : Int) (w : World) (h0 : 48 ≤ n) (h1 : n ≤ 57) : Calls Tryz.prog 27 #[.int .u8 n] w fun e w' => e = .returned (.bool true) ∧ w = w' := by
  go_enter Tryz.func27, Tryz.ntmps27
  go_wp2
  go_ret
  exact ⟨rfl, rfl⟩
theorem pageDigit_no (n : Int) (w : World) (h0 : 57 < n) : Calls Tryz.prog 27 #[.int .u8 n] w fun e w' => e = .returned (.bool false) ∧ w = w' := by
  have h1 : ¬ n ≤ 57 := by omega
  have h2 : 48 ≤ n := by omega
  go_enter Tryz.func27, Tryz.ntmps27
  go_wp2
  go_ret
  exact ⟨rfl, rfl⟩
theorem pageLetter_yes (n : Int) (w : World) (h0 : 97 ≤ n) (h1 : n ≤ 122) : Calls Tryz.prog 29 #[.int .u8 n] w fun e w' => e = .returned (.bool true) ∧ w = w' := by
  go_enter Tryz.func29, Tryz.ntmps29
  go_wp2
  go_ret
  exact ⟨rfl, rfl⟩
theorem pageLetter_no (n : Int) (w : World) (h0 : n < 65) : Calls Tryz.prog 29 #[.int .u8 n] w fun e w' => e = .returned (.bool false) ∧ w = w' := by
  have h1 : ¬ 97 ≤ n := by omega
  have h2 : ¬ 65 ≤ n := by omega
  go_enter Tryz.func29, Tryz.ntmps29
  go_wp2
  go_ret
  exact ⟨rfl, rfl⟩

/-- The table of names, as the literal has it. -/
def namesP : List (List UInt8 × List UInt8) := [([97, 109, 112], [38]), ([108, 116], [60]), ([103, 116], [62]), ([113, 117, 111, 116], [34]), ([97, 112, 111, 115], [39]), ([110, 98, 115, 112], [194, 160]), ([65, 77, 80], [38]), ([76, 84], [60]), ([71, 84], [62]), ([81, 85, 79, 84], [34])]
def namesPD : DataW Unit := namesP.foldl (fun D x => D.put (.string x.1) (.lit (.string x.2))) (.map [])
theorem put_str {w : World} {b n : Nat} {D : DataW Unit} (h : w.ownsMap Tryz.prog 9 (plainElem Tryz.prog 9) b n D) (hn : n < 100) (x y : List UInt8) (hx : x.length ≤ 100) (hy : y.length ≤ 100) :
    ∃ w', (Instr.mapUpdate 50 (.map (some b)) (.string ⟨x.toArray⟩) (.string ⟨y.toArray⟩)).run Tryz.prog w = .ok () w' ∧ w'.ownsMap Tryz.prog 9 (plainElem Tryz.prog 9) b (n + 1) (D.put (.string x) (.lit (.string y))) ∧ w.grownBy w' (some b) := by
  have hy' : (⟨y.toArray⟩ : ByteArray).size ≤ maxLen := by show y.toArray.size ≤ _; rw [List.size_toArray]; unfold maxLen; omega
  exact h.update law9 Tryz.underlying50 (by unfold maxLen; omega) (WideMaps.keyOf_string_mk (s := ⟨x.toArray⟩) Tryz.underlying9 (by show x.toArray.size ≤ _; rw [List.size_toArray]; unfold maxLen; omega)) (d := .lit (.string y)) (ps := [])
    (by unfold plainElem; rw [Tryz.underlying9]; dsimp only; rw [if_pos hy'])
def NamesMap (w : World) (e : Ending) (w' : World) : Prop := e = .returned (.map (some w.heap.size)) ∧ w'.ownsMap Tryz.prog 9 (plainElem Tryz.prog 9) w.heap.size 10 namesPD ∧ Below w.heap.size w w'
set_option maxRecDepth 100000 in
set_option maxHeartbeats 1000000 in
theorem pageNames_any (w : World) : Calls Tryz.prog 30 #[] w (NamesMap w) := by
  have hmm := @run_makeMap Tryz.prog
  have o0 := Go.World.ownsMap_made (H := Unit) w Tryz.prog 9 (plainElem Tryz.prog 9)
  have b0 : Below w.heap.size w (w.alloc (.map #[] 0)) := (Below.refl _ _).alloc (Nat.le_refl _) _
  have z0 : w.heap.size < (w.alloc (.map #[] 0)).heap.size := by simp
  obtain ⟨w1, r1, o1, g1⟩ := put_str o0 (by omega) [97, 109, 112] [38] (by decide) (by decide)
  have z1 : w.heap.size < w1.heap.size := by have := g1.size; omega
  have b1 : Below w.heap.size w w1 := b0.grown g1 (Nat.le_of_lt z0) (fun j hj => by cases hj; exact Nat.le_refl _)
  clear o0 b0 z0 g1
  obtain ⟨w2, r2, o2, g2⟩ := put_str o1 (by omega) [108, 116] [60] (by decide) (by decide)
  have z2 : w.heap.size < w2.heap.size := by have := g2.size; omega
  have b2 : Below w.heap.size w w2 := b1.grown g2 (Nat.le_of_lt z1) (fun j hj => by cases hj; exact Nat.le_refl _)
  clear o1 b1 z1 g2
  obtain ⟨w3, r3, o3, g3⟩ := put_str o2 (by omega) [103, 116] [62] (by decide) (by decide)
  have z3 : w.heap.size < w3.heap.size := by have := g3.size; omega
  have b3 : Below w.heap.size w w3 := b2.grown g3 (Nat.le_of_lt z2) (fun j hj => by cases hj; exact Nat.le_refl _)
  clear o2 b2 z2 g3
  obtain ⟨w4, r4, o4, g4⟩ := put_str o3 (by omega) [113, 117, 111, 116] [34] (by decide) (by decide)
  have z4 : w.heap.size < w4.heap.size := by have := g4.size; omega
  have b4 : Below w.heap.size w w4 := b3.grown g4 (Nat.le_of_lt z3) (fun j hj => by cases hj; exact Nat.le_refl _)
  clear o3 b3 z3 g4
  obtain ⟨w5, r5, o5, g5⟩ := put_str o4 (by omega) [97, 112, 111, 115] [39] (by decide) (by decide)
  have z5 : w.heap.size < w5.heap.size := by have := g5.size; omega
  have b5 : Below w.heap.size w w5 := b4.grown g5 (Nat.le_of_lt z4) (fun j hj => by cases hj; exact Nat.le_refl _)
  clear o4 b4 z4 g5
  obtain ⟨w6, r6, o6, g6⟩ := put_str o5 (by omega) [110, 98, 115, 112] [194, 160] (by decide) (by decide)
  have z6 : w.heap.size < w6.heap.size := by have := g6.size; omega
  have b6 : Below w.heap.size w w6 := b5.grown g6 (Nat.le_of_lt z5) (fun j hj => by cases hj; exact Nat.le_refl _)
  clear o5 b5 z5 g6
  obtain ⟨w7, r7, o7, g7⟩ := put_str o6 (by omega) [65, 77, 80] [38] (by decide) (by decide)
  have z7 : w.heap.size < w7.heap.size := by have := g7.size; omega
  have b7 : Below w.heap.size w w7 := b6.grown g7 (Nat.le_of_lt z6) (fun j hj => by cases hj; exact Nat.le_refl _)
  clear o6 b6 z6 g7
  obtain ⟨w8, r8, o8, g8⟩ := put_str o7 (by omega) [76, 84] [60] (by decide) (by decide)
  have z8 : w.heap.size < w8.heap.size := by have := g8.size; omega
  have b8 : Below w.heap.size w w8 := b7.grown g8 (Nat.le_of_lt z7) (fun j hj => by cases hj; exact Nat.le_refl _)
  clear o7 b7 z7 g8
  obtain ⟨w9, r9, o9, g9⟩ := put_str o8 (by omega) [71, 84] [62] (by decide) (by decide)
  have z9 : w.heap.size < w9.heap.size := by have := g9.size; omega
  have b9 : Below w.heap.size w w9 := b8.grown g9 (Nat.le_of_lt z8) (fun j hj => by cases hj; exact Nat.le_refl _)
  clear o8 b8 z8 g9
  obtain ⟨w10, r10, o10, g10⟩ := put_str o9 (by omega) [81, 85, 79, 84] [34] (by decide) (by decide)
  have z10 : w.heap.size < w10.heap.size := by have := g10.size; omega
  have b10 : Below w.heap.size w w10 := b9.grown g10 (Nat.le_of_lt z9) (fun j hj => by cases hj; exact Nat.le_refl _)
  clear o9 b9 z9 g10
  have HO : Hid (w10.ownsMap Tryz.prog 9 (plainElem Tryz.prog 9) w.heap.size 10 namesPD) := o10
  clear o10
  go_enter Tryz.func30, Tryz.ntmps30
  go_wp2_with fail
  go_ret
  exact ⟨rfl, HO.out, b10⟩

set_option maxRecDepth 100000 in
theorem str_of_plain {v : Value} {l : List UInt8} {ps : List MemPlace} (h : plainElem (H := Unit) Tryz.prog 9 v = some (.lit (.string l), ps)) : v = .string ⟨l.toArray⟩ := by
  unfold plainElem at h
  rw [Tryz.underlying9] at h
  cases v with
  | string s =>
    dsimp only at h
    split at h
    · simp only [Option.some.injEq, Prod.mk.injEq, DataW.lit.injEq, Lit.string.injEq] at h
      rw [← h.1]
    · cases h
  | _ => simp at h

/-- The table at a name that it has. -/
theorem names_look {w' : World} {b : Nat} (h : w'.ownsMap Tryz.prog 9 (plainElem (H := Unit) Tryz.prog 9) b 10 namesPD) (nm v : List UInt8) (hnm : nm.length ≤ 100) (hh : Maps.has namesPD (.string nm) = true) (hat : namesPD.atKey (.string nm) (.lit (.string [])) = .lit (.string v)) :
    (Instr.lookup 50 (.map (some b)) (.string ⟨nm.toArray⟩) true).run Tryz.prog w' = .ok (.tuple #[.string ⟨v.toArray⟩, .bool true]) w' := by
  obtain ⟨x, ps, hrun, hx⟩ := h.look_ok law9 Tryz.underlying50 (Tryz.zeroValue9 w') (zd := .lit (.string [])) (zp := []) (by unfold plainElem; rw [Tryz.underlying9]; dsimp only; rw [if_pos (by decide)]) (WideMaps.keyOf_string_mk (s := ⟨nm.toArray⟩) Tryz.underlying9 (by show nm.toArray.size ≤ _; rw [List.size_toArray]; unfold maxLen; omega))
  have hx' : plainElem (H := Unit) Tryz.prog 9 x = some (.lit (.string v), ps) := hx.trans (congrArg (fun d => some (d, ps)) hat)
  rw [hrun, str_of_plain hx']
  have : Maps.has namesPD (.string (⟨nm.toArray⟩ : ByteArray).data.toList) = true := hh
  rw [this]
end Go.Proofs.YthkinpadambpcaaGreatDoor
