/- The names of the escapers: the map of functions, its keys collected and sorted. -/
import Derived.Test.YthkinpadambpcaaGreatDoorSh
import Derived.WalkKit
import Derived.WalkSpells
import Derived.WalkLawsBesides
import Derived.Lib.Hide
import Derived.Laws.EntriesVeiled
import Derived.Maps.Own
import Derived.Maps.RangeWalk
import Derived.Sort.KeysCollected
import Derived.Sort.OwnSorted
import Derived.Maps.AppendAt
namespace Go.Proofs.YthkinpadambpcaaGreatDoor
open Go.RowKit Go.Lib Go.Maps Go.Sort

/-- A pointer into a block of the call's own. -/
def SomePtr (w : World) (e : Ending) (w' : World) : Prop := ∃ g, e = .returned (.pointer (some ⟨g, 0, none⟩)) ∧ Below w.heap.size w w'

set_option maxRecDepth 100000 in
theorem texts_any (n : Nat) (w : World) : Calls Tryz.prog 63 #[.func (.func n) #[] #[]] w (SomePtr w) := by
  have hmf : ∀ (fn : Fn) (first cap : Array Value) (w : World), (Instr.makeFunc fn first cap).run Tryz.prog w = .ok (.func fn first cap) w := fun _ _ _ _ => rfl
  go_enter Tryz.func63, Tryz.ntmps63
  go_wp2
  go_ret
  exact ⟨_, rfl, (((Below.refl _ _).alloc (Nat.le_refl _) _).alloc (by simp) _).alloc (by simp; omega) _⟩

theorem law9 : Keyed Tryz.prog 9 := string_keyed Tryz.underlying9
/-- How an element of the map of functions reads: as nothing in particular. -/
def anyElem (_ : Value) : Option (DataW Unit × List MemPlace) := some (.lit (.bool true), [])

/-- The names of the functions of escaping, as the literal has them. -/
def namesIn : List (List UInt8) := [[95, 104, 116, 109, 108, 95, 116, 101, 109, 112, 108, 97, 116, 101, 95, 97, 116, 116, 114, 101, 115, 99, 97, 112, 101, 114],
  [95, 104, 116, 109, 108, 95, 116, 101, 109, 112, 108, 97, 116, 101, 95, 99, 111, 109, 109, 101, 110, 116, 101, 115, 99, 97, 112, 101, 114],
  [95, 104, 116, 109, 108, 95, 116, 101, 109, 112, 108, 97, 116, 101, 95, 99, 115, 115, 101, 115, 99, 97, 112, 101, 114],
  [95, 104, 116, 109, 108, 95, 116, 101, 109, 112, 108, 97, 116, 101, 95, 99, 115, 115, 118, 97, 108, 117, 101, 102, 105, 108, 116, 101, 114],
  [95, 104, 116, 109, 108, 95, 116, 101, 109, 112, 108, 97, 116, 101, 95, 104, 116, 109, 108, 110, 97, 109, 101, 102, 105, 108, 116, 101, 114],
  [95, 104, 116, 109, 108, 95, 116, 101, 109, 112, 108, 97, 116, 101, 95, 104, 116, 109, 108, 101, 115, 99, 97, 112, 101, 114],
  [95, 104, 116, 109, 108, 95, 116, 101, 109, 112, 108, 97, 116, 101, 95, 106, 115, 114, 101, 103, 101, 120, 112, 101, 115, 99, 97, 112, 101, 114],
  [95, 104, 116, 109, 108, 95, 116, 101, 109, 112, 108, 97, 116, 101, 95, 106, 115, 115, 116, 114, 101, 115, 99, 97, 112, 101, 114],
  [95, 104, 116, 109, 108, 95, 116, 101, 109, 112, 108, 97, 116, 101, 95, 106, 115, 116, 109, 112, 108, 108, 105, 116, 101, 115, 99, 97, 112, 101, 114],
  [95, 104, 116, 109, 108, 95, 116, 101, 109, 112, 108, 97, 116, 101, 95, 106, 115, 118, 97, 108, 101, 115, 99, 97, 112, 101, 114],
  [95, 104, 116, 109, 108, 95, 116, 101, 109, 112, 108, 97, 116, 101, 95, 110, 111, 115, 112, 97, 99, 101, 101, 115, 99, 97, 112, 101, 114],
  [95, 104, 116, 109, 108, 95, 116, 101, 109, 112, 108, 97, 116, 101, 95, 114, 99, 100, 97, 116, 97, 101, 115, 99, 97, 112, 101, 114],
  [95, 104, 116, 109, 108, 95, 116, 101, 109, 112, 108, 97, 116, 101, 95, 115, 114, 99, 115, 101, 116, 101, 115, 99, 97, 112, 101, 114],
  [95, 104, 116, 109, 108, 95, 116, 101, 109, 112, 108, 97, 116, 101, 95, 117, 114, 108, 101, 115, 99, 97, 112, 101, 114],
  [95, 104, 116, 109, 108, 95, 116, 101, 109, 112, 108, 97, 116, 101, 95, 117, 114, 108, 102, 105, 108, 116, 101, 114],
  [95, 104, 116, 109, 108, 95, 116, 101, 109, 112, 108, 97, 116, 101, 95, 117, 114, 108, 110, 111, 114, 109, 97, 108, 105, 122, 101, 114],
  [95, 101, 118, 97, 108, 95, 97, 114, 103, 115, 95]]
def namesD : DataW Unit := namesIn.foldl (fun D x => D.put (.string x) (.lit (.bool true))) (.map [])

theorem own_below {w w' : World} {b n : Nat} {D : DataW Unit} (h : w.ownsMap Tryz.prog 9 anyElem b n D) (hb : Below w.heap.size w w') : w'.ownsMap Tryz.prog 9 anyElem b n D :=
  h.kept (row := none) ⟨hb.os, hb.tape, hb.output, hb.size, fun k hk _ => hb.block k hk⟩ (by simp)
theorem put_own {w : World} {b n g : Nat} {D : DataW Unit} (h : w.ownsMap Tryz.prog 9 anyElem b n D) (hn : n < 100) (x : List UInt8) (hx : x.length ≤ 100) :
    ∃ w', (Instr.mapUpdate 57 (.map (some b)) (.string ⟨x.toArray⟩) (.iface 74 (.pointer (some ⟨g, 0, none⟩)))).run Tryz.prog w = .ok () w' ∧ w'.ownsMap Tryz.prog 9 anyElem b (n + 1) (D.put (.string x) (.lit (.bool true))) ∧ w.grownBy w' (some b) :=
  h.update law9 Tryz.underlying57 (by unfold maxLen; omega) (WideMaps.keyOf_string_mk (s := ⟨x.toArray⟩) Tryz.underlying9 (by show x.toArray.size ≤ _; rw [List.size_toArray]; unfold maxLen; omega)) rfl

/-- What funcMap gives. -/
def MapOut (w : World) (e : Ending) (w' : World) : Prop := e = .returned (.map (some w.heap.size)) ∧ w'.ownsMap Tryz.prog 9 anyElem w.heap.size 17 namesD ∧ Below w.heap.size w w' ∧ w.heap.size < w'.heap.size

set_option maxRecDepth 100000 in
set_option maxHeartbeats 2000000 in
theorem funcMap_any (w : World) : Calls Tryz.prog 36 #[] w (MapOut w) := by
  have hmm := @run_makeMap Tryz.prog
  go_enter Tryz.func36, Tryz.ntmps36
  go_wp2_with fail
  have hown0 := Go.World.ownsMap_made w Tryz.prog 9 anyElem
  have hB0 : Below w.heap.size w (w.alloc (.map #[] 0)) := (Below.refl _ _).alloc (Nat.le_refl _) _
  have hz0 : w.heap.size < (w.alloc (.map #[] 0)).heap.size := by simp
  refine (texts_any 43 _).mono ?_
  rintro e v1 ⟨g1, rfl, hb1⟩
  obtain ⟨w1, hrun1, hown1, hgr1⟩ := put_own (g := g1) (own_below hown0 hb1) (by omega) [95, 104, 116, 109, 108, 95, 116, 101, 109, 112, 108, 97, 116, 101, 95, 97, 116, 116, 114, 101, 115, 99, 97, 112, 101, 114] (by decide)
  have hz1 : w.heap.size < w1.heap.size := by have := hb1.size; have := hgr1.size; omega
  have hB1 : Below w.heap.size w w1 := (hB0.trans (hb1.mono (Nat.le_of_lt hz0))).grown hgr1 (by have := hb1.size; omega) (fun j hj => by cases hj; exact Nat.le_refl _)
  clear hB0 hown0 hb1 hgr1 hz0
  go_wp2_with fail
  clear hrun1
  refine (texts_any 44 _).mono ?_
  rintro e v2 ⟨g2, rfl, hb2⟩
  obtain ⟨w2, hrun2, hown2, hgr2⟩ := put_own (g := g2) (own_below hown1 hb2) (by omega) [95, 104, 116, 109, 108, 95, 116, 101, 109, 112, 108, 97, 116, 101, 95, 99, 111, 109, 109, 101, 110, 116, 101, 115, 99, 97, 112, 101, 114] (by decide)
  have hz2 : w.heap.size < w2.heap.size := by have := hb2.size; have := hgr2.size; omega
  have hB2 : Below w.heap.size w w2 := (hB1.trans (hb2.mono (Nat.le_of_lt hz1))).grown hgr2 (by have := hb2.size; omega) (fun j hj => by cases hj; exact Nat.le_refl _)
  clear hB1 hown1 hb2 hgr2 hz1
  go_wp2_with fail
  clear hrun2
  refine (texts_any 45 _).mono ?_
  rintro e v3 ⟨g3, rfl, hb3⟩
  obtain ⟨w3, hrun3, hown3, hgr3⟩ := put_own (g := g3) (own_below hown2 hb3) (by omega) [95, 104, 116, 109, 108, 95, 116, 101, 109, 112, 108, 97, 116, 101, 95, 99, 115, 115, 101, 115, 99, 97, 112, 101, 114] (by decide)
  have hz3 : w.heap.size < w3.heap.size := by have := hb3.size; have := hgr3.size; omega
  have hB3 : Below w.heap.size w w3 := (hB2.trans (hb3.mono (Nat.le_of_lt hz2))).grown hgr3 (by have := hb3.size; omega) (fun j hj => by cases hj; exact Nat.le_refl _)
  clear hB2 hown2 hb3 hgr3 hz2
  go_wp2_with fail
  clear hrun3
  refine (texts_any 46 _).mono ?_
  rintro e v4 ⟨g4, rfl, hb4⟩
  obtain ⟨w4, hrun4, hown4, hgr4⟩ := put_own (g := g4) (own_below hown3 hb4) (by omega) [95, 104, 116, 109, 108, 95, 116, 101, 109, 112, 108, 97, 116, 101, 95, 99, 115, 115, 118, 97, 108, 117, 101, 102, 105, 108, 116, 101, 114] (by decide)
  have hz4 : w.heap.size < w4.heap.size := by have := hb4.size; have := hgr4.size; omega
  have hB4 : Below w.heap.size w w4 := (hB3.trans (hb4.mono (Nat.le_of_lt hz3))).grown hgr4 (by have := hb4.size; omega) (fun j hj => by cases hj; exact Nat.le_refl _)
  clear hB3 hown3 hb4 hgr4 hz3
  go_wp2_with fail
  clear hrun4
  refine (texts_any 47 _).mono ?_
  rintro e v5 ⟨g5, rfl, hb5⟩
  obtain ⟨w5, hrun5, hown5, hgr5⟩ := put_own (g := g5) (own_below hown4 hb5) (by omega) [95, 104, 116, 109, 108, 95, 116, 101, 109, 112, 108, 97, 116, 101, 95, 104, 116, 109, 108, 110, 97, 109, 101, 102, 105, 108, 116, 101, 114] (by decide)
  have hz5 : w.heap.size < w5.heap.size := by have := hb5.size; have := hgr5.size; omega
  have hB5 : Below w.heap.size w w5 := (hB4.trans (hb5.mono (Nat.le_of_lt hz4))).grown hgr5 (by have := hb5.size; omega) (fun j hj => by cases hj; exact Nat.le_refl _)
  clear hB4 hown4 hb5 hgr5 hz4
  go_wp2_with fail
  clear hrun5
  refine (texts_any 48 _).mono ?_
  rintro e v6 ⟨g6, rfl, hb6⟩
  obtain ⟨w6, hrun6, hown6, hgr6⟩ := put_own (g := g6) (own_below hown5 hb6) (by omega) [95, 104, 116, 109, 108, 95, 116, 101, 109, 112, 108, 97, 116, 101, 95, 104, 116, 109, 108, 101, 115, 99, 97, 112, 101, 114] (by decide)
  have hz6 : w.heap.size < w6.heap.size := by have := hb6.size; have := hgr6.size; omega
  have hB6 : Below w.heap.size w w6 := (hB5.trans (hb6.mono (Nat.le_of_lt hz5))).grown hgr6 (by have := hb6.size; omega) (fun j hj => by cases hj; exact Nat.le_refl _)
  clear hB5 hown5 hb6 hgr6 hz5
  go_wp2_with fail
  clear hrun6
  refine (texts_any 49 _).mono ?_
  rintro e v7 ⟨g7, rfl, hb7⟩
  obtain ⟨w7, hrun7, hown7, hgr7⟩ := put_own (g := g7) (own_below hown6 hb7) (by omega) [95, 104, 116, 109, 108, 95, 116, 101, 109, 112, 108, 97, 116, 101, 95, 106, 115, 114, 101, 103, 101, 120, 112, 101, 115, 99, 97, 112, 101, 114] (by decide)
  have hz7 : w.heap.size < w7.heap.size := by have := hb7.size; have := hgr7.size; omega
  have hB7 : Below w.heap.size w w7 := (hB6.trans (hb7.mono (Nat.le_of_lt hz6))).grown hgr7 (by have := hb7.size; omega) (fun j hj => by cases hj; exact Nat.le_refl _)
  clear hB6 hown6 hb7 hgr7 hz6
  go_wp2_with fail
  clear hrun7
  refine (texts_any 50 _).mono ?_
  rintro e v8 ⟨g8, rfl, hb8⟩
  obtain ⟨w8, hrun8, hown8, hgr8⟩ := put_own (g := g8) (own_below hown7 hb8) (by omega) [95, 104, 116, 109, 108, 95, 116, 101, 109, 112, 108, 97, 116, 101, 95, 106, 115, 115, 116, 114, 101, 115, 99, 97, 112, 101, 114] (by decide)
  have hz8 : w.heap.size < w8.heap.size := by have := hb8.size; have := hgr8.size; omega
  have hB8 : Below w.heap.size w w8 := (hB7.trans (hb8.mono (Nat.le_of_lt hz7))).grown hgr8 (by have := hb8.size; omega) (fun j hj => by cases hj; exact Nat.le_refl _)
  clear hB7 hown7 hb8 hgr8 hz7
  go_wp2_with fail
  clear hrun8
  refine (texts_any 51 _).mono ?_
  rintro e v9 ⟨g9, rfl, hb9⟩
  obtain ⟨w9, hrun9, hown9, hgr9⟩ := put_own (g := g9) (own_below hown8 hb9) (by omega) [95, 104, 116, 109, 108, 95, 116, 101, 109, 112, 108, 97, 116, 101, 95, 106, 115, 116, 109, 112, 108, 108, 105, 116, 101, 115, 99, 97, 112, 101, 114] (by decide)
  have hz9 : w.heap.size < w9.heap.size := by have := hb9.size; have := hgr9.size; omega
  have hB9 : Below w.heap.size w w9 := (hB8.trans (hb9.mono (Nat.le_of_lt hz8))).grown hgr9 (by have := hb9.size; omega) (fun j hj => by cases hj; exact Nat.le_refl _)
  clear hB8 hown8 hb9 hgr9 hz8
  go_wp2_with fail
  clear hrun9
  refine (texts_any 52 _).mono ?_
  rintro e v10 ⟨g10, rfl, hb10⟩
  obtain ⟨w10, hrun10, hown10, hgr10⟩ := put_own (g := g10) (own_below hown9 hb10) (by omega) [95, 104, 116, 109, 108, 95, 116, 101, 109, 112, 108, 97, 116, 101, 95, 106, 115, 118, 97, 108, 101, 115, 99, 97, 112, 101, 114] (by decide)
  have hz10 : w.heap.size < w10.heap.size := by have := hb10.size; have := hgr10.size; omega
  have hB10 : Below w.heap.size w w10 := (hB9.trans (hb10.mono (Nat.le_of_lt hz9))).grown hgr10 (by have := hb10.size; omega) (fun j hj => by cases hj; exact Nat.le_refl _)
  clear hB9 hown9 hb10 hgr10 hz9
  go_wp2_with fail
  clear hrun10
  refine (texts_any 53 _).mono ?_
  rintro e v11 ⟨g11, rfl, hb11⟩
  obtain ⟨w11, hrun11, hown11, hgr11⟩ := put_own (g := g11) (own_below hown10 hb11) (by omega) [95, 104, 116, 109, 108, 95, 116, 101, 109, 112, 108, 97, 116, 101, 95, 110, 111, 115, 112, 97, 99, 101, 101, 115, 99, 97, 112, 101, 114] (by decide)
  have hz11 : w.heap.size < w11.heap.size := by have := hb11.size; have := hgr11.size; omega
  have hB11 : Below w.heap.size w w11 := (hB10.trans (hb11.mono (Nat.le_of_lt hz10))).grown hgr11 (by have := hb11.size; omega) (fun j hj => by cases hj; exact Nat.le_refl _)
  clear hB10 hown10 hb11 hgr11 hz10
  go_wp2_with fail
  clear hrun11
  refine (texts_any 54 _).mono ?_
  rintro e v12 ⟨g12, rfl, hb12⟩
  obtain ⟨w12, hrun12, hown12, hgr12⟩ := put_own (g := g12) (own_below hown11 hb12) (by omega) [95, 104, 116, 109, 108, 95, 116, 101, 109, 112, 108, 97, 116, 101, 95, 114, 99, 100, 97, 116, 97, 101, 115, 99, 97, 112, 101, 114] (by decide)
  have hz12 : w.heap.size < w12.heap.size := by have := hb12.size; have := hgr12.size; omega
  have hB12 : Below w.heap.size w w12 := (hB11.trans (hb12.mono (Nat.le_of_lt hz11))).grown hgr12 (by have := hb12.size; omega) (fun j hj => by cases hj; exact Nat.le_refl _)
  clear hB11 hown11 hb12 hgr12 hz11
  go_wp2_with fail
  clear hrun12
  refine (texts_any 55 _).mono ?_
  rintro e v13 ⟨g13, rfl, hb13⟩
  obtain ⟨w13, hrun13, hown13, hgr13⟩ := put_own (g := g13) (own_below hown12 hb13) (by omega) [95, 104, 116, 109, 108, 95, 116, 101, 109, 112, 108, 97, 116, 101, 95, 115, 114, 99, 115, 101, 116, 101, 115, 99, 97, 112, 101, 114] (by decide)
  have hz13 : w.heap.size < w13.heap.size := by have := hb13.size; have := hgr13.size; omega
  have hB13 : Below w.heap.size w w13 := (hB12.trans (hb13.mono (Nat.le_of_lt hz12))).grown hgr13 (by have := hb13.size; omega) (fun j hj => by cases hj; exact Nat.le_refl _)
  clear hB12 hown12 hb13 hgr13 hz12
  go_wp2_with fail
  clear hrun13
  refine (texts_any 56 _).mono ?_
  rintro e v14 ⟨g14, rfl, hb14⟩
  obtain ⟨w14, hrun14, hown14, hgr14⟩ := put_own (g := g14) (own_below hown13 hb14) (by omega) [95, 104, 116, 109, 108, 95, 116, 101, 109, 112, 108, 97, 116, 101, 95, 117, 114, 108, 101, 115, 99, 97, 112, 101, 114] (by decide)
  have hz14 : w.heap.size < w14.heap.size := by have := hb14.size; have := hgr14.size; omega
  have hB14 : Below w.heap.size w w14 := (hB13.trans (hb14.mono (Nat.le_of_lt hz13))).grown hgr14 (by have := hb14.size; omega) (fun j hj => by cases hj; exact Nat.le_refl _)
  clear hB13 hown13 hb14 hgr14 hz13
  go_wp2_with fail
  clear hrun14
  refine (texts_any 57 _).mono ?_
  rintro e v15 ⟨g15, rfl, hb15⟩
  obtain ⟨w15, hrun15, hown15, hgr15⟩ := put_own (g := g15) (own_below hown14 hb15) (by omega) [95, 104, 116, 109, 108, 95, 116, 101, 109, 112, 108, 97, 116, 101, 95, 117, 114, 108, 102, 105, 108, 116, 101, 114] (by decide)
  have hz15 : w.heap.size < w15.heap.size := by have := hb15.size; have := hgr15.size; omega
  have hB15 : Below w.heap.size w w15 := (hB14.trans (hb15.mono (Nat.le_of_lt hz14))).grown hgr15 (by have := hb15.size; omega) (fun j hj => by cases hj; exact Nat.le_refl _)
  clear hB14 hown14 hb15 hgr15 hz14
  go_wp2_with fail
  clear hrun15
  refine (texts_any 58 _).mono ?_
  rintro e v16 ⟨g16, rfl, hb16⟩
  obtain ⟨w16, hrun16, hown16, hgr16⟩ := put_own (g := g16) (own_below hown15 hb16) (by omega) [95, 104, 116, 109, 108, 95, 116, 101, 109, 112, 108, 97, 116, 101, 95, 117, 114, 108, 110, 111, 114, 109, 97, 108, 105, 122, 101, 114] (by decide)
  have hz16 : w.heap.size < w16.heap.size := by have := hb16.size; have := hgr16.size; omega
  have hB16 : Below w.heap.size w w16 := (hB15.trans (hb16.mono (Nat.le_of_lt hz15))).grown hgr16 (by have := hb16.size; omega) (fun j hj => by cases hj; exact Nat.le_refl _)
  clear hB15 hown15 hb16 hgr16 hz15
  go_wp2_with fail
  clear hrun16
  refine (texts_any 59 _).mono ?_
  rintro e v17 ⟨g17, rfl, hb17⟩
  obtain ⟨w17, hrun17, hown17, hgr17⟩ := put_own (g := g17) (own_below hown16 hb17) (by omega) [95, 101, 118, 97, 108, 95, 97, 114, 103, 115, 95] (by decide)
  have hz17 : w.heap.size < w17.heap.size := by have := hb17.size; have := hgr17.size; omega
  have hB17 : Below w.heap.size w w17 := (hB16.trans (hb17.mono (Nat.le_of_lt hz16))).grown hgr17 (by have := hb17.size; omega) (fun j hj => by cases hj; exact Nat.le_refl _)
  clear hB16 hown16 hb17 hgr17 hz16
  go_wp2_with fail
  clear hrun17
  go_ret
  exact ⟨rfl, hown17, hB17, hz17⟩
/-- The names, sorted. -/
def sortedNames : List (List UInt8) := [[95, 101, 118, 97, 108, 95, 97, 114, 103, 115, 95],
  [95, 104, 116, 109, 108, 95, 116, 101, 109, 112, 108, 97, 116, 101, 95, 97, 116, 116, 114, 101, 115, 99, 97, 112, 101, 114],
  [95, 104, 116, 109, 108, 95, 116, 101, 109, 112, 108, 97, 116, 101, 95, 99, 111, 109, 109, 101, 110, 116, 101, 115, 99, 97, 112, 101, 114],
  [95, 104, 116, 109, 108, 95, 116, 101, 109, 112, 108, 97, 116, 101, 95, 99, 115, 115, 101, 115, 99, 97, 112, 101, 114],
  [95, 104, 116, 109, 108, 95, 116, 101, 109, 112, 108, 97, 116, 101, 95, 99, 115, 115, 118, 97, 108, 117, 101, 102, 105, 108, 116, 101, 114],
  [95, 104, 116, 109, 108, 95, 116, 101, 109, 112, 108, 97, 116, 101, 95, 104, 116, 109, 108, 101, 115, 99, 97, 112, 101, 114],
  [95, 104, 116, 109, 108, 95, 116, 101, 109, 112, 108, 97, 116, 101, 95, 104, 116, 109, 108, 110, 97, 109, 101, 102, 105, 108, 116, 101, 114],
  [95, 104, 116, 109, 108, 95, 116, 101, 109, 112, 108, 97, 116, 101, 95, 106, 115, 114, 101, 103, 101, 120, 112, 101, 115, 99, 97, 112, 101, 114],
  [95, 104, 116, 109, 108, 95, 116, 101, 109, 112, 108, 97, 116, 101, 95, 106, 115, 115, 116, 114, 101, 115, 99, 97, 112, 101, 114],
  [95, 104, 116, 109, 108, 95, 116, 101, 109, 112, 108, 97, 116, 101, 95, 106, 115, 116, 109, 112, 108, 108, 105, 116, 101, 115, 99, 97, 112, 101, 114],
  [95, 104, 116, 109, 108, 95, 116, 101, 109, 112, 108, 97, 116, 101, 95, 106, 115, 118, 97, 108, 101, 115, 99, 97, 112, 101, 114],
  [95, 104, 116, 109, 108, 95, 116, 101, 109, 112, 108, 97, 116, 101, 95, 110, 111, 115, 112, 97, 99, 101, 101, 115, 99, 97, 112, 101, 114],
  [95, 104, 116, 109, 108, 95, 116, 101, 109, 112, 108, 97, 116, 101, 95, 114, 99, 100, 97, 116, 97, 101, 115, 99, 97, 112, 101, 114],
  [95, 104, 116, 109, 108, 95, 116, 101, 109, 112, 108, 97, 116, 101, 95, 115, 114, 99, 115, 101, 116, 101, 115, 99, 97, 112, 101, 114],
  [95, 104, 116, 109, 108, 95, 116, 101, 109, 112, 108, 97, 116, 101, 95, 117, 114, 108, 101, 115, 99, 97, 112, 101, 114],
  [95, 104, 116, 109, 108, 95, 116, 101, 109, 112, 108, 97, 116, 101, 95, 117, 114, 108, 102, 105, 108, 116, 101, 114],
  [95, 104, 116, 109, 108, 95, 116, 101, 109, 112, 108, 97, 116, 101, 95, 117, 114, 108, 110, 111, 114, 109, 97, 108, 105, 122, 101, 114]]
theorem keys_sorted : strKeys namesD = sortedNames := by decide +kernel
theorem sorted_sorted : sortedNames.mergeSort (fun x y => decide (x ≤ y)) = sortedNames :=
  List.mergeSort_of_pairwise (by decide +kernel)

/-- What ZZEscapers and its kin give. -/
def NamesOut (w : World) (e : Ending) (w' : World) : Prop :=
  ∃ g cap, e = .returned (.slice (some ⟨g, 0, none⟩) 17 cap) ∧ (∀ j, j < 17 → w'.cell? ⟨g, j, none⟩ = some (.string ⟨(sortedNames.getD j []).toArray⟩)) ∧ g < w'.heap.size ∧ w.heap.size ≤ g ∧ Below w.heap.size w w'

theorem info9 : (Tryz.prog.info? 9).map (fun i => (i.zero, i.size, i.bytes)) = some (some (.string ⟨#[]⟩), 1, 16) := by kernel_rfl

set_option maxRecDepth 100000 in
set_option maxHeartbeats 2000000 in
theorem ZZEscapers_any (w : World) : Calls Tryz.prog 22 #[] w (NamesOut w) := by
  obtain ⟨i0, hi, hz0, hz1, hz2⟩ := info_parts info9
  go_enter Tryz.func22, Tryz.ntmps22
  go_wp2_with fail
  refine (funcMap_any w).mono ?_
  rintro e w1 ⟨rfl, hown, hB1, hz⟩
  go_wp2_with (at_range; refine wpList_range_own _ rfl _ 57 rfl 9 20 law9 Tryz.underlying57 anyElem w.heap.size 17 namesD rfl hown ?_; intro w0 hrg0 hg0 hs0)
  go_frame
  clear hs0
  have hsz : Maps.size namesD = 17 := by decide +kernel
  have HSZ := Lib.hid hsz
  clear hsz
  go_loopw [1] (fun v wr => ∃ (left : Lit → Bool) (cnt : Nat) (ss : List (List UInt8)), wr.ranges Tryz.prog 9 anyElem w.heap.size w1.heap.size 17 namesD left cnt ∧ ss.length + cnt ≤ 17 ∧
      wr.ownsRow (w.heap.size + 1) 9 1 v ss.length (ss.map encStr) ∧ Collected namesD left ss ∧ RowKit.Below w.heap.size w wr ∧ w.heap.size + 1 ≤ wr.heap.size)
    (fun _ wr => wr.rangeLeft w.heap.size w1.heap.size)
  case atStart =>
    exact ⟨_, _, [], hrg0, by rw [HSZ.out]; simp, ⟨by simp, .inl ⟨rfl, rfl⟩⟩, Collected.start namesD, hB1.grown hg0 (Nat.le_of_lt hz) (fun j hj => by cases hj), by have := hg0.size; omega⟩
  case round =>
    obtain ⟨left, cnt, ss, hrg, hcs, hrow, hC, hnx, hwz⟩ := hrel
    go_wp2_with (at_next; refine wpList_next_ranges _ rfl _ rfl 9 law9 anyElem encStr id (fun key kl hk => by obtain ⟨x, hx, _⟩ := Maps.keyOf_str Tryz.underlying9 hk; exact ⟨x, hx⟩) (fun v y _ => ⟨v, rfl⟩) w.heap.size w1.heap.size 17 _ _ _ rfl hrg ?_ ?_)
    · -- nothing is left: the slice is sorted and handed back
      intro hc0 hl0
      have hperm := hC.perm hrg.owns law9 Tryz.underlying9 hl0
      rw [keys_sorted] at hperm
      have hlen : ss.length = 17 := hperm.length_eq
      have hsort : ss.mergeSort (fun x y => decide (x ≤ y)) = sortedNames := (mergeSort_of_perm hperm).trans sorted_sorted
      rcases hrow.2 with ⟨_, hn0⟩ | ⟨g, cap, cur, rfl, hbase, hb, h1, h2, h3, h4⟩
      · omega
      have hH : Holds encStr wr g 0 ss.toArray := holds_of_block hb (by simpa using h4)
      have hgl : g < wr.heap.size := (Array.getElem?_eq_some_iff.1 hb).1
      have hc := Tryz.slices_Sort_string g 0 cap ss wr hH hgl (by omega)
      have HL := Lib.hid hlen
      have HS := Lib.hid hsort
      clear hlen hsort hperm
      go_wp2_with (go_at_call 37; refine hc.mono ?_; rintro e w' ⟨rfl, nn, os, rfl⟩)
      go_ret
      have hown := ownsRow_sorted (w := wr) (base := w.heap.size + 1) (n := nn) (os := os) (ts := ss.mergeSort (fun x y => decide (x ≤ y))) (by simp) hbase hb h1 h2 h3
      have hgs : wr.heap.size ≤ _ := (grownBy_sorted (w := wr) (g := g) (n := nn) (os := os) (ss.mergeSort (fun x y => decide (x ≤ y))).toArray).size
      refine ⟨g, cap, by rw [← HL.out]; rfl, fun j hj => ?_, Nat.lt_of_lt_of_le hgl hgs, by omega, hnx.grown (grownBy_sorted _) hnx.size (fun j hj => by cases hj; omega)⟩
      have hj' : j < sortedNames.length := hj
      rw [hown.cellAt j (by have := HL.out; omega), HS.out]
      simp [encStr, List.getD_eq_getElem?_getD, List.getElem?_eq_getElem hj']
    · intro x c kl yd yp w2 cnt2 hkey hlk hv hat hrg2 hlt hg2 hs2 hen
      obtain ⟨x', ex, rfl, hxl⟩ := Maps.keyOf_str Tryz.underlying9 hkey
      obtain rfl : x = x' := encStr_inj ex
      have hrow2 := hrow.kept hg2 (Or.inr (row_ne_iter hrow hrg).symm)
      have hgs2 := hg2.size
      have hat2 : ∀ zd, namesD.atKey (.string x) zd = yd := hat
      have HAT := Lib.hid hat2
      have HLK := Lib.hid hlk
      clear hs2 hat hat2 ex hv hlk
      go_wp2_with (at_builtin; refine wpList_append_own _ rfl _ _ 28 rfl (w.heap.size + 1) 9 i0 (.string ⟨#[]⟩) 1 16 Tryz.underlying28 hi hz0 hz1 hz2 rfl (by decide) _ _ _ rfl (hrow2.alloc _) ⟨w2.heap.size, 0, none⟩ 1 1 [encStr x] rfl rfl (cell_one_new _ _ _) (by simp [Value.oneCell', encStr]) (by unfold maxLen at *; omega) (by omega) (by simp; omega) ?_; intro v' w3 hown' hg3 hnil3; go_frame)
      have hrg3 := (hrg2.alloc _).kept hg3 (row_ne_low hrow2 (Nat.lt_succ_self _)) (row_ne_iter hrow2 hrg2)
      go_roundw
      case rel =>
        refine ⟨_, cnt2, ss ++ [x], hrg3, by simp; omega, by simpa using hown', hC.step HLK.out HAT.out, ?_, ?_⟩
        · exact ((hnx.grown hg2 hnx.size (fun j hj => by cases hj; omega)).alloc (by have := hnx.size; omega) _).grown hg3 (by have := hnx.size; simp; omega) (fun j hj => by have := (hrow2.lt j hj).1; omega)
        · have := hg3.size; simp at this; omega
      case measure => rw [hrg3.left_eq, hrg.left_eq]; exact hlt
end Go.Proofs.YthkinpadambpcaaGreatDoor
