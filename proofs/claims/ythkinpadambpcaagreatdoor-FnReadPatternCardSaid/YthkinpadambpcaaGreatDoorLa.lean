/- The three laws of scripts: each returns true. -/
import Derived.Test.YthkinpadambpcaaGreatDoorHs
import Derived.Test.YthkinpadambpcaaGreatDoorWe
import Derived.Test.YthkinpadambpcaaGreatDoorWf
namespace Go.Proofs.YthkinpadambpcaaGreatDoor
open Go.RowKit Go.Lib

/-- What every law gives. -/
def Yes (w : World) (e : Ending) (w' : World) : Prop := e = .returned (.bool true) ∧ Below w.heap.size w w'

set_option maxRecDepth 100000 in
theorem FnReadQuoted_yes (s : ByteArray) (w : World) (hU : Utf8Tabs 1 2 w) : Calls Tryz.prog 5 #[.string s] w (Yes w) := by
  have HU := Lib.hid hU
  clear hU
  go_enter Tryz.func5, Tryz.ntmps5
  go_wp2_with fail
  · go_ret
    exact ⟨rfl, Below.refl _ _⟩
  · refine (validText_any s w (by omega)).mono ?_
    rintro e w1 ⟨rfl, hb⟩
    cases hg : (clean s.data.toList && decide (s.size ≤ 1000)) with
    | false =>
      go_wp2_with fail
      refine (escapes_yes w1 (tabs_below HU.out hb (tabs_lt HU.out))).mono ?_
      rintro e w2 ⟨rfl, hb2⟩
      go_wp2_with fail
      go_ret
      exact ⟨rfl, hb.trans (hb2.mono hb.size)⟩
    | true =>
      rw [Bool.and_eq_true, decide_eq_true_eq] at hg
      obtain ⟨ts, h1, h2, h3⟩ := tmpl_toks _ hg.1
      have hl := esc_len (repF bqTab) (repF_len bqTab (by decide +kernel)) s.data.toList
      have hz : s.data.toList.length = s.size := by rw [Array.length_toList]; rfl
      have ho : (escB' (repF bqTab) s).data.toList = srcs ts := h1.symm
      have hoz : (escB' (repF bqTab) s).size ≤ 1000000 := by
        have : (escB' (repF bqTab) s).size = (esc (repF bqTab) s.data.toList).length := by simp [escB', ByteArray.size]
        omega
      have hv : (⟨(vals ts).toArray⟩ : ByteArray) = s := by rw [h2]
      have HE := Lib.hid (nmTmpl_ok s hg.2)
      have HJ := Lib.hid (fun w => JSTemplate_any _ ts w hoz (by rw [h2]; omega) ho h3)
      have HN := Lib.hid (fun w => noneOf_yes (escB' (repF bqTab) s) ⟨#[60, 62, 38, 39, 34, 96, 36, 123, 125, 10, 13]⟩ w hoz (by decide) (tmpl_none _ hg.1))
      rw [hv] at HJ
      clear hv ho h1 h2 h3 hl
      generalize hF : escB' (repF bqTab) s = o at *
      have HF := Lib.hid hF
      clear hF
      have hss : (s.toList == s.toList) = true := by simp
      have hb' : Below w.heap.size w w1 := hb
      go_wp2_with fail
      refine (plain_any s w1).mono ?_
      rintro e w2 ⟨rfl, hb2⟩
      have hB2 := hb.trans (hb2.mono hb.size)
      go_wp2_with fail
      refine (HE.out w2 (tabs_below HU.out hB2 (tabs_lt HU.out))).mono ?_
      rintro e w3 ⟨rfl, hb3⟩
      have hB3 := hB2.trans (hb3.mono hB2.size)
      rw [HF.out]
      go_wp2_with fail
      refine (HJ.out w3).mono ?_
      rintro e w4 ⟨rfl, rfl⟩
      go_wp2_with fail
      refine (HN.out w3).mono ?_
      rintro e w4 ⟨rfl, hb4⟩
      have hB4 := hB3.trans (hb4.mono hB3.size)
      go_wp2_with fail
      refine (escapes_yes w4 (tabs_below HU.out hB4 (tabs_lt HU.out))).mono ?_
      rintro e w5 ⟨rfl, hb5⟩
      go_wp2_with fail
      go_ret
      exact ⟨rfl, hB4.trans (hb5.mono hB4.size)⟩
set_option maxRecDepth 100000 in
theorem FnReadString_yes (s : ByteArray) (w : World) (hU : Utf8Tabs 1 2 w) : Calls Tryz.prog 6 #[.string s] w (Yes w) := by
  have HU := Lib.hid hU
  clear hU
  go_enter Tryz.func6, Tryz.ntmps6
  go_wp2_with fail
  · go_ret
    exact ⟨rfl, Below.refl _ _⟩
  · refine (validText_any s w (by omega)).mono ?_
    rintro e w1 ⟨rfl, hb⟩
    cases hg : (clean s.data.toList && decide (s.size ≤ 1000)) with
    | false =>
      go_wp2_with fail
      refine (escapes_yes w1 (tabs_below HU.out hb (tabs_lt HU.out))).mono ?_
      rintro e w2 ⟨rfl, hb2⟩
      go_wp2_with fail
      go_ret
      exact ⟨rfl, hb.trans (hb2.mono hb.size)⟩
    | true =>
      rw [Bool.and_eq_true, decide_eq_true_eq] at hg
      obtain ⟨ts, h1, h2, h3⟩ := str_toks _ hg.1
      have hl := esc_len (repF strTab) (repF_len strTab (by decide +kernel)) s.data.toList
      have hz : s.data.toList.length = s.size := by rw [Array.length_toList]; rfl
      have ho : (escB' (repF strTab) s).data.toList = srcs ts := h1.symm
      have hoz : (escB' (repF strTab) s).size ≤ 1000000 := by
        have : (escB' (repF strTab) s).size = (esc (repF strTab) s.data.toList).length := by simp [escB', ByteArray.size]
        omega
      have hv : (⟨(vals ts).toArray⟩ : ByteArray) = s := by rw [h2]
      have HE := Lib.hid (nmStr_ok s hg.2)
      have HJ := Lib.hid (fun q hq w => JSString_any _ q ts w hoz (by rw [h2]; omega) hq ho h3)
      have HN := Lib.hid (fun w => noneOf_yes (escB' (repF strTab) s) ⟨#[60, 62, 38, 39, 34, 96, 10, 13]⟩ w hoz (by decide) (str_none _ hg.1))
      rw [hv] at HJ
      clear hv ho h1 h2 h3 hl
      generalize hF : escB' (repF strTab) s = o at *
      have HF := Lib.hid hF
      clear hF
      have hss : (s.toList == s.toList) = true := by simp
      have hb' : Below w.heap.size w w1 := hb
      go_wp2_with fail
      refine (plain_any s w1).mono ?_
      rintro e w2 ⟨rfl, hb2⟩
      have hB2 := hb.trans (hb2.mono hb.size)
      go_wp2_with fail
      refine (HE.out w2 (tabs_below HU.out hB2 (tabs_lt HU.out))).mono ?_
      rintro e w3 ⟨rfl, hb3⟩
      have hB3 := hB2.trans (hb3.mono hB2.size)
      rw [HF.out]
      go_wp2_with fail
      refine (HJ.out 34 (.inl rfl) w3).mono ?_
      rintro e w4 ⟨rfl, rfl⟩
      go_wp2_with fail
      refine (HJ.out 39 (.inr rfl) w3).mono ?_
      rintro e w4 ⟨rfl, rfl⟩
      go_wp2_with fail
      refine (HN.out w3).mono ?_
      rintro e w4 ⟨rfl, hb4⟩
      have hB4 := hB3.trans (hb4.mono hB3.size)
      go_wp2_with fail
      refine (escapes_yes w4 (tabs_below HU.out hB4 (tabs_lt HU.out))).mono ?_
      rintro e w5 ⟨rfl, hb5⟩
      go_wp2_with fail
      go_ret
      exact ⟨rfl, hB4.trans (hb5.mono hB4.size)⟩
set_option maxRecDepth 100000 in
theorem FnReadPattern_yes (s : ByteArray) (w : World) (hU : Utf8Tabs 1 2 w) : Calls Tryz.prog 4 #[.string s] w (Yes w) := by
  have HU := Lib.hid hU
  clear hU
  go_enter Tryz.func4, Tryz.ntmps4
  go_wp2_with fail
  · go_ret
    exact ⟨rfl, Below.refl _ _⟩
  · refine (validText_any s w (by omega)).mono ?_
    rintro e w1 ⟨rfl, hb⟩
    cases hg : (clean s.data.toList && decide (s.size ≤ 1000)) with
    | false =>
      go_wp2_with fail
      refine (escapes_yes w1 (tabs_below HU.out hb (tabs_lt HU.out))).mono ?_
      rintro e w2 ⟨rfl, hb2⟩
      go_wp2_with fail
      go_ret
      exact ⟨rfl, hb.trans (hb2.mono hb.size)⟩
    | true =>
      by_cases hne : s.data.toList = []
      · have hs0 : s = ⟨#[]⟩ := by
          cases s with
          | mk d => cases d with
            | mk l => simp at hne; rw [hne]
        subst hs0
        go_wp2_with fail
        refine (escapes_yes w1 (tabs_below HU.out hb (tabs_lt HU.out))).mono ?_
        rintro e w2 ⟨rfl, hb2⟩
        go_wp2_with fail
        go_ret
        exact ⟨rfl, hb.trans (hb2.mono hb.size)⟩
      · have hse : (s.toList == ([] : List UInt8)) = false := by
          rw [Lib.toList_data]; simpa using hne
        have hse2 : s.toList ≠ [] := by
          rw [Lib.toList_data]; exact hne
        rw [Bool.and_eq_true, decide_eq_true_eq] at hg
        obtain ⟨ts, h1, h2, h3⟩ := reg_toks _ hg.1
        have hl := esc_len (repF regTab) (repF_len regTab (by decide +kernel)) s.data.toList
        have hz : s.data.toList.length = s.size := by rw [Array.length_toList]; rfl
        have ho : (escB' (repF regTab) s).data.toList = srcs ts := h1.symm
        have hoz : (escB' (repF regTab) s).size ≤ 1000000 := by
          have : (escB' (repF regTab) s).size = (esc (repF regTab) s.data.toList).length := by simp [escB', ByteArray.size]
          omega
        have hv : (⟨(vals ts).toArray⟩ : ByteArray) = s := by rw [h2]
        have HE := Lib.hid (nmReg_ok s hg.2 hne)
        have HJ := Lib.hid (fun w => JSRegexp_any _ ts w hoz (by rw [h2]; omega) ho h3)
        have HN := Lib.hid (fun w => noneOf_yes (escB' (repF regTab) s) ⟨#[60, 62, 38, 39, 34, 10, 13]⟩ w hoz (by decide) (reg_none _ hg.1))
        rw [hv] at HJ
        clear hv ho h1 h2 h3 hl hne
        generalize hF : escB' (repF regTab) s = o at *
        have HF := Lib.hid hF
        clear hF
        have hss : (s.toList == s.toList) = true := by simp
        have hb' : Below w.heap.size w w1 := hb
        go_wp2_with fail
        refine (plain_any s w1).mono ?_
        rintro e w2 ⟨rfl, hb2⟩
        have hB2 := hb.trans (hb2.mono hb.size)
        go_wp2_with fail
        refine (HE.out w2 (tabs_below HU.out hB2 (tabs_lt HU.out))).mono ?_
        rintro e w3 ⟨rfl, hb3⟩
        have hB3 := hB2.trans (hb3.mono hB2.size)
        rw [HF.out]
        go_wp2_with fail
        refine (HJ.out w3).mono ?_
        rintro e w4 ⟨rfl, rfl⟩
        go_wp2_with fail
        refine (HN.out w3).mono ?_
        rintro e w4 ⟨rfl, hb4⟩
        have hB4 := hB3.trans (hb4.mono hB3.size)
        go_wp2_with fail
        refine (escapes_yes w4 (tabs_below HU.out hB4 (tabs_lt HU.out))).mono ?_
        rintro e w5 ⟨rfl, hb5⟩
        go_wp2_with fail
        go_ret
        exact ⟨rfl, hB4.trans (hb5.mono hB4.size)⟩
end Go.Proofs.YthkinpadambpcaaGreatDoor
