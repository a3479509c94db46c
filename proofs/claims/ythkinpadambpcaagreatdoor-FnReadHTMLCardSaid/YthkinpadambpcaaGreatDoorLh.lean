/- The law of pages: it returns true. -/
import Derived.Test.YthkinpadambpcaaGreatDoorHs
import Derived.Test.YthkinpadambpcaaGreatDoorHf
import Derived.Test.YthkinpadambpcaaGreatDoorWf
import Derived.Test.YthkinpadambpcaaGreatDoorPs
namespace Go.Proofs.YthkinpadambpcaaGreatDoor
open Go.RowKit Go.Lib

set_option maxRecDepth 100000 in
theorem nospace_text (s : ByteArray) (g c : Nat) (w : World) (hs : s.size ≤ 1000000) (hU : Utf8Tabs 1 2 w) (hc : w.cell? ⟨g, 0, none⟩ = some (.iface 9 (.string s))) (hesc : (esc (htmF bareTab false) s.data.toList).length ≤ 1000000) (hne : s.data.toList ≠ []) :
    Calls Tryz.prog 53 #[.slice (some ⟨g, 0, none⟩) 1 c] w (Gives (escB' (htmF bareTab false)) s w) := by
  have HU := Lib.hid hU
  have HE := Lib.hid hesc
  have HC := Lib.hid hc
  have hse : (s.toList == ([] : List UInt8)) = false := by
    rw [Lib.toList_data]; simpa using hne
  have hse2 : s.toList ≠ [] := by
    rw [Lib.toList_data]; exact hne
  clear hU hesc hc hne
  go_enter Tryz.func53, Tryz.ntmps53
  go_wp2_with fail
  refine (stringify_text s g c w HC.out).mono ?_
  rintro e w' ⟨rfl, rfl⟩
  go_wp2_with fail
  refine (bare_tab w).mono ?_
  rintro e w1 ⟨rfl, ht, hb, hz⟩
  go_wp2_with fail
  refine (htmlRep_false bareTab 97 w.heap.size s w1 rfl (by omega) hs (tabs_below HU.out hb (tabs_lt HU.out)) ht HE.out).mono ?_
  rintro e w2 ⟨rfl, hb2⟩
  go_wp2_with fail
  go_ret
  exact ⟨rfl, hb.trans (hb2.mono hb.size)⟩
/-- What stands for the empty text. -/
def failsafe : ByteArray := ⟨#[90, 103, 111, 116, 109, 112, 108, 90]⟩
set_option maxRecDepth 100000 in
theorem nospace_empty (g c : Nat) (w : World) (hc : w.cell? ⟨g, 0, none⟩ = some (.iface 9 (.string ⟨#[]⟩))) :
    Calls Tryz.prog 53 #[.slice (some ⟨g, 0, none⟩) 1 c] w (Gives (fun _ => failsafe) ⟨#[]⟩ w) := by
  have HC := Lib.hid hc
  clear hc
  go_enter Tryz.func53, Tryz.ntmps53
  go_wp2_with fail
  refine (stringify_text ⟨#[]⟩ g c w HC.out).mono ?_
  rintro e w' ⟨rfl, rfl⟩
  go_wp2_with fail
  go_ret
  exact ⟨rfl, Below.refl _ _⟩
theorem nmNospace_ok (s : ByteArray) (hs : s.size ≤ 1000) (hne : s.data.toList ≠ []) : EscOK nmNospace (escB' (htmF bareTab false)) s := by
  refine escape_at nmNospace 11 _ s (by decide) (by decide) (by decide +kernel) (by decide +kernel) (by omega) ?_
  intro g c w' hU hc
  have hl := esc_len (htmF bareTab false) (htmF_len bareTab false (by decide +kernel)) s.data.toList
  have hz : s.data.toList.length = s.size := by rw [Array.length_toList]; rfl
  exact ZZEscape_nospaceescaper _ s g c w' (nospace_text s g c w' (by omega) hU hc (by omega) hne)
theorem nmNospace_empty : EscOK nmNospace (fun _ => failsafe) ⟨#[]⟩ := by
  refine escape_at nmNospace 11 _ ⟨#[]⟩ (by decide) (by decide) (by decide +kernel) (by decide +kernel) (by decide) ?_
  intro g c w' _ hc
  exact ZZEscape_nospaceescaper _ ⟨#[]⟩ g c w' (nospace_empty g c w' hc)
theorem htmF_ne (tab : List (List UInt8)) (bad : Bool) : ∀ r o, htmF tab bad r = some o → o ≠ [] := by
  intro r o ho
  unfold htmF at ho
  split at ho
  · split at ho
    · rename_i hr; cases ho; exact hr
    · cases ho
  · split at ho
    · cases ho
    · split at ho
      · cases ho; simp
      · cases ho

/-- What every law gives. -/
def YesH (w : World) (e : Ending) (w' : World) : Prop := e = .returned (.bool true) ∧ Below w.heap.size w w'

set_option maxRecDepth 1000000 in
set_option maxHeartbeats 4000000 in
theorem FnReadHTML_yes (s : ByteArray) (w : World) (hU : Utf8Tabs 1 2 w) : Calls Tryz.prog 3 #[.string s] w (YesH w) := by
  have HU := Lib.hid hU
  clear hU
  go_enter Tryz.func3, Tryz.ntmps3
  go_wp2_with fail
  · go_ret
    exact ⟨rfl, Below.refl _ _⟩
  · refine (validText_any s w (by omega)).mono ?_
    rintro e w1 ⟨rfl, hb⟩
    cases hg : (clean s.data.toList && decide (s.size ≤ 1000)) with
    | false =>
      go_wp2_with fail
      refine (escapes_yes w1 (tabs_below HU.out hb (tabs_lt HU.out))).mono ?_
      rintro e w2 ⟨rfl, hb2⟩
      go_wp2_with fail
      go_ret
      exact ⟨rfl, hb.trans (hb2.mono hb.size)⟩
    | true =>
      rw [Bool.and_eq_true, decide_eq_true_eq] at hg
      cases hz : noZero s.data.toList with
      | false =>
        have HZ := Lib.hid hz
        clear hz
        go_wp2_with fail
        refine (noNul_no s w1 (by omega) HZ.out).mono ?_
        rintro e w' ⟨rfl, rfl⟩
        go_wp2_with fail
        refine (escapes_yes w1 (tabs_below HU.out hb (tabs_lt HU.out))).mono ?_
        rintro e w2 ⟨rfl, hb2⟩
        go_wp2_with fail
        go_ret
        exact ⟨rfl, hb.trans (hb2.mono hb.size)⟩
      | true =>
        have h0 : (0 : UInt8) ∉ s.data.toList := by
          intro hm
          have := List.all_eq_true.1 hz _ hm
          simp at this
        have HZ := Lib.hid hz
        clear hz
        obtain ⟨ts, h1, h2, h3⟩ := html_toks _ hg.1 h0
        have hl := esc_len (htmF htmlTab true) (htmF_len htmlTab true (by decide +kernel)) s.data.toList
        have hsz : s.data.toList.length = s.size := by rw [Array.length_toList]; rfl
        have ho : (escB' (htmF htmlTab true) s).data.toList = srcs ts := h1.symm
        have hoz : (escB' (htmF htmlTab true) s).size ≤ 1000000 := by
          have : (escB' (htmF htmlTab true) s).size = (esc (htmF htmlTab true) s.data.toList).length := by simp [escB', ByteArray.size]
          omega
        have hv : (⟨(vals ts).toArray⟩ : ByteArray) = s := by rw [h2]
        have HE1 := Lib.hid (nmHtml_ok s hg.2)
        have HE2 := Lib.hid (nmRcdata_ok s hg.2)
        have HE3 := Lib.hid (nmAttr_ok s hg.2)
        have HP1 := Lib.hid (fun at_ w => PageSaid_any _ at_ ts w hoz (by rw [h2]; omega) ho h3)
        have HN1 := Lib.hid (fun w => noneOf_yes (escB' (htmF htmlTab true) s) ⟨#[60, 62]⟩ w hoz (by decide) (html_none2 _ hg.1 h0))
        have HN2 := Lib.hid (fun w => noneOf_yes (escB' (htmF htmlTab true) s) ⟨#[60, 62, 34, 39]⟩ w hoz (by decide) (html_none _ hg.1 h0))
        rw [hv] at HP1
        clear hv ho h1 h2 h3 hl
        generalize hF1 : escB' (htmF htmlTab true) s = o1 at *
        have HF1 := Lib.hid hF1
        clear hF1
        go_wp2_with fail
        refine (noNul_yes s w1 (by omega) HZ.out).mono ?_
        rintro e w' ⟨rfl, rfl⟩
        by_cases hne : s.data.toList = []
        · have hs0 : s = ⟨#[]⟩ := by
            cases s with
            | mk d => cases d with
              | mk l => simp at hne; rw [hne]
          have hse : (s.toList == ([] : List UInt8)) = true := by
            rw [Lib.toList_data]; simpa using hne
          have hse2 : s.toList = [] := by
            rw [Lib.toList_data]; exact hne
          have HE4 : Hid (EscOK nmNospace (fun _ => failsafe) s) := by
            show EscOK _ _ _
            rw [hs0]; exact nmNospace_empty
          have hss : (s.toList == s.toList) = true := by simp
          have HN3 := Lib.hid (fun w => noneOf_yes failsafe ⟨#[60, 62, 34, 39, 61, 96, 9, 10, 11, 12, 13, 32]⟩ w (by decide) (by decide) (by decide +kernel))
          have hfs : failsafe.toList ≠ [] := by decide +kernel
          have hfs2 : (failsafe.toList == ([] : List UInt8)) = false := by decide +kernel
          obtain ⟨fs, hfse⟩ : ∃ x : ByteArray, x = failsafe := ⟨_, rfl⟩
          rw [← hfse] at HE4 HN3 hfs hfs2
          clear hfse hs0 hne h0
          go_wp2_with fail
          refine (plain_any s w1).mono ?_
          rintro e w2 ⟨rfl, hp2⟩
          have hB2 := hb.trans (hp2.mono hb.size)
          clear hp2
          go_wp2_with fail
          refine (HE1.out w2 (tabs_below HU.out hB2 (tabs_lt HU.out))).mono ?_
          rintro e w3 ⟨rfl, hp3⟩
          have hB3 := hB2.trans (hp3.mono hB2.size)
          clear hp3 hB2
          rw [HF1.out]
          go_wp2_with fail
          refine (plain_any s w3).mono ?_
          rintro e w4 ⟨rfl, hp4⟩
          have hB4 := hB3.trans (hp4.mono hB3.size)
          clear hp4
          go_wp2_with fail
          refine (HE2.out w4 (tabs_below HU.out hB4 (tabs_lt HU.out))).mono ?_
          rintro e w5 ⟨rfl, hp5⟩
          have hB5 := hB4.trans (hp5.mono hB4.size)
          clear hp5 hB4
          rw [HF1.out]
          go_wp2_with fail
          refine (plain_any s w5).mono ?_
          rintro e w6 ⟨rfl, hp6⟩
          have hB6 := hB5.trans (hp6.mono hB5.size)
          clear hp6
          go_wp2_with fail
          refine (HE3.out w6 (tabs_below HU.out hB6 (tabs_lt HU.out))).mono ?_
          rintro e w7 ⟨rfl, hp7⟩
          have hB7 := hB6.trans (hp7.mono hB6.size)
          clear hp7 hB6
          rw [HF1.out]
          go_wp2_with fail
          refine (plain_any s w7).mono ?_
          rintro e w8 ⟨rfl, hp8⟩
          have hB8 := hB7.trans (hp8.mono hB7.size)
          clear hp8
          go_wp2_with fail
          refine (HE4.out w8 (tabs_below HU.out hB8 (tabs_lt HU.out))).mono ?_
          rintro e w9 ⟨rfl, hp9⟩
          have hB9 := hB8.trans (hp9.mono hB8.size)
          clear hp9 hB8
          go_wp2_with fail
          refine (HP1.out false w9).mono ?_
          rintro e w10 ⟨rfl, hp10⟩
          have hB10 := hB9.trans (hp10.mono hB9.size)
          clear hp10
          go_wp2_with fail
          refine (HP1.out false w10).mono ?_
          rintro e w11 ⟨rfl, hp11⟩
          have hB11 := hB10.trans (hp11.mono hB10.size)
          clear hp11
          go_wp2_with fail
          refine (HP1.out true w11).mono ?_
          rintro e w12 ⟨rfl, hp12⟩
          have hB12 := hB11.trans (hp12.mono hB11.size)
          clear hp12
          go_wp2_with fail
          refine (HN1.out w12).mono ?_
          rintro e w13 ⟨rfl, hp13⟩
          have hB13 := hB12.trans (hp13.mono hB12.size)
          clear hp13
          go_wp2_with fail
          refine (HN1.out w13).mono ?_
          rintro e w14 ⟨rfl, hp14⟩
          have hB14 := hB13.trans (hp14.mono hB13.size)
          clear hp14
          go_wp2_with fail
          refine (HN2.out w14).mono ?_
          rintro e w15 ⟨rfl, hp15⟩
          have hB15 := hB14.trans (hp15.mono hB14.size)
          clear hp15
          go_wp2_with fail
          refine (HN3.out w15).mono ?_
          rintro e w16 ⟨rfl, hp16⟩
          have hB16 := hB15.trans (hp16.mono hB15.size)
          clear hp16
          go_wp2_with fail
          refine (escapes_yes w16 (tabs_below HU.out hB16 (tabs_lt HU.out))).mono ?_
          rintro e w17 ⟨rfl, hp17⟩
          go_wp2_with fail
          go_ret
          exact ⟨rfl, hB16.trans (hp17.mono hB16.size)⟩
        · have hse : (s.toList == ([] : List UInt8)) = false := by
            rw [Lib.toList_data]; simpa using hne
          have hse2 : s.toList ≠ [] := by
            rw [Lib.toList_data]; exact hne
          obtain ⟨ts, h1, h2, h3⟩ := bare_toks _ hg.1 h0
          have hl := esc_len (htmF bareTab false) (htmF_len bareTab false (by decide +kernel)) s.data.toList
          have ho : (escB' (htmF bareTab false) s).data.toList = srcs ts := h1.symm
          have hoz : (escB' (htmF bareTab false) s).size ≤ 1000000 := by
            have : (escB' (htmF bareTab false) s).size = (esc (htmF bareTab false) s.data.toList).length := by simp [escB', ByteArray.size]
            omega
          have hv : (⟨(vals ts).toArray⟩ : ByteArray) = s := by rw [h2]
          have hfs : (escB' (htmF bareTab false) s).toList ≠ [] := by
            rw [Lib.toList_data]; exact esc_ne _ (htmF_ne bareTab false) _ hne
          have HE4 := Lib.hid (nmNospace_ok s hg.2 hne)
          have HP2 := Lib.hid (fun at_ w => PageSaid_any _ at_ ts w hoz (by rw [h2]; omega) ho h3)
          have HN3 := Lib.hid (fun w => noneOf_yes (escB' (htmF bareTab false) s) ⟨#[60, 62, 34, 39, 61, 96, 9, 10, 11, 12, 13, 32]⟩ w hoz (by decide) (bare_none _ hg.1 h0))
          rw [hv] at HP2
          clear hv ho h1 h2 h3 hl hne h0
          generalize hF2 : escB' (htmF bareTab false) s = o2 at *
          have HF2 := Lib.hid hF2
          have hfs2 : (o2.toList == ([] : List UInt8)) = false := by simpa using hfs
          clear hF2
          have hss : (s.toList == s.toList) = true := by simp
          go_wp2_with fail
          refine (plain_any s w1).mono ?_
          rintro e w2 ⟨rfl, hp2⟩
          have hB2 := hb.trans (hp2.mono hb.size)
          clear hp2
          go_wp2_with fail
          refine (HE1.out w2 (tabs_below HU.out hB2 (tabs_lt HU.out))).mono ?_
          rintro e w3 ⟨rfl, hp3⟩
          have hB3 := hB2.trans (hp3.mono hB2.size)
          clear hp3 hB2
          rw [HF1.out]
          go_wp2_with fail
          refine (plain_any s w3).mono ?_
          rintro e w4 ⟨rfl, hp4⟩
          have hB4 := hB3.trans (hp4.mono hB3.size)
          clear hp4
          go_wp2_with fail
          refine (HE2.out w4 (tabs_below HU.out hB4 (tabs_lt HU.out))).mono ?_
          rintro e w5 ⟨rfl, hp5⟩
          have hB5 := hB4.trans (hp5.mono hB4.size)
          clear hp5 hB4
          rw [HF1.out]
          go_wp2_with fail
          refine (plain_any s w5).mono ?_
          rintro e w6 ⟨rfl, hp6⟩
          have hB6 := hB5.trans (hp6.mono hB5.size)
          clear hp6
          go_wp2_with fail
          refine (HE3.out w6 (tabs_below HU.out hB6 (tabs_lt HU.out))).mono ?_
          rintro e w7 ⟨rfl, hp7⟩
          have hB7 := hB6.trans (hp7.mono hB6.size)
          clear hp7 hB6
          rw [HF1.out]
          go_wp2_with fail
          refine (plain_any s w7).mono ?_
          rintro e w8 ⟨rfl, hp8⟩
          have hB8 := hB7.trans (hp8.mono hB7.size)
          clear hp8
          go_wp2_with fail
          refine (HE4.out w8 (tabs_below HU.out hB8 (tabs_lt HU.out))).mono ?_
          rintro e w9 ⟨rfl, hp9⟩
          have hB9 := hB8.trans (hp9.mono hB8.size)
          clear hp9 hB8
          rw [HF2.out]
          go_wp2_with fail
          refine (HP1.out false w9).mono ?_
          rintro e w10 ⟨rfl, hp10⟩
          have hB10 := hB9.trans (hp10.mono hB9.size)
          clear hp10
          go_wp2_with fail
          refine (HP1.out false w10).mono ?_
          rintro e w11 ⟨rfl, hp11⟩
          have hB11 := hB10.trans (hp11.mono hB10.size)
          clear hp11
          go_wp2_with fail
          refine (HP1.out true w11).mono ?_
          rintro e w12 ⟨rfl, hp12⟩
          have hB12 := hB11.trans (hp12.mono hB11.size)
          clear hp12
          go_wp2_with fail
          refine (HP2.out true w12).mono ?_
          rintro e w13 ⟨rfl, hp13⟩
          have hB13 := hB12.trans (hp13.mono hB12.size)
          clear hp13
          go_wp2_with fail
          refine (HN1.out w13).mono ?_
          rintro e w14 ⟨rfl, hp14⟩
          have hB14 := hB13.trans (hp14.mono hB13.size)
          clear hp14
          go_wp2_with fail
          refine (HN1.out w14).mono ?_
          rintro e w15 ⟨rfl, hp15⟩
          have hB15 := hB14.trans (hp15.mono hB14.size)
          clear hp15
          go_wp2_with fail
          refine (HN2.out w15).mono ?_
          rintro e w16 ⟨rfl, hp16⟩
          have hB16 := hB15.trans (hp16.mono hB15.size)
          clear hp16
          go_wp2_with fail
          refine (HN3.out w16).mono ?_
          rintro e w17 ⟨rfl, hp17⟩
          have hB17 := hB16.trans (hp17.mono hB16.size)
          clear hp17
          go_wp2_with fail
          refine (escapes_yes w17 (tabs_below HU.out hB17 (tabs_lt HU.out))).mono ?_
          rintro e w18 ⟨rfl, hp18⟩
          go_wp2_with fail
          go_ret
          exact ⟨rfl, hB17.trans (hp18.mono hB17.size)⟩
end Go.Proofs.YthkinpadambpcaaGreatDoor
