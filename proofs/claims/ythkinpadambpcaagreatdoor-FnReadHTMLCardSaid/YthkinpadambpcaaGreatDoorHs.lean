/- The escapers of a page at one text, and every escaper by its name. -/
import Derived.Test.YthkinpadambpcaaGreatDoorHt
import Derived.Test.YthkinpadambpcaaGreatDoorEe
namespace Go.Proofs.YthkinpadambpcaaGreatDoor
open Go.RowKit Go.Lib

set_option maxRecDepth 100000 in
theorem html_text (s : ByteArray) (g c : Nat) (w : World) (hs : s.size ≤ 1000000) (hU : Utf8Tabs 1 2 w) (hc : w.cell? ⟨g, 0, none⟩ = some (.iface 9 (.string s))) (hesc : (esc (htmF htmlTab true) s.data.toList).length ≤ 1000000) :
    Calls Tryz.prog 48 #[.slice (some ⟨g, 0, none⟩) 1 c] w (Gives (escB' (htmF htmlTab true)) s w) := by
  have HU := Lib.hid hU
  have HE := Lib.hid hesc
  have HC := Lib.hid hc
  clear hU hesc hc
  go_enter Tryz.func48, Tryz.ntmps48
  go_wp2_with fail
  refine (stringify_text s g c w HC.out).mono ?_
  rintro e w' ⟨rfl, rfl⟩
  go_wp2_with fail
  refine (html_tab w).mono ?_
  rintro e w1 ⟨rfl, ht, hb, hz⟩
  go_wp2_with fail
  refine (htmlRep_true htmlTab 63 w.heap.size s w1 rfl (by omega) hs (tabs_below HU.out hb (tabs_lt HU.out)) ht HE.out).mono ?_
  rintro e w2 ⟨rfl, hb2⟩
  go_wp2_with fail
  go_ret
  exact ⟨rfl, hb.trans (hb2.mono hb.size)⟩
set_option maxRecDepth 100000 in
theorem attr_text (s : ByteArray) (g c : Nat) (w : World) (hs : s.size ≤ 1000000) (hU : Utf8Tabs 1 2 w) (hc : w.cell? ⟨g, 0, none⟩ = some (.iface 9 (.string s))) (hesc : (esc (htmF htmlTab true) s.data.toList).length ≤ 1000000) :
    Calls Tryz.prog 43 #[.slice (some ⟨g, 0, none⟩) 1 c] w (Gives (escB' (htmF htmlTab true)) s w) := by
  have HU := Lib.hid hU
  have HE := Lib.hid hesc
  have HC := Lib.hid hc
  clear hU hesc hc
  go_enter Tryz.func43, Tryz.ntmps43
  go_wp2_with fail
  refine (stringify_text s g c w HC.out).mono ?_
  rintro e w' ⟨rfl, rfl⟩
  go_wp2_with fail
  refine (html_tab w).mono ?_
  rintro e w1 ⟨rfl, ht, hb, hz⟩
  go_wp2_with fail
  refine (htmlRep_true htmlTab 63 w.heap.size s w1 rfl (by omega) hs (tabs_below HU.out hb (tabs_lt HU.out)) ht HE.out).mono ?_
  rintro e w2 ⟨rfl, hb2⟩
  go_wp2_with fail
  go_ret
  exact ⟨rfl, hb.trans (hb2.mono hb.size)⟩
set_option maxRecDepth 100000 in
theorem rcdata_text (s : ByteArray) (g c : Nat) (w : World) (hs : s.size ≤ 1000000) (hU : Utf8Tabs 1 2 w) (hc : w.cell? ⟨g, 0, none⟩ = some (.iface 9 (.string s))) (hesc : (esc (htmF htmlTab true) s.data.toList).length ≤ 1000000) :
    Calls Tryz.prog 54 #[.slice (some ⟨g, 0, none⟩) 1 c] w (Gives (escB' (htmF htmlTab true)) s w) := by
  have HU := Lib.hid hU
  have HE := Lib.hid hesc
  have HC := Lib.hid hc
  clear hU hesc hc
  go_enter Tryz.func54, Tryz.ntmps54
  go_wp2_with fail
  refine (stringify_text s g c w HC.out).mono ?_
  rintro e w' ⟨rfl, rfl⟩
  go_wp2_with fail
  refine (html_tab w).mono ?_
  rintro e w1 ⟨rfl, ht, hb, hz⟩
  go_wp2_with fail
  refine (htmlRep_true htmlTab 63 w.heap.size s w1 rfl (by omega) hs (tabs_below HU.out hb (tabs_lt HU.out)) ht HE.out).mono ?_
  rintro e w2 ⟨rfl, hb2⟩
  go_wp2_with fail
  go_ret
  exact ⟨rfl, hb.trans (hb2.mono hb.size)⟩

/-- Nothing that an escaper writes is longer than eight times what it reads. -/
theorem escF_len (f : Nat → Option (List UInt8)) (hf : ∀ r o, f r = some o → o.length ≤ 8) : ∀ (n : Nat) (l : List UInt8), (escF f n l).length ≤ 8 * l.length
  | 0, _ => by simp [escF]
  | n + 1, [] => by simp [escF]
  | n + 1, b :: l => by
    have hne : b :: l ≠ [] := by simp
    have h1 := decodeL_width (b :: l)
    have h2 := decodeL_le (b :: l) hne
    have ih := escF_len f hf n ((b :: l).drop (decodeL (b :: l)).2)
    rw [List.length_drop] at ih
    simp only [escF, if_neg hne, List.length_append]
    have h3 : ((f (decodeL (b :: l)).1).getD ((b :: l).take (decodeL (b :: l)).2)).length ≤ 8 * (decodeL (b :: l)).2 := by
      cases hq : f (decodeL (b :: l)).1 with
      | none => simp only [Option.getD_none, List.length_take]; omega
      | some o => have := hf _ _ hq; simp only [Option.getD_some]; omega
    omega
theorem esc_len (f : Nat → Option (List UInt8)) (hf : ∀ r o, f r = some o → o.length ≤ 8) (l : List UInt8) : (esc f l).length ≤ 8 * l.length := escF_len f hf _ l

theorem getD_all (t : List (List UInt8)) (p : List UInt8 → Bool) (h0 : p [] = true) (h : t.all p = true) (r : Nat) : p (t.getD r []) = true := by
  rw [List.getD_eq_getElem?_getD]
  cases hq : t[r]? with
  | none => simpa using h0
  | some x => exact List.all_eq_true.1 h x (List.mem_of_getElem? hq)
theorem repF_len (tab : List (List UInt8)) (h : tab.all (fun l => decide (l.length ≤ 8)) = true) : ∀ r o, repF tab r = some o → o.length ≤ 8 := by
  intro r o ho
  unfold repF at ho
  have hl : lowTab.all (fun l => decide (l.length ≤ 8)) = true := by decide +kernel
  have h1 := getD_all lowTab _ rfl hl r
  have h2 := getD_all tab _ rfl h r
  simp only [decide_eq_true_eq] at h1 h2
  split at ho
  · cases ho; exact h1
  · split at ho
    · cases ho; exact h2
    · split at ho
      · cases ho; decide
      · split at ho
        · cases ho; decide
        · cases ho
theorem htmF_len (tab : List (List UInt8)) (bad : Bool) (h : tab.all (fun l => decide (l.length ≤ 8)) = true) : ∀ r o, htmF tab bad r = some o → o.length ≤ 8 := by
  intro r o ho
  unfold htmF at ho
  have h2 := getD_all tab _ rfl h r
  simp only [decide_eq_true_eq] at h2
  split at ho
  · split at ho
    · cases ho; exact h2
    · cases ho
  · split at ho
    · cases ho
    · split at ho
      · cases ho; simp [hex4]
      · cases ho
theorem repF_ne (tab : List (List UInt8)) : ∀ r o, repF tab r = some o → o ≠ [] := by
  intro r o ho
  unfold repF at ho
  split at ho
  · rename_i hr
    cases ho
    have hall : (List.range 32).all (fun r => decide (lowTab.getD r [] ≠ [])) = true := by decide +kernel
    simpa using List.all_eq_true.1 hall r (List.mem_range.2 hr)
  · split at ho
    · rename_i hr; cases ho; exact hr.2
    · split at ho
      · cases ho; decide
      · split at ho
        · cases ho; decide
        · cases ho
theorem esc_ne (f : Nat → Option (List UInt8)) (hf : ∀ r o, f r = some o → o ≠ []) (l : List UInt8) (hne : l ≠ []) : esc f l ≠ [] := by
  rw [esc_step f l hne]
  have hl : 0 < l.length := List.length_pos_iff.2 hne
  have hw := decodeL_width l
  intro h0
  have h1 := (List.append_eq_nil_iff.1 h0).1
  cases hq : f (decodeL l).1 with
  | none =>
    rw [hq, Option.getD_none] at h1
    have := congrArg List.length h1
    rw [List.length_take, List.length_nil] at this
    omega
  | some o => rw [hq, Option.getD_some] at h1; exact hf _ _ hq h1

/-! ### every escaper by its name -/
def nmStr : List UInt8 := [106, 115, 115, 116, 114, 101, 115, 99, 97, 112, 101, 114]
def nmTmpl : List UInt8 := [106, 115, 116, 109, 112, 108, 108, 105, 116, 101, 115, 99, 97, 112, 101, 114]
def nmReg : List UInt8 := [106, 115, 114, 101, 103, 101, 120, 112, 101, 115, 99, 97, 112, 101, 114]
def nmHtml : List UInt8 := [104, 116, 109, 108, 101, 115, 99, 97, 112, 101, 114]
def nmAttr : List UInt8 := [97, 116, 116, 114, 101, 115, 99, 97, 112, 101, 114]
def nmRcdata : List UInt8 := [114, 99, 100, 97, 116, 97, 101, 115, 99, 97, 112, 101, 114]
def nmNospace : List UInt8 := [110, 111, 115, 112, 97, 99, 101, 101, 115, 99, 97, 112, 101, 114]
theorem nmStr_ok (s : ByteArray) (hs : s.size ≤ 1000) : EscOK nmStr (escB' (repF strTab)) s := by
  refine escape_at nmStr 8 _ s (by decide) (by decide) (by decide +kernel) (by decide +kernel) (by omega) ?_
  intro g c w' hU hc
  have hl := esc_len (repF strTab) (repF_len strTab (by decide +kernel)) s.data.toList
  have hz : s.data.toList.length = s.size := by rw [Array.length_toList]; rfl
  exact ZZEscape_jsstrescaper _ s g c w' (jsStr_text s g c w' (by omega) hU hc (by omega) )
theorem nmTmpl_ok (s : ByteArray) (hs : s.size ≤ 1000) : EscOK nmTmpl (escB' (repF bqTab)) s := by
  refine escape_at nmTmpl 9 _ s (by decide) (by decide) (by decide +kernel) (by decide +kernel) (by omega) ?_
  intro g c w' hU hc
  have hl := esc_len (repF bqTab) (repF_len bqTab (by decide +kernel)) s.data.toList
  have hz : s.data.toList.length = s.size := by rw [Array.length_toList]; rfl
  exact ZZEscape_jstmpllitescaper _ s g c w' (jsTmpl_text s g c w' (by omega) hU hc (by omega) )
theorem nmReg_ok (s : ByteArray) (hs : s.size ≤ 1000) (hne : s.data.toList ≠ []) : EscOK nmReg (escB' (repF regTab)) s := by
  refine escape_at nmReg 7 _ s (by decide) (by decide) (by decide +kernel) (by decide +kernel) (by omega) ?_
  intro g c w' hU hc
  have hl := esc_len (repF regTab) (repF_len regTab (by decide +kernel)) s.data.toList
  have hz : s.data.toList.length = s.size := by rw [Array.length_toList]; rfl
  exact ZZEscape_jsregexpescaper _ s g c w' (jsReg_text s g c w' (by omega) hU hc (by omega) (esc_ne _ (repF_ne regTab) _ hne))
theorem nmHtml_ok (s : ByteArray) (hs : s.size ≤ 1000) : EscOK nmHtml (escB' (htmF htmlTab true)) s := by
  refine escape_at nmHtml 5 _ s (by decide) (by decide) (by decide +kernel) (by decide +kernel) (by omega) ?_
  intro g c w' hU hc
  have hl := esc_len (htmF htmlTab true) (htmF_len htmlTab true (by decide +kernel)) s.data.toList
  have hz : s.data.toList.length = s.size := by rw [Array.length_toList]; rfl
  exact ZZEscape_htmlescaper _ s g c w' (html_text s g c w' (by omega) hU hc (by omega) )
theorem nmAttr_ok (s : ByteArray) (hs : s.size ≤ 1000) : EscOK nmAttr (escB' (htmF htmlTab true)) s := by
  refine escape_at nmAttr 1 _ s (by decide) (by decide) (by decide +kernel) (by decide +kernel) (by omega) ?_
  intro g c w' hU hc
  have hl := esc_len (htmF htmlTab true) (htmF_len htmlTab true (by decide +kernel)) s.data.toList
  have hz : s.data.toList.length = s.size := by rw [Array.length_toList]; rfl
  exact ZZEscape_attrescaper _ s g c w' (attr_text s g c w' (by omega) hU hc (by omega) )
theorem nmRcdata_ok (s : ByteArray) (hs : s.size ≤ 1000) : EscOK nmRcdata (escB' (htmF htmlTab true)) s := by
  refine escape_at nmRcdata 12 _ s (by decide) (by decide) (by decide +kernel) (by decide +kernel) (by omega) ?_
  intro g c w' hU hc
  have hl := esc_len (htmF htmlTab true) (htmF_len htmlTab true (by decide +kernel)) s.data.toList
  have hz : s.data.toList.length = s.size := by rw [Array.length_toList]; rfl
  exact ZZEscape_rcdataescaper _ s g c w' (rcdata_text s g c w' (by omega) hU hc (by omega) )

theorem escapes_yes (w : World) (hU : Utf8Tabs 1 2 w) : Calls Tryz.prog 9 #[] w fun e w' => e = .returned (.bool true) ∧ Below w.heap.size w w' := by
  have HU := Lib.hid hU
  have HE := Lib.hid (nmHtml_ok ⟨#[60, 97]⟩ (by decide))
  have hv : escB' (htmF htmlTab true) ⟨#[60, 97]⟩ = ⟨#[38, 108, 116, 59, 97]⟩ := by decide +kernel
  clear hU
  go_enter Tryz.func9, Tryz.ntmps9
  go_wp2_with fail
  refine (plain_any _ w).mono ?_
  rintro e w1 ⟨rfl, hb⟩
  go_wp2_with fail
  refine (HE.out w1 (tabs_below HU.out hb (tabs_lt HU.out))).mono ?_
  rintro e w2 ⟨rfl, hb2⟩
  rw [hv]
  go_wp2_with fail
  go_ret
  exact ⟨rfl, hb.trans (hb2.mono hb.size)⟩
end Go.Proofs.YthkinpadambpcaaGreatDoor
