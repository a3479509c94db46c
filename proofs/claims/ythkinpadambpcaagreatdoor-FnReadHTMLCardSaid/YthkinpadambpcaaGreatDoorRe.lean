/- The walk of 'replace': what it writes is what the plain escaper says. -/
import Derived.Test.YthkinpadambpcaaGreatDoorRp
namespace Go.Proofs.YthkinpadambpcaaGreatDoor
open Go.RowKit Go.Lib

theorem ext_size (s : ByteArray) (a b : Nat) : (s.extract a b).size ≤ s.size := by
  rw [ByteArray.size_extract]; omega
theorem wr_bd (xs : List Value) (x y : ByteArray) (hx : xs.length ≤ 1000000) (h1 : x.size ≤ 1000000) (h2 : y.size ≤ 1000000) : (xs ++ strCells x).length + y.size ≤ 140737488355328 := by
  rw [List.length_append, strCells_length]; omega

set_option maxRecDepth 1000000 in
set_option maxHeartbeats 4000000 in
theorem replace_any (tab : List (List UInt8)) (n g : Nat) (s : ByteArray) (w : World) (hlen : tab.length = n) (hn : n ≤ 128) (hs : s.size ≤ 1000000) (hU : Utf8Tabs 1 2 w) (hT : TabAt w g tab)
    (hesc : (esc (repF tab) s.data.toList).length ≤ 1000000) :
    Calls Tryz.prog 85 #[.string s, .slice (some ⟨g, 0, none⟩) n n] w fun e w' => e = .returned (.string ⟨(esc (repF tab) s.data.toList).toArray⟩) ∧ Below w.heap.size w w' := by
  have HL := Lib.hid hlen
  have HU := Lib.hid hU
  have HT := Lib.hid hT
  have HE := Lib.hid hesc
  clear hlen hU hT hesc
  go_enter Tryz.func85, Tryz.ntmps85
  go_wp2_with fail
  go_loopw [6, 7, 8, 9, 10] (fun _ _ m i _ wr => ∃ (k q : Nat) (bs : List UInt8), k ≤ s.size ∧ q ≤ k ∧ i = .int .i64 (k : Int) ∧ m = .int .i64 (q : Int) ∧ Below w.heap.size w wr ∧ w.heap.size < wr.heap.size ∧ Hid (BState w.heap.size q bs wr) ∧ Hid (BOut (repF tab) s.data.toList q k bs)) (fun _ _ _ i _ _ => s.size - (intOf i).toNat)
  case atStart =>
    refine ⟨0, 0, [], Nat.zero_le _, Nat.le_refl _, rfl, rfl, (Below.refl _ _).alloc (Nat.le_refl _) _, by simp, .inl ⟨rfl, rfl, heap_alloc_new w _⟩, ?_⟩
    simp [Hid, BOut]
  case round =>
    obtain ⟨k, q, bs, hk, hq, rfl, rfl, hB, hBs, HS, HO⟩ := hrel
    have hUw := Lib.hid (tabs_below HU.out hB (tabs_lt HU.out))
    by_cases hlt : k < s.size
    · have hne : s.data.toList.drop k ≠ [] := by
        intro h0
        have := congrArg List.length h0
        simp at this; omega
      have hstep := esc_step (repF tab) _ hne
      have hk1 := decodeL_width (s.data.toList.drop k)
      have hk2 := decodeL_le _ hne
      obtain ⟨r, c, hrc⟩ : ∃ r c, decodeL (s.data.toList.drop k) = (r, c) := ⟨_, _, rfl⟩
      rw [hrc] at hstep hk1 hk2
      dsimp only at hstep hk1 hk2
      have HST := Lib.hid hstep
      have HRC := Lib.hid hrc
      rw [List.length_drop, Array.length_toList] at hk2
      have hk2' : k + c ≤ s.size := by
        have : s.data.size = s.size := rfl
        omega
      clear hstep hrc hk2 hne
      go_wp2_with fail
      refine (decode35 s k r c _ hUw.out hlt HRC.out).mono ?_
      rintro e w1 ⟨rfl, hb1⟩
      go_wp2_with fail
      have hr1 : (r : Int) ≤ 1114111 := by
        have := decodeL_rune (s.data.toList.drop k)
        rw [HRC.out] at this; dsimp only at this; omega
      have hwr : wrap64 (r : Int) = (r : Int) := by unfold wrap64; omega
      have hbl : bs.length ≤ 1000000 := by
        have h1 := bout_len HO.out
        have h2 := HE.out
        omega
      refine (low_tab w1).mono ?_
      rintro e w2 ⟨rfl, ht2, hb2, hz2⟩
      clear hz2
      have hbW2 : Below wr.heap.size wr w2 := hb1.trans (hb2.mono hb1.size)
      by_cases h32 : r < 32
      · have hA : (r : Int) < 32 := by omega
        go_wp2_with fail
        refine (low_tab w2).mono ?_
        rintro e w3 ⟨rfl, ht3, hb3, hz3⟩
        clear hz3
        have hbW3 : Below wr.heap.size wr w3 := hbW2.trans (hb3.mono hbW2.size)
        have hc3 := ht3.cell r (by show r < 32; exact h32)
        obtain ⟨l, hl⟩ : ∃ l, lowTab.getD r [] = l := ⟨_, rfl⟩
        rw [hl] at hc3
        have hf : Hid (repF tab r = some l) := by show _ = _; unfold repF; rw [if_pos h32, hl]
        clear hl
        have hls : (⟨l.toArray⟩ : ByteArray).size ≤ 1000000 := by
          have h1 := bout_len (bout_yes HO.out HST.out hf.out)
          have h2 := HE.out
          simp only [List.length_append] at h1
          show l.toArray.size ≤ _
          rw [List.size_toArray]; omega
        rcases HS.out with ⟨hq0, hbs, hfr⟩ | ⟨hq0, hbd⟩
        · have hz : ((q : Int) == 0) = true := by rw [beq_iff_eq]; omega
          have hsl : ([] : List Value) ++ strCells (s.extract 0 k) ++ strCells ⟨l.toArray⟩ = byteCells (bs ++ (s.data.toList.take k).drop q ++ l) := by rw [byteCells_append, byteCells_append, strCells_eq, strCells_eq, ext_list, hbs, hq0]; rfl
          have HSL := Lib.hid hsl
          clear hsl
          clear hbs
          go_wp2_with fail
          refine (Tryz.Builder_Grow_fresh w.heap.size w.heap.size s.size _ (Nat.le_refl _) ((hbW3.block _ hBs).trans hfr) (by have := hbW3.size; omega) (by omega)).mono ?_
          rintro e wg ⟨rfl, hbg, hBg⟩
          go_wp2_with fail
          refine (Tryz.Builder_WriteString w.heap.size w.heap.size _ _ _ (.inr hbg) (by simp only [List.length_nil, ByteArray.size_extract]; omega) (by have := hbW3.size; have := hBg.size; omega)).mono ?_
          rintro e wh ⟨rfl, hbh, hBh⟩
          go_wp2_with fail
          refine (Tryz.Builder_WriteString w.heap.size w.heap.size _ _ _ (.inr hbh) (wr_bd _ _ _ (by first | exact Nat.zero_le _ | (rw [byteCells_length]; exact hbl)) (Nat.le_trans (ext_size _ _ _) hs) hls) (by have := hbW3.size; have := hBh.size; have := hBg.size; omega)).mono ?_
          rintro e wi ⟨rfl, hbi, hBi⟩
          go_wp2_with fail
          go_roundw
          case rel => exact ⟨k + c, k + c, bs ++ (s.data.toList.take k).drop q ++ l, by omega, Nat.le_refl _, by go_num, by go_num, hB.trans ((hbW3.mono (Nat.le_of_lt hBs)).trans (hBg.trans (hBh.trans hBi))), by have := hbW3.size; have := hBh.size; have := hBg.size; have := hBi.size; omega, .inr ⟨by omega, HSL.out ▸ hbi⟩, bout_yes HO.out HST.out hf.out⟩
          case measure => simp [intOf]; omega
        · have hz : ((q : Int) == 0) = false := by rw [beq_eq_false_iff_ne]; omega
          have hsl : byteCells bs ++ strCells (s.extract q k) ++ strCells ⟨l.toArray⟩ = byteCells (bs ++ (s.data.toList.take k).drop q ++ l) := by rw [byteCells_append, byteCells_append, strCells_eq, strCells_eq, ext_list]
          have HSL := Lib.hid hsl
          clear hsl
          go_wp2_with fail
          refine (Tryz.Builder_WriteString w.heap.size w.heap.size _ _ _ (.inr (builder_below hbd hbW3)) (by simp only [byteCells_length, ByteArray.size_extract]; omega) (by have := hbW3.size; omega)).mono ?_
          rintro e wh ⟨rfl, hbh, hBh⟩
          go_wp2_with fail
          refine (Tryz.Builder_WriteString w.heap.size w.heap.size _ _ _ (.inr hbh) (wr_bd _ _ _ (by first | exact Nat.zero_le _ | (rw [byteCells_length]; exact hbl)) (Nat.le_trans (ext_size _ _ _) hs) hls) (by have := hbW3.size; have := hBh.size; omega)).mono ?_
          rintro e wi ⟨rfl, hbi, hBi⟩
          go_wp2_with fail
          go_roundw
          case rel => exact ⟨k + c, k + c, bs ++ (s.data.toList.take k).drop q ++ l, by omega, Nat.le_refl _, by go_num, by go_num, hB.trans ((hbW3.mono (Nat.le_of_lt hBs)).trans (hBh.trans hBi)), by have := hbW3.size; have := hBh.size; have := hBi.size; omega, .inr ⟨by omega, HSL.out ▸ hbi⟩, bout_yes HO.out HST.out hf.out⟩
          case measure => simp [intOf]; omega
      · have hA : ¬ (r : Int) < 32 := by omega
        have hTw := Lib.hid (HT.out.below (hB.trans (hbW2.mono (Nat.le_of_lt hBs))) HT.out.lt)
        by_cases hrn : r < n
        · have hc2 := hTw.out.cell r (by rw [HL.out]; exact hrn)
          obtain ⟨l, hl⟩ : ∃ l, tab.getD r [] = l := ⟨_, rfl⟩
          rw [hl] at hc2
          cases l with
          | nil =>
            have hf : Hid (repF tab r = none) := by
              show _ = _
              unfold repF
              rw [if_neg h32, if_neg (fun h => h.2 hl), if_neg (by omega), if_neg (by omega)]
            clear hl
            go_wp2_with fail
            go_roundw
            case rel => exact ⟨k + c, q, bs, by omega, by omega, by go_num, rfl, hB.trans (hbW2.mono (Nat.le_of_lt hBs)), by have := hbW2.size; omega, HS.out.below hbW2, bout_no HO.out hq (by simpa using hk) HST.out hf.out⟩
            case measure => simp [intOf]; omega
          | cons l0 l' =>
            have hf : Hid (repF tab r = some (l0 :: l')) := by
              show _ = _
              unfold repF
              rw [if_neg h32, if_pos ⟨by rw [HL.out]; exact hrn, by rw [hl]; simp⟩, hl]
            clear hl
            have hls : (⟨(l0 :: l').toArray⟩ : ByteArray).size ≤ 1000000 := by
              have h1 := bout_len (bout_yes HO.out HST.out hf.out)
              have h2 := HE.out
              simp only [List.length_append] at h1
              show (l0 :: l').toArray.size ≤ _
              rw [List.size_toArray]; omega
            rcases HS.out with ⟨hq0, hbs, hfr⟩ | ⟨hq0, hbd⟩
            · have hz : ((q : Int) == 0) = true := by rw [beq_iff_eq]; omega
              have hsl : ([] : List Value) ++ strCells (s.extract 0 k) ++ strCells ⟨(l0 :: l').toArray⟩ = byteCells (bs ++ (s.data.toList.take k).drop q ++ (l0 :: l')) := by rw [byteCells_append, byteCells_append, strCells_eq, strCells_eq, ext_list, hbs, hq0]; rfl
              have HSL := Lib.hid hsl
              clear hsl
              clear hbs
              go_wp2_with fail
              refine (Tryz.Builder_Grow_fresh w.heap.size w.heap.size s.size _ (Nat.le_refl _) ((hbW2.block _ hBs).trans hfr) (by have := hbW2.size; omega) (by omega)).mono ?_
              rintro e wg ⟨rfl, hbg, hBg⟩
              go_wp2_with fail
              refine (Tryz.Builder_WriteString w.heap.size w.heap.size _ _ _ (.inr hbg) (by simp only [List.length_nil, ByteArray.size_extract]; omega) (by have := hbW2.size; have := hBg.size; omega)).mono ?_
              rintro e wh ⟨rfl, hbh, hBh⟩
              go_wp2_with fail
              refine (Tryz.Builder_WriteString w.heap.size w.heap.size _ _ _ (.inr hbh) (wr_bd _ _ _ (by first | exact Nat.zero_le _ | (rw [byteCells_length]; exact hbl)) (Nat.le_trans (ext_size _ _ _) hs) hls) (by have := hbW2.size; have := hBh.size; have := hBg.size; omega)).mono ?_
              rintro e wi ⟨rfl, hbi, hBi⟩
              go_wp2_with fail
              go_roundw
              case rel => exact ⟨k + c, k + c, bs ++ (s.data.toList.take k).drop q ++ (l0 :: l'), by omega, Nat.le_refl _, by go_num, by go_num, hB.trans ((hbW2.mono (Nat.le_of_lt hBs)).trans (hBg.trans (hBh.trans hBi))), by have := hbW2.size; have := hBh.size; have := hBg.size; have := hBi.size; omega, .inr ⟨by omega, HSL.out ▸ hbi⟩, bout_yes HO.out HST.out hf.out⟩
              case measure => simp [intOf]; omega
            · have hz : ((q : Int) == 0) = false := by rw [beq_eq_false_iff_ne]; omega
              have hsl : byteCells bs ++ strCells (s.extract q k) ++ strCells ⟨(l0 :: l').toArray⟩ = byteCells (bs ++ (s.data.toList.take k).drop q ++ (l0 :: l')) := by rw [byteCells_append, byteCells_append, strCells_eq, strCells_eq, ext_list]
              have HSL := Lib.hid hsl
              clear hsl
              go_wp2_with fail
              refine (Tryz.Builder_WriteString w.heap.size w.heap.size _ _ _ (.inr (builder_below hbd hbW2)) (by simp only [byteCells_length, ByteArray.size_extract]; omega) (by have := hbW2.size; omega)).mono ?_
              rintro e wh ⟨rfl, hbh, hBh⟩
              go_wp2_with fail
              refine (Tryz.Builder_WriteString w.heap.size w.heap.size _ _ _ (.inr hbh) (wr_bd _ _ _ (by first | exact Nat.zero_le _ | (rw [byteCells_length]; exact hbl)) (Nat.le_trans (ext_size _ _ _) hs) hls) (by have := hbW2.size; have := hBh.size; omega)).mono ?_
              rintro e wi ⟨rfl, hbi, hBi⟩
              go_wp2_with fail
              go_roundw
              case rel => exact ⟨k + c, k + c, bs ++ (s.data.toList.take k).drop q ++ (l0 :: l'), by omega, Nat.le_refl _, by go_num, by go_num, hB.trans ((hbW2.mono (Nat.le_of_lt hBs)).trans (hBh.trans hBi)), by have := hbW2.size; have := hBh.size; have := hBi.size; omega, .inr ⟨by omega, HSL.out ▸ hbi⟩, bout_yes HO.out HST.out hf.out⟩
              case measure => simp [intOf]; omega
        · by_cases h8 : r = 8232
          · have hf : Hid (repF tab r = some u2028) := by
              show _ = _
              unfold repF
              rw [if_neg h32, if_neg (fun h => by have := HL.out; omega), if_pos h8]
            have h8' : ((r : Int) == 8232) = true := by rw [beq_iff_eq]; omega
            clear h8
            have hls : (⟨u2028.toArray⟩ : ByteArray).size ≤ 1000000 := by
              have h1 := bout_len (bout_yes HO.out HST.out hf.out)
              have h2 := HE.out
              simp only [List.length_append] at h1
              show u2028.toArray.size ≤ _
              rw [List.size_toArray]; omega
            rcases HS.out with ⟨hq0, hbs, hfr⟩ | ⟨hq0, hbd⟩
            · have hz : ((q : Int) == 0) = true := by rw [beq_iff_eq]; omega
              have hsl : ([] : List Value) ++ strCells (s.extract 0 k) ++ strCells ⟨u2028.toArray⟩ = byteCells (bs ++ (s.data.toList.take k).drop q ++ u2028) := by rw [byteCells_append, byteCells_append, strCells_eq, strCells_eq, ext_list, hbs, hq0]; rfl
              have HSL := Lib.hid hsl
              clear hsl
              clear hbs
              go_wp2_with fail
              refine (Tryz.Builder_Grow_fresh w.heap.size w.heap.size s.size _ (Nat.le_refl _) ((hbW2.block _ hBs).trans hfr) (by have := hbW2.size; omega) (by omega)).mono ?_
              rintro e wg ⟨rfl, hbg, hBg⟩
              go_wp2_with fail
              refine (Tryz.Builder_WriteString w.heap.size w.heap.size _ _ _ (.inr hbg) (by simp only [List.length_nil, ByteArray.size_extract]; omega) (by have := hbW2.size; have := hBg.size; omega)).mono ?_
              rintro e wh ⟨rfl, hbh, hBh⟩
              go_wp2_with fail
              refine (Tryz.Builder_WriteString w.heap.size w.heap.size _ _ _ (.inr hbh) (wr_bd _ _ _ (by first | exact Nat.zero_le _ | (rw [byteCells_length]; exact hbl)) (Nat.le_trans (ext_size _ _ _) hs) hls) (by have := hbW2.size; have := hBh.size; have := hBg.size; omega)).mono ?_
              rintro e wi ⟨rfl, hbi, hBi⟩
              go_wp2_with fail
              go_roundw
              case rel => exact ⟨k + c, k + c, bs ++ (s.data.toList.take k).drop q ++ u2028, by omega, Nat.le_refl _, by go_num, by go_num, hB.trans ((hbW2.mono (Nat.le_of_lt hBs)).trans (hBg.trans (hBh.trans hBi))), by have := hbW2.size; have := hBh.size; have := hBg.size; have := hBi.size; omega, .inr ⟨by omega, HSL.out ▸ hbi⟩, bout_yes HO.out HST.out hf.out⟩
              case measure => simp [intOf]; omega
            · have hz : ((q : Int) == 0) = false := by rw [beq_eq_false_iff_ne]; omega
              have hsl : byteCells bs ++ strCells (s.extract q k) ++ strCells ⟨u2028.toArray⟩ = byteCells (bs ++ (s.data.toList.take k).drop q ++ u2028) := by rw [byteCells_append, byteCells_append, strCells_eq, strCells_eq, ext_list]
              have HSL := Lib.hid hsl
              clear hsl
              go_wp2_with fail
              refine (Tryz.Builder_WriteString w.heap.size w.heap.size _ _ _ (.inr (builder_below hbd hbW2)) (by simp only [byteCells_length, ByteArray.size_extract]; omega) (by have := hbW2.size; omega)).mono ?_
              rintro e wh ⟨rfl, hbh, hBh⟩
              go_wp2_with fail
              refine (Tryz.Builder_WriteString w.heap.size w.heap.size _ _ _ (.inr hbh) (wr_bd _ _ _ (by first | exact Nat.zero_le _ | (rw [byteCells_length]; exact hbl)) (Nat.le_trans (ext_size _ _ _) hs) hls) (by have := hbW2.size; have := hBh.size; omega)).mono ?_
              rintro e wi ⟨rfl, hbi, hBi⟩
              go_wp2_with fail
              go_roundw
              case rel => exact ⟨k + c, k + c, bs ++ (s.data.toList.take k).drop q ++ u2028, by omega, Nat.le_refl _, by go_num, by go_num, hB.trans ((hbW2.mono (Nat.le_of_lt hBs)).trans (hBh.trans hBi)), by have := hbW2.size; have := hBh.size; have := hBi.size; omega, .inr ⟨by omega, HSL.out ▸ hbi⟩, bout_yes HO.out HST.out hf.out⟩
              case measure => simp [intOf]; omega
          · by_cases h9 : r = 8233
            · have hf : Hid (repF tab r = some u2029) := by
                show _ = _
                unfold repF
                rw [if_neg h32, if_neg (fun h => by have := HL.out; omega), if_neg h8, if_pos h9]
              have h8' : ((r : Int) == 8232) = false := by rw [beq_eq_false_iff_ne]; omega
              have h9' : ((r : Int) == 8233) = true := by rw [beq_iff_eq]; omega
              clear h8 h9
              have hls : (⟨u2029.toArray⟩ : ByteArray).size ≤ 1000000 := by
                have h1 := bout_len (bout_yes HO.out HST.out hf.out)
                have h2 := HE.out
                simp only [List.length_append] at h1
                show u2029.toArray.size ≤ _
                rw [List.size_toArray]; omega
              rcases HS.out with ⟨hq0, hbs, hfr⟩ | ⟨hq0, hbd⟩
              · have hz : ((q : Int) == 0) = true := by rw [beq_iff_eq]; omega
                have hsl : ([] : List Value) ++ strCells (s.extract 0 k) ++ strCells ⟨u2029.toArray⟩ = byteCells (bs ++ (s.data.toList.take k).drop q ++ u2029) := by rw [byteCells_append, byteCells_append, strCells_eq, strCells_eq, ext_list, hbs, hq0]; rfl
                have HSL := Lib.hid hsl
                clear hsl
                clear hbs
                go_wp2_with fail
                refine (Tryz.Builder_Grow_fresh w.heap.size w.heap.size s.size _ (Nat.le_refl _) ((hbW2.block _ hBs).trans hfr) (by have := hbW2.size; omega) (by omega)).mono ?_
                rintro e wg ⟨rfl, hbg, hBg⟩
                go_wp2_with fail
                refine (Tryz.Builder_WriteString w.heap.size w.heap.size _ _ _ (.inr hbg) (by simp only [List.length_nil, ByteArray.size_extract]; omega) (by have := hbW2.size; have := hBg.size; omega)).mono ?_
                rintro e wh ⟨rfl, hbh, hBh⟩
                go_wp2_with fail
                refine (Tryz.Builder_WriteString w.heap.size w.heap.size _ _ _ (.inr hbh) (wr_bd _ _ _ (by first | exact Nat.zero_le _ | (rw [byteCells_length]; exact hbl)) (Nat.le_trans (ext_size _ _ _) hs) hls) (by have := hbW2.size; have := hBh.size; have := hBg.size; omega)).mono ?_
                rintro e wi ⟨rfl, hbi, hBi⟩
                go_wp2_with fail
                go_roundw
                case rel => exact ⟨k + c, k + c, bs ++ (s.data.toList.take k).drop q ++ u2029, by omega, Nat.le_refl _, by go_num, by go_num, hB.trans ((hbW2.mono (Nat.le_of_lt hBs)).trans (hBg.trans (hBh.trans hBi))), by have := hbW2.size; have := hBh.size; have := hBg.size; have := hBi.size; omega, .inr ⟨by omega, HSL.out ▸ hbi⟩, bout_yes HO.out HST.out hf.out⟩
                case measure => simp [intOf]; omega
              · have hz : ((q : Int) == 0) = false := by rw [beq_eq_false_iff_ne]; omega
                have hsl : byteCells bs ++ strCells (s.extract q k) ++ strCells ⟨u2029.toArray⟩ = byteCells (bs ++ (s.data.toList.take k).drop q ++ u2029) := by rw [byteCells_append, byteCells_append, strCells_eq, strCells_eq, ext_list]
                have HSL := Lib.hid hsl
                clear hsl
                go_wp2_with fail
                refine (Tryz.Builder_WriteString w.heap.size w.heap.size _ _ _ (.inr (builder_below hbd hbW2)) (by simp only [byteCells_length, ByteArray.size_extract]; omega) (by have := hbW2.size; omega)).mono ?_
                rintro e wh ⟨rfl, hbh, hBh⟩
                go_wp2_with fail
                refine (Tryz.Builder_WriteString w.heap.size w.heap.size _ _ _ (.inr hbh) (wr_bd _ _ _ (by first | exact Nat.zero_le _ | (rw [byteCells_length]; exact hbl)) (Nat.le_trans (ext_size _ _ _) hs) hls) (by have := hbW2.size; have := hBh.size; omega)).mono ?_
                rintro e wi ⟨rfl, hbi, hBi⟩
                go_wp2_with fail
                go_roundw
                case rel => exact ⟨k + c, k + c, bs ++ (s.data.toList.take k).drop q ++ u2029, by omega, Nat.le_refl _, by go_num, by go_num, hB.trans ((hbW2.mono (Nat.le_of_lt hBs)).trans (hBh.trans hBi)), by have := hbW2.size; have := hBh.size; have := hBi.size; omega, .inr ⟨by omega, HSL.out ▸ hbi⟩, bout_yes HO.out HST.out hf.out⟩
                case measure => simp [intOf]; omega
            · have hf : Hid (repF tab r = none) := by
                show _ = _
                unfold repF
                rw [if_neg h32, if_neg (fun h => by have := HL.out; omega), if_neg h8, if_neg h9]
              have h8' : ((r : Int) == 8232) = false := by rw [beq_eq_false_iff_ne]; omega
              have h9' : ((r : Int) == 8233) = false := by rw [beq_eq_false_iff_ne]; omega
              clear h8 h9
              go_wp2_with fail
              go_roundw
              case rel => exact ⟨k + c, q, bs, by omega, by omega, by go_num, rfl, hB.trans (hbW2.mono (Nat.le_of_lt hBs)), by have := hbW2.size; omega, HS.out.below hbW2, bout_no HO.out hq (by simpa using hk) HST.out hf.out⟩
              case measure => simp [intOf]; omega
    · obtain rfl : k = s.size := by omega
      have hdrop : s.data.toList.drop s.size = [] := List.drop_eq_nil_of_le (by simp)
      have htake : s.data.toList.take s.size = s.data.toList := List.take_of_length_le (by simp)
      have hfin := HO.out
      unfold BOut at hfin
      rw [hdrop, htake, esc_nil, List.append_nil] at hfin
      have HF := Lib.hid hfin
      clear hdrop htake hfin
      rcases HS.out with ⟨hq0, hbs, hfr⟩ | ⟨hq0, hbd⟩
      · have hz : ((q : Int) == 0) = true := by rw [beq_iff_eq]; omega
        have HR : Hid (s = ⟨(esc (repF tab) s.data.toList).toArray⟩) := by
          show _ = _
          rw [← HF.out, hbs, hq0]
          rfl
        clear hbs
        go_wp2_with fail
        go_ret
        rw [← HR.out]
        exact ⟨rfl, hB⟩
      · have hz : ((q : Int) == 0) = false := by rw [beq_eq_false_iff_ne]; omega
        have hbl : bs.length ≤ 1000000 := by
          have h1 := bout_len HO.out
          have h2 := HE.out
          omega
        have HSL : Hid (byteCells bs ++ strCells (s.extract q s.size) = byteCells (esc (repF tab) s.data.toList)) := by
          show _ = _
          rw [← HF.out, byteCells_append, strCells_eq, ext_list, List.take_of_length_le (by simp)]
        go_wp2_with fail
        refine (Tryz.Builder_WriteString w.heap.size w.heap.size _ _ _ (.inr hbd) (by simp only [byteCells_length, ByteArray.size_extract]; omega) (by omega)).mono ?_
        rintro e wh ⟨rfl, hbh, hBh⟩
        go_wp2_with fail
        refine (Tryz.Builder_String_any w.heap.size w.heap.size (esc (repF tab) s.data.toList) _ (.inr (HSL.out ▸ hbh)) (by have := hBh.size; omega)).mono ?_
        rintro e wi ⟨rfl, hBi⟩
        go_wp2_with fail
        go_ret
        exact ⟨rfl, hB.trans (hBh.trans hBi)⟩
end Go.Proofs.YthkinpadambpcaaGreatDoor
