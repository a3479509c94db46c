/- What a page says: a text of tokens is read as what they say. -/
import Derived.Test.YthkinpadambpcaaGreatDoorPr
namespace Go.Proofs.YthkinpadambpcaaGreatDoor
open Go.RowKit Go.Lib Go.Maps

def named : List (List UInt8 × List UInt8) := [([97, 109, 112], [38]), ([108, 116], [60]), ([103, 116], [62])]
theorem refB_cases (e v : List UInt8) (h : refB e v = true) :
    (∃ a c, e = [38, 35, a, 59] ∧ v = [c] ∧ 48 ≤ a.toNat ∧ a.toNat ≤ 57 ∧ 0 < a.toNat - 48 ∧ c.toNat = a.toNat - 48) ∨
    (∃ a b c, e = [38, 35, a, b, 59] ∧ v = [c] ∧ 48 ≤ a.toNat ∧ a.toNat ≤ 57 ∧ 48 ≤ b.toNat ∧ b.toNat ≤ 57 ∧ 0 < (a.toNat - 48) * 10 + (b.toNat - 48) ∧ c.toNat = (a.toNat - 48) * 10 + (b.toNat - 48)) ∨
    (∃ x y z t, e = [38, 35, 120, x, y, z, t, 59] ∧ digB x < 16 ∧ digB y < 16 ∧ digB z < 16 ∧ digB t < 16 ∧ 57344 ≤ ((digB x * 16 + digB y) * 16 + digB z) * 16 + digB t ∧
      v = encodeRune ((((digB x * 16 + digB y) * 16 + digB z) * 16 + digB t : Nat) : Int)) ∨
    (∃ p ∈ named, e = 38 :: p.1 ++ [59] ∧ v = p.2) := by
  unfold refB at h
  split at h
  · exact .inl ⟨_, _, rfl, rfl, of_decide_eq_true h⟩
  · exact .inr (.inl ⟨_, _, _, rfl, rfl, of_decide_eq_true h⟩)
  · simp only [Bool.and_eq_true, decide_eq_true_eq, beq_iff_eq] at h
    exact .inr (.inr (.inl ⟨_, _, _, _, rfl, h.1.1.1.1.1, h.1.1.1.1.2, h.1.1.1.2, h.1.1.2, h.1.2, h.2⟩))
  · simp only [Bool.or_eq_true, Bool.and_eq_true, beq_iff_eq] at h
    refine .inr (.inr (.inr ?_))
    rcases h with (⟨h1, h2⟩ | ⟨h1, h2⟩) | ⟨h1, h2⟩
    · exact ⟨_, .head _, h1, by rw [h2]⟩
    · exact ⟨_, .tail _ (.head _), h1, by rw [h2]⟩
    · exact ⟨_, .tail _ (.tail _ (.head _)), h1, by rw [h2]⟩
  · cases h

theorem u8_enc (c : UInt8) (n : Nat) (h : c.toNat = n) (hn : n < 128) : Utf8.encode (n : Int) = ⟨#[c]⟩ := by
  rw [encode_eq n (by omega) (by omega), encodeRune_low n hn]
  have : UInt8.ofNat n = c := by rw [← h]; exact UInt8.ofNat_toNat
  rw [this]

theorem pageRef_any (s : ByteArray) (k : Nat) (e v r : List UInt8) (at_ : Bool) (w : World) (hs : s.size ≤ 1000000) (hd : s.data.toList.drop k = e ++ r) (he : refB e v = true) :
    Calls Tryz.prog 19 #[.string s, .int .i64 (k : Int), .bool at_] w fun e' w' => e' = .returned (.tuple #[.string ⟨v.toArray⟩, .int .i64 ((k + e.length : Nat) : Int)]) ∧ Below w.heap.size w w' := by
  rcases refB_cases e v he with ⟨a, c, rfl, rfl, h1, h2, h3, h4⟩ | ⟨a, b, c, rfl, rfl, h1, h2, h3, h4, h5, h6⟩ | ⟨x, y, z, t, rfl, hx, hy, hz, ht, hn, rfl⟩ | ⟨p, hp, rfl, rfl⟩
  · obtain ⟨_, _, d1⟩ := drop_get hd
    obtain ⟨i1, g1, d2⟩ := drop_get d1
    obtain ⟨j2, d2'⟩ := drop_get! d2
    obtain ⟨i3, g3, _⟩ := drop_get d2'
    have hv : decTo s (k + 2) 1 = ((a.toNat - 48 : Nat) : Int) := by
      simp only [decTo, Nat.add_zero]
      rw [show s.get! (k + 2) = a from j2]
      omega
    refine (pageRef_dec s k 1 at_ w hs (by omega) (by omega) i3 (by rw [g1]; rfl) (fun j hj => ?_) (by rw [g3]; rfl) (by rw [hv]; omega)).mono ?_
    · obtain rfl : j = 0 := by omega
      rw [Nat.add_zero, show s.get! (k + 2) = a from j2]
      exact ⟨h1, h2⟩
    · rintro e w' ⟨rfl, rfl⟩
      rw [hv, u8_enc c _ h4 (by omega)]
      exact ⟨rfl, Below.refl _ _⟩
  · obtain ⟨_, _, d1⟩ := drop_get hd
    obtain ⟨i1, g1, d2⟩ := drop_get d1
    obtain ⟨j2, d2'⟩ := drop_get! d2
    obtain ⟨j3, d3'⟩ := drop_get! d2'
    obtain ⟨i4, g4, _⟩ := drop_get d3'
    have hv : decTo s (k + 2) 2 = (((a.toNat - 48) * 10 + (b.toNat - 48) : Nat) : Int) := by
      simp only [decTo, Nat.add_zero]
      rw [show s.get! (k + 2) = a from j2, show s.get! (k + 2 + 1) = b from j3]
      omega
    refine (pageRef_dec s k 2 at_ w hs (by omega) (by omega) i4 (by rw [g1]; rfl) (fun j hj => ?_) (by rw [g4]; rfl) (by rw [hv]; omega)).mono ?_
    · rcases (show j = 0 ∨ j = 1 by omega) with rfl | rfl
      · rw [Nat.add_zero, show s.get! (k + 2) = a from j2]
        exact ⟨h1, h2⟩
      · rw [show s.get! (k + 2 + 1) = b from j3]
        exact ⟨h3, h4⟩
    · rintro e w' ⟨rfl, rfl⟩
      rw [hv, u8_enc c _ h6 (by omega)]
      exact ⟨rfl, Below.refl _ _⟩
  · obtain ⟨_, _, d1⟩ := drop_get hd
    obtain ⟨i1, g1, d2⟩ := drop_get d1
    obtain ⟨i2, g2, d3⟩ := drop_get d2
    obtain ⟨hf1, hf2⟩ := hex_four d3 hx hy hz ht
    obtain ⟨_, d4⟩ := drop_get! d3
    obtain ⟨_, d5⟩ := drop_get! d4
    obtain ⟨_, d6⟩ := drop_get! d5
    obtain ⟨_, d7⟩ := drop_get! d6
    obtain ⟨i7, g7, _⟩ := drop_get d7
    refine (pageRef_hex s k at_ w hs i7 (by rw [g1]; rfl) (by rw [g2]; rfl) hf1 (by rw [g7]; rfl) (by rw [hf2]; omega)).mono ?_
    rintro e w' ⟨rfl, rfl⟩
    rw [hf2, encode_eq _ (by omega) (by omega)]
    exact ⟨rfl, Below.refl _ _⟩
  · have hall : named.all (fun p => decide (1 ≤ p.1.length) && decide (p.1.length ≤ 100) && p.1.all (fun b => decide (97 ≤ b.toNat) && decide (b.toNat ≤ 122)) && Maps.has namesPD (.string p.1)) = true := by decide +kernel
    have hat : ∀ p ∈ named, namesPD.atKey (.string p.1) (.lit (.string [])) = .lit (.string p.2) := by
      intro p hp
      simp only [named, List.mem_cons, List.mem_nil_iff, or_false] at hp
      rcases hp with rfl | rfl | rfl <;> kernel_rfl
    have h0 := List.all_eq_true.1 hall p hp
    simp only [Bool.and_eq_true, decide_eq_true_eq] at h0
    obtain ⟨⟨⟨h1, h2⟩, h3⟩, h4⟩ := h0
    obtain ⟨_, _, d1⟩ := drop_get hd
    have d1' : s.data.toList.drop (k + 1) = p.1 ++ (59 :: r) := by rw [d1]; simp
    have hlen : k + 1 + p.1.length < s.size := by
      have := congrArg List.length d1'
      simp at this; omega
    have d2 : s.data.toList.drop (k + 1 + p.1.length) = 59 :: r := by
      rw [← List.drop_drop, d1', List.drop_left]
    obtain ⟨i2, g2, _⟩ := drop_get d2
    have hget : ∀ j (hj : j < p.1.length), s.get! (k + 1 + j) = p.1[j] := by
      intro j hj
      have : s.data.toList.drop (k + 1 + j) = p.1[j] :: (p.1.drop (j + 1) ++ 59 :: r) := by
        rw [← List.drop_drop, d1', List.drop_append_of_le_length (by omega), List.drop_eq_getElem_cons hj]; rfl
      exact (drop_get! this).1
    have hx : s.extract (k + 1) (k + 1 + p.1.length) = ⟨p.1.toArray⟩ := by
      apply ByteArray.ext
      apply Array.ext'
      rw [ByteArray.data_extract, Array.toList_extract, List.extract_eq_take_drop, d1', show k + 1 + p.1.length - (k + 1) = p.1.length by omega, List.take_left]
    refine (pageRef_name s k p.1.length p.1 p.2 at_ w hs h1 h2 i2 (fun j hj => ?_) (by rw [g2]; rfl) hx h2 h4 (hat p hp)).mono ?_
    · rw [hget j hj]
      have := List.all_eq_true.1 h3 _ (List.getElem_mem hj)
      simpa using this
    · rintro e w' ⟨rfl, hb⟩
      refine ⟨?_, hb⟩
      rw [show k + 1 + p.1.length + 1 = k + (38 :: p.1 ++ [59]).length by simp; omega]

theorem refB_head (e v : List UInt8) (h : refB e v = true) : ∃ r, e = 38 :: r := by
  rcases refB_cases e v h with ⟨_, _, rfl, _⟩ | ⟨_, _, _, rfl, _⟩ | ⟨_, _, _, _, rfl, _⟩ | ⟨_, _, rfl, _⟩ <;> exact ⟨_, rfl⟩
theorem tokH_cases (t : Tok) (h : tokH t = true) : (∃ b, t = ([b], [b]) ∧ b ≠ 38) ∨ ∃ e v, t = (38 :: e, v) ∧ refB (38 :: e) v = true := by
  obtain ⟨e, v⟩ := t
  unfold tokH at h
  rw [Bool.or_eq_true] at h
  rcases h with h | h
  · dsimp only at h
    split at h
    · next b =>
      simp only [Bool.and_eq_true, beq_iff_eq, bne_iff_ne] at h
      exact .inl ⟨b, by rw [h.1], h.2⟩
    · cases h
  · obtain ⟨r, hr⟩ := refB_head _ _ h
    dsimp only at hr h
    subst hr
    exact .inr ⟨r, v, rfl, h⟩

set_option maxRecDepth 100000 in
set_option maxHeartbeats 1000000 in
theorem PageSaid_any (s : ByteArray) (at_ : Bool) (ts : List Tok) (w : World) (hs : s.size ≤ 1000000) (hv : (vals ts).length ≤ 1000000) (hsrc : s.data.toList = srcs ts) (hok : ∀ t ∈ ts, tokH t = true) :
    Calls Tryz.prog 12 #[.string s, .bool at_] w fun e w' => e = .returned (.string ⟨(vals ts).toArray⟩) ∧ Below w.heap.size w w' := by
  have HS := Lib.hid hsrc
  have HK := Lib.hid hok
  have HV := Lib.hid hv
  clear hsrc hok hv
  go_enter Tryz.func12, Tryz.ntmps12
  go_wp2_with fail
  go_loopw [5, 6, 7, 8] (fun o i _ _ wr => ∃ (done rest : List Tok) (t : ByteArray) (n : Nat), Hid (ts = done ++ rest) ∧ i = .int .i64 (n : Int) ∧ o = .string t ∧ Hid (t.data.toList = vals done) ∧ Hid (n = (srcs done).length) ∧ Below w.heap.size w wr) (fun _ i _ _ _ => s.size - (intOf i).toNat)
  case atStart => exact ⟨[], ts, ⟨#[]⟩, 0, rfl, rfl, rfl, rfl, rfl, Below.refl _ _⟩
  case round =>
    obtain ⟨done, rest, t, n, HD, rfl, rfl, HT, HN, hB⟩ := hrel
    have ht : t.size ≤ 1000000 := by
      have h1 := HV.out
      rw [HD.out, vals_append, List.length_append, ← HT.out, Array.length_toList] at h1
      exact Nat.le_trans (Nat.le_add_right _ _) h1
    have hdrop : Hid (s.data.toList.drop n = srcs rest) := by
      show _ = _
      rw [HS.out, HD.out, srcs_append, HN.out, List.drop_left]
    cases rest with
    | nil =>
      have hge : ¬ n < s.size := by
        have := congrArg List.length hdrop.out
        simp [srcs] at this; omega
      have HE : Hid (t = ⟨(vals ts).toArray⟩) := by
        show _ = _
        rw [HD.out, List.append_nil]; exact ba_eq HT.out
      go_wp2_with fail
      go_ret
      rw [← HE.out]
      exact ⟨rfl, hB⟩
    | cons tok rest =>
      have htok := HK.out tok (by rw [HD.out]; simp)
      have hd1 := hdrop.out
      rw [srcs_cons] at hd1
      rcases tokH_cases _ htok with ⟨b, rfl, hb⟩ | ⟨e, v, rfl, he⟩
      · obtain ⟨hi, hbs, _⟩ := drop_get hd1
        have hb38 : b.toNat ≠ 38 := fun h => hb (UInt8.toNat_inj.1 h)
        rw [← hbs] at hb38
        have g1 : ((s[n].toNat : Int) == 38) = false := by rw [beq_eq_false_iff_ne]; omega
        have HX : Hid (s.extract n (n + 1) = ⟨#[b]⟩) := ext_one hd1
        clear hb38 hbs hd1 htok hb
        go_wp2_with fail
        go_roundw
        case rel => exact ⟨done ++ [([b], [b])], rest, t ++ s.extract n (n + 1), n + 1, by rw [HD.out]; simp [Hid], by go_num, rfl, by show _ = _; rw [app_toList, HT.out, HX.out, vals_append]; rfl, by show _ = _; rw [HN.out, srcs_append]; simp [srcs], hB⟩
        case measure => simp [intOf]; omega
      · have hle := drop_le hd1 (by simp)
        obtain ⟨hi, hbs, _⟩ := drop_get hd1
        have g0 : s[n].toNat = 38 := by rw [hbs]; rfl
        have g1 : ((s[n].toNat : Int) == 38) = true := by rw [beq_iff_eq]; omega
        have H2 := Lib.hid hd1
        have HE := Lib.hid he
        rw [List.length_cons] at hle
        clear g0 hbs hd1 htok he
        go_wp2_with fail
        refine (pageRef_any s n (38 :: e) v (srcs rest) at_ _ hs H2.out HE.out).mono ?_
        rintro e' w' ⟨rfl, hb⟩
        rw [List.length_cons]
        have hvl : (⟨v.toArray⟩ : ByteArray).size ≤ 1000000 := by
          have h1 := HV.out
          rw [HD.out, vals_append, vals_cons, List.length_append, List.length_append] at h1
          dsimp only at h1
          show v.toArray.size ≤ _
          simp; omega
        go_wp2_with fail
        go_roundw
        case rel => exact ⟨done ++ [(38 :: e, v)], rest, t ++ ⟨v.toArray⟩, n + (e.length + 1), by rw [HD.out]; simp [Hid], by go_num, rfl, by show _ = _; rw [app_toList, HT.out, vals_append]; simp [vals], by show _ = _; rw [HN.out, srcs_append]; simp [srcs], hB.trans (hb.mono hB.size)⟩
        case measure => simp [intOf]; omega
end Go.Proofs.YthkinpadambpcaaGreatDoor
