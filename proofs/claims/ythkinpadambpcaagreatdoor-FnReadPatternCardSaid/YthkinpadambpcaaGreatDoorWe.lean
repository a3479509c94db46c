/- The reader of regular expressions of scripts. -/
import Derived.Test.YthkinpadambpcaaGreatDoorWd
namespace Go.Proofs.YthkinpadambpcaaGreatDoor
open Go.RowKit Go.Lib
theorem escB_head (k : UInt8) (e v : List UInt8) (h : escB (k :: e) v = true) : k = 116 ∨ k = 110 ∨ k = 102 ∨ k = 114 ∨ k = 117 ∨ k.toNat < 65 ∨ (90 < k.toNat ∧ k.toNat < 97) ∨ 122 < k.toNat := by
  rcases escB_cases _ _ h with ⟨k', c, h1, _, hk⟩ | ⟨k', h1, _, hk⟩ | ⟨x, y, z, t, h1, _⟩
  · injection h1 with h1 _
    subst h1
    unfold simple at hk
    simp only [Bool.or_eq_true, Bool.and_eq_true, beq_iff_eq] at hk
    rcases hk with ((hk | hk) | hk) | hk <;> simp [hk.1]
  · injection h1 with h1 _
    subst h1
    have h0 := all_bytes (fun k => !punct k || decide (k.toNat < 65 ∨ (90 < k.toNat ∧ k.toNat < 97) ∨ 122 < k.toNat)) (by decide +kernel) k
    simp only [hk, Bool.not_true, Bool.false_or, decide_eq_true_eq] at h0
    exact .inr (.inr (.inr (.inr (.inr h0))))
  · injection h1 with h1 _
    exact .inr (.inr (.inr (.inr (.inl h1))))

set_option maxRecDepth 100000 in
set_option maxHeartbeats 4000000 in
theorem JSRegexp_any (s : ByteArray) (ts : List Tok) (w : World) (hs : s.size ≤ 1000000) (hv : (vals ts).length ≤ 1000000) (hsrc : s.data.toList = srcs ts) (hok : ∀ t ∈ ts, tokB rawReg t = true) :
    Calls Tryz.prog 14 #[.string s] w fun e w' => e = .returned (.tuple #[.string ⟨(vals ts).toArray⟩, .bool true]) ∧ w = w' := by
  have HS := Lib.hid hsrc
  have HK := Lib.hid hok
  have HV := Lib.hid hv
  clear hsrc hok hv
  go_enter Tryz.func14, Tryz.ntmps14
  simp only [List.cons_append, List.nil_append, List.append_eq]
  go_wp2_with fail
  go_loop [4, 5] (fun o i => ∃ (done rest : List Tok) (t : ByteArray) (n : Nat), Hid (ts = done ++ rest) ∧ i = .int .i64 (n : Int) ∧ o = .string t ∧ Hid (t.data.toList = vals done) ∧ Hid (n = (srcs done).length)) (fun _ i => s.size - (intOf i).toNat)
  case atStart => exact ⟨[], ts, ⟨#[]⟩, 0, rfl, rfl, rfl, rfl, rfl⟩
  case round =>
    obtain ⟨done, rest, t, n, HD, rfl, rfl, HT, HN⟩ := hrel
    have ht : t.size ≤ 1000000 := by
      have h1 := HV.out
      rw [HD.out, vals_append, List.length_append, ← HT.out, Array.length_toList] at h1
      exact Nat.le_trans (Nat.le_add_right _ _) h1
    have hdrop : Hid (s.data.toList.drop n = srcs rest) := by
      show _ = _
      rw [HS.out, HD.out, srcs_append, HN.out, List.drop_left]
    cases rest with
    | nil =>
      have hge : ¬ n < s.size := by
        have := congrArg List.length hdrop.out
        simp [srcs] at this; omega
      have HE : Hid (t = ⟨(vals ts).toArray⟩) := by
        show _ = _
        rw [HD.out, List.append_nil]; exact ba_eq HT.out
      go_wp2_with fail
      go_ret2
      rw [← HE.out]
      exact ⟨rfl, rfl⟩
    | cons tok rest =>
      have htok := HK.out tok (by rw [HD.out]; simp)
      have hd1 := hdrop.out
      rw [srcs_cons] at hd1
      rcases tokB_cases _ _ htok with ⟨b, rfl, hb, h92⟩ | ⟨e, v, rfl, hne, he⟩
      · obtain ⟨hi, hbs, _⟩ := drop_get hd1
        have hf := all_bytes (fun b => !rawReg b || decide (b.toNat ≠ 10 ∧ b.toNat ≠ 13 ∧ b.toNat ≠ 47 ∧ b.toNat ≠ 94 ∧ b.toNat ≠ 36 ∧ b.toNat ≠ 46 ∧ b.toNat ≠ 42 ∧ b.toNat ≠ 43 ∧ b.toNat ≠ 63 ∧ b.toNat ≠ 40 ∧ b.toNat ≠ 41 ∧ b.toNat ≠ 91 ∧ b.toNat ≠ 93 ∧ b.toNat ≠ 123 ∧ b.toNat ≠ 125 ∧ b.toNat ≠ 124 ∧ b.toNat ≠ 92)) (by decide +kernel) b
        simp only [hb, Bool.not_true, Bool.false_or, decide_eq_true_eq] at hf
        rw [← hbs] at hf
        obtain ⟨f0, f1, f2, f3, f4, f5, f6, f7, f8, f9, f10, f11, f12, f13, f14, f15, f16⟩ := hf
        have g0 : ((s[n].toNat : Int) == 10) = false := by rw [beq_eq_false_iff_ne]; omega
        have g1 : ((s[n].toNat : Int) == 13) = false := by rw [beq_eq_false_iff_ne]; omega
        have g2 : ((s[n].toNat : Int) == 47) = false := by rw [beq_eq_false_iff_ne]; omega
        have g3 : ((s[n].toNat : Int) == 94) = false := by rw [beq_eq_false_iff_ne]; omega
        have g4 : ((s[n].toNat : Int) == 36) = false := by rw [beq_eq_false_iff_ne]; omega
        have g5 : ((s[n].toNat : Int) == 46) = false := by rw [beq_eq_false_iff_ne]; omega
        have g6 : ((s[n].toNat : Int) == 42) = false := by rw [beq_eq_false_iff_ne]; omega
        have g7 : ((s[n].toNat : Int) == 43) = false := by rw [beq_eq_false_iff_ne]; omega
        have g8 : ((s[n].toNat : Int) == 63) = false := by rw [beq_eq_false_iff_ne]; omega
        have g9 : ((s[n].toNat : Int) == 40) = false := by rw [beq_eq_false_iff_ne]; omega
        have g10 : ((s[n].toNat : Int) == 41) = false := by rw [beq_eq_false_iff_ne]; omega
        have g11 : ((s[n].toNat : Int) == 91) = false := by rw [beq_eq_false_iff_ne]; omega
        have g12 : ((s[n].toNat : Int) == 93) = false := by rw [beq_eq_false_iff_ne]; omega
        have g13 : ((s[n].toNat : Int) == 123) = false := by rw [beq_eq_false_iff_ne]; omega
        have g14 : ((s[n].toNat : Int) == 125) = false := by rw [beq_eq_false_iff_ne]; omega
        have g15 : ((s[n].toNat : Int) == 124) = false := by rw [beq_eq_false_iff_ne]; omega
        have g16 : ((s[n].toNat : Int) == 92) = false := by rw [beq_eq_false_iff_ne]; omega
        have HX : Hid (s.extract n (n + 1) = ⟨#[b]⟩) := ext_one hd1
        clear f0 f1 f2 f3 f4 f5 f6 f7 f8 f9 f10 f11 f12 f13 f14 f15 f16 hbs hd1 htok hb h92
        go_wp2_with fail
        go_round
        case rel => exact ⟨done ++ [([b], [b])], rest, t ++ s.extract n (n + 1), n + 1, by rw [HD.out]; simp [Hid], by go_num, rfl, by show _ = _; rw [app_toList, HT.out, HX.out, vals_append]; rfl, by show _ = _; rw [HN.out, srcs_append]; simp [srcs]⟩
        case measure => simp [intOf]; omega
      · obtain ⟨hi, hbs, hd2⟩ := drop_get hd1
        have g0 : s[n].toNat = 92 := by rw [hbs]; rfl
        have g0 : ((s[n].toNat : Int) == 10) = false := by rw [beq_eq_false_iff_ne]; omega
        have g1 : ((s[n].toNat : Int) == 13) = false := by rw [beq_eq_false_iff_ne]; omega
        have g2 : ((s[n].toNat : Int) == 47) = false := by rw [beq_eq_false_iff_ne]; omega
        have g3 : ((s[n].toNat : Int) == 94) = false := by rw [beq_eq_false_iff_ne]; omega
        have g4 : ((s[n].toNat : Int) == 36) = false := by rw [beq_eq_false_iff_ne]; omega
        have g5 : ((s[n].toNat : Int) == 46) = false := by rw [beq_eq_false_iff_ne]; omega
        have g6 : ((s[n].toNat : Int) == 42) = false := by rw [beq_eq_false_iff_ne]; omega
        have g7 : ((s[n].toNat : Int) == 43) = false := by rw [beq_eq_false_iff_ne]; omega
        have g8 : ((s[n].toNat : Int) == 63) = false := by rw [beq_eq_false_iff_ne]; omega
        have g9 : ((s[n].toNat : Int) == 40) = false := by rw [beq_eq_false_iff_ne]; omega
        have g10 : ((s[n].toNat : Int) == 41) = false := by rw [beq_eq_false_iff_ne]; omega
        have g11 : ((s[n].toNat : Int) == 91) = false := by rw [beq_eq_false_iff_ne]; omega
        have g12 : ((s[n].toNat : Int) == 93) = false := by rw [beq_eq_false_iff_ne]; omega
        have g13 : ((s[n].toNat : Int) == 123) = false := by rw [beq_eq_false_iff_ne]; omega
        have g14 : ((s[n].toNat : Int) == 125) = false := by rw [beq_eq_false_iff_ne]; omega
        have g15 : ((s[n].toNat : Int) == 124) = false := by rw [beq_eq_false_iff_ne]; omega
        have gb : ((s[n].toNat : Int) == 92) = true := by rw [beq_iff_eq]; omega
        obtain ⟨k, e', rfl⟩ : ∃ k e', e = k :: e' := by
          cases e with
          | nil => exact absurd rfl hne
          | cons k e' => exact ⟨k, e', rfl⟩
        have hkk : k = 116 ∨ k = 110 ∨ k = 102 ∨ k = 114 ∨ k = 117 ∨ k.toNat < 65 ∨ (90 < k.toNat ∧ k.toNat < 97) ∨ 122 < k.toNat := escB_head k e' v he
        obtain ⟨hi1, hb1, hd3⟩ := drop_get hd2
        have H2 := Lib.hid hd2
        have HE := Lib.hid he
        have HB := Lib.hid hb1
        clear g0 hbs hd1 hd2 htok he hb1 hd3
        have hz : (n : Int) + 1 < (s.size : Int) := by omega
        have hz1 : decide ((n : Int) + 1 < (s.size : Int)) = true := by simpa using hz
        rcases hkk with hk | hk | hk | hk | hk | hk | hk | hk
        · have gk : s[n + 1].toNat = 116 := by rw [HB.out, hk]; rfl
          clear hk
          go_wp2_with fail
          refine (jsEscape_any s (n + 1) (k :: e') v (srcs rest) _ hs H2.out HE.out).mono ?_
          rintro e' w' ⟨rfl, rfl⟩
          have hvl : (⟨v.toArray⟩ : ByteArray).size ≤ 1000000 := by
            have h1 := HV.out
            rw [HD.out, vals_append, vals_cons, List.length_append, List.length_append] at h1
            dsimp only at h1
            show v.toArray.size ≤ _
            simp; omega
          go_wp2_with fail
          go_round
          case rel => exact ⟨done ++ [(92 :: k :: e', v)], rest, t ++ ⟨v.toArray⟩, n + 1 + (k :: e').length, by rw [HD.out]; simp [Hid], by go_num, rfl, by show _ = _; rw [app_toList, HT.out, vals_append]; simp [vals], by show _ = _; rw [HN.out, srcs_append]; simp [srcs]; omega⟩
          case measure => simp [intOf]; omega
        · have gk : s[n + 1].toNat = 110 := by rw [HB.out, hk]; rfl
          clear hk
          go_wp2_with fail
          refine (jsEscape_any s (n + 1) (k :: e') v (srcs rest) _ hs H2.out HE.out).mono ?_
          rintro e' w' ⟨rfl, rfl⟩
          have hvl : (⟨v.toArray⟩ : ByteArray).size ≤ 1000000 := by
            have h1 := HV.out
            rw [HD.out, vals_append, vals_cons, List.length_append, List.length_append] at h1
            dsimp only at h1
            show v.toArray.size ≤ _
            simp; omega
          go_wp2_with fail
          go_round
          case rel => exact ⟨done ++ [(92 :: k :: e', v)], rest, t ++ ⟨v.toArray⟩, n + 1 + (k :: e').length, by rw [HD.out]; simp [Hid], by go_num, rfl, by show _ = _; rw [app_toList, HT.out, vals_append]; simp [vals], by show _ = _; rw [HN.out, srcs_append]; simp [srcs]; omega⟩
          case measure => simp [intOf]; omega
        · have gk : s[n + 1].toNat = 102 := by rw [HB.out, hk]; rfl
          clear hk
          go_wp2_with fail
          refine (jsEscape_any s (n + 1) (k :: e') v (srcs rest) _ hs H2.out HE.out).mono ?_
          rintro e' w' ⟨rfl, rfl⟩
          have hvl : (⟨v.toArray⟩ : ByteArray).size ≤ 1000000 := by
            have h1 := HV.out
            rw [HD.out, vals_append, vals_cons, List.length_append, List.length_append] at h1
            dsimp only at h1
            show v.toArray.size ≤ _
            simp; omega
          go_wp2_with fail
          go_round
          case rel => exact ⟨done ++ [(92 :: k :: e', v)], rest, t ++ ⟨v.toArray⟩, n + 1 + (k :: e').length, by rw [HD.out]; simp [Hid], by go_num, rfl, by show _ = _; rw [app_toList, HT.out, vals_append]; simp [vals], by show _ = _; rw [HN.out, srcs_append]; simp [srcs]; omega⟩
          case measure => simp [intOf]; omega
        · have gk : s[n + 1].toNat = 114 := by rw [HB.out, hk]; rfl
          clear hk
          go_wp2_with fail
          refine (jsEscape_any s (n + 1) (k :: e') v (srcs rest) _ hs H2.out HE.out).mono ?_
          rintro e' w' ⟨rfl, rfl⟩
          have hvl : (⟨v.toArray⟩ : ByteArray).size ≤ 1000000 := by
            have h1 := HV.out
            rw [HD.out, vals_append, vals_cons, List.length_append, List.length_append] at h1
            dsimp only at h1
            show v.toArray.size ≤ _
            simp; omega
          go_wp2_with fail
          go_round
          case rel => exact ⟨done ++ [(92 :: k :: e', v)], rest, t ++ ⟨v.toArray⟩, n + 1 + (k :: e').length, by rw [HD.out]; simp [Hid], by go_num, rfl, by show _ = _; rw [app_toList, HT.out, vals_append]; simp [vals], by show _ = _; rw [HN.out, srcs_append]; simp [srcs]; omega⟩
          case measure => simp [intOf]; omega
        · have gk : s[n + 1].toNat = 117 := by rw [HB.out, hk]; rfl
          clear hk
          go_wp2_with fail
          refine (jsEscape_any s (n + 1) (k :: e') v (srcs rest) _ hs H2.out HE.out).mono ?_
          rintro e' w' ⟨rfl, rfl⟩
          have hvl : (⟨v.toArray⟩ : ByteArray).size ≤ 1000000 := by
            have h1 := HV.out
            rw [HD.out, vals_append, vals_cons, List.length_append, List.length_append] at h1
            dsimp only at h1
            show v.toArray.size ≤ _
            simp; omega
          go_wp2_with fail
          go_round
          case rel => exact ⟨done ++ [(92 :: k :: e', v)], rest, t ++ ⟨v.toArray⟩, n + 1 + (k :: e').length, by rw [HD.out]; simp [Hid], by go_num, rfl, by show _ = _; rw [app_toList, HT.out, vals_append]; simp [vals], by show _ = _; rw [HN.out, srcs_append]; simp [srcs]; omega⟩
          case measure => simp [intOf]; omega
        · have gk : (s[n + 1].toNat : Int) < 65 := by rw [HB.out]; omega
          clear hk
          go_wp2_with fail
          refine (jsEscape_any s (n + 1) (k :: e') v (srcs rest) _ hs H2.out HE.out).mono ?_
          rintro e' w' ⟨rfl, rfl⟩
          have hvl : (⟨v.toArray⟩ : ByteArray).size ≤ 1000000 := by
            have h1 := HV.out
            rw [HD.out, vals_append, vals_cons, List.length_append, List.length_append] at h1
            dsimp only at h1
            show v.toArray.size ≤ _
            simp; omega
          go_wp2_with fail
          go_round
          case rel => exact ⟨done ++ [(92 :: k :: e', v)], rest, t ++ ⟨v.toArray⟩, n + 1 + (k :: e').length, by rw [HD.out]; simp [Hid], by go_num, rfl, by show _ = _; rw [app_toList, HT.out, vals_append]; simp [vals], by show _ = _; rw [HN.out, srcs_append]; simp [srcs]; omega⟩
          case measure => simp [intOf]; omega
        · have gk : 90 < (s[n + 1].toNat : Int) := by rw [HB.out]; omega
          have gl : (s[n + 1].toNat : Int) < 97 := by rw [HB.out]; omega
          clear hk
          go_wp2_with fail
          refine (jsEscape_any s (n + 1) (k :: e') v (srcs rest) _ hs H2.out HE.out).mono ?_
          rintro e' w' ⟨rfl, rfl⟩
          have hvl : (⟨v.toArray⟩ : ByteArray).size ≤ 1000000 := by
            have h1 := HV.out
            rw [HD.out, vals_append, vals_cons, List.length_append, List.length_append] at h1
            dsimp only at h1
            show v.toArray.size ≤ _
            simp; omega
          go_wp2_with fail
          go_round
          case rel => exact ⟨done ++ [(92 :: k :: e', v)], rest, t ++ ⟨v.toArray⟩, n + 1 + (k :: e').length, by rw [HD.out]; simp [Hid], by go_num, rfl, by show _ = _; rw [app_toList, HT.out, vals_append]; simp [vals], by show _ = _; rw [HN.out, srcs_append]; simp [srcs]; omega⟩
          case measure => simp [intOf]; omega
        · have gk : 122 < (s[n + 1].toNat : Int) := by rw [HB.out]; omega
          clear hk
          go_wp2_with fail
          refine (jsEscape_any s (n + 1) (k :: e') v (srcs rest) _ hs H2.out HE.out).mono ?_
          rintro e' w' ⟨rfl, rfl⟩
          have hvl : (⟨v.toArray⟩ : ByteArray).size ≤ 1000000 := by
            have h1 := HV.out
            rw [HD.out, vals_append, vals_cons, List.length_append, List.length_append] at h1
            dsimp only at h1
            show v.toArray.size ≤ _
            simp; omega
          go_wp2_with fail
          go_round
          case rel => exact ⟨done ++ [(92 :: k :: e', v)], rest, t ++ ⟨v.toArray⟩, n + 1 + (k :: e').length, by rw [HD.out]; simp [Hid], by go_num, rfl, by show _ = _; rw [app_toList, HT.out, vals_append]; simp [vals], by show _ = _; rw [HN.out, srcs_append]; simp [srcs]; omega⟩
          case measure => simp [intOf]; omega
end Go.Proofs.YthkinpadambpcaaGreatDoor
