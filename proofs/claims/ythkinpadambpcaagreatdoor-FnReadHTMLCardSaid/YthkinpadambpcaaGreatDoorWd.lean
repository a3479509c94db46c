/- The readers of strings, template literals and regular expressions of scripts: what is a list of tokens is read as what they say. -/
import Derived.Test.YthkinpadambpcaaGreatDoorWc
namespace Go.Proofs.YthkinpadambpcaaGreatDoor
open Go.RowKit Go.Lib

theorem app_toList (a b : ByteArray) : (a ++ b).data.toList = a.data.toList ++ b.data.toList := by simp
theorem mk_toList (l : List UInt8) : (⟨l.toArray⟩ : ByteArray).data.toList = l := rfl
theorem ba_eq {t : ByteArray} {l : List UInt8} (h : t.data.toList = l) : t = ⟨l.toArray⟩ := by
  apply ByteArray.ext
  apply Array.ext'
  simpa using h

set_option maxHeartbeats 800000 in
theorem JSString_any (s : ByteArray) (q : Int) (ts : List Tok) (w : World) (hs : s.size ≤ 1000000) (hv : (vals ts).length ≤ 1000000) (hq : q = 34 ∨ q = 39) (hsrc : s.data.toList = srcs ts) (hok : ∀ t ∈ ts, tokB rawStr t = true) :
    Calls Tryz.prog 16 #[.string s, .int .u8 q] w fun e w' => e = .returned (.tuple #[.string ⟨(vals ts).toArray⟩, .bool true]) ∧ w = w' := by
  have HS := Lib.hid hsrc
  have HK := Lib.hid hok
  have HQ := Lib.hid hq
  have HV := Lib.hid hv
  clear hsrc hok hq hv
  go_enter Tryz.func16, Tryz.ntmps16
  go_wp2_with fail
  go_loop [6, 7] (fun o i => ∃ (done rest : List Tok) (t : ByteArray) (n : Nat), Hid (ts = done ++ rest) ∧ i = .int .i64 (n : Int) ∧ o = .string t ∧ Hid (t.data.toList = vals done) ∧ Hid (n = (srcs done).length)) (fun _ i => s.size - (intOf i).toNat)
  case atStart => exact ⟨[], ts, ⟨#[]⟩, 0, rfl, rfl, rfl, rfl, rfl⟩
  case round =>
    obtain ⟨done, rest, t, n, HD, rfl, rfl, HT, HN⟩ := hrel
    have ht : t.size ≤ 1000000 := by
      have h1 := HV.out
      rw [HD.out, vals_append, List.length_append, ← HT.out, Array.length_toList] at h1
      exact Nat.le_trans (Nat.le_add_right _ _) h1
    have hdrop : Hid (s.data.toList.drop n = srcs rest) := by
      show _ = _
      rw [HS.out, HD.out, srcs_append, HN.out, List.drop_left]
    cases rest with
    | nil =>
      have hge : ¬ n < s.size := by
        have := congrArg List.length hdrop.out
        simp [srcs] at this; omega
      have HE : Hid (t = ⟨(vals ts).toArray⟩) := by
        show _ = _
        rw [HD.out, List.append_nil]; exact ba_eq HT.out
      go_wp2_with fail
      go_ret2
      rw [← HE.out]
      exact ⟨rfl, rfl⟩
    | cons tok rest =>
      have htok := HK.out tok (by rw [HD.out]; simp)
      have hd1 := hdrop.out
      rw [srcs_cons] at hd1
      rcases tokB_cases _ _ htok with ⟨b, rfl, hb, h92⟩ | ⟨e, v, rfl, hne, he⟩
      · obtain ⟨hi, hbs, _⟩ := drop_get hd1
        have hf := all_bytes (fun b => !rawStr b || decide (b.toNat ≠ 34 ∧ b.toNat ≠ 39 ∧ b.toNat ≠ 10 ∧ b.toNat ≠ 13 ∧ b.toNat ≠ 92)) (by decide +kernel) b
        simp only [hb, Bool.not_true, Bool.false_or, decide_eq_true_eq] at hf
        rw [← hbs] at hf
        obtain ⟨f1, f2, f3, f4, f5⟩ := hf
        have g1 : ((s[n].toNat : Int) == q) = false := by rw [beq_eq_false_iff_ne]; have := HQ.out; omega
        have g2 : ((s[n].toNat : Int) == 10) = false := by rw [beq_eq_false_iff_ne]; omega
        have g3 : ((s[n].toNat : Int) == 13) = false := by rw [beq_eq_false_iff_ne]; omega
        have g4 : ((s[n].toNat : Int) != 92) = true := by rw [bne_iff_ne]; omega
        have HX : Hid (s.extract n (n + 1) = ⟨#[b]⟩) := ext_one hd1
        clear f1 f2 f3 f4 f5 hbs hd1 htok hb h92
        go_wp2_with fail
        go_round
        case rel => exact ⟨done ++ [([b], [b])], rest, t ++ s.extract n (n + 1), n + 1, by rw [HD.out]; simp [Hid], by go_num, rfl, by show _ = _; rw [app_toList, HT.out, HX.out, vals_append]; rfl, by show _ = _; rw [HN.out, srcs_append]; simp [srcs]⟩
        case measure => simp [intOf]; omega
      · obtain ⟨hi, hbs, hd2⟩ := drop_get hd1
        have g0 : s[n].toNat = 92 := by rw [hbs]; rfl
        have g1 : ((s[n].toNat : Int) == q) = false := by rw [beq_eq_false_iff_ne]; have := HQ.out; omega
        have g2 : ((s[n].toNat : Int) == 10) = false := by rw [beq_eq_false_iff_ne]; omega
        have g3 : ((s[n].toNat : Int) == 13) = false := by rw [beq_eq_false_iff_ne]; omega
        have g4 : ((s[n].toNat : Int) != 92) = false := by rw [bne_eq_false_iff_eq]; omega
        have H2 := Lib.hid hd2
        have HE := Lib.hid he
        clear g0 hbs hd1 hd2 htok he
        go_wp2_with fail
        refine (jsEscape_any s (n + 1) e v (srcs rest) _ hs H2.out HE.out).mono ?_
        rintro e' w' ⟨rfl, rfl⟩
        have hvl : (⟨v.toArray⟩ : ByteArray).size ≤ 1000000 := by
          have h1 := HV.out
          rw [HD.out, vals_append, vals_cons, List.length_append, List.length_append] at h1
          dsimp only at h1
          show v.toArray.size ≤ _
          simp; omega
        go_wp2_with fail
        go_round
        case rel => exact ⟨done ++ [(92 :: e, v)], rest, t ++ ⟨v.toArray⟩, n + 1 + e.length, by rw [HD.out]; simp [Hid], by go_num, rfl, by show _ = _; rw [app_toList, HT.out, vals_append]; simp [vals], by show _ = _; rw [HN.out, srcs_append]; simp [srcs]; omega⟩
        case measure => simp [intOf]; omega

set_option maxHeartbeats 800000 in
theorem JSTemplate_any (s : ByteArray) (ts : List Tok) (w : World) (hs : s.size ≤ 1000000) (hv : (vals ts).length ≤ 1000000) (hsrc : s.data.toList = srcs ts) (hok : ∀ t ∈ ts, tokB rawTmpl t = true) :
    Calls Tryz.prog 15 #[.string s] w fun e w' => e = .returned (.tuple #[.string ⟨(vals ts).toArray⟩, .bool true]) ∧ w = w' := by
  have HS := Lib.hid hsrc
  have HK := Lib.hid hok
  have HV := Lib.hid hv
  clear hsrc hok hv
  go_enter Tryz.func15, Tryz.ntmps15
  go_wp2_with fail
  go_loop [4, 5] (fun o i => ∃ (done rest : List Tok) (t : ByteArray) (n : Nat), Hid (ts = done ++ rest) ∧ i = .int .i64 (n : Int) ∧ o = .string t ∧ Hid (t.data.toList = vals done) ∧ Hid (n = (srcs done).length)) (fun _ i => s.size - (intOf i).toNat)
  case atStart => exact ⟨[], ts, ⟨#[]⟩, 0, rfl, rfl, rfl, rfl, rfl⟩
  case round =>
    obtain ⟨done, rest, t, n, HD, rfl, rfl, HT, HN⟩ := hrel
    have ht : t.size ≤ 1000000 := by
      have h1 := HV.out
      rw [HD.out, vals_append, List.length_append, ← HT.out, Array.length_toList] at h1
      exact Nat.le_trans (Nat.le_add_right _ _) h1
    have hdrop : Hid (s.data.toList.drop n = srcs rest) := by
      show _ = _
      rw [HS.out, HD.out, srcs_append, HN.out, List.drop_left]
    cases rest with
    | nil =>
      have hge : ¬ n < s.size := by
        have := congrArg List.length hdrop.out
        simp [srcs] at this; omega
      have HE : Hid (t = ⟨(vals ts).toArray⟩) := by
        show _ = _
        rw [HD.out, List.append_nil]; exact ba_eq HT.out
      go_wp2_with fail
      go_ret2
      rw [← HE.out]
      exact ⟨rfl, rfl⟩
    | cons tok rest =>
      have htok := HK.out tok (by rw [HD.out]; simp)
      have hd1 := hdrop.out
      rw [srcs_cons] at hd1
      rcases tokB_cases _ _ htok with ⟨b, rfl, hb, h92⟩ | ⟨e, v, rfl, hne, he⟩
      · obtain ⟨hi, hbs, _⟩ := drop_get hd1
        have hf := all_bytes (fun b => !rawTmpl b || decide (b.toNat ≠ 96 ∧ b.toNat ≠ 36 ∧ b.toNat ≠ 92)) (by decide +kernel) b
        simp only [hb, Bool.not_true, Bool.false_or, decide_eq_true_eq] at hf
        rw [← hbs] at hf
        obtain ⟨f1, f2, f3⟩ := hf
        have g1 : ((s[n].toNat : Int) == 96) = false := by rw [beq_eq_false_iff_ne]; omega
        have g2 : ((s[n].toNat : Int) == 36) = false := by rw [beq_eq_false_iff_ne]; omega
        have g4 : ((s[n].toNat : Int) != 92) = true := by rw [bne_iff_ne]; omega
        have HX : Hid (s.extract n (n + 1) = ⟨#[b]⟩) := ext_one hd1
        clear f1 f2 f3 hbs hd1 htok hb h92
        go_wp2_with fail
        go_round
        case rel => exact ⟨done ++ [([b], [b])], rest, t ++ s.extract n (n + 1), n + 1, by rw [HD.out]; simp [Hid], by go_num, rfl, by show _ = _; rw [app_toList, HT.out, HX.out, vals_append]; rfl, by show _ = _; rw [HN.out, srcs_append]; simp [srcs]⟩
        case measure => simp [intOf]; omega
      · obtain ⟨hi, hbs, hd2⟩ := drop_get hd1
        have g0 : s[n].toNat = 92 := by rw [hbs]; rfl
        have g1 : ((s[n].toNat : Int) == 96) = false := by rw [beq_eq_false_iff_ne]; omega
        have g2 : ((s[n].toNat : Int) == 36) = false := by rw [beq_eq_false_iff_ne]; omega
        have g4 : ((s[n].toNat : Int) != 92) = false := by rw [bne_eq_false_iff_eq]; omega
        have H2 := Lib.hid hd2
        have HE := Lib.hid he
        clear g0 hbs hd1 hd2 htok he
        go_wp2_with fail
        refine (jsEscape_any s (n + 1) e v (srcs rest) _ hs H2.out HE.out).mono ?_
        rintro e' w' ⟨rfl, rfl⟩
        have hvl : (⟨v.toArray⟩ : ByteArray).size ≤ 1000000 := by
          have h1 := HV.out
          rw [HD.out, vals_append, vals_cons, List.length_append, List.length_append] at h1
          dsimp only at h1
          show v.toArray.size ≤ _
          simp; omega
        go_wp2_with fail
        go_round
        case rel => exact ⟨done ++ [(92 :: e, v)], rest, t ++ ⟨v.toArray⟩, n + 1 + e.length, by rw [HD.out]; simp [Hid], by go_num, rfl, by show _ = _; rw [app_toList, HT.out, vals_append]; simp [vals], by show _ = _; rw [HN.out, srcs_append]; simp [srcs]; omega⟩
        case measure => simp [intOf]; omega
end Go.Proofs.YthkinpadambpcaaGreatDoor
