/- The reader of one escape of a script, by its token. -/
import Derived.Test.YthkinpadambpcaaGreatDoorWb
import Derived.Test.YthkinpadambpcaaGreatDoorPl
import Derived.Laws.Runes
namespace Go.Proofs.YthkinpadambpcaaGreatDoor
open Go.RowKit Go.Lib

/-- A rune below the surrogates, encoded by the model and by the shelf. -/
theorem encode_eq (n : Nat) (h : n ≤ 1114111) (hs : n < 55296 ∨ 57343 < n) : Utf8.encode (n : Int) = ⟨(encodeRune (n : Int)).toArray⟩ := by
  have hv : Utf8.valid (n : Int) = true := by
    unfold Utf8.valid
    rcases hs with hs | hs
    · simp; omega
    · simp; omega
  unfold Utf8.encode
  rw [hv]
  simp only [if_true, Int.toNat_natCast]
  unfold encodeRune
  by_cases h1 : n < 128
  · rw [if_pos h1, encodeRuneZ_one (by omega) (by omega)]; simp
  · rw [if_neg h1]
    by_cases h2 : n < 2048
    · rw [if_pos h2, encodeRuneZ_two (by omega) (by omega)]
      simp only [List.map_cons, List.map_nil]
      congr 3
    · rw [if_neg h2]
      by_cases h3 : n < 65536
      · rw [if_pos h3, encodeRuneZ_three (by omega)]
        simp only [List.map_cons, List.map_nil]
        congr 3
      · rw [if_neg h3, encodeRuneZ_four (by omega) (by omega)]
        simp only [List.map_cons, List.map_nil]
        congr 3

theorem drop_get {s : ByteArray} {a : Nat} {b : UInt8} {r : List UInt8} (h : s.data.toList.drop a = b :: r) : ∃ hi : a < s.size, s[a]'hi = b ∧ s.data.toList.drop (a + 1) = r := by
  have hl : a < s.data.toList.length := by
    rcases Nat.lt_or_ge a s.data.toList.length with h' | h'
    · exact h'
    · rw [List.drop_eq_nil_of_le h'] at h; cases h
  have hi : a < s.size := by simpa using hl
  have e := List.drop_eq_getElem_cons hl
  rw [h] at e
  injection e with e1 e2
  exact ⟨hi, by rw [e1]; rfl, e2.symm⟩
theorem drop_get! {s : ByteArray} {a : Nat} {b : UInt8} {r : List UInt8} (h : s.data.toList.drop a = b :: r) : s.get! a = b ∧ s.data.toList.drop (a + 1) = r := by
  obtain ⟨hi, h1, h2⟩ := drop_get h
  exact ⟨by rw [getE s a hi]; exact h1, h2⟩
theorem drop_le {s : ByteArray} {a : Nat} {l r : List UInt8} (h : s.data.toList.drop a = l ++ r) (hne : l ≠ []) : a + l.length ≤ s.size := by
  have := congrArg List.length h
  simp at this
  have hl : 0 < l.length := List.length_pos_iff.2 hne
  omega

theorem digB_hex (b : UInt8) (h : digB b < 16) : isHx b.toNat ∧ hexI b.toNat = digB b := by
  unfold digB at h ⊢
  unfold isHx hexI
  split at h
  · next h1 => exact ⟨.inl (by omega), by rw [if_pos (by omega), if_pos h1]; omega⟩
  · next h1 =>
    split at h
    · next h2 => exact ⟨.inr (by omega), by rw [if_neg (by omega), if_pos (by omega), if_neg h1, if_pos h2]; omega⟩
    · omega

/-- Four digits at a place: each is one, and what they come to. -/
theorem hex_four {s : ByteArray} {a : Nat} {x y z t : UInt8} {r : List UInt8} (h : s.data.toList.drop a = x :: y :: z :: t :: r) (hx : digB x < 16) (hy : digB y < 16) (hz : digB z < 16) (ht : digB t < 16) :
    (∀ j, j < 4 → isHx (s.get! (a + j)).toNat) ∧ hexTo s a 4 = ((((digB x * 16 + digB y) * 16 + digB z) * 16 + digB t : Nat) : Int) := by
  obtain ⟨g0, h1⟩ := drop_get! h
  obtain ⟨g1, h2⟩ := drop_get! h1
  obtain ⟨g2, h3⟩ := drop_get! h2
  obtain ⟨g3, _⟩ := drop_get! h3
  obtain ⟨a0, b0⟩ := digB_hex x hx
  obtain ⟨a1, b1⟩ := digB_hex y hy
  obtain ⟨a2, b2⟩ := digB_hex z hz
  obtain ⟨a3, b3⟩ := digB_hex t ht
  refine ⟨fun j hj => ?_, ?_⟩
  · rcases (show j = 0 ∨ j = 1 ∨ j = 2 ∨ j = 3 by omega) with rfl | rfl | rfl | rfl
    · rw [Nat.add_zero, g0]; exact a0
    · rw [g1]; exact a1
    · rw [show a + 2 = a + 1 + 1 from rfl, g2]; exact a2
    · rw [show a + 3 = a + 1 + 1 + 1 from rfl, g3]; exact a3
  · simp only [hexTo, Nat.add_zero]
    rw [g0, g1, show a + 2 = a + 1 + 1 from rfl, g2, show a + 3 = a + 1 + 1 + 1 from rfl, g3, b0, b1, b2, b3]
    simp

set_option maxRecDepth 1000000 in
set_option maxHeartbeats 400000 in
theorem decode_ascii35 (s : ByteArray) (w : World) (hi : 0 < s.size) (hb : (s[0]'hi).toNat < 128) :
    Calls Tryz.prog 35 #[.string s] w fun e w' => e = .returned (.tuple #[.int .i32 ((s[0]'hi).toNat : Int), .int .i64 1]) ∧ w = w' := by
  have hne : s.toList.isEmpty = false := by
    rw [Lib.toList_data]
    cases h : s.data.toList with
    | nil => exact absurd (by rw [Lib.size_eq, h]; rfl) (Nat.pos_iff_ne_zero.1 hi)
    | cons _ _ => rfl
  have haz : ((s[0]'hi).toNat : Int) < 128 := by omega
  have hz0 : (0 : Int) < (s.size : Int) := by omega
  go_enter Tryz.func35, Tryz.ntmps35
  go_wp2
  go_ret2
  exact ⟨rfl, rfl⟩
/-- The escapes of a sign by itself. -/
theorem ext_pos {s : ByteArray} {a : Nat} (hi : a < s.size) : 0 < (s.extract a s.size).size := by
  rw [ByteArray.size_extract]; omega
theorem ext_zero {s : ByteArray} {a : Nat} (hi : a < s.size) : ((s.extract a s.size)[0]'(ext_pos hi)) = s[a]'hi := by
  rw [ByteArray.getElem_extract]
  congr 1
theorem jsEscape_p1 (s : ByteArray) (a : Nat) (w : World) (hs : s.size ≤ 1000000) (hi : a < s.size) (hk : (s[a]'hi).toNat < 128) (h10 : ((s[a]'hi).toNat : Int) ≠ 10) (h13 : ((s[a]'hi).toNat : Int) ≠ 13)
    (h49 : ((s[a]'hi).toNat : Int) < 48) :
    Calls Tryz.prog 20 #[.string s, .int .i64 (a : Int)] w fun e w' => e = .returned (.tuple #[.string (s.extract a (a + 1)), .int .i64 ((a + 1 : Nat) : Int)]) ∧ w = w' := by
  go_enter Tryz.func20, Tryz.ntmps20
  go_wp2_with fail
  refine (decode_ascii35 (s.extract a s.size) _ (ext_pos hi) (by rw [ext_zero hi]; exact hk)).mono ?_
  rintro e w' ⟨rfl, rfl⟩
  go_wp2_with fail
  go_ret2
  exact ⟨rfl, rfl⟩
theorem jsEscape_p2 (s : ByteArray) (a : Nat) (w : World) (hs : s.size ≤ 1000000) (hi : a < s.size) (hk : (s[a]'hi).toNat < 128)
    (h49 : 57 < ((s[a]'hi).toNat : Int)) (h98 : ((s[a]'hi).toNat : Int) ≠ 98) (h102 : ((s[a]'hi).toNat : Int) ≠ 102) (h110 : ((s[a]'hi).toNat : Int) ≠ 110) (h114 : ((s[a]'hi).toNat : Int) ≠ 114) (h116 : ((s[a]'hi).toNat : Int) ≠ 116)
    (h118 : ((s[a]'hi).toNat : Int) ≠ 118) (h120 : ((s[a]'hi).toNat : Int) ≠ 120) (h117 : ((s[a]'hi).toNat : Int) ≠ 117) :
    Calls Tryz.prog 20 #[.string s, .int .i64 (a : Int)] w fun e w' => e = .returned (.tuple #[.string (s.extract a (a + 1)), .int .i64 ((a + 1 : Nat) : Int)]) ∧ w = w' := by
  go_enter Tryz.func20, Tryz.ntmps20
  go_wp2_with fail
  refine (decode_ascii35 (s.extract a s.size) _ (ext_pos hi) (by rw [ext_zero hi]; exact hk)).mono ?_
  rintro e w' ⟨rfl, rfl⟩
  go_wp2_with fail
  go_ret2
  exact ⟨rfl, rfl⟩

theorem ext_one {s : ByteArray} {a : Nat} {b : UInt8} {r : List UInt8} (h : s.data.toList.drop a = b :: r) : s.extract a (a + 1) = ⟨#[b]⟩ := by
  apply ByteArray.ext
  apply Array.ext'
  rw [ByteArray.data_extract, Array.toList_extract]
  simp [h]

/-- THE READER OF AN ESCAPE, at whatever escape of a token. -/
theorem jsEscape_any (s : ByteArray) (a : Nat) (e v r : List UInt8) (w : World) (hs : s.size ≤ 1000000) (hd : s.data.toList.drop a = e ++ r) (he : escB e v = true) :
    Calls Tryz.prog 20 #[.string s, .int .i64 (a : Int)] w fun e' w' => e' = .returned (.tuple #[.string ⟨v.toArray⟩, .int .i64 ((a + e.length : Nat) : Int)]) ∧ w = w' := by
  rcases escB_cases e v he with ⟨k, c, rfl, rfl, hk⟩ | ⟨k, rfl, rfl, hk⟩ | ⟨x, y, z, t, rfl, hx, hy, hz, ht, hn, rfl⟩
  · obtain ⟨hi, hb, _⟩ := drop_get hd
    unfold simple at hk
    simp only [Bool.or_eq_true, Bool.and_eq_true, beq_iff_eq] at hk
    rcases hk with ((⟨rfl, rfl⟩ | ⟨rfl, rfl⟩) | ⟨rfl, rfl⟩) | ⟨rfl, rfl⟩
    · exact jsEscape_t s a w hs hi (by rw [hb]; rfl)
    · exact jsEscape_n s a w hs hi (by rw [hb]; rfl)
    · exact jsEscape_f s a w hs hi (by rw [hb]; rfl)
    · exact jsEscape_r s a w hs hi (by rw [hb]; rfl)
  · obtain ⟨hi, hb, _⟩ := drop_get hd
    have hp : (k.toNat < 48 ∧ k.toNat ≠ 10 ∧ k.toNat ≠ 13) ∨ (57 < k.toNat ∧ k.toNat < 98) ∨ (122 < k.toNat ∧ k.toNat < 128) := by
      have h0 := all_bytes (fun k => !punct k || decide ((k.toNat < 48 ∧ k.toNat ≠ 10 ∧ k.toNat ≠ 13) ∨ (57 < k.toNat ∧ k.toNat < 98) ∨ (122 < k.toNat ∧ k.toNat < 128))) (by decide +kernel) k
      simpa [hk] using h0
    have hx : s.extract a (a + 1) = ⟨#[k]⟩ := ext_one hd
    rw [show (⟨[k].toArray⟩ : ByteArray) = s.extract a (a + 1) from hx.symm]
    rcases hp with hp | hp
    · exact jsEscape_p1 s a w hs hi (by rw [hb]; omega) (by rw [hb]; omega) (by rw [hb]; omega) (by rw [hb]; omega)
    · exact jsEscape_p2 s a w hs hi (by rw [hb]; omega) (by rw [hb]; omega) (by rw [hb]; omega) (by rw [hb]; omega) (by rw [hb]; omega) (by rw [hb]; omega) (by rw [hb]; omega) (by rw [hb]; omega) (by rw [hb]; omega) (by rw [hb]; omega)
  · obtain ⟨hi, hb, hd1⟩ := drop_get hd
    obtain ⟨h1, h2⟩ := hex_four hd1 hx hy hz ht
    have hl := drop_le hd (by simp)
    have h3 := jsEscape_u s a w hs hi (by rw [hb]; rfl) (by simp at hl; omega) h1 (by rw [h2]; omega)
    rw [h2, encode_eq _ (by omega) (.inl hn)] at h3
    exact h3
end Go.Proofs.YthkinpadambpcaaGreatDoor
