/- Plain laws: an escaper that puts a text in the place of some runes, as a list of tokens (what is written, what it says). No program in sight. -/
import Derived.Lib.MapLaws
namespace Go.Proofs.YthkinpadambpcaaGreatDoor
open Go Go.Lib

/-- What an escaper writes: for each rune of the text its replacement, or its own bytes. -/
def escF (f : Nat → Option (List UInt8)) : Nat → List UInt8 → List UInt8
  | 0, _ => []
  | n + 1, l => if l = [] then [] else (f (decodeL l).1).getD (l.take (decodeL l).2) ++ escF f n (l.drop (decodeL l).2)
def esc (f : Nat → Option (List UInt8)) (l : List UInt8) : List UInt8 := escF f l.length l

theorem escF_nil (f : Nat → Option (List UInt8)) : ∀ n, escF f n [] = []
  | 0 => rfl
  | _ + 1 => by simp [escF]
theorem escF_fuel (f : Nat → Option (List UInt8)) : ∀ (n m : Nat) (l : List UInt8), l.length ≤ n → l.length ≤ m → escF f n l = escF f m l
  | 0, m, l, hn, _ => by
    have : l = [] := List.eq_nil_of_length_eq_zero (by omega)
    subst this
    rw [escF_nil, escF_nil]
  | n + 1, 0, l, _, hm => by
    have : l = [] := List.eq_nil_of_length_eq_zero (by omega)
    subst this
    rw [escF_nil, escF_nil]
  | n + 1, m + 1, l, hn, hm => by
    by_cases hne : l = []
    · subst hne
      rw [escF_nil, escF_nil]
    · have hw := decodeL_width l
      have hl : 0 < l.length := List.length_pos_iff.2 hne
      simp only [escF, if_neg hne]
      rw [escF_fuel f n m _ (by rw [List.length_drop]; omega) (by rw [List.length_drop]; omega)]
theorem esc_nil (f : Nat → Option (List UInt8)) : esc f [] = [] := rfl
theorem esc_step (f : Nat → Option (List UInt8)) (l : List UInt8) (hne : l ≠ []) :
    esc f l = (f (decodeL l).1).getD (l.take (decodeL l).2) ++ esc f (l.drop (decodeL l).2) := by
  have hw := decodeL_width l
  have hl : 0 < l.length := List.length_pos_iff.2 hne
  unfold esc
  obtain ⟨n, hn⟩ : ∃ n, l.length = n + 1 := ⟨l.length - 1, by omega⟩
  rw [hn]
  simp only [escF, if_neg hne]
  rw [escF_fuel f n _ _ (by rw [List.length_drop]; omega) (Nat.le_refl _)]

/-- No rune of the text is U+FFFD (nor a byte that is no UTF-8). -/
def cleanF : Nat → List UInt8 → Bool
  | 0, _ => true
  | n + 1, l => if l = [] then true else if (decodeL l).1 = 65533 then false else cleanF n (l.drop (decodeL l).2)
def clean (l : List UInt8) : Bool := cleanF l.length l
theorem cleanF_nil : ∀ n, cleanF n [] = true
  | 0 => rfl
  | _ + 1 => by simp [cleanF]
theorem cleanF_fuel : ∀ (n m : Nat) (l : List UInt8), l.length ≤ n → l.length ≤ m → cleanF n l = cleanF m l
  | 0, m, l, hn, _ => by
    have : l = [] := List.eq_nil_of_length_eq_zero (by omega)
    subst this
    rw [cleanF_nil, cleanF_nil]
  | n + 1, 0, l, _, hm => by
    have : l = [] := List.eq_nil_of_length_eq_zero (by omega)
    subst this
    rw [cleanF_nil, cleanF_nil]
  | n + 1, m + 1, l, hn, hm => by
    by_cases hne : l = []
    · subst hne
      rw [cleanF_nil, cleanF_nil]
    · have hw := decodeL_width l
      have hl : 0 < l.length := List.length_pos_iff.2 hne
      simp only [cleanF, if_neg hne]
      rw [cleanF_fuel n m _ (by rw [List.length_drop]; omega) (by rw [List.length_drop]; omega)]
theorem clean_nil : clean [] = true := rfl
theorem clean_step (l : List UInt8) (hne : l ≠ []) : clean l = if (decodeL l).1 = 65533 then false else clean (l.drop (decodeL l).2) := by
  have hw := decodeL_width l
  have hl : 0 < l.length := List.length_pos_iff.2 hne
  unfold clean
  obtain ⟨n, hn⟩ : ∃ n, l.length = n + 1 := ⟨l.length - 1, by omega⟩
  rw [hn]
  simp only [cleanF, if_neg hne]
  rw [cleanF_fuel n _ _ (by rw [List.length_drop]; omega) (Nat.le_refl _)]

abbrev Tok := List UInt8 × List UInt8
def srcs (ts : List Tok) : List UInt8 := ts.flatMap (·.1)
def vals (ts : List Tok) : List UInt8 := ts.flatMap (·.2)
theorem srcs_append (a b : List Tok) : srcs (a ++ b) = srcs a ++ srcs b := by simp [srcs]
theorem vals_append (a b : List Tok) : vals (a ++ b) = vals a ++ vals b := by simp [vals]
theorem srcs_cons (a : Tok) (b : List Tok) : srcs (a :: b) = a.1 ++ srcs b := by simp [srcs]
theorem vals_cons (a : Tok) (b : List Tok) : vals (a :: b) = a.2 ++ vals b := by simp [vals]

/-- Bytes that stand for themselves. -/
def raws (l : List UInt8) : List Tok := l.map fun b => ([b], [b])
theorem srcs_raws (l : List UInt8) : srcs (raws l) = l := by
  induction l with
  | nil => rfl
  | cons b t ih => simp only [raws, List.map_cons, srcs_cons] at *; rw [ih]; rfl
theorem vals_raws (l : List UInt8) : vals (raws l) = l := by
  induction l with
  | nil => rfl
  | cons b t ih => simp only [raws, List.map_cons, vals_cons] at *; rw [ih]; rfl

/-- WHAT IS WRITTEN OF A CLEAN TEXT is a list of tokens that say the text: each a replacement that says its rune, or a byte of a rune that has none. -/
theorem toks_ex (f : Nat → Option (List UInt8)) (OK : Tok → Prop)
    (nz : Prop) (hesc : ∀ (r : Nat) (e : List UInt8), (nz → r ≠ 0) → r ≠ 65533 → r ≤ 1114111 → f r = some e → OK (e, encodeRune r))
    (hraw : ∀ (r : Nat), (nz → r ≠ 0) → r ≠ 65533 → r ≤ 1114111 → f r = none → ∀ b ∈ encodeRune r, OK ([b], [b])) :
    ∀ (n : Nat) (l : List UInt8), l.length ≤ n → clean l = true → (nz → (0 : UInt8) ∉ l) → ∃ ts : List Tok, srcs ts = esc f l ∧ vals ts = l ∧ ∀ t ∈ ts, OK t := by
  intro n
  induction n with
  | zero =>
    intro l hl _ _
    have : l = [] := List.eq_nil_of_length_eq_zero (by omega)
    subst this
    exact ⟨[], rfl, rfl, by simp⟩
  | succ n ih =>
    intro l hl hc hz
    by_cases hne : l = []
    · subst hne
      exact ⟨[], rfl, rfl, by simp⟩
    · have hw := decodeL_width l
      have hp : 0 < l.length := List.length_pos_iff.2 hne
      rw [clean_step l hne] at hc
      by_cases hbad : (decodeL l).1 = 65533
      · rw [if_pos hbad] at hc; cases hc
      rw [if_neg hbad] at hc
      have henc := encode_decode l hne (fun h => hbad h.1)
      have hmax : (decodeL l).1 ≤ 1114111 := by
        rw [decodeL_N]
        have k0 := (l.getD 0 0).toNat_lt
        rcases decodeN_shape l.length (l.getD 0 0).toNat (l.getD 1 0).toNat (l.getD 2 0).toNat (l.getD 3 0).toNat with ⟨c, e⟩ | ⟨c1, c2, c3, cv, e⟩ | ⟨c1, c2, c3, c4, cv, cs, e⟩ | ⟨c1, c2, c3, c4, c5, cv, cw, e⟩ | e
        all_goals (rw [e]; dsimp only; omega)
      obtain ⟨ts, h1, h2, h3⟩ := ih (l.drop (decodeL l).2) (by rw [List.length_drop]; omega) hc (fun k hm => hz k (List.mem_of_mem_drop hm))
      have hr0 : nz → (decodeL l).1 ≠ 0 := fun k e0 => by
        rw [e0] at henc
        have hm : (0 : UInt8) ∈ l.take (decodeL l).2 := by rw [← henc]; decide +kernel
        exact hz k (List.mem_of_mem_take hm)
      rw [esc_step f l hne]
      cases hf : f (decodeL l).1 with
      | some e =>
        refine ⟨(e, encodeRune (decodeL l).1) :: ts, ?_, ?_, ?_⟩
        · rw [srcs_cons, h1]; rfl
        · rw [vals_cons, h2, henc]; exact List.take_append_drop _ _
        · intro t ht
          rcases List.mem_cons.1 ht with rfl | ht
          · exact hesc _ e hr0 hbad hmax hf
          · exact h3 t ht
      | none =>
        refine ⟨raws (l.take (decodeL l).2) ++ ts, ?_, ?_, ?_⟩
        · rw [srcs_append, srcs_raws, h1]; rfl
        · rw [vals_append, vals_raws, h2]; exact List.take_append_drop _ _
        · intro t ht
          rcases List.mem_append.1 ht with ht | ht
          · obtain ⟨b, hb, rfl⟩ := List.mem_map.1 ht
            exact hraw _ hr0 hbad hmax hf b (by rw [henc]; exact hb)
          · exact h3 t ht

/-! ### the tables -/
def lowTab : List (List UInt8) := [[92, 117, 48, 48, 48, 48], [92, 117, 48, 48, 48, 49], [92, 117, 48, 48, 48, 50], [92, 117, 48, 48, 48, 51], [92, 117, 48, 48, 48, 52], [92, 117, 48, 48, 48, 53], [92, 117, 48, 48, 48, 54], [92, 117, 48, 48, 48, 55], [92, 117, 48, 48, 48, 56], [92, 116], [92, 110], [92, 117, 48, 48, 48, 98], [92, 102], [92, 114], [92, 117, 48, 48, 48, 101], [92, 117, 48, 48, 48, 102], [92, 117, 48, 48, 49, 48], [92, 117, 48, 48, 49, 49], [92, 117, 48, 48, 49, 50], [92, 117, 48, 48, 49, 51], [92, 117, 48, 48, 49, 52], [92, 117, 48, 48, 49, 53], [92, 117, 48, 48, 49, 54], [92, 117, 48, 48, 49, 55], [92, 117, 48, 48, 49, 56], [92, 117, 48, 48, 49, 57], [92, 117, 48, 48, 49, 97], [92, 117, 48, 48, 49, 98], [92, 117, 48, 48, 49, 99], [92, 117, 48, 48, 49, 100], [92, 117, 48, 48, 49, 101], [92, 117, 48, 48, 49, 102]]
def strTab : List (List UInt8) := [[92, 117, 48, 48, 48, 48], [], [], [], [], [], [], [], [], [92, 116], [92, 110], [92, 117, 48, 48, 48, 98], [92, 102], [92, 114], [], [], [], [], [], [], [], [], [], [], [], [], [], [], [], [], [], [], [], [], [92, 117, 48, 48, 50, 50], [], [], [], [92, 117, 48, 48, 50, 54], [92, 117, 48, 48, 50, 55], [], [], [], [92, 117, 48, 48, 50, 98], [], [], [], [92, 47], [], [], [], [], [], [], [], [], [], [], [], [], [92, 117, 48, 48, 51, 99], [], [92, 117, 48, 48, 51, 101], [], [], [], [], [], [], [], [], [], [], [], [], [], [], [], [], [], [], [], [], [], [], [], [], [], [], [], [], [], [92, 92], [], [], [], [92, 117, 48, 48, 54, 48]]
def bqTab : List (List UInt8) := [[92, 117, 48, 48, 48, 48], [], [], [], [], [], [], [], [], [92, 116], [92, 110], [92, 117, 48, 48, 48, 98], [92, 102], [92, 114], [], [], [], [], [], [], [], [], [], [], [], [], [], [], [], [], [], [], [], [], [92, 117, 48, 48, 50, 50], [], [92, 117, 48, 48, 50, 52], [], [92, 117, 48, 48, 50, 54], [92, 117, 48, 48, 50, 55], [], [], [], [92, 117, 48, 48, 50, 98], [], [], [], [92, 47], [], [], [], [], [], [], [], [], [], [], [], [], [92, 117, 48, 48, 51, 99], [], [92, 117, 48, 48, 51, 101], [], [], [], [], [], [], [], [], [], [], [], [], [], [], [], [], [], [], [], [], [], [], [], [], [], [], [], [], [], [92, 92], [], [], [], [92, 117, 48, 48, 54, 48], [], [], [], [], [], [], [], [], [], [], [], [], [], [], [], [], [], [], [], [], [], [], [], [], [], [], [92, 117, 48, 48, 55, 98], [], [92, 117, 48, 48, 55, 100]]
def regTab : List (List UInt8) := [[92, 117, 48, 48, 48, 48], [], [], [], [], [], [], [], [], [92, 116], [92, 110], [92, 117, 48, 48, 48, 98], [92, 102], [92, 114], [], [], [], [], [], [], [], [], [], [], [], [], [], [], [], [], [], [], [], [], [92, 117, 48, 48, 50, 50], [], [92, 36], [], [92, 117, 48, 48, 50, 54], [92, 117, 48, 48, 50, 55], [92, 40], [92, 41], [92, 42], [92, 117, 48, 48, 50, 98], [], [92, 45], [92, 46], [92, 47], [], [], [], [], [], [], [], [], [], [], [], [], [92, 117, 48, 48, 51, 99], [], [92, 117, 48, 48, 51, 101], [92, 63], [], [], [], [], [], [], [], [], [], [], [], [], [], [], [], [], [], [], [], [], [], [], [], [], [], [], [], [92, 91], [92, 92], [92, 93], [92, 94], [], [], [], [], [], [], [], [], [], [], [], [], [], [], [], [], [], [], [], [], [], [], [], [], [], [], [], [], [92, 123], [92, 124], [92, 125]]
def htmlTab : List (List UInt8) := [[239, 191, 189], [], [], [], [], [], [], [], [], [], [], [], [], [], [], [], [], [], [], [], [], [], [], [], [], [], [], [], [], [], [], [], [], [], [38, 35, 51, 52, 59], [], [], [], [38, 97, 109, 112, 59], [38, 35, 51, 57, 59], [], [], [], [38, 35, 52, 51, 59], [], [], [], [], [], [], [], [], [], [], [], [], [], [], [], [], [38, 108, 116, 59], [], [38, 103, 116, 59]]
def bareTab : List (List UInt8) := [[38, 35, 120, 102, 102, 102, 100, 59], [], [], [], [], [], [], [], [], [38, 35, 57, 59], [38, 35, 49, 48, 59], [38, 35, 49, 49, 59], [38, 35, 49, 50, 59], [38, 35, 49, 51, 59], [], [], [], [], [], [], [], [], [], [], [], [], [], [], [], [], [], [], [38, 35, 51, 50, 59], [], [38, 35, 51, 52, 59], [], [], [], [38, 97, 109, 112, 59], [38, 35, 51, 57, 59], [], [], [], [38, 35, 52, 51, 59], [], [], [], [], [], [], [], [], [], [], [], [], [], [], [], [], [38, 108, 116, 59], [38, 35, 54, 49, 59], [38, 103, 116, 59], [], [], [], [], [], [], [], [], [], [], [], [], [], [], [], [], [], [], [], [], [], [], [], [], [], [], [], [], [], [], [], [], [], [38, 35, 57, 54, 59]]

def u2028 : List UInt8 := [92, 117, 50, 48, 50, 56]
def u2029 : List UInt8 := [92, 117, 50, 48, 50, 57]
/-- What 'replace' puts in the place of a rune. -/
def repF (tab : List (List UInt8)) (r : Nat) : Option (List UInt8) :=
  if r < 32 then some (lowTab.getD r [])
  else if r < tab.length ∧ tab.getD r [] ≠ [] then some (tab.getD r [])
  else if r = 8232 then some u2028
  else if r = 8233 then some u2029
  else none
/-- A hexadecimal digit, small. -/
def hexB (n : Nat) : UInt8 := if n < 10 then UInt8.ofNat (48 + n) else UInt8.ofNat (87 + n)
/-- A number below 65536 and from 4096 on, by four digits. -/
def hex4 (n : Nat) : List UInt8 := [hexB (n / 4096), hexB (n / 256 % 16), hexB (n / 16 % 16), hexB (n % 16)]
def badRune (r : Nat) : Bool := decide ((64976 ≤ r ∧ r ≤ 65007) ∨ (65520 ≤ r ∧ r ≤ 65535))
/-- What 'htmlReplacer' puts in the place of a rune. -/
def htmF (tab : List (List UInt8)) (bad : Bool) (r : Nat) : Option (List UInt8) :=
  if r < tab.length then (if tab.getD r [] ≠ [] then some (tab.getD r []) else none)
  else if bad then none
  else if badRune r then some ([38, 35, 120] ++ hex4 r ++ [59])
  else none

/-! ### what readers take -/
/-- What a hexadecimal digit counts; 16: it is none. -/
def digB (b : UInt8) : Nat := if 48 ≤ b.toNat ∧ b.toNat ≤ 57 then b.toNat - 48 else if 97 ≤ b.toNat ∧ b.toNat ≤ 102 then b.toNat - 87 else 16
/-- The signs that an escape says by themselves. -/
def punct (b : UInt8) : Bool := [36, 40, 41, 42, 45, 46, 47, 63, 91, 92, 93, 94, 123, 124, 125].contains b
/-- The escapes of one letter. -/
def simple (k c : UInt8) : Bool := (k == 116 && c == 9) || (k == 110 && c == 10) || (k == 102 && c == 12) || (k == 114 && c == 13)
/-- Is e, behind the backslash, an escape that says v? -/
def escB (e v : List UInt8) : Bool :=
  match e, v with
  | [k], [c] => simple k c || (k == c && punct k)
  | [k, a, b, c, d], v => k == 117 && digB a < 16 && digB b < 16 && digB c < 16 && digB d < 16 &&
      decide (((digB a * 16 + digB b) * 16 + digB c) * 16 + digB d < 55296) && v == encodeRune ((((digB a * 16 + digB b) * 16 + digB c) * 16 + digB d : Nat) : Int)
  | _, _ => false
/-- A token for the readers of scripts. -/
def tokB (raw : UInt8 → Bool) (t : Tok) : Bool :=
  match t.1 with
  | [] => false
  | [b] => t.2 == [b] && raw b && b != 92
  | k :: e => k == 92 && escB e t.2

def rawStr (b : UInt8) : Bool := ![34, 39, 10, 13, 92].contains b
def rawTmpl (b : UInt8) : Bool := ![96, 36, 10, 13, 92].contains b
def rawReg (b : UInt8) : Bool := ![10, 13, 47, 94, 36, 46, 42, 43, 63, 40, 41, 91, 93, 123, 125, 124, 92].contains b

theorem all_bytes (p : UInt8 → Bool) (h : (List.range 256).all (fun n => p (UInt8.ofNat n)) = true) (b : UInt8) : p b = true := by
  have := List.all_eq_true.1 h b.toNat (List.mem_range.2 b.toNat_lt)
  simpa using this

theorem encodeRune_low (r : Nat) (h : r < 128) : encodeRune r = [UInt8.ofNat r] := by
  unfold encodeRune
  rw [encodeRuneZ_one (by omega) (by omega)]
  simp
theorem encodeRune_high (r : Nat) (h : 128 ≤ r) : ∀ b ∈ encodeRune r, 128 ≤ b.toNat := by
  intro b hb
  unfold encodeRune at hb
  obtain ⟨x, hx, rfl⟩ := List.mem_map.1 hb
  have hz := encodeRuneZ_byte r x hx
  have : 128 ≤ x := by
    unfold encodeRuneZ at hx
    split at hx
    · omega
    · split at hx
      · simp at hx; omega
      · split at hx
        · simp at hx; omega
        · split at hx
          · simp at hx; omega
          · simp at hx; omega
  have e : x.toNat.toUInt8.toNat = x.toNat := by
    simp
    omega
  rw [e]; omega

theorem repF_high (tab : List (List UInt8)) (hl : tab.length ≤ 128) (r : Nat) (h : 128 ≤ r) : repF tab r = if r = 8232 then some u2028 else if r = 8233 then some u2029 else none := by
  unfold repF
  rw [if_neg (by omega), if_neg (by omega)]

/-- A check of all runes below 128. -/
def lowOK (f : Nat → Option (List UInt8)) (ok : Tok → Bool) : Bool :=
  (List.range 128).all fun r => match f r with
    | some e => ok (e, [UInt8.ofNat r])
    | none => ok ([UInt8.ofNat r], [UInt8.ofNat r])

theorem rep_toks (tab : List (List UInt8)) (hl : tab.length ≤ 128) (ok : Tok → Bool) (hlow : lowOK (repF tab) ok = true)
    (h8 : ok (u2028, [226, 128, 168]) = true) (h9 : ok (u2029, [226, 128, 169]) = true) (hraw : (List.range 256).all (fun n => decide (n < 128) || ok ([UInt8.ofNat n], [UInt8.ofNat n])) = true)
    (l : List UInt8) (hc : clean l = true) : ∃ ts : List Tok, srcs ts = esc (repF tab) l ∧ vals ts = l ∧ ∀ t ∈ ts, ok t = true := by
  refine toks_ex (repF tab) (fun t => ok t = true) False ?_ ?_ l.length l (Nat.le_refl _) hc False.elim
  · intro r e _ _ _ hf
    by_cases h : r < 128
    · have := List.all_eq_true.1 hlow r (List.mem_range.2 h)
      rw [hf] at this
      rw [encodeRune_low r h]
      exact this
    · rw [repF_high tab hl r (by omega)] at hf
      split at hf
      · next h' => subst h'; cases hf; exact h8
      · split at hf
        · next h' => subst h'; cases hf; exact h9
        · cases hf
  · intro r _ _ _ hf b hb
    by_cases h : r < 128
    · have := List.all_eq_true.1 hlow r (List.mem_range.2 h)
      rw [hf] at this
      rw [encodeRune_low r h] at hb
      rw [List.mem_singleton.1 hb]
      exact this
    · have hb' := encodeRune_high r (by omega) b hb
      have := List.all_eq_true.1 hraw b.toNat (List.mem_range.2 b.toNat_lt)
      simp only [UInt8.ofNat_toNat, Bool.or_eq_true, decide_eq_true_eq] at this
      rcases this with h' | h'
      · omega
      · exact h'

/-- What an escape that says v is made of. -/
theorem escB_cases (e v : List UInt8) (h : escB e v = true) :
    (∃ k c, e = [k] ∧ v = [c] ∧ simple k c = true) ∨ (∃ k, e = [k] ∧ v = [k] ∧ punct k = true) ∨
    (∃ a b c d, e = [117, a, b, c, d] ∧ digB a < 16 ∧ digB b < 16 ∧ digB c < 16 ∧ digB d < 16 ∧ ((digB a * 16 + digB b) * 16 + digB c) * 16 + digB d < 55296 ∧
      v = encodeRune ((((digB a * 16 + digB b) * 16 + digB c) * 16 + digB d : Nat) : Int)) := by
  unfold escB at h
  split at h
  · next k c =>
    rw [Bool.or_eq_true] at h
    rcases h with h | h
    · exact .inl ⟨k, c, rfl, rfl, h⟩
    · rw [Bool.and_eq_true, beq_iff_eq] at h
      obtain ⟨rfl, h⟩ := h
      exact .inr (.inl ⟨k, rfl, rfl, h⟩)
  · next k a b c d =>
    simp only [Bool.and_eq_true, beq_iff_eq, decide_eq_true_eq] at h
    obtain ⟨⟨⟨⟨⟨⟨h0, h1⟩, h2⟩, h3⟩, h4⟩, h5⟩, h6⟩ := h
    subst h0
    exact .inr (.inr ⟨a, b, c, d, rfl, h1, h2, h3, h4, h5, h6⟩)
  · cases h
/-- What a token for the readers of scripts is. -/
theorem tokB_cases (raw : UInt8 → Bool) (t : Tok) (h : tokB raw t = true) :
    (∃ b, t = ([b], [b]) ∧ raw b = true ∧ b ≠ 92) ∨ ∃ e v, t = (92 :: e, v) ∧ e ≠ [] ∧ escB e v = true := by
  obtain ⟨s, v⟩ := t
  unfold tokB at h
  match s, h with
  | [], h => cases h
  | [b], h =>
    simp only [Bool.and_eq_true, beq_iff_eq, bne_iff_ne] at h
    obtain ⟨⟨h1, h2⟩, h3⟩ := h
    exact .inl ⟨b, by rw [h1], h2, h3⟩
  | k :: e0 :: e, h =>
    simp only [Bool.and_eq_true, beq_iff_eq] at h
    obtain ⟨rfl, h⟩ := h
    exact .inr ⟨e0 :: e, v, rfl, by simp, h⟩

/-- FnReadString: what is written is read, in both quotes. -/
theorem str_toks (l : List UInt8) (hc : clean l = true) : ∃ ts : List Tok, srcs ts = esc (repF strTab) l ∧ vals ts = l ∧ ∀ t ∈ ts, tokB rawStr t = true :=
  rep_toks strTab (by decide +kernel) _ (by decide +kernel) (by decide +kernel) (by decide +kernel) (by decide +kernel) l hc
theorem tmpl_toks (l : List UInt8) (hc : clean l = true) : ∃ ts : List Tok, srcs ts = esc (repF bqTab) l ∧ vals ts = l ∧ ∀ t ∈ ts, tokB rawTmpl t = true :=
  rep_toks bqTab (by decide +kernel) _ (by decide +kernel) (by decide +kernel) (by decide +kernel) (by decide +kernel) l hc
theorem reg_toks (l : List UInt8) (hc : clean l = true) : ∃ ts : List Tok, srcs ts = esc (repF regTab) l ∧ vals ts = l ∧ ∀ t ∈ ts, tokB rawReg t = true :=
  rep_toks regTab (by decide +kernel) _ (by decide +kernel) (by decide +kernel) (by decide +kernel) (by decide +kernel) l hc

/-- No byte of a text is one of some bytes. -/
def noneL (l bad : List UInt8) : Bool := l.all fun b => !bad.contains b
theorem noneL_srcs (bad : List UInt8) (ts : List Tok) (h : ∀ t ∈ ts, noneL t.1 bad = true) : noneL (srcs ts) bad = true := by
  unfold noneL
  rw [List.all_eq_true]
  intro b hb
  unfold srcs at hb
  obtain ⟨t, ht, hbt⟩ := List.mem_flatMap.1 hb
  exact List.all_eq_true.1 (h t ht) b hbt
theorem str_none (l : List UInt8) (hc : clean l = true) : noneL (esc (repF strTab) l) [60, 62, 38, 39, 34, 96, 10, 13] = true := by
  obtain ⟨ts, h1, _, h3⟩ := rep_toks strTab (by decide +kernel) (fun t => noneL t.1 [60, 62, 38, 39, 34, 96, 10, 13]) (by decide +kernel) (by decide +kernel) (by decide +kernel) (by decide +kernel) l hc
  rw [← h1]; exact noneL_srcs _ ts h3
theorem tmpl_none (l : List UInt8) (hc : clean l = true) : noneL (esc (repF bqTab) l) [60, 62, 38, 39, 34, 96, 36, 123, 125, 10, 13] = true := by
  obtain ⟨ts, h1, _, h3⟩ := rep_toks bqTab (by decide +kernel) (fun t => noneL t.1 [60, 62, 38, 39, 34, 96, 36, 123, 125, 10, 13]) (by decide +kernel) (by decide +kernel) (by decide +kernel) (by decide +kernel) l hc
  rw [← h1]; exact noneL_srcs _ ts h3
theorem reg_none (l : List UInt8) (hc : clean l = true) : noneL (esc (repF regTab) l) [60, 62, 38, 39, 34, 10, 13] = true := by
  obtain ⟨ts, h1, _, h3⟩ := rep_toks regTab (by decide +kernel) (fun t => noneL t.1 [60, 62, 38, 39, 34, 10, 13]) (by decide +kernel) (by decide +kernel) (by decide +kernel) (by decide +kernel) l hc
  rw [← h1]; exact noneL_srcs _ ts h3

/-! ### HTML -/
/-- A reference that says v? -/
def refB (e v : List UInt8) : Bool :=
  match e, v with
  | [38, 35, a, 59], [c] => decide (48 ≤ a.toNat ∧ a.toNat ≤ 57 ∧ 0 < a.toNat - 48 ∧ c.toNat = a.toNat - 48)
  | [38, 35, a, b, 59], [c] => decide (48 ≤ a.toNat ∧ a.toNat ≤ 57 ∧ 48 ≤ b.toNat ∧ b.toNat ≤ 57 ∧ 0 < (a.toNat - 48) * 10 + (b.toNat - 48) ∧ c.toNat = (a.toNat - 48) * 10 + (b.toNat - 48))
  | [38, 35, 120, a, b, c, d, 59], v => digB a < 16 && digB b < 16 && digB c < 16 && digB d < 16 &&
      decide (57344 ≤ ((digB a * 16 + digB b) * 16 + digB c) * 16 + digB d) && v == encodeRune ((((digB a * 16 + digB b) * 16 + digB c) * 16 + digB d : Nat) : Int)
  | e, [c] => (e == [38, 97, 109, 112, 59] && c == 38) || (e == [38, 108, 116, 59] && c == 60) || (e == [38, 103, 116, 59] && c == 62)
  | _, _ => false
def tokH (t : Tok) : Bool := (match t.1 with
  | [b] => t.2 == [b] && b != 38
  | _ => false) || refB t.1 t.2

/-- A check of all runes from 1 to 127. -/
def lowOK1 (f : Nat → Option (List UInt8)) (ok : Tok → Bool) : Bool :=
  (List.range 128).all fun r => r == 0 || match f r with
    | some e => ok (e, [UInt8.ofNat r])
    | none => ok ([UInt8.ofNat r], [UInt8.ofNat r])
/-- The runes that the escaper of attributes without quotes writes by numbers. -/
def badRunes : List Nat := (List.range 32).map (64976 + ·) ++ (List.range 16).map (65520 + ·)
theorem mem_badRunes (r : Nat) (h : badRune r = true) : r ∈ badRunes := by
  unfold badRune at h
  have h := of_decide_eq_true h
  unfold badRunes
  rw [List.mem_append, List.mem_map, List.mem_map]
  rcases h with h | h
  · exact .inl ⟨r - 64976, List.mem_range.2 (by omega), by omega⟩
  · exact .inr ⟨r - 65520, List.mem_range.2 (by omega), by omega⟩

theorem htm_toks (tab : List (List UInt8)) (bad : Bool) (hl : tab.length ≤ 128) (ok : Tok → Bool) (hlow : lowOK1 (htmF tab bad) ok = true)
    (hbad : bad = true ∨ badRunes.all (fun r => r == 65533 || ok ([38, 35, 120] ++ hex4 r ++ [59], encodeRune r)) = true) (hraw : (List.range 256).all (fun n => decide (n < 128) || ok ([UInt8.ofNat n], [UInt8.ofNat n])) = true)
    (l : List UInt8) (hc : clean l = true) (hz : (0 : UInt8) ∉ l) : ∃ ts : List Tok, srcs ts = esc (htmF tab bad) l ∧ vals ts = l ∧ ∀ t ∈ ts, ok t = true := by
  refine toks_ex (htmF tab bad) (fun t => ok t = true) True ?_ ?_ l.length l (Nat.le_refl _) hc (fun _ => hz)
  · intro r e hr0 hfffd _ hf
    by_cases h : r < 128
    · have := List.all_eq_true.1 hlow r (List.mem_range.2 h)
      have h0 := hr0 trivial
      rw [hf] at this
      rw [encodeRune_low r h]
      simpa [h0] using this
    · unfold htmF at hf
      rw [if_neg (by omega)] at hf
      split at hf
      · cases hf
      · next hb =>
        split at hf
        · next hr =>
          cases hf
          rcases hbad with h' | h'
          · exact absurd h' hb
          · have := List.all_eq_true.1 h' r (mem_badRunes r hr)
            simpa [hfffd] using this
        · cases hf
  · intro r hr0 _ _ hf b hb
    by_cases h : r < 128
    · have := List.all_eq_true.1 hlow r (List.mem_range.2 h)
      have h0 := hr0 trivial
      rw [hf] at this
      rw [encodeRune_low r h] at hb
      rw [List.mem_singleton.1 hb]
      simpa [h0] using this
    · have hb' := encodeRune_high r (by omega) b hb
      have := List.all_eq_true.1 hraw b.toNat (List.mem_range.2 b.toNat_lt)
      simp only [UInt8.ofNat_toNat, Bool.or_eq_true, decide_eq_true_eq] at this
      rcases this with h' | h'
      · omega
      · exact h'

theorem html_toks (l : List UInt8) (hc : clean l = true) (hz : (0 : UInt8) ∉ l) : ∃ ts : List Tok, srcs ts = esc (htmF htmlTab true) l ∧ vals ts = l ∧ ∀ t ∈ ts, tokH t = true :=
  htm_toks htmlTab true (by decide +kernel) _ (by decide +kernel) (.inl rfl) (by decide +kernel) l hc hz
theorem bare_toks (l : List UInt8) (hc : clean l = true) (hz : (0 : UInt8) ∉ l) : ∃ ts : List Tok, srcs ts = esc (htmF bareTab false) l ∧ vals ts = l ∧ ∀ t ∈ ts, tokH t = true :=
  htm_toks bareTab false (by decide +kernel) _ (by decide +kernel) (.inr (by decide +kernel)) (by decide +kernel) l hc hz
theorem html_none (l : List UInt8) (hc : clean l = true) (hz : (0 : UInt8) ∉ l) : noneL (esc (htmF htmlTab true) l) [60, 62, 34, 39] = true := by
  obtain ⟨ts, h1, _, h3⟩ := htm_toks htmlTab true (by decide +kernel) (fun t => noneL t.1 [60, 62, 34, 39]) (by decide +kernel) (.inl rfl) (by decide +kernel) l hc hz
  rw [← h1]; exact noneL_srcs _ ts h3
theorem html_none2 (l : List UInt8) (hc : clean l = true) (hz : (0 : UInt8) ∉ l) : noneL (esc (htmF htmlTab true) l) [60, 62] = true := by
  obtain ⟨ts, h1, _, h3⟩ := htm_toks htmlTab true (by decide +kernel) (fun t => noneL t.1 [60, 62]) (by decide +kernel) (.inl rfl) (by decide +kernel) l hc hz
  rw [← h1]; exact noneL_srcs _ ts h3
theorem bare_none (l : List UInt8) (hc : clean l = true) (hz : (0 : UInt8) ∉ l) : noneL (esc (htmF bareTab false) l) [60, 62, 34, 39, 61, 96, 9, 10, 11, 12, 13, 32] = true := by
  obtain ⟨ts, h1, _, h3⟩ := htm_toks bareTab false (by decide +kernel) (fun t => noneL t.1 [60, 62, 34, 39, 61, 96, 9, 10, 11, 12, 13, 32]) (by decide +kernel) (.inr (by decide +kernel)) (by decide +kernel) l hc hz
  rw [← h1]; exact noneL_srcs _ ts h3
end Go.Proofs.YthkinpadambpcaaGreatDoor
