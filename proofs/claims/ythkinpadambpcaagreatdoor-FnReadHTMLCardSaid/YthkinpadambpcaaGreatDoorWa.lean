/- Walks of the readers of hexadecimal digits. -/
import Derived.Test.YthkinpadambpcaaGreatDoorProg
import Derived.WalkKit
import Derived.WalkSpells
import Derived.WalkLawsBesides
import Derived.Lib.Hide
namespace Go.Proofs.YthkinpadambpcaaGreatDoor
open Go.RowKit

/-- What a byte counts as a hexadecimal digit; -1: it is none. -/
def hexI (n : Int) : Int := if 48 ≤ n ∧ n ≤ 57 then n - 48 else if 97 ≤ n ∧ n ≤ 102 then n - 87 else if 65 ≤ n ∧ n ≤ 70 then n - 55 else -1

theorem hexDigit_dec (n : Int) (w : World) (h0 : 48 ≤ n) (h1 : n ≤ 57) :
    Calls Tryz.prog 61 #[.int .u8 n] w fun e w' => e = .returned (.int .i64 (n - 48)) ∧ w = w' := by
  go_enter Tryz.func61, Tryz.ntmps61
  go_wp2
  go_ret
  exact ⟨rfl, rfl⟩
theorem hexDigit_low (n : Int) (w : World) (h0 : 97 ≤ n) (h1 : n ≤ 102) :
    Calls Tryz.prog 61 #[.int .u8 n] w fun e w' => e = .returned (.int .i64 (n - 97 + 10)) ∧ w = w' := by
  have h2 : ¬ n ≤ 57 := by omega
  have h3 : 48 ≤ n := by omega
  go_enter Tryz.func61, Tryz.ntmps61
  go_wp2
  go_ret
  exact ⟨rfl, rfl⟩
/-- hexDigit at a digit or a small letter from a to f. -/
theorem hexDigit_yes (n : Int) (w : World) (h : (48 ≤ n ∧ n ≤ 57) ∨ (97 ≤ n ∧ n ≤ 102)) :
    Calls Tryz.prog 61 #[.int .u8 n] w fun e w' => e = .returned (.int .i64 (hexI n)) ∧ w = w' := by
  rcases h with h | h
  · have e : hexI n = n - 48 := by unfold hexI; rw [if_pos h]
    rw [e]; exact hexDigit_dec n w h.1 h.2
  · have e : hexI n = n - 97 + 10 := by unfold hexI; rw [if_neg (by omega), if_pos h]; omega
    rw [e]; exact hexDigit_low n w h.1 h.2

/-- The number of four digits. -/
def hexN (a b c d : Int) : Int := ((hexI a * 16 + hexI b) * 16 + hexI c) * 16 + hexI d
theorem hexI_bd (n : Int) (h : (48 ≤ n ∧ n ≤ 57) ∨ (97 ≤ n ∧ n ≤ 102)) : 0 ≤ hexI n ∧ hexI n ≤ 15 := by
  unfold hexI
  rcases h with h | h
  · rw [if_pos h]; omega
  · rw [if_neg (by omega), if_pos h]; omega
def isHx (n : Int) : Prop := (48 ≤ n ∧ n ≤ 57) ∨ (97 ≤ n ∧ n ≤ 102)

/-- What the digits from a place on come to, k of them. -/
def hexTo (s : ByteArray) (at_ : Nat) : Nat → Int
  | 0 => 0
  | k + 1 => hexTo s at_ k * 16 + hexI (s.get! (at_ + k)).toNat
theorem hexTo_bd (s : ByteArray) (a : Nat) (hd : ∀ j, j < 4 → isHx (s.get! (a + j)).toNat) : ∀ k, k ≤ 4 → 0 ≤ hexTo s a k ∧ hexTo s a k < 16 ^ k
  | 0, _ => by simp [hexTo]
  | k + 1, h => by
    have ih := hexTo_bd s a hd k (by omega)
    have hb := hexI_bd _ (hd k (by omega))
    have e : (16 : Int) ^ (k + 1) = 16 ^ k * 16 := Int.pow_succ 16 k
    simp only [hexTo]
    rw [e]
    omega

theorem getE (s : ByteArray) (i : Nat) (h : i < s.size) : s.get! i = s[i]'h := by
  simp [ByteArray.get!, getElem!_pos, h]
  rfl
set_option maxHeartbeats 400000 in
theorem hexNumber_yes (s : ByteArray) (a : Nat) (w : World) (hs : s.size ≤ 1000000) (ha : a + 4 ≤ s.size) (hd : ∀ j, j < 4 → isHx (s.get! (a + j)).toNat) :
    Calls Tryz.prog 33 #[.string s, .int .i64 (a : Int), .int .i64 4] w fun e w' => e = .returned (.int .i64 (hexTo s a 4)) ∧ w = w' := by
  have H := Lib.hid hd
  clear hd
  go_enter Tryz.func33, Tryz.ntmps33
  go_wp2_with fail
  go_loop [7, 8] (fun n i => ∃ k : Nat, k ≤ 4 ∧ i = .int .i64 ((a + k : Nat) : Int) ∧ n = .int .i64 (hexTo s a k)) (fun _ i => a + 4 - (intOf i).toNat)
  case atStart => exact ⟨0, Nat.zero_le _, rfl, rfl⟩
  case round =>
    obtain ⟨k, hk, rfl, rfl⟩ := hrel
    by_cases hlt : k < 4
    · have hd := H.out k hlt
      have hb := hexI_bd _ hd
      have ht := hexTo_bd s a H.out k hk
      have h16 : (16 : Int) ^ k ≤ 65536 := by
        rcases (show k = 0 ∨ k = 1 ∨ k = 2 ∨ k = 3 by omega) with rfl | rfl | rfl | rfl <;> decide
      have hi : a + k < s.size := by omega
      rw [getE s (a + k) hi] at hd hb
      have HS : Hid (hexTo s a (k + 1) = hexTo s a k * 16 + hexI (s[a + k].toNat : Int)) := by
        show hexTo s a k * 16 + hexI (s.get! (a + k)).toNat = _
        rw [getE s (a + k) hi]
      go_wp2_with fail
      refine (hexDigit_yes _ _ hd).mono ?_
      rintro e w' ⟨rfl, rfl⟩
      go_wp2_with fail
      go_round
      case rel => exact ⟨k + 1, by omega, by go_num, by rw [HS.out]⟩
      case measure => simp [intOf]; omega
    · obtain rfl : k = 4 := by omega
      go_wp2_with fail
      go_ret
      exact ⟨rfl, rfl⟩

set_option maxHeartbeats 400000 in
theorem unicodeEscape_yes (s : ByteArray) (a : Nat) (w : World) (hs : s.size ≤ 1000000) (ha : a + 4 ≤ s.size) (hd : ∀ j, j < 4 → isHx (s.get! (a + j)).toNat) (hv : hexTo s a 4 < 55296) :
    Calls Tryz.prog 34 #[.string s, .int .i64 (a : Int)] w fun e w' => e = .returned (.tuple #[.int .i32 (hexTo s a 4), .int .i64 ((a + 4 : Nat) : Int)]) ∧ w = w' := by
  have hi : a < s.size := by omega
  have h0 := hd 0 (by omega)
  have hb := hexTo_bd s a hd 4 (by omega)
  obtain ⟨hb0, _⟩ := hb
  have hn : ((s[a].toNat : Int) == 123) = false := by
    rw [Nat.add_zero, getE s a hi] at h0
    rw [beq_eq_false_iff_ne]
    unfold isHx at h0; omega
  have H := Lib.hid hd
  clear hd h0
  go_enter Tryz.func34, Tryz.ntmps34
  go_wp2_with fail
  refine (hexNumber_yes s a _ hs ha H.out).mono ?_
  rintro e w' ⟨rfl, rfl⟩
  go_wp2_with fail
  go_ret2
  exact ⟨rfl, rfl⟩
end Go.Proofs.YthkinpadambpcaaGreatDoor
