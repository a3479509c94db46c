/- The reader of one reference of a page. -/
import Derived.Test.YthkinpadambpcaaGreatDoorPg
namespace Go.Proofs.YthkinpadambpcaaGreatDoor
open Go.RowKit Go.Lib Go.Maps

/-- What decimal digits from a place on come to. -/
def decTo (s : ByteArray) (a : Nat) : Nat → Int
  | 0 => 0
  | k + 1 => decTo s a k * 10 + ((s.get! (a + k)).toNat - 48 : Int)
theorem decTo_bd (s : ByteArray) (a m : Nat) (hm : m ≤ 2) (hd : ∀ j, j < m → 48 ≤ (s.get! (a + j)).toNat ∧ (s.get! (a + j)).toNat ≤ 57) : ∀ k, k ≤ m → 0 ≤ decTo s a k ∧ decTo s a k ≤ 99 ∧ (k < m → decTo s a k ≤ 9)
  | 0, _ => by simp [decTo]
  | k + 1, h => by
    have ih := decTo_bd s a m hm hd k (by omega)
    have hb := hd k (by omega)
    simp only [decTo]
    have := ih.2.2 (by omega)
    rcases (show k = 0 ∨ k = 1 by omega) with rfl | rfl
    · simp only [decTo] at *
      omega
    · omega


set_option maxRecDepth 100000 in
set_option maxHeartbeats 4000000 in
theorem pageRef_dec (s : ByteArray) (k m : Nat) (at_ : Bool) (w : World) (hs : s.size ≤ 1000000) (hm0 : 1 ≤ m) (hm : m ≤ 2) (hi : k + 2 + m < s.size) (h35 : (s[k + 1]'(by omega)).toNat = 35)
    (hd : ∀ j, j < m → 48 ≤ (s.get! (k + 2 + j)).toNat ∧ (s.get! (k + 2 + j)).toNat ≤ 57) (h59 : (s[k + 2 + m]'hi).toNat = 59) (hv : 0 < decTo s (k + 2) m) :
    Calls Tryz.prog 19 #[.string s, .int .i64 (k : Int), .bool at_] w fun e w' => e = .returned (.tuple #[.string (Utf8.encode (decTo s (k + 2) m)), .int .i64 ((k + 2 + m + 1 : Nat) : Int)]) ∧ w = w' := by
  have i1 : k + 1 < s.size := by omega
  have i2 : k + 2 < s.size := by omega
  have h2 := hd 0 (by omega)
  rw [Nat.add_zero, getE s (k + 2) i2] at h2
  have x1 : ((s[k + 2].toNat : Int) == 120) = false := by rw [beq_eq_false_iff_ne]; omega
  have x2 : ((s[k + 2].toNat : Int) == 88) = false := by rw [beq_eq_false_iff_ne]; omega
  clear h2
  have H := Lib.hid hd
  have H59 := Lib.hid h59
  have HV := Lib.hid hv
  clear hd h59 hv
  go_enter Tryz.func19, Tryz.ntmps19
  go_wp2_with fail
  go_loop [8, 10, 12, 13, 14, 62, 68, 82] (fun i n _ _ _ _ _ _ => ∃ j : Nat, j ≤ m ∧ i = .int .i64 ((k + 2 + j : Nat) : Int) ∧ n = .int .i64 (decTo s (k + 2) j)) (fun i _ _ _ _ _ _ _ => k + 2 + m + 1 - (intOf i).toNat)
  case atStart => exact ⟨0, Nat.zero_le _, by go_num, rfl⟩
  case round =>
    obtain ⟨j, hj, rfl, rfl⟩ := hrel
    by_cases hlt : j < m
    · have hc := H.out j hlt
      have hjs : k + 2 + j < s.size := by omega
      rw [getE s (k + 2 + j) hjs] at hc
      have ht := decTo_bd s (k + 2) m hm H.out j hj
      have ht1 := ht.2.2 hlt
      have ht0 := ht.1
      have HS : Hid (decTo s (k + 2) (j + 1) = decTo s (k + 2) j * 10 + ((s[k + 2 + j].toNat : Int) - 48)) := by
        show decTo s (k + 2) j * 10 + ((s.get! (k + 2 + j)).toNat - 48 : Int) = _
        rw [getE s (k + 2 + j) hjs]
      clear ht
      obtain ⟨c1, c2⟩ := hc
      go_wp2_with fail
      refine (pageDigit_yes _ _ (by omega) (by omega)).mono ?_
      rintro e w' ⟨rfl, rfl⟩
      go_wp2_with fail
      go_round
      case rel => exact ⟨j + 1, by omega, by go_num, by rw [HS.out]; go_num⟩
      case measure => simp [intOf]; omega
    · obtain rfl : j = m := by omega
      have hc : ((s[k + 2 + j]'hi).toNat : Int) = 59 := by have := H59.out; omega
      have ht := decTo_bd s (k + 2) j hm H.out j (Nat.le_refl _)
      have hv1 := HV.out
      have hv2 : (decTo s (k + 2) j == 0) = false := by rw [beq_eq_false_iff_ne]; omega
      have ht1 := ht.2.1
      clear ht
      go_wp2_with fail
      refine (pageDigit_no _ _ (by omega)).mono ?_
      rintro e w' ⟨rfl, rfl⟩
      go_wp2_with fail
      go_ret2
      exact ⟨rfl, rfl⟩

set_option maxRecDepth 100000 in
set_option maxHeartbeats 4000000 in
theorem pageRef_hex (s : ByteArray) (k : Nat) (at_ : Bool) (w : World) (hs : s.size ≤ 1000000) (hi : k + 3 + 4 < s.size) (h35 : (s[k + 1]'(by omega)).toNat = 35)
    (h120 : (s[k + 2]'(by omega)).toNat = 120) (hd : ∀ j, j < 4 → isHx (s.get! (k + 3 + j)).toNat) (h59 : (s[k + 3 + 4]'hi).toNat = 59) (hv : 57344 ≤ hexTo s (k + 3) 4) :
    Calls Tryz.prog 19 #[.string s, .int .i64 (k : Int), .bool at_] w fun e w' => e = .returned (.tuple #[.string (Utf8.encode (hexTo s (k + 3) 4)), .int .i64 ((k + 3 + 4 + 1 : Nat) : Int)]) ∧ w = w' := by
  have i1 : k + 1 < s.size := by omega
  have i2 : k + 2 < s.size := by omega
  have H := Lib.hid hd
  have H59 := Lib.hid h59
  have HV := Lib.hid hv
  clear hd h59 hv
  go_enter Tryz.func19, Tryz.ntmps19
  go_wp2_with fail
  go_loop [8, 10, 12, 13, 14, 62, 68, 82] (fun i n _ _ _ _ _ _ => ∃ j : Nat, j ≤ 4 ∧ i = .int .i64 ((k + 3 + j : Nat) : Int) ∧ n = .int .i64 (hexTo s (k + 3) j)) (fun i _ _ _ _ _ _ _ => k + 3 + 4 + 1 - (intOf i).toNat)
  case atStart => exact ⟨0, Nat.zero_le _, by go_num, rfl⟩
  case round =>
    obtain ⟨j, hj, rfl, rfl⟩ := hrel
    by_cases hlt : j < 4
    · have hc := H.out j hlt
      have hjs : k + 3 + j < s.size := by omega
      rw [getE s (k + 3 + j) hjs] at hc
      have hb := hexI_bd _ hc
      have ht := hexTo_bd s (k + 3) H.out j hj
      have h16 : (16 : Int) ^ j ≤ 4096 := by
        rcases (show j = 0 ∨ j = 1 ∨ j = 2 ∨ j = 3 by omega) with rfl | rfl | rfl | rfl <;> decide
      have HS : Hid (hexTo s (k + 3) (j + 1) = hexTo s (k + 3) j * 16 + hexI (s[k + 3 + j].toNat : Int)) := by
        show hexTo s (k + 3) j * 16 + hexI (s.get! (k + 3 + j)).toNat = _
        rw [getE s (k + 3 + j) hjs]
      have ht1 : hexTo s (k + 3) j < 4096 := by omega
      have ht0 := ht.1
      clear ht h16
      rcases hc with hc | hc
      · have he : hexI (s[k + 3 + j].toNat : Int) = (s[k + 3 + j].toNat : Int) - 48 := by unfold hexI; rw [if_pos hc]
        have HE := Lib.hid he
        clear he hb
        obtain ⟨c1, c2⟩ := hc
        go_wp2_with fail
        refine (pageDigit_yes _ _ c1 c2).mono ?_
        rintro e w' ⟨rfl, rfl⟩
        go_wp2_with fail
        go_round
        case rel => exact ⟨j + 1, by omega, by go_num, by rw [HS.out, HE.out]; go_num⟩
        case measure => simp [intOf]; omega
      · have he : hexI (s[k + 3 + j].toNat : Int) = (s[k + 3 + j].toNat : Int) - 97 + 10 := by unfold hexI; rw [if_neg (by omega), if_pos hc]; omega
        have HE := Lib.hid he
        clear he hb
        obtain ⟨c1, c2⟩ := hc
        go_wp2_with fail
        refine (pageDigit_no _ _ (by omega)).mono ?_
        rintro e w' ⟨rfl, rfl⟩
        go_wp2_with fail
        go_round
        case rel => exact ⟨j + 1, by omega, by go_num, by rw [HS.out, HE.out]; go_num⟩
        case measure => simp [intOf]; omega
    · obtain rfl : j = 4 := by omega
      have hc : ((s[k + 3 + 4]'hi).toNat : Int) = 59 := by have := H59.out; omega
      have ht := hexTo_bd s (k + 3) H.out 4 (by omega)
      have hv1 := HV.out
      have hv2 : (hexTo s (k + 3) 4 == 0) = false := by rw [beq_eq_false_iff_ne]; omega
      have ht1 : hexTo s (k + 3) 4 < 65536 := by have := ht.2; omega
      clear ht
      go_wp2_with fail
      refine (pageDigit_no _ _ (by omega)).mono ?_
      rintro e w' ⟨rfl, rfl⟩
      go_wp2_with fail
      go_ret2
      exact ⟨rfl, rfl⟩

set_option maxRecDepth 100000 in
set_option maxHeartbeats 4000000 in
theorem pageRef_name (s : ByteArray) (k m : Nat) (nm v : List UInt8) (at_ : Bool) (w : World) (hs : s.size ≤ 1000000) (hm0 : 1 ≤ m) (hm : m ≤ 100) (hi : k + 1 + m < s.size)
    (hd : ∀ j, j < m → 97 ≤ (s.get! (k + 1 + j)).toNat ∧ (s.get! (k + 1 + j)).toNat ≤ 122) (h59 : (s[k + 1 + m]'hi).toNat = 59) (hx : s.extract (k + 1) (k + 1 + m) = ⟨nm.toArray⟩) (hnm : nm.length ≤ 100)
    (hh : Maps.has namesPD (.string nm) = true) (hat : namesPD.atKey (.string nm) (.lit (.string [])) = .lit (.string v)) :
    Calls Tryz.prog 19 #[.string s, .int .i64 (k : Int), .bool at_] w fun e w' => e = .returned (.tuple #[.string ⟨v.toArray⟩, .int .i64 ((k + 1 + m + 1 : Nat) : Int)]) ∧ Below w.heap.size w w' := by
  have i1 : k + 1 < s.size := by omega
  have h2 := hd 0 (by omega)
  rw [Nat.add_zero, getE s (k + 1) i1] at h2
  have x1 : ((s[k + 1].toNat : Int) == 35) = false := by rw [beq_eq_false_iff_ne]; omega
  clear h2
  have H := Lib.hid hd
  have H59 := Lib.hid h59
  have HX := Lib.hid hx
  have HH := Lib.hid hh
  have HA := Lib.hid hat
  clear hd h59 hx hh hat
  go_enter Tryz.func19, Tryz.ntmps19
  go_wp2_with fail
  go_loop [8] (fun i => ∃ j : Nat, j ≤ m ∧ i = .int .i64 ((k + 1 + j : Nat) : Int)) (fun i => k + 1 + m + 1 - (intOf i).toNat)
  case atStart => exact ⟨0, Nat.zero_le _, by go_num⟩
  case round =>
    obtain ⟨j, hj, rfl⟩ := hrel
    by_cases hlt : j < m
    · have hc := H.out j hlt
      have hjs : k + 1 + j < s.size := by omega
      rw [getE s (k + 1 + j) hjs] at hc
      obtain ⟨c1, c2⟩ := hc
      go_wp2_with fail
      refine (pageLetter_yes _ _ (by omega) (by omega)).mono ?_
      rintro e w' ⟨rfl, rfl⟩
      go_wp2_with fail
      go_round
      case rel => exact ⟨j + 1, by omega, by go_num⟩
      case measure => simp [intOf]; omega
    · obtain rfl : j = m := by omega
      have hc : ((s[k + 1 + j]'hi).toNat : Int) = 59 := by have := H59.out; omega
      go_wp2_with fail
      refine (pageLetter_no _ _ (by omega)).mono ?_
      rintro e w' ⟨rfl, rfl⟩
      go_wp2_with fail
      refine (pageDigit_no _ _ (by omega)).mono ?_
      rintro e w' ⟨rfl, rfl⟩
      go_wp2_with fail
      refine (pageNames_any _).mono ?_
      rintro e w1 ⟨rfl, ho, hb⟩
      have hlk := names_look ho nm v hnm HH.out HA.out
      rw [← HX.out] at hlk
      go_wp2_with fail
      go_ret2
      exact ⟨rfl, hb⟩
end Go.Proofs.YthkinpadambpcaaGreatDoor
