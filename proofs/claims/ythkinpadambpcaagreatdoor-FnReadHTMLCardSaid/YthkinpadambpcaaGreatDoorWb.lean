/- Walks of the readers of escapes of scripts. -/
import Derived.Test.YthkinpadambpcaaGreatDoorWa
namespace Go.Proofs.YthkinpadambpcaaGreatDoor
open Go.RowKit

set_option maxHeartbeats 400000 in
theorem jsEscape_t (s : ByteArray) (a : Nat) (w : World) (hs : s.size ≤ 1000000) (hi : a < s.size) (hk : (s[a]'hi).toNat = 116) :
    Calls Tryz.prog 20 #[.string s, .int .i64 (a : Int)] w fun e w' => e = .returned (.tuple #[.string ⟨#[9]⟩, .int .i64 ((a + 1 : Nat) : Int)]) ∧ w = w' := by
  go_enter Tryz.func20, Tryz.ntmps20
  go_wp2_with fail
  go_ret2
  exact ⟨rfl, rfl⟩
set_option maxHeartbeats 400000 in
theorem jsEscape_n (s : ByteArray) (a : Nat) (w : World) (hs : s.size ≤ 1000000) (hi : a < s.size) (hk : (s[a]'hi).toNat = 110) :
    Calls Tryz.prog 20 #[.string s, .int .i64 (a : Int)] w fun e w' => e = .returned (.tuple #[.string ⟨#[10]⟩, .int .i64 ((a + 1 : Nat) : Int)]) ∧ w = w' := by
  go_enter Tryz.func20, Tryz.ntmps20
  go_wp2_with fail
  go_ret2
  exact ⟨rfl, rfl⟩
set_option maxHeartbeats 400000 in
theorem jsEscape_f (s : ByteArray) (a : Nat) (w : World) (hs : s.size ≤ 1000000) (hi : a < s.size) (hk : (s[a]'hi).toNat = 102) :
    Calls Tryz.prog 20 #[.string s, .int .i64 (a : Int)] w fun e w' => e = .returned (.tuple #[.string ⟨#[12]⟩, .int .i64 ((a + 1 : Nat) : Int)]) ∧ w = w' := by
  go_enter Tryz.func20, Tryz.ntmps20
  go_wp2_with fail
  go_ret2
  exact ⟨rfl, rfl⟩
set_option maxHeartbeats 400000 in
theorem jsEscape_r (s : ByteArray) (a : Nat) (w : World) (hs : s.size ≤ 1000000) (hi : a < s.size) (hk : (s[a]'hi).toNat = 114) :
    Calls Tryz.prog 20 #[.string s, .int .i64 (a : Int)] w fun e w' => e = .returned (.tuple #[.string ⟨#[13]⟩, .int .i64 ((a + 1 : Nat) : Int)]) ∧ w = w' := by
  go_enter Tryz.func20, Tryz.ntmps20
  go_wp2_with fail
  go_ret2
  exact ⟨rfl, rfl⟩
set_option maxHeartbeats 400000 in
theorem jsEscape_u (s : ByteArray) (a : Nat) (w : World) (hs : s.size ≤ 1000000) (hi : a < s.size) (hk : (s[a]'hi).toNat = 117) (ha : a + 1 + 4 ≤ s.size)
    (hd : ∀ j, j < 4 → isHx (s.get! (a + 1 + j)).toNat) (hv : hexTo s (a + 1) 4 < 55296) :
    Calls Tryz.prog 20 #[.string s, .int .i64 (a : Int)] w fun e w' => e = .returned (.tuple #[.string (Utf8.encode (hexTo s (a + 1) 4)), .int .i64 ((a + 1 + 4 : Nat) : Int)]) ∧ w = w' := by
  have H := Lib.hid hd
  clear hd
  go_enter Tryz.func20, Tryz.ntmps20
  go_wp2_with fail
  refine (unicodeEscape_yes s (a + 1) _ hs ha H.out hv).mono ?_
  rintro e w' ⟨rfl, rfl⟩
  go_wp2_with fail
  go_ret2
  exact ⟨rfl, rfl⟩
end Go.Proofs.YthkinpadambpcaaGreatDoor
