/- ZZEscape: the escaper of a name is called. -/
import Derived.Test.YthkinpadambpcaaGreatDoorEs
namespace Go.Proofs.YthkinpadambpcaaGreatDoor
open Go.RowKit Go.Lib

set_option maxRecDepth 100000 in
theorem ZZEscape_attrescaper (F : ByteArray → ByteArray) (s : ByteArray) (g c : Nat) (w : World) (h : Calls Tryz.prog 43 #[.slice (some ⟨g, 0, none⟩) 1 c] w (Gives F s w)) :
    Calls Tryz.prog 26 #[.string { data := #[95, 104, 116, 109, 108, 95, 116, 101, 109, 112, 108, 97, 116, 101, 95, 97, 116, 116, 114, 101, 115, 99, 97, 112, 101, 114] }, .slice (some ⟨g, 0, none⟩) 1 c] w (Gives F s w) := by
  have H := Lib.hid h
  clear h
  go_enter Tryz.func26, Tryz.ntmps26
  go_wp2_with fail
  refine H.out.mono ?_
  rintro e w' ⟨rfl, hb⟩
  go_wp2_with fail
  go_ret
  exact ⟨rfl, hb⟩
set_option maxRecDepth 100000 in
theorem ZZEscape_htmlescaper (F : ByteArray → ByteArray) (s : ByteArray) (g c : Nat) (w : World) (h : Calls Tryz.prog 48 #[.slice (some ⟨g, 0, none⟩) 1 c] w (Gives F s w)) :
    Calls Tryz.prog 26 #[.string { data := #[95, 104, 116, 109, 108, 95, 116, 101, 109, 112, 108, 97, 116, 101, 95, 104, 116, 109, 108, 101, 115, 99, 97, 112, 101, 114] }, .slice (some ⟨g, 0, none⟩) 1 c] w (Gives F s w) := by
  have H := Lib.hid h
  clear h
  go_enter Tryz.func26, Tryz.ntmps26
  go_wp2_with fail
  refine H.out.mono ?_
  rintro e w' ⟨rfl, hb⟩
  go_wp2_with fail
  go_ret
  exact ⟨rfl, hb⟩
set_option maxRecDepth 100000 in
theorem ZZEscape_jsregexpescaper (F : ByteArray → ByteArray) (s : ByteArray) (g c : Nat) (w : World) (h : Calls Tryz.prog 49 #[.slice (some ⟨g, 0, none⟩) 1 c] w (Gives F s w)) :
    Calls Tryz.prog 26 #[.string { data := #[95, 104, 116, 109, 108, 95, 116, 101, 109, 112, 108, 97, 116, 101, 95, 106, 115, 114, 101, 103, 101, 120, 112, 101, 115, 99, 97, 112, 101, 114] }, .slice (some ⟨g, 0, none⟩) 1 c] w (Gives F s w) := by
  have H := Lib.hid h
  clear h
  go_enter Tryz.func26, Tryz.ntmps26
  go_wp2_with fail
  refine H.out.mono ?_
  rintro e w' ⟨rfl, hb⟩
  go_wp2_with fail
  go_ret
  exact ⟨rfl, hb⟩
set_option maxRecDepth 100000 in
theorem ZZEscape_jsstrescaper (F : ByteArray → ByteArray) (s : ByteArray) (g c : Nat) (w : World) (h : Calls Tryz.prog 50 #[.slice (some ⟨g, 0, none⟩) 1 c] w (Gives F s w)) :
    Calls Tryz.prog 26 #[.string { data := #[95, 104, 116, 109, 108, 95, 116, 101, 109, 112, 108, 97, 116, 101, 95, 106, 115, 115, 116, 114, 101, 115, 99, 97, 112, 101, 114] }, .slice (some ⟨g, 0, none⟩) 1 c] w (Gives F s w) := by
  have H := Lib.hid h
  clear h
  go_enter Tryz.func26, Tryz.ntmps26
  go_wp2_with fail
  refine H.out.mono ?_
  rintro e w' ⟨rfl, hb⟩
  go_wp2_with fail
  go_ret
  exact ⟨rfl, hb⟩
set_option maxRecDepth 100000 in
theorem ZZEscape_jstmpllitescaper (F : ByteArray → ByteArray) (s : ByteArray) (g c : Nat) (w : World) (h : Calls Tryz.prog 51 #[.slice (some ⟨g, 0, none⟩) 1 c] w (Gives F s w)) :
    Calls Tryz.prog 26 #[.string { data := #[95, 104, 116, 109, 108, 95, 116, 101, 109, 112, 108, 97, 116, 101, 95, 106, 115, 116, 109, 112, 108, 108, 105, 116, 101, 115, 99, 97, 112, 101, 114] }, .slice (some ⟨g, 0, none⟩) 1 c] w (Gives F s w) := by
  have H := Lib.hid h
  clear h
  go_enter Tryz.func26, Tryz.ntmps26
  go_wp2_with fail
  refine H.out.mono ?_
  rintro e w' ⟨rfl, hb⟩
  go_wp2_with fail
  go_ret
  exact ⟨rfl, hb⟩
set_option maxRecDepth 100000 in
theorem ZZEscape_nospaceescaper (F : ByteArray → ByteArray) (s : ByteArray) (g c : Nat) (w : World) (h : Calls Tryz.prog 53 #[.slice (some ⟨g, 0, none⟩) 1 c] w (Gives F s w)) :
    Calls Tryz.prog 26 #[.string { data := #[95, 104, 116, 109, 108, 95, 116, 101, 109, 112, 108, 97, 116, 101, 95, 110, 111, 115, 112, 97, 99, 101, 101, 115, 99, 97, 112, 101, 114] }, .slice (some ⟨g, 0, none⟩) 1 c] w (Gives F s w) := by
  have H := Lib.hid h
  clear h
  go_enter Tryz.func26, Tryz.ntmps26
  go_wp2_with fail
  refine H.out.mono ?_
  rintro e w' ⟨rfl, hb⟩
  go_wp2_with fail
  go_ret
  exact ⟨rfl, hb⟩
set_option maxRecDepth 100000 in
theorem ZZEscape_rcdataescaper (F : ByteArray → ByteArray) (s : ByteArray) (g c : Nat) (w : World) (h : Calls Tryz.prog 54 #[.slice (some ⟨g, 0, none⟩) 1 c] w (Gives F s w)) :
    Calls Tryz.prog 26 #[.string { data := #[95, 104, 116, 109, 108, 95, 116, 101, 109, 112, 108, 97, 116, 101, 95, 114, 99, 100, 97, 116, 97, 101, 115, 99, 97, 112, 101, 114] }, .slice (some ⟨g, 0, none⟩) 1 c] w (Gives F s w) := by
  have H := Lib.hid h
  clear h
  go_enter Tryz.func26, Tryz.ntmps26
  go_wp2_with fail
  refine H.out.mono ?_
  rintro e w' ⟨rfl, hb⟩
  go_wp2_with fail
  go_ret
  exact ⟨rfl, hb⟩
end Go.Proofs.YthkinpadambpcaaGreatDoor
