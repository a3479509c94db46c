/- What the walks of the replacers carry from round to round. -/
import Derived.Test.YthkinpadambpcaaGreatDoorTa
import Derived.Test.YthkinpadambpcaaGreatDoorSh
import Derived.Test.YthkinpadambpcaaGreatDoorWf
namespace Go.Proofs.YthkinpadambpcaaGreatDoor
open Go.RowKit Go.Lib

theorem builder_below {B b : Nat} {p : Value} {bs : List Value} {w w' : World} (h : BuilderAt 88 5 B b p bs w) (hb : Below w.heap.size w w') : BuilderAt 88 5 B b p bs w' := by
  have hlt := h.lt
  obtain ⟨h1, v, h2, h3, h4⟩ := h
  exact ⟨h1, v, (hb.block b hlt).trans h2, h3.kept (row := none) ⟨hb.os, hb.tape, hb.output, hb.size, fun k hk _ => hb.block k hk⟩ (Classical.em _), h4⟩

/-- What has been written and what is still to come make the whole. -/
def BOut (f : Nat → Option (List UInt8)) (l : List UInt8) (n k : Nat) (bs : List UInt8) : Prop := bs ++ (l.take k).drop n ++ esc f (l.drop k) = esc f l

theorem ext_list (s : ByteArray) (q k : Nat) : (s.extract q k).data.toList = (s.data.toList.take k).drop q := by
  rw [ByteArray.data_extract, Array.toList_extract, List.drop_take]
theorem strCells_eq (s : ByteArray) : strCells s = byteCells s.data.toList := rfl
theorem byteCells_append (a b : List UInt8) : byteCells (a ++ b) = byteCells a ++ byteCells b := by simp [byteCells]
theorem bout_no {f : Nat → Option (List UInt8)} {l bs : List UInt8} {q k r c : Nat} (h : BOut f l q k bs) (hq : q ≤ k) (hk : k ≤ l.length)
    (hst : esc f (l.drop k) = (f r).getD ((l.drop k).take c) ++ esc f ((l.drop k).drop c)) (hf : f r = none) : BOut f l q (k + c) bs := by
  unfold BOut at h ⊢
  rw [← h, hst, hf, List.drop_drop]
  have e : (l.take (k + c)).drop q = (l.take k).drop q ++ (l.drop k).take c := by
    rw [List.take_add, List.drop_append]
    have : q - (l.take k).length = 0 := by rw [List.length_take]; omega
    rw [this]; rfl
  rw [e]
  simp [List.append_assoc]
theorem bout_yes {f : Nat → Option (List UInt8)} {l bs e : List UInt8} {q k r c : Nat} (h : BOut f l q k bs)
    (hst : esc f (l.drop k) = (f r).getD ((l.drop k).take c) ++ esc f ((l.drop k).drop c)) (hf : f r = some e) : BOut f l (k + c) (k + c) (bs ++ (l.take k).drop q ++ e) := by
  unfold BOut at h ⊢
  rw [← h, hst, hf, List.drop_drop]
  have e0 : (l.take (k + c)).drop (k + c) = [] := List.drop_eq_nil_of_le (by rw [List.length_take]; omega)
  rw [e0]
  simp [List.append_assoc]
theorem bout_len {f : Nat → Option (List UInt8)} {l bs : List UInt8} {q k : Nat} (h : BOut f l q k bs) : bs.length + ((l.take k).drop q).length ≤ (esc f l).length := by
  unfold BOut at h
  rw [← h]; simp only [List.length_append]; omega

/-- THE DECODER at a place of a text. -/
theorem decode35 (s : ByteArray) (i r k : Nat) (w : World) (hU : Utf8Tabs 1 2 w) (hi : i < s.size) (hd : decodeL (s.data.toList.drop i) = (r, k)) :
    Calls Tryz.prog 35 #[.string (s.extract i s.size)] w fun e w' => e = .returned (.tuple #[.int .i32 (r : Int), .int .i64 (k : Int)]) ∧ Below w.heap.size w w' := by
  have e : decodeGo (s.extract i s.size) = (r, k) := by
    unfold decodeGo
    rw [if_neg (by have := ext_pos hi; omega), decode_drop]
    rw [← hd]
    congr 1
    rw [ext_list, List.drop_zero, List.take_of_length_le]
    simp
  have h := Tryz.utf8_DecodeRuneInString (s.extract i s.size) w hU
  rw [e] at h
  exact h

theorem tabs_below {w w' : World} {B : Nat} (h : Utf8Tabs 1 2 w) (hb : Below B w w') (hB : 2 < B) : Utf8Tabs 1 2 w' :=
  ⟨fun c hc => (hb.cell (p := ⟨1, c, none⟩) (by show 1 < B; omega)).trans (h.1 c hc), fun i hi => ⟨(hb.cell (p := ⟨2, 2 * i, none⟩) hB).trans (h.2 i hi).1, (hb.cell (p := ⟨2, 2 * i + 1, none⟩) hB).trans (h.2 i hi).2⟩⟩
theorem tabs_lt {w : World} (h : Utf8Tabs 1 2 w) : 2 < w.heap.size := by
  have := (h.2 0 (by omega)).1
  rcases Nat.lt_or_ge 2 w.heap.size with h' | h'
  · exact h'
  · simp [World.cell?, Array.getElem?_eq_none h'] at this

/-- The state of the builder in the loop: not yet written, or it holds bs. -/
def BState (B : Nat) (n : Nat) (bs : List UInt8) (w : World) : Prop :=
  (n = 0 ∧ bs = [] ∧ w.heap[B]? = some (.cells #[.pointer none, .slice none 0 0] 88 (0, 0))) ∨ (0 < n ∧ BuilderAt 88 5 B B (.pointer (some ⟨B, 0, none⟩)) (byteCells bs) w)
theorem BState.below {B n : Nat} {bs : List UInt8} {w w' : World} (h : BState B n bs w) (hb : Below w.heap.size w w') : BState B n bs w' := by
  rcases h with ⟨a, b, c⟩ | ⟨a, b⟩
  · exact .inl ⟨a, b, (hb.block B (Array.getElem?_eq_some_iff.1 c).1).trans c⟩
  · exact .inr ⟨a, builder_below b hb⟩
end Go.Proofs.YthkinpadambpcaaGreatDoor
