/- Walks of the small looks of the laws: noneOf, noNul, validText. -/
import Derived.Test.YthkinpadambpcaaGreatDoorWc
import Derived.Deep.QuietTactic
import Derived.BigQuiet
import Derived.Lib.RuneCount
namespace Go.Proofs.YthkinpadambpcaaGreatDoor
open Go.RowKit Go.Lib

theorem mem_get (s : ByteArray) (k : Nat) (h : k < s.size) : s[k]'h ∈ s.data.toList := Array.getElem_mem_toList (xs := s.data) h

theorem noneOf_yes (s b : ByteArray) (w : World) (hs : s.size ≤ 1000000) (hb : b.size ≤ 1000000) (hn : noneL s.data.toList b.data.toList = true) :
    Calls Tryz.prog 13 #[.string s, .string b] w fun e w' => e = .returned (.bool true) ∧ Below w.heap.size w w' := by
  have hne : ∀ k m (hk : k < s.size) (hm : m < b.size), s[k]'hk ≠ b[m]'hm := by
    intro k m hk hm e
    have h1 := List.all_eq_true.1 hn _ (mem_get s k hk)
    rw [e] at h1
    simp [mem_get b m hm] at h1
  have HN := Lib.hid hne
  clear hne hn
  go_enter Tryz.func13, Tryz.ntmps13
  go_wp2_with fail
  go_loopw [5] (fun i wr => ∃ k : Nat, k ≤ s.size ∧ i = .int .i64 (k : Int) ∧ Below w.heap.size w wr) (fun i _ => s.size - (intOf i).toNat)
  case atStart => exact ⟨0, Nat.zero_le _, rfl, Below.refl _ _⟩
  case round =>
    obtain ⟨k, hk, rfl, hB⟩ := hrel
    by_cases hlt : k < s.size
    · go_wp2_with fail
      obtain ⟨wo, rfl⟩ : ∃ wo : World, wo = wr := ⟨_, rfl⟩
      go_loopw [6] (fun j wi => ∃ m : Nat, m ≤ b.size ∧ j = .int .i64 (m : Int) ∧ Below w.heap.size w wi) (fun j _ => b.size - (intOf j).toNat)
      case atStart => exact ⟨0, Nat.zero_le _, rfl, hB⟩
      case round =>
        obtain ⟨m, hm, rfl, hBi⟩ := hrel
        by_cases hlm : m < b.size
        · have h1 := HN.out k m hlt hlm
          have h2 : (s[k].toNat == b[m].toNat) = false := by
            rw [beq_eq_false_iff_ne]; intro e; exact h1 (UInt8.toNat_inj.1 e)
          have h3 : ((s[k].toNat : Int) == (b[m].toNat : Int)) = false := by
            rw [beq_eq_false_iff_ne]; intro e; exact h1 (UInt8.toNat_inj.1 (Int.ofNat.inj e))
          go_wp2_with fail
          go_quiet (fail)
          go_wp2_with fail
          go_roundw
          case rel => exact ⟨m + 1, by omega, by go_num, below_drewN hBi _⟩
          case measure => simp [intOf]; omega
        · go_wp2_with fail
          go_roundw
          case rel => exact ⟨k + 1, by omega, by go_num, hBi⟩
          case measure => simp [intOf]; omega
    · go_wp2_with fail
      go_ret
      exact ⟨rfl, hB⟩

/-- No byte 0. -/
def noZero (l : List UInt8) : Bool := l.all fun b => b != 0
theorem noNul_yes (s : ByteArray) (w : World) (hs : s.size ≤ 1000000) (hn : noZero s.data.toList = true) :
    Calls Tryz.prog 8 #[.string s] w fun e w' => e = .returned (.bool true) ∧ w = w' := by
  have hne : ∀ k (hk : k < s.size), (s[k]'hk) ≠ 0 := by
    intro k hk
    have h1 := List.all_eq_true.1 hn _ (mem_get s k hk)
    simpa using h1
  have HN := Lib.hid hne
  clear hne hn
  go_enter Tryz.func8, Tryz.ntmps8
  go_wp2_with fail
  go_loop [3] (fun i => ∃ k : Nat, k ≤ s.size ∧ i = .int .i64 (k : Int)) (fun i => s.size - (intOf i).toNat)
  case atStart => exact ⟨0, Nat.zero_le _, rfl⟩
  case round =>
    obtain ⟨k, hk, rfl⟩ := hrel
    by_cases hlt : k < s.size
    · have h1 := HN.out k hlt
      have h3 : ((s[k].toNat : Int) == 0) = false := by
        rw [beq_eq_false_iff_ne]; intro e
        exact h1 (UInt8.toNat_inj.1 (by simpa using e))
      go_wp2_with fail
      go_round
      case rel => exact ⟨k + 1, by omega, by go_num⟩
      case measure => simp [intOf]; omega
    · go_wp2_with fail
      go_ret
      exact ⟨rfl, rfl⟩
theorem noNul_no (s : ByteArray) (w : World) (hs : s.size ≤ 1000000) (hn : noZero s.data.toList = false) :
    Calls Tryz.prog 8 #[.string s] w fun e w' => e = .returned (.bool false) ∧ w = w' := by
  have hex : ∃ j, ∃ hj : j < s.size, (s[j]'hj) = 0 := by
    unfold noZero at hn
    rw [List.all_eq_false] at hn
    obtain ⟨b, hb, h0⟩ := hn
    obtain ⟨j, hj, e⟩ := List.getElem_of_mem hb
    exact ⟨j, by simpa using hj, by simp at h0; rw [← h0]; exact e⟩
  obtain ⟨j, hj, hj0⟩ := hex
  have HN := Lib.hid hj0
  clear hj0 hn
  go_enter Tryz.func8, Tryz.ntmps8
  go_wp2_with fail
  go_loop [3] (fun i => ∃ k : Nat, k ≤ j ∧ i = .int .i64 (k : Int)) (fun i => s.size - (intOf i).toNat)
  case atStart => exact ⟨0, Nat.zero_le _, rfl⟩
  case round =>
    obtain ⟨k, hk, rfl⟩ := hrel
    have hlt : k < s.size := by omega
    by_cases hz : (s[k]'hlt) = 0
    · have h3 : ((s[k].toNat : Int) == 0) = true := by rw [beq_iff_eq, hz]; rfl
      clear hz
      go_wp2_with fail
      go_ret
      exact ⟨rfl, rfl⟩
    · have hkj : k ≠ j := by
        rintro rfl
        exact hz HN.out
      have h3 : ((s[k].toNat : Int) == 0) = false := by
        rw [beq_eq_false_iff_ne]; intro e
        exact hz (UInt8.toNat_inj.1 (by simpa using e))
      clear hz
      go_wp2_with fail
      go_round
      case rel => exact ⟨k + 1, by omega, by go_num⟩
      case measure => simp [intOf]; omega

theorem decode_drop (s : ByteArray) (i : Nat) : Utf8.decode s i = decodeL (s.data.toList.drop i) := by
  rw [decode_N, decodeL_N]
  simp only [List.length_drop, List.getD_eq_getElem?_getD, List.getElem?_drop, Nat.add_zero]

set_option maxRecDepth 1000000 in
set_option maxHeartbeats 400000 in
theorem validText_any (s : ByteArray) (w : World) (hs : s.size ≤ 140737488355328) :
    Calls Tryz.prog 7 #[.string s] w fun e w' => e = .returned (.bool (clean s.data.toList && decide (s.size ≤ 1000))) ∧ Below w.heap.size w w' := by
  have HS := Lib.hid hs
  clear hs
  go_enter Tryz.func7, Tryz.ntmps7
  go_wp2_with fail
  go_loopw [4] (fun _ w' => ∃ pos : Nat, w' = w.iter s pos ∧ Hid (clean (s.data.toList.drop pos) = clean s.data.toList)) (fun _ w' => s.size - w'.iterPos w.heap.size)
  case atStart => exact ⟨0, rfl, rfl⟩
  case round =>
    obtain ⟨pos, rfl, HC⟩ := hrel
    by_cases hp : pos < s.size
    · have hne : s.data.toList.drop pos ≠ [] := by
        intro h0
        have := congrArg List.length h0
        simp at this; omega
      have hst := clean_step _ hne
      rw [← decode_drop] at hst
      have hwd := Lib.decode_width_pos s pos hp
      have hnx : ∀ ty, (Instr.next (.pointer (some ⟨w.heap.size, 0, none⟩)) true ty).run Tryz.prog (w.iter s pos) = _ := fun ty => run_next_any w s pos ty hp
      by_cases hb : (Utf8.decode s pos).1 = 65533
      · rw [if_pos hb] at hst
        have HF : Hid (clean s.data.toList = false) := by show _ = _; rw [← HC.out]; exact hst
        have hb2 : (((Utf8.decode s pos).1 : Int) == 65533) = true := by rw [beq_iff_eq]; omega
        clear hst hb hne
        go_wp2_with fail
        go_ret
        rw [HF.out]
        exact ⟨rfl, (Below.refl _ _).alloc (Nat.le_refl _) _⟩
      · rw [if_neg hb] at hst
        have HF : Hid (clean (s.data.toList.drop (pos + (Utf8.decode s pos).2)) = clean s.data.toList) := by
          show _ = _; rw [← HC.out, hst, List.drop_drop]
        have hb2 : (((Utf8.decode s pos).1 : Int) == 65533) = false := by rw [beq_eq_false_iff_ne]; omega
        clear hst hb hne
        go_wp2_with fail
        go_roundw
        case rel => exact ⟨_, rfl, HF⟩
        case measure => simp; omega
    · have HF : Hid (clean s.data.toList = true) := by
        show _ = _
        rw [← HC.out, List.drop_eq_nil_of_le (by simp; omega)]; rfl
      have hnx : ∀ ty, (Instr.next (.pointer (some ⟨w.heap.size, 0, none⟩)) true ty).run Tryz.prog (w.iter s pos) = _ := fun ty => run_next_end w s pos ty hp
      go_wp2_with fail
      go_ret
      rw [HF.out]
      refine ⟨?_, (Below.refl _ _).alloc (Nat.le_refl _) _⟩
      simp
      omega
end Go.Proofs.YthkinpadambpcaaGreatDoor
