/- kindOf: the number of an escaper by its name. -/
import Derived.Test.YthkinpadambpcaaGreatDoorZz
import Derived.Test.YthkinpadambpcaaGreatDoorWd
namespace Go.Proofs.YthkinpadambpcaaGreatDoor
open Go.RowKit Go.Lib

theorem Escapers_any (w : World) : Calls Tryz.prog 21 #[] w (NamesOut w) := by
  go_enter Tryz.func21, Tryz.ntmps21
  go_wp2_with fail
  refine (ZZEscapers_any w).mono ?_
  rintro e w' ⟨g, cap, rfl, hc, hg, hg2, hb⟩
  go_wp2_with fail
  go_ret
  exact ⟨g, cap, rfl, hc, hg, hg2, hb⟩

def pre : List UInt8 := [95, 104, 116, 109, 108, 95, 116, 101, 109, 112, 108, 97, 116, 101, 95]
theorem kindOf_at (nm : List UInt8) (n : Nat) (w : World) (hl : nm.length ≤ 100) (hn : n < 17) (hyes : sortedNames.getD n [] = pre ++ nm) (hno : ∀ j, j < n → sortedNames.getD j [] ≠ pre ++ nm) :
    Calls Tryz.prog 17 #[.string ⟨nm.toArray⟩] w fun e w' => e = .returned (.int .i64 (n : Int)) ∧ Below w.heap.size w w' := by
  have HY := Lib.hid hyes
  have HN := Lib.hid hno
  clear hyes hno
  go_enter Tryz.func17, Tryz.ntmps17
  go_wp2_with fail
  refine (Escapers_any w).mono ?_
  rintro e w1 ⟨g, cap, rfl, hc, hg, hg2, hb⟩
  have HC := Lib.hid hc
  clear hc
  go_wp2_with fail
  go_loop [4] (fun i => ∃ k : Nat, k ≤ n ∧ i = .int .i64 (k : Int)) (fun i => 17 - (intOf i).toNat)
  case atStart => exact ⟨0, Nat.zero_le _, rfl⟩
  case round =>
    obtain ⟨k, hk, rfl⟩ := hrel
    have hc := HC.out k (by omega)
    obtain ⟨X, hX⟩ : ∃ X : ByteArray, (⟨(sortedNames.getD k []).toArray⟩ : ByteArray) = X := ⟨_, rfl⟩
    rw [hX] at hc
    have hXl : X.toList = sortedNames.getD k [] := by rw [← hX, Lib.toList_data]
    have hpl : (({ data := #[95, 104, 116, 109, 108, 95, 116, 101, 109, 112, 108, 97, 116, 101, 95] } : ByteArray) ++ { data := nm.toArray }).toList = pre ++ nm := by
      rw [Lib.toList_data, app_toList]; rfl
    by_cases hkn : k = n
    · subst hkn
      have ht : (X.toList == (({ data := #[95, 104, 116, 109, 108, 95, 116, 101, 109, 112, 108, 97, 116, 101, 95] } : ByteArray) ++ { data := nm.toArray }).toList) = true := by
        rw [beq_iff_eq, hXl, hpl, HY.out]
      clear hXl hpl hX
      go_wp2_with fail
      go_ret
      exact ⟨rfl, hb⟩
    · have hlt : k < n := by omega
      have ht : (X.toList == (({ data := #[95, 104, 116, 109, 108, 95, 116, 101, 109, 112, 108, 97, 116, 101, 95] } : ByteArray) ++ { data := nm.toArray }).toList) = false := by
        rw [beq_eq_false_iff_ne, hXl, hpl]; exact HN.out k hlt
      clear hXl hpl hX
      go_wp2_with fail
      go_round
      case rel => exact ⟨k + 1, by omega, by go_num⟩
      case measure => simp [intOf]; omega
end Go.Proofs.YthkinpadambpcaaGreatDoor
