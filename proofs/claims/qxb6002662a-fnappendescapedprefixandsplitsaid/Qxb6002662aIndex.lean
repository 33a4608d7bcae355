/-
  strings.IndexByte at this program: minus one where the byte does not stand in the text, else a place.
-/
import Derived.Test.Qxb6002662aProg
import Derived.Test.Qxb6002662aParts
import Derived.WalkKit
import Derived.Laws.Externs
namespace Go.Proofs.Qxb6002662a.Index
open Go.RowKit

theorem getElem!_data (s : ByteArray) (i : Nat) (h : i < s.size) : s[i]! = s.data.toList[i]'(by simpa using h) := by
  rw [getElem!_pos s i h]
  rfl

theorem firstIdx_none (s : ByteArray) (c : UInt8) (h : c ∉ s.data.toList) : firstIdx s c = -1 := by
  unfold firstIdx
  have e : (List.range s.size).find? (fun i => s[i]! == c) = none := by
    rw [List.find?_eq_none]
    intro i hi
    have hlt : i < s.size := List.mem_range.1 hi
    rw [getElem!_data s i hlt]
    simp only [beq_iff_eq]
    intro hc
    exact h (hc ▸ List.getElem_mem _)
  rw [e]

theorem firstIdx_some (s : ByteArray) (c : UInt8) (h : c ∈ s.data.toList) : ∃ k : Nat, firstIdx s c = (k : Int) := by
  unfold firstIdx
  cases hf : (List.range s.size).find? (fun i => s[i]! == c) with
  | some i => exact ⟨i, rfl⟩
  | none =>
    rw [List.find?_eq_none] at hf
    obtain ⟨i, hi, hc⟩ := List.getElem_of_mem h
    have hlt : i < s.size := by simpa using hi
    have := hf i (List.mem_range.2 hlt)
    rw [getElem!_data s i hlt, hc] at this
    simp at this

set_option maxHeartbeats 400000 in
theorem any (s : ByteArray) (c : Int) (w : World) :
    Calls Try.prog 46 #[.string s, .int .u8 c] w fun e w' => e = .returned (.int .i64 (firstIdx s c.toNat.toUInt8)) ∧ w' = w := by
  go_enter Try.func46, Try.ntmps46
  go_wp2
  rw [run_callFunc_extern Try.func53 (by kernel_rfl) (by kernel_rfl) (by kernel_rfl) (e := Extern.BytealgIndexByte.indexByte) (by kernel_rfl), run_indexByte_string]
  simp only [Result.andThen]
  rw [Oper.upon_value]
  go_wp2
  go_ret
  exact ⟨rfl, rfl⟩

theorem no92 (s : ByteArray) (w : World) (h : (92 : UInt8) ∉ s.data.toList) :
    Calls Try.prog 46 #[.string s, .int .u8 92] w fun e w' => e = .returned (.int .i64 (-1)) ∧ w' = w := by
  refine (any s 92 w).mono ?_
  rintro e w' ⟨rfl, rfl⟩
  rw [show (92 : Int).toNat.toUInt8 = (92 : UInt8) from rfl, firstIdx_none s _ h]
  exact ⟨rfl, rfl⟩

theorem no10 (s : ByteArray) (w : World) (h : (10 : UInt8) ∉ s.data.toList) :
    Calls Try.prog 46 #[.string s, .int .u8 10] w fun e w' => e = .returned (.int .i64 (-1)) ∧ w' = w := by
  refine (any s 10 w).mono ?_
  rintro e w' ⟨rfl, rfl⟩
  rw [show (10 : Int).toNat.toUInt8 = (10 : UInt8) from rfl, firstIdx_none s _ h]
  exact ⟨rfl, rfl⟩

theorem yes92 (s : ByteArray) (w : World) (h : (92 : UInt8) ∈ s.data.toList) :
    Calls Try.prog 46 #[.string s, .int .u8 92] w fun e w' => (∃ k : Nat, e = .returned (.int .i64 (k : Int))) ∧ w' = w := by
  refine (any s 92 w).mono ?_
  rintro e w' ⟨rfl, rfl⟩
  obtain ⟨k, hk⟩ := firstIdx_some s _ h
  rw [show (92 : Int).toNat.toUInt8 = (92 : UInt8) from rfl, hk]
  exact ⟨⟨k, rfl⟩, rfl⟩

theorem yes10 (s : ByteArray) (w : World) (h : (10 : UInt8) ∈ s.data.toList) :
    Calls Try.prog 46 #[.string s, .int .u8 10] w fun e w' => (∃ k : Nat, e = .returned (.int .i64 (k : Int))) ∧ w' = w := by
  refine (any s 10 w).mono ?_
  rintro e w' ⟨rfl, rfl⟩
  obtain ⟨k, hk⟩ := firstIdx_some s _ h
  rw [show (10 : Int).toNat.toUInt8 = (10 : UInt8) from rfl, hk]
  exact ⟨⟨k, rfl⟩, rfl⟩

end Go.Proofs.Qxb6002662a.Index
