/-
  FnAppendEscapedNoNewlineExactGrowth: the walk.
-/
import Derived.Test.Qxb6002662aEscaped
namespace Go.Proofs.Qxb6002662a.GrowthWalk
open Go.RowKit Go.Proofs.Qxb6002662a.Plain Go.Proofs.Qxb6002662a.Parts

set_option maxHeartbeats 400000 in
/-- A text past the bound: true at once. -/
theorem big (a : ByteArray) (w : World) (hb : (1048576 : Int) < a.size) :
    Calls Try.prog 8 #[.string a] w fun e w' => e = .returned (.bool true) ∧ Below w.heap.size w w' := by
  go_enter Try.func8, Try.ntmps8
  go_wp2
  go_ret
  exact ⟨rfl, Below.refl _ _⟩

set_option maxHeartbeats 400000 in
theorem within (a : ByteArray) (w : World) (hb : a.size ≤ 1048576) :
    Calls Try.prog 23 #[.string a] w fun e w' => e = .returned (.bool true) ∧ w' = w := by
  have hb' : ¬ (1048576 : Int) < a.size := by omega
  go_enter Try.func23, Try.ntmps23
  go_wp2
  go_ret
  exact ⟨rfl, rfl⟩

theorem special_yes (a : ByteArray) (k : Nat) (h : k < a.size) (hc : spec a[k] = true) : specials (a.data.toList.take (k + 1)) = specials (a.data.toList.take k) + 1 := by
  rw [take_succ_eq _ k h, specials_snoc]
  rw [if_pos (show spec a.data.toList[k] = true from hc)]

theorem special_no (a : ByteArray) (k : Nat) (h : k < a.size) (hc : spec a[k] = false) : specials (a.data.toList.take (k + 1)) = specials (a.data.toList.take k) := by
  rw [take_succ_eq _ k h, specials_snoc]
  simp only [show a.data.toList[k] = a[k] from rfl, hc]
  rfl

theorem special_take_le (a : ByteArray) (k : Nat) : specials (a.data.toList.take k) ≤ k := by
  have h1 := specials_le (a.data.toList.take k)
  have h2 : (a.data.toList.take k).length ≤ k := List.length_take_le _ _
  omega

set_option maxHeartbeats 1000000 in
theorem small (a : ByteArray) (w : World) (hb : a.size ≤ 1048576) :
    Calls Try.prog 8 #[.string a] w fun e w' => e = .returned (.bool true) ∧ Below w.heap.size w w' := by
  have hb' : decide ((1048576 : Int) < a.size) = false := by simp; omega
  go_enter Try.func8, Try.ntmps8
  go_wp2_with fail
  refine (within a w hb).mono ?_
  rintro e w' ⟨rfl, rfl⟩
  go_wp2_with fail
  refine (Escaped.zz (.slice none 0 0) [] a w'.heap.size w' (Own.nil _ _) (Nat.le_refl _) (by simp; omega)).mono ?_
  rintro e w1 ⟨v1, rfl, hown1, hbel1⟩
  rw [List.nil_append] at hown1
  obtain ⟨ad, cap, hv, hcap, hcm, hcells⟩ := hown1.reads
  rw [hv]
  clear hown1 hv
  unfold maxLen at hcm
  have hN : Hid ((esc a.data.toList).length = a.size + specials a.data.toList) := esc_length _
  have hN2 := esc_length_le a.data.toList
  rw [size_data] at hN2
  have hnl := esc_no_newline a.data.toList
  have HL : Hid (∀ d ∈ esc a.data.toList, d ≠ 10) := hnl
  clear hnl
  have HC : Hid (esc a.data.toList ≠ [] → ∃ b o, ad = some ⟨b, o, none⟩ ∧ b < w1.heap.size ∧ ∀ i, (h : i < (esc a.data.toList).length) → w1.cell? ⟨b, o + i, none⟩ = some (.int .u8 ((esc a.data.toList)[i].toNat : Int))) := hcells
  clear hcells
  go_wp2_with fail
  go_loop [4, 5] (fun sp i => ∃ k : Nat, k ≤ a.size ∧ i = .int .i64 k ∧ sp = .int .i64 (specials (a.data.toList.take k))) (fun _ i => a.size - (intOf i).toNat)
  case atStart => exact ⟨0, Nat.zero_le _, rfl, rfl⟩
  case round =>
    obtain ⟨k, hk, rfl, rfl⟩ := hrel
    have hsl := special_take_le a k
    by_cases hlt : k < a.size
    · by_cases c92 : a[k] = 92
      · have h1 : ((a[k].toNat : Int) == 92) = true := by rw [c92]; rfl
        have HS : Hid (specials (a.data.toList.take (k + 1)) = specials (a.data.toList.take k) + 1) := special_yes a k hlt (by rw [c92]; rfl)
        clear c92
        go_wp2
        go_round
        case rel => exact ⟨k + 1, by omega, by go_num, by rw [HS.out]; go_num⟩
        case measure => simp [intOf]; omega
      · have h1 := Escaped.ne92 c92
        by_cases c10 : a[k] = 10
        · have h2 : ((a[k].toNat : Int) == 10) = true := by rw [c10]; rfl
          have HS : Hid (specials (a.data.toList.take (k + 1)) = specials (a.data.toList.take k) + 1) := special_yes a k hlt (by rw [c10]; rfl)
          clear c92 c10
          go_wp2
          go_round
          case rel => exact ⟨k + 1, by omega, by go_num, by rw [HS.out]; go_num⟩
          case measure => simp [intOf]; omega
        · have h2 := Escaped.ne10 c10
          have HS : Hid (specials (a.data.toList.take (k + 1)) = specials (a.data.toList.take k)) := special_no a k hlt (by simp [spec, c92, c10])
          clear c92 c10
          go_wp2
          go_round
          case rel => exact ⟨k + 1, by omega, by go_num, by rw [HS.out]⟩
          case measure => simp [intOf]; omega
    · obtain rfl : k = a.size := by omega
      rw [List.take_of_length_le (by rw [size_data]; exact Nat.le_refl _)]
      rw [List.take_of_length_le (by rw [size_data]; exact Nat.le_refl _)] at hsl
      go_wp2_with fail
      go_loop [6] (fun i => ∃ k : Nat, k ≤ (esc a.data.toList).length ∧ i = .int .i64 k) (fun i => (esc a.data.toList).length - (intOf i).toNat)
      case atStart => exact ⟨0, Nat.zero_le _, rfl⟩
      case round =>
        obtain ⟨k, hk2, rfl⟩ := hrel
        by_cases hlt2 : k < (esc a.data.toList).length
        · obtain ⟨b, o, rfl, hbk, hcl⟩ := HC.out (by intro e; rw [e] at hlt2; simp at hlt2)
          have hc := hcl k hlt2
          have hne := Escaped.ne10 (HL.out _ (List.getElem_mem hlt2))
          clear hcl
          go_wp2
          go_round
          case rel => exact ⟨k + 1, by omega, by go_num⟩
          case measure => simp [intOf]; omega
        · have hq : (((esc a.data.toList).length : Int) == (a.size : Int) + (specials a.data.toList : Int)) = true := by rw [hN.out]; simp
          go_wp2
          go_ret
          exact ⟨rfl, hbel1⟩

end Go.Proofs.Qxb6002662a.GrowthWalk
