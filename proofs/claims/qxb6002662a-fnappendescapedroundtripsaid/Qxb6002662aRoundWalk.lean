/-
  FnAppendEscapedRoundTrip: unescapeLine, bytesEqualString, the walk of the law.
-/
import Derived.Test.Qxb6002662aEscaped
import Derived.Deep.QuietTactic
import Derived.BigQuiet
import Derived.WalkLawsBesides
namespace Go.Proofs.Qxb6002662a.RoundWalk
open Go.RowKit Go.Proofs.Qxb6002662a.Plain Go.Proofs.Qxb6002662a.Parts

/-- The line's place i is where the escape of the text's byte k begins. -/
def At (l : List UInt8) (k i : Nat) : Prop := i = (esc (l.take k)).length

theorem At.zero (l : List UInt8) : At l 0 0 := rfl

theorem At.le {l : List UInt8} {k i : Nat} (h : At l k i) : i ≤ (esc l).length := by
  have := esc_take_le l k
  unfold At at h
  omega

theorem At.all {l : List UInt8} {i : Nat} (h : At l l.length i) : i = (esc l).length := by
  unfold At at h
  rwa [List.take_length] at h

theorem At.room {l : List UInt8} {k i : Nat} (h : At l k i) (hk : k < l.length) : i + (escB l[k]).length ≤ (esc l).length := by
  have h1 := esc_len_split l k hk
  have h2 := esc_take_le l (k + 1)
  unfold At at h
  omega

theorem At.next {l : List UInt8} {k i n : Nat} (h : At l k i) (hk : k < l.length) (hn : (escB l[k]).length = n) : At l (k + 1) (i + n) := by
  have h1 := esc_len_split l k hk
  unfold At at h ⊢
  omega

theorem At.byte {l : List UInt8} {k i : Nat} (h : At l k i) (hk : k < l.length) (j : Nat) (hj : j < (escB l[k]).length) (hi : i + j < (esc l).length) : (esc l)[i + j] = (escB l[k])[j] := by
  have h1 := esc_at l k j hk hj
  unfold At at h
  subst h
  rw [List.getElem?_eq_getElem hi] at h1
  exact Option.some.inj h1

/-- The cells of a slice of bytes, at its address. -/
def Cells (w : World) (b o : Nat) (l : List UInt8) : Prop := b < w.heap.size ∧ ∀ i, (h : i < l.length) → w.cell? ⟨b, o + i, none⟩ = some (.int .u8 (l[i].toNat : Int))

theorem Cells.at_ {w wr : World} {b o : Nat} {l : List UInt8} (h : Cells w b o l) (hb : Below w.heap.size w wr) (i : Nat) (hi : i < l.length) (c : UInt8) (hc : l[i] = c) :
    wr.cell? ⟨b, o + i, none⟩ = some (.int .u8 (c.toNat : Int)) := by
  rw [← hc]
  exact (hb.cell (p := ⟨b, o + i, none⟩) h.1).trans (h.2 i hi)

theorem own_snoc {w : World} {B m : Nat} {v : Value} {l : List UInt8} {k : Nat} {c : UInt8} (hk : k < l.length) (hc : l[k] = c)
    (h : w.ownsRow B 5 1 v m (bc (l.take k) ++ [.int .u8 (c.toNat : Int)])) : Own w B v (l.take (k + 1)) := by
  refine Own.of_row h ?_
  rw [take_succ_eq l k hk, bc_append, hc]
  rfl

theorem ne92' {c : UInt8} (h : ¬ c = 92) : ((c.toNat : Int) != 92) = true := by
  rw [bne, Escaped.ne92 h]
  rfl

set_option maxHeartbeats 1000000 in
/-- unescapeLine, at an escaped line: it hands back the text, and true. -/
theorem unescape (v : Value) (l : List UInt8) (w : World) (hl : l.length ≤ 1048576) (hv : Reads w v (esc l)) :
    Calls Try.prog 18 #[v] w fun e w' => ∃ v', e = .returned (.tuple #[v', .bool true]) ∧ Own w' w.heap.size v' l ∧ Below w.heap.size w w' := by
  obtain ⟨i0, hi, hz0, hz1, hz2⟩ := info_parts Escaped.info5
  have hN := esc_length_le l
  obtain ⟨ad, cap, rfl, -, -, hcs⟩ := hv
  have HC : Hid (l.length ≠ 0 → ∃ b o, ad = some ⟨b, o, none⟩ ∧ Cells w b o (esc l)) := fun hne => by
    obtain ⟨b, o, ha, hb, hc⟩ := hcs (fun e => by have := le_esc_length l; rw [e] at this; simp at this; rw [this] at hne; exact hne rfl)
    exact ⟨b, o, ha, hb, hc⟩
  clear hcs
  go_enter Try.func18, Try.ntmps18
  go_wp2_with (at_make; refine wpList_make_own _ rfl (.const (.int .i64 0)) (.tmp 9) 27 rfl w.heap.size 5 i0 (.int .u8 0) 1 Try.underlying27 hi hz0 hz1 .i64 .i64 _ (esc l).length rfl rfl ?_ ?_ ?_ ?_ ?_)
  · rfl
  · rw [hz2]; omega
  · unfold maxLen; omega
  · exact Nat.le_refl _
  intro wm hom hgm
  have hbm : Below w.heap.size w wm := (Below.refl _ _).grown hgm (Nat.le_refl _) (fun k hk => by cases hk)
  have hom' : Own wm w.heap.size (.slice (some ⟨w.heap.size, 0, none⟩) 0 (esc l).length) [] := hom
  clear hom hgm
  go_wp2_with fail
  go_loopw [4, 5] (fun u iv wr => ∃ k i : Nat, k ≤ l.length ∧ iv = .int .i64 i ∧ i ≤ (esc l).length ∧ At l k i ∧ Own wr w.heap.size u (l.take k) ∧ Below w.heap.size w wr) (fun _ iv _ => (esc l).length - (intOf iv).toNat)
  case atStart => exact ⟨0, 0, Nat.zero_le _, rfl, Nat.zero_le _, At.zero _, hom', hbm⟩
  case round =>
    obtain ⟨k, i, hk, rfl, hiN, hat, how, hbel⟩ := hrel
    have hwr : wr.ownsRow w.heap.size 5 1 u4 (l.take k).length (bc (l.take k)) := how
    have hrow := how.lt
    have htl : (l.take k).length ≤ k := List.length_take_le _ _
    have hBr := hbel.size
    clear hom' hbm
    by_cases hlt : k < l.length
    · have hroom := hat.room hlt
      obtain ⟨b, o, rfl, hcells⟩ := HC.out (by omega)
      by_cases c92 : l[k] = 92
      · have hel : (escB l[k]).length = 2 := by rw [c92]; rfl
        have hat' := hat.next hlt hel
        have hi1 : i + 1 < (esc l).length := by omega
        have e0 : (esc l)[i] = 92 := by have := hat.byte hlt 0 (by omega) (by omega); simpa [c92, escB] using this
        have e1 : (esc l)[i + 1] = 92 := by have := hat.byte hlt 1 (by omega) (by omega); simpa [c92, escB] using this
        have f0 : wr.cell? ⟨b, o + i, none⟩ = some (.int .u8 92) := hcells.at_ hbel i (by omega) 92 e0
        have f1 : wr.cell? ⟨b, o + (i + 1), none⟩ = some (.int .u8 92) := hcells.at_ hbel (i + 1) (by omega) 92 e1
        have C : Hid (l[k] = 92) := c92
        clear c92 e0 e1 hel hroom how
        go_wp2_with (at_builtin; refine wpList_append_own _ rfl (.tmp 39) (.tmp 40) 27 rfl w.heap.size 5 i0 (.int .u8 0) 1 1 Try.underlying27 hi hz0 hz1 hz2 rfl (by decide) u4 _ _ rfl (hwr.alloc _) ⟨wr.heap.size, 0, none⟩ 1 1 [.int .u8 92] rfl rfl ?_ ?_ ?_ ?_ ?_ ?_)
        · exact cell_one_new _ _ _
        · intro u hu; simp at hu; subst hu; rfl
        · unfold maxLen; omega
        · omega
        · rw [World.size_alloc]; omega
        intro v1 w1 hown1 hgrow1 _
        have hbel1 : Below w.heap.size w w1 := (hbel.alloc hBr _).grown hgrow1 (by rw [World.size_alloc]; omega) (fun k hk => (hrow k hk).1)
        have hfin : Own w1 w.heap.size v1 (l.take (k + 1)) := own_snoc hlt C.out hown1
        clear hgrow1 hown1 hrow hwr f0 f1 hbel hBr
        go_wp2
        go_roundw
        case rel => exact ⟨k + 1, i + 2, by omega, by go_num, by omega, hat', hfin, hbel1⟩
        case measure => simp [intOf]; omega
      · by_cases c10 : l[k] = 10
        · have hel : (escB l[k]).length = 2 := by rw [c10]; rfl
          have hat' := hat.next hlt hel
          have hi1 : i + 1 < (esc l).length := by omega
          have e0 : (esc l)[i] = 92 := by have := hat.byte hlt 0 (by omega) (by omega); simpa [c10, escB] using this
          have e1 : (esc l)[i + 1] = 110 := by have := hat.byte hlt 1 (by omega) (by omega); simpa [c10, escB] using this
          have f0 : wr.cell? ⟨b, o + i, none⟩ = some (.int .u8 92) := hcells.at_ hbel i (by omega) 92 e0
          have f1 : wr.cell? ⟨b, o + (i + 1), none⟩ = some (.int .u8 110) := hcells.at_ hbel (i + 1) (by omega) 110 e1
          have C : Hid (l[k] = 10) := c10
          clear c92 c10 e0 e1 hel hroom how
          go_wp2_with (at_builtin; refine wpList_append_own _ rfl (.tmp 44) (.tmp 45) 27 rfl w.heap.size 5 i0 (.int .u8 0) 1 1 Try.underlying27 hi hz0 hz1 hz2 rfl (by decide) u4 _ _ rfl (hwr.alloc _) ⟨wr.heap.size, 0, none⟩ 1 1 [.int .u8 10] rfl rfl ?_ ?_ ?_ ?_ ?_ ?_)
          · exact cell_one_new _ _ _
          · intro u hu; simp at hu; subst hu; rfl
          · unfold maxLen; omega
          · omega
          · rw [World.size_alloc]; omega
          intro v1 w1 hown1 hgrow1 _
          have hbel1 : Below w.heap.size w w1 := (hbel.alloc hBr _).grown hgrow1 (by rw [World.size_alloc]; omega) (fun k hk => (hrow k hk).1)
          have hfin : Own w1 w.heap.size v1 (l.take (k + 1)) := own_snoc hlt C.out hown1
          clear hgrow1 hown1 hrow hwr f0 f1 hbel hBr
          go_wp2
          go_roundw
          case rel => exact ⟨k + 1, i + 2, by omega, by go_num, by omega, hat', hfin, hbel1⟩
          case measure => simp [intOf]; omega
        · have hel : (escB l[k]).length = 1 := by rw [escB_plain c92 c10]; rfl
          have hat' := hat.next hlt hel
          have hi1 : i < (esc l).length := by omega
          have e0 : (esc l)[i] = l[k] := by have := hat.byte hlt 0 (by omega) (by omega); simpa [escB_plain c92 c10] using this
          have f0 : wr.cell? ⟨b, o + i, none⟩ = some (.int .u8 (l[k].toNat : Int)) := hcells.at_ hbel i (by omega) _ e0
          have h1 := ne92' c92
          clear c92 c10 e0 hel hroom how
          go_wp2_with (at_builtin; refine wpList_append_own _ rfl (.tmp 21) (.tmp 23) 27 rfl w.heap.size 5 i0 (.int .u8 0) 1 1 Try.underlying27 hi hz0 hz1 hz2 rfl (by decide) u4 _ _ rfl (hwr.alloc _) ⟨wr.heap.size, 0, none⟩ 1 1 [.int .u8 (l[k].toNat : Int)] rfl rfl ?_ ?_ ?_ ?_ ?_ ?_)
          · exact cell_one_new _ _ _
          · intro u hu; simp at hu; subst hu; rfl
          · unfold maxLen; omega
          · omega
          · rw [World.size_alloc]; omega
          intro v1 w1 hown1 hgrow1 _
          have hbel1 : Below w.heap.size w w1 := (hbel.alloc hBr _).grown hgrow1 (by rw [World.size_alloc]; omega) (fun k hk => (hrow k hk).1)
          have hfin : Own w1 w.heap.size v1 (l.take (k + 1)) := own_snoc hlt rfl hown1
          clear hgrow1 hown1 hrow hwr f0 hbel hBr
          go_wp2
          go_roundw
          case rel => exact ⟨k + 1, i + 1, by omega, by go_num, by omega, hat', hfin, hbel1⟩
          case measure => simp [intOf]; omega
    · obtain rfl : k = l.length := by omega
      obtain rfl := hat.all
      rw [List.take_length] at how
      clear hwr
      go_wp2
      go_ret2
      exact ⟨u4, rfl, how, hbel⟩

set_option maxHeartbeats 400000 in
/-- bytesEqualString, at the text's own bytes: true. -/
theorem equalString (v : Value) (a : ByteArray) (w : World) (hl : a.size ≤ 1048576) (hv : Reads w v a.data.toList) :
    Calls Try.prog 19 #[v, .string a] w fun e w' => e = .returned (.bool true) ∧ Below w.heap.size w w' := by
  obtain ⟨ad, cap, rfl, -, -, hcs⟩ := hv
  rw [size_data]
  have HC : Hid (a.size ≠ 0 → ∃ b o, ad = some ⟨b, o, none⟩ ∧ Cells w b o a.data.toList) := fun hne => by
    obtain ⟨b, o, ha, hb, hc⟩ := hcs (fun e => by rw [← size_data, e] at hne; exact hne rfl)
    exact ⟨b, o, ha, hb, hc⟩
  clear hcs
  have hne : ((a.size : Int) != (a.size : Int)) = false := by simp
  go_enter Try.func19, Try.ntmps19
  go_wp2
  go_loopw [5] (fun iv wr => ∃ k : Nat, k ≤ a.size ∧ iv = .int .i64 k ∧ Below w.heap.size w wr) (fun iv _ => a.size - (intOf iv).toNat)
  case atStart => exact ⟨0, Nat.zero_le _, rfl, Below.refl _ _⟩
  case round =>
    obtain ⟨k, hk, rfl, hbel⟩ := hrel
    by_cases hlt : k < a.size
    · obtain ⟨b, o, rfl, hcells⟩ := HC.out (by omega)
      have f0 : wr.cell? ⟨b, o + k, none⟩ = some (.int .u8 (a[k].toNat : Int)) := hcells.at_ hbel k hlt _ rfl
      have hlt' : (k : Int) < (a.size : Int) := by omega
      have hq : ((a[k].toNat : Int) != (a[k].toNat : Int)) = false := by simp
      go_wp2
      go_quiet (fail)
      go_wp2
      go_roundw
      case rel => exact ⟨k + 1, by omega, by go_num, below_drewN hbel _⟩
      case measure => simp [intOf]; omega
    · go_wp2
      go_ret
      exact ⟨rfl, hbel⟩

set_option maxHeartbeats 400000 in
/-- A text past the bound: true at once. -/
theorem big (a : ByteArray) (w : World) (hb : (1048576 : Int) < a.size) :
    Calls Try.prog 6 #[.string a] w fun e w' => e = .returned (.bool true) ∧ Below w.heap.size w w' := by
  go_enter Try.func6, Try.ntmps6
  go_wp2
  go_ret
  exact ⟨rfl, Below.refl _ _⟩

set_option maxHeartbeats 400000 in
theorem within (a : ByteArray) (w : World) (hb : a.size ≤ 1048576) :
    Calls Try.prog 16 #[.string a] w fun e w' => e = .returned (.bool true) ∧ w' = w := by
  have hb' : ¬ (1048576 : Int) < a.size := by omega
  go_enter Try.func16, Try.ntmps16
  go_wp2
  go_ret
  exact ⟨rfl, rfl⟩

set_option maxHeartbeats 400000 in
theorem small (a : ByteArray) (w : World) (hb : a.size ≤ 1048576) :
    Calls Try.prog 6 #[.string a] w fun e w' => e = .returned (.bool true) ∧ Below w.heap.size w w' := by
  have hb' : decide ((1048576 : Int) < a.size) = false := by simp; omega
  go_enter Try.func6, Try.ntmps6
  go_wp2_with fail
  refine (within a w hb).mono ?_
  rintro e w' ⟨rfl, rfl⟩
  go_wp2_with fail
  refine (Escaped.zz (.slice none 0 0) [] a w'.heap.size w' (Own.nil _ _) (Nat.le_refl _) (by simp; omega)).mono ?_
  rintro e w1 ⟨v1, rfl, hown1, hbel1⟩
  rw [List.nil_append] at hown1
  go_wp2_with fail
  refine (unescape v1 a.data.toList w1 (by rw [size_data]; exact hb) hown1.reads).mono ?_
  rintro e w2 ⟨v2, rfl, hown2, hbel2⟩
  have hbel3 : Below w'.heap.size w' w2 := hbel1.trans (hbel2.mono hbel1.size)
  clear hown1 hbel1 hbel2
  go_wp2_with fail
  refine (equalString v2 a w2 hb hown2.reads).mono ?_
  rintro e w3 ⟨rfl, hbel4⟩
  have hbel5 : Below w'.heap.size w' w3 := hbel3.trans (hbel4.mono hbel3.size)
  clear hown2 hbel3 hbel4
  go_wp2
  go_ret
  exact ⟨rfl, hbel5⟩

end Go.Proofs.Qxb6002662a.RoundWalk
