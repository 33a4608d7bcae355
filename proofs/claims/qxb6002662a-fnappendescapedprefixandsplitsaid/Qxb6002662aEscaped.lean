/-
  appendEscaped and ZZAppendEscaped: onto a slice that the call owns they append the escape of the text.
-/
import Derived.Test.Qxb6002662aIndex
import Derived.WalkSpells
namespace Go.Proofs.Qxb6002662a.Escaped
open Go.RowKit Go.Proofs.Qxb6002662a.Plain Go.Proofs.Qxb6002662a.Parts

theorem info5 : (Try.prog.info? 5).map (fun i => (i.zero, i.size, i.bytes)) = some (some (.int .u8 0), 1, 1) := by kernel_rfl

theorem no_special {a : ByteArray} (h92 : (92 : UInt8) ∉ a.data.toList) (h10 : (10 : UInt8) ∉ a.data.toList) : ∀ c ∈ a.data.toList, c ≠ 92 ∧ c ≠ 10 :=
  fun _ hc => ⟨fun e => h92 (e ▸ hc), fun e => h10 (e ▸ hc)⟩

set_option maxHeartbeats 400000 in
/-- Nothing to escape: one append. -/
theorem plain (v : Value) (p : List UInt8) (a : ByteArray) (B : Nat) (w : World) (hown : Own w B v p) (hB : B ≤ w.heap.size)
    (hb : p.length + a.size ≤ 8388608) (h92 : (92 : UInt8) ∉ a.data.toList) (h10 : (10 : UInt8) ∉ a.data.toList) :
    Calls Try.prog 40 #[v, .string a] w fun e w' => ∃ v', e = .returned v' ∧ Own w' B v' (p ++ esc a.data.toList) ∧ Below B w w' := by
  obtain ⟨i0, hi, hz0, hz1, hz2⟩ := info_parts info5
  have hw : w.ownsRow B 5 1 v p.length (bc p) := hown
  have hrow := hown.lt
  go_enter Try.func40, Try.ntmps40
  go_wp2_with fail
  refine (Index.no92 a _ h92).mono ?_
  rintro e w' ⟨rfl, rfl⟩
  go_wp2_with fail
  refine (Index.no10 a _ h10).mono ?_
  rintro e w' ⟨rfl, rfl⟩
  go_wp2_with (at_builtin; refine Lib.wpList_append_own_string _ rfl (.tmp 16) (.tmp 17) 27 9 rfl B 5 i0 Try.underlying27 Try.underlying9 hi hz0 hz1 hz2 v _ _ rfl hw a rfl ?c1 ?c2 ?c3 ?_)
  case c1 => unfold maxLen; omega
  case c2 => omega
  case c3 => exact hB
  intro v' w1 hown1 hgrow1 _
  go_wp2
  go_ret
  exact ⟨v', rfl, own_whole hown1 (no_special h92 h10), (Below.refl _ _).grown hgrow1 hB (fun k hk => (hrow k hk).1)⟩

theorem own_bound (p : List UInt8) (l : List UInt8) (s : Nat) : (p ++ esc (l.take s)).length ≤ p.length + 2 * s := by
  have h1 := esc_length_le (l.take s)
  have h2 : (l.take s).length ≤ s := List.length_take_le _ _
  rw [List.length_append]
  omega

theorem ne92 {c : UInt8} (h : ¬ c = 92) : ((c.toNat : Int) == 92) = false := by
  rw [beq_eq_false_iff_ne]
  intro e
  exact h (UInt8.toNat_inj.1 (by show c.toNat = 92; omega))

theorem ne10 {c : UInt8} (h : ¬ c = 10) : ((c.toNat : Int) == 10) = false := by
  rw [beq_eq_false_iff_ne]
  intro e
  exact h (UInt8.toNat_inj.1 (by show c.toNat = 10; omega))

theorem size_two (x y : UInt8) : (⟨#[x, y]⟩ : ByteArray).size = 2 := rfl

set_option maxHeartbeats 1000000 in
/-- Something to escape: the loop. -/
theorem looped (v : Value) (p : List UInt8) (a : ByteArray) (B : Nat) (w : World) (hown : Own w B v p) (hB : B ≤ w.heap.size)
    (hb : p.length + 2 * a.size ≤ 8388608) (h : (92 : UInt8) ∈ a.data.toList ∨ (92 : UInt8) ∉ a.data.toList ∧ (10 : UInt8) ∈ a.data.toList) :
    Calls Try.prog 40 #[v, .string a] w fun e w' => ∃ v', e = .returned v' ∧ Own w' B v' (p ++ esc a.data.toList) ∧ Below B w w' := by
  obtain ⟨i0, hi, hz0, hz1, hz2⟩ := info_parts info5
  rcases h with h92 | ⟨h92, h10⟩
  case' inl =>
    go_enter Try.func40, Try.ntmps40
    go_wp2_with fail
    refine (Index.yes92 a _ h92).mono ?_
    rintro e w' ⟨⟨k0, rfl⟩, rfl⟩
    clear h92
    go_wp2_with fail
  case' inr =>
    go_enter Try.func40, Try.ntmps40
    go_wp2_with fail
    refine (Index.no92 a _ h92).mono ?_
    rintro e w' ⟨rfl, rfl⟩
    go_wp2_with fail
    refine (Index.yes10 a _ h10).mono ?_
    rintro e w' ⟨⟨k0, rfl⟩, rfl⟩
    have hk0 : decide ((k0 : Int) < 0) = false := by simp
    clear h92 h10
    go_wp2_with fail
  all_goals
    go_loopw [0, 5, 6] (fun u st i wr => ∃ (k s : Nat), k ≤ a.size ∧ s ≤ k ∧ i = .int .i64 k ∧ st = .int .i64 s ∧ Own wr B u (p ++ esc (a.data.toList.take s)) ∧ Below B w' wr ∧ Mid a.data.toList s k) (fun _ _ i _ => a.size - (intOf i).toNat)
    case atStart => exact ⟨0, 0, Nat.zero_le _, Nat.zero_le _, rfl, rfl, by simpa [esc_nil] using hown, Below.refl _ _, Mid.start _⟩
    case round =>
      obtain ⟨k, s, hk, hs, rfl, rfl, howr, hbel, hmid⟩ := hrel
      have hwr : wr.ownsRow B 5 1 u0 (p ++ esc (a.data.toList.take s)).length (bc (p ++ esc (a.data.toList.take s))) := howr
      have hrow := howr.lt
      have hln := own_bound p a.data.toList s
      have hBr : B ≤ wr.heap.size := Nat.le_trans hB hbel.size
      by_cases hlt : k < a.size
      · have hes := extract_size a s k hk
        have HES : Hid ((a.extract s k).size = k - s) := hes
        clear hes
        by_cases c92 : a[k] = 92
        · have h1 : ((a[k].toNat : Int) == 92) = true := by rw [c92]; rfl
          have C : Hid (a[k] = 92) := c92
          clear c92
          go_wp2_with (at_builtin; refine Lib.wpList_append_own_string _ rfl (.tmp 32) (.tmp 36) 27 9 rfl B 5 i0 Try.underlying27 Try.underlying9 hi hz0 hz1 hz2 u0 _ _ rfl hwr (a.extract s k) rfl ?_ ?_ ?_ ?_)
          · unfold maxLen; rw [HES.out]; omega
          · rw [HES.out]; omega
          · exact hBr
          intro v1 w1 hown1 hgrow1 _
          have hbel1 : Below B w' w1 := hbel.grown hgrow1 hBr (fun k hk => (hrow k hk).1)
          have hB1 : B ≤ w1.heap.size := Nat.le_trans hB hbel1.size
          have hrow1 := hown1.lt
          clear hgrow1 hwr howr hrow hbel hBr
          go_wp2_with (at_builtin; refine Lib.wpList_append_own_string _ rfl (.tmp 37) (.tmp 38) 27 9 rfl B 5 i0 Try.underlying27 Try.underlying9 hi hz0 hz1 hz2 v1 _ _ rfl hown1 ⟨#[92, 92]⟩ rfl ?_ ?_ ?_ ?_)
          · rw [size_two]; rw [List.length_append] at hln; unfold maxLen; omega
          · rw [size_two]; rw [List.length_append] at hln; omega
          · exact hB1
          intro v2 w2 hown2 hgrow2 _
          have hbel2 : Below B w' w2 := hbel1.grown hgrow2 hB1 (fun k hk => (hrow1 k hk).1)
          have hfin : Own w2 B v2 (p ++ esc (a.data.toList.take (k + 1))) := own_round hown2 hmid hlt (by rw [show a.data.toList[k] = a[k] from rfl, C.out]; rfl) rfl
          clear hgrow2 hown1 hown2 hrow1 hbel1 hB1
          go_wp2
          go_roundw
          case rel => exact ⟨k + 1, k + 1, by omega, by omega, by go_num, by go_num, hfin, hbel2, Mid.fresh _ _⟩
          case measure => simp [intOf]; omega
        · have h1 := ne92 c92
          by_cases c10 : a[k] = 10
          · have h2 : ((a[k].toNat : Int) == 10) = true := by rw [c10]; rfl
            have C : Hid (a[k] = 10) := c10
            clear c10 c92
            go_wp2_with (at_builtin; refine Lib.wpList_append_own_string _ rfl (.tmp 32) (.tmp 36) 27 9 rfl B 5 i0 Try.underlying27 Try.underlying9 hi hz0 hz1 hz2 u0 _ _ rfl hwr (a.extract s k) rfl ?_ ?_ ?_ ?_)
            · unfold maxLen; rw [HES.out]; omega
            · rw [HES.out]; omega
            · exact hBr
            intro v1 w1 hown1 hgrow1 _
            have hbel1 : Below B w' w1 := hbel.grown hgrow1 hBr (fun k hk => (hrow k hk).1)
            have hB1 : B ≤ w1.heap.size := Nat.le_trans hB hbel1.size
            have hrow1 := hown1.lt
            clear hgrow1 hwr howr hrow hbel hBr
            go_wp2_with (at_builtin; refine Lib.wpList_append_own_string _ rfl (.tmp 37) (.tmp 38) 27 9 rfl B 5 i0 Try.underlying27 Try.underlying9 hi hz0 hz1 hz2 v1 _ _ rfl hown1 ⟨#[92, 110]⟩ rfl ?_ ?_ ?_ ?_)
            · rw [size_two]; rw [List.length_append] at hln; unfold maxLen; omega
            · rw [size_two]; rw [List.length_append] at hln; omega
            · exact hB1
            intro v2 w2 hown2 hgrow2 _
            have hbel2 : Below B w' w2 := hbel1.grown hgrow2 hB1 (fun k hk => (hrow1 k hk).1)
            have hfin : Own w2 B v2 (p ++ esc (a.data.toList.take (k + 1))) := own_round hown2 hmid hlt (by rw [show a.data.toList[k] = a[k] from rfl, C.out]; rfl) rfl
            clear hgrow2 hown1 hown2 hrow1 hbel1 hB1
            go_wp2
            go_roundw
            case rel => exact ⟨k + 1, k + 1, by omega, by omega, by go_num, by go_num, hfin, hbel2, Mid.fresh _ _⟩
            case measure => simp [intOf]; omega
          · have h2 := ne10 c10
            have hm1 : Mid a.data.toList s (k + 1) := hmid.plain hlt c92 c10
            clear c10 c92 hwr
            go_wp2
            go_roundw
            case rel => exact ⟨k + 1, s, by omega, by omega, by go_num, by go_num, howr, hbel, hm1⟩
            case measure => simp [intOf]; omega
      · obtain rfl : k = a.size := by omega
        have hes := extract_size a s a.size (Nat.le_refl _)
        have HES : Hid ((a.extract s a.size).size = a.size - s) := hes
        clear hes
        go_wp2_with (at_builtin; refine Lib.wpList_append_own_string _ rfl (.tmp 42) (.tmp 45) 27 9 rfl B 5 i0 Try.underlying27 Try.underlying9 hi hz0 hz1 hz2 u0 _ _ rfl hwr (a.extract s a.size) rfl ?_ ?_ ?_ ?_)
        · unfold maxLen; rw [HES.out]; omega
        · rw [HES.out]; omega
        · exact hBr
        intro v1 w1 hown1 hgrow1 _
        have hbel1 : Below B w' w1 := hbel.grown hgrow1 hBr (fun k hk => (hrow k hk).1)
        have hfin : Own w1 B v1 (p ++ esc a.data.toList) := own_last hown1 hmid
        clear hgrow1 hwr howr hrow hbel hBr hown1
        go_wp2
        go_ret
        exact ⟨v1, rfl, hfin, hbel1⟩

/-- appendEscaped: the escape of the text, appended. -/
theorem any (v : Value) (p : List UInt8) (a : ByteArray) (B : Nat) (w : World) (hown : Own w B v p) (hB : B ≤ w.heap.size) (hb : p.length + 2 * a.size ≤ 8388608) :
    Calls Try.prog 40 #[v, .string a] w fun e w' => ∃ v', e = .returned v' ∧ Own w' B v' (p ++ esc a.data.toList) ∧ Below B w w' := by
  by_cases h92 : (92 : UInt8) ∈ a.data.toList
  · exact looped v p a B w hown hB hb (.inl h92)
  · by_cases h10 : (10 : UInt8) ∈ a.data.toList
    · exact looped v p a B w hown hB hb (.inr ⟨h92, h10⟩)
    · exact plain v p a B w hown hB (by omega) h92 h10

set_option maxHeartbeats 400000 in
/-- ZZAppendEscaped: the same. -/
theorem zz (v : Value) (p : List UInt8) (a : ByteArray) (B : Nat) (w : World) (hown : Own w B v p) (hB : B ≤ w.heap.size) (hb : p.length + 2 * a.size ≤ 8388608) :
    Calls Try.prog 17 #[v, .string a] w fun e w' => ∃ v', e = .returned v' ∧ Own w' B v' (p ++ esc a.data.toList) ∧ Below B w w' := by
  go_enter Try.func17, Try.ntmps17
  go_wp2_with fail
  refine (any v p a B w hown hB hb).mono ?_
  rintro e w1 ⟨v1, rfl, hown1, hbel1⟩
  go_wp2
  go_ret
  exact ⟨v1, rfl, hown1, hbel1⟩

end Go.Proofs.Qxb6002662a.Escaped
