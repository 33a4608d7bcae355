/-
  FnAppendEscapedPrefixAndSplit: cloneBytes, bytesEqual, the walk of the law.
-/
import Derived.Test.Qxb6002662aEscaped
import Derived.Deep.QuietTactic
import Derived.BigQuiet
import Derived.WalkLawsBesides
namespace Go.Proofs.Qxb6002662a.SplitWalk
open Go.RowKit Go.Proofs.Qxb6002662a.Plain Go.Proofs.Qxb6002662a.Parts

/-- The cells of a slice of bytes, at its address. -/
def Cells (w : World) (b o : Nat) (l : List UInt8) : Prop := b < w.heap.size ∧ ∀ i, (h : i < l.length) → w.cell? ⟨b, o + i, none⟩ = some (.int .u8 (l[i].toNat : Int))

theorem Cells.at_ {w wr : World} {b o : Nat} {l : List UInt8} (h : Cells w b o l) (hb : Below w.heap.size w wr) (i : Nat) (hi : i < l.length) (c : UInt8) (hc : l[i] = c) :
    wr.cell? ⟨b, o + i, none⟩ = some (.int .u8 (c.toNat : Int)) := by
  rw [← hc]
  exact (hb.cell (p := ⟨b, o + i, none⟩) h.1).trans (h.2 i hi)

/-- The row's first k cells are the text's. -/
def Filled (l : List UInt8) (k : Nat) (ys : List Value) : Prop := ys.length = l.length ∧ ys.take k = bc (l.take k)

theorem Filled.next {l : List UInt8} {k : Nat} {ys : List Value} (h : Filled l k ys) (hk : k < l.length) : Filled l (k + 1) (ys.set k (.int .u8 (l[k].toNat : Int))) := by
  obtain ⟨h1, h2⟩ := h
  refine ⟨by simpa using h1, ?_⟩
  rw [take_succ_eq l k hk, bc_append, ← h2, List.take_succ_eq_append_getElem (by simp; omega), List.take_set_of_le (Nat.le_refl _)]
  simp [bc]

theorem Filled.all {l : List UInt8} {ys : List Value} (h : Filled l l.length ys) : ys = bc l := by
  obtain ⟨h1, h2⟩ := h
  rw [List.take_of_length_le (by omega), List.take_length] at h2
  exact h2

set_option maxHeartbeats 400000 in
theorem clone_nil (n cap : Nat) (w : World) :
    Calls Try.prog 21 #[.slice none n cap] w fun e w' => e = .returned (.slice none 0 0) ∧ w' = w := by
  have hnil : ∀ w, (binOp .eql 27 (.slice none n cap) (.slice none 0 0)).run Try.prog w = .ok (.bool true) w := fun w => Lib.run_eql_slice_nil w 27 5 none n cap 0 0 Try.underlying27
  go_enter Try.func21, Try.ntmps21
  go_wp2
  go_ret
  exact ⟨rfl, rfl⟩

set_option maxHeartbeats 1000000 in
theorem clone_some (x : Addr) (cap : Nat) (l : List UInt8) (w : World) (hl : l.length ≤ 8388608) (hcs : l.length ≠ 0 → ∃ b o, x = ⟨b, o, none⟩ ∧ Cells w b o l) :
    Calls Try.prog 21 #[.slice (some x) l.length cap] w fun e w' => ∃ v', e = .returned v' ∧ Own w' w.heap.size v' l ∧ Below w.heap.size w w' := by
  obtain ⟨i0, hi, hz0, hz1, hz2⟩ := info_parts Escaped.info5
  have hnil : ∀ w, (binOp .eql 27 (.slice (some x) l.length cap) (.slice none 0 0)).run Try.prog w = .ok (.bool false) w := fun w => Lib.run_eql_slice_nil w 27 5 (some x) l.length cap 0 0 Try.underlying27
  have HC : Hid (l.length ≠ 0 → ∃ b o, x = ⟨b, o, none⟩ ∧ Cells w b o l) := hcs
  clear hcs
  go_enter Try.func21, Try.ntmps21
  go_wp2_with (at_make; refine wpList_make_full _ rfl (.tmp 8) (.tmp 8) 27 rfl w.heap.size 5 i0 (.int .u8 0) 1 Try.underlying27 hi hz0 hz1 .i64 .i64 _ _ l.length rfl rfl ?_ ?_ ?_ ?_ ?_ ?_)
  · rfl
  · rfl
  · rw [hz2]; omega
  · unfold maxLen; omega
  · exact Nat.le_refl _
  intro wm hom hgm
  have hbm : Below w.heap.size w wm := (Below.refl _ _).grown hgm (Nat.le_refl _) (fun k hk => by cases hk)
  clear hgm hnil
  go_wp2_with fail
  go_loopw [4] (fun iv wr => ∃ k : Nat, k ≤ l.length ∧ iv = .int .i64 k ∧ Below w.heap.size w wr ∧ ∃ ys, wr.ownsRow w.heap.size 5 1 (.slice (some ⟨w.heap.size, 0, none⟩) l.length l.length) l.length ys ∧ Filled l k ys) (fun iv _ => l.length - (intOf iv).toNat)
  case atStart => exact ⟨0, Nat.zero_le _, rfl, hbm, _, hom, by have := hom.1; omega, by simp [bc]⟩
  case round =>
    obtain ⟨k, hk, rfl, hbel, ys, hown, hfill⟩ := hrel
    clear hom hbm
    by_cases hlt : k < l.length
    · obtain ⟨b, o, rfl, hcells⟩ := HC.out (by omega)
      have f0 : wr.cell? ⟨b, o + k, none⟩ = some (.int .u8 (l[k].toNat : Int)) := hcells.at_ hbel k hlt _ rfl
      obtain ⟨old, f1⟩ : ∃ old, wr.cell? ⟨w.heap.size, k, none⟩ = some old := by
        rw [hown.cellAt k (by omega)]
        exact ⟨_, List.getElem?_eq_getElem (by have := hfill.1; omega)⟩
      have f2 : wr.frozen? ⟨w.heap.size, k, none⟩ = false := hown.frozenAt k
      have hst := hown.stored k (.int .u8 (l[k].toNat : Int))
      have hbel1 : Below w.heap.size w (wr.setCell ⟨w.heap.size, k, none⟩ (.int .u8 (l[k].toNat : Int))) := hbel.setCell (Nat.le_refl _) _
      have hfill1 := hfill.next hlt
      have HX : Hid (∃ ys, (wr.setCell ⟨w.heap.size, k, none⟩ (.int .u8 (l[k].toNat : Int))).ownsRow w.heap.size 5 1 (.slice (some ⟨w.heap.size, 0, none⟩) l.length l.length) l.length ys ∧ Filled l (k + 1) ys) := ⟨_, hst.1, hfill1⟩
      clear hst hfill1 hown hfill
      go_wp2
      go_roundw
      case rel => exact ⟨k + 1, by omega, by go_num, hbel1, HX.out⟩
      case measure => simp [intOf]; omega
    · obtain rfl : k = l.length := by omega
      have hfin : Own wr w.heap.size (.slice (some ⟨w.heap.size, 0, none⟩) l.length l.length) l := Own.of_row hown hfill.all
      clear hown hfill
      go_wp2
      go_ret
      exact ⟨_, rfl, hfin, hbel⟩

/-- cloneBytes: a copy, in memory of the call's own (nil for nil). -/
theorem clone (v : Value) (l : List UInt8) (w : World) (hl : l.length ≤ 8388608) (hv : Reads w v l) :
    Calls Try.prog 21 #[v] w fun e w' => ∃ v', e = .returned v' ∧ Own w' w.heap.size v' l ∧ Below w.heap.size w w' := by
  obtain ⟨a, cap, rfl, -, -, hcs⟩ := hv
  cases a with
  | none =>
    refine (clone_nil l.length cap w).mono ?_
    rintro e w' ⟨rfl, rfl⟩
    have hn : l = [] := by
      by_cases hne : l = []
      · exact hne
      · obtain ⟨b, o, ha, _⟩ := hcs hne
        cases ha
    subst hn
    exact ⟨_, rfl, Own.nil _ _, Below.refl _ _⟩
  | some x =>
    refine clone_some x cap l w hl fun hne => ?_
    obtain ⟨b, o, ha, hb, hc⟩ := hcs (fun e => hne (by rw [e]; rfl))
    exact ⟨b, o, Option.some.inj ha, hb, hc⟩

theorem Reads.parts {w : World} {v : Value} {l : List UInt8} (h : Reads w v l) : ∃ a cap, v = .slice a l.length cap ∧ Hid (l.length ≠ 0 → ∃ b o, a = some ⟨b, o, none⟩ ∧ Cells w b o l) := by
  obtain ⟨a, cap, rfl, -, -, hcs⟩ := h
  refine ⟨a, cap, rfl, fun hne => ?_⟩
  obtain ⟨b, o, ha, hb, hc⟩ := hcs (fun e => hne (by rw [e]; rfl))
  exact ⟨b, o, ha, hb, hc⟩

set_option maxHeartbeats 400000 in
/-- bytesEqual, at two slices of the same bytes: true. -/
theorem equal (u v : Value) (l : List UInt8) (w : World) (hl : l.length ≤ 8388608) (hu : Reads w u l) (hv : Reads w v l) :
    Calls Try.prog 22 #[u, v] w fun e w' => e = .returned (.bool true) ∧ Below w.heap.size w w' := by
  obtain ⟨a1, c1, rfl, H1⟩ := Reads.parts hu
  obtain ⟨a2, c2, rfl, H2⟩ := Reads.parts hv
  clear hu hv
  have hne : ((l.length : Int) != (l.length : Int)) = false := by simp
  go_enter Try.func22, Try.ntmps22
  go_wp2
  go_loopw [5] (fun iv wr => ∃ k : Nat, k ≤ l.length ∧ iv = .int .i64 k ∧ Below w.heap.size w wr) (fun iv _ => l.length - (intOf iv).toNat)
  case atStart => exact ⟨0, Nat.zero_le _, rfl, Below.refl _ _⟩
  case round =>
    obtain ⟨k, hk, rfl, hbel⟩ := hrel
    by_cases hlt : k < l.length
    · obtain ⟨b1, o1, rfl, hc1⟩ := H1.out (by omega)
      obtain ⟨b2, o2, rfl, hc2⟩ := H2.out (by omega)
      have f1 : wr.cell? ⟨b1, o1 + k, none⟩ = some (.int .u8 (l[k].toNat : Int)) := hc1.at_ hbel k hlt _ rfl
      have f2 : wr.cell? ⟨b2, o2 + k, none⟩ = some (.int .u8 (l[k].toNat : Int)) := hc2.at_ hbel k hlt _ rfl
      have hlt' : (k : Int) < (l.length : Int) := by omega
      have hq : ((l[k].toNat : Int) != (l[k].toNat : Int)) = false := by simp
      go_wp2
      go_quiet (fail)
      go_wp2
      go_roundw
      case rel => exact ⟨k + 1, by omega, by go_num, below_drewN hbel _⟩
      case measure => simp [intOf]; omega
    · go_wp2
      go_ret
      exact ⟨rfl, hbel⟩

set_option maxHeartbeats 400000 in
/-- The bound on the lengths' sum: met. -/
theorem within (a : Option Addr) (n cap : Nat) (x y : ByteArray) (w : World) (h : n + x.size + y.size ≤ 1048576) :
    Calls Try.prog 20 #[.slice a n cap, .string x, .string y] w fun e w' => e = .returned (.bool true) ∧ w' = w := by
  go_enter Try.func20, Try.ntmps20
  go_wp2
  go_ret
  exact ⟨rfl, rfl⟩

set_option maxHeartbeats 800000 in
/-- The bound on the lengths' sum: passed. -/
theorem past (a : Option Addr) (n cap : Nat) (x y : ByteArray) (w : World) (h : 1048576 < n + x.size + y.size) :
    Calls Try.prog 20 #[.slice a n cap, .string x, .string y] w fun e w' => e = .returned (.bool false) ∧ w' = w := by
  by_cases c0 : 1048576 < n
  · go_enter Try.func20, Try.ntmps20
    go_wp2
    go_ret
    exact ⟨rfl, rfl⟩
  · by_cases c1 : 1048576 < x.size
    · go_enter Try.func20, Try.ntmps20
      go_wp2
      go_ret
      exact ⟨rfl, rfl⟩
    · by_cases c2 : 1048576 < n + x.size
      · go_enter Try.func20, Try.ntmps20
        go_wp2
        go_ret
        exact ⟨rfl, rfl⟩
      · by_cases c3 : 1048576 < y.size
        · go_enter Try.func20, Try.ntmps20
          go_wp2
          go_ret
          exact ⟨rfl, rfl⟩
        · go_enter Try.func20, Try.ntmps20
          go_wp2
          go_ret
          exact ⟨rfl, rfl⟩

set_option maxHeartbeats 400000 in
/-- Past the bound the law answers true at once. -/
theorem big (a : Option Addr) (n cap : Nat) (x y : ByteArray) (w : World) (h : 1048576 < n + x.size + y.size) :
    Calls Try.prog 7 #[.slice a n cap, .string x, .string y] w fun e w' => e = .returned (.bool true) ∧ Below w.heap.size w w' := by
  go_enter Try.func7, Try.ntmps7
  go_wp2_with fail
  refine (past a n cap x y w h).mono ?_
  rintro e w' ⟨rfl, rfl⟩
  go_wp2
  go_ret
  exact ⟨rfl, Below.refl _ _⟩

end Go.Proofs.Qxb6002662a.SplitWalk
