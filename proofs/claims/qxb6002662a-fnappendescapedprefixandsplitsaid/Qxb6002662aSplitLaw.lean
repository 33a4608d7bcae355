/-
  FnAppendEscapedPrefixAndSplit: the walk of the law, out of the contracts.
-/
import Derived.Test.Qxb6002662aSplitWalk
namespace Go.Proofs.Qxb6002662a.SplitLaw
open Go.RowKit Go.Proofs.Qxb6002662a.Plain Go.Proofs.Qxb6002662a.Parts Go.Proofs.Qxb6002662a.SplitWalk

theorem data_append (x y : ByteArray) : (x ++ y).data.toList = x.data.toList ++ y.data.toList := by
  simp

/-- The head of an owned row. -/
theorem head_reads {w : World} {B g cap : Nat} {l m : List UInt8} (h : Own w B (.slice (some ⟨g, 0, none⟩) (l ++ m).length cap) (l ++ m)) (hg : g < w.heap.size) (hc : (l ++ m).length ≤ cap) (hm : cap ≤ maxLen) :
    Reads w (.slice (some ⟨g, 0, none⟩) l.length cap) l := by
  rw [List.length_append] at hc
  refine ⟨_, cap, rfl, by omega, hm, fun _ => ⟨g, 0, rfl, hg, fun i hi => ?_⟩⟩
  have hc := h.cellAt i (by rw [List.length_append]; omega)
  rw [Nat.zero_add, hc, List.getElem_append_left hi]

/-- The rest of an owned row, at its address or, where it is empty, at whatever address. -/
theorem tail_reads {w : World} {B g cap : Nat} {l m : List UInt8} (h : Own w B (.slice (some ⟨g, 0, none⟩) (l ++ m).length cap) (l ++ m)) (hg : g < w.heap.size)
    (ad : Option Addr) (had : m ≠ [] → ad = some ⟨g, l.length, none⟩) (c : Nat) (hc : m.length ≤ c) (hm : c ≤ maxLen) : Reads w (.slice ad m.length c) m := by
  refine ⟨ad, c, rfl, hc, hm, fun hne => ⟨g, l.length, had hne, hg, fun i hi => ?_⟩⟩
  have hc := h.cellAt (l.length + i) (by rw [List.length_append]; omega)
  rw [hc, List.getElem_append_right (by omega)]
  simp

theorem empty_reads (w : World) (ad : Option Addr) : Reads w (.slice ad 0 0) [] := ⟨ad, 0, rfl, by simp, by simp, fun h => absurd rfl h⟩

set_option maxHeartbeats 1000000 in
/-- Within the bound: the law's walk. -/
theorem small (a : Option Addr) (n cap : Nat) (x y : ByteArray) (l : List UInt8) (w : World) (hn : l.length = n) (hv : Reads w (.slice a n cap) l) (h : n + x.size + y.size ≤ 1048576) :
    Calls Try.prog 7 #[.slice a n cap, .string x, .string y] w fun e w' => e = .returned (.bool true) ∧ Below w.heap.size w w' := by
  have d0 : decide ((1048576 : Int) < n) = false := by simp; omega
  have d1 : decide ((1048576 : Int) < x.size) = false := by simp; omega
  have d2 : decide ((1048576 : Int) < y.size) = false := by simp; omega
  have d3 : decide ((1048576 : Int) < n + x.size + y.size) = false := by simp; omega
  have HN : Hid (l.length = n) := hn
  clear hn
  go_enter Try.func7, Try.ntmps7
  go_wp2_with fail
  refine (within a n cap x y w h).mono ?_
  rintro e w' ⟨rfl, rfl⟩
  go_wp2_with fail
  refine (clone (.slice a n cap) l w' (by have := HN.out; omega) hv).mono ?_
  rintro e w1 ⟨v1, rfl, own1, bel1⟩
  clear hv
  have hxy : (x ++ y).size = x.size + y.size := by simp
  have HXY : Hid ((x ++ y).size = x.size + y.size) := hxy
  have hl0 := HN.out
  have hl : l.length ≤ 1048576 := by omega
  have hxl := esc_length_le x.data.toList
  rw [size_data] at hxl
  clear hl0 hxy
  go_wp2_with fail
  refine (clone v1 l w1 (by omega) own1.reads).mono ?_
  rintro e w2 ⟨v2, rfl, own2, bel2⟩
  go_wp2_with fail
  refine (Escaped.zz v2 l (x ++ y) w1.heap.size w2 own2 bel2.size (by rw [HXY.out]; omega)).mono ?_
  rintro e w3 ⟨v3, rfl, own3, bel3⟩
  have bel13 : Below w1.heap.size w1 w3 := bel2.trans bel3
  have own1' : Own w3 w'.heap.size v1 l := own1.below bel13 (Nat.le_refl _)
  clear own1 own2 bel2 bel3
  go_wp2_with fail
  refine (clone v1 l w3 (by omega) own1'.reads).mono ?_
  rintro e w4 ⟨v4, rfl, own4, bel4⟩
  go_wp2_with fail
  refine (Escaped.zz v4 l x w3.heap.size w4 own4 bel4.size (by omega)).mono ?_
  rintro e w5 ⟨v5, rfl, own5, bel5⟩
  have bel35 : Below w3.heap.size w3 w5 := bel4.trans bel5
  clear own4 bel4 bel5
  go_wp2_with fail
  refine (Escaped.zz v5 (l ++ esc x.data.toList) y w3.heap.size w5 own5 bel35.size (by rw [List.length_append]; omega)).mono ?_
  rintro e w6 ⟨v6, rfl, own6, bel6⟩
  have bel36 : Below w3.heap.size w3 w6 := bel35.trans bel6
  clear own5 bel35 bel6
  go_wp2_with fail
  refine (Escaped.zz (.slice none 0 0) [] (x ++ y) w6.heap.size w6 (Own.nil _ _) (Nat.le_refl _) (by rw [HXY.out]; simp; omega)).mono ?_
  rintro e w7 ⟨v7, rfl, own7, bel7⟩
  rw [List.nil_append] at own7
  have bel37 : Below w3.heap.size w3 w7 := bel36.trans (bel7.mono bel36.size)
  have own3' : Own w7 w1.heap.size v3 (l ++ esc (x ++ y).data.toList) := own3.below bel37 (Nat.le_refl _)
  have own1'' : Own w7 w'.heap.size v1 l := own1'.below bel37 (Nat.le_refl _)
  have own6' : Own w7 w3.heap.size v6 (l ++ esc x.data.toList ++ esc y.data.toList) := own6.below bel7 (Nat.le_refl _)
  have bel7' : Below w'.heap.size w' w7 := bel1.trans ((bel13.trans (bel37.mono bel13.size)).mono bel1.size)
  clear own1' own3 own6 bel7 bel36 bel37 bel13 bel1
  rw [List.append_assoc, ← esc_append, ← data_append] at own6'
  go_wp2_with fail
  refine (equal v3 v6 (l ++ esc (x ++ y).data.toList) w7 ?_ own3'.reads own6'.reads).mono ?_
  · have h1 := esc_length_le (x ++ y).data.toList
    rw [size_data, HXY.out] at h1
    rw [List.length_append]
    omega
  rintro e w8 ⟨rfl, bel8⟩
  have hbig : (esc (x ++ y).data.toList).length ≤ 2097152 := by
    have h1 := esc_length_le (x ++ y).data.toList
    rw [size_data, HXY.out] at h1
    omega
  have o1 : Own w8 w'.heap.size v1 l := own1''.below bel8 (Nat.le_refl _)
  have o3 : Own w8 w1.heap.size v3 (l ++ esc (x ++ y).data.toList) := own3'.below bel8 (Nat.le_refl _)
  have o7 : Own w8 w6.heap.size v7 (esc (x ++ y).data.toList) := own7.below bel8 (Nat.le_refl _)
  have bel9 : Below w'.heap.size w' w8 := bel7'.trans (bel8.mono bel7'.size)
  clear own1'' own3' own6' own7 bel7' bel8
  generalize hE : esc (x ++ y).data.toList = E at *
  clear hE hxl HXY
  obtain ⟨a1, c1, hv1, hc1, hm1, r1⟩ := o1.reads
  rcases o3.shape with ⟨hv3, hnil⟩ | ⟨g, c3, hv3, hBg, hg3, hc3, hm3⟩
  · have hl2 : l = [] := (List.append_eq_nil_iff.1 hnil).1
    have hE2 : E = [] := (List.append_eq_nil_iff.1 hnil).2
    subst hl2
    subst hE2
    have hrd1 : Reads w8 (.slice a1 0 c1) [] := ⟨a1, c1, rfl, hc1, hm1, r1⟩
    have hrn : Reads w8 (.slice none 0 0) [] := (Own.nil w8 0).reads
    clear r1
    rw [hv1, hv3]
    rw [List.length_nil]
    go_wp2_with fail
    refine (equal _ _ [] w8 (by simp) hrn hrd1).mono ?_
    rintro e w9 ⟨rfl, bel10⟩
    go_wp2_with fail
    refine (equal _ _ [] w9 (by simp) (Own.nil w9 0).reads (o7.below bel10 (Nat.le_refl _)).reads).mono ?_
    rintro e w10 ⟨rfl, bel11⟩
    have hfin : Below w'.heap.size w' w10 := bel9.trans ((bel10.trans (bel11.mono bel10.size)).mono bel9.size)
    clear hrd1 hrn o7 o1 o3
    go_wp2
    go_ret
    exact ⟨rfl, hfin⟩
  · have hrd1 : Reads w8 (.slice a1 l.length c1) l := ⟨a1, c1, rfl, hc1, hm1, r1⟩
    clear r1
    have o3' := hv3 ▸ o3
    have hc3' : l.length + E.length ≤ c3 := by rw [List.length_append] at hc3; exact hc3
    rw [hv1, hv3]
    have hll : ((l ++ E).length : Int) = (l.length : Int) + (E.length : Int) := by rw [List.length_append]; omega
    by_cases hcc : c3 = l.length
    · subst hcc
      have hE2 : E = [] := List.eq_nil_of_length_eq_zero (by omega)
      have o7' : Own w8 w6.heap.size v7 [] := hE2 ▸ o7
      go_wp2_with fail
      refine (equal _ _ l w8 (by omega) (head_reads o3' hg3 hc3 hm3) hrd1).mono ?_
      rintro e w9 ⟨rfl, bel10⟩
      go_wp2_with fail
      refine (equal _ _ [] w9 (by simp) (empty_reads w9 (some ⟨g, 0, none⟩)) (o7'.below bel10 (Nat.le_refl _)).reads).mono ?_
      rintro e w10 ⟨rfl, bel11⟩
      have hfin : Below w'.heap.size w' w10 := bel9.trans ((bel10.trans (bel11.mono bel10.size)).mono bel9.size)
      clear hrd1 o7 o7' o1 o3 o3'
      go_wp2
      go_ret
      exact ⟨rfl, hfin⟩
    · go_wp2_with fail
      refine (equal _ _ l w8 (by omega) (head_reads o3' hg3 hc3 hm3) hrd1).mono ?_
      rintro e w9 ⟨rfl, bel10⟩
      go_wp2_with fail
      refine (equal _ _ E w9 (by omega) ((tail_reads o3' hg3 (some ⟨g, l.length, none⟩) (fun _ => rfl) (c3 - l.length) (by omega) (by omega)).below bel10 (Nat.le_refl _)) (o7.below bel10 (Nat.le_refl _)).reads).mono ?_
      rintro e w10 ⟨rfl, bel11⟩
      have hfin : Below w'.heap.size w' w10 := bel9.trans ((bel10.trans (bel11.mono bel10.size)).mono bel9.size)
      clear hrd1 o7 o1 o3 o3'
      go_wp2
      go_ret
      exact ⟨rfl, hfin⟩

end Go.Proofs.Qxb6002662a.SplitLaw
