/-
  The proof of Rows.FnAppendEscapedPrefixAndSplitSaid: the frame of the given shell, its walk out of SplitWalk and SplitLaw.
-/
import Derived.Test.Qxb6002662aRows
import Derived.WalkKit
import Derived.ProofKit
import Derived.OpenShut
import Derived.ShutString
import Derived.ChangeOld
import Derived.Below
import Derived.Test.Qxb6002662aSplitLaw
import Derived.Test.Qxb6002662aClosed
namespace Go.Proofs.Qxb6002662a.fnAppendEscapedPrefixAndSplit
open Go.ChangeShapes Go.WideShapes Go.ChangeAt Go.RowKit
open Go.ChangeMaps (open_string shut_string)
set_option linter.unusedVariables false

theorem own : ownKnob Try.prog.godebug = none := by kernel_rfl
theorem laidOut : laidOutB Try.prog = true := by kernel_rfl

/-- WHAT THE WALK IS TOLD OF A SLICE OF INTEGERS THAT CAME IN: it is nil; or it leads to a row of 'cap' cells, the numbers 'zs' (the first 'len' are its elements, the rest its spare room), each fitting its kind. -/
def IsRow (k : IntKind) (w : World) (a : Option Addr) (len cap : Nat) (zs : List Int) : Prop :=
  (a = none ∧ len = 0 ∧ cap = 0 ∧ zs = []) ∨
  ∃ x, a = some x ∧ len ≤ cap ∧ cap ≤ maxLen ∧ zs.length = cap ∧ (∀ i, i < zs.length → w.cell? (x.add i) = some (.int k (zs.getD i 0))) ∧ ∀ n ∈ zs, (Lit.int k n).wf = true

theorem byte_of {z : Int} (h : (Lit.int .u8 z).wf = true) : ((UInt8.ofNat z.toNat).toNat : Int) = z := by
  have hb := bounds_u8 h
  rw [UInt8.toNat_ofNat']
  omega

/-- A slice that came in can be read as bytes. -/
theorem reads_of {w : World} {a : Option Addr} {len cap : Nat} {zs : List Int} (h : IsRow .u8 w a len cap zs) : ∃ l : List UInt8, l.length = len ∧ Parts.Reads w (.slice a len cap) l := by
  rcases h with ⟨rfl, rfl, rfl, _⟩ | ⟨x, rfl, hlc, hcm, hz, hcell, hwf⟩
  · exact ⟨[], rfl, none, 0, rfl, by simp, by simp, fun hne => absurd rfl hne⟩
  · have hll : ((zs.take len).map fun z => UInt8.ofNat z.toNat).length = len := by simp; omega
    refine ⟨(zs.take len).map fun z => UInt8.ofNat z.toNat, hll, some x, cap, by rw [hll], by rw [hll]; exact hlc, hcm, fun hne => ?_⟩
    have hpos : 0 < len := by
      rcases Nat.eq_zero_or_pos len with h0 | h0
      · subst h0; simp at hne
      · exact h0
    obtain ⟨b, o, rfl, hc⟩ := ints_at hcell (by omega)
    refine ⟨b, o, rfl, World.block_lt_of_cell? w ⟨b, o + 0, none⟩ (hc 0 (by omega)), fun i hi => ?_⟩
    have hi' : i < len := by rw [hll] at hi; exact hi
    have hiz : i < zs.length := by omega
    rw [hc i hiz]
    have e1 : zs.getD i 0 = zs[i] := by simp [List.getD, List.getElem?_eq_getElem hiz]
    have e2 : ((zs.take len).map fun z => UInt8.ofNat z.toNat)[i] = UInt8.ofNat zs[i].toNat := by simp
    rw [e1, e2, byte_of (hwf _ (List.getElem_mem hiz))]

theorem walk (a0 : Option Addr) (len0 cap0 : Nat) (z0 : List Int) (a1 : ByteArray) (a2 : ByteArray) (w : World) (w0 : IsRow .u8 w a0 len0 cap0 z0) :
    Calls Try.prog 7 #[.slice a0 len0 cap0, .string a1, .string a2] w fun e w' => e = .returned (.bool true) ∧ Below w.heap.size w w' := by
  by_cases h : len0 + a1.size + a2.size ≤ 1048576
  · obtain ⟨l, hl, hr⟩ := reads_of w0
    exact SplitLaw.small a0 len0 cap0 a1 a2 l w hl hr h
  · exact SplitWalk.big a0 len0 cap0 a1 a2 w (by omega)

/-! The row's step, as the shell writes it. -/
set_option maxRecDepth 100000 in
theorem lifted (os : Os) (started : os.Started) (H : Type) (enc : TypeId × Value → H) :
    ReturnsInHanded {} Try.checked os 7 .any (Rows.fnAppendEscapedPrefixAndSplitSpec.pre6 enc Try.prog Try.f7 Rows.fnAppendEscapedPrefixAndSplitRow.domain false) (Rows.fnAppendEscapedPrefixAndSplitSpec.post enc Try.prog Try.f7 false true false false) := by
  refine returnsInHanded_of_change (C := Try.checked) own started (by kernel_rfl) Try.func7
    (ChangeSpec.witness6 (enc := enc) (C := Try.checked) false ⟨#[], #[.slice none 0 0, .string ByteArray.empty, .string ByteArray.empty], []⟩ 8 (by kernel_rfl) (by kernel_rfl) (by kernel_rfl) (by kernel_rfl)) ?_
  intro W base args ds gs before hval0 hW hcnd _
  have hval : ∀ (j : Nat) t v, Try.f7.params[j]? = some t → args[j]? = some v → Value.okWide Try.prog W .any base t v := hval0
  have hW' := hW
  obtain ⟨p, q, hA0, hV, rfl, hfz, hnd⟩ := hW
  have hA : DataW.TrodAll enc Try.prog W 0 (fun _ => true) true Try.f7.params.toList args.toList ds p := hA0
  rw [Try.params7] at hA hval
  obtain ⟨v0, vs0, d0, ds0, p0, q0, hargs, rfl, rfl, h0, r0⟩ := trodAll_cons hA
  obtain ⟨v1, vs1, d1, ds1, p1, q1, rfl, rfl, rfl, h1, r1⟩ := trodAll_cons r0
  obtain ⟨v2, vs2, d2, ds2, p2, q2, rfl, rfl, rfl, h2, r2⟩ := trodAll_cons r1
  obtain ⟨rfl, rfl, rfl⟩ := trodAll_nil r2
  obtain rfl : args = #[v0, v1, v2] := by cases args; simp_all
  obtain ⟨rfl, rfl⟩ := trodVars_none hV
  obtain ⟨a0, len0, cap0, rfl⟩ := okWide_slice Try.underlying27 (hval 0 27 v0 rfl rfl)
  have k0 := h0
  have lt0 : ∀ x ∈ p0, x.block < W.heap.size := by obtain ⟨m, hm⟩ := k0; exact DataW.trod_lt m _ _ _ hm
  obtain ⟨z0, w0⟩ : ∃ zs, IsRow .u8 W a0 len0 cap0 zs := by
    obtain ⟨fuel, hf⟩ := h0
    rcases open_ints Try.underlying27 Try.underlying5 (by kernel_rfl) hf with ⟨hcs, _⟩ | ⟨x, l, c, zs, hcs, _, hl, hm, hz, _, hcell, hwz⟩
    · simp [Value.cells] at hcs
      obtain ⟨rfl, rfl, rfl⟩ := hcs
      exact ⟨[], .inl ⟨rfl, rfl, rfl, rfl⟩⟩
    · simp [Value.cells] at hcs
      obtain ⟨rfl, rfl, rfl⟩ := hcs
      exact ⟨zs, .inr ⟨_, rfl, hl, hm, by simpa using hz, hcell, hwz⟩⟩
  obtain ⟨a1, rfl, rfl, rfl, w1⟩ := open_string Try.underlying9 (hval 1 9 v1 rfl rfl) h1
  obtain ⟨a2, rfl, rfl, rfl, w2⟩ := open_string Try.underlying9 (hval 2 9 v2 rfl rfl) h2
  clear hA0 hval0
  refine (walk a0 len0 cap0 z0 a1 a2 W w0).mono fun e W' ⟨he, bel⟩ => ?_
  subst he
  exact ⟨_, rfl, _, _, _, [], _, [], hW', trodAll_mk1 (shut_bool Try.underlying4 _), (trodAll_cons_mk (Below.trod laidOut (by kernel_rfl) (of_decide_eq_true (by kernel_rfl)) k0 bel lt0) (trodAll_cons_mk (shut_string Try.underlying9 w1) (trodAll_cons_mk (shut_string Try.underlying9 w2) trodAll_mk0))), rfl, bel.frame _, fun h => by cases h⟩

/-- The row's closed facts. -/
theorem closed : joinedFacts Try.prog 7 Try.f7 Rows.fnAppendEscapedPrefixAndSplitSpec Rows.fnAppendEscapedPrefixAndSplitRow = true := by
  unfold joinedFacts
  simp only [Bool.and_eq_true]
  exact ⟨⟨⟨⟨⟨⟨⟨⟨⟨⟨⟨⟨⟨⟨⟨⟨⟨⟨⟨⟨⟨⟨⟨⟨⟨⟨⟨⟨⟨⟨⟨(by kernel_rfl), (by kernel_rfl)⟩, (by kernel_rfl)⟩, (by kernel_rfl)⟩, (by kernel_rfl)⟩, (by kernel_rfl)⟩, (by kernel_rfl)⟩, (by kernel_rfl)⟩, (by kernel_rfl)⟩, (by kernel_rfl)⟩, (by kernel_rfl)⟩, (by kernel_rfl)⟩, (by kernel_rfl)⟩, (by kernel_rfl)⟩, (by kernel_rfl)⟩, (by kernel_rfl)⟩, (by kernel_rfl)⟩, (by kernel_rfl)⟩, (by kernel_rfl)⟩, (by kernel_rfl)⟩, (by kernel_rfl)⟩, (by kernel_rfl)⟩, (by kernel_rfl)⟩, (by kernel_rfl)⟩, (by kernel_rfl)⟩, Closed.mayEnter⟩, (beq_iff_eq.2 Closed.liftsFinal.symm)⟩, (beq_iff_eq.2 Closed.makeIs)⟩, (by kernel_rfl)⟩, (by kernel_rfl)⟩, (by kernel_rfl)⟩, (by kernel_rfl)⟩

theorem over : Rows.fnAppendEscapedPrefixAndSplitRow.holds Try.pinned (OpenSpec.ofChange Rows.fnAppendEscapedPrefixAndSplitSpec) :=
  OpenClaim.holds_of_wide 7 Try.f7 rfl rfl rfl rfl rfl rfl rfl ⟨rfl, rfl, rfl, rfl, rfl⟩ rfl rfl rfl rfl rfl (by kernel_rfl) Try.func7 closed
    (of_decide_eq_true (by kernel_rfl)) (by unfold Func.isWrapper; first | (rw [if_pos (by decide +kernel)]; kernel_rfl) | (rw [if_neg (by decide +kernel)]; exact ⟨rfl, rfl⟩))
    (fun os started H enc _ => lifted os started H enc)

/-- The statement. -/
theorem proved : Rows.FnAppendEscapedPrefixAndSplitSaid := over
end Go.Proofs.Qxb6002662a.fnAppendEscapedPrefixAndSplit
