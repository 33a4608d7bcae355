/-
  Bytes as cells; a row of bytes that the call owns; a slice of bytes that can be read. No program in sight.
-/
import Derived.Test.Qxb6002662aPlain
import Derived.WalkKit
import Derived.Lib.AppendStr
namespace Go.Proofs.Qxb6002662a.Parts
open Go.RowKit Go.Proofs.Qxb6002662a.Plain

/-- Bytes as cells. -/
def bc (l : List UInt8) : List Value := l.map fun b => Value.int .u8 b.toNat

theorem bc_length (l : List UInt8) : (bc l).length = l.length := by simp [bc]
theorem bc_append (x y : List UInt8) : bc (x ++ y) = bc x ++ bc y := by simp [bc]
theorem strCells_eq (s : ByteArray) : Lib.strCells s = bc s.data.toList := rfl

theorem size_data (s : ByteArray) : s.data.toList.length = s.size := rfl

/-- The slice value v owns the bytes l, in a block of the call's own (from B on), or is nil and l is empty. -/
def Own (w : World) (B : Nat) (v : Value) (l : List UInt8) : Prop := w.ownsRow B 5 1 v l.length (bc l)

theorem Own.nil (w : World) (B : Nat) : Own w B (.slice none 0 0) [] := World.ownsRow_nil w B 5 1

theorem Own.of_row {w : World} {B : Nat} {v : Value} {n : Nat} {xs : List Value} {l : List UInt8} (h : w.ownsRow B 5 1 v n xs) (hx : xs = bc l) : Own w B v l := by
  subst hx
  have hn : l.length = n := by have := h.1; rw [bc_length] at this; omega
  unfold Own
  rw [hn]
  exact h

theorem Own.mono {w : World} {B C : Nat} {v : Value} {l : List UInt8} (h : Own w B v l) (hc : C ≤ B) : Own w C v l := by
  refine ⟨h.1, ?_⟩
  rcases h.2 with hn | ⟨g, cap, cur, rfl, hb, rest⟩
  · exact .inl hn
  · exact .inr ⟨g, cap, cur, rfl, by omega, rest⟩

/-- What is owned by a value of elder blocks stays owned behind whatever leaves the blocks below C alone. -/
theorem Own.below {w w' : World} {B C : Nat} {v : Value} {l : List UInt8} (h : Own w B v l) (hb : Below C w w') (hC : w.heap.size ≤ C) : Own w' B v l := by
  refine ⟨h.1, ?_⟩
  rcases h.2 with hn | ⟨g, cap, cur, rfl, hbg, hg, rest⟩
  · exact .inl hn
  · have hlt : g < w.heap.size := (Array.getElem?_eq_some_iff.1 hg).1
    exact .inr ⟨g, cap, cur, rfl, hbg, (hb.block g (by omega)).trans hg, rest⟩

/-- A slice value that can be read: its bytes are l. -/
def Reads (w : World) (v : Value) (l : List UInt8) : Prop :=
  ∃ a cap, v = .slice a l.length cap ∧ l.length ≤ cap ∧ cap ≤ maxLen ∧
    (l ≠ [] → ∃ b o, a = some ⟨b, o, none⟩ ∧ b < w.heap.size ∧ ∀ i, (h : i < l.length) → w.cell? ⟨b, o + i, none⟩ = some (.int .u8 (l[i].toNat : Int)))

theorem Own.cellAt {w : World} {B g cap : Nat} {l : List UInt8} (h : Own w B (.slice (some ⟨g, 0, none⟩) l.length cap) l) (i : Nat) (hi : i < l.length) :
    w.cell? ⟨g, i, none⟩ = some (.int .u8 (l[i].toNat : Int)) := by
  have hc := World.ownsRow.cells h (g := g) rfl i (.int .u8 (l[i].toNat : Int)) (by simp [bc, hi])
  have hadd : (⟨g, 0, none⟩ : Addr).add i = ⟨g, i, none⟩ := by unfold Addr.add; split <;> simp_all
  rwa [hadd] at hc

theorem Own.shape {w : World} {B : Nat} {v : Value} {l : List UInt8} (h : Own w B v l) :
    (v = .slice none 0 0 ∧ l = []) ∨ ∃ g cap, v = .slice (some ⟨g, 0, none⟩) l.length cap ∧ B ≤ g ∧ g < w.heap.size ∧ l.length ≤ cap ∧ cap ≤ maxLen := by
  rcases h.2 with ⟨rfl, hn⟩ | ⟨g, cap, cur, rfl, hbg, hg, hnc, hcm, _⟩
  · exact .inl ⟨rfl, List.eq_nil_of_length_eq_zero hn⟩
  · exact .inr ⟨g, cap, rfl, hbg, (Array.getElem?_eq_some_iff.1 hg).1, hnc, hcm⟩

theorem Own.reads {w : World} {B : Nat} {v : Value} {l : List UInt8} (h : Own w B v l) : Reads w v l := by
  rcases h.shape with ⟨rfl, rfl⟩ | ⟨g, cap, rfl, _, hlt, hnc, hcm⟩
  · exact ⟨none, 0, rfl, by simp, by simp, fun hne => absurd rfl hne⟩
  · refine ⟨some ⟨g, 0, none⟩, cap, rfl, hnc, hcm, fun _ => ⟨g, 0, rfl, hlt, fun i hi => ?_⟩⟩
    rw [Nat.zero_add]
    exact h.cellAt i hi

theorem Reads.below {w w' : World} {C : Nat} {v : Value} {l : List UInt8} (h : Reads w v l) (hb : Below C w w') (hC : w.heap.size ≤ C) : Reads w' v l := by
  obtain ⟨a, cap, hv, h1, h2, h3⟩ := h
  refine ⟨a, cap, hv, h1, h2, fun hne => ?_⟩
  obtain ⟨b, o, ha, hlt, hc⟩ := h3 hne
  exact ⟨b, o, ha, Nat.lt_of_lt_of_le hlt hb.size, fun i hi => (hb.cell (p := ⟨b, o + i, none⟩) (by simp; omega)).trans (hc i hi)⟩

/-- Between the places s and k of the text nothing was escaped. -/
def Mid (l : List UInt8) (s k : Nat) : Prop := s ≤ k ∧ esc (l.take k) = esc (l.take s) ++ (l.take k).drop s

theorem Mid.start (l : List UInt8) : Mid l 0 0 := ⟨Nat.le_refl _, by simp [esc_nil]⟩

theorem Mid.plain {l : List UInt8} {s k : Nat} (h : Mid l s k) (hk : k < l.length) (h1 : l[k] ≠ 92) (h2 : l[k] ≠ 10) : Mid l s (k + 1) := by
  obtain ⟨hsk, he⟩ := h
  refine ⟨by omega, ?_⟩
  rw [esc_take_succ l k hk, he, escB_plain h1 h2, take_succ_eq l k hk, List.drop_append_of_le_length (by simp; omega), List.append_assoc]

theorem Mid.fresh (l : List UInt8) (k : Nat) : Mid l k k := ⟨Nat.le_refl _, by rw [List.drop_of_length_le (by simp; omega), List.append_nil]⟩

theorem extract_bytes (a : ByteArray) (s k : Nat) : (a.extract s k).data.toList = (a.data.toList.take k).drop s := by
  rw [ByteArray.data_extract]
  simp [List.drop_take]

theorem extract_size (a : ByteArray) (s k : Nat) (hk : k ≤ a.size) : (a.extract s k).size = k - s := by
  rw [ByteArray.size_extract]
  omega

/-- What the two appends of a round that escapes leave. -/
theorem own_round {w : World} {B n m : Nat} {v : Value} {a t : ByteArray} {p : List UInt8} {s k : Nat}
    (h : w.ownsRow B 5 1 v m (bc (p ++ esc (a.data.toList.take s)) ++ (Lib.strCells (a.extract s k) ++ Lib.strCells t)))
    (hm : Mid a.data.toList s k) (hk : k < a.data.toList.length) (ht : t.data.toList = escB a.data.toList[k]) (hn : n = k + 1) :
    Own w B v (p ++ esc (a.data.toList.take n)) := by
  subst hn
  have e : (bc (p ++ esc (a.data.toList.take s)) ++ (Lib.strCells (a.extract s k) ++ Lib.strCells t)) = bc (p ++ esc (a.data.toList.take (k + 1))) := by
    rw [strCells_eq, strCells_eq, extract_bytes, ht, ← bc_append, ← bc_append, esc_take_succ _ k hk, hm.2]
    simp only [List.append_assoc]
  exact Own.of_row h e

/-- What the last append leaves. -/
theorem own_last {w : World} {B m : Nat} {v : Value} {a : ByteArray} {p : List UInt8} {s : Nat}
    (h : w.ownsRow B 5 1 v m (bc (p ++ esc (a.data.toList.take s)) ++ Lib.strCells (a.extract s a.size)))
    (hm : Mid a.data.toList s a.size) : Own w B v (p ++ esc a.data.toList) := by
  have ha : a.data.toList.take a.size = a.data.toList := List.take_of_length_le (by rw [size_data]; exact Nat.le_refl _)
  have e : bc (p ++ esc (a.data.toList.take s)) ++ Lib.strCells (a.extract s a.size) = bc (p ++ esc a.data.toList) := by
    rw [strCells_eq, extract_bytes, ← bc_append, List.append_assoc, ← hm.2, ha]
  exact Own.of_row h e

/-- What the one append of a text without bytes to escape leaves. -/
theorem own_whole {w : World} {B m : Nat} {v : Value} {a : ByteArray} {p : List UInt8}
    (h : w.ownsRow B 5 1 v m (bc p ++ Lib.strCells a)) (hp : ∀ c ∈ a.data.toList, c ≠ 92 ∧ c ≠ 10) : Own w B v (p ++ esc a.data.toList) := by
  rw [esc_plain _ hp]
  exact Own.of_row h (by rw [strCells_eq, bc_append])

end Go.Proofs.Qxb6002662a.Parts
