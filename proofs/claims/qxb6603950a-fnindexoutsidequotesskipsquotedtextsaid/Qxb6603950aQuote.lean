/-
  sipb1Quote: her contract.
-/
import Derived.Test.Qxb6603950aIndex
import Derived.Maps.AppendAt
namespace Go.Proofs.Qxb6603950a
open Go.RowKit

theorem info5 : (Try.prog.info? 5).map (fun i => (i.zero, i.size, i.bytes)) = some (some (.int .u8 0), 1, 1) := by kernel_rfl

/-- What is built when k bytes of raw are done. -/
def qpart (s : ByteArray) (k : Nat) : List UInt8 := 34 :: esc (s.data.toList.take k)
/-- Bytes as cells. -/
def bv (l : List UInt8) : List Value := l.map (fun b => Value.int .u8 (b.toNat : Int))

theorem qpart_le (s : ByteArray) (k : Nat) : (qpart s k).length ≤ 2 * k + 1 := by
  have h1 := esc_length (s.data.toList.take k)
  have h2 : (s.data.toList.take k).length ≤ k := List.length_take_le _ _
  simp only [qpart, List.length_cons]
  omega
theorem take_snoc (s : ByteArray) (k : Nat) (h : k < s.size) : s.data.toList.take (k + 1) = s.data.toList.take k ++ [s[k]] := by
  rw [List.take_succ_eq_append_getElem (by simpa using h)]; rfl
theorem qpart_esc (s : ByteArray) (k : Nat) (h : k < s.size) (hb : (s[k].toNat : Int) = 34 ∨ (s[k].toNat : Int) = 92) : qpart s (k + 1) = qpart s k ++ [92, s[k]] := by
  simp only [qpart, take_snoc s k h, esc_append, esc, if_pos hb, List.cons_append]
theorem qpart_plain (s : ByteArray) (k : Nat) (h : k < s.size) (hb : ¬ ((s[k].toNat : Int) = 34 ∨ (s[k].toNat : Int) = 92)) : qpart s (k + 1) = qpart s k ++ [s[k]] := by
  simp only [qpart, take_snoc s k h, esc_append, esc, if_neg hb, List.cons_append]
theorem qpart_done (s : ByteArray) : qpart s s.size ++ [34] = quoted s.data.toList := by
  simp only [qpart, quoted, List.cons_append]
  rw [List.take_of_length_le (by simp)]
theorem bv_append (a b : List UInt8) : bv (a ++ b) = bv a ++ bv b := by simp [bv]
theorem one_cell (n : Int) : ∀ u ∈ [Value.int .u8 n], u.oneCell' = true := by
  intro u hu; simp at hu; subst hu; rfl

/-- What holds at the loop's head. -/
def QInv (s : ByteArray) (w wr : World) (l : List UInt8) : Prop :=
  wr.ownsRow w.heap.size 5 1 (.slice (some ⟨w.heap.size, 0, none⟩) l.length (2 * s.size + 2)) l.length (bv l) ∧ Below w.heap.size w wr

theorem QInv.lt {s : ByteArray} {w wr : World} {l : List UInt8} (h : QInv s w wr l) : w.heap.size < wr.heap.size := by
  rcases h.1.2 with ⟨h1, _⟩ | ⟨g, cap, cur, hv, _, hh, _⟩
  · cases h1
  · obtain ⟨h1, _⟩ := Array.getElem?_eq_some_iff.1 hh
    simp at hv
    omega

/-- One append more. -/
theorem QInv.more {s : ByteArray} {w wr w1 : World} {l : List UInt8} {x : UInt8} {o : Obj} (h : QInv s w wr l)
    (ho : w1.ownsRow w.heap.size 5 1 (.slice (some ⟨w.heap.size, 0, none⟩) (l.length + 1) (2 * s.size + 2)) (l.length + 1) (bv l ++ [.int .u8 (x.toNat : Int)])) (hg : (wr.alloc o).grownBy w1 (some w.heap.size)) : QInv s w w1 (l ++ [x]) := by
  refine ⟨?_, ?_⟩
  · rw [List.length_append, bv_append]
    exact ho
  · have hs := h.2.size
    exact (h.2.alloc hs o).grown hg (by simp; omega) (fun k e => by cases e; exact Nat.le_refl _)

theorem QInv.conv {s : ByteArray} {w wr : World} {l : List UInt8} (h : QInv s w wr l) :
    (convert 30 9 (.slice (some ⟨w.heap.size, 0, none⟩) l.length (2 * s.size + 2))).run Try.prog wr = .ok (.string ⟨l.toArray⟩) wr := by
  refine run_convert_bytes_back (P := Try.prog) wr 30 9 5 ⟨w.heap.size, 0, none⟩ (2 * s.size + 2) l Try.underlying30 Try.underlying5 Try.underlying9 (fun j hj => ?_)
  rcases h.1.2 with ⟨h1, _⟩ | ⟨g, cap, cur, hv, _, hh, hc1, _, hc2, hc3⟩
  · cases h1
  · simp at hv
    obtain ⟨rfl, rfl⟩ := hv
    rw [Nat.mul_one] at hc3 hc2
    have e : (cur.toList.take l.length)[j]? = (bv l)[j]? := by rw [hc3]
    rw [List.getElem?_take, if_pos hj] at e
    simp [bv, List.getElem?_eq_getElem hj] at e
    rw [Addr.add_lit, Nat.zero_add]
    simp [World.cell?, hh]
    exact e
end Go.Proofs.Qxb6603950a
