/-
  sipb1Quote: the walk.
-/
import Derived.Test.Qxb6603950aQuote
namespace Go.Proofs.Qxb6603950a
open Go.RowKit

theorem start_inv {s : ByteArray} {w w0 w1 : World} {o : Obj} (hg0 : w.grownBy w0 none)
    (ho : w1.ownsRow w.heap.size 5 1 (.slice (some ⟨w.heap.size, 0, none⟩) 1 (2 * s.size + 2)) 1 [.int .u8 34]) (hg : (w0.alloc o).grownBy w1 (some w.heap.size)) : QInv s w w1 (qpart s 0) := by
  have b0 : Below w.heap.size w w0 := (Below.refl _ _).grown hg0 (Nat.le_refl _) (fun k e => by cases e)
  have hs := b0.size
  exact ⟨ho, (b0.alloc hs o).grown hg (by simp; omega) (fun k e => by cases e; exact Nat.le_refl _)⟩

theorem QInv.one {s : ByteArray} {w wr w1 : World} {l : List UInt8} {x : UInt8} {n : Int} {o : Obj} (h : QInv s w wr l) (hn : n = (x.toNat : Int))
    (ho : w1.ownsRow w.heap.size 5 1 (.slice (some ⟨w.heap.size, 0, none⟩) (l.length + 1) (2 * s.size + 2)) (l.length + 1) (bv l ++ [.int .u8 n])) (hg : (wr.alloc o).grownBy w1 (some w.heap.size)) : QInv s w w1 (l ++ [x]) := by
  subst hn
  exact h.more ho hg

theorem QInv.two {s : ByteArray} {w wr w1 w2 : World} {l : List UInt8} {x : UInt8} {o o' : Obj} (h : QInv s w wr l)
    (ho : w1.ownsRow w.heap.size 5 1 (.slice (some ⟨w.heap.size, 0, none⟩) (l.length + 1) (2 * s.size + 2)) (l.length + 1) (bv l ++ [.int .u8 92])) (hg : (wr.alloc o).grownBy w1 (some w.heap.size))
    (ho2 : w2.ownsRow w.heap.size 5 1 (.slice (some ⟨w.heap.size, 0, none⟩) (l.length + 1 + 1) (2 * s.size + 2)) (l.length + 1 + 1) (bv l ++ [.int .u8 92] ++ [.int .u8 (x.toNat : Int)])) (hg2 : (w1.alloc o').grownBy w2 (some w.heap.size)) :
    QInv s w w2 ((l ++ [92]) ++ [x]) := by
  have h1 : QInv s w w1 (l ++ [92]) := h.one (x := 92) rfl ho hg
  refine h1.one (n := x.toNat) rfl ?_ hg2
  rw [List.length_append, bv_append]
  exact ho2

theorem slice_eq {a : Option Addr} {m n c : Nat} (h : m = n) : Value.slice a m c = .slice a n c := by rw [h]

set_option maxHeartbeats 1000000 in
theorem quote_any (s : ByteArray) (w : World) (hs : s.size ≤ 1048576) :
    Calls Try.prog 11 #[.string s] w fun e w' => e = .returned (.string ⟨(quoted s.data.toList).toArray⟩) ∧ Below w.heap.size w w' := by
  obtain ⟨i0, hi, hz0, hz1, hz2⟩ := info_parts info5
  go_enter Try.func11, Try.ntmps11
  go_wp2_with (first
    | (at_make; refine wpList_make_own _ rfl _ _ 30 rfl w.heap.size 5 i0 (.int .u8 0) 1 Try.underlying30 hi hz0 hz1 .i64 .i64 _ (2 * s.size + 2) rfl rfl (by omega) (by rw [hz2]; omega) (by unfold maxLen; omega) (Nat.le_refl _) ?_; intro w0 hown0 hgrow0)
    | (at_builtin; refine wpList_append_fits _ rfl (.tmp 10) (.tmp 11) 30 rfl w.heap.size 5 i0 1 Try.underlying30 hi hz1 w.heap.size 0 (2 * s.size + 2) _ rfl (hown0.alloc _) ⟨w0.heap.size, 0, none⟩ 1 1 [.int .u8 34] rfl rfl (cell_one_new _ _ _) (one_cell _) (by omega) ?_; intro w1 hown1 hgrow1; simp only [Nat.zero_add, List.nil_append] at hown1))
  have inv0 := start_inv hgrow0 hown1 hgrow1
  clear hown0 hgrow0 hown1 hgrow1
  go_loopw [3, 4] (fun v i wr => ∃ k : Nat, k ≤ s.size ∧ i = .int .i64 k ∧ v = .slice (some ⟨w.heap.size, 0, none⟩) (qpart s k).length (2 * s.size + 2) ∧ QInv s w wr (qpart s k)) (fun _ i _ => s.size - (intOf i).toNat)
  case atStart => exact ⟨0, Nat.zero_le _, rfl, rfl, inv0⟩
  case round =>
    obtain ⟨k, hk, rfl, rfl, hinv⟩ := hrel
    have hlen := qpart_le s k
    obtain ⟨l, hl⟩ : ∃ l, l = qpart s k := ⟨_, rfl⟩
    rw [← hl] at hinv hlen ⊢
    have HL : Hid (l = qpart s k) := hl
    clear hl inv0
    by_cases hlt : k < s.size
    · by_cases hb : (s[k].toNat : Int) = 34 ∨ (s[k].toNat : Int) = 92
      · have hq : Hid (qpart s (k + 1) = (l ++ [92]) ++ [s[k]]) := by
          show qpart s (k + 1) = (l ++ [92]) ++ [s[k]]
          rw [qpart_esc s k hlt hb, ← HL.out]; simp
        rcases hb with hb | hb
        · have hb' : ((s[k].toNat : Int) == 34) = true := by simpa using hb
          clear hb
          go_wp2_with (first
            | (at_builtin; refine wpList_append_fits _ rfl (.tmp 29) (.tmp 30) 30 rfl w.heap.size 5 i0 1 Try.underlying30 hi hz1 w.heap.size l.length (2 * s.size + 2) _ rfl (hinv.1.alloc _) ⟨wr.heap.size, 0, none⟩ 1 1 [.int .u8 92] rfl rfl (cell_one_new _ _ _) (one_cell _) (by omega) ?_; intro w1 hown1 hgrow1)
            | (at_builtin; refine wpList_append_fits _ rfl (.tmp 32) (.tmp 36) 30 rfl w.heap.size 5 i0 1 Try.underlying30 hi hz1 w.heap.size (l.length + 1) (2 * s.size + 2) _ rfl (hown1.alloc _) ⟨w1.heap.size, 0, none⟩ 1 1 [.int .u8 (s[k].toNat : Int)] rfl rfl (cell_one_new _ _ _) (one_cell _) (by omega) ?_; intro w2 hown2 hgrow2))
          have R := hinv.two hown1 hgrow1 hown2 hgrow2
          go_roundw
          case rel => exact ⟨k + 1, by omega, by go_num, slice_eq (by rw [hq.out]; simp), by rw [hq.out]; exact R⟩
          case measure => simp [intOf]; omega
        · have hb' : ((s[k].toNat : Int) == 34) = false := by rw [hb]; rfl
          have hb2 : ((s[k].toNat : Int) == 92) = true := by simpa using hb
          clear hb
          go_wp2_with (first
            | (at_builtin; refine wpList_append_fits _ rfl (.tmp 29) (.tmp 30) 30 rfl w.heap.size 5 i0 1 Try.underlying30 hi hz1 w.heap.size l.length (2 * s.size + 2) _ rfl (hinv.1.alloc _) ⟨wr.heap.size, 0, none⟩ 1 1 [.int .u8 92] rfl rfl (cell_one_new _ _ _) (one_cell _) (by omega) ?_; intro w1 hown1 hgrow1)
            | (at_builtin; refine wpList_append_fits _ rfl (.tmp 32) (.tmp 36) 30 rfl w.heap.size 5 i0 1 Try.underlying30 hi hz1 w.heap.size (l.length + 1) (2 * s.size + 2) _ rfl (hown1.alloc _) ⟨w1.heap.size, 0, none⟩ 1 1 [.int .u8 (s[k].toNat : Int)] rfl rfl (cell_one_new _ _ _) (one_cell _) (by omega) ?_; intro w2 hown2 hgrow2))
          have R := hinv.two hown1 hgrow1 hown2 hgrow2
          go_roundw
          case rel => exact ⟨k + 1, by omega, by go_num, slice_eq (by rw [hq.out]; simp), by rw [hq.out]; exact R⟩
          case measure => simp [intOf]; omega
      · have hq : Hid (qpart s (k + 1) = l ++ [s[k]]) := by
          show qpart s (k + 1) = l ++ [s[k]]
          rw [qpart_plain s k hlt hb, ← HL.out]
        have hb' : ((s[k].toNat : Int) == 34) = false := by simpa using fun h => hb (.inl h)
        have hb2 : ((s[k].toNat : Int) == 92) = false := by simpa using fun h => hb (.inr h)
        clear hb
        go_wp2_with (at_builtin; refine wpList_append_fits _ rfl (.tmp 32) (.tmp 36) 30 rfl w.heap.size 5 i0 1 Try.underlying30 hi hz1 w.heap.size l.length (2 * s.size + 2) _ rfl (hinv.1.alloc _) ⟨wr.heap.size, 0, none⟩ 1 1 [.int .u8 (s[k].toNat : Int)] rfl rfl (cell_one_new _ _ _) (one_cell _) (by omega) ?_; intro w1 hown1 hgrow1)
        have R := hinv.one rfl hown1 hgrow1
        go_roundw
        case rel => exact ⟨k + 1, by omega, by go_num, slice_eq (by rw [hq.out]; simp), by rw [hq.out]; exact R⟩
        case measure => simp [intOf]; omega
    · have hq : Hid (l ++ [34] = quoted s.data.toList) := by
        show l ++ [34] = quoted s.data.toList
        rw [HL.out, show k = s.size from by omega]
        exact qpart_done s
      go_wp2_with (at_builtin; refine wpList_append_fits _ rfl (.tmp 38) (.tmp 39) 30 rfl w.heap.size 5 i0 1 Try.underlying30 hi hz1 w.heap.size l.length (2 * s.size + 2) _ rfl (hinv.1.alloc _) ⟨wr.heap.size, 0, none⟩ 1 1 [.int .u8 34] rfl rfl (cell_one_new _ _ _) (one_cell _) (by omega) ?_; intro w1 hown1 hgrow1; have I1 := hinv.one (x := 34) rfl hown1 hgrow1; have hcv := I1.conv; simp only [List.length_append, List.length_cons, List.length_nil, Nat.zero_add] at hcv)
      go_ret
      exact ⟨by rw [hq.out]; rfl, I1.2⟩
end Go.Proofs.Qxb6603950a
