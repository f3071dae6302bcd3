/-
  sipb1PlainMask: her contract.
-/
import Derived.Test.Qxb6603950aIndex
import Derived.Deep.OwnRows
namespace Go.Proofs.Qxb6603950a
open Go.RowKit

theorem info4 : (Try.prog.info? 4).map (fun i => (i.zero, i.size, i.bytes)) = some (some (.bool false), 1, 1) := by kernel_rfl

/-- Is place t marked? -/
def mk (s : ByteArray) (t : Nat) : Bool := (maskL false false s.data.toList).getD t false
/-- At place i the state is (q, false). -/
def At (s : ByteArray) (q : Bool) (i : Nat) : Prop := (maskL false false s.data.toList).drop i = maskL q false (s.data.toList.drop i)

theorem drop_head {l : List Bool} {t : Nat} {x : Bool} {r : List Bool} (h : l.drop t = x :: r) : l.getD t false = x ∧ l.drop (t + 1) = r := by
  refine ⟨?_, ?_⟩
  · have : (l.drop t)[0]? = some x := by rw [h]; rfl
    rw [List.getElem?_drop, Nat.add_zero] at this
    simp [List.getD, this]
  · rw [← List.drop_drop, h]; rfl

theorem at_start (s : ByteArray) : At s false 0 := rfl

section
variable {s : ByteArray} {i : Nat}
theorem at_plain (hi : i < s.size) (h : At s false i) (hb : ¬ (s[i].toNat : Int) = 34) : mk s i = true ∧ At s false (i + 1) := by
  unfold At at h
  rw [drop_cons s i hi] at h
  simp only [maskL, if_neg hb] at h
  exact drop_head h
theorem at_open (hi : i < s.size) (h : At s false i) (hb : (s[i].toNat : Int) = 34) : mk s i = false ∧ At s true (i + 1) := by
  unfold At at h
  rw [drop_cons s i hi] at h
  simp only [maskL, if_pos hb] at h
  exact drop_head h
theorem at_other (hi : i < s.size) (h : At s true i) (h1 : ¬ (s[i].toNat : Int) = 92) (h2 : ¬ (s[i].toNat : Int) = 34) : mk s i = false ∧ At s true (i + 1) := by
  unfold At at h
  rw [drop_cons s i hi] at h
  simp only [maskL, if_neg h1, if_neg h2] at h
  exact drop_head h
theorem at_close (hi : i < s.size) (h : At s true i) (h2 : (s[i].toNat : Int) = 34) : mk s i = false ∧ At s false (i + 1) := by
  unfold At at h
  rw [drop_cons s i hi] at h
  have h1 : ¬ (s[i].toNat : Int) = 92 := by omega
  simp only [maskL, if_neg h1, if_pos h2] at h
  exact drop_head h
theorem mk_end (hi : s.size ≤ i) : mk s i = false := by
  unfold mk
  rw [List.getD, List.getElem?_eq_none (by rw [maskL_length]; simpa using hi)]; rfl
theorem at_end (q : Bool) (hi : s.size ≤ i) : At s q i := by
  unfold At
  rw [List.drop_eq_nil_of_le (by rw [maskL_length]; simpa using hi), List.drop_eq_nil_of_le (by simpa using hi)]
  cases q <;> rfl
theorem at_esc (hi : i < s.size) (h : At s true i) (h1 : (s[i].toNat : Int) = 92) : mk s i = false ∧ mk s (i + 1) = false ∧ At s true (i + 2) := by
  unfold At at h
  rw [drop_cons s i hi] at h
  simp only [maskL, if_pos h1] at h
  obtain ⟨e1, e2⟩ := drop_head h
  by_cases hj : i + 1 < s.size
  · rw [drop_cons s (i + 1) hj] at e2
    simp only [maskL] at e2
    obtain ⟨e3, e4⟩ := drop_head e2
    exact ⟨e1, e3, e4⟩
  · exact ⟨e1, mk_end (by omega), at_end _ (by omega)⟩
end

/-- The row when the places below i are done. -/
def masked (s : ByteArray) (i : Nat) : Nat → Value := fun t => .bool (mk s t && decide (t < i))
theorem masked_zero (s : ByteArray) (t : Nat) : masked s 0 t = .bool false := by simp [masked]
theorem masked_here (s : ByteArray) (i : Nat) : masked s i i = .bool false := by simp [masked]
theorem masked_set (s : ByteArray) (i : Nat) (h : mk s i = true) (t : Nat) : (if t = i then .bool true else masked s i t) = masked s (i + 1) t := by
  by_cases e : t = i
  · subst e; simp [masked, h]
  · have e2 : (t < i + 1) ↔ (t < i) := by omega
    simp [masked, e, e2]
theorem masked_skip (s : ByteArray) (i j : Nat) (hij : i ≤ j) (h : ∀ t, i ≤ t → t < j → mk s t = false) (t : Nat) : masked s i t = masked s j t := by
  by_cases e : t < i
  · have e2 : t < j := by omega
    simp [masked, e, e2]
  · by_cases e2 : t < j
    · simp [masked, h t (by omega) e2]
    · simp [masked, e, e2]
theorem masked_done (s : ByteArray) (i t : Nat) (h : s.size ≤ i) (ht : t < s.size) : masked s i t = .bool (mk s t) := by
  have e : t < i := by omega
  simp [masked, e]

theorem close1 {s : ByteArray} {k j : Nat} (h : ∀ t, k ≤ t → t < j → mk s t = false) (hj : mk s j = false) : ∀ t, k ≤ t → t < j + 1 → mk s t = false := by
  intro t h1 h2
  by_cases e : t = j
  · rw [e]; exact hj
  · exact h t h1 (by omega)

set_option maxHeartbeats 1000000 in
theorem mask_any (s : ByteArray) (w : World) (hs : s.size ≤ 1048576) :
    Calls Try.prog 9 #[.string s] w fun e w' => e = .returned (.slice (some ⟨w.heap.size, 0, none⟩) s.size s.size) ∧ w'.rowIs w.heap.size 4 s.size (fun t => .bool (mk s t)) ∧ Below w.heap.size w w' := by
  have hmk := run_make_row' (P := Try.prog) 24 4 (.bool false) 1 Try.underlying24 info4 rfl .i64 .i64 s.size (by omega) (by omega)
  go_enter Try.func9, Try.ntmps9
  go_wp2
  clear hmk
  go_loopw [4] (fun i wr => ∃ k : Nat, k ≤ s.size + 2 ∧ i = .int .i64 k ∧ wr.rowIs w.heap.size 4 s.size (masked s k) ∧ Below w.heap.size w wr ∧ At s false k) (fun i _ => s.size + 3 - (intOf i).toNat)
  case atStart => exact ⟨0, Nat.zero_le _, rfl, (World.rowIs_made w (.bool false) s.size 4).congr (fun i _ => (masked_zero s i).symm), (Below.refl _ _).alloc (Nat.le_refl _) _, at_start s⟩
  case round =>
    obtain ⟨k, hk, rfl, hrow, hbel, hat⟩ := hrel
    have HAT : Hid (At s false k) := hat
    clear hat
    by_cases hlt : k < s.size
    · by_cases hb : (s[k].toNat : Int) = 34
      · obtain ⟨m0, a0⟩ := at_open hlt HAT.out hb
        have M0 : Hid (mk s k = false) := m0
        have A0 : Hid (At s true (k + 1)) := a0
        clear m0 a0
        have hb' : ((s[k].toNat : Int) != 34) = false := by simpa using hb
        clear hb
        go_wp2
        clear hb' HAT
        go_loop [5] (fun v => ∃ j : Nat, k < j ∧ j ≤ s.size + 1 ∧ v = .int .i64 j ∧ At s true j ∧ ∀ t, k ≤ t → t < j → mk s t = false) (fun v => s.size + 2 - (intOf v).toNat)
        case atStart => exact ⟨k + 1, by omega, by omega, by go_num, A0.out, fun t h1 h2 => by obtain rfl : t = k := by omega
                                                                                               exact M0.out⟩
        case round =>
          obtain ⟨j, hkj, hj, rfl, hat, hm⟩ := hrel
          have HA : Hid (At s true j) := hat
          have HM : Hid (∀ t, k ≤ t → t < j → mk s t = false) := hm
          clear hat hm M0 A0
          by_cases hjl : j < s.size
          · by_cases b1 : (s[j].toNat : Int) = 34
            · obtain ⟨m1, a1⟩ := at_close hjl HA.out b1
              have R : Hid (At s false (j + 1) ∧ ∀ t, k ≤ t → t < j + 1 → mk s t = false) := ⟨a1, close1 HM.out m1⟩
              have b1' : ((s[j].toNat : Int) != 34) = false := by simpa using b1
              clear m1 a1 b1 HM HA
              go_wp2
              go_roundw
              case rel => exact ⟨j + 1, by omega, by go_num, hrow.congr (fun t _ => masked_skip s k (j + 1) (by omega) R.out.2 t), hbel, R.out.1⟩
              case measure => simp [intOf]; omega
            · have b1' : ((s[j].toNat : Int) != 34) = true := by simpa using b1
              by_cases b2 : (s[j].toNat : Int) = 92
              · obtain ⟨m1, m2, a1⟩ := at_esc hjl HA.out b2
                have R : Hid (At s true (j + 2) ∧ ∀ t, k ≤ t → t < j + 2 → mk s t = false) := ⟨a1, close1 (close1 HM.out m1) m2⟩
                have b2' : ((s[j].toNat : Int) == 92) = true := by simpa using b2
                clear m1 m2 a1 b1 b2 HM HA
                go_wp2
                go_round
                case rel => exact ⟨j + 2, by omega, by omega, by go_num, R.out.1, R.out.2⟩
                case measure => simp [intOf]; omega
              · obtain ⟨m1, a1⟩ := at_other hjl HA.out b2 b1
                have R : Hid (At s true (j + 1) ∧ ∀ t, k ≤ t → t < j + 1 → mk s t = false) := ⟨a1, close1 HM.out m1⟩
                have b2' : ((s[j].toNat : Int) == 92) = false := by simpa using b2
                clear m1 a1 b1 b2 HM HA
                go_wp2
                go_round
                case rel => exact ⟨j + 1, by omega, by omega, by go_num, R.out.1, R.out.2⟩
                case measure => simp [intOf]; omega
          · have R : Hid (At s false (j + 1) ∧ ∀ t, k ≤ t → t < j + 1 → mk s t = false) := ⟨at_end _ (by omega), close1 HM.out (mk_end (by omega))⟩
            clear HM HA
            go_wp2
            go_roundw
            case rel => exact ⟨j + 1, by omega, by go_num, hrow.congr (fun t _ => masked_skip s k (j + 1) (by omega) R.out.2 t), hbel, R.out.1⟩
            case measure => simp [intOf]; omega
      · obtain ⟨m0, a0⟩ := at_plain hlt HAT.out hb
        have M0 : Hid (mk s k = true) := m0
        have A0 : Hid (At s false (k + 1)) := a0
        clear m0 a0
        have hb' : ((s[k].toNat : Int) != 34) = true := by simpa using hb
        clear hb
        have e1 : wr.cell? ⟨w.heap.size, k, none⟩ = some (.bool false) := by rw [hrow.cell hlt, masked_here]
        have e2 : wr.frozen? ⟨w.heap.size, k, none⟩ = false := hrow.frozen k
        go_wp2
        go_roundw
        case rel => exact ⟨k + 1, by omega, by go_num, (hrow.set k (.bool true)).congr (fun t _ => masked_set s k M0.out t), hbel.setCell (Nat.le_refl _) _, A0.out⟩
        case measure => simp [intOf]; omega
    · go_wp2
      go_ret
      exact ⟨rfl, hrow.congr (fun t ht => masked_done s k t (by omega) ht), hbel⟩
end Go.Proofs.Qxb6603950a
