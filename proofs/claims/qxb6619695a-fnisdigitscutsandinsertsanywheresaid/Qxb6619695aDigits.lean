/-
  The contracts of 'isDigits', 'ZZIsDigits' and of the bound on lengths.
-/
import Derived.Test.Qxb6619695aRows
import Derived.WalkKit
import Derived.WalkLawsBesides
import Derived.Laws.RangeAny
namespace Go.Proofs.Qxb6619695a.Dg
open Go.RowKit

def digC (c : UInt8) : Bool := 48 ≤ c && c ≤ 57
/-- What 'isDigits' answers, of the text's bytes. -/
def digB (l : List UInt8) : Bool := !l.isEmpty && l.all digC

theorem ret_bool {a b : Bool} (h : a = b) : Ending.returned (.bool a) = .returned (.bool b) := by rw [h]

theorem grown_trans {a b c : World} (h : Grown a b) (k : Grown b c) : Grown a c :=
  ⟨World.keptBut_trans h.1 k.1, fun x => (k.2.1 x).trans (h.2.1 x), Nat.le_trans h.2.2 k.2.2⟩

theorem grown_iter (w : World) (s : ByteArray) (p : Nat) : Grown w (w.iter s p) := by
  refine ⟨World.keptBut_alloc _ _ _, fun a => ?_, by show w.heap.size ≤ (w.heap.push _).size; simp⟩
  by_cases h : a.block = w.heap.size
  · have e1 : (w.iter s p).heap[a.block]? = some (.stringIter s p) := by rw [h]; exact World.iter_heap w s p
    have e2 : w.heap[a.block]? = none := by rw [h]; simp
    simp [World.frozen?, e1, e2]
  · have e1 : (w.iter s p).heap[a.block]? = w.heap[a.block]? := by
      show (w.heap.push _)[a.block]? = _
      rw [Array.getElem?_push, if_neg h]
    simp [World.frozen?, e1]

theorem take_snoc (s : ByteArray) (k : Nat) (h : k < s.size) : s.data.toList.take (k + 1) = s.data.toList.take k ++ [s[k]] := by
  rw [List.take_succ_eq_append_getElem (by simpa using h)]; rfl

theorem dig_of (c : UInt8) (h1 : 48 ≤ c.toNat) (h2 : c.toNat ≤ 57) : digC c = true := by
  simp [digC, UInt8.le_iff_toNat_le]; exact ⟨h1, h2⟩
theorem dig_not (c : UInt8) (h : c.toNat < 48 ∨ 57 < c.toNat) : digC c = false := by
  simp [digC, UInt8.le_iff_toNat_le]; omega

theorem digB_false (s : ByteArray) (k : Nat) (hk : k < s.size) (h : digC s[k] = false) : digB s.data.toList = false := by
  have hm : s[k] ∈ s.data.toList := by
    have : s.data[k]'hk ∈ s.data.toList := by simp
    exact this
  have : s.data.toList.all digC = false := by
    cases e : s.data.toList.all digC
    · rfl
    · rw [List.all_eq_true] at e
      have := e _ hm; rw [h] at this; cases this
  simp [digB, this]

theorem digB_end (s : ByteArray) (h : (s.data.toList.take s.size).all digC = true) : digB s.data.toList = !s.data.toList.isEmpty := by
  have e : s.data.toList.take s.size = s.data.toList := List.take_of_length_le (by simp)
  rw [e] at h
  simp only [digB, h, Bool.and_true]

set_option maxHeartbeats 400000 in
theorem isdigits_any (s : ByteArray) (w : World) (hs : s.size ≤ maxLen) :
    Calls Try.prog 16 #[.string s] w fun e w' => e = .returned (.bool (digB s.data.toList)) ∧ Grown w w' := by
  unfold maxLen at hs
  go_enter Try.func16, Try.ntmps16
  go_wp2
  go_loopw [4] (fun _ w' => ∃ pos : Nat, w' = w.iter s pos ∧ pos ≤ s.size ∧ Hid ((s.data.toList.take pos).all digC = true)) (fun _ w' => s.size - w'.iterPos w.heap.size)
  case atStart => exact ⟨0, rfl, by omega, by simp [Hid]⟩
  case round =>
    obtain ⟨pos, rfl, hp0, HD⟩ := hrel
    by_cases hp : pos < s.size
    · by_cases ha : (s[pos]'hp).toNat < 128
      · have hnx : ∀ ty, (Instr.next (.pointer (some ⟨w.heap.size, 0, none⟩)) true ty).run Try.prog (w.iter s pos) = _ := fun ty => run_next_ascii w s pos ty hp ha
        have HT := take_snoc s pos hp
        have HT2 : Hid (s.data.toList.take (pos + 1) = s.data.toList.take pos ++ [s[pos]]) := HT
        have HF : Hid (∀ k (hk : k < s.size), digC s[k] = false → digB s.data.toList = false) := digB_false s
        clear HT
        obtain ⟨c, hc⟩ : ∃ c : UInt8, s[pos]'hp = c := ⟨_, rfl⟩
        have HC : Hid (s[pos]'hp = c) := hc
        rw [hc] at hnx ha
        clear hc
        by_cases h1 : c.toNat < 48
        · go_wp2
          go_ret
          refine ⟨ret_bool ?_, grown_iter _ _ _⟩
          exact (HF.out pos hp (by rw [HC.out]; exact dig_not _ (Or.inl h1))).symm
        · by_cases h2 : 57 < c.toNat
          · go_wp2
            go_ret
            refine ⟨ret_bool ?_, grown_iter _ _ _⟩
            exact (HF.out pos hp (by rw [HC.out]; exact dig_not _ (Or.inr h2))).symm
          · go_wp2
            go_roundw
            case rel =>
              refine ⟨pos + 1, rfl, by omega, ?_⟩
              show _ = _
              rw [HT2.out, List.all_append, HD.out, HC.out]
              simp [dig_of c (by omega) (by omega)]
            case measure =>
              simp
              omega
      · have hh := decode_high s pos hp (by omega)
        have HF := digB_false s pos hp (dig_not _ (Or.inr (by omega)))
        have HF2 : Hid (digB s.data.toList = false) := HF
        clear HF
        have hnx : ∀ ty, (Instr.next (.pointer (some ⟨w.heap.size, 0, none⟩)) true ty).run Try.prog (w.iter s pos) = _ := fun ty => run_next_any w s pos ty hp
        have hle := decode_le s pos
        obtain ⟨c, hc⟩ : ∃ c : Nat, (Utf8.decode s pos).1 = c := ⟨_, rfl⟩
        obtain ⟨d, hd⟩ : ∃ d : Nat, (Utf8.decode s pos).2 = d := ⟨_, rfl⟩
        rw [hc, hd] at hnx
        rw [hc] at hh hle
        rw [hd] at hh
        clear hc hd
        go_wp2
        go_ret
        exact ⟨ret_bool HF2.out.symm, grown_iter _ _ _⟩
    · have hnx : ∀ ty, (Instr.next (.pointer (some ⟨w.heap.size, 0, none⟩)) true ty).run Try.prog (w.iter s pos) = _ := fun ty => run_next_end w s pos ty hp
      have hpe : pos = s.size := by omega
      subst hpe
      go_wp2
      go_ret
      refine ⟨ret_bool ?_, grown_iter _ _ _⟩
      rw [digB_end s HD.out, ByteArray.toList_eq]

set_option maxHeartbeats 400000 in
theorem zzdigits_any (s : ByteArray) (w : World) (hs : s.size ≤ maxLen) :
    Calls Try.prog 13 #[.string s] w fun e w' => e = .returned (.bool (digB s.data.toList)) ∧ Grown w w' := by
  go_enter Try.func13, Try.ntmps13
  go_wp2_with fail
  refine (isdigits_any s _ hs).mono ?_
  rintro e w' ⟨rfl, hg⟩
  go_wp2
  go_ret
  exact ⟨rfl, hg⟩

set_option maxHeartbeats 400000 in
theorem bytes11 (o : ByteArray) (i c n : Int) (w : World) (ho : o.size ≤ maxLen) :
    Calls Try.prog 11 #[.string o, .int .i64 i, .int .u8 c, .int .u64 n] w fun e w' => e = .returned (.bool (decide (o.size ≤ 1048576))) ∧ w' = w := by
  unfold maxLen at ho
  by_cases h : o.size ≤ 1048576
  all_goals
    go_enter Try.func11, Try.ntmps11
    go_wp2
    go_ret
    exact ⟨ret_bool (by simp [h]), rfl⟩

end Go.Proofs.Qxb6619695a.Dg
