/-
  The contract of 'zzDecimal': what it hands back is a text of digits, of one to twenty bytes.
-/
import Derived.Test.Qxb6619695aDigits
namespace Go.Proofs.Qxb6619695a.Dg
open Go.RowKit

/-- Cells from k on hold digits. -/
def Filled (cs : Array Value) (k : Nat) : Prop := cs.size = 20 ∧ ∀ j, k ≤ j → j < 20 → ∃ c : UInt8, digC c = true ∧ cs[j]? = some (.int .u8 c.toNat)

theorem filled_set (cs : Array Value) (k m : Nat) (hk : k < 20) (h : Filled cs (k + 1)) : Filled (cs.setIfInBounds k (.int .u8 (48 + (m : Int) % 10))) k := by
  refine ⟨by simpa using h.1, fun j hj hj2 => ?_⟩
  by_cases e : j = k
  · subst e
    refine ⟨UInt8.ofNat (48 + m % 10), dig_of _ ?_ ?_, ?_⟩
    · rw [UInt8.toNat_ofNat']; omega
    · rw [UInt8.toNat_ofNat']; omega
    · have hs := h.1
      rw [UInt8.toNat_ofNat']
      have e1 : (48 + m % 10) % 2 ^ 8 = 48 + m % 10 := by omega
      rw [e1]
      simp [hs, hk]
  · obtain ⟨c, hc, hv⟩ := h.2 j (by omega) hj2
    refine ⟨c, hc, ?_⟩
    rw [Array.getElem?_setIfInBounds_ne (by omega)]; exact hv

theorem filled_list : ∀ (d : Nat) (cs : Array Value) (k : Nat), d + k = 20 → Filled cs k → ∃ l : List UInt8, l.length = d ∧ l.all digC = true ∧ ∀ j (hj : j < l.length), cs[k + j]? = some (.int .u8 (l[j].toNat : Int))
  | 0, cs, k, _, _ => ⟨[], rfl, rfl, fun j hj => by simp at hj⟩
  | d + 1, cs, k, hd, h => by
    obtain ⟨c, hc, hv⟩ := h.2 k (Nat.le_refl _) (by omega)
    obtain ⟨l, hl, ha, hq⟩ := filled_list d cs (k + 1) (by omega) ⟨h.1, fun j hj hj2 => h.2 j (by omega) hj2⟩
    refine ⟨c :: l, by simp [hl], by simp [hc, ha], fun j hj => ?_⟩
    cases j with
    | zero => simpa using hv
    | succ j =>
      have := hq j (by simpa using hj)
      rw [show k + (j + 1) = k + 1 + j from by omega]
      simpa using this

theorem filled_nth (cs : Array Value) (k : Nat) (h : Filled cs (k + 1)) (hk : k < 20) : ∃ v, cs[k]? = some v :=
  ⟨cs[k]'(by rw [h.1]; exact hk), by simp [h.1, hk]⟩

theorem alen32 : Try.prog.arrayLen 32 = 20 := by kernel_rfl
theorem elem32 : Try.prog.elem 32 = 5 := by kernel_rfl
theorem size5 (w : World) : (sizeOf 5).run Try.prog w = .ok 1 w := by kernel_rfl

theorem slice_tail (b k : Nat) (hk : k < 20) (w : World) :
    (Instr.sliceAt 32 (.pointer (some ⟨b, 0, none⟩)) (some (.int .i64 k)) none none).run Try.prog w = .ok (.slice (some ⟨b, k, none⟩) (20 - k) (20 - k)) w := by
  rw [run_sliceAt_array_l w 32 ⟨b, 0, none⟩ (by rw [alen32, elem32]; exact Try.underlying32) .i64 (k : Int) (by omega) (by rw [alen32]; omega), elem32, size5, alen32]
  have hne : ¬ 20 = k := by omega
  simp [slicedAt, Result.andThen, Addr.add, hne]
  exact fun h => h.symm

theorem pow_pos' (m k : Nat) (h : m < 10 ^ k) (h0 : 0 < m) : ∃ k', k = k' + 1 := by
  cases k with
  | zero => simp at h; omega
  | succ k => exact ⟨k, rfl⟩

theorem filled_start : Filled #[.int .u8 0, .int .u8 0, .int .u8 0, .int .u8 0, .int .u8 0, .int .u8 0, .int .u8 0, .int .u8 0, .int .u8 0, .int .u8 0, .int .u8 0, .int .u8 0, .int .u8 0, .int .u8 0, .int .u8 0, .int .u8 0, .int .u8 0, .int .u8 0, .int .u8 0, .int .u8 0] 20 :=
  ⟨rfl, fun j h1 h2 => by omega⟩

set_option maxHeartbeats 400000 in
theorem dec_pos (n : Int) (w : World) (h0 : 0 < n) (h1 : n ≤ 18446744073709551615) :
    Calls Try.prog 12 #[.int .u64 n] w fun e w' => ∃ t : ByteArray, e = .returned (.string t) ∧ digB t.data.toList = true ∧ t.size ≤ 20 ∧ Grown w w' := by
  have hn0 : (n == 0) = false := by simp; omega
  go_enter Try.func12, Try.ntmps12
  go_wp2
  go_loopw [0, 4] (fun m k wr => ∃ (m' k' : Nat) (cs : Array Value), m = .int .u64 m' ∧ k = .int .i64 k' ∧ wr = w.alloc (.cells cs 32) ∧ k' ≤ 20 ∧ Hid (m' < 10 ^ k') ∧ m' ≤ 18446744073709551615 ∧ Filled cs k' ∧ Hid (m' = 0 → k' < 20)) (fun _ k _ => (intOf k).toNat)
  case atStart =>
    exact ⟨n.toNat, 20, _, by congr 1; omega, rfl, rfl, Nat.le_refl _, (by show _ < _; omega), by omega, filled_start, (by intro h; omega)⟩
  case round =>
    obtain ⟨m, k, cs, rfl, rfl, rfl, hk, hm, hmx, hfill, hne⟩ := hrel
    by_cases hm0 : 0 < m
    · obtain ⟨k, rfl⟩ := pow_pos' m k hm.out hm0
      obtain ⟨v, hv⟩ := filled_nth cs k hfill (by omega)
      go_wp2
      go_roundw
      case rel =>
        refine ⟨m / 10, k, _, by go_num, rfl, rfl, by omega, ?_, by omega, filled_set cs k m (by omega) hfill, ?_⟩
        · show _ < _
          have := hm.out
          rw [Nat.pow_succ] at this
          omega
        · intro _; omega
      case measure => simp [intOf]
    · obtain rfl : m = 0 := by omega
      have hk20 := hne.out rfl
      obtain ⟨l, hl, ha, hq⟩ := filled_list (20 - k) cs k (by omega) hfill
      have hcv := fun (cap : Nat) => run_convert_bytes_back (P := Try.prog) (w.alloc (.cells cs 32)) 30 9 5 ⟨w.heap.size, k, none⟩ cap l Try.underlying30 Try.underlying5 Try.underlying9 (fun j hj => by
        have ea : (⟨w.heap.size, k, none⟩ : Addr).add j = ⟨w.heap.size, k + j, none⟩ := by simp [Addr.add]
        rw [ea]
        rw [← hq j hj]; exact World.cell?_alloc_mark w cs 32 _ (k + j))
      rw [hl] at hcv
      have HQ : Hid (l.length = 20 - k) := hl
      clear hl hq hfill
      have hsl := slice_tail w.heap.size k hk20
      go_wp2
      go_ret
      refine ⟨_, rfl, ?_, ?_, (Grown.refl _).alloc _ _⟩
      · show digB l.toArray.toList = true
        rw [List.toList_toArray]
        have : l ≠ [] := by
          intro e; have := HQ.out; rw [e] at this; simp at this; omega
        simp [digB, ha, this]
      · show l.toArray.size ≤ 20
        rw [List.size_toArray, HQ.out]; omega

set_option maxHeartbeats 400000 in
theorem dec_any (n : Int) (w : World) (h0 : 0 ≤ n) (h1 : n ≤ 18446744073709551615) :
    Calls Try.prog 12 #[.int .u64 n] w fun e w' => ∃ t : ByteArray, e = .returned (.string t) ∧ digB t.data.toList = true ∧ t.size ≤ 20 ∧ Grown w w' := by
  by_cases h : 0 < n
  · exact dec_pos n w h h1
  · obtain rfl : n = 0 := by omega
    go_enter Try.func12, Try.ntmps12
    go_wp2
    go_ret
    exact ⟨_, rfl, by decide, by decide, Grown.refl _⟩
end Go.Proofs.Qxb6619695a.Dg
