/-
  Contracts of the small functions: zzCsvB1AddStrings, zzCsvB1AddString, ZZcsvB1NewReader, ZZcsvB1Need, zzCsvB1LeastCover.
-/
import Derived.Test.Qxb6616934aBase
namespace Go.Proofs.Qxb6616934a.Bs
open Go.RowKit Go.WideMaps Go.Maps

theorem ret_int {k : IntKind} {a b : Int} (h : a = b) : Ending.returned (.int k a) = .returned (.int k b) := by rw [h]

set_option maxHeartbeats 400000 in
theorem addStrings_any (B : Nat) (sum : Int) (a : Option Addr) (cap : Nat) (xs : List ByteArray) (w : World) (hx : IsStrs B w a xs) (hl : xs.length ≤ maxLen) (h0 : 0 ≤ sum) (h1 : sum ≤ 1048576) :
    Calls Try.prog 8 #[.int .i64 sum, .slice a xs.length cap] w fun e w' => ∃ r : Int, e = .returned (.int .i64 r) ∧ 0 ≤ r ∧ r ≤ 1048577 ∧ w' = w := by
  unfold maxLen at hl
  go_enter Try.func8, Try.ntmps8
  go_wp2
  go_loop [0, 5] (fun s i => ∃ (k : Nat) (t : Int), k ≤ xs.length ∧ i = .int .i64 k ∧ s = .int .i64 t ∧ 0 ≤ t ∧ t ≤ 1048576) (fun _ i => xs.length - (intOf i).toNat)
  case atStart => exact ⟨0, sum, Nat.zero_le _, rfl, rfl, h0, h1⟩
  case round =>
    obtain ⟨k, t, hk, rfl, rfl, ht0, ht1⟩ := hrel
    by_cases hlt : k < xs.length
    · obtain ⟨b, o, hix, hb, hc⟩ := hx.at k hlt
      have hsz := hx.size k hlt
      obtain ⟨x, hxe⟩ : ∃ x, xs[k] = x := ⟨_, rfl⟩
      rw [hxe] at hc hsz
      clear hxe
      by_cases hg : 1048576 - t - 16 < (x.size : Int)
      · go_wp2
        go_ret
        exact ⟨1048577, rfl, by omega, by omega, rfl⟩
      · go_wp2
        go_round
        case rel => exact ⟨k + 1, t + 16 + x.size, by omega, by go_num, rfl, by omega, by omega⟩
        case measure => simp [intOf]; omega
    · go_wp2
      go_ret
      exact ⟨t, rfl, by omega, by omega, rfl⟩

set_option maxHeartbeats 400000 in
theorem addString_any (sum : Int) (s : ByteArray) (w : World) (hs : s.size ≤ maxLen) (h0 : 0 ≤ sum) (h1 : sum ≤ 1048576) :
    Calls Try.prog 15 #[.int .i64 sum, .string s] w fun e w' => ∃ r : Int, e = .returned (.int .i64 r) ∧ 0 ≤ r ∧ r ≤ 1048577 ∧ w' = w := by
  unfold maxLen at hs
  by_cases hg : 1048576 - sum < (s.size : Int)
  · go_enter Try.func15, Try.ntmps15
    go_wp2
    go_ret
    exact ⟨1048577, rfl, by omega, by omega, rfl⟩
  · go_enter Try.func15, Try.ntmps15
    go_wp2
    go_ret
    exact ⟨sum + s.size, rfl, by omega, by omega, rfl⟩

/-- The block that ZZcsvB1NewReader lays. -/
def readerObj (bm : Nat) (need : Int) : Obj := .cells #[.pointer none, .map (some bm), .int .i64 need] 42

set_option maxHeartbeats 400000 in
theorem newReader_any (bm : Nat) (need : Int) (w : World) :
    Calls Try.prog 10 #[.map (some bm), .int .i64 need] w fun e w' => e = .returned (.pointer (some ⟨w.heap.size, 0, none⟩)) ∧ w' = w.alloc (readerObj bm need) := by
  go_enter Try.func10, Try.ntmps10
  go_wp2
  go_ret
  exact ⟨rfl, rfl⟩

set_option maxHeartbeats 400000 in
theorem need_any (b : Nat) (n : Int) (w : World) (hc : w.cell? ⟨b, 2, none⟩ = some (.int .i64 n)) :
    Calls Try.prog 13 #[.pointer (some ⟨b, 0, none⟩)] w fun e w' => e = .returned (.int .i64 n) ∧ w' = w := by
  go_enter Try.func13, Try.ntmps13
  go_wp2
  go_ret
  exact ⟨rfl, rfl⟩

set_option maxHeartbeats 400000 in
theorem leastCover_any (B C : Nat) (a : Option Addr) (cap : Nat) (hs : List ByteArray) (a2 : Option Addr) (cap2 : Nat) (names : List ByteArray) (need : Nat) (w : World) (hx : IsStrs B w a hs) (hn : IsStrs C w a2 names)
    (hl : hs.length ≤ 4096) (hl2 : names.length ≤ 4096) (h0 : need ≤ hs.length) :
    Calls Try.prog 12 #[.slice a hs.length cap, .slice a2 names.length cap2, .int .i64 need] w fun e w' => e = .returned (.int .i64 (Pl.lc hs names need hs.length)) ∧ w' = w := by
  go_enter Try.func12, Try.ntmps12
  go_wp2
  go_loop [7] (fun i => ∃ k : Nat, k ≤ hs.length ∧ i = .int .i64 ((k : Int) - 1) ∧ Hid (Pl.lc hs names need hs.length = Pl.lc hs names need k) ∧ need ≤ k) (fun i => (intOf i + 1).toNat)
  case atStart => exact ⟨hs.length, Nat.le_refl _, rfl, rfl, h0⟩
  case round =>
    obtain ⟨k, hk, rfl, HL, hnk⟩ := hrel
    by_cases hlt : need < k
    · obtain ⟨k, rfl⟩ : ∃ k', k = k' + 1 := ⟨k - 1, by omega⟩
      have hkl : k < hs.length := by omega
      obtain ⟨b, o, hix, hb, hc⟩ := hx.at k hkl
      have hg : hs.getD k ByteArray.empty = hs[k] := by simp [List.getD, List.getElem?_eq_getElem hkl]
      have hstep : Pl.lc hs names need (k + 1) = if (Pl.pos names hs[k]).isSome then k + 1 else Pl.lc hs names need k := by
        show (if need ≤ k then (if (Pl.pos names (hs.getD k ByteArray.empty)).isSome then k + 1 else Pl.lc hs names need k) else need) = _
        rw [if_pos (by omega), hg]
      obtain ⟨x, hxe⟩ : ∃ x, hs[k] = x := ⟨_, rfl⟩
      rw [hxe] at hc hstep
      have HS : Hid (Pl.lc hs names need (k + 1) = if (Pl.pos names x).isSome then k + 1 else Pl.lc hs names need k) := hstep
      clear hxe hg hstep
      have ek : ((k + 1 : Nat) : Int) - 1 = (k : Int) := by omega
      rw [ek]
      clear ek
      have hge := Pl.posI_ge names x
      have hp : (0 ≤ Pl.posI names x ∧ (Pl.pos names x).isSome = true) ∨ (Pl.posI names x < 0 ∧ (Pl.pos names x).isSome = false) := by
        unfold Pl.posI
        cases Pl.pos names x with
        | none => right; simp
        | some i => left; simp
      rcases hp with ⟨hp, hp2⟩ | ⟨hp, hp2⟩
      · have HP2 : Hid ((Pl.pos names x).isSome = true) := hp2
        clear hp2
        go_wp2_with (go_at_call 16; refine (pos_any _ _ _ names x _ hn (by unfold maxLen; omega)).mono ?_; rintro e w' ⟨rfl, rfl⟩)
        go_ret
        refine ⟨ret_int ?_, rfl⟩
        rw [HL.out, HS.out, if_pos HP2.out]; omega
      · have HP2 : Hid ((Pl.pos names x).isSome = false) := hp2
        clear hp2
        go_wp2_with (go_at_call 16; refine (pos_any _ _ _ names x _ hn (by unfold maxLen; omega)).mono ?_; rintro e w' ⟨rfl, rfl⟩)
        go_round
        case rel =>
          refine ⟨k, by omega, by go_num, ?_, by omega⟩
          show _ = _
          rw [HL.out, HS.out, HP2.out]; rfl
        case measure => simp [intOf]
    · go_wp2
      go_ret
      refine ⟨ret_int ?_, rfl⟩
      have : k = need := by omega
      subst this
      rw [HL.out]
      cases k with
      | zero => rfl
      | succ k =>
        show (_ : Int) = ((if k + 1 ≤ k then _ else k + 1 : Nat) : Int)
        rw [if_neg (by omega)]

end Go.Proofs.Qxb6616934a.Bs
