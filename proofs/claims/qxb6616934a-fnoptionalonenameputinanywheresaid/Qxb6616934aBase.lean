/-
  What the walks are told of a slice of strings and of the column map; the laws at the operations.
-/
import Derived.Test.Qxb6616934aRows
import Derived.Test.Qxb6616934aPlain
import Derived.WalkKit
import Derived.WalkLawsBesides
import Derived.Maps.OwnSet
namespace Go.Proofs.Qxb6616934a.Bs
open Go.RowKit Go.WideMaps Go.Maps

/-- A slice of strings: where there is an element, the slice leads to a row of cells in a block below B. -/
def IsStrs (B : Nat) (w : World) (a : Option Addr) (ss : List ByteArray) : Prop :=
  (∀ s ∈ ss, s.size ≤ maxLen) ∧ ∀ j (h : j < ss.length), ∃ b off, a = some ⟨b, off, none⟩ ∧ b < B ∧ w.cell? ⟨b, off + j, none⟩ = some (.string ss[j])

theorem IsStrs.below {B : Nat} {w w' : World} {a : Option Addr} {ss : List ByteArray} (h : IsStrs B w a ss) (hb : Below B w w') : IsStrs B w' a ss := by
  refine ⟨h.1, fun j hj => ?_⟩
  obtain ⟨b, off, ha, hlt, hc⟩ := h.2 j hj
  exact ⟨b, off, ha, hlt, by rw [hb.cell (p := ⟨b, off + j, none⟩) hlt]; exact hc⟩

theorem IsStrs.size {B : Nat} {w : World} {a : Option Addr} {ss : List ByteArray} (h : IsStrs B w a ss) (j : Nat) (hj : j < ss.length) : ss[j].size ≤ 9223372036854775807 := by
  have := h.1 _ (List.getElem_mem hj); unfold maxLen at this; omega

theorem elem22 : Try.prog.elem 22 = 9 := by kernel_rfl
theorem size9 (w : World) : (sizeOf 9).run Try.prog w = .ok 1 w := by kernel_rfl

/-- At an index: one address, whatever the world; its cell. -/
theorem IsStrs.at {B : Nat} {w : World} {a : Option Addr} {ss : List ByteArray} (h : IsStrs B w a ss) (j : Nat) (hj : j < ss.length) :
    ∃ b o, (∀ cap wx, (Instr.indexAt 22 (.slice a ss.length cap) (.int .i64 (j : Int))).run Try.prog wx = .ok (.pointer (some ⟨b, o, none⟩)) wx) ∧ b < B ∧ w.cell? ⟨b, o, none⟩ = some (.string ss[j]) := by
  obtain ⟨b, off, rfl, hlt, hc⟩ := h.2 j hj
  refine ⟨b, off + j, fun cap wx => ?_, hlt, hc⟩
  rw [run_indexAt_slice wx 22 ⟨b, off, none⟩ ss.length cap .i64 (j : Int) (by rw [elem22]; exact Try.underlying22), if_pos ⟨by omega, by omega⟩, elem22, size9]
  simp [Result.andThen, Addr.add]

set_option maxHeartbeats 400000 in
theorem pos_any (B : Nat) (a : Option Addr) (cap : Nat) (xs : List ByteArray) (s : ByteArray) (w : World) (hx : IsStrs B w a xs) (hl : xs.length ≤ maxLen) :
    Calls Try.prog 16 #[.slice a xs.length cap, .string s] w fun e w' => e = .returned (.int .i64 (Pl.posI xs s)) ∧ w' = w := by
  unfold maxLen at hl
  go_enter Try.func16, Try.ntmps16
  go_wp2
  go_loop [5] (fun i => ∃ k : Nat, k ≤ xs.length ∧ i = .int .i64 k ∧ Hid (∀ j (hj : j < xs.length), j < k → xs[j] ≠ s)) (fun i => xs.length - (intOf i).toNat)
  case atStart => exact ⟨0, Nat.zero_le _, rfl, fun j _ h => by omega⟩
  case round =>
    obtain ⟨k, hk, rfl, hno⟩ := hrel
    by_cases hlt : k < xs.length
    · obtain ⟨b, o, hix, hb, hc⟩ := hx.at k hlt
      obtain ⟨x, hxe⟩ : ∃ x, xs[k] = x := ⟨_, rfl⟩
      rw [hxe] at hc
      have HX : Hid (xs[k] = x) := hxe
      clear hxe
      cases he : (x.toList == s.toList)
      · go_wp2
        go_round
        case rel =>
          refine ⟨k + 1, by omega, by go_num, fun j hj h => ?_⟩
          by_cases e : j = k
          · subst e; rw [HX.out]; intro e; rw [e] at he; simp at he
          · exact hno.out j hj (by omega)
        case measure => simp [intOf]; omega
      · go_wp2
        go_ret
        refine ⟨?_, rfl⟩
        rw [Pl.posI_hit hlt (by rw [HX.out]; exact Pl.toList_inj.1 (by simpa using he)) (fun j hj => hno.out j (by omega) hj)]
        rfl
    · go_wp2
      go_ret
      refine ⟨?_, rfl⟩
      rw [Pl.posI_miss (fun j hj => hno.out j hj (by omega))]
      rfl

end Go.Proofs.Qxb6616934a.Bs
