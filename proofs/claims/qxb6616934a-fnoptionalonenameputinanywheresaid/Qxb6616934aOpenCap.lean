/-
  A slice of strings among the arguments: its length is within its capacity. Slices of it.
-/
import Derived.Test.Qxb6616934aOpen
namespace Go.Proofs.Qxb6616934a.Bs
open Go.ChangeShapes Go.WideShapes Go.ChangeAt Go.RowKit

theorem open_cap22 {H : Type} {enc : TypeId × Value → H} {W : World} {a : Option Addr} {len cap : Nat} {d : DataW H} {ps : List MemPlace}
    (h : DataW.Trod enc Try.prog W 0 (fun _ => true) true 22 (.slice a len cap) d ps) : len ≤ cap ∧ cap ≤ maxLen := by
  obtain ⟨fuel, hf⟩ := h
  rcases open_strings Try.underlying22 Try.underlying9 cells9 hf with ⟨hcs, _⟩ | ⟨x, l, c, ss, hcs, _, hl, hm, _⟩
  · simp [Value.cells] at hcs
    obtain ⟨rfl, rfl, rfl⟩ := hcs
    exact ⟨Nat.le_refl _, Nat.zero_le _⟩
  · simp [Value.cells] at hcs
    obtain ⟨rfl, rfl, rfl⟩ := hcs
    exact ⟨hl, hm⟩

/-- Where the tail 'xs[cut:]' leads. -/
def tailA (a : Option Addr) (cap cut : Nat) : Option Addr := if cap = cut then a else a.map (·.add (cut * 1))

theorem IsStrs.take {B : Nat} {w : World} {a : Option Addr} {ss : List ByteArray} (h : IsStrs B w a ss) (cut : Nat) : IsStrs B w a (ss.take cut) := by
  refine ⟨fun s hs => h.1 s (List.mem_of_mem_take hs), fun j hj => ?_⟩
  have hj' : j < ss.length := by rw [List.length_take] at hj; omega
  obtain ⟨b, off, ha, hb, hc⟩ := h.2 j hj'
  exact ⟨b, off, ha, hb, by rw [List.getElem_take]; exact hc⟩

theorem IsStrs.drop {B : Nat} {w : World} {a : Option Addr} {ss : List ByteArray} (h : IsStrs B w a ss) (cap cut : Nat) (hc : ss.length ≤ cap) : IsStrs B w (tailA a cap cut) (ss.drop cut) := by
  refine ⟨fun s hs => h.1 s (List.mem_of_mem_drop hs), fun j hj => ?_⟩
  have hj' : cut + j < ss.length := by rw [List.length_drop] at hj; omega
  obtain ⟨b, off, ha, hb, hcell⟩ := h.2 (cut + j) hj'
  refine ⟨b, off + cut, ?_, hb, ?_⟩
  · unfold tailA
    rw [if_neg (by omega), ha]
    simp only [Option.map_some, Nat.mul_one, Option.some.injEq]
    simp [Addr.add]
  · rw [List.getElem_drop, Nat.add_assoc]; exact hcell

theorem slice_head (a : Option Addr) (len cap cut : Nat) (hc : cut ≤ cap) (w : World) :
    (Instr.slice 22 (.slice a len cap) none (some (.int .i64 (cut : Int))) none).run Try.prog w = .ok (.slice a cut cap) w := by
  rw [run_slice_h w 22 a len cap (by rw [elem22]; exact Try.underlying22) .i64 (cut : Int) (by omega) (by omega), elem22, size9]
  simp only [sliced, Result.andThen, Int.toNat_natCast, Nat.sub_zero, Nat.zero_mul]
  have e : (if cap = 0 then a else a.map (·.add 0)) = a := by
    by_cases h : cap = 0
    · rw [if_pos h]
    · rw [if_neg h]; cases a <;> simp [Addr.add]
  rw [e]

theorem slice_tail (a : Option Addr) (len cap cut : Nat) (hc : cut ≤ len) (w : World) :
    (Instr.slice 22 (.slice a len cap) (some (.int .i64 (cut : Int))) none none).run Try.prog w = .ok (.slice (tailA a cap cut) (len - cut) (cap - cut)) w := by
  rw [run_slice_l w 22 a len cap (by rw [elem22]; exact Try.underlying22) .i64 (cut : Int) (by omega) (by omega), elem22, size9]
  simp [sliced, Result.andThen, tailA]

end Go.Proofs.Qxb6616934a.Bs
