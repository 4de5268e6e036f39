/-
  A slice of strings that the call makes with room to spare: make, append.
-/
import Derived.Test.Qxb6616934aRowOf
import Derived.Test.Qxb6616934aOpenCap
import Derived.Deep.AppendSrc
import Derived.Lib.SlFresh
namespace Go.Proofs.Qxb6616934a.Bs
open Go.RowKit Go.WideMaps Go.Maps

/-- Block g has cap cells that may be written; the first hold the strings ss. -/
structure Room (w : World) (g cap : Nat) (ss : List ByteArray) : Prop where
  there : ∀ j, j < cap → (w.cell? ⟨g, j, none⟩).isSome = true
  free : ∀ j, w.frozen? ⟨g, j, none⟩ = false
  held : ∀ j (h : j < ss.length), w.cell? ⟨g, j, none⟩ = some (.string ss[j])

theorem make_room (n : Nat) (hn : n ≤ 8192) (w : World) :
    (Instr.makeSlice 22 (.int .i64 0) (.int .i64 ((n : Int) + 1))).run Try.prog w = .ok (.slice (some ⟨w.heap.size, 0, none⟩) 0 (n + 1)) (w.alloc (.cells (madeS (n + 1)) 9)) := by
  obtain ⟨i, hi, hz0, hz1, hz2⟩ := info_parts info9
  have h := run_make (P := Try.prog) w 22 9 i (.string { data := #[] }) Try.underlying22 hi hz0 .i64 .i64 0 ((n : Int) + 1) (by omega) (by omega) (by rw [hz2]; omega) (by omega)
  have e : ((n : Int) + 1).toNat = n + 1 := by omega
  rw [e, hz1, Nat.mul_one] at h
  exact h

theorem room_made (w : World) (n : Nat) : Room (w.alloc (.cells (madeS n) 9)) w.heap.size n [] := by
  have hh := heap_new w (.cells (madeS n) 9)
  refine ⟨fun j hj => ?_, fun j => ?_, fun j hj => by simp at hj⟩
  · unfold World.cell?
    dsimp only
    rw [hh]
    have : j < (madeS n).size := by simp [madeS, size_madeCells, hj]
    simp [this]
  · unfold World.frozen?
    dsimp only
    rw [hh]
    simp

theorem Room.block {w w' : World} {g cap : Nat} {ss : List ByteArray} (h : Room w g cap ss) (hb : w'.heap[g]? = w.heap[g]?) : Room w' g cap ss :=
  ⟨fun j hj => by rw [World.cell?_of_block (w := w) (a := ⟨g, j, none⟩) hb]; exact h.there j hj, fun j => by rw [World.frozen?_of_block (w := w) (a := ⟨g, j, none⟩) hb]; exact h.free j, fun j hj => by rw [World.cell?_of_block (w := w) (a := ⟨g, j, none⟩) hb]; exact h.held j hj⟩

/-- What a slice of strings yields to an append. -/
theorem src_strs {B : Nat} {w : World} {a : Option Addr} {ss : List ByteArray} (h : IsStrs B w a ss) (cap : Nat) : Src Try.prog 1 22 (.slice a ss.length cap) ss.length (ss.map Value.string) w := by
  by_cases h0 : 0 < ss.length
  · obtain ⟨b, off, rfl, _, _⟩ := h.2 0 h0
    refine Src.ofSlice w Try.underlying22 ⟨b, off, none⟩ ss.length cap _ (by simp) (fun j v hv => ?_) (by intro v hv; obtain ⟨s, _, rfl⟩ := List.mem_map.1 hv; rfl)
    have hj : j < ss.length := by
      have := (List.getElem?_eq_some_iff.1 hv).1; simpa using this
    obtain ⟨b', off', he, hb', hc⟩ := h.2 j hj
    simp only [Option.some.injEq, Addr.mk.injEq, and_true] at he
    obtain ⟨rfl, rfl⟩ := he
    have ea : (⟨b, off, none⟩ : Addr).add j = ⟨b, off + j, none⟩ := by simp [Addr.add]
    rw [ea, hc]
    simp [hj] at hv
    rw [← hv]
  · obtain rfl : ss = [] := List.eq_nil_of_length_eq_zero (by omega)
    cases a with
    | none => exact Src.ofNil w Try.underlying22 cap
    | some ad => exact Src.ofSlice w Try.underlying22 ad 0 cap [] (by simp) (fun j v hv => by simp at hv) (by intro v hv; simp at hv)

theorem size_setCells (b : Nat) : ∀ (vs : List Value) (o : Nat) (w : World), (w.setCells b o vs).heap.size = w.heap.size
  | [], _, _ => rfl
  | v :: r, o, w => by
    show ((w.setCell ⟨b, o, none⟩ v).setCells b (o + 1) r).heap.size = _
    rw [size_setCells b r (o + 1)]
    simp [World.setCell]

theorem grown_setCells (b : Nat) : ∀ (vs : List Value) (o : Nat) (w : World), w.grownBy (w.setCells b o vs) (some b)
  | [], _, w => grown_refl w _
  | v :: r, o, w => grown_trans (grown_setCell w ⟨b, o, none⟩ v) (grown_setCells b r (o + 1) _)

/-- 'append(more, x...)' where there is room. -/
theorem append_room {w : World} {g cap : Nat} {ss news : List ByteArray} {x : Value} (h : Room w g cap ss) (hs : Src Try.prog 1 22 x news.length (news.map Value.string) w) (hroom : ss.length + news.length ≤ cap) :
    ∃ w', (∀ ty, (Builtin.append_ #[22, 22] ty #[.slice (some ⟨g, 0, none⟩) ss.length cap, x]).run Try.prog w = .ok (.slice (some ⟨g, 0, none⟩) (ss.length + news.length) cap) w') ∧ Room w' g cap (ss ++ news) ∧ w.grownBy w' (some g) := by
  obtain ⟨i, hi, hz0, hz1, hz2⟩ := info_parts info9
  have hth : ∀ j, j < (news.map Value.string).length → (w.cell? ⟨g, ss.length + j, none⟩).isSome = true := fun j hj => h.there _ (by simp at hj; omega)
  refine ⟨w.setCells g ss.length (news.map Value.string), fun ty => ?_, ⟨fun j hj => ?_, fun j => ?_, fun j hj => ?_⟩, grown_setCells _ _ _ _⟩
  · have := run_append_room_src (P := Try.prog) w 22 22 ty 9 i Try.underlying22 hi g 0 ss.length cap x news.length (news.map Value.string) (by rw [hz1]; exact hs) hroom
      (fun j hj => by rw [hz1, Nat.mul_one, Nat.zero_add]; exact hth j hj) (fun j _ => h.free _)
    rw [hz1, Nat.mul_one, Nat.zero_add] at this
    exact this
  · by_cases c : ss.length ≤ j ∧ j < ss.length + news.length
    · have := World.cell?_setCells_in g (news.map Value.string) ss.length w hth (j - ss.length) (by simp; omega)
      rw [show ss.length + (j - ss.length) = j from by omega] at this
      rw [this]; rfl
    · rw [World.cell?_setCells_out g (news.map Value.string) ss.length w ⟨g, j, none⟩ (fun _ _ => by simp; omega)]
      exact h.there j hj
  · rw [World.frozen?_setCells]; exact h.free j
  · by_cases c : j < ss.length
    · rw [World.cell?_setCells_out g (news.map Value.string) ss.length w ⟨g, j, none⟩ (fun _ _ => Or.inl c), List.getElem_append_left c]
      exact h.held j c
    · have hj' : j < ss.length + news.length := by simpa using hj
      have := World.cell?_setCells_in g (news.map Value.string) ss.length w hth (j - ss.length) (by simp; omega)
      rw [show ss.length + (j - ss.length) = j from by omega] at this
      rw [this, List.getElem_append_right (by omega)]
      simp

theorem Room.strs {w : World} {g cap B : Nat} {ss : List ByteArray} (h : Room w g cap ss) (hB : g < B) (hsz : ∀ s ∈ ss, s.size ≤ maxLen) : IsStrs B w (some ⟨g, 0, none⟩) ss :=
  ⟨hsz, fun j hj => ⟨g, 0, rfl, hB, by rw [Nat.zero_add]; exact h.held j hj⟩⟩

end Go.Proofs.Qxb6616934a.Bs
