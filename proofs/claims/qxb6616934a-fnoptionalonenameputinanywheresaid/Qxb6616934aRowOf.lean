/-
  A slice of strings that the call itself makes: make, copy, a store.
-/
import Derived.Test.Qxb6616934aReader
import Derived.Deep.OwnRows
import Derived.Deep.WholeRow
import Derived.Laws.CopyOwn
namespace Go.Proofs.Qxb6616934a.Bs
open Go.RowKit Go.WideMaps Go.Maps

/-- A row of strings. -/
def rowOf (ss : List ByteArray) : Array Value := (ss.map Value.string).toArray
/-- A row of n empty strings. -/
def madeS (n : Nat) : Array Value := madeCells #[.string { data := #[] }] n

theorem rowOf_size (ss : List ByteArray) : (rowOf ss).size = ss.length := by simp [rowOf]
theorem rowOf_get (ss : List ByteArray) (j : Nat) (hj : j < ss.length) : (rowOf ss)[j]? = some (.string ss[j]) := by
  simp [rowOf, hj]
theorem rowOf_set (ss : List ByteArray) (j : Nat) (x : ByteArray) : (rowOf ss).setIfInBounds j (.string x) = rowOf (ss.set j x) := by
  simp [rowOf, List.map_set]

theorem info9 : (Try.prog.info? 9).map (fun i => (i.zero, i.size, i.bytes)) = some (some (.string { data := #[] }), 1, 16) := by kernel_rfl

theorem make_row (n : Nat) (hn : n ≤ 8192) (w : World) :
    (Instr.makeSlice 22 (.int .i64 (n : Int)) (.int .i64 (n : Int))).run Try.prog w = .ok (.slice (some ⟨w.heap.size, 0, none⟩) n n) (w.alloc (.cells (madeS n) 9)) :=
  run_make_row' 22 9 (.string { data := #[] }) 16 Try.underlying22 info9 rfl .i64 .i64 n (by omega) (by omega) w

theorem copy_made {B : Nat} {W : World} {a : Option Addr} {ss : List ByteArray} (cap : Nat) (hx : IsStrs B W a ss) (hB : B ≤ W.heap.size) (h0 : 0 < ss.length) (ty : TypeId) :
    (Builtin.copy_ #[22, 22] ty #[.slice (some ⟨W.heap.size, 0, none⟩) ss.length ss.length, .slice a ss.length cap]).run Try.prog (W.alloc (.cells (madeS ss.length) 9)) = .ok (.int .i64 (ss.length : Int)) (W.alloc (.cells (rowOf ss) 9)) := by
  obtain ⟨b, off, rfl, hb, _⟩ := hx.2 0 h0
  have hg : (W.alloc (.cells (madeS ss.length) 9)).heap[W.heap.size]? = some (.cells (madeS ss.length) 9 (0, 0)) := by
    show (W.heap.push _)[W.heap.size]? = _; simp
  have h := run_copy_row Try.prog (W.alloc (.cells (madeS ss.length) 9)) 22 22 ty 9 W.heap.size 0 ss.length ss.length ⟨b, off, none⟩ ss.length cap (madeS ss.length) 9 (ss.map Value.string)
    Try.underlying22 (by kernel_rfl) hg (by simp) (fun j v hv => by
      have hj : j < ss.length := by
        have := (List.getElem?_eq_some_iff.1 hv).1; simpa using this
      have ea : (⟨b, off, none⟩ : Addr).add j = ⟨b, off + j, none⟩ := by simp [Addr.add]
      rw [ea]
      obtain ⟨b', off', he, hb', hc⟩ := hx.2 j hj
      simp only [Option.some.injEq, Addr.mk.injEq, and_true] at he
      obtain ⟨rfl, rfl⟩ := he
      rw [World.cell?_alloc_lt _ _ _ (show b < W.heap.size by omega), hc]
      simp [hj] at hv
      rw [← hv]) (by simp [madeS, size_madeCells]) (by intro v hv; obtain ⟨s, _, rfl⟩ := List.mem_map.1 hv; rfl)
  rw [h, List.length_map]
  have hd : List.take 0 (madeS ss.length).toList ++ ss.map Value.string ++ List.drop (0 + ss.length) (madeS ss.length).toList = ss.map Value.string := by
    have : (madeS ss.length).toList.length = ss.length := by simp [madeS, size_madeCells]
    rw [List.drop_of_length_le (by omega)]; simp
  rw [hd]
  have := World.setRow_alloc_new W (madeS ss.length) (rowOf ss) 9
  unfold rowOf at this ⊢
  rw [this]
  rfl

/-- A block of the call's own that holds strings. -/
theorem own_strs {w : World} {g B : Nat} {ss : List ByteArray} {fr : Nat × Nat} (hg : w.heap[g]? = some (.cells (rowOf ss) 9 fr)) (hB : g < B) (hsz : ∀ s ∈ ss, s.size ≤ maxLen) : IsStrs B w (some ⟨g, 0, none⟩) ss := by
  refine ⟨hsz, fun j hj => ⟨g, 0, rfl, hB, ?_⟩⟩
  unfold World.cell?
  dsimp only
  rw [hg]
  simp [rowOf_get ss j hj]

/-- The contracts again, with the numbers as letters. -/
theorem index_at (B : Nat) (a : Option Addr) (cap : Nat) (hs : List ByteArray) (n bm : Nat) (w : World) (hn : hs.length = n) (hbm : w.heap.size = bm) (hx : IsStrs B w a hs) (hB : B ≤ w.heap.size) (hl : hs.length ≤ 4096) :
    Calls Try.prog 9 #[.slice a n cap] w fun e w' => Below w.heap.size w w' ∧ ((Pl.Distinct hs ∧ e = .returned (.tuple #[.map (some bm), .bool true]) ∧ IsIndex w' bm hs) ∨ (¬ Pl.Distinct hs ∧ e = .returned (.tuple #[.map none, .bool false]))) := by
  subst hn; subst hbm
  exact index_any B a cap hs w hx hB hl

theorem newReader_at (bm rb : Nat) (need : Int) (w : World) (hrb : w.heap.size = rb) :
    Calls Try.prog 10 #[.map (some bm), .int .i64 need] w fun e w' => e = .returned (.pointer (some ⟨rb, 0, none⟩)) ∧ w' = w.alloc (readerObj bm need) := by
  subst hrb
  exact newReader_any bm need w

theorem field_at (B : Nat) (rb bm : Nat) (need : Int) (hs : List ByteArray) (a : Option Addr) (cap : Nat) (rec : List ByteArray) (n : Nat) (name : ByteArray) (w : World) (hn : rec.length = n)
    (hr : IsReader w rb bm need) (hi : IsIndex w bm hs) (hx : IsStrs B w a rec) (hnm : name.size ≤ maxLen) (hfit : ∀ i, Pl.pos hs name = some i → i < rec.length) :
    Calls Try.prog 18 #[.pointer (some ⟨rb, 0, none⟩), .slice a n cap, .string name] w fun e w' => e = .returned (.string (fieldOf hs rec name)) ∧ w' = w := by
  subst hn
  exact field_any B rb bm need hs a cap rec name w hr hi hx hnm hfit

theorem IsReader.made_at (w : World) (bm rb : Nat) (need : Int) (h : w.heap.size = rb) : IsReader (w.alloc (readerObj bm need)) rb bm need := by
  subst h; exact IsReader.made w bm need

theorem IsStrs.alloc {B : Nat} {w : World} {a : Option Addr} {ss : List ByteArray} (h : IsStrs B w a ss) (hB : B ≤ w.heap.size) (o : Obj) : IsStrs B (w.alloc o) a ss := h.below ((Below.refl _ w).alloc hB o)

theorem size_alloc (w : World) (o : Obj) : (w.alloc o).heap.size = w.heap.size + 1 := by show (w.heap.push _).size = _; simp
theorem heap_new (w : World) (o : Obj) : (w.alloc o).heap[w.heap.size]? = some o := by show (w.heap.push _)[w.heap.size]? = _; simp

end Go.Proofs.Qxb6616934a.Bs
