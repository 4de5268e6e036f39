/-
  The Reader behind a pointer; the contracts of Optional and Field.
-/
import Derived.Test.Qxb6616934aIndex
namespace Go.Proofs.Qxb6616934a.Bs
open Go.RowKit Go.WideMaps Go.Maps

theorem grown_setCell (w : World) (a : Addr) (u : Value) : w.grownBy (w.setCell a u) (some a.block) :=
  ⟨rfl, rfl, rfl, by simp [World.setCell], fun i _ hi => Below.heap_setCell w a u i (fun e => hi (by rw [e]))⟩

theorem grown_refl (w : World) (row : Option Nat) : w.grownBy w row := ⟨rfl, rfl, rfl, Nat.le_refl _, fun _ _ _ => rfl⟩

theorem grown_trans {a b c : World} {row : Option Nat} (h : a.grownBy b row) (k : b.grownBy c row) : a.grownBy c row :=
  ⟨k.os.trans h.os, k.tape.trans h.tape, k.output.trans h.output, Nat.le_trans h.size k.size, fun i hi hne => (k.block i (Nat.lt_of_lt_of_le hi h.size) hne).trans (h.block i hi hne)⟩

/-- Block rb is a Reader with the map bm and the number need. -/
structure IsReader (w : World) (rb bm : Nat) (need : Int) : Prop where
  col : w.cell? ⟨rb, 1, none⟩ = some (.map (some bm))
  num : w.cell? ⟨rb, 2, none⟩ = some (.int .i64 need)
  free : w.frozen? ⟨rb, 2, none⟩ = false

theorem IsReader.made (w : World) (bm : Nat) (need : Int) : IsReader (w.alloc (readerObj bm need)) w.heap.size bm need := by
  have hh : (w.alloc (readerObj bm need)).heap[w.heap.size]? = some (readerObj bm need) := by
    show (w.heap.push _)[w.heap.size]? = _; simp
  refine ⟨?_, ?_, ?_⟩
  · unfold World.cell?; dsimp only; rw [hh]; rfl
  · unfold World.cell?; dsimp only; rw [hh]; rfl
  · unfold World.frozen?; dsimp only; rw [hh]; rfl

theorem IsReader.lt {w : World} {rb bm : Nat} {need : Int} (h : IsReader w rb bm need) : rb < w.heap.size := by
  have := h.num
  unfold World.cell? at this
  by_cases c : rb < w.heap.size
  · exact c
  · rw [Array.getElem?_eq_none (by simpa using c)] at this; cases this

theorem IsReader.block {w w' : World} {rb bm : Nat} {need : Int} (h : IsReader w rb bm need) (hb : w'.heap[rb]? = w.heap[rb]?) : IsReader w' rb bm need :=
  ⟨(World.cell?_of_block (w := w) hb).trans h.col, (World.cell?_of_block (w := w) hb).trans h.num, (World.frozen?_of_block (w := w) hb).trans h.free⟩

theorem IsReader.below {w w' : World} {rb bm : Nat} {need : Int} (h : IsReader w rb bm need) (hb : Below w.heap.size w w') : IsReader w' rb bm need := h.block (hb.block rb h.lt)

theorem IsReader.grown {w w' : World} {rb bm : Nat} {need : Int} {row : Option Nat} (h : IsReader w rb bm need) (hg : w.grownBy w' row) (hne : some rb ≠ row) : IsReader w' rb bm need := h.block (hg.block rb h.lt hne)

theorem IsReader.set {w : World} {rb bm : Nat} {need : Int} (h : IsReader w rb bm need) (n : Int) : IsReader (w.setCell ⟨rb, 2, none⟩ (.int .i64 n)) rb bm n := by
  refine ⟨?_, World.cell?_setCell_same w _ _ h.num, ?_⟩
  · have hq : (⟨rb, 2, none⟩ : Addr) ≠ ⟨rb, 1, none⟩ := by simp
    exact (World.cell?_setCell_other w _ _ _ hq).trans h.col
  · rw [World.frozen?_setCell]; exact h.free

/-- The map's block is no Reader. -/
theorem index_ne {w : World} {rb bm bm' : Nat} {need : Int} {hs : List ByteArray} (h : IsReader w rb bm need) (k : IsIndex w bm' hs) : bm' ≠ rb := by
  intro e
  subst e
  obtain ⟨n, D, ⟨es, clock, h1, _⟩, _⟩ := k
  have := h.num
  simp [World.cell?, h1] at this

theorem IsIndex.grown {w w' : World} {bm : Nat} {hs : List ByteArray} {row : Option Nat} (h : IsIndex w bm hs) (hg : w.grownBy w' row) (hne : some bm ≠ row) : IsIndex w' bm hs := h.block (hg.block bm h.lt hne)

theorem IsStrs.grown {B : Nat} {w w' : World} {a : Option Addr} {ss : List ByteArray} {rb : Nat} (h : IsStrs B w a ss) (hg : w.grownBy w' (some rb)) (hB : B ≤ rb) (hw : B ≤ w.heap.size) : IsStrs B w' a ss := by
  refine h.below ⟨hg.os, hg.tape, hg.output, hg.size, fun k hk => hg.block k (by omega) (fun e => by injection e with e; omega)⟩

theorem opt_take_succ {hs names : List ByteArray} {need k : Nat} (hk : k < names.length) :
    Pl.optN hs (names.take (k + 1)) need = match Pl.pos hs names[k] with | some i => max (Pl.optN hs (names.take k) need) (i + 1) | none => Pl.optN hs (names.take k) need := by
  rw [take_snoc hk, Pl.optN_snoc]
  cases Pl.pos hs names[k] <;> rfl

set_option maxHeartbeats 400000 in
theorem optional_any (B : Nat) (rb bm need : Nat) (hs : List ByteArray) (a : Option Addr) (cap : Nat) (names : List ByteArray) (w : World)
    (hr : IsReader w rb bm need) (hi : IsIndex w bm hs) (hx : IsStrs B w a names) (hB : B ≤ rb) (hl : names.length ≤ 8192) (hl2 : hs.length ≤ 4096) (hn : need ≤ hs.length) :
    Calls Try.prog 11 #[.pointer (some ⟨rb, 0, none⟩), .slice a names.length cap] w fun e w' => e = .returned (.tuple #[]) ∧ w.grownBy w' (some rb) ∧ IsReader w' rb bm (Pl.optN hs names need) := by
  have hne := index_ne hr hi
  have hlt := hr.lt
  go_enter Try.func11, Try.ntmps11
  go_wp2
  go_loopw [10] (fun i wr => ∃ k : Nat, k ≤ names.length ∧ i = .int .i64 k ∧ w.grownBy wr (some rb) ∧ IsReader wr rb bm (Pl.optN hs (names.take k) need)) (fun i _ => names.length - (intOf i).toNat)
  case atStart => exact ⟨0, Nat.zero_le _, rfl, grown_refl _ _, hr⟩
  case round =>
    obtain ⟨k, hk, rfl, hg, hrr⟩ := hrel
    by_cases hlt : k < names.length
    · obtain ⟨b, o, hix, hb, hc⟩ := (hx.grown hg hB (by omega)).at k hlt
      have hsz := hx.1 _ (List.getElem_mem hlt)
      have hlk := (hi.grown hg (by intro e; injection e with e; exact hne e)).look names[k] hsz
      have hst := opt_take_succ (hs := hs) (need := need) hlt
      have hle := Pl.opt_le hs (names.take k) need hn
      obtain ⟨c1, c2, f2⟩ := id hrr
      obtain ⟨m, hm⟩ : ∃ m, Pl.optN hs (names.take k) need = m := ⟨_, rfl⟩
      rw [hm] at hst hle c2 hrr
      clear hm
      cases hp : Pl.pos hs names[k] with
      | none =>
        rw [hp] at hlk hst
        simp only [Option.getD_none, Option.isSome_none] at hlk hst
        have HS : Hid (Pl.optN hs (names.take (k + 1)) need = m) := hst
        clear hp hst
        obtain ⟨x, hxe⟩ : ∃ x, names[k] = x := ⟨_, rfl⟩
        rw [hxe] at hc hlk
        clear hxe hsz
        go_wp2
        go_roundw
        case rel => exact ⟨k + 1, by omega, by go_num, hg, by rw [HS.out]; exact hrr⟩
        case measure => simp [intOf]; omega
      | some i =>
        obtain ⟨hi1, _⟩ := Pl.pos_some.1 hp
        rw [hp] at hlk hst
        simp only [Option.getD_some, Option.isSome_some] at hlk hst
        have HS : Hid (Pl.optN hs (names.take (k + 1)) need = max m (i + 1)) := hst
        clear hp hst
        obtain ⟨x, hxe⟩ : ∃ x, names[k] = x := ⟨_, rfl⟩
        rw [hxe] at hc hlk
        clear hxe hsz
        by_cases hmx : m < i + 1
        · go_wp2
          go_roundw
          case rel =>
            refine ⟨k + 1, by omega, by go_num, grown_trans hg (grown_setCell _ _ _), ?_⟩
            rw [HS.out, show max m (i + 1) = i + 1 from by omega]
            exact hrr.set _
          case measure => simp [intOf]; omega
        · go_wp2
          go_roundw
          case rel =>
            refine ⟨k + 1, by omega, by go_num, grown_trans hg (grown_setCell _ _ _), ?_⟩
            rw [HS.out, show max m (i + 1) = m from by omega]
            exact hrr.set _
          case measure => simp [intOf]; omega
    · have hke : k = names.length := by omega
      subst hke
      go_wp2
      go_end0
      refine ⟨rfl, hg, ?_⟩
      rwa [List.take_length] at hrr

/-- What Field answers. -/
def fieldOf (hs rec : List ByteArray) (name : ByteArray) : ByteArray := match Pl.pos hs name with | some i => rec.getD i ByteArray.empty | none => { data := #[] }

set_option maxHeartbeats 400000 in
theorem field_any (B : Nat) (rb bm : Nat) (need : Int) (hs : List ByteArray) (a : Option Addr) (cap : Nat) (rec : List ByteArray) (name : ByteArray) (w : World)
    (hr : IsReader w rb bm need) (hi : IsIndex w bm hs) (hx : IsStrs B w a rec) (hnm : name.size ≤ maxLen) (hfit : ∀ i, Pl.pos hs name = some i → i < rec.length) :
    Calls Try.prog 18 #[.pointer (some ⟨rb, 0, none⟩), .slice a rec.length cap, .string name] w fun e w' => e = .returned (.string (fieldOf hs rec name)) ∧ w' = w := by
  obtain ⟨c1, c2, f2⟩ := hr
  have hlk := hi.look name hnm
  unfold fieldOf
  cases hp : Pl.pos hs name with
  | none =>
    rw [hp] at hlk
    simp only [Option.getD_none, Option.isSome_none] at hlk
    clear hp hfit
    go_enter Try.func18, Try.ntmps18
    go_wp2
    go_ret
    exact ⟨rfl, rfl⟩
  | some i =>
    have hir := hfit i hp
    rw [hp] at hlk
    simp only [Option.getD_some, Option.isSome_some] at hlk
    obtain ⟨b, o, hix, hb, hc⟩ := hx.at i hir
    have hg : rec.getD i ByteArray.empty = rec[i] := by simp [List.getD, List.getElem?_eq_getElem hir]
    dsimp only
    rw [hg]
    obtain ⟨x, hxe⟩ : ∃ x, rec[i] = x := ⟨_, rfl⟩
    rw [hxe] at hc ⊢
    clear hp hfit hg hxe
    go_enter Try.func18, Try.ntmps18
    go_wp2
    go_ret
    exact ⟨rfl, rfl⟩

end Go.Proofs.Qxb6616934a.Bs
