/-
  FnFieldReadsItsHeaderColumnBeforeAndAfterOptional: her walk.
-/
import Derived.Test.Qxb6616934aRowOf
import Derived.Test.Qxb6616934aBytes17
namespace Go.Proofs.Qxb6616934a.fnFieldReadsItsHeaderColumnBeforeAndAfterOptional
open Go.RowKit Go.WideMaps Go.Maps
open Go.Proofs.Qxb6616934a.Bs

set_option maxRecDepth 100000 in
set_option maxHeartbeats 4000000 in
theorem walk_in (a0 : Option Addr) (cap0 : Nat) (hs : List ByteArray) (need : Nat) (a2 : Option Addr) (cap2 : Nat) (rec : List ByteArray) (name : ByteArray) (a4 : Option Addr) (cap4 : Nat) (opt : List ByteArray) (w : World)
    (w0 : IsStrs w.heap.size w a0 hs) (w2 : IsStrs w.heap.size w a2 rec) (w3 : name.size ≤ maxLen) (w4 : IsStrs w.heap.size w a4 opt)
    (hl0 : hs.length ≤ 4096) (hl2 : rec.length ≤ 4096) (hl4 : opt.length ≤ 4096) (hn : need ≤ hs.length) :
    Calls Try.prog 5 #[.slice a0 hs.length cap0, .int .i64 need, .slice a2 rec.length cap2, .string name, .slice a4 opt.length cap4] w fun e w' => e = .returned (.bool true) ∧ Below w.heap.size w w' := by
  have m0 : hs.length ≤ maxLen := by unfold maxLen; omega
  have m2 : rec.length ≤ maxLen := by unfold maxLen; omega
  have m4 : opt.length ≤ maxLen := by unfold maxLen; omega
  go_enter Try.func5, Try.ntmps5
  go_wp2_with fail
  refine (bytes17 _ _ hs _ _ _ rec name _ _ opt _ _ w0 m0 _ w2 m2 w3 _ w4 m4).mono ?_
  rintro e w' ⟨⟨b, rfl⟩, hw⟩
  have hw2 := hw.symm; subst hw2; clear hw
  cases b
  · go_wp2
    go_ret
    exact ⟨rfl, Below.refl _ _⟩
  go_wp2_with fail
  refine (addStrings_any _ _ _ _ hs _ w0 m0 (by omega) (by omega)).mono ?_
  rintro e w' ⟨r1, rfl, hr1, hr1', hw⟩
  have hw2 := hw.symm; subst hw2; clear hw
  by_cases hm1 : 1048576 < r1
  · go_wp2
    go_ret
    exact ⟨rfl, Below.refl _ _⟩
  go_wp2_with fail
  refine (addStrings_any _ _ _ _ rec _ w2 m2 (by omega) (by omega)).mono ?_
  rintro e w' ⟨r2, rfl, hr2, hr2', hw⟩
  have hw2 := hw.symm; subst hw2; clear hw
  by_cases hm2 : 1048576 < r2
  · go_wp2
    go_ret
    exact ⟨rfl, Below.refl _ _⟩
  go_wp2_with fail
  refine (addStrings_any _ _ _ _ opt _ w4 m4 (by omega) (by omega)).mono ?_
  rintro e w' ⟨r3, rfl, hr3, hr3', hw⟩
  have hw2 := hw.symm; subst hw2; clear hw
  by_cases hm3 : 1048576 < r3
  · go_wp2
    go_ret
    exact ⟨rfl, Below.refl _ _⟩
  go_wp2_with fail
  refine (addString_any _ name _ w3 (by omega) (by omega)).mono ?_
  rintro e w' ⟨r4, rfl, hr4, hr4', hw⟩
  have hw2 := hw.symm; subst hw2; clear hw
  by_cases hm4 : 1048576 < r4
  · go_wp2
    go_ret
    exact ⟨rfl, Below.refl _ _⟩
  go_wp2_with fail
  refine (index_any _ _ _ hs _ w0 (Nat.le_refl _) hl0).mono ?_
  rintro e w1 ⟨hb1, ⟨hd, rfl, hix1⟩ | ⟨hnd, rfl⟩⟩
  case inr =>
    clear hnd
    go_wp2
    go_ret
    exact ⟨rfl, hb1⟩
  have w01 := w0.below hb1
  have w21 := w2.below hb1
  have w41 := w4.below hb1
  have hz1 := hb1.size
  have hzi := hix1.lt
  go_wp2_with fail
  refine (pos_any _ _ _ hs name _ w01 m0).mono ?_
  rintro e w' ⟨rfl, hw⟩
  have hw2 := hw.symm; subst hw2; clear hw
  have hge := Pl.posI_ge hs name
  obtain ⟨j, hje⟩ : ∃ j, Pl.posI hs name = j := ⟨_, rfl⟩
  rw [hje] at hge ⊢
  have HJ : Hid (Pl.posI hs name = j) := hje
  clear hje
  by_cases hj : (rec.length : Int) ≤ j
  · go_wp2
    go_ret
    exact ⟨rfl, hb1⟩
  have hfit : ∀ m, Pl.pos hs name = some m → m < rec.length := by
    intro m hm
    have := HJ.out
    unfold Pl.posI at this
    rw [hm] at this
    dsimp only at this
    omega
  have nA : some w.heap.size ≠ some w1.heap.size := by intro e; injection e with e; omega
  have hs4 : w.heap.size ≤ (w1.alloc (readerObj w.heap.size (need : Int))).heap.size := by rw [size_alloc]; omega
  cases hp : Pl.pos hs name with
  | none =>
    have hj1 : j = -1 := by
      have := HJ.out; unfold Pl.posI at this; rw [hp] at this; exact this.symm
    have hwant : fieldOf hs rec name = { data := #[] } := by unfold fieldOf; rw [hp]
    clear HJ
    subst hj1
    go_wp2_with fail
    refine (newReader_any _ _ _).mono ?_
    rintro e w4 ⟨rfl, rfl⟩
    go_wp2_with fail
    refine (field_any w.heap.size w1.heap.size w.heap.size _ hs _ _ rec name _ (IsReader.made _ _ _) (hix1.alloc _) (w21.alloc hz1 _) w3 hfit).mono ?_
    rintro e w5 ⟨rfl, hw⟩
    subst hw
    rw [hwant]
    go_wp2_with fail
    refine (optional_any w.heap.size w1.heap.size w.heap.size need hs _ _ opt _ (IsReader.made _ _ _) (hix1.alloc _) (w41.alloc hz1 _) hz1 (by omega) hl0 hn).mono ?_
    rintro e w6 ⟨rfl, hg6, hr6⟩
    have i6 := (hix1.alloc (readerObj w.heap.size (need : Int))).grown hg6 nA
    have w26 := (w21.alloc hz1 (readerObj w.heap.size (need : Int))).grown hg6 hz1 hs4
    have B6 : Below w.heap.size w w6 := (hb1.alloc hz1 (readerObj w.heap.size (need : Int))).grown hg6 hs4 (fun k hk => by injection hk with hk; omega)
    go_wp2_with fail
    refine (field_any w.heap.size w1.heap.size w.heap.size _ hs _ _ rec name _ hr6 i6 w26 w3 hfit).mono ?_
    rintro e w7 ⟨rfl, hw⟩
    subst hw
    rw [hwant]
    go_wp2
    go_ret
    exact ⟨rfl, B6⟩
  | some m =>
    have hm := hfit m hp
    have hj1 : j = (m : Int) := by
      have := HJ.out; unfold Pl.posI at this; rw [hp] at this; exact this.symm
    have hwant : fieldOf hs rec name = rec[m] := by unfold fieldOf; rw [hp]; simp [List.getD, List.getElem?_eq_getElem hm]
    obtain ⟨b, o, hix, hb, hc⟩ := w21.at m hm
    obtain ⟨x, hx⟩ : ∃ x, rec[m] = x := ⟨_, rfl⟩
    rw [hx] at hwant hc
    clear hx
    clear HJ
    subst hj1
    go_wp2_with fail
    refine (newReader_any _ _ _).mono ?_
    rintro e w4 ⟨rfl, rfl⟩
    go_wp2_with fail
    refine (field_any w.heap.size w1.heap.size w.heap.size _ hs _ _ rec name _ (IsReader.made _ _ _) (hix1.alloc _) (w21.alloc hz1 _) w3 hfit).mono ?_
    rintro e w5 ⟨rfl, hw⟩
    subst hw
    rw [hwant]
    go_wp2_with fail
    refine (optional_any w.heap.size w1.heap.size w.heap.size need hs _ _ opt _ (IsReader.made _ _ _) (hix1.alloc _) (w41.alloc hz1 _) hz1 (by omega) hl0 hn).mono ?_
    rintro e w6 ⟨rfl, hg6, hr6⟩
    have i6 := (hix1.alloc (readerObj w.heap.size (need : Int))).grown hg6 nA
    have w26 := (w21.alloc hz1 (readerObj w.heap.size (need : Int))).grown hg6 hz1 hs4
    have B6 : Below w.heap.size w w6 := (hb1.alloc hz1 (readerObj w.heap.size (need : Int))).grown hg6 hs4 (fun k hk => by injection hk with hk; omega)
    go_wp2_with fail
    refine (field_any w.heap.size w1.heap.size w.heap.size _ hs _ _ rec name _ hr6 i6 w26 w3 hfit).mono ?_
    rintro e w7 ⟨rfl, hw⟩
    subst hw
    rw [hwant]
    go_wp2
    go_ret
    exact ⟨rfl, B6⟩

end Go.Proofs.Qxb6616934a.fnFieldReadsItsHeaderColumnBeforeAndAfterOptional
