/-
  FnOptionalSplitAtAnyCutRaisesNeedToLastNamedColumn: her walk.
-/
import Derived.Test.Qxb6616934aRowOf
import Derived.Test.Qxb6616934aOpenCap
import Derived.Test.Qxb6616934aBytes7
namespace Go.Proofs.Qxb6616934a.fnOptionalSplitAtAnyCutRaisesNeedToLastNamedColumn
open Go.RowKit Go.WideMaps Go.Maps
open Go.Proofs.Qxb6616934a.Bs

theorem optional_at (B : Nat) (rb bm need : Nat) (hs : List ByteArray) (a : Option Addr) (cap : Nat) (names : List ByteArray) (n : Nat) (w : World) (hn0 : names.length = n)
    (hr : IsReader w rb bm need) (hi : IsIndex w bm hs) (hx : IsStrs B w a names) (hB : B ≤ rb) (hl : names.length ≤ 8192) (hl2 : hs.length ≤ 4096) (hn : need ≤ hs.length) :
    Calls Try.prog 11 #[.pointer (some ⟨rb, 0, none⟩), .slice a n cap] w fun e w' => e = .returned (.tuple #[]) ∧ w.grownBy w' (some rb) ∧ IsReader w' rb bm (Pl.optN hs names need) := by
  subst hn0
  exact optional_any B rb bm need hs a cap names w hr hi hx hB hl hl2 hn

set_option maxRecDepth 100000 in
set_option maxHeartbeats 4000000 in
theorem walk_in (a0 : Option Addr) (cap0 : Nat) (hs : List ByteArray) (need : Nat) (a2 : Option Addr) (cap2 : Nat) (names : List ByteArray) (cut : Nat) (w : World)
    (w0 : IsStrs w.heap.size w a0 hs) (w2 : IsStrs w.heap.size w a2 names) (hcap : names.length ≤ cap2)
    (hl0 : hs.length ≤ 4096) (hl2 : names.length ≤ 4096) (hn : need ≤ hs.length) (hc : cut ≤ names.length) :
    Calls Try.prog 3 #[.slice a0 hs.length cap0, .int .i64 need, .slice a2 names.length cap2, .int .i64 cut] w fun e w' => e = .returned (.bool true) ∧ Below w.heap.size w w' := by
  have m0 : hs.length ≤ maxLen := by unfold maxLen; omega
  have m2 : names.length ≤ maxLen := by unfold maxLen; omega
  go_enter Try.func3, Try.ntmps3
  go_wp2_with fail
  refine (bytes7 _ _ hs _ _ _ names _ _ _ w0 m0 _ w2 m2).mono ?_
  rintro e w' ⟨⟨b, rfl⟩, hw⟩
  have hw2 := hw.symm; subst hw2; clear hw
  cases b
  · go_wp2
    go_ret
    exact ⟨rfl, Below.refl _ _⟩
  go_wp2_with fail
  refine (addStrings_any _ _ _ _ hs _ w0 m0 (by omega) (by omega)).mono ?_
  rintro e w' ⟨r1, rfl, hr1, hr1', hw⟩
  have hw2 := hw.symm; subst hw2; clear hw
  by_cases hm1 : 1048576 < r1
  · go_wp2
    go_ret
    exact ⟨rfl, Below.refl _ _⟩
  go_wp2_with fail
  refine (addStrings_any _ _ _ _ names _ w2 m2 (by omega) (by omega)).mono ?_
  rintro e w' ⟨r2, rfl, hr2, hr2', hw⟩
  have hw2 := hw.symm; subst hw2; clear hw
  by_cases hm2 : 1048576 < r2
  · go_wp2
    go_ret
    exact ⟨rfl, Below.refl _ _⟩
  go_wp2_with fail
  refine (index_any _ _ _ hs _ w0 (Nat.le_refl _) hl0).mono ?_
  rintro e w1 ⟨hb1, ⟨hd, rfl, hix1⟩ | ⟨hnd, rfl⟩⟩
  case inr =>
    clear hnd
    go_wp2
    go_ret
    exact ⟨rfl, hb1⟩
  have w01 := w0.below hb1
  have w21 := w2.below hb1
  have hz1 := hb1.size
  go_wp2_with fail
  refine (index_any _ _ _ hs _ w01 hz1 hl0).mono ?_
  rintro e wb ⟨hbb, ⟨_, rfl, hixb⟩ | ⟨hnd, _⟩⟩
  case inr => exact absurd hd hnd
  have hzb := hbb.size
  have hzi := hixb.lt
  have w0b := w01.below (hbb.mono hz1)
  have w2b := w21.below (hbb.mono hz1)
  have hix1b := hix1.below hbb
  have hBb : Below w.heap.size w wb := hb1.trans (hbb.mono hz1)
  have hzw : w.heap.size ≤ wb.heap.size := by omega
  clear hbb hix1 w01 w21 hb1
  go_wp2_with fail
  refine (newReader_any _ _ _).mono ?_
  rintro e w4 ⟨rfl, rfl⟩
  have hsh := slice_head a2 names.length cap2 cut (by omega)
  have hst := slice_tail a2 names.length cap2 cut hc
  go_wp2_with fail
  have hs4 : w.heap.size ≤ (wb.alloc (readerObj w.heap.size (need : Int))).heap.size := by rw [size_alloc]; omega
  have nA : some w.heap.size ≠ some wb.heap.size := by intro e; injection e with e; omega
  have nB : some w1.heap.size ≠ some wb.heap.size := by intro e; injection e with e; omega
  have hg3 := IsReader.made wb w.heap.size (need : Int)
  refine (optional_at w.heap.size wb.heap.size w.heap.size need hs _ _ (names.take cut) cut _ (by rw [List.length_take]; omega) hg3 (hix1b.alloc _) ((w2b.alloc hzw _).take cut) hzw (by rw [List.length_take]; omega) hl0 hn).mono ?_
  rintro e w5 ⟨rfl, hg5, hr5⟩
  have i5 := (hix1b.alloc (readerObj w.heap.size (need : Int))).grown hg5 nA
  have ib5 := (hixb.alloc (readerObj w.heap.size (need : Int))).grown hg5 nB
  have w05 := (w0b.alloc hzw (readerObj w.heap.size (need : Int))).grown hg5 hzw hs4
  have w25 := (w2b.alloc hzw (readerObj w.heap.size (need : Int))).grown hg5 hzw hs4
  have B5 : Below w.heap.size w w5 := (hBb.alloc hzw (readerObj w.heap.size (need : Int))).grown hg5 hs4 (fun k hk => by injection hk with hk; omega)
  have s5 := hg5.size
  rw [size_alloc] at s5
  have hle := Pl.opt_le hs (names.take cut) need hn
  have hsp := Pl.opt_split hs names need cut
  rw [Pl.opt_lc (names := names) hd hn] at hsp
  obtain ⟨n1, hn1⟩ : ∃ n1, Pl.optN hs (names.take cut) need = n1 := ⟨_, rfl⟩
  rw [hn1] at hr5 hle hsp
  clear hg5 hg3 hix1b hixb w0b w2b hBb hs4 hn1
  go_wp2_with fail
  refine (optional_at w.heap.size wb.heap.size w.heap.size n1 hs _ _ (names.drop cut) (names.length - cut) _ (by rw [List.length_drop]) hr5 i5 (w25.drop cap2 cut hcap) hzw (by rw [List.length_drop]; omega) hl0 hle).mono ?_
  rintro e w6 ⟨rfl, hg6, hr6⟩
  rw [hsp] at hr6
  have i6 := ib5.grown hg6 nB
  have w06 := w05.grown hg6 hzw (by omega)
  have w26 := w25.grown hg6 hzw (by omega)
  have B6 : Below w.heap.size w w6 := B5.grown hg6 (by omega) (fun k hk => by injection hk with hk; omega)
  have s6 := hg6.size
  have l6 := hr6.lt
  clear hg6 hr5 i5 ib5 w05 w25 B5 hsp hle hsh hst
  have nC : some wb.heap.size ≠ some w6.heap.size := by intro e; injection e with e; omega
  have r6 : IsReader (w6.alloc (readerObj w1.heap.size (need : Int))) wb.heap.size w.heap.size (Pl.lc hs names need hs.length) := hr6.block (Below.heap_alloc _ _ _ l6)
  have hz6 : w.heap.size ≤ w6.heap.size := by omega
  have hs7 : w.heap.size ≤ (w6.alloc (readerObj w1.heap.size (need : Int))).heap.size := by rw [size_alloc]; omega
  have hol := Pl.opt_lc (names := names) hd hn
  go_wp2_with fail
  refine (newReader_any _ _ _).mono ?_
  rintro e w7 ⟨rfl, rfl⟩
  go_wp2_with fail
  refine (optional_any w.heap.size w6.heap.size w1.heap.size need hs _ _ names _ (IsReader.made _ _ _) (i6.alloc _) (w26.alloc hz6 _) hz6 (by omega) hl0 hn).mono ?_
  rintro e w8 ⟨rfl, hg8, hr8⟩
  rw [hol] at hr8
  have r8 := r6.grown hg8 nC
  have w08 := (w06.alloc hz6 (readerObj w1.heap.size (need : Int))).grown hg8 hz6 hs7
  have w28 := (w26.alloc hz6 (readerObj w1.heap.size (need : Int))).grown hg8 hz6 hs7
  have B8 : Below w.heap.size w w8 := (B6.alloc hz6 (readerObj w1.heap.size (need : Int))).grown hg8 hs7 (fun k hk => by injection hk with hk; omega)
  clear hg8 r6 hr6 w06 w26 i6 B6 hs7 hol
  go_wp2_with fail
  refine (leastCover_any _ _ _ _ hs _ _ names need _ w08 w28 hl0 hl2 hn).mono ?_
  rintro e w9 ⟨rfl, hw⟩
  subst hw
  go_wp2_with fail
  refine (need_any _ _ _ r8.num).mono ?_
  rintro e w9 ⟨rfl, hw⟩
  subst hw
  go_wp2_with fail
  refine (need_any _ _ _ hr8.num).mono ?_
  rintro e w9 ⟨rfl, hw⟩
  subst hw
  go_wp2
  go_ret
  exact ⟨rfl, B8⟩

end Go.Proofs.Qxb6616934a.fnOptionalSplitAtAnyCutRaisesNeedToLastNamedColumn
