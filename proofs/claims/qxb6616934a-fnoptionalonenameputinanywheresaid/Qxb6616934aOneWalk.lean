/-
  FnOptionalOneNamePutInAnywhere: her walk.
-/
import Derived.Test.Qxb6616934aRoom
import Derived.Test.Qxb6616934aBytes14
namespace Go.Proofs.Qxb6616934a.fnOptionalOneNamePutInAnywhere
open Go.RowKit Go.WideMaps Go.Maps
open Go.Proofs.Qxb6616934a.Bs

theorem optional_at (B : Nat) (rb bm need : Nat) (hs : List ByteArray) (a : Option Addr) (cap : Nat) (names : List ByteArray) (n : Nat) (w : World) (hn0 : names.length = n)
    (hr : IsReader w rb bm need) (hi : IsIndex w bm hs) (hx : IsStrs B w a names) (hB : B ≤ rb) (hl : names.length ≤ 8192) (hl2 : hs.length ≤ 4096) (hn : need ≤ hs.length) :
    Calls Try.prog 11 #[.pointer (some ⟨rb, 0, none⟩), .slice a n cap] w fun e w' => e = .returned (.tuple #[]) ∧ w.grownBy w' (some rb) ∧ IsReader w' rb bm (Pl.optN hs names need) := by
  subst hn0
  exact optional_any B rb bm need hs a cap names w hr hi hx hB hl hl2 hn

theorem hideP {p : Prop} (h : p) : Hid p := h

/-- The three appends, one behind the other: what they run to, and what is left. -/
theorem appends {wb : World} {B : Nat} {a2 : Option Addr} {names : List ByteArray} (cap2 p : Nat) (extra : ByteArray) (hx : IsStrs B wb a2 names) (hB : B ≤ wb.heap.size) (hcap : names.length ≤ cap2) (hp : p ≤ names.length) :
    ∃ wa wc wd : World,
      (∀ ty, (Builtin.append_ #[22, 22] ty #[.slice (some ⟨wb.heap.size, 0, none⟩) 0 (names.length + 1), .slice a2 p cap2]).run Try.prog (wb.alloc (.cells (madeS (names.length + 1)) 9)) = .ok (.slice (some ⟨wb.heap.size, 0, none⟩) p (names.length + 1)) wa) ∧
      (∀ ty, (Builtin.append_ #[22, 22] ty #[.slice (some ⟨wb.heap.size, 0, none⟩) p (names.length + 1), .slice (some ⟨wa.heap.size, 0, none⟩) 1 1]).run Try.prog (wa.alloc (.cells #[.string extra] 9)) = .ok (.slice (some ⟨wb.heap.size, 0, none⟩) (p + 1) (names.length + 1)) wc) ∧
      (∀ ty, (Builtin.append_ #[22, 22] ty #[.slice (some ⟨wb.heap.size, 0, none⟩) (p + 1) (names.length + 1), .slice (tailA a2 cap2 p) (names.length - p) (cap2 - p)]).run Try.prog wc = .ok (.slice (some ⟨wb.heap.size, 0, none⟩) (names.length + 1) (names.length + 1)) wd) ∧
      Room wd wb.heap.size (names.length + 1) (names.take p ++ (extra :: names.drop p)) ∧ Below wb.heap.size wb wd ∧ wb.heap.size < wd.heap.size := by
  have k1 : (names.take p).length = p := by rw [List.length_take]; omega
  have k3 : (names.drop p).length = names.length - p := List.length_drop ..
  have b0 : Below wb.heap.size wb (wb.alloc (.cells (madeS (names.length + 1)) 9)) := (Below.refl _ wb).alloc (Nat.le_refl _) _
  have z0 := size_alloc wb (.cells (madeS (names.length + 1)) 9)
  have s1 := src_strs ((hx.below (b0.mono hB)).take p) cap2
  obtain ⟨wa, r1, m1, g1⟩ := append_room (room_made wb (names.length + 1)) s1 (by rw [k1]; simp; omega)
  rw [k1] at r1
  simp only [List.length_nil, Nat.zero_add, List.nil_append] at r1 m1
  have b1 : Below wb.heap.size wb wa := b0.grown g1 (by omega) (fun k hk => by injection hk with hk; omega)
  have z1 := g1.size
  have m2 : Room (wa.alloc (.cells #[.string extra] 9)) wb.heap.size (names.length + 1) (names.take p) := m1.block (Below.heap_alloc _ _ _ (by omega))
  have b2 : Below wb.heap.size wb (wa.alloc (.cells #[.string extra] 9)) := b1.alloc (by omega) _
  have z2 := size_alloc wa (.cells #[.string extra] 9)
  have s2 : Src Try.prog 1 22 (.slice (some ⟨wa.heap.size, 0, none⟩) 1 1) [extra].length ([extra].map Value.string) (wa.alloc (.cells #[.string extra] 9)) := by
    refine Src.ofSlice _ Try.underlying22 ⟨wa.heap.size, 0, none⟩ 1 1 _ (by simp) (fun j v hv => ?_) (by intro v hv; obtain ⟨s, _, rfl⟩ := List.mem_map.1 hv; rfl)
    have hj : j = 0 := by
      have := (List.getElem?_eq_some_iff.1 hv).1; simpa using this
    subst hj
    have ea : (⟨wa.heap.size, 0, none⟩ : Addr).add 0 = ⟨wa.heap.size, 0, none⟩ := by simp [Addr.add]
    rw [ea]
    unfold World.cell?
    dsimp only
    rw [heap_new wa (.cells #[.string extra] 9)]
    exact hv
  obtain ⟨wc, r2, m3, g2⟩ := append_room m2 s2 (by rw [k1]; simp; omega)
  rw [k1] at r2
  simp only [List.length_cons, List.length_nil, Nat.zero_add] at r2
  have b3 : Below wb.heap.size wb wc := b2.grown g2 (by omega) (fun k hk => by injection hk with hk; omega)
  have z3 := g2.size
  have s3 := src_strs ((hx.below (b3.mono hB)).drop cap2 p hcap) (cap2 - p)
  have k4 : (names.take p ++ [extra]).length = p + 1 := by rw [List.length_append, k1]; rfl
  obtain ⟨wd, r3, m4, g3⟩ := append_room m3 s3 (by rw [k4, k3]; omega)
  rw [k4, k3, show p + 1 + (names.length - p) = names.length + 1 from by omega] at r3
  rw [List.append_assoc] at m4
  exact ⟨wa, wc, wd, r1, r2, r3, m4, b3.grown g3 (by omega) (fun k hk => by injection hk with hk; omega), by have := g3.size; omega⟩

set_option maxRecDepth 100000 in
set_option maxHeartbeats 4000000 in
theorem walk_in (a0 : Option Addr) (cap0 : Nat) (hs : List ByteArray) (need : Nat) (a2 : Option Addr) (cap2 : Nat) (names : List ByteArray) (p : Nat) (extra : ByteArray) (w : World)
    (w0 : IsStrs w.heap.size w a0 hs) (w2 : IsStrs w.heap.size w a2 names) (hcap : names.length ≤ cap2) (w4 : extra.size ≤ maxLen)
    (hl0 : hs.length ≤ 4096) (hl2 : names.length ≤ 4096) (hn : need ≤ hs.length) (hp : p ≤ names.length) :
    Calls Try.prog 4 #[.slice a0 hs.length cap0, .int .i64 need, .slice a2 names.length cap2, .int .i64 p, .string extra] w fun e w' => e = .returned (.bool true) ∧ Below w.heap.size w w' := by
  have m0 : hs.length ≤ maxLen := by unfold maxLen; omega
  have m2 : names.length ≤ maxLen := by unfold maxLen; omega
  go_enter Try.func4, Try.ntmps4
  go_wp2_with fail
  refine (bytes14 _ _ hs _ _ _ names _ extra _ _ w0 m0 _ w2 m2 w4).mono ?_
  rintro e w' ⟨⟨b, rfl⟩, hw⟩
  have hw2 := hw.symm; subst hw2; clear hw
  cases b
  · go_wp2
    go_ret
    exact ⟨rfl, Below.refl _ _⟩
  go_wp2_with fail
  refine (addStrings_any _ _ _ _ hs _ w0 m0 (by omega) (by omega)).mono ?_
  rintro e w' ⟨r1, rfl, hr1, hr1', hw⟩
  have hw2 := hw.symm; subst hw2; clear hw
  by_cases hm1 : 1048576 < r1
  · go_wp2
    go_ret
    exact ⟨rfl, Below.refl _ _⟩
  go_wp2_with fail
  refine (addStrings_any _ _ _ _ names _ w2 m2 (by omega) (by omega)).mono ?_
  rintro e w' ⟨r2, rfl, hr2, hr2', hw⟩
  have hw2 := hw.symm; subst hw2; clear hw
  by_cases hm2 : 1048576 < r2
  · go_wp2
    go_ret
    exact ⟨rfl, Below.refl _ _⟩
  go_wp2_with fail
  refine (addString_any _ extra _ w4 (by omega) (by omega)).mono ?_
  rintro e w' ⟨r3, rfl, hr3, hr3', hw⟩
  have hw2 := hw.symm; subst hw2; clear hw
  by_cases hm3 : 1048576 < r3
  · go_wp2
    go_ret
    exact ⟨rfl, Below.refl _ _⟩
  go_wp2_with fail
  refine (index_any _ _ _ hs _ w0 (Nat.le_refl _) hl0).mono ?_
  rintro e w1 ⟨hb1, ⟨hd, rfl, hix1⟩ | ⟨hnd, rfl⟩⟩
  case inr =>
    clear hnd
    go_wp2
    go_ret
    exact ⟨rfl, hb1⟩
  have w01 := w0.below hb1
  have w21 := w2.below hb1
  have hz1 := hb1.size
  go_wp2_with fail
  refine (index_any _ _ _ hs _ w01 hz1 hl0).mono ?_
  rintro e wb ⟨hbb, ⟨_, rfl, hixb⟩ | ⟨hnd, _⟩⟩
  case inr => exact absurd hd hnd
  have hzb := hbb.size
  have hzi := hixb.lt
  have w0b := w01.below (hbb.mono hz1)
  have w2b := w21.below (hbb.mono hz1)
  have hix1b := hix1.below hbb
  have hBb : Below w.heap.size w wb := hb1.trans (hbb.mono hz1)
  have hzw : w.heap.size ≤ wb.heap.size := by omega
  clear hbb hix1 w01 w21 hb1
  obtain ⟨wa, wc, wd, r1', r2', r3', hroom, hbd, hzd⟩ := appends cap2 p extra w2b hzw hcap hp
  have hmk := make_room names.length (by omega)
  have hsh := slice_head a2 names.length cap2 p (by omega)
  have hst := slice_tail a2 names.length cap2 p hp
  have ixA := hix1b.below hbd
  have ixB := hixb.below hbd
  have w0d := w0b.below (hbd.mono hzw)
  have w2d := w2b.below (hbd.mono hzw)
  have Bd : Below w.heap.size w wd := hBb.trans (hbd.mono hzw)
  have hmo : IsStrs (wb.heap.size + 1) wd (some ⟨wb.heap.size, 0, none⟩) (names.take p ++ (extra :: names.drop p)) := hroom.strs (by omega) (fun s hs' => by
    rcases List.mem_append.1 hs' with h | h
    · exact w2.1 s (List.mem_of_mem_take h)
    · rcases List.mem_cons.1 h with h | h
      · rw [h]; exact w4
      · exact w2.1 s (List.mem_of_mem_drop h))
  have hml : (names.take p ++ (extra :: names.drop p)).length = names.length + 1 := by
    rw [List.length_append, List.length_cons, List.length_take, List.length_drop]; omega
  clear hix1b hixb w0b w2b hBb hbd hroom
  have tok1 : True := trivial
  have tok2 : True := trivial
  have tok3 : True := trivial
  go_wp2_with (first | (at_builtin; have _t := tok1; refine Lib.wpList_append_run_sl _ rfl _ _ 22 rfl _ _ rfl rfl (r1' _) ?_; clear tok1) | (at_builtin; have _t := tok2; refine Lib.wpList_append_run_sl _ rfl _ _ 22 rfl _ _ rfl rfl (r2' _) ?_; clear tok2) | (at_builtin; have _t := tok3; refine Lib.wpList_append_run_sl _ rfl _ _ 22 rfl _ _ rfl rfl (r3' _) ?_; clear tok3))
  refine (newReader_any _ _ _).mono ?_
  rintro e w5 ⟨rfl, rfl⟩
  clear r1' r2' r3' hmk hsh hst
  have hzd' : w.heap.size ≤ wd.heap.size := by omega
  have hs4 : w.heap.size ≤ (wd.alloc (readerObj w.heap.size (need : Int))).heap.size := by rw [size_alloc]; omega
  have nB : some w1.heap.size ≠ some wd.heap.size := by intro e; injection e with e; omega
  go_wp2_with fail
  refine (optional_any w.heap.size wd.heap.size w.heap.size need hs _ _ names _ (IsReader.made _ _ _) (ixA.alloc _) (w2d.alloc hzd' _) hzd' (by omega) hl0 hn).mono ?_
  rintro e w6 ⟨rfl, hg6, hr6⟩
  have i6 := (ixB.alloc (readerObj w.heap.size (need : Int))).grown hg6 nB
  have w06 := (w0d.alloc hzd' (readerObj w.heap.size (need : Int))).grown hg6 hzd' hs4
  have w26 := (w2d.alloc hzd' (readerObj w.heap.size (need : Int))).grown hg6 hzd' hs4
  have mo6 := (hmo.alloc (by omega) (readerObj w.heap.size (need : Int))).grown hg6 (by omega) (by rw [size_alloc]; omega)
  have B6 : Below w.heap.size w w6 := (Bd.alloc hzd' (readerObj w.heap.size (need : Int))).grown hg6 hs4 (fun k hk => by injection hk with hk; omega)
  have s6 := hg6.size
  rw [size_alloc] at s6
  have l6 := hr6.lt
  have hlc := (Pl.opt_lc (names := names) hd hn).symm
  have hM := Pl.opt_le hs names need hn
  have hnone := fun h => Pl.opt_put_none (names := names) (need := need) (p := p) (s := extra) hd h
  have hsome := fun j h => Pl.opt_put_some (names := names) (need := need) (p := p) (j0 := j) (s := extra) hd h
  obtain ⟨M, hMe⟩ : ∃ M, Pl.optN hs names need = M := ⟨_, rfl⟩
  rw [hMe] at hr6 hlc hM hnone hsome
  clear hMe hg6 ixA ixB w0d w2d Bd hmo hs4
  have nC : some wd.heap.size ≠ some w6.heap.size := by intro e; injection e with e; omega
  have r6 : IsReader (w6.alloc (readerObj w1.heap.size (need : Int))) wd.heap.size w.heap.size (M : Int) := hr6.block (Below.heap_alloc _ _ _ l6)
  have hz6 : w.heap.size ≤ w6.heap.size := by omega
  have hs7 : w.heap.size ≤ (w6.alloc (readerObj w1.heap.size (need : Int))).heap.size := by rw [size_alloc]; omega
  have HN := hideP hnone
  have HS := hideP hsome
  have HL := hideP hlc
  clear hnone hsome hlc
  go_wp2_with fail
  refine (newReader_any _ _ _).mono ?_
  rintro e w7 ⟨rfl, rfl⟩
  go_wp2_with fail
  refine (optional_at (wb.heap.size + 1) w6.heap.size w1.heap.size need hs _ _ (names.take p ++ (extra :: names.drop p)) (names.length + 1) _ hml (IsReader.made _ _ _) (i6.alloc _) (mo6.alloc (by omega) _) (by omega) (by rw [hml]; omega) hl0 hn).mono ?_
  rintro e w8 ⟨rfl, hg8, hr8⟩
  have r8 := r6.grown hg8 nC
  have w08 := (w06.alloc hz6 (readerObj w1.heap.size (need : Int))).grown hg8 hz6 hs7
  have w28 := (w26.alloc hz6 (readerObj w1.heap.size (need : Int))).grown hg8 hz6 hs7
  have B8 : Below w.heap.size w w8 := (B6.alloc hz6 (readerObj w1.heap.size (need : Int))).grown hg8 hs7 (fun k hk => by injection hk with hk; omega)
  clear hg8 r6 hr6 w06 w26 i6 B6 hs7 mo6
  cases hpe : Pl.pos hs extra with
  | none =>
    have hj1 : Pl.posI hs extra = -1 := by unfold Pl.posI; rw [hpe]
    have hlc := HL.out
    rw [HN.out hpe] at hr8
    clear HN HS HL hpe
    go_wp2_with fail
    refine (need_any _ _ _ r8.num).mono ?_
    rintro e w9 ⟨rfl, hw⟩
    subst hw
    go_wp2_with fail
    refine (need_any _ _ _ hr8.num).mono ?_
    rintro e w9 ⟨rfl, hw⟩
    subst hw
    go_wp2_with fail
    refine (leastCover_any _ _ _ _ hs _ _ names need _ w08 w28 hl0 hl2 hn).mono ?_
    rintro e w9 ⟨rfl, hw⟩
    subst hw
    rw [hlc]
    go_wp2_with fail
    refine (pos_any _ _ _ hs extra _ w08 m0).mono ?_
    rintro e w9 ⟨rfl, hw⟩
    subst hw
    rw [hj1]
    go_wp2
    go_ret
    exact ⟨rfl, B8⟩
  | some j0 =>
    have hj1 : Pl.posI hs extra = (j0 : Int) := by unfold Pl.posI; rw [hpe]
    have hlc := HL.out
    obtain ⟨hj0, _⟩ := Pl.pos_some.1 hpe
    rw [HS.out j0 hpe] at hr8
    clear HN HS HL hpe
    go_wp2_with fail
    refine (need_any _ _ _ r8.num).mono ?_
    rintro e w9 ⟨rfl, hw⟩
    subst hw
    go_wp2_with fail
    refine (need_any _ _ _ hr8.num).mono ?_
    rintro e w9 ⟨rfl, hw⟩
    subst hw
    go_wp2_with fail
    refine (leastCover_any _ _ _ _ hs _ _ names need _ w08 w28 hl0 hl2 hn).mono ?_
    rintro e w9 ⟨rfl, hw⟩
    subst hw
    rw [hlc]
    go_wp2_with fail
    refine (pos_any _ _ _ hs extra _ w08 m0).mono ?_
    rintro e w9 ⟨rfl, hw⟩
    subst hw
    rw [hj1]
    by_cases hgt : M < j0 + 1
    · rw [show max M (j0 + 1) = j0 + 1 from by omega]
      go_wp2
      go_ret
      exact ⟨rfl, B8⟩
    · rw [show max M (j0 + 1) = M from by omega]
      go_wp2
      go_ret
      exact ⟨rfl, B8⟩

end Go.Proofs.Qxb6616934a.fnOptionalOneNamePutInAnywhere
