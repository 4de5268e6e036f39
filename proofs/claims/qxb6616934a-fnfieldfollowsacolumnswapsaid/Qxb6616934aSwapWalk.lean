/-
  FnFieldFollowsAColumnSwap: her walk.
-/
import Derived.Test.Qxb6616934aRowOf
import Derived.Test.Qxb6616934aSwapPlain
import Derived.Test.Qxb6616934aBytes19
namespace Go.Proofs.Qxb6616934a.fnFieldFollowsAColumnSwap
open Go.RowKit Go.WideMaps Go.Maps
open Go.Proofs.Qxb6616934a.Bs

theorem swap_field {hs rec : List ByteArray} {name : ByteArray} {i k : Nat} (hi : i < hs.length) (hk : k < hs.length) (hi2 : i < rec.length) (hk2 : k < rec.length) (hd : Pl.Distinct hs)
    (hfit : ∀ m, Pl.pos hs name = some m → m < rec.length) : fieldOf (Pl.sw hs i k hi hk) (Pl.sw rec i k hi2 hk2) name = fieldOf hs rec name := by
  unfold fieldOf
  cases hp : Pl.pos hs name with
  | none => rw [Pl.sw_pos_none hp]
  | some m =>
    have hm := hfit m hp
    rw [Pl.sw_pos_some hd hp]
    have ht := Pl.turn_lt hi2 hk2 hm
    have e1 := Pl.sw_get rec i k hi2 hk2 (Pl.turn i k m) ht
    have hl : Pl.turn i k m < (Pl.sw rec i k hi2 hk2).length := by rw [Pl.sw_length]; exact ht
    simp only [List.getD, List.getElem?_eq_getElem hl, List.getElem?_eq_getElem hm, Option.getD_some]
    rw [e1]
    have : Pl.turn i k (Pl.turn i k m) = m := Pl.turn_turn i k m
    simp only [this]

theorem swap_fit {hs rec : List ByteArray} {name : ByteArray} {i k : Nat} (hi : i < hs.length) (hk : k < hs.length) (hi2 : i < rec.length) (hk2 : k < rec.length) (hd : Pl.Distinct hs)
    (hfit : ∀ m, Pl.pos hs name = some m → m < rec.length) : ∀ m, Pl.pos (Pl.sw hs i k hi hk) name = some m → m < (Pl.sw rec i k hi2 hk2).length := by
  intro m hm
  rw [Pl.sw_length]
  cases hp : Pl.pos hs name with
  | none => rw [Pl.sw_pos_none hp] at hm; cases hm
  | some m0 =>
    rw [Pl.sw_pos_some hd hp] at hm
    cases hm
    exact Pl.turn_lt hi2 hk2 (hfit m0 hp)

set_option maxRecDepth 100000 in
set_option maxHeartbeats 4000000 in
theorem walk_in (a0 : Option Addr) (cap0 : Nat) (hs : List ByteArray) (need : Nat) (a2 : Option Addr) (cap2 : Nat) (rec : List ByteArray) (name : ByteArray) (i k : Nat) (w : World)
    (w0 : IsStrs w.heap.size w a0 hs) (w2 : IsStrs w.heap.size w a2 rec) (w3 : name.size ≤ maxLen)
    (hl0 : hs.length ≤ 4096) (hl2 : rec.length ≤ 4096) (hn : need ≤ hs.length) (hi : i < hs.length) (hk : k < hs.length) (hi2 : i < rec.length) (hk2 : k < rec.length) :
    Calls Try.prog 6 #[.slice a0 hs.length cap0, .int .i64 need, .slice a2 rec.length cap2, .string name, .int .i64 i, .int .i64 k] w fun e w' => e = .returned (.bool true) ∧ Below w.heap.size w w' := by
  have m0 : hs.length ≤ maxLen := by unfold maxLen; omega
  have m2 : rec.length ≤ maxLen := by unfold maxLen; omega
  go_enter Try.func6, Try.ntmps6
  go_wp2_with fail
  refine (bytes19 _ _ hs _ _ _ rec name _ _ _ _ w0 m0 _ w2 m2 w3).mono ?_
  rintro e w' ⟨⟨b, rfl⟩, hw⟩
  have hw2 := hw.symm; subst hw2; clear hw
  cases b
  · go_wp2
    go_ret
    exact ⟨rfl, Below.refl _ _⟩
  go_wp2_with fail
  refine (addStrings_any _ _ _ _ hs _ w0 m0 (by omega) (by omega)).mono ?_
  rintro e w' ⟨r1, rfl, hr1, hr1', hw⟩
  have hw2 := hw.symm; subst hw2; clear hw
  by_cases hm1 : 1048576 < r1
  · go_wp2
    go_ret
    exact ⟨rfl, Below.refl _ _⟩
  go_wp2_with fail
  refine (addStrings_any _ _ _ _ rec _ w2 m2 (by omega) (by omega)).mono ?_
  rintro e w' ⟨r2, rfl, hr2, hr2', hw⟩
  have hw2 := hw.symm; subst hw2; clear hw
  by_cases hm2 : 1048576 < r2
  · go_wp2
    go_ret
    exact ⟨rfl, Below.refl _ _⟩
  go_wp2_with fail
  refine (addString_any _ name _ w3 (by omega) (by omega)).mono ?_
  rintro e w' ⟨r3, rfl, hr3, hr3', hw⟩
  have hw2 := hw.symm; subst hw2; clear hw
  by_cases hm3 : 1048576 < r3
  · go_wp2
    go_ret
    exact ⟨rfl, Below.refl _ _⟩
  go_wp2_with fail
  refine (index_any _ _ _ hs _ w0 (Nat.le_refl _) hl0).mono ?_
  rintro e w1 ⟨hb1, ⟨hd, rfl, hix1⟩ | ⟨hnd, rfl⟩⟩
  case inr =>
    clear hnd
    go_wp2
    go_ret
    exact ⟨rfl, hb1⟩
  have w01 := w0.below hb1
  have w21 := w2.below hb1
  go_wp2_with fail
  refine (pos_any _ _ _ hs name _ w01 m0).mono ?_
  rintro e w' ⟨rfl, hw⟩
  have hw2 := hw.symm; subst hw2; clear hw
  have hge := Pl.posI_ge hs name
  obtain ⟨j, hje⟩ : ∃ j, Pl.posI hs name = j := ⟨_, rfl⟩
  rw [hje] at hge ⊢
  have HJ : Hid (Pl.posI hs name = j) := hje
  clear hje
  by_cases hj : (rec.length : Int) ≤ j
  · go_wp2
    go_ret
    exact ⟨rfl, hb1⟩
  have hmk1 := make_row hs.length (by omega)
  have hmk2 := make_row rec.length (by omega)
  have hcp1 := copy_made cap0 w01 hb1.size (by omega)
  have hset := rowOf_set
  have g1 := rowOf_get hs i hi
  have g2 := rowOf_get hs k hk
  obtain ⟨xi, hxi⟩ : ∃ x, hs[i] = x := ⟨_, rfl⟩
  obtain ⟨xk, hxk⟩ : ∃ x, hs[k] = x := ⟨_, rfl⟩
  rw [hxi] at g1
  rw [hxk] at g2
  have HXI : Hid (hs[i] = xi) := hxi
  have HXK : Hid (hs[k] = xk) := hxk
  clear hxi hxk
  obtain ⟨v3, g3⟩ : ∃ v, (rowOf (hs.set i xk))[k]? = some v := ⟨_, rowOf_get _ k (by simpa using hk)⟩
  have w22 : IsStrs w.heap.size (w1.alloc (.cells (rowOf ((hs.set i xk).set k xi)) 9)) a2 rec := w21.below ((Below.refl _ w1).alloc hb1.size _)
  have hcp2 := copy_made cap2 w22 (by have := hb1.size; show _ ≤ (w1.heap.push _).size; simp; omega) (by omega)
  have e2 : (w1.alloc (.cells (rowOf ((hs.set i xk).set k xi)) 9)).heap.size = w1.heap.size + 1 := by show (w1.heap.push _).size = _; simp
  rw [e2] at hcp2
  clear e2
  have f1 := rowOf_get rec i hi2
  have f2 := rowOf_get rec k hk2
  obtain ⟨yi, hyi⟩ : ∃ x, rec[i] = x := ⟨_, rfl⟩
  obtain ⟨yk, hyk⟩ : ∃ x, rec[k] = x := ⟨_, rfl⟩
  rw [hyi] at f1
  rw [hyk] at f2
  have HYI : Hid (rec[i] = yi) := hyi
  have HYK : Hid (rec[k] = yk) := hyk
  clear hyi hyk
  obtain ⟨v4, f3⟩ : ∃ v, (rowOf (rec.set i yk))[k]? = some v := ⟨_, rowOf_get _ k (by simpa using hk2)⟩
  go_wp2_with fail
  have eh : (hs.set i xk).set k xi = Pl.sw hs i k hi hk := by rw [← HXI.out, ← HXK.out]; rfl
  have er : (rec.set i yk).set k yi = Pl.sw rec i k hi2 hk2 := by rw [← HYI.out, ← HYK.out]; rfl
  rw [eh, er]
  clear eh er hcp1 hcp2 hmk1 hmk2 g1 g2 g3 f1 f2 f3 hset HXI HXK HYI HYK w22 w01
  have hz1 := hb1.size
  have hz2 := hix1.lt
  have s2 : ((w1.alloc (.cells (rowOf (Pl.sw hs i k hi hk)) 9)).alloc (.cells (rowOf (Pl.sw rec i k hi2 hk2)) 9)).heap.size = w1.heap.size + 2 := by rw [size_alloc, size_alloc]
  have q1 : ((w1.alloc (.cells (rowOf (Pl.sw hs i k hi hk)) 9)).alloc (.cells (rowOf (Pl.sw rec i k hi2 hk2)) 9)).heap[w1.heap.size]? = some (.cells (rowOf (Pl.sw hs i k hi hk)) 9) := by
    rw [Below.heap_alloc _ _ _ (by rw [size_alloc]; omega)]; exact heap_new _ _
  have q2 : ((w1.alloc (.cells (rowOf (Pl.sw hs i k hi hk)) 9)).alloc (.cells (rowOf (Pl.sw rec i k hi2 hk2)) 9)).heap[w1.heap.size + 1]? = some (.cells (rowOf (Pl.sw rec i k hi2 hk2)) 9) := by
    have := heap_new (w1.alloc (.cells (rowOf (Pl.sw hs i k hi hk)) 9)) (.cells (rowOf (Pl.sw rec i k hi2 hk2)) 9)
    rwa [size_alloc] at this
  have q3 : Below w1.heap.size w1 ((w1.alloc (.cells (rowOf (Pl.sw hs i k hi hk)) 9)).alloc (.cells (rowOf (Pl.sw rec i k hi2 hk2)) 9)) := ((Below.refl _ w1).alloc (Nat.le_refl _) _).alloc (by rw [size_alloc]; omega) _
  generalize ((w1.alloc (.cells (rowOf (Pl.sw hs i k hi hk)) 9)).alloc (.cells (rowOf (Pl.sw rec i k hi2 hk2)) 9)) = Wf at *
  have u1 : IsStrs Wf.heap.size Wf (some ⟨w1.heap.size, 0, none⟩) (Pl.sw hs i k hi hk) := own_strs q1 (by omega) (fun s hs' => w0.1 s (Pl.sw_mem hs'))
  refine (index_at _ _ _ (Pl.sw hs i k hi hk) hs.length (w1.heap.size + 2) _ (Pl.sw_length _ _ _ _ _) s2 u1 (Nat.le_refl _) (by rw [Pl.sw_length]; exact hl0)).mono ?_
  rintro e wc ⟨hb3, ⟨_, rfl, hix3⟩ | ⟨hnd, _⟩⟩
  case inr => exact absurd (Pl.sw_distinct hd) hnd
  have hz3 := hb3.size
  have v1 : IsIndex wc w.heap.size hs := (hix1.below q3).below hb3
  have v2 : IsStrs w.heap.size wc a2 rec := (w21.below (q3.mono hz1)).below (hb3.mono (by omega))
  have v3 : IsStrs wc.heap.size wc (some ⟨w1.heap.size + 1, 0, none⟩) (Pl.sw rec i k hi2 hk2) := own_strs ((hb3.block (w1.heap.size + 1) (by omega)).trans q2) (by omega) (fun s hs' => w2.1 s (Pl.sw_mem hs'))
  have v4 : Below w.heap.size w wc := (hb1.trans (q3.mono hz1)).trans (hb3.mono (by omega))
  have v5 : w.heap.size ≤ wc.heap.size := by omega
  have hfit : ∀ m, Pl.pos hs name = some m → m < rec.length := by
    intro m hm
    have := HJ.out
    unfold Pl.posI at this
    rw [hm] at this
    dsimp only at this
    omega
  have hff := swap_field hi hk hi2 hk2 hd hfit
  have hft := swap_fit hi hk hi2 hk2 hd hfit
  clear hb3 q1 q2 q3 u1 s2 hix1 w21 hb1
  cases hp : Pl.pos hs name with
  | none =>
    have hj1 : j = -1 := by
      have := HJ.out; unfold Pl.posI at this; rw [hp] at this; exact this.symm
    have hwant : fieldOf hs rec name = { data := #[] } := by unfold fieldOf; rw [hp]
    rw [hwant] at hff
    clear HJ
    subst hj1
    go_wp2_with fail
    refine (newReader_at _ wc.heap.size _ _ rfl).mono ?_
    rintro e w4 ⟨rfl, rfl⟩
    go_wp2_with fail
    refine (field_at _ wc.heap.size w.heap.size _ hs _ _ rec _ name _ rfl (IsReader.made _ _ _) (v1.alloc _) (v2.alloc v5 _) w3 hfit).mono ?_
    rintro e w5 ⟨rfl, hw⟩
    subst hw
    rw [hwant]
    go_wp2_with fail
    refine (newReader_at _ (wc.heap.size + 1) _ _ (size_alloc _ _)).mono ?_
    rintro e w4 ⟨rfl, rfl⟩
    go_wp2_with fail
    refine (field_at _ (wc.heap.size + 1) (w1.heap.size + 2) _ (Pl.sw hs i k hi hk) _ _ (Pl.sw rec i k hi2 hk2) _ name _ (Pl.sw_length _ _ _ _ _) (IsReader.made_at _ _ _ _ (size_alloc _ _)) ((hix3.alloc _).alloc _) ((v3.alloc (Nat.le_refl _) _).alloc (by rw [size_alloc]; omega) _) w3 hft).mono ?_
    rintro e w5 ⟨rfl, hw⟩
    subst hw
    rw [hff]
    go_wp2
    go_ret
    exact ⟨rfl, (v4.alloc v5 _).alloc (by rw [size_alloc]; omega) _⟩
  | some m =>
    have hm := hfit m hp
    have hj1 : j = (m : Int) := by
      have := HJ.out; unfold Pl.posI at this; rw [hp] at this; exact this.symm
    have hwant : fieldOf hs rec name = rec[m] := by unfold fieldOf; rw [hp]; simp [List.getD, List.getElem?_eq_getElem hm]
    rw [hwant] at hff
    obtain ⟨b, o, hix, hb, hc⟩ := v2.at m hm
    obtain ⟨x, hx⟩ : ∃ x, rec[m] = x := ⟨_, rfl⟩
    rw [hx] at hff hwant hc
    clear HJ hx
    subst hj1
    go_wp2_with fail
    refine (newReader_at _ wc.heap.size _ _ rfl).mono ?_
    rintro e w4 ⟨rfl, rfl⟩
    go_wp2_with fail
    refine (field_at _ wc.heap.size w.heap.size _ hs _ _ rec _ name _ rfl (IsReader.made _ _ _) (v1.alloc _) (v2.alloc v5 _) w3 hfit).mono ?_
    rintro e w5 ⟨rfl, hw⟩
    subst hw
    rw [hwant]
    go_wp2_with fail
    refine (newReader_at _ (wc.heap.size + 1) _ _ (size_alloc _ _)).mono ?_
    rintro e w4 ⟨rfl, rfl⟩
    go_wp2_with fail
    refine (field_at _ (wc.heap.size + 1) (w1.heap.size + 2) _ (Pl.sw hs i k hi hk) _ _ (Pl.sw rec i k hi2 hk2) _ name _ (Pl.sw_length _ _ _ _ _) (IsReader.made_at _ _ _ _ (size_alloc _ _)) ((hix3.alloc _).alloc _) ((v3.alloc (Nat.le_refl _) _).alloc (by rw [size_alloc]; omega) _) w3 hft).mono ?_
    rintro e w5 ⟨rfl, hw⟩
    subst hw
    rw [hff]
    go_wp2
    go_ret
    exact ⟨rfl, (v4.alloc v5 _).alloc (by rw [size_alloc]; omega) _⟩

end Go.Proofs.Qxb6616934a.fnFieldFollowsAColumnSwap
