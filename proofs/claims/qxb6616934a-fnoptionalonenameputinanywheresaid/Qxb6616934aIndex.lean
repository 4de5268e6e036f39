/-
  The column map: what it answers, and the contract of zzCsvB1Index.
-/
import Derived.Test.Qxb6616934aSmall
namespace Go.Proofs.Qxb6616934a.Bs
open Go.RowKit Go.WideMaps Go.Maps

theorem law : Keyed Try.prog 9 := string_keyed Try.underlying9
theorem zero3 (w : World) : (zeroValue 3).run Try.prog w = .ok (.int .i64 0) w := by kernel_rfl
theorem makeMap25 (n : Int) (w : World) : (Instr.makeMap 25 (some (.int .i64 n))).run Try.prog w = .ok (.map (some w.heap.size)) (w.alloc (.map #[] 0)) := by
  simp [Instr.makeMap, run_underlying Try.underlying25, asInt, asIntOf, Result.andThen]

def key (s : ByteArray) : Lit := .string s.data.toList
theorem key_inj {s t : ByteArray} (h : key s = key t) : s = t := by
  unfold key at h
  cases s; cases t
  simp at h
  rw [h]
theorem key_lit (s : ByteArray) : WideAt.IsKeyLit (key s) := by simp [key, WideAt.IsKeyLit]

/-- D reads as the header's name-to-column map. -/
def Ix (D : DataW Unit) (hs : List ByteArray) : Prop :=
  ∀ s : ByteArray, Maps.has D (key s) = (Pl.pos hs s).isSome ∧ D.atKey (key s) (.lit (.int .i64 0)) = .lit (.int .i64 (((Pl.pos hs s).getD 0 : Nat) : Int))

theorem ix_nil : Ix (.map []) [] := by
  intro s
  refine ⟨rfl, rfl⟩

theorem pos_snoc_other {xs : List ByteArray} {s x : ByteArray} (h : x ≠ s) : Pl.pos (xs ++ [x]) s = Pl.pos xs s := by
  have hx : (x.toList == s.toList) = false := by
    cases e : (x.toList == s.toList)
    · rfl
    · exact absurd (Pl.toList_inj.1 (by simpa using e)) h
  unfold Pl.pos
  rw [List.findIdx?_append]
  simp [List.findIdx?_cons, hx]

theorem pos_snoc_same {xs : List ByteArray} {x : ByteArray} (h : Pl.pos xs x = none) : Pl.pos (xs ++ [x]) x = some xs.length := by
  refine Pl.pos_some.2 ⟨by simp, by simp, fun j hj => ?_⟩
  rw [List.getElem_append_left hj]
  exact Pl.pos_none.1 h j hj

theorem ix_snoc {D : DataW Unit} {xs : List ByteArray} {x : ByteArray} (hD : IsMap D) (h : Ix D xs) (hp : Pl.pos xs x = none) : Ix (D.put (key x) (.lit (.int .i64 (xs.length : Int)))) (xs ++ [x]) := by
  intro s
  by_cases e : x = s
  · subst e
    rw [pos_snoc_same hp, has_put_same hD (key_lit x), atKey_put_same hD (key_lit x)]
    exact ⟨rfl, rfl⟩
  · have hk : key s ≠ key x := fun k => e (key_inj k).symm
    rw [pos_snoc_other e, has_put_other hk, atKey_put_other hk]
    exact h s

/-- Block bm is the header's name-to-column map. -/
def IsIndex (w : World) (bm : Nat) (hs : List ByteArray) : Prop :=
  ∃ n D, w.ownsMap Try.prog 9 (plainElem (H := Unit) Try.prog 3) bm n D ∧ Ix D hs

theorem own_look {w : World} {bm n : Nat} {D : DataW Unit} {hs : List ByteArray} (hown : w.ownsMap Try.prog 9 (plainElem (H := Unit) Try.prog 3) bm n D) (hi : Ix D hs) (s : ByteArray) (hs' : s.size ≤ maxLen) :
    (Instr.lookup 25 (.map (some bm)) (.string s) true).run Try.prog w = .ok (.tuple #[.int .i64 (((Pl.pos hs s).getD 0 : Nat) : Int), .bool (Pl.pos hs s).isSome]) w := by
  have hw0 : (Lit.int .i64 0).wf = true := by decide
  obtain ⟨v, ps, hrun, hv⟩ := hown.look_ok law Try.underlying25 (zero3 w) (plainElem_int Try.underlying3 hw0) (keyOf_string_mk Try.underlying9 hs')
  obtain ⟨c, rfl, hc, hwc⟩ := plainElem_int_inv Try.underlying3 hv
  obtain ⟨h1, h2⟩ := hi s
  unfold key at h1 h2
  rw [h1] at hrun
  have h3 : D.atKey (.string s.data.toList) (.lit (.int .i64 0)) = .lit (.int .i64 c) := congrArg Prod.fst hc
  rw [h2] at h3
  have h4 : (((Pl.pos hs s).getD 0 : Nat) : Int) = c := by injection h3 with h3; injection h3
  rw [h4]; exact hrun

theorem IsIndex.look {w : World} {bm : Nat} {hs : List ByteArray} (h : IsIndex w bm hs) (s : ByteArray) (hs' : s.size ≤ maxLen) :
    (Instr.lookup 25 (.map (some bm)) (.string s) true).run Try.prog w = .ok (.tuple #[.int .i64 (((Pl.pos hs s).getD 0 : Nat) : Int), .bool (Pl.pos hs s).isSome]) w := by
  obtain ⟨n, D, hown, hi⟩ := h
  exact own_look hown hi s hs'

theorem IsIndex.lt {w : World} {bm : Nat} {hs : List ByteArray} (h : IsIndex w bm hs) : bm < w.heap.size := by
  obtain ⟨n, D, hown, _⟩ := h; exact hown.lt

theorem IsIndex.block {w w' : World} {bm : Nat} {hs : List ByteArray} (h : IsIndex w bm hs) (hb : w'.heap[bm]? = w.heap[bm]?) : IsIndex w' bm hs := by
  obtain ⟨n, D, ⟨es, clock, h1, F, hsz, hD⟩, hi⟩ := h
  exact ⟨n, D, ⟨es, clock, hb.trans h1, F, hsz, hD⟩, hi⟩

theorem IsIndex.below {w w' : World} {bm : Nat} {hs : List ByteArray} (h : IsIndex w bm hs) (hb : Below w.heap.size w w') : IsIndex w' bm hs := h.block (hb.block bm h.lt)

theorem IsIndex.alloc {w : World} {bm : Nat} {hs : List ByteArray} (h : IsIndex w bm hs) (o : Obj) : IsIndex (w.alloc o) bm hs := h.block (Below.heap_alloc w o bm h.lt)

theorem IsIndex.setCell {w : World} {bm : Nat} {hs : List ByteArray} (h : IsIndex w bm hs) {p : Addr} (hp : bm ≠ p.block) (u : Value) : IsIndex (w.setCell p u) bm hs := h.block (Below.heap_setCell w p u bm hp)

/-- The first k names are distinct. -/
def DistTo (hs : List ByteArray) (k : Nat) : Prop := ∀ i j (hi : i < hs.length) (hj : j < hs.length), i < k → j < k → hs[i] = hs[j] → i = j

theorem distTo_step {hs : List ByteArray} {k : Nat} (hk : k < hs.length) (h : DistTo hs k) (hp : Pl.pos (hs.take k) hs[k] = none) : DistTo hs (k + 1) := by
  have hno : ∀ j (hj : j < hs.length), j < k → hs[j] ≠ hs[k] := by
    intro j hj hjk
    have := Pl.pos_none.1 hp j (by simp; omega)
    rwa [List.getElem_take] at this
  intro i j hi hj hik hjk e
  by_cases ei : i = k
  · by_cases ej : j = k
    · omega
    · subst ei; exact absurd e.symm (hno j hj (by omega))
  · by_cases ej : j = k
    · subst ej; exact absurd e (hno i hi (by omega))
    · exact h i j hi hj (by omega) (by omega) e

theorem not_distinct {hs : List ByteArray} {k i : Nat} (hk : k < hs.length) (hp : Pl.pos (hs.take k) hs[k] = some i) : ¬ Pl.Distinct hs := by
  obtain ⟨h1, h2, _⟩ := Pl.pos_some.1 hp
  rw [List.getElem_take] at h2
  intro hd
  have h3 : i < k := by simp at h1; omega
  have := hd i k (by omega) hk h2
  omega

theorem take_snoc {hs : List ByteArray} {k : Nat} (hk : k < hs.length) : hs.take (k + 1) = hs.take k ++ [hs[k]] := by
  rw [List.take_succ_eq_append_getElem hk]

set_option maxHeartbeats 400000 in
theorem index_any (B : Nat) (a : Option Addr) (cap : Nat) (hs : List ByteArray) (w : World) (hx : IsStrs B w a hs) (hB : B ≤ w.heap.size) (hl : hs.length ≤ 4096) :
    Calls Try.prog 9 #[.slice a hs.length cap] w fun e w' => Below w.heap.size w w' ∧ ((Pl.Distinct hs ∧ e = .returned (.tuple #[.map (some w.heap.size), .bool true]) ∧ IsIndex w' w.heap.size hs) ∨ (¬ Pl.Distinct hs ∧ e = .returned (.tuple #[.map none, .bool false]))) := by
  have hmm := makeMap25
  go_enter Try.func9, Try.ntmps9
  go_wp2
  go_loopw [5] (fun i wr => ∃ (k : Nat) (D : DataW Unit), k ≤ hs.length ∧ i = .int .i64 k ∧ wr.ownsMap Try.prog 9 (plainElem (H := Unit) Try.prog 3) w.heap.size k D ∧ Hid (Ix D (hs.take k)) ∧ Hid (DistTo hs k) ∧ Below w.heap.size w wr)
    (fun i _ => hs.length - (intOf i).toNat)
  case atStart => exact ⟨0, .map [], Nat.zero_le _, rfl, World.ownsMap_made _ _ _ _, ix_nil, fun i j _ _ h => by omega, (Below.refl _ _).alloc (Nat.le_refl _) _⟩
  case round =>
    obtain ⟨k, D, hk, rfl, hown, HI, HD, hbl⟩ := hrel
    by_cases hlt : k < hs.length
    · obtain ⟨b, o, hix, hb, hc⟩ := (hx.below (hbl.mono hB)).at k hlt
      have hsz := hx.1 _ (List.getElem_mem hlt)
      have hlk := own_look hown HI.out hs[k] hsz
      have hkey := keyOf_string_mk (P := Try.prog) Try.underlying9 hsz
      cases hp : Pl.pos (hs.take k) hs[k] with
      | some i =>
        have HN : Hid (¬ Pl.Distinct hs) := not_distinct hlt hp
        rw [hp] at hlk
        simp only [Option.getD_some, Option.isSome_some] at hlk
        clear hp hkey
        obtain ⟨x, hxe⟩ : ∃ x, hs[k] = x := ⟨_, rfl⟩
        rw [hxe] at hc hlk
        clear hxe hsz
        go_wp2
        go_ret2
        exact ⟨hbl, Or.inr ⟨HN.out, rfl⟩⟩
      | none =>
        have HI2 := ix_snoc hown.isMap HI.out hp
        rw [← take_snoc hlt, List.length_take, Nat.min_eq_left (by omega)] at HI2
        have HI3 : Hid (Ix (D.put (key hs[k]) (.lit (.int .i64 (k : Int)))) (hs.take (k + 1))) := HI2
        have HD3 : Hid (DistTo hs (k + 1)) := distTo_step hlt HD.out hp
        rw [hp] at hlk
        simp only [Option.getD_none, Option.isSome_none] at hlk
        clear hp HI2 HI HD
        unfold key at HI3
        obtain ⟨x, hxe⟩ : ∃ x, hs[k] = x := ⟨_, rfl⟩
        rw [hxe] at hc hlk hkey HI3
        clear hxe hsz
        go_wp2_with (at_mapUpdate; refine wpList_mapUpdate_own _ rfl _ _ _ 25 rfl 9 3 law Try.underlying25 _ w.heap.size k _ rfl hown (by unfold maxLen; omega) _ _ _ rfl rfl hkey _ [] (plainElem_int Try.underlying3 (WalkArith.wf_i64 (by omega))) ?_)
        intro w1 hown1 hgrow1
        have R2 := hbl.grown hgrow1 hbl.size (fun j hj => by cases hj; exact Nat.le_refl _)
        clear hgrow1 hown hlk hc hkey
        go_wp2
        go_roundw
        case rel => exact ⟨k + 1, _, by omega, by go_num, hown1, HI3, HD3, R2⟩
        case measure => simp [intOf]; omega
    · have hke : k = hs.length := by omega
      subst hke
      go_wp2
      go_ret2
      refine ⟨hbl, Or.inl ⟨fun i j hi hj e => HD.out i j hi hj hi hj e, rfl, _, D, hown, ?_⟩⟩
      have := HI.out
      rwa [List.take_length] at this

end Go.Proofs.Qxb6616934a.Bs
