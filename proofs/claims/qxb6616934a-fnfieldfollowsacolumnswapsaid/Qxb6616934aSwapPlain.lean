/-
  Plain laws: two columns change places.
-/
import Derived.Test.Qxb6616934aPlain
namespace Go.Proofs.Qxb6616934a.Pl

/-- The place to which a place goes when i and k change places. -/
def turn (i k m : Nat) : Nat := if m = k then i else if m = i then k else m

theorem turn_turn (i k m : Nat) : turn i k (turn i k m) = m := by
  unfold turn
  repeat' split
  all_goals omega

theorem turn_lt {i k m n : Nat} (hi : i < n) (hk : k < n) (hm : m < n) : turn i k m < n := by
  unfold turn
  repeat' split
  all_goals omega

/-- Columns i and k changed. -/
def sw (l : List ByteArray) (i k : Nat) (hi : i < l.length) (hk : k < l.length) : List ByteArray := (l.set i l[k]).set k l[i]

theorem sw_length (l : List ByteArray) (i k : Nat) (hi : i < l.length) (hk : k < l.length) : (sw l i k hi hk).length = l.length := by simp [sw]

theorem sw_get (l : List ByteArray) (i k : Nat) (hi : i < l.length) (hk : k < l.length) (m : Nat) (hm : m < l.length) :
    (sw l i k hi hk)[m]'(by rw [sw_length]; exact hm) = l[turn i k m]'(turn_lt hi hk hm) := by
  unfold sw
  rw [List.getElem_set, List.getElem_set]
  unfold turn
  by_cases h1 : m = k
  · subst h1; simp
  · rw [if_neg (fun e => h1 e.symm)]
    by_cases h2 : m = i
    · subst h2; simp [h1]
    · rw [if_neg (fun e => h2 e.symm)]; simp [h1, h2]

theorem sw_mem {l : List ByteArray} {i k : Nat} {hi : i < l.length} {hk : k < l.length} {x : ByteArray} (h : x ∈ sw l i k hi hk) : x ∈ l := by
  obtain ⟨m, hm, rfl⟩ := List.getElem_of_mem h
  have hm' : m < l.length := by rw [sw_length] at hm; exact hm
  rw [sw_get l i k hi hk m hm']
  exact List.getElem_mem _

theorem sw_distinct {l : List ByteArray} {i k : Nat} {hi : i < l.length} {hk : k < l.length} (hd : Distinct l) : Distinct (sw l i k hi hk) := by
  intro a b ha hb e
  have ha' : a < l.length := by rw [sw_length] at ha; exact ha
  have hb' : b < l.length := by rw [sw_length] at hb; exact hb
  rw [sw_get l i k hi hk a ha', sw_get l i k hi hk b hb'] at e
  have h := hd _ _ _ _ e
  rw [← turn_turn i k a, h, turn_turn]

theorem sw_pos_some {l : List ByteArray} {i k : Nat} {hi : i < l.length} {hk : k < l.length} (hd : Distinct l) {s : ByteArray} {j : Nat} (h : pos l s = some j) : pos (sw l i k hi hk) s = some (turn i k j) := by
  obtain ⟨hj, he, _⟩ := pos_some.1 h
  have ht := turn_lt hi hk hj
  have e1 := sw_get l i k hi hk (turn i k j) ht
  have e2 : l[turn i k (turn i k j)]'(turn_lt hi hk ht) = s := by
    have : turn i k (turn i k j) = j := turn_turn i k j
    simp only [this]; exact he
  rw [e2] at e1
  have hl : turn i k j < (sw l i k hi hk).length := by rw [sw_length]; exact ht
  have := pos_distinct (sw_distinct (hi := hi) (hk := hk) hd) hl
  rwa [e1] at this

theorem sw_pos_none {l : List ByteArray} {i k : Nat} {hi : i < l.length} {hk : k < l.length} {s : ByteArray} (h : pos l s = none) : pos (sw l i k hi hk) s = none := by
  rw [pos_none]
  intro j hj e
  have hm : s ∈ l := by
    have := List.getElem_mem hj
    rw [e] at this
    exact sw_mem this
  have h2 := pos_mem.2 hm
  rw [h] at h2
  cases h2

end Go.Proofs.Qxb6616934a.Pl
