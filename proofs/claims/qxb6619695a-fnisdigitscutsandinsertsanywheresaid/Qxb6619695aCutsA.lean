/-
  FnIsDigitsCutsAndInsertsAnywhere: her walks.
-/
import Derived.Test.Qxb6619695aDec
import Derived.Laws.Concat
namespace Go.Proofs.Qxb6619695a.fnIsDigitsCutsAndInsertsAnywhere
open Go.RowKit
open Go.Proofs.Qxb6619695a.Dg

/-- What 'isDigits' answers, of the text. -/
def digA (s : ByteArray) : Bool := digB s.data.toList

theorem zzd (s : ByteArray) (w : World) (hs : s.size ≤ 200000) :
    Calls Try.prog 13 #[.string s] w fun e w' => e = .returned (.bool (digA s)) ∧ Grown w w' := zzdigits_any s w (by unfold maxLen; omega)

theorem dec (n : Int) (w : World) (h0 : 0 ≤ n) (h1 : n ≤ 18446744073709551615) :
    Calls Try.prog 12 #[.int .u64 n] w fun e w' => ∃ t : ByteArray, e = .returned (.string t) ∧ digA t = true ∧ t.size ≤ 20 ∧ Grown w w' := dec_any n w h0 h1

theorem sz_one (b : UInt8) : ({ data := #[b] } : ByteArray).size = 1 := rfl

theorem conv_one (b : UInt8) (w : World) : (convert 30 9 (.slice (some ⟨w.heap.size, 0, none⟩) 1 1)).run Try.prog (w.alloc (.cells #[.int .u8 (b.toNat : Int)] 5)) = .ok (.string ⟨#[b]⟩) (w.alloc (.cells #[.int .u8 (b.toNat : Int)] 5)) :=
  run_convert_bytes_back (P := Try.prog) (w.alloc (.cells #[.int .u8 (b.toNat : Int)] 5)) 30 9 5 ⟨w.heap.size, 0, none⟩ 1 [b] Try.underlying30 Try.underlying5 Try.underlying9 (fun j hj => by
    have hj0 : j = 0 := by simpa using hj
    subst hj0
    have ea : (⟨w.heap.size, 0, none⟩ : Addr).add 0 = ⟨w.heap.size, 0, none⟩ := by simp [Addr.add]
    rw [ea]
    exact World.cell?_alloc_mark w #[.int .u8 (b.toNat : Int)] 5 _ 0)

set_option maxRecDepth 100000 in
set_option maxHeartbeats 4000000 in
theorem walk_in (s : ByteArray) (k : Nat) (b : UInt8) (n : Int) (hs : s.size ≤ 65536) (hk : k ≤ s.size) (hn0 : 0 ≤ n) (hn1 : n ≤ 18446744073709551615) (w : World)
    (bS bL bR pS pL pR : Bool) (eS : s.toList.isEmpty = bS) (eL : (s.extract 0 k).toList.isEmpty = bL) (eR : (s.extract k s.size).toList.isEmpty = bR)
    (dS : digA s = pS) (dL : digA (s.extract 0 k) = pL) (dR : digA (s.extract k s.size) = pR)
    (hp : pS = (!bS && ((bL || pL) && (bR || pR))))
    (hb : 48 ≤ b.toNat ∧ b.toNat ≤ 57) (hC : digA (s.extract 0 k ++ { data := #[b] } ++ s.extract k s.size) = (bS || pS))
    (HT : Hid (∀ t : ByteArray, digA t = true → t.size ≤ 20 → digA (s.extract 0 k ++ t ++ s.extract k s.size) = (bS || pS))) :
    Calls Try.prog 6 #[.string s, .int .i64 k, .int .u8 (b.toNat : Int), .int .u64 n] w fun e w' => e = .returned (.bool true) ∧ Grown w w' := by
  have hs0 : s.size ≤ maxLen := by unfold maxLen; omega
  have d1 : decide (s.size ≤ 1048576) = true := by simp; omega
  have hlz : (s.extract 0 k).size ≤ 65536 := by simp [ByteArray.size_extract]; omega
  have hrz : (s.extract k s.size).size ≤ 65536 := by simp [ByteArray.size_extract]; omega
  have hcv := conv_one b
  obtain ⟨hb1, hb2⟩ := hb
  cases bS
  · cases bL
    · cases pL
      · obtain rfl : pS = false := by rw [hp]; rfl
        clear hp
        go_enter Try.func6, Try.ntmps6
        go_wp2_with (first | (go_at_call 11; refine (bytes11 _ _ _ _ _ hs0).mono ?_; rintro e w' ⟨rfl, rfl⟩) | (go_at_call 12; refine (dec _ _ hn0 hn1).mono ?_; rintro e w' ⟨t, rfl, dT, hT, hgt⟩; have htt := HT.out t dT hT) | (go_at_call 13; refine (zzd _ _ (by first | omega | (simp only [ByteArray.size_append, sz_one]; omega))).mono ?_; rintro e w' ⟨rfl, hg⟩))
        go_ret
        exact ⟨rfl, by repeat (first | exact Grown.refl _ | assumption | refine grown_trans ?_ (by assumption) | apply Grown.alloc)⟩
      · cases bR
        · cases pR
          · obtain rfl : pS = false := by rw [hp]; rfl
            clear hp
            go_enter Try.func6, Try.ntmps6
            go_wp2_with (first | (go_at_call 11; refine (bytes11 _ _ _ _ _ hs0).mono ?_; rintro e w' ⟨rfl, rfl⟩) | (go_at_call 12; refine (dec _ _ hn0 hn1).mono ?_; rintro e w' ⟨t, rfl, dT, hT, hgt⟩; have htt := HT.out t dT hT) | (go_at_call 13; refine (zzd _ _ (by first | omega | (simp only [ByteArray.size_append, sz_one]; omega))).mono ?_; rintro e w' ⟨rfl, hg⟩))
            go_ret
            exact ⟨rfl, by repeat (first | exact Grown.refl _ | assumption | refine grown_trans ?_ (by assumption) | apply Grown.alloc)⟩
          · obtain rfl : pS = true := by rw [hp]; rfl
            clear hp
            go_enter Try.func6, Try.ntmps6
            go_wp2_with (first | (go_at_call 11; refine (bytes11 _ _ _ _ _ hs0).mono ?_; rintro e w' ⟨rfl, rfl⟩) | (go_at_call 12; refine (dec _ _ hn0 hn1).mono ?_; rintro e w' ⟨t, rfl, dT, hT, hgt⟩; have htt := HT.out t dT hT) | (go_at_call 13; refine (zzd _ _ (by first | omega | (simp only [ByteArray.size_append, sz_one]; omega))).mono ?_; rintro e w' ⟨rfl, hg⟩))
            go_ret
            exact ⟨rfl, by repeat (first | exact Grown.refl _ | assumption | refine grown_trans ?_ (by assumption) | apply Grown.alloc)⟩
        · obtain rfl : pS = true := by rw [hp]; rfl
          clear hp
          go_enter Try.func6, Try.ntmps6
          go_wp2_with (first | (go_at_call 11; refine (bytes11 _ _ _ _ _ hs0).mono ?_; rintro e w' ⟨rfl, rfl⟩) | (go_at_call 12; refine (dec _ _ hn0 hn1).mono ?_; rintro e w' ⟨t, rfl, dT, hT, hgt⟩; have htt := HT.out t dT hT) | (go_at_call 13; refine (zzd _ _ (by first | omega | (simp only [ByteArray.size_append, sz_one]; omega))).mono ?_; rintro e w' ⟨rfl, hg⟩))
          go_ret
          exact ⟨rfl, by repeat (first | exact Grown.refl _ | assumption | refine grown_trans ?_ (by assumption) | apply Grown.alloc)⟩
    · cases bR
      · cases pR
        · obtain rfl : pS = false := by rw [hp]; rfl
          clear hp
          go_enter Try.func6, Try.ntmps6
          go_wp2_with (first | (go_at_call 11; refine (bytes11 _ _ _ _ _ hs0).mono ?_; rintro e w' ⟨rfl, rfl⟩) | (go_at_call 12; refine (dec _ _ hn0 hn1).mono ?_; rintro e w' ⟨t, rfl, dT, hT, hgt⟩; have htt := HT.out t dT hT) | (go_at_call 13; refine (zzd _ _ (by first | omega | (simp only [ByteArray.size_append, sz_one]; omega))).mono ?_; rintro e w' ⟨rfl, hg⟩))
          go_ret
          exact ⟨rfl, by repeat (first | exact Grown.refl _ | assumption | refine grown_trans ?_ (by assumption) | apply Grown.alloc)⟩
        · obtain rfl : pS = true := by rw [hp]; rfl
          clear hp
          go_enter Try.func6, Try.ntmps6
          go_wp2_with (first | (go_at_call 11; refine (bytes11 _ _ _ _ _ hs0).mono ?_; rintro e w' ⟨rfl, rfl⟩) | (go_at_call 12; refine (dec _ _ hn0 hn1).mono ?_; rintro e w' ⟨t, rfl, dT, hT, hgt⟩; have htt := HT.out t dT hT) | (go_at_call 13; refine (zzd _ _ (by first | omega | (simp only [ByteArray.size_append, sz_one]; omega))).mono ?_; rintro e w' ⟨rfl, hg⟩))
          go_ret
          exact ⟨rfl, by repeat (first | exact Grown.refl _ | assumption | refine grown_trans ?_ (by assumption) | apply Grown.alloc)⟩
      · obtain rfl : pS = true := by rw [hp]; rfl
        clear hp
        go_enter Try.func6, Try.ntmps6
        go_wp2_with (first | (go_at_call 11; refine (bytes11 _ _ _ _ _ hs0).mono ?_; rintro e w' ⟨rfl, rfl⟩) | (go_at_call 12; refine (dec _ _ hn0 hn1).mono ?_; rintro e w' ⟨t, rfl, dT, hT, hgt⟩; have htt := HT.out t dT hT) | (go_at_call 13; refine (zzd _ _ (by first | omega | (simp only [ByteArray.size_append, sz_one]; omega))).mono ?_; rintro e w' ⟨rfl, hg⟩))
        go_ret
        exact ⟨rfl, by repeat (first | exact Grown.refl _ | assumption | refine grown_trans ?_ (by assumption) | apply Grown.alloc)⟩
  · obtain rfl : pS = false := by rw [hp]; rfl
    clear hp
    go_enter Try.func6, Try.ntmps6
    go_wp2_with (first | (go_at_call 11; refine (bytes11 _ _ _ _ _ hs0).mono ?_; rintro e w' ⟨rfl, rfl⟩) | (go_at_call 12; refine (dec _ _ hn0 hn1).mono ?_; rintro e w' ⟨t, rfl, dT, hT, hgt⟩; have htt := HT.out t dT hT) | (go_at_call 13; refine (zzd _ _ (by first | omega | (simp only [ByteArray.size_append, sz_one]; omega))).mono ?_; rintro e w' ⟨rfl, hg⟩))
    go_ret
    exact ⟨rfl, by repeat (first | exact Grown.refl _ | assumption | refine grown_trans ?_ (by assumption) | apply Grown.alloc)⟩
end Go.Proofs.Qxb6619695a.fnIsDigitsCutsAndInsertsAnywhere
