/-
  FnIsDigitsCutsAndInsertsAnywhere: her walks.
-/
import Derived.Test.Qxb6619695aCutsA
namespace Go.Proofs.Qxb6619695a.fnIsDigitsCutsAndInsertsAnywhere
open Go.RowKit
open Go.Proofs.Qxb6619695a.Dg

set_option maxRecDepth 100000 in
set_option maxHeartbeats 4000000 in
theorem walk_above (s : ByteArray) (k : Nat) (b : UInt8) (n : Int) (hs : s.size ≤ 65536) (hk : k ≤ s.size) (hn0 : 0 ≤ n) (hn1 : n ≤ 18446744073709551615) (w : World)
    (bS bL bR pS pL pR : Bool) (eS : s.toList.isEmpty = bS) (eL : (s.extract 0 k).toList.isEmpty = bL) (eR : (s.extract k s.size).toList.isEmpty = bR)
    (dS : digA s = pS) (dL : digA (s.extract 0 k) = pL) (dR : digA (s.extract k s.size) = pR)
    (hp : pS = (!bS && ((bL || pL) && (bR || pR))))
    (hb : 57 < b.toNat) (hC : digA (s.extract 0 k ++ { data := #[b] } ++ s.extract k s.size) = false)
    (HT : Hid (∀ t : ByteArray, digA t = true → t.size ≤ 20 → digA (s.extract 0 k ++ t ++ s.extract k s.size) = (bS || pS))) :
    Calls Try.prog 6 #[.string s, .int .i64 k, .int .u8 (b.toNat : Int), .int .u64 n] w fun e w' => e = .returned (.bool true) ∧ Grown w w' := by
  have hs0 : s.size ≤ maxLen := by unfold maxLen; omega
  have d1 : decide (s.size ≤ 1048576) = true := by simp; omega
  have hlz : (s.extract 0 k).size ≤ 65536 := by simp [ByteArray.size_extract]; omega
  have hrz : (s.extract k s.size).size ≤ 65536 := by simp [ByteArray.size_extract]; omega
  have hcv := conv_one b
  cases bS
  · cases bL
    · cases pL
      · obtain rfl : pS = false := by rw [hp]; rfl
        clear hp
        go_enter Try.func6, Try.ntmps6
        go_wp2_with (first | (go_at_call 11; refine (bytes11 _ _ _ _ _ hs0).mono ?_; rintro e w' ⟨rfl, rfl⟩) | (go_at_call 12; refine (dec _ _ hn0 hn1).mono ?_; rintro e w' ⟨t, rfl, dT, hT, hgt⟩; have htt := HT.out t dT hT) | (go_at_call 13; refine (zzd _ _ (by first | omega | (simp only [ByteArray.size_append, sz_one]; omega))).mono ?_; rintro e w' ⟨rfl, hg⟩))
        go_ret
        exact ⟨rfl, by repeat (first | exact Grown.refl _ | assumption | refine grown_trans ?_ (by assumption) | apply Grown.alloc)⟩
      · cases bR
        · cases pR
          · obtain rfl : pS = false := by rw [hp]; rfl
            clear hp
            go_enter Try.func6, Try.ntmps6
            go_wp2_with (first | (go_at_call 11; refine (bytes11 _ _ _ _ _ hs0).mono ?_; rintro e w' ⟨rfl, rfl⟩) | (go_at_call 12; refine (dec _ _ hn0 hn1).mono ?_; rintro e w' ⟨t, rfl, dT, hT, hgt⟩; have htt := HT.out t dT hT) | (go_at_call 13; refine (zzd _ _ (by first | omega | (simp only [ByteArray.size_append, sz_one]; omega))).mono ?_; rintro e w' ⟨rfl, hg⟩))
            go_ret
            exact ⟨rfl, by repeat (first | exact Grown.refl _ | assumption | refine grown_trans ?_ (by assumption) | apply Grown.alloc)⟩
          · obtain rfl : pS = true := by rw [hp]; rfl
            clear hp
            go_enter Try.func6, Try.ntmps6
            go_wp2_with (first | (go_at_call 11; refine (bytes11 _ _ _ _ _ hs0).mono ?_; rintro e w' ⟨rfl, rfl⟩) | (go_at_call 12; refine (dec _ _ hn0 hn1).mono ?_; rintro e w' ⟨t, rfl, dT, hT, hgt⟩; have htt := HT.out t dT hT) | (go_at_call 13; refine (zzd _ _ (by first | omega | (simp only [ByteArray.size_append, sz_one]; omega))).mono ?_; rintro e w' ⟨rfl, hg⟩))
            go_ret
            exact ⟨rfl, by repeat (first | exact Grown.refl _ | assumption | refine grown_trans ?_ (by assumption) | apply Grown.alloc)⟩
        · obtain rfl : pS = true := by rw [hp]; rfl
          clear hp
          go_enter Try.func6, Try.ntmps6
          go_wp2_with (first | (go_at_call 11; refine (bytes11 _ _ _ _ _ hs0).mono ?_; rintro e w' ⟨rfl, rfl⟩) | (go_at_call 12; refine (dec _ _ hn0 hn1).mono ?_; rintro e w' ⟨t, rfl, dT, hT, hgt⟩; have htt := HT.out t dT hT) | (go_at_call 13; refine (zzd _ _ (by first | omega | (simp only [ByteArray.size_append, sz_one]; omega))).mono ?_; rintro e w' ⟨rfl, hg⟩))
          go_ret
          exact ⟨rfl, by repeat (first | exact Grown.refl _ | assumption | refine grown_trans ?_ (by assumption) | apply Grown.alloc)⟩
    · cases bR
      · cases pR
        · obtain rfl : pS = false := by rw [hp]; rfl
          clear hp
          go_enter Try.func6, Try.ntmps6
          go_wp2_with (first | (go_at_call 11; refine (bytes11 _ _ _ _ _ hs0).mono ?_; rintro e w' ⟨rfl, rfl⟩) | (go_at_call 12; refine (dec _ _ hn0 hn1).mono ?_; rintro e w' ⟨t, rfl, dT, hT, hgt⟩; have htt := HT.out t dT hT) | (go_at_call 13; refine (zzd _ _ (by first | omega | (simp only [ByteArray.size_append, sz_one]; omega))).mono ?_; rintro e w' ⟨rfl, hg⟩))
          go_ret
          exact ⟨rfl, by repeat (first | exact Grown.refl _ | assumption | refine grown_trans ?_ (by assumption) | apply Grown.alloc)⟩
        · obtain rfl : pS = true := by rw [hp]; rfl
          clear hp
          go_enter Try.func6, Try.ntmps6
          go_wp2_with (first | (go_at_call 11; refine (bytes11 _ _ _ _ _ hs0).mono ?_; rintro e w' ⟨rfl, rfl⟩) | (go_at_call 12; refine (dec _ _ hn0 hn1).mono ?_; rintro e w' ⟨t, rfl, dT, hT, hgt⟩; have htt := HT.out t dT hT) | (go_at_call 13; refine (zzd _ _ (by first | omega | (simp only [ByteArray.size_append, sz_one]; omega))).mono ?_; rintro e w' ⟨rfl, hg⟩))
          go_ret
          exact ⟨rfl, by repeat (first | exact Grown.refl _ | assumption | refine grown_trans ?_ (by assumption) | apply Grown.alloc)⟩
      · obtain rfl : pS = true := by rw [hp]; rfl
        clear hp
        go_enter Try.func6, Try.ntmps6
        go_wp2_with (first | (go_at_call 11; refine (bytes11 _ _ _ _ _ hs0).mono ?_; rintro e w' ⟨rfl, rfl⟩) | (go_at_call 12; refine (dec _ _ hn0 hn1).mono ?_; rintro e w' ⟨t, rfl, dT, hT, hgt⟩; have htt := HT.out t dT hT) | (go_at_call 13; refine (zzd _ _ (by first | omega | (simp only [ByteArray.size_append, sz_one]; omega))).mono ?_; rintro e w' ⟨rfl, hg⟩))
        go_ret
        exact ⟨rfl, by repeat (first | exact Grown.refl _ | assumption | refine grown_trans ?_ (by assumption) | apply Grown.alloc)⟩
  · obtain rfl : pS = false := by rw [hp]; rfl
    clear hp
    go_enter Try.func6, Try.ntmps6
    go_wp2_with (first | (go_at_call 11; refine (bytes11 _ _ _ _ _ hs0).mono ?_; rintro e w' ⟨rfl, rfl⟩) | (go_at_call 12; refine (dec _ _ hn0 hn1).mono ?_; rintro e w' ⟨t, rfl, dT, hT, hgt⟩; have htt := HT.out t dT hT) | (go_at_call 13; refine (zzd _ _ (by first | omega | (simp only [ByteArray.size_append, sz_one]; omega))).mono ?_; rintro e w' ⟨rfl, hg⟩))
    go_ret
    exact ⟨rfl, by repeat (first | exact Grown.refl _ | assumption | refine grown_trans ?_ (by assumption) | apply Grown.alloc)⟩
end Go.Proofs.Qxb6619695a.fnIsDigitsCutsAndInsertsAnywhere
