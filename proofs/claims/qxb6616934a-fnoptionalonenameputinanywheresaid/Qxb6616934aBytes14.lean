/-
  The contract of the bound on total length.
-/
import Derived.Test.Qxb6616934aAnyBool
namespace Go.Proofs.Qxb6616934a.Bs
open Go.RowKit Go.WideMaps Go.Maps

set_option maxRecDepth 100000 in
set_option maxHeartbeats 4000000 in
theorem bytes14 (a0 : Option Addr) (cap0 : Nat) (xs0 : List ByteArray) (n1 : Int) (a2 : Option Addr) (cap2 : Nat) (xs2 : List ByteArray) (n3 : Int) (s4 : ByteArray) (w : World) (B0 : Nat) (hx0 : IsStrs B0 w a0 xs0) (hl0 : xs0.length ≤ maxLen) (B2 : Nat) (hx2 : IsStrs B2 w a2 xs2) (hl2 : xs2.length ≤ maxLen) (hs4 : s4.size ≤ maxLen) :
    Calls Try.prog 14 #[.slice a0 xs0.length cap0, .int .i64 n1, .slice a2 xs2.length cap2, .int .i64 n3, .string s4] w fun e w' => AnyBool e ∧ w' = w := by
  unfold maxLen at hl0
  unfold maxLen at hl2
  unfold maxLen at hs4
  go_enter Try.func14, Try.ntmps14
  by_cases hL0 : xs0.length ≤ 1048576
  · have _hT0 : (0 : Int) + (xs0.length : Int) ≤ 1048576 := by omega
    go_wp2
    go_loop [11, 12] (fun z i => ∃ (k : Nat) (t : Int), k ≤ xs0.length ∧ i = .int .i64 k ∧ z = .int .i64 t ∧ 0 ≤ t ∧ t ≤ 1048576) (fun _ i => xs0.length - (intOf i).toNat)
    case atStart => exact ⟨0, (0 : Int) + (xs0.length : Int), Nat.zero_le _, rfl, by go_num, by omega, by omega⟩
    case round =>
      obtain ⟨k0, t0, hk0, rfl, rfl, ht0, hu0⟩ := hrel
      by_cases hlt0 : k0 < xs0.length
      · obtain ⟨b, o, hix, hb, hc⟩ := hx0.at k0 hlt0
        have hsz := hx0.size k0 hlt0
        obtain ⟨x, hxe⟩ : ∃ x, xs0[k0] = x := ⟨_, rfl⟩
        rw [hxe] at hc hsz
        clear hxe
        by_cases hg : x.size ≤ 1048576
        · by_cases hg2 : t0 + (x.size : Int) ≤ 1048576
          · go_wp2
            go_round
            case rel => exact ⟨k0 + 1, t0 + x.size, by omega, by go_num, rfl, by omega, by omega⟩
            case measure => simp [intOf]; omega
          · go_wp2
            go_ret
            exact ⟨⟨_, rfl⟩, rfl⟩
        · go_wp2
          go_ret
          exact ⟨⟨_, rfl⟩, rfl⟩
      · have _e0 := hlt0
        by_cases hL2 : xs2.length ≤ 1048576
        · by_cases hT2 : t0 + (xs2.length : Int) ≤ 1048576
          · go_wp2
            go_loop [11, 13] (fun z i => ∃ (k : Nat) (t : Int), k ≤ xs2.length ∧ i = .int .i64 k ∧ z = .int .i64 t ∧ 0 ≤ t ∧ t ≤ 1048576) (fun _ i => xs2.length - (intOf i).toNat)
            case atStart => exact ⟨0, t0 + (xs2.length : Int), Nat.zero_le _, rfl, by go_num, by omega, by omega⟩
            case round =>
              obtain ⟨k2, t2, hk2, rfl, rfl, ht2, hu2⟩ := hrel
              by_cases hlt2 : k2 < xs2.length
              · obtain ⟨b, o, hix, hb, hc⟩ := hx2.at k2 hlt2
                have hsz := hx2.size k2 hlt2
                obtain ⟨x, hxe⟩ : ∃ x, xs2[k2] = x := ⟨_, rfl⟩
                rw [hxe] at hc hsz
                clear hxe
                by_cases hg : x.size ≤ 1048576
                · by_cases hg2 : t2 + (x.size : Int) ≤ 1048576
                  · go_wp2
                    go_round
                    case rel => exact ⟨k2 + 1, t2 + x.size, by omega, by go_num, rfl, by omega, by omega⟩
                    case measure => simp [intOf]; omega
                  · go_wp2
                    go_ret
                    exact ⟨⟨_, rfl⟩, rfl⟩
                · go_wp2
                  go_ret
                  exact ⟨⟨_, rfl⟩, rfl⟩
              · have _e2 := hlt2
                by_cases hL4 : s4.size ≤ 1048576
                · by_cases hT4 : t2 + (s4.size : Int) ≤ 1048576
                  · have _e := hT4
                    go_wp2
                    go_ret
                    exact ⟨⟨_, rfl⟩, rfl⟩
                  · go_wp2
                    go_ret
                    exact ⟨⟨_, rfl⟩, rfl⟩
                · go_wp2
                  go_ret
                  exact ⟨⟨_, rfl⟩, rfl⟩
          · go_wp2
            go_ret
            exact ⟨⟨_, rfl⟩, rfl⟩
        · go_wp2
          go_ret
          exact ⟨⟨_, rfl⟩, rfl⟩
  · go_wp2
    go_ret
    exact ⟨⟨_, rfl⟩, rfl⟩

end Go.Proofs.Qxb6616934a.Bs
