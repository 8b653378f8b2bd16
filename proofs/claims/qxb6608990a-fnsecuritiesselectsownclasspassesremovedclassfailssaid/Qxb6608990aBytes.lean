/-
  The guard on the arguments' length: it answers, and turns nothing.
-/
import Derived.Test.Qxb6608990aParts
namespace Go.Proofs.Qxb6608990a
open Go.RowKit

/-- It answers a bool. -/
def AnyBool (e : Ending) : Prop := ∃ r : Bool, e = .returned (.bool r)
theorem AnyBool.mk (r : Bool) : AnyBool (.returned (.bool r)) := ⟨r, rfl⟩

set_option maxHeartbeats 2000000 in
/-- The guard on the arguments' length answers something, and turns nothing. -/
theorem bytes6_any (a0 : Option Addr) (n0 c0 : Nat) (s0 : List ByteArray) (a1 : Option Addr) (n1 c1 : Nat) (s1 : List ByteArray) (a3 : Option Addr) (n3 c3 : Nat) (s3 : List ByteArray) (v : ByteArray) (hv : v.size ≤ maxLen) (at' : Int) (w : World) (h0 : Strs w a0 n0 s0) (h1 : Strs w a1 n1 s1) (h3 : Strs w a3 n3 s3) :
    Calls Try.prog 6 #[.slice a0 n0 c0, .slice a1 n1 c1, .string v, .slice a3 n3 c3, .int .i64 at'] w fun e w' => AnyBool e ∧ w' = w := by
  have hmh0 := h0.2.2.1
  have Hh0 : Hid (Strs w a0 n0 s0) := h0
  have hmh1 := h1.2.2.1
  have Hh1 : Hid (Strs w a1 n1 s1) := h1
  have hmh3 := h3.2.2.1
  have Hh3 : Hid (Strs w a3 n3 s3) := h3
  clear h0 h1 h3
  unfold maxLen at hmh0 hmh1 hmh3 hv
  by_cases hbig0 : 1048576 < n0
  · go_enter Try.func6, Try.ntmps6
    go_wp2
    go_ret
    exact ⟨AnyBool.mk _, rfl⟩
  go_enter Try.func6, Try.ntmps6
  go_wp2
  go_loop [11, 12] (fun c i => ∃ k : Nat, k ≤ n0 ∧ i = .int .i64 k ∧ ∃ r : Int, 0 ≤ r ∧ r ≤ 1048576 ∧ c = .int .i64 r) (fun _ i => n0 - (intOf i).toNat)
  case atStart => exact ⟨0, Nat.zero_le _, rfl, _, by omega, by omega, rfl⟩
  case round =>
    obtain ⟨k0, hk0, rfl, r0, hr00, hr01, rfl⟩ := hrel
    by_cases hlt0 : k0 < n0
    · obtain ⟨b, off, rfl, hb, hc⟩ := Hh0.out.2.2.2 (by omega)
      have hck := hc k0 hlt0
      have hsz := Hh0.out.size_at k0
      generalize s0.getD k0 ByteArray.empty = s at hck hsz
      unfold maxLen at hsz
      clear hc hb
      by_cases h1 : 1048576 < (s.size : Int)
      · go_wp2
        go_ret
        exact ⟨AnyBool.mk _, rfl⟩
      by_cases h2 : 1048576 < r0 + (s.size : Int)
      · go_wp2
        go_ret
        exact ⟨AnyBool.mk _, rfl⟩
      · go_wp2
        go_round
        case rel => exact ⟨k0 + 1, by omega, by go_num, r0 + s.size, by omega, by omega, rfl⟩
        case measure => simp [intOf]; omega
    have e0 : k0 = n0 := by omega
    subst e0
    by_cases hbig1 : 1048576 < n1
    · go_wp2
      go_ret
      exact ⟨AnyBool.mk _, rfl⟩
    by_cases hsum1 : 1048576 < r0 + (n1 : Int)
    · go_wp2
      go_ret
      exact ⟨AnyBool.mk _, rfl⟩
    go_wp2
    go_loop [11, 13] (fun c i => ∃ k : Nat, k ≤ n1 ∧ i = .int .i64 k ∧ ∃ r : Int, 0 ≤ r ∧ r ≤ 1048576 ∧ c = .int .i64 r) (fun _ i => n1 - (intOf i).toNat)
    case atStart => exact ⟨0, Nat.zero_le _, rfl, _, by omega, by omega, rfl⟩
    case round =>
      obtain ⟨k1, hk1, rfl, r1, hr10, hr11, rfl⟩ := hrel
      by_cases hlt1 : k1 < n1
      · obtain ⟨b, off, rfl, hb, hc⟩ := Hh1.out.2.2.2 (by omega)
        have hck := hc k1 hlt1
        have hsz := Hh1.out.size_at k1
        generalize s1.getD k1 ByteArray.empty = s at hck hsz
        unfold maxLen at hsz
        clear hc hb
        by_cases h1 : 1048576 < (s.size : Int)
        · go_wp2
          go_ret
          exact ⟨AnyBool.mk _, rfl⟩
        by_cases h2 : 1048576 < r1 + (s.size : Int)
        · go_wp2
          go_ret
          exact ⟨AnyBool.mk _, rfl⟩
        · go_wp2
          go_round
          case rel => exact ⟨k1 + 1, by omega, by go_num, r1 + s.size, by omega, by omega, rfl⟩
          case measure => simp [intOf]; omega
      have e1 : k1 = n1 := by omega
      subst e1
      by_cases hsv : 1048576 < (v.size : Int)
      · go_wp2
        go_ret
        exact ⟨AnyBool.mk _, rfl⟩
      by_cases hsv2 : 1048576 < r1 + (v.size : Int)
      · go_wp2
        go_ret
        exact ⟨AnyBool.mk _, rfl⟩
      by_cases hbig2 : 1048576 < n3
      · go_wp2
        go_ret
        exact ⟨AnyBool.mk _, rfl⟩
      by_cases hsum2 : 1048576 < r1 + (v.size : Int) + (n3 : Int)
      · go_wp2
        go_ret
        exact ⟨AnyBool.mk _, rfl⟩
      go_wp2
      go_loop [11, 14] (fun c i => ∃ k : Nat, k ≤ n3 ∧ i = .int .i64 k ∧ ∃ r : Int, 0 ≤ r ∧ r ≤ 1048576 ∧ c = .int .i64 r) (fun _ i => n3 - (intOf i).toNat)
      case atStart => exact ⟨0, Nat.zero_le _, rfl, _, by omega, by omega, rfl⟩
      case round =>
        obtain ⟨k2, hk2, rfl, r2, hr20, hr21, rfl⟩ := hrel
        by_cases hlt2 : k2 < n3
        · obtain ⟨b, off, rfl, hb, hc⟩ := Hh3.out.2.2.2 (by omega)
          have hck := hc k2 hlt2
          have hsz := Hh3.out.size_at k2
          generalize s3.getD k2 ByteArray.empty = s at hck hsz
          unfold maxLen at hsz
          clear hc hb
          by_cases h1 : 1048576 < (s.size : Int)
          · go_wp2
            go_ret
            exact ⟨AnyBool.mk _, rfl⟩
          by_cases h2 : 1048576 < r2 + (s.size : Int)
          · go_wp2
            go_ret
            exact ⟨AnyBool.mk _, rfl⟩
          · go_wp2
            go_round
            case rel => exact ⟨k2 + 1, by omega, by go_num, r2 + s.size, by omega, by omega, rfl⟩
            case measure => simp [intOf]; omega
        have e2 : k2 = n3 := by omega
        subst e2
        go_wp2
        go_ret
        exact ⟨AnyBool.mk _, rfl⟩

end Go.Proofs.Qxb6608990a
