/-
  The set's method Has; zzBytes_FnHasByNameAllStandsForItself; the walk of FnHasByNameAllStandsForItself.
-/
import Derived.Test.Qxb6615580aParts
namespace Go.Proofs.Qxb6615580a
open Go.RowKit Go.Maps Go.WideMaps

/-- The name of all channels. -/
def star : ByteArray := ⟨#[42]⟩

theorem byName_val (g n : Nat) (D : DataW Unit) (s : ByteArray) (r : Bool) (w : World) (hs : s.size ≤ maxLen) (hown : w.ownsMap Try.prog 9 unitElem g n D) (hr : Hid (Maps.has D (.string s.data.toList) = r)) :
    Calls Try.prog 11 #[.map (some g), .string s] w fun e w' => e = .returned (.bool r) ∧ ∃ o, w' = w.alloc o := by
  have h := byName_any g n D s w hs hown
  rw [hr.out] at h
  exact h

/-- Has: the name of all channels, or the name itself. -/
theorem hasM_any (g n : Nat) (D : DataW Unit) (s : ByteArray) (ra rn : Bool) (w : World) (hs : s.size ≤ maxLen) (hown : w.ownsMap Try.prog 9 unitElem g n D)
    (ha : Hid (Maps.has D (.string star.data.toList) = ra)) (hn : Hid (Maps.has D (.string s.data.toList) = rn)) :
    Calls Try.prog 12 #[.map (some g), .string s] w fun e w' => e = .returned (.bool (ra || rn)) ∧ Below w.heap.size w w' ∧ w'.ownsMap Try.prog 9 unitElem g n D := by
  have hst : star.size ≤ maxLen := by decide
  cases ra
  · go_enter Try.func12, Try.ntmps12
    go_wp2_with fail
    refine (byName_val g n D ⟨#[42]⟩ false _ hst hown ha).mono ?_
    rintro e w' ⟨rfl, o, rfl⟩
    go_wp2_with fail
    refine (byName_val g n D s rn _ hs (hown.alloc o) hn).mono ?_
    rintro e w' ⟨rfl, o', rfl⟩
    go_wp2
    go_ret
    exact ⟨rfl, ((Below.refl _ _).alloc (Nat.le_refl _) _).alloc (by simp) _, (hown.alloc o).alloc o'⟩
  · go_enter Try.func12, Try.ntmps12
    go_wp2_with fail
    refine (byName_val g n D ⟨#[42]⟩ true _ hst hown ha).mono ?_
    rintro e w' ⟨rfl, o, rfl⟩
    go_wp2
    go_ret
    exact ⟨rfl, (Below.refl _ _).alloc (Nat.le_refl _) _, hown.alloc o⟩

/-- It answers a bool. -/
def AnyBool (e : Ending) : Prop := ∃ r : Bool, e = .returned (.bool r)
theorem AnyBool.mk (r : Bool) : AnyBool (.returned (.bool r)) := ⟨r, rfl⟩

theorem has_val (a : Option Addr) (n cap : Nat) (ss : List ByteArray) (v : ByteArray) (r : Bool) (w : World) (h : Strs w a n ss) (hr : Hid (hasB ss v = r)) :
    Calls Try.prog 10 #[.slice a n cap, .string v] w fun e w' => e = .returned (.bool r) ∧ w' = w := by
  have h := has_any a n cap ss v w h
  rw [hr.out] at h
  exact h

/-- The guard on the arguments' length answers something, and turns nothing. -/
theorem bytes6_any (a : Option Addr) (n cap : Nat) (ss : List ByteArray) (v : ByteArray) (w : World) (h : Strs w a n ss) (hv : v.size ≤ maxLen) :
    Calls Try.prog 6 #[.slice a n cap, .string v] w fun e w' => AnyBool e ∧ w' = w := by
  have hm := h.2.2.1
  have hl := h.1
  have Hs : Hid (Strs w a n ss) := h
  clear h
  unfold maxLen at hm hv
  by_cases hbig : 1048576 < n
  · go_enter Try.func6, Try.ntmps6
    go_wp2
    go_ret
    exact ⟨AnyBool.mk _, rfl⟩
  go_enter Try.func6, Try.ntmps6
  go_wp2
  go_loop [5, 6] (fun c i => ∃ k : Nat, k ≤ n ∧ i = .int .i64 k ∧ ∃ r : Int, 0 ≤ r ∧ r ≤ 1048576 ∧ c = .int .i64 r) (fun _ i => n - (intOf i).toNat)
  case atStart => exact ⟨0, Nat.zero_le _, rfl, _, by omega, by omega, rfl⟩
  case round =>
    obtain ⟨k, hk, rfl, r, hr0, hr1, rfl⟩ := hrel
    by_cases hlt : k < n
    · obtain ⟨b, off, rfl, hb, hc⟩ := Hs.out.2.2.2 (by omega)
      have hck := hc k hlt
      have hsz := Hs.out.size_at k
      generalize ss.getD k ByteArray.empty = s at hck hsz
      unfold maxLen at hsz
      clear hc hb
      by_cases h1 : 1048576 < (s.size : Int)
      · go_wp2
        go_ret
        exact ⟨AnyBool.mk _, rfl⟩
      by_cases h2 : 1048576 < r + (s.size : Int)
      · go_wp2
        go_ret
        exact ⟨AnyBool.mk _, rfl⟩
      · go_wp2
        go_round
        case rel => exact ⟨k + 1, by omega, by go_num, r + s.size, by omega, by omega, rfl⟩
        case measure => simp [intOf]; omega
    · have e : k = n := by omega
      subst e
      by_cases h1 : 1048576 < (v.size : Int)
      · go_wp2
        go_ret
        exact ⟨AnyBool.mk _, rfl⟩
      by_cases h2 : 1048576 < r + (v.size : Int)
      · go_wp2
        go_ret
        exact ⟨AnyBool.mk _, rfl⟩
      · go_wp2
        go_ret
        exact ⟨AnyBool.mk _, rfl⟩

set_option maxHeartbeats 1000000 in
theorem law1_walk (a : Option Addr) (n cap : Nat) (ss : List ByteArray) (v : ByteArray) (w : World) (h : Strs w a n ss) (hv : v.size ≤ maxLen) :
    Calls Try.prog 3 #[.slice a n cap, .string v] w fun e w' => e = .returned (.bool true) ∧ Below w.heap.size w w' := by
  have hst : star.size ≤ maxLen := by decide
  go_enter Try.func3, Try.ntmps3
  go_wp2_with fail
  refine (bytes6_any a n cap ss v _ h hv).mono ?_
  rintro e w' ⟨⟨r, rfl⟩, rfl⟩
  cases r
  · go_wp2
    go_ret
    exact ⟨rfl, Below.refl _ _⟩
  go_wp2_with fail
  refine (addStrs_any 0 a n cap ss _ (by decide) (by decide) h).mono ?_
  rintro e w' ⟨t, rfl, rfl, t0, t1, _⟩
  go_wp2_with fail
  refine (addStr_any t v _ t0 t1 hv).mono ?_
  rintro e w' ⟨u, rfl, rfl, u0, u1, _⟩
  by_cases hu : 1048576 < u
  · go_wp2
    go_ret
    exact ⟨rfl, Below.refl _ _⟩
  go_wp2_with fail
  refine (set_any a n cap ss _ h).mono ?_
  rintro e w2 ⟨rfl, hown, hB⟩
  have h2 := h.below hB
  have hA := has_Sd ss star
  have hN := has_Sd ss v
  rw [h.1] at hA hN
  obtain ⟨rn, HN⟩ : ∃ rn, Hid (hasB ss v = rn) := ⟨_, rfl⟩
  have MN : Hid (Maps.has (Sd ss n) (.string v.data.toList) = rn) := hN.trans HN.out
  cases hra : hasB ss star
  · have HA : Hid (hasB ss star = false) := hra
    have MA : Hid (Maps.has (Sd ss n) (.string star.data.toList) = false) := hA.trans hra
    clear hA hN hra
    go_wp2_with fail
    refine (has_val a n cap ss ⟨#[42]⟩ false _ h2 HA).mono ?_
    rintro e w' ⟨rfl, rfl⟩
    go_wp2_with fail
    refine (has_val a n cap ss v rn _ h2 HN).mono ?_
    rintro e w' ⟨rfl, rfl⟩
    go_wp2_with fail
    refine (byName_val _ n _ v rn _ hv hown MN).mono ?_
    rintro e w' ⟨rfl, o, rfl⟩
    go_wp2_with fail
    refine (byName_val _ n _ ⟨#[42]⟩ false _ hst (hown.alloc o) MA).mono ?_
    rintro e w' ⟨rfl, o', rfl⟩
    go_wp2_with fail
    refine (hasM_any _ n _ v false rn _ hv ((hown.alloc o).alloc o') MA MN).mono ?_
    rintro e w4 ⟨rfl, hB4, _⟩
    go_wp2
    go_ret
    exact ⟨rfl, ((hB.alloc hB.size _).alloc (by have := hB.size; simp; omega) _).trans (hB4.mono (by have := hB.size; simp; omega))⟩
  · have HA : Hid (hasB ss star = true) := hra
    have MA : Hid (Maps.has (Sd ss n) (.string star.data.toList) = true) := hA.trans hra
    clear hA hN hra
    go_wp2_with fail
    refine (has_val a n cap ss ⟨#[42]⟩ true _ h2 HA).mono ?_
    rintro e w' ⟨rfl, rfl⟩
    go_wp2_with fail
    refine (has_val a n cap ss v rn _ h2 HN).mono ?_
    rintro e w' ⟨rfl, rfl⟩
    go_wp2_with fail
    refine (byName_val _ n _ v rn _ hv hown MN).mono ?_
    rintro e w' ⟨rfl, o, rfl⟩
    go_wp2_with fail
    refine (byName_val _ n _ ⟨#[42]⟩ true _ hst (hown.alloc o) MA).mono ?_
    rintro e w' ⟨rfl, o', rfl⟩
    go_wp2_with fail
    refine (hasM_any _ n _ v true rn _ hv ((hown.alloc o).alloc o') MA MN).mono ?_
    rintro e w4 ⟨rfl, hB4, _⟩
    go_wp2
    go_ret
    exact ⟨rfl, ((hB.alloc hB.size _).alloc (by have := hB.size; simp; omega) _).trans (hB4.mono (by have := hB.size; simp; omega))⟩
end Go.Proofs.Qxb6615580a
