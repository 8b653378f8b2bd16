/-
  The walk of FnHasAnyAgreesWithHasByName.
-/
import Derived.Test.Qxb6615580aJoined
namespace Go.Proofs.Qxb6615580a
open Go.RowKit Go.Maps Go.WideMaps

theorem strs_nil (w : World) (a : Option Addr) : Strs w a 0 [] := ⟨rfl, (fun s hs => by cases hs), Nat.zero_le _, fun h => absurd h (Nat.lt_irrefl 0)⟩
theorem Strs.one {w : World} {b off n k : Nat} {N : List ByteArray} (h : Strs w (some ⟨b, off, none⟩) n N) (hk : k < n) : Strs w (some ⟨b, off + k, none⟩) 1 [N.getD k ByteArray.empty] := by
  obtain ⟨b', off', e, hb, hc⟩ := h.2.2.2 (by omega)
  cases e
  refine ⟨rfl, fun s hs => ?_, by decide, fun _ => ⟨b, off + k, rfl, hb, fun j hj => ?_⟩⟩
  · have e : s = N.getD k ByteArray.empty := by simpa using hs
    rw [e]
    exact h.size_at k
  · have e : j = 0 := by omega
    subst e
    exact hc k hk
theorem anyB_one (K : List ByteArray) (s : ByteArray) : anyB K [s] = hasB K s := by simp [anyB]

set_option maxHeartbeats 2000000 in
theorem law3_walk (a0 : Option Addr) (n0 c0 : Nat) (K : List ByteArray) (a1 : Option Addr) (n1 c1 : Nat) (N : List ByteArray) (w : World) (h0 : Strs w a0 n0 K) (h1 : Strs w a1 n1 N) (hcap : n1 ≤ c1) :
    Calls Try.prog 5 #[.slice a0 n0 c0, .slice a1 n1 c1] w fun e w' => e = .returned (.bool true) ∧ Below w.heap.size w w' := by
  have hst : star.size ≤ maxLen := by decide
  go_enter Try.func5, Try.ntmps5
  go_wp2_with fail
  refine (bytes16_any a0 n0 c0 K a1 n1 c1 N _ h0 h1).mono ?_
  rintro e w' ⟨⟨r, rfl⟩, rfl⟩
  cases r
  · go_wp2
    go_ret
    exact ⟨rfl, Below.refl _ _⟩
  go_wp2_with fail
  refine (addStrs_any 0 a0 n0 c0 K _ (by decide) (by decide) h0).mono ?_
  rintro e w' ⟨t, rfl, rfl, t0, t1, _⟩
  go_wp2_with fail
  refine (addStrs_any t a1 n1 c1 N _ t0 t1 h1).mono ?_
  rintro e w ⟨v, rfl, rfl, v0, v1, v2⟩
  by_cases hv : 1048576 < v
  · clear v2
    go_wp2
    go_ret
    exact ⟨rfl, Below.refl _ _⟩
  have hn1 : n1 ≤ 65536 := by omega
  have hv' : v ≤ 1048576 := by omega
  clear v2 hv
  go_wp2_with fail
  refine (set_any a0 n0 c0 K _ h0).mono ?_
  rintro e w3 ⟨rfl, hown, hB3⟩
  have HS0 : Hid (Strs w a0 n0 K) := h0
  have HS1 : Hid (Strs w a1 n1 N) := h1
  have hl1 : N.length = n1 := h1.1
  have HD : Hid (Reads (Sd K n0) K) := by intro s; have := has_Sd K s; rw [h0.1] at this; exact this
  clear h0 h1
  cases hra : hasB K star
  · have HA : Hid (hasB K star = false) := hra
    have MA : Hid (Maps.has (Sd K n0) (.string star.data.toList) = false) := (HD.out star).trans hra
    have HE : Hid ((hasB K star || anyB K []) = false) := by show _ = _; rw [hra]; rfl
    clear hra
    go_wp2_with fail
    refine (has_val a0 n0 c0 K ⟨#[42]⟩ false _ (HS0.out.below hB3) HA).mono ?_
    rintro e w' ⟨rfl, rfl⟩
    go_wp2_with fail
    go_loopw [8, 9] (fun c i wr => ∃ k : Nat, k ≤ n1 ∧ i = .int .i64 k ∧ ∃ q : Bool, c = .bool q ∧ Hid (anyB K (N.take k) = q) ∧ Below w.heap.size w wr ∧ wr.ownsMap Try.prog 9 unitElem w.heap.size n0 (Sd K n0)) (fun _ i _ => n1 - (intOf i).toNat)
    case atStart => exact ⟨0, Nat.zero_le _, rfl, false, rfl, rfl, hB3, hown⟩
    case round =>
      clear hB3 hown
      obtain ⟨k, hk, rfl, q, rfl, HQ, hBr, hownr⟩ := hrel
      by_cases hlt : k < n1
      · obtain ⟨b, off, rfl, hb, hc⟩ := (HS1.out.below hBr).2.2.2 (by omega)
        have hck := hc k hlt
        have hsz := HS1.out.size_at k
        have hT := anyB_take K N k (by omega)
        have hDk := HD.out (N.getD k ByteArray.empty)
        generalize N.getD k ByteArray.empty = s at hck hT hsz hDk
        clear hc hb
        cases hr : hasB K s
        · have HR : Hid (Maps.has (Sd K n0) (.string s.data.toList) = false) := hDk.trans hr
          have HQ' : Hid (anyB K (N.take (k + 1)) = q) := by show _ = _; rw [hT, HQ.out, hr]; simp
          clear hr hT hDk
          go_wp2_with fail
          refine (byName_val _ n0 _ s false _ hsz hownr HR).mono ?_
          rintro e w' ⟨rfl, o, rfl⟩
          go_wp2
          go_roundw
          case rel => exact ⟨k + 1, by omega, by go_num, q, rfl, HQ', hBr.alloc hBr.size _, hownr.alloc o⟩
          case measure => simp [intOf]; omega
        · have HR : Hid (Maps.has (Sd K n0) (.string s.data.toList) = true) := hDk.trans hr
          have HQ' : Hid (anyB K (N.take (k + 1)) = true) := by show _ = _; rw [hT, hr]; simp
          clear hr hT hDk
          go_wp2_with fail
          refine (byName_val _ n0 _ s true _ hsz hownr HR).mono ?_
          rintro e w' ⟨rfl, o, rfl⟩
          go_wp2
          go_roundw
          case rel => exact ⟨k + 1, by omega, by go_num, true, rfl, HQ', hBr.alloc hBr.size _, hownr.alloc o⟩
          case measure => simp [intOf]; omega
      have e : k = n1 := by omega
      subst e
      have HQ' : Hid (anyB K N = q) := by have := HQ.out; rw [List.take_of_length_le (by omega)] at this; exact this
      have HF : Hid ((hasB K star || anyB K N) = q) := by show _ = _; rw [HA.out, HQ'.out]; rfl
      clear HQ
      go_wp2_with fail
      refine (anyIn_val a0 n0 c0 K a1 k c1 N q _ (HS0.out.below hBr) (HS1.out.below hBr) HQ').mono ?_
      rintro e w' ⟨rfl, rfl⟩
      go_wp2_with fail
      refine (byName_val _ n0 _ ⟨#[42]⟩ false _ hst hownr MA).mono ?_
      rintro e w' ⟨rfl, o, rfl⟩
      have hBr := hBr.alloc hBr.size o
      have hownr := hownr.alloc o
      go_wp2_with fail
      refine (hasAny_val _ n0 _ K _ 0 _ [] false _ (strs_nil _ _) hownr HD HE).mono ?_
      rintro e w' ⟨rfl, hB', hown'⟩
      have hB2 := hBr.trans (hB'.mono hBr.size)
      clear hB' hownr hBr
      go_wp2_with fail
      refine (hasAny_val _ n0 _ K _ 0 _ [] false _ (strs_nil _ _) (hown'.alloc _) HD HE).mono ?_
      rintro e w' ⟨rfl, hB', hown2⟩
      have hBr := (hB2.alloc hB2.size _).trans (hB'.mono (by have := hB2.size; simp; omega))
      have hownr := hown2
      clear hB' hB2 hown' hown2
      go_wp2_with fail
      go_loopw [10] (fun i wr => ∃ j : Nat, j ≤ k ∧ i = .int .i64 j ∧ Below w.heap.size w wr ∧ wr.ownsMap Try.prog 9 unitElem w.heap.size n0 (Sd K n0)) (fun i _ => k - (intOf i).toNat)
      case atStart => exact ⟨0, Nat.zero_le _, rfl, hBr, hownr⟩
      case round =>
        clear hBr hownr
        obtain ⟨i, hi, rfl, hBr, hownr⟩ := hrel
        by_cases hlt2 : i < k
        · obtain ⟨b, off, rfl, hbw, hc⟩ := (HS1.out.below hBr).2.2.2 (by omega)
          have hN := HS1.out.below hBr
          have hck := hc i hlt2
          obtain ⟨r, hr⟩ : ∃ r, hasB K (N.getD i ByteArray.empty) = r := ⟨_, rfl⟩
          have HR : Hid (hasB K (N.getD i ByteArray.empty) = r) := hr
          have HO : Hid ((hasB K star || anyB K [N.getD i ByteArray.empty]) = r) := by show _ = _; rw [HA.out, anyB_one, hr]; rfl
          clear hr hc
          have hs1 : (0 : Int) ≤ i := by omega
          have hs2 : (i : Int) + 1 ≤ c1 := by omega
          go_wp2_with fail
          refine (hasAny_val _ n0 _ K _ 1 _ _ r _ (hN.one hlt2) hownr HD HO).mono ?_
          rintro e w' ⟨rfl, hB', hown'⟩
          have hB2 := hBr.trans (hB'.mono hBr.size)
          have hck' := (hB'.cell (p := ⟨b, off + i, none⟩) hbw).trans hck
          clear hck hB' hownr hN hBr
          generalize N.getD i ByteArray.empty = s at hck' HR
          go_wp2_with fail
          refine (has_val a0 n0 c0 K s r _ (HS0.out.below hB2) HR).mono ?_
          rintro e w' ⟨rfl, rfl⟩
          go_wp2
          go_roundw
          case rel => exact ⟨i + 1, by omega, by go_num, hB2, hown'⟩
          case measure => simp [intOf]; omega
        have e : i = k := by omega
        subst e
        go_wp2_with fail
        refine (hasAny_val _ n0 _ K a1 i c1 N q _ (HS1.out.below hBr) hownr HD HF).mono ?_
        rintro e w' ⟨rfl, hB', hown'⟩
        have hB2 := hBr.trans (hB'.mono hBr.size)
        go_wp2
        go_ret
        exact ⟨rfl, hB2⟩
  · have HA : Hid (hasB K star = true) := hra
    have MA : Hid (Maps.has (Sd K n0) (.string star.data.toList) = true) := (HD.out star).trans hra
    have HE : Hid ((hasB K star || anyB K []) = true) := by show _ = _; rw [hra]; rfl
    clear hra
    go_wp2_with fail
    refine (has_val a0 n0 c0 K ⟨#[42]⟩ true _ (HS0.out.below hB3) HA).mono ?_
    rintro e w' ⟨rfl, rfl⟩
    go_wp2_with fail
    go_loopw [8, 9] (fun c i wr => ∃ k : Nat, k ≤ n1 ∧ i = .int .i64 k ∧ ∃ q : Bool, c = .bool q ∧ Hid (anyB K (N.take k) = q) ∧ Below w.heap.size w wr ∧ wr.ownsMap Try.prog 9 unitElem w.heap.size n0 (Sd K n0)) (fun _ i _ => n1 - (intOf i).toNat)
    case atStart => exact ⟨0, Nat.zero_le _, rfl, false, rfl, rfl, hB3, hown⟩
    case round =>
      clear hB3 hown
      obtain ⟨k, hk, rfl, q, rfl, HQ, hBr, hownr⟩ := hrel
      by_cases hlt : k < n1
      · obtain ⟨b, off, rfl, hb, hc⟩ := (HS1.out.below hBr).2.2.2 (by omega)
        have hck := hc k hlt
        have hsz := HS1.out.size_at k
        have hT := anyB_take K N k (by omega)
        have hDk := HD.out (N.getD k ByteArray.empty)
        generalize N.getD k ByteArray.empty = s at hck hT hsz hDk
        clear hc hb
        cases hr : hasB K s
        · have HR : Hid (Maps.has (Sd K n0) (.string s.data.toList) = false) := hDk.trans hr
          have HQ' : Hid (anyB K (N.take (k + 1)) = q) := by show _ = _; rw [hT, HQ.out, hr]; simp
          clear hr hT hDk
          go_wp2_with fail
          refine (byName_val _ n0 _ s false _ hsz hownr HR).mono ?_
          rintro e w' ⟨rfl, o, rfl⟩
          go_wp2
          go_roundw
          case rel => exact ⟨k + 1, by omega, by go_num, q, rfl, HQ', hBr.alloc hBr.size _, hownr.alloc o⟩
          case measure => simp [intOf]; omega
        · have HR : Hid (Maps.has (Sd K n0) (.string s.data.toList) = true) := hDk.trans hr
          have HQ' : Hid (anyB K (N.take (k + 1)) = true) := by show _ = _; rw [hT, hr]; simp
          clear hr hT hDk
          go_wp2_with fail
          refine (byName_val _ n0 _ s true _ hsz hownr HR).mono ?_
          rintro e w' ⟨rfl, o, rfl⟩
          go_wp2
          go_roundw
          case rel => exact ⟨k + 1, by omega, by go_num, true, rfl, HQ', hBr.alloc hBr.size _, hownr.alloc o⟩
          case measure => simp [intOf]; omega
      have e : k = n1 := by omega
      subst e
      have HQ' : Hid (anyB K N = q) := by have := HQ.out; rw [List.take_of_length_le (by omega)] at this; exact this
      have HF : Hid ((hasB K star || anyB K N) = true) := by show _ = _; rw [HA.out, HQ'.out]; rfl
      clear HQ
      go_wp2_with fail
      refine (anyIn_val a0 n0 c0 K a1 k c1 N q _ (HS0.out.below hBr) (HS1.out.below hBr) HQ').mono ?_
      rintro e w' ⟨rfl, rfl⟩
      go_wp2_with fail
      refine (byName_val _ n0 _ ⟨#[42]⟩ true _ hst hownr MA).mono ?_
      rintro e w' ⟨rfl, o, rfl⟩
      have hBr := hBr.alloc hBr.size o
      have hownr := hownr.alloc o
      go_wp2_with fail
      refine (hasAny_val _ n0 _ K _ 0 _ [] true _ (strs_nil _ _) hownr HD HE).mono ?_
      rintro e w' ⟨rfl, hB', hown'⟩
      have hB2 := hBr.trans (hB'.mono hBr.size)
      clear hB' hownr hBr
      go_wp2_with fail
      refine (hasAny_val _ n0 _ K _ 0 _ [] true _ (strs_nil _ _) (hown'.alloc _) HD HE).mono ?_
      rintro e w' ⟨rfl, hB', hown2⟩
      have hBr := (hB2.alloc hB2.size _).trans (hB'.mono (by have := hB2.size; simp; omega))
      have hownr := hown2
      clear hB' hB2 hown' hown2
      go_wp2_with fail
      go_loopw [10] (fun i wr => ∃ j : Nat, j ≤ k ∧ i = .int .i64 j ∧ Below w.heap.size w wr ∧ wr.ownsMap Try.prog 9 unitElem w.heap.size n0 (Sd K n0)) (fun i _ => k - (intOf i).toNat)
      case atStart => exact ⟨0, Nat.zero_le _, rfl, hBr, hownr⟩
      case round =>
        clear hBr hownr
        obtain ⟨i, hi, rfl, hBr, hownr⟩ := hrel
        by_cases hlt2 : i < k
        · obtain ⟨b, off, rfl, hbw, hc⟩ := (HS1.out.below hBr).2.2.2 (by omega)
          have hN := HS1.out.below hBr
          have hck := hc i hlt2
          obtain ⟨r, hr⟩ : ∃ r, hasB K (N.getD i ByteArray.empty) = r := ⟨_, rfl⟩
          have HR : Hid (hasB K (N.getD i ByteArray.empty) = r) := hr
          have HO : Hid ((hasB K star || anyB K [N.getD i ByteArray.empty]) = true) := by show _ = _; rw [HA.out, anyB_one, hr]; rfl
          clear hr hc
          have hs1 : (0 : Int) ≤ i := by omega
          have hs2 : (i : Int) + 1 ≤ c1 := by omega
          go_wp2_with fail
          refine (hasAny_val _ n0 _ K _ 1 _ _ true _ (hN.one hlt2) hownr HD HO).mono ?_
          rintro e w' ⟨rfl, hB', hown'⟩
          have hB2 := hBr.trans (hB'.mono hBr.size)
          clear hck hB' hownr hN hBr
          go_wp2
          go_roundw
          case rel => exact ⟨i + 1, by omega, by go_num, hB2, hown'⟩
          case measure => simp [intOf]; omega
        have e : i = k := by omega
        subst e
        go_wp2_with fail
        refine (hasAny_val _ n0 _ K a1 i c1 N true _ (HS1.out.below hBr) hownr HD HF).mono ?_
        rintro e w' ⟨rfl, hB', hown'⟩
        have hB2 := hBr.trans (hB'.mono hBr.size)
        go_wp2
        go_ret
        exact ⟨rfl, hB2⟩
end Go.Proofs.Qxb6615580a
