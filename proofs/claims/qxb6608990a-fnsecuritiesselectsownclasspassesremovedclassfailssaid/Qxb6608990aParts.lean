/-
  CONTRACTS OF THE LAW's HELPERS: pfMember, pfShare, pfAddLen, pfAddStrings; slices.Index, Contains at strings; slices of strings.
-/
import Derived.Test.Qxb6608990aRows
import Derived.WalkKit
import Derived.ProofKit
import Derived.Below
import Derived.SliceStrings
import Derived.WalkSmall
namespace Go.Proofs.Qxb6608990a
open Go.RowKit

/-- A slice of n strings in a world: where there is an element, it has an address, and its cells hold the strings. -/
def Strs (w : World) (a : Option Addr) (n : Nat) (ss : List ByteArray) : Prop :=
  ss.length = n ∧ (∀ s ∈ ss, s.size ≤ maxLen) ∧ n ≤ maxLen ∧
  (0 < n → ∃ b off, a = some ⟨b, off, none⟩ ∧ b < w.heap.size ∧ ∀ j, j < n → w.cell? ⟨b, off + j, none⟩ = some (.string (ss.getD j ByteArray.empty)))

theorem Strs.below {w w' : World} {a : Option Addr} {n : Nat} {ss : List ByteArray} (h : Strs w a n ss) (hB : Below w.heap.size w w') : Strs w' a n ss := by
  obtain ⟨h1, h2, h3, h4⟩ := h
  refine ⟨h1, h2, h3, fun hn => ?_⟩
  obtain ⟨b, off, e, hb, hc⟩ := h4 hn
  exact ⟨b, off, e, Nat.lt_of_lt_of_le hb hB.size, fun j hj => (hB.cell (p := ⟨b, off + j, none⟩) hb).trans (hc j hj)⟩

theorem Strs.size_at {w : World} {a : Option Addr} {n : Nat} {ss : List ByteArray} (h : Strs w a n ss) (k : Nat) : (ss.getD k ByteArray.empty).size ≤ maxLen := by
  by_cases hk : k < ss.length
  · rw [List.getD_eq_getElem?_getD, List.getElem?_eq_getElem hk]
    exact h.2.1 _ (List.getElem_mem hk)
  · rw [List.getD_eq_getElem?_getD, List.getElem?_eq_none (by omega)]
    exact Nat.zero_le _

/-- Is the string on the list? -/
def hasB (ss : List ByteArray) (v : ByteArray) : Bool := ss.any (fun s => s.data.toList == v.data.toList)

theorem hasB_take (ss : List ByteArray) (v : ByteArray) (k : Nat) (hk : k < ss.length) : hasB (ss.take (k + 1)) v = (hasB (ss.take k) v || ((ss.getD k ByteArray.empty).data.toList == v.data.toList)) := by
  unfold hasB
  rw [List.take_add_one, List.any_append, List.getElem?_eq_getElem hk]
  simp [hk]
theorem hasB_hit (ss : List ByteArray) (v : ByteArray) (k : Nat) (hk : k < ss.length) (h : ((ss.getD k ByteArray.empty).data.toList == v.data.toList) = true) : hasB ss v = true := by
  unfold hasB
  rw [List.any_eq_true]
  refine ⟨ss[k], List.getElem_mem hk, ?_⟩
  simpa [hk] using h

theorem ret_bool {a b : Bool} (h : a = b) : Ending.returned (.bool a) = .returned (.bool b) := by rw [h]

/-- pfMember: the linear scan. -/
theorem has_any (a : Option Addr) (n cap : Nat) (ss : List ByteArray) (v : ByteArray) (w : World) (h : Strs w a n ss) :
    Calls Try.prog 17 #[.slice a n cap, .string v] w fun e w' => e = .returned (.bool (hasB ss v)) ∧ w' = w := by
  have hm := h.2.2.1
  have hl := h.1
  have Hs : Hid (Strs w a n ss) := h
  clear h
  unfold maxLen at hm
  go_enter Try.func17, Try.ntmps17
  go_wp2
  go_loop [5] (fun i => ∃ k : Nat, k ≤ n ∧ i = .int .i64 k ∧ Hid (hasB (ss.take k) v = false)) (fun i => n - (intOf i).toNat)
  case atStart => exact ⟨0, Nat.zero_le _, rfl, rfl⟩
  case round =>
    obtain ⟨k, hk, rfl, HK⟩ := hrel
    by_cases hlt : k < n
    · obtain ⟨b, off, rfl, hb, hc⟩ := Hs.out.2.2.2 (by omega)
      have hck := hc k hlt
      obtain ⟨s, hs⟩ : ∃ s, s = ss.getD k ByteArray.empty := ⟨_, rfl⟩
      rw [← hs] at hck
      have HS : Hid (s = ss.getD k ByteArray.empty) := hs
      clear hs hc hb
      go_wp2
      · have ht : (s.toList == v.toList) = true := by assumption
        rw [ByteArray.toList_eq, ByteArray.toList_eq, HS.out] at ht
        go_ret
        exact ⟨ret_bool (hasB_hit ss v k (by omega) ht).symm, rfl⟩
      · have ht : (s.toList == v.toList) = false := by assumption
        rw [ByteArray.toList_eq, ByteArray.toList_eq, HS.out] at ht
        have HK' : Hid (hasB (ss.take (k + 1)) v = false) := by show _ = _; rw [hasB_take _ _ _ (by omega), HK.out, ht]; rfl
        go_round
        case rel => exact ⟨k + 1, by omega, by go_num, HK'⟩
        case measure => simp [intOf]; omega
    · have e : k = n := by omega
      subst e
      have HF : Hid (hasB ss v = false) := by have := HK.out; rw [List.take_of_length_le (by omega)] at this; exact this
      go_wp2
      go_ret
      exact ⟨ret_bool HF.out.symm, rfl⟩

/-- The same, its answer given by name. -/
theorem has_val (a : Option Addr) (n cap : Nat) (ss : List ByteArray) (v : ByteArray) (r : Bool) (w : World) (h : Strs w a n ss) (hr : Hid (hasB ss v = r)) :
    Calls Try.prog 17 #[.slice a n cap, .string v] w fun e w' => e = .returned (.bool r) ∧ w' = w := by
  have h := has_any a n cap ss v w h
  rw [hr.out] at h
  exact h

/-- Is some name on the list of keys? -/
def anyB (keys names : List ByteArray) : Bool := names.any (fun s => hasB keys s)

theorem anyB_take (keys names : List ByteArray) (k : Nat) (hk : k < names.length) : anyB keys (names.take (k + 1)) = (anyB keys (names.take k) || hasB keys (names.getD k ByteArray.empty)) := by
  unfold anyB
  rw [List.take_add_one, List.any_append, List.getElem?_eq_getElem hk]
  simp [hk]
theorem anyB_hit (keys names : List ByteArray) (k : Nat) (hk : k < names.length) (h : hasB keys (names.getD k ByteArray.empty) = true) : anyB keys names = true := by
  unfold anyB
  rw [List.any_eq_true]
  refine ⟨names[k], List.getElem_mem hk, ?_⟩
  simpa [hk] using h
theorem anyB_append (keys a b : List ByteArray) : anyB keys (a ++ b) = (anyB keys a || anyB keys b) := by
  unfold anyB
  rw [List.any_append]

/-- pfShare: some string of the first list stands in the second. -/
theorem share_any (a : Option Addr) (n cap : Nat) (keys : List ByteArray) (a' : Option Addr) (n' cap' : Nat) (names : List ByteArray) (w : World) (h : Strs w a n keys) (h' : Strs w a' n' names) :
    Calls Try.prog 10 #[.slice a' n' cap', .slice a n cap] w fun e w' => e = .returned (.bool (anyB keys names)) ∧ w' = w := by
  have hm := h'.2.2.1
  have hl := h'.1
  have Hk : Hid (Strs w a n keys) := h
  have Hs : Hid (Strs w a' n' names) := h'
  clear h h'
  unfold maxLen at hm
  go_enter Try.func10, Try.ntmps10
  go_wp2
  go_loop [5] (fun i => ∃ k : Nat, k ≤ n' ∧ i = .int .i64 k ∧ Hid (anyB keys (names.take k) = false)) (fun i => n' - (intOf i).toNat)
  case atStart => exact ⟨0, Nat.zero_le _, rfl, rfl⟩
  case round =>
    obtain ⟨k, hk, rfl, HK⟩ := hrel
    by_cases hlt : k < n'
    · obtain ⟨b, off, rfl, hb, hc⟩ := Hs.out.2.2.2 (by omega)
      have hck := hc k hlt
      have hT := anyB_take keys names k (by omega)
      have hH := anyB_hit keys names k (by omega)
      generalize names.getD k ByteArray.empty = s at hck hT hH
      clear hc hb
      cases hr : hasB keys s
      · have HR : Hid (hasB keys s = false) := hr
        have HK' : Hid (anyB keys (names.take (k + 1)) = false) := by show _ = _; rw [hT, HK.out, hr]; rfl
        clear hr hT hH
        go_wp2_with (go_at_call 17; refine (has_val a n cap keys s false _ (by exact Hk) HR).mono ?_; rintro e w' ⟨rfl, rfl⟩)
        go_round
        case rel => exact ⟨k + 1, by omega, by go_num, HK'⟩
        case measure => simp [intOf]; omega
      · have HR : Hid (hasB keys s = true) := hr
        have HH : Hid (anyB keys names = true) := hH hr
        clear hr hT hH
        go_wp2_with (go_at_call 17; refine (has_val a n cap keys s true _ (by exact Hk) HR).mono ?_; rintro e w' ⟨rfl, rfl⟩)
        go_ret
        exact ⟨ret_bool HH.out.symm, rfl⟩
    · have e : k = n' := by omega
      subst e
      have HF : Hid (anyB keys names = false) := by have := HK.out; rw [List.take_of_length_le (by omega)] at this; exact this
      go_wp2
      go_ret
      exact ⟨ret_bool HF.out.symm, rfl⟩


/-! ### slices.Index, slices.Contains -/
/-- What slices.Index comes to: a place, or -1. -/
def Found (e : Ending) (r : Bool) : Prop := ∃ i : Int, e = .returned (.int .i64 i) ∧ decide (0 ≤ i) = r

theorem index_any (a : Option Addr) (n cap : Nat) (ss : List ByteArray) (v : ByteArray) (w : World) (h : Strs w a n ss) :
    Calls Try.prog 24 #[.slice a n cap, .string v] w fun e w' => Found e (hasB ss v) ∧ w' = w := by
  have hm := h.2.2.1
  have hl := h.1
  have Hs : Hid (Strs w a n ss) := h
  clear h
  unfold maxLen at hm
  go_enter Try.func24, Try.ntmps24
  go_wp2
  go_loop [8] (fun i => ∃ k : Nat, k ≤ n ∧ i = .int .i64 k ∧ Hid (hasB (ss.take k) v = false)) (fun i => n - (intOf i).toNat)
  case atStart => exact ⟨0, Nat.zero_le _, rfl, rfl⟩
  case round =>
    obtain ⟨k, hk, rfl, HK⟩ := hrel
    by_cases hlt : k < n
    · obtain ⟨b, off, rfl, hb, hc⟩ := Hs.out.2.2.2 (by omega)
      have hck := hc k hlt
      obtain ⟨s, hs⟩ : ∃ s, s = ss.getD k ByteArray.empty := ⟨_, rfl⟩
      rw [← hs] at hck
      have HS : Hid (s = ss.getD k ByteArray.empty) := hs
      clear hs hc hb
      go_wp2
      · have ht : (v.toList == s.toList) = true := by assumption
        rw [ByteArray.toList_eq, ByteArray.toList_eq, HS.out] at ht
        have ht' : ((ss.getD k ByteArray.empty).data.toList == v.data.toList) = true := by rw [beq_iff_eq] at ht ⊢; exact ht.symm
        go_ret
        exact ⟨⟨k, rfl, by rw [hasB_hit ss v k (by omega) ht']; simp⟩, rfl⟩
      · have ht : (v.toList == s.toList) = false := by assumption
        rw [ByteArray.toList_eq, ByteArray.toList_eq, HS.out] at ht
        have ht' : ((ss.getD k ByteArray.empty).data.toList == v.data.toList) = false := by rw [beq_eq_false_iff_ne] at ht ⊢; exact fun h => ht h.symm
        have HK' : Hid (hasB (ss.take (k + 1)) v = false) := by show _ = _; rw [hasB_take _ _ _ (by omega), HK.out, ht']; rfl
        go_round
        case rel => exact ⟨k + 1, by omega, by go_num, HK'⟩
        case measure => simp [intOf]; omega
    · have e : k = n := by omega
      subst e
      have HF : Hid (hasB ss v = false) := by have := HK.out; rw [List.take_of_length_le (by omega)] at this; exact this
      go_wp2
      go_ret
      exact ⟨⟨-1, rfl, by rw [HF.out]; rfl⟩, rfl⟩

theorem contains_any (a : Option Addr) (n cap : Nat) (ss : List ByteArray) (v : ByteArray) (w : World) (h : Strs w a n ss) :
    Calls Try.prog 18 #[.slice a n cap, .string v] w fun e w' => e = .returned (.bool (hasB ss v)) ∧ w' = w := by
  go_enter Try.func18, Try.ntmps18
  go_wp2_with fail
  refine (index_any a n cap ss v _ h).mono ?_
  rintro e w' ⟨⟨i, rfl, hi⟩, rfl⟩
  have Hi : Hid (decide (0 ≤ i) = hasB ss v) := hi
  clear hi
  go_wp2
  go_ret
  exact ⟨ret_bool Hi.out, rfl⟩

/-! ### pfAddLen, pfAddStrings: numbers between 0 and 1<<20 + 1 -/
theorem addLen_any (t m : Int) (w : World) (h0 : 0 ≤ t) (h1 : t ≤ 1048577) (hm : 0 ≤ m) (hm' : m ≤ 9223372036854775807) :
    Calls Try.prog 8 #[.int .i64 t, .int .i64 m] w fun e w' => ∃ r : Int, e = .returned (.int .i64 r) ∧ w' = w ∧ 0 ≤ r ∧ r ≤ 1048577 ∧ (1048576 < r ∨ t ≤ r) := by
  by_cases h : 1048576 < t
  · go_enter Try.func8, Try.ntmps8
    go_wp2
    go_ret
    exact ⟨_, rfl, rfl, by decide, by decide, .inl (by decide)⟩
  by_cases h' : 1048576 - t < m
  · go_enter Try.func8, Try.ntmps8
    go_wp2
    go_ret
    exact ⟨_, rfl, rfl, by decide, by decide, .inl (by decide)⟩
  · go_enter Try.func8, Try.ntmps8
    go_wp2
    go_ret
    exact ⟨t + m, rfl, rfl, by omega, by omega, .inr (by omega)⟩

theorem addStrs_any (t : Int) (a : Option Addr) (n cap : Nat) (ss : List ByteArray) (w : World) (h0 : 0 ≤ t) (h1 : t ≤ 1048577) (h : Strs w a n ss) :
    Calls Try.prog 7 #[.int .i64 t, .slice a n cap] w fun e w' => ∃ r : Int, e = .returned (.int .i64 r) ∧ w' = w ∧ 0 ≤ r ∧ r ≤ 1048577 ∧ (1048576 < r ∨ t + 16 * n ≤ r) := by
  have hm := h.2.2.1
  have hl := h.1
  have Hs : Hid (Strs w a n ss) := h
  clear h
  unfold maxLen at hm
  by_cases h : 1048576 < t
  · go_enter Try.func7, Try.ntmps7
    go_wp2
    go_ret
    exact ⟨_, rfl, rfl, by decide, by decide, .inl (by decide)⟩
  by_cases h' : (1048576 - t) / 16 < (n : Int)
  · go_enter Try.func7, Try.ntmps7
    go_wp2
    go_ret
    exact ⟨_, rfl, rfl, by decide, by decide, .inl (by decide)⟩
  have hn : t + 16 * (n : Int) ≤ 1048576 := by omega
  go_enter Try.func7, Try.ntmps7
  go_wp2
  go_loop [0, 5] (fun c i => ∃ k : Nat, k ≤ n ∧ i = .int .i64 k ∧ ∃ r : Int, 0 ≤ r ∧ r ≤ 1048576 ∧ t + 16 * n ≤ r ∧ c = .int .i64 r) (fun _ i => n - (intOf i).toNat)
  case atStart => exact ⟨0, Nat.zero_le _, rfl, _, by omega, by omega, Int.le_refl _, rfl⟩
  case round =>
    obtain ⟨k, hk, rfl, r, hr0, hr1, hr2, rfl⟩ := hrel
    by_cases hlt : k < n
    · obtain ⟨b, off, rfl, hb, hc⟩ := Hs.out.2.2.2 (by omega)
      have hck := hc k hlt
      have hsz := Hs.out.size_at k
      generalize ss.getD k ByteArray.empty = s at hck hsz
      unfold maxLen at hsz
      clear hc hb
      go_wp2_with fail
      refine (addLen_any r s.size _ hr0 (by omega) (by omega) (by omega)).mono ?_
      rintro e w' ⟨r', rfl, rfl, g0, g1, g2⟩
      by_cases hr : 1048576 < r'
      · clear g2
        go_wp2
        go_ret
        exact ⟨_, rfl, rfl, g0, g1, .inl hr⟩
      · have g3 : r ≤ r' := by omega
        clear g2
        go_wp2
        go_round
        case rel => exact ⟨k + 1, by omega, by go_num, r', g0, by omega, by omega, rfl⟩
        case measure => simp [intOf]; omega
    · have e : k = n := by omega
      subst e
      go_wp2
      go_ret
      exact ⟨_, rfl, rfl, hr0, by omega, .inr hr2⟩
end Go.Proofs.Qxb6608990a
