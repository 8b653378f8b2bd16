/-
  CONTRACTS OF THE LAWS' HELPERS: zzb1AddStr, zzb1AddStrs, zzb1Has, zzb1Set, and of the set's methods HasByName, Has.
-/
import Derived.Test.Qxb6615580aRows
import Derived.WalkKit
import Derived.ProofKit
import Derived.Below
import Derived.SliceStrings
import Derived.Maps.OwnSet
import Derived.Maps.AppendAt
import Derived.WalkSmall
namespace Go.Proofs.Qxb6615580a
open Go.RowKit Go.Maps Go.WideMaps

/-- A slice of n strings in a world: where there is an element, it has an address, and its cells hold the strings. -/
def Strs (w : World) (a : Option Addr) (n : Nat) (ss : List ByteArray) : Prop :=
  ss.length = n ∧ (∀ s ∈ ss, s.size ≤ maxLen) ∧ n ≤ maxLen ∧
  (0 < n → ∃ b off, a = some ⟨b, off, none⟩ ∧ b < w.heap.size ∧ ∀ j, j < n → w.cell? ⟨b, off + j, none⟩ = some (.string (ss.getD j ByteArray.empty)))

theorem Strs.below {w w' : World} {a : Option Addr} {n : Nat} {ss : List ByteArray} (h : Strs w a n ss) (hB : Below w.heap.size w w') : Strs w' a n ss := by
  obtain ⟨h1, h2, h3, h4⟩ := h
  refine ⟨h1, h2, h3, fun hn => ?_⟩
  obtain ⟨b, off, e, hb, hc⟩ := h4 hn
  exact ⟨b, off, e, Nat.lt_of_lt_of_le hb hB.size, fun j hj => (hB.cell (p := ⟨b, off + j, none⟩) hb).trans (hc j hj)⟩

theorem Strs.size_at {w : World} {a : Option Addr} {n : Nat} {ss : List ByteArray} (h : Strs w a n ss) (k : Nat) : (ss.getD k ByteArray.empty).size ≤ maxLen := by
  by_cases hk : k < ss.length
  · rw [List.getD_eq_getElem?_getD, List.getElem?_eq_getElem hk]
    exact h.2.1 _ (List.getElem_mem hk)
  · rw [List.getD_eq_getElem?_getD, List.getElem?_eq_none (by omega)]
    exact Nat.zero_le _

/-- Is the string on the list? -/
def hasB (ss : List ByteArray) (v : ByteArray) : Bool := ss.any (fun s => s.data.toList == v.data.toList)

theorem hasB_take (ss : List ByteArray) (v : ByteArray) (k : Nat) (hk : k < ss.length) : hasB (ss.take (k + 1)) v = (hasB (ss.take k) v || ((ss.getD k ByteArray.empty).data.toList == v.data.toList)) := by
  unfold hasB
  rw [List.take_add_one, List.any_append, List.getElem?_eq_getElem hk]
  simp [hk]
theorem hasB_hit (ss : List ByteArray) (v : ByteArray) (k : Nat) (hk : k < ss.length) (h : ((ss.getD k ByteArray.empty).data.toList == v.data.toList) = true) : hasB ss v = true := by
  unfold hasB
  rw [List.any_eq_true]
  refine ⟨ss[k], List.getElem_mem hk, ?_⟩
  simpa [hk] using h

theorem ret_bool {a b : Bool} (h : a = b) : Ending.returned (.bool a) = .returned (.bool b) := by rw [h]

/-- zzb1Has: the linear scan. -/
theorem has_any (a : Option Addr) (n cap : Nat) (ss : List ByteArray) (v : ByteArray) (w : World) (h : Strs w a n ss) :
    Calls Try.prog 10 #[.slice a n cap, .string v] w fun e w' => e = .returned (.bool (hasB ss v)) ∧ w' = w := by
  have hm := h.2.2.1
  have hl := h.1
  have Hs : Hid (Strs w a n ss) := h
  clear h
  unfold maxLen at hm
  go_enter Try.func10, Try.ntmps10
  go_wp2
  go_loop [5] (fun i => ∃ k : Nat, k ≤ n ∧ i = .int .i64 k ∧ Hid (hasB (ss.take k) v = false)) (fun i => n - (intOf i).toNat)
  case atStart => exact ⟨0, Nat.zero_le _, rfl, rfl⟩
  case round =>
    obtain ⟨k, hk, rfl, HK⟩ := hrel
    by_cases hlt : k < n
    · obtain ⟨b, off, rfl, hb, hc⟩ := Hs.out.2.2.2 (by omega)
      have hck := hc k hlt
      obtain ⟨s, hs⟩ : ∃ s, s = ss.getD k ByteArray.empty := ⟨_, rfl⟩
      rw [← hs] at hck
      have HS : Hid (s = ss.getD k ByteArray.empty) := hs
      clear hs hc hb
      go_wp2
      · have ht : (s.toList == v.toList) = true := by assumption
        rw [ByteArray.toList_eq, ByteArray.toList_eq, HS.out] at ht
        go_ret
        exact ⟨ret_bool (hasB_hit ss v k (by omega) ht).symm, rfl⟩
      · have ht : (s.toList == v.toList) = false := by assumption
        rw [ByteArray.toList_eq, ByteArray.toList_eq, HS.out] at ht
        have HK' : Hid (hasB (ss.take (k + 1)) v = false) := by show _ = _; rw [hasB_take _ _ _ (by omega), HK.out, ht]; rfl
        go_round
        case rel => exact ⟨k + 1, by omega, by go_num, HK'⟩
        case measure => simp [intOf]; omega
    · have e : k = n := by omega
      subst e
      have HF : Hid (hasB ss v = false) := by have := HK.out; rw [List.take_of_length_le (by omega)] at this; exact this
      go_wp2
      go_ret
      exact ⟨ret_bool HF.out.symm, rfl⟩

/-! ### zzb1AddStr, zzb1AddStrs: numbers between 0 and 1<<21 -/
theorem addStr_any (t : Int) (s : ByteArray) (w : World) (h0 : 0 ≤ t) (h1 : t ≤ 2097152) (hs : s.size ≤ maxLen) :
    Calls Try.prog 8 #[.int .i64 t, .string s] w fun e w' => ∃ r : Int, e = .returned (.int .i64 r) ∧ w' = w ∧ 0 ≤ r ∧ r ≤ 2097152 ∧ (1048576 < r ∨ t ≤ r) := by
  unfold maxLen at hs
  by_cases h : 1048576 < t
  · go_enter Try.func8, Try.ntmps8
    go_wp2
    go_ret
    exact ⟨_, rfl, rfl, by decide, by decide, .inl (by decide)⟩
  by_cases h' : 1048576 < (s.size : Int)
  · go_enter Try.func8, Try.ntmps8
    go_wp2
    go_ret
    exact ⟨_, rfl, rfl, by decide, by decide, .inl (by decide)⟩
  · go_enter Try.func8, Try.ntmps8
    go_wp2
    go_ret
    exact ⟨t + s.size, rfl, rfl, by omega, by omega, .inr (by omega)⟩

theorem addStrs_any (t : Int) (a : Option Addr) (n cap : Nat) (ss : List ByteArray) (w : World) (h0 : 0 ≤ t) (h1 : t ≤ 2097152) (h : Strs w a n ss) :
    Calls Try.prog 7 #[.int .i64 t, .slice a n cap] w fun e w' => ∃ r : Int, e = .returned (.int .i64 r) ∧ w' = w ∧ 0 ≤ r ∧ r ≤ 2097152 ∧ (1048576 < r ∨ t + 16 * n ≤ r) := by
  have hm := h.2.2.1
  have hl := h.1
  have Hs : Hid (Strs w a n ss) := h
  clear h
  unfold maxLen at hm
  by_cases h : 1048576 < t
  · go_enter Try.func7, Try.ntmps7
    go_wp2
    go_ret
    exact ⟨_, rfl, rfl, by decide, by decide, .inl (by decide)⟩
  by_cases h' : 65536 < n
  · go_enter Try.func7, Try.ntmps7
    go_wp2
    go_ret
    exact ⟨_, rfl, rfl, by decide, by decide, .inl (by decide)⟩
  go_enter Try.func7, Try.ntmps7
  go_wp2
  go_loop [0, 5] (fun c i => ∃ k : Nat, k ≤ n ∧ i = .int .i64 k ∧ ∃ r : Int, 0 ≤ r ∧ r ≤ 2097152 ∧ (1048576 < r ∨ t + 16 * n ≤ r) ∧ c = .int .i64 r) (fun _ i => n - (intOf i).toNat)
  case atStart => exact ⟨0, Nat.zero_le _, rfl, _, by omega, by omega, .inr (Int.le_refl _), rfl⟩
  case round =>
    obtain ⟨k, hk, rfl, r, hr0, hr1, hr2, rfl⟩ := hrel
    by_cases hlt : k < n
    · by_cases hr : 1048576 < r
      · clear hr2
        go_wp2
        go_ret
        exact ⟨_, rfl, rfl, hr0, hr1, .inl hr⟩
      · obtain ⟨b, off, rfl, hb, hc⟩ := Hs.out.2.2.2 (by omega)
        have hck := hc k hlt
        have hsz := Hs.out.size_at k
        generalize ss.getD k ByteArray.empty = s at hck hsz
        have hr3 : t + 16 * n ≤ r := by omega
        clear hc hb hr2
        go_wp2_with (go_at_call 8; refine (addStr_any r s _ hr0 hr1 hsz).mono ?_; rintro e w' ⟨r', rfl, rfl, g0, g1, g2⟩)
        go_round
        case rel => exact ⟨k + 1, by omega, by go_num, r', g0, g1, by omega, rfl⟩
        case measure => simp [intOf]; omega
    · have e : k = n := by omega
      subst e
      go_wp2
      go_ret
      exact ⟨_, rfl, rfl, hr0, hr1, hr2⟩

/-! ### THE SET -/
/-- The set of the first k strings, as data. -/
def Sd (ss : List ByteArray) (k : Nat) : DataW Unit := setOf (.agg []) ((ss.take k).map (fun s => Lit.string s.data.toList))

theorem Sd_zero (ss : List ByteArray) : Sd ss 0 = .map [] := by simp [Sd, setOf]
theorem Sd_succ (ss : List ByteArray) (k : Nat) (hk : k < ss.length) : Sd ss (k + 1) = (Sd ss k).put (.string (ss.getD k ByteArray.empty).data.toList) (.agg []) := by
  unfold Sd
  rw [← setOf_snoc]
  congr 1
  rw [List.take_add_one, List.getElem?_eq_getElem hk]
  simp only [List.map_append, Option.toList_some, List.map_cons, List.map_nil, List.getD_eq_getElem?_getD, List.getElem?_eq_getElem hk, Option.getD_some]
theorem has_Sd (ss : List ByteArray) (v : ByteArray) : Maps.has (Sd ss ss.length) (.string v.data.toList) = hasB ss v := by
  unfold Sd hasB
  rw [List.take_of_length_le (Nat.le_refl _), has_setOf _ _ _ (fun y hy => by obtain ⟨_, _, rfl⟩ := List.mem_map.1 hy; trivial), List.any_map]
  rfl

theorem law9 : Keyed Try.prog 9 := string_keyed Try.underlying9
theorem zero33 (w : World) : (zeroValue 33).run Try.prog w = .ok (.agg #[]) w := by kernel_rfl

/-- 'make(Set, n)': the hint lays nothing. -/
theorem make_hint (n : Int) (w : World) : (Instr.makeMap 27 (some (.int .i64 n))).run Try.prog w = .ok (.map (some w.heap.size)) (w.alloc (.map #[] 0)) := by
  have h := run_makeMap (P := Try.prog) 27 w
  simp only [Instr.makeMap] at h ⊢
  simp only [Sem.run_bind, run_underlying Try.underlying27]
  exact h

/-- zzb1Set: the set of the keys, a new map. -/
theorem set_any (a : Option Addr) (n cap : Nat) (ss : List ByteArray) (w : World) (h : Strs w a n ss) :
    Calls Try.prog 9 #[.slice a n cap] w fun e w' => e = .returned (.map (some w.heap.size)) ∧ w'.ownsMap Try.prog 9 unitElem w.heap.size n (Sd ss n) ∧ Below w.heap.size w w' := by
  have hm := h.2.2.1
  have hl := h.1
  have Hs : Hid (Strs w a n ss) := h
  clear h
  have hm' : n ≤ 9223372036854775807 := by unfold maxLen at hm; omega
  have hmm := make_hint
  go_enter Try.func9, Try.ntmps9
  go_wp2
  go_loopw [4] (fun i wr => ∃ k : Nat, k ≤ n ∧ i = .int .i64 k ∧ wr.ownsMap Try.prog 9 unitElem w.heap.size k (Sd ss k) ∧ Below w.heap.size w wr) (fun i _ => n - (intOf i).toNat)
  case atStart => exact ⟨0, Nat.zero_le _, rfl, by rw [Sd_zero]; exact World.ownsMap_made _ _ _ _, (Below.refl _ _).alloc (Nat.le_refl _) _⟩
  case round =>
    obtain ⟨k, hk, rfl, hown, hnx⟩ := hrel
    by_cases hlt : k < n
    · obtain ⟨b, off, rfl, hb, hc⟩ := Hs.out.2.2.2 (by omega)
      have hck : wr.cell? ⟨b, off + k, none⟩ = some (.string (ss.getD k ByteArray.empty)) := (hnx.cell (by exact hb)).trans (hc k hlt)
      have hkey : keyOf Try.prog 9 (.string (ss.getD k ByteArray.empty)) = some (.string (ss.getD k ByteArray.empty).data.toList) := keyOf_string_mk Try.underlying9 (Hs.out.size_at k)
      have HS : Hid (Sd ss (k + 1) = (Sd ss k).put (.string (ss.getD k ByteArray.empty).data.toList) (.agg [])) := Sd_succ ss k (by omega)
      have hkm : k < maxLen := by omega
      generalize ss.getD k ByteArray.empty = s at hck hkey HS
      clear hc hb
      go_wp2_with (at_mapUpdate; refine wpList_mapUpdate_own _ rfl _ _ _ 27 rfl 9 33 law9 Try.underlying27 (unitElem (H := Unit)) w.heap.size k _ rfl hown hkm _ _ _ rfl rfl hkey _ [] unitElem_mk ?_; intro w1 hown1 hgrow1)
      go_roundw
      case rel => exact ⟨k + 1, by omega, by go_num, by rw [HS.out]; exact hown1, hnx.grown hgrow1 hnx.size (fun j hj => by cases hj; exact Nat.le_refl _)⟩
      case measure => simp [intOf]; omega
    · have e : k = n := by omega
      subst e
      go_wp2
      go_ret
      exact ⟨rfl, hown, hnx⟩

/-- HasByName: the set is asked; one empty block is laid for the blank. -/
theorem byName_any (g n : Nat) (D : DataW Unit) (s : ByteArray) (w : World) (hs : s.size ≤ maxLen) (hown : w.ownsMap Try.prog 9 unitElem g n D) :
    Calls Try.prog 11 #[.map (some g), .string s] w fun e w' => e = .returned (.bool (Maps.has D (.string s.data.toList))) ∧ ∃ o, w' = w.alloc o := by
  have hkey : keyOf Try.prog 9 (.string s) = some (.string s.data.toList) := keyOf_string_mk Try.underlying9 hs
  go_enter Try.func11, Try.ntmps11
  go_wp2_with (at_lookup; refine wpList_lookup_own_unit _ rfl _ _ 27 rfl 9 33 law9 Try.underlying27 (zero33 _) g n _ rfl hown _ _ rfl hkey ?_)
  go_ret
  exact ⟨rfl, _, rfl⟩
end Go.Proofs.Qxb6615580a
