/-
  HasAny through slices.ContainsFunc and slices.IndexFunc at the method value s.Has; zzb1AnyIn.
-/
import Derived.Test.Qxb6615580aByName
namespace Go.Proofs.Qxb6615580a
open Go.RowKit Go.Maps Go.WideMaps

/-- Is some name on the list of keys? -/
def anyB (keys names : List ByteArray) : Bool := names.any (fun s => hasB keys s)

theorem anyB_take (keys names : List ByteArray) (k : Nat) (hk : k < names.length) : anyB keys (names.take (k + 1)) = (anyB keys (names.take k) || hasB keys (names.getD k ByteArray.empty)) := by
  unfold anyB
  rw [List.take_add_one, List.any_append, List.getElem?_eq_getElem hk]
  simp [hk]
theorem anyB_hit (keys names : List ByteArray) (k : Nat) (hk : k < names.length) (h : hasB keys (names.getD k ByteArray.empty) = true) : anyB keys names = true := by
  unfold anyB
  rw [List.any_eq_true]
  refine ⟨names[k], List.getElem_mem hk, ?_⟩
  simpa [hk] using h
theorem anyB_append (keys a b : List ByteArray) : anyB keys (a ++ b) = (anyB keys a || anyB keys b) := by
  unfold anyB
  rw [List.any_append]

/-- zzb1AnyIn. -/
theorem anyIn_any (a : Option Addr) (n cap : Nat) (keys : List ByteArray) (a' : Option Addr) (n' cap' : Nat) (names : List ByteArray) (w : World) (h : Strs w a n keys) (h' : Strs w a' n' names) :
    Calls Try.prog 14 #[.slice a n cap, .slice a' n' cap'] w fun e w' => e = .returned (.bool (anyB keys names)) ∧ w' = w := by
  have hm := h'.2.2.1
  have hl := h'.1
  have Hk : Hid (Strs w a n keys) := h
  have Hs : Hid (Strs w a' n' names) := h'
  clear h h'
  unfold maxLen at hm
  go_enter Try.func14, Try.ntmps14
  go_wp2
  go_loop [5] (fun i => ∃ k : Nat, k ≤ n' ∧ i = .int .i64 k ∧ Hid (anyB keys (names.take k) = false)) (fun i => n' - (intOf i).toNat)
  case atStart => exact ⟨0, Nat.zero_le _, rfl, rfl⟩
  case round =>
    obtain ⟨k, hk, rfl, HK⟩ := hrel
    by_cases hlt : k < n'
    · obtain ⟨b, off, rfl, hb, hc⟩ := Hs.out.2.2.2 (by omega)
      have hck := hc k hlt
      have hT := anyB_take keys names k (by omega)
      have hH := anyB_hit keys names k (by omega)
      generalize names.getD k ByteArray.empty = s at hck hT hH
      clear hc hb
      cases hr : hasB keys s
      · have HR : Hid (hasB keys s = false) := hr
        have HK' : Hid (anyB keys (names.take (k + 1)) = false) := by show _ = _; rw [hT, HK.out, hr]; rfl
        clear hr hT hH
        go_wp2_with (go_at_call 10; refine (has_val a n cap keys s false _ (by exact Hk) HR).mono ?_; rintro e w' ⟨rfl, rfl⟩)
        go_round
        case rel => exact ⟨k + 1, by omega, by go_num, HK'⟩
        case measure => simp [intOf]; omega
      · have HR : Hid (hasB keys s = true) := hr
        have HH : Hid (anyB keys names = true) := hH hr
        clear hr hT hH
        go_wp2_with (go_at_call 10; refine (has_val a n cap keys s true _ (by exact Hk) HR).mono ?_; rintro e w' ⟨rfl, rfl⟩)
        go_ret
        exact ⟨ret_bool HH.out.symm, rfl⟩
    · have e : k = n' := by omega
      subst e
      have HF : Hid (anyB keys names = false) := by have := HK.out; rw [List.take_of_length_le (by omega)] at this; exact this
      go_wp2
      go_ret
      exact ⟨ret_bool HF.out.symm, rfl⟩

/-- A map that reads as the set of the keys. -/
def Reads (D : DataW Unit) (keys : List ByteArray) : Prop := ∀ s : ByteArray, Maps.has D (.string s.data.toList) = hasB keys s

/-- What slices.IndexFunc comes to: a place, or -1. -/
def Found (e : Ending) (r : Bool) : Prop := ∃ i : Int, e = .returned (.int .i64 i) ∧ decide (0 ≤ i) = r

set_option maxHeartbeats 1000000 in
/-- slices.IndexFunc(names, s.Has), where All is not among the keys. -/
theorem index_any (g m : Nat) (D : DataW Unit) (keys : List ByteArray) (a : Option Addr) (n cap : Nat) (names : List ByteArray) (w : World) (h : Strs w a n names) (hown : w.ownsMap Try.prog 9 unitElem g m D)
    (hD : Reads D keys) (hall : hasB keys star = false) :
    Calls Try.prog 18 #[.slice a n cap, .func (.func 12) #[.map (some g)] #[]] w fun e w' => Found e (anyB keys names) ∧ Below w.heap.size w w' ∧ w'.ownsMap Try.prog 9 unitElem g m D := by
  have hm := h.2.2.1
  have hl := h.1
  have Hs : Hid (Strs w a n names) := h
  have HA : Hid (Maps.has D (.string star.data.toList) = false) := (hD star).trans hall
  have HD : Hid (Reads D keys) := hD
  clear h hall hD
  unfold maxLen at hm
  go_enter Try.func18, Try.ntmps18
  go_wp2
  go_loopw [8] (fun i wr => ∃ k : Nat, k ≤ n ∧ i = .int .i64 k ∧ Hid (anyB keys (names.take k) = false) ∧ Below w.heap.size w wr ∧ wr.ownsMap Try.prog 9 unitElem g m D) (fun i _ => n - (intOf i).toNat)
  case atStart => exact ⟨0, Nat.zero_le _, rfl, rfl, Below.refl _ _, hown⟩
  case round =>
    obtain ⟨k, hk, rfl, HK, hB, hownr⟩ := hrel
    by_cases hlt : k < n
    · obtain ⟨b, off, rfl, hb, hc⟩ := (Hs.out.below hB).2.2.2 (by omega)
      have hck := hc k hlt
      have hsz := Hs.out.size_at k
      have hT := anyB_take keys names k (by omega)
      have hH := anyB_hit keys names k (by omega)
      have hDk := HD.out (names.getD k ByteArray.empty)
      generalize names.getD k ByteArray.empty = s at hck hT hH hsz hDk
      clear hc hb
      cases hr : hasB keys s
      · have HR : Hid (Maps.has D (.string s.data.toList) = false) := hDk.trans hr
        have HK' : Hid (anyB keys (names.take (k + 1)) = false) := by show _ = _; rw [hT, HK.out, hr]; rfl
        clear hr hT hH hDk
        go_wp2_with fail
        refine (hasM_any g m D s false false _ hsz hownr HA HR).mono ?_
        rintro e w' ⟨rfl, hB', hown'⟩
        have hB2 := hB.trans (hB'.mono hB.size)
        clear hck hB' hownr
        go_wp2
        go_roundw
        case rel => exact ⟨k + 1, by omega, by go_num, HK', hB2, hown'⟩
        case measure => simp [intOf]; omega
      · have HR : Hid (Maps.has D (.string s.data.toList) = true) := hDk.trans hr
        have HH : Hid (anyB keys names = true) := hH hr
        clear hr hT hH hDk
        go_wp2_with fail
        refine (hasM_any g m D s false true _ hsz hownr HA HR).mono ?_
        rintro e w' ⟨rfl, hB', hown'⟩
        have hB2 := hB.trans (hB'.mono hB.size)
        clear hck hB' hownr
        go_wp2
        go_ret
        exact ⟨⟨k, rfl, by rw [HH.out]; simp⟩, hB2, hown'⟩
    · have e : k = n := by omega
      subst e
      have HF : Hid (anyB keys names = false) := by have := HK.out; rw [List.take_of_length_le (by omega)] at this; exact this
      go_wp2
      go_ret
      exact ⟨⟨-1, rfl, by rw [HF.out]; rfl⟩, hB, hownr⟩

/-- slices.ContainsFunc(names, s.Has), where All is not among the keys. -/
theorem contains_any (g m : Nat) (D : DataW Unit) (keys : List ByteArray) (a : Option Addr) (n cap : Nat) (names : List ByteArray) (w : World) (h : Strs w a n names) (hown : w.ownsMap Try.prog 9 unitElem g m D)
    (hD : Reads D keys) (hall : hasB keys star = false) :
    Calls Try.prog 17 #[.slice a n cap, .func (.func 12) #[.map (some g)] #[]] w fun e w' => e = .returned (.bool (anyB keys names)) ∧ Below w.heap.size w w' ∧ w'.ownsMap Try.prog 9 unitElem g m D := by
  have HD : Hid (Reads D keys) := hD
  have HA : Hid (hasB keys star = false) := hall
  clear hD hall
  go_enter Try.func17, Try.ntmps17
  go_wp2_with fail
  refine (index_any g m D keys a n cap names _ h hown HD.out HA.out).mono ?_
  rintro e w' ⟨⟨i, rfl, hi⟩, hB, hown'⟩
  have Hi : Hid (decide (0 ≤ i) = anyB keys names) := hi
  clear hi
  go_wp2
  go_ret
  exact ⟨ret_bool Hi.out, hB, hown'⟩

theorem hasAny_any (g m : Nat) (D : DataW Unit) (keys : List ByteArray) (a : Option Addr) (n cap : Nat) (names : List ByteArray) (w : World) (h : Strs w a n names) (hown : w.ownsMap Try.prog 9 unitElem g m D)
    (hD : Reads D keys) :
    Calls Try.prog 15 #[.map (some g), .slice a n cap] w fun e w' => e = .returned (.bool (hasB keys star || anyB keys names)) ∧ Below w.heap.size w w' ∧ w'.ownsMap Try.prog 9 unitElem g m D := by
  have hkey : keyOf Try.prog 9 (.string ⟨#[42]⟩) = some (.string star.data.toList) := keyOf_string_mk (s := star) Try.underlying9 (by decide)
  have hmf : ∀ (fn : Fn) (first cap : Array Value) (w : World), (Instr.makeFunc fn first cap).run Try.prog w = .ok (.func fn first cap) w := fun _ _ _ _ => rfl
  have HD : Hid (Reads D keys) := hD
  have hA := hD star
  clear hD
  cases hall : hasB keys star
  · have HL : Hid (hasB keys star = false) := hall
    rw [hall] at hA
    clear hall
    go_enter Try.func15, Try.ntmps15
    go_wp2_with (first
      | (at_lookup; refine wpList_lookup_own_unit _ rfl _ _ 27 rfl 9 33 law9 Try.underlying27 (zero33 _) g m _ rfl hown _ _ rfl hkey ?_)
      | (go_at_call 17; refine (contains_any g m D keys a n cap names _ (h.below ((Below.refl _ _).alloc (Nat.le_refl _) _)) (hown.alloc _) HD.out HL.out).mono ?_; rintro e w' ⟨rfl, hB, hown'⟩))
    go_ret
    exact ⟨rfl, ((Below.refl _ _).alloc (Nat.le_refl _) _).trans (hB.mono (by simp)), hown'⟩
  · rw [hall] at hA
    clear hall
    go_enter Try.func15, Try.ntmps15
    go_wp2_with (at_lookup; refine wpList_lookup_own_unit _ rfl _ _ 27 rfl 9 33 law9 Try.underlying27 (zero33 _) g m _ rfl hown _ _ rfl hkey ?_)
    go_ret
    exact ⟨rfl, (Below.refl _ _).alloc (Nat.le_refl _) _, hown.alloc _⟩
end Go.Proofs.Qxb6615580a
