/-
  (*Securities).Selects: its closure, slices.IndexFunc and ContainsFunc at that closure, and the method itself.
-/
import Derived.Test.Qxb6608990aParts
import Derived.Laws.Cover3
import Derived.Deep.QuietTactic
import Derived.BigQuiet
namespace Go.Proofs.Qxb6608990a
open Go.RowKit

/-- The closure 'func(t string) bool { return slices.Contains(s.Tags, t) }': its captured variable holds the pointer to the selector. -/
theorem closure_any (bx bs : Nat) (at' : Option Addr) (nt ct : Nat) (T : List ByteArray) (s : ByteArray) (w : World) (hx : w.cell? ⟨bx, 0, none⟩ = some (.pointer (some ⟨bs, 0, none⟩)))
    (ht : w.cell? ⟨bs, 1, none⟩ = some (.slice at' nt ct)) (h : Strs w at' nt T) :
    Calls Try.prog 20 #[.string s, .pointer (some ⟨bx, 0, none⟩)] w fun e w' => e = .returned (.bool (hasB T s)) ∧ w' = w := by
  go_enter Try.func20, Try.ntmps20
  go_wp2_with fail
  refine (contains_any at' nt ct T s _ h).mono ?_
  rintro e w' ⟨rfl, rfl⟩
  go_wp2
  go_ret
  exact ⟨rfl, rfl⟩

theorem closure_val (bx bs : Nat) (at' : Option Addr) (nt ct : Nat) (T : List ByteArray) (s : ByteArray) (r : Bool) (w : World) (hx : w.cell? ⟨bx, 0, none⟩ = some (.pointer (some ⟨bs, 0, none⟩)))
    (ht : w.cell? ⟨bs, 1, none⟩ = some (.slice at' nt ct)) (h : Strs w at' nt T) (hr : Hid (hasB T s = r)) :
    Calls Try.prog 20 #[.string s, .pointer (some ⟨bx, 0, none⟩)] w fun e w' => e = .returned (.bool r) ∧ w' = w := by
  have h := closure_any bx bs at' nt ct T s w hx ht h
  rw [hr.out] at h
  exact h

set_option maxHeartbeats 1000000 in
/-- slices.IndexFunc at that closure. -/
theorem indexF_any (bx bs : Nat) (at' : Option Addr) (nt ct : Nat) (T : List ByteArray) (a : Option Addr) (n cap : Nat) (names : List ByteArray) (w : World) (hx : w.cell? ⟨bx, 0, none⟩ = some (.pointer (some ⟨bs, 0, none⟩)))
    (ht : w.cell? ⟨bs, 1, none⟩ = some (.slice at' nt ct)) (hT : Strs w at' nt T) (h : Strs w a n names) :
    Calls Try.prog 25 #[.slice a n cap, .func (.func 20) #[] #[.pointer (some ⟨bx, 0, none⟩)]] w fun e w' => Found e (anyB T names) ∧ w' = w := by
  have hm := h.2.2.1
  have hl := h.1
  have Hs : Hid (Strs w a n names) := h
  have HT : Hid (Strs w at' nt T) := hT
  have HX : Hid (w.cell? ⟨bx, 0, none⟩ = some (.pointer (some ⟨bs, 0, none⟩))) := hx
  have HY : Hid (w.cell? ⟨bs, 1, none⟩ = some (.slice at' nt ct)) := ht
  clear h hT hx ht
  unfold maxLen at hm
  go_enter Try.func25, Try.ntmps25
  go_wp2
  go_loop [8] (fun i => ∃ k : Nat, k ≤ n ∧ i = .int .i64 k ∧ Hid (anyB T (names.take k) = false)) (fun i => n - (intOf i).toNat)
  case atStart => exact ⟨0, Nat.zero_le _, rfl, rfl⟩
  case round =>
    obtain ⟨k, hk, rfl, HK⟩ := hrel
    by_cases hlt : k < n
    · obtain ⟨b, off, rfl, hb, hc⟩ := Hs.out.2.2.2 (by omega)
      have hck := hc k hlt
      have hA := anyB_take T names k (by omega)
      have hH := anyB_hit T names k (by omega)
      generalize names.getD k ByteArray.empty = s at hck hA hH
      clear hc hb
      cases hr : hasB T s
      · have HR : Hid (hasB T s = false) := hr
        have HK' : Hid (anyB T (names.take (k + 1)) = false) := by show _ = _; rw [hA, HK.out, hr]; rfl
        clear hr hA hH
        go_wp2_with fail
        refine (closure_val bx bs at' nt ct T s false _ HX.out HY.out HT.out HR).mono ?_
        rintro e w' ⟨rfl, rfl⟩
        go_wp2
        go_round
        case rel => exact ⟨k + 1, by omega, by go_num, HK'⟩
        case measure => simp [intOf]; omega
      · have HR : Hid (hasB T s = true) := hr
        have HH : Hid (anyB T names = true) := hH hr
        clear hr hA hH
        go_wp2_with fail
        refine (closure_val bx bs at' nt ct T s true _ HX.out HY.out HT.out HR).mono ?_
        rintro e w' ⟨rfl, rfl⟩
        go_wp2
        go_ret
        exact ⟨⟨k, rfl, by rw [HH.out]; simp⟩, rfl⟩
    · have e : k = n := by omega
      subst e
      have HF : Hid (anyB T names = false) := by have := HK.out; rw [List.take_of_length_le (by omega)] at this; exact this
      go_wp2
      go_ret
      exact ⟨⟨-1, rfl, by rw [HF.out]; rfl⟩, rfl⟩

theorem containsF_any (bx bs : Nat) (at' : Option Addr) (nt ct : Nat) (T : List ByteArray) (a : Option Addr) (n cap : Nat) (names : List ByteArray) (w : World) (hx : w.cell? ⟨bx, 0, none⟩ = some (.pointer (some ⟨bs, 0, none⟩)))
    (ht : w.cell? ⟨bs, 1, none⟩ = some (.slice at' nt ct)) (hT : Strs w at' nt T) (h : Strs w a n names) :
    Calls Try.prog 19 #[.slice a n cap, .func (.func 20) #[] #[.pointer (some ⟨bx, 0, none⟩)]] w fun e w' => e = .returned (.bool (anyB T names)) ∧ w' = w := by
  go_enter Try.func19, Try.ntmps19
  go_wp2_with fail
  refine (indexF_any bx bs at' nt ct T a n cap names _ hx ht hT h).mono ?_
  rintro e w' ⟨⟨i, rfl, hi⟩, rfl⟩
  have Hi : Hid (decide (0 ≤ i) = anyB T names) := hi
  clear hi
  go_wp2
  go_ret
  exact ⟨ret_bool Hi.out, rfl⟩
end Go.Proofs.Qxb6608990a
