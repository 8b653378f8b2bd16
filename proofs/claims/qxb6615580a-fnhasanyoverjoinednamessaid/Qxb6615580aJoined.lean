/-
  The walk of FnHasAnyOverJoinedNames.
-/
import Derived.Test.Qxb6615580aHasAny
import Derived.Test.Qxb6615580aBytes
namespace Go.Proofs.Qxb6615580a
open Go.RowKit Go.Maps Go.WideMaps

theorem hasAny_val (g m : Nat) (D : DataW Unit) (keys : List ByteArray) (a : Option Addr) (n cap : Nat) (names : List ByteArray) (r : Bool) (w : World) (h : Strs w a n names) (hown : w.ownsMap Try.prog 9 unitElem g m D)
    (hD : Hid (Reads D keys)) (hr : Hid ((hasB keys star || anyB keys names) = r)) :
    Calls Try.prog 15 #[.map (some g), .slice a n cap] w fun e w' => e = .returned (.bool r) ∧ Below w.heap.size w w' ∧ w'.ownsMap Try.prog 9 unitElem g m D := by
  have h := hasAny_any g m D keys a n cap names w h hown hD.out
  rw [hr.out] at h
  exact h
theorem anyIn_val (a : Option Addr) (n cap : Nat) (keys : List ByteArray) (a' : Option Addr) (n' cap' : Nat) (names : List ByteArray) (r : Bool) (w : World) (h : Strs w a n keys) (h' : Strs w a' n' names) (hr : Hid (anyB keys names = r)) :
    Calls Try.prog 14 #[.slice a n cap, .slice a' n' cap'] w fun e w' => e = .returned (.bool r) ∧ w' = w := by
  have h := anyIn_any a n cap keys a' n' cap' names w h h'
  rw [hr.out] at h
  exact h

/-! ### THE JOINED LIST, filled element by element -/
theorem info9 : (Try.prog.info? 9).map (fun i => (i.zero, i.size, i.bytes)) = some (some (.string ByteArray.empty), 1, 16) := by kernel_rfl

/-- What the joined slice holds when t of its elements have been filled. -/
def partS (J : List ByteArray) (t j : Nat) : ByteArray := if j < t then J.getD j ByteArray.empty else ByteArray.empty

def Filled (w : World) (g n : Nat) (J : List ByteArray) (t : Nat) : Prop := ∀ j, j < n → w.cell? ⟨g, j, none⟩ = some (.string (partS J t j)) ∧ w.frozen? ⟨g, j, none⟩ = false

theorem filled_made {w1 : World} {base g n : Nat} {J : List ByteArray} (h : w1.ownsRow base 9 1 (.slice (some ⟨g, 0, none⟩) n n) n (madeCells (Value.string ByteArray.empty).cells (n * 1)).toList) : Filled w1 g n J 0 := by
  obtain ⟨hx, h2⟩ := h
  rcases h2 with ⟨h0, _⟩ | ⟨g', cap', cur', hv, hg, hh, hn, hcap, hsz, htake⟩
  · cases h0
  · cases hv
    intro j hj
    have hj' : j < cur'.size := by omega
    have e : cur'.toList = (madeCells (Value.string ByteArray.empty).cells (n * 1)).toList := by rw [← htake, List.take_of_length_le (by simp; omega)]
    have e2 : cur' = madeCells (Value.string ByteArray.empty).cells (n * 1) := by cases cur'; simp at e; simp [e]
    constructor
    · subst e2
      have hz : (Value.string ByteArray.empty).cells = #[.string ByteArray.empty] := rfl
      simp [size_madeCells] at hj'
      simp [World.cell?, hh, madeCells, hz, Nat.mod_one, hj', partS]
    · simp [World.frozen?, hh]
theorem Filled.step {wr : World} {g n k : Nat} {J : List ByteArray} (h : Filled wr g n J k) (hk : k < n) : Filled (wr.setCell ⟨g, k, none⟩ (.string (J.getD k ByteArray.empty))) g n J (k + 1) := by
  intro j hj
  refine ⟨?_, ?_⟩
  · by_cases e : j = k
    · subst e
      rw [World.cell?_setCell_same _ _ _ (h j hj).1]
      simp [partS]
    · rw [World.cell?_setCell_other _ _ _ _ (fun h => e (by cases h; rfl))]
      rw [(h j hj).1]
      simp only [partS]
      congr 2
      by_cases h1 : j < k
      · rw [if_pos h1, if_pos (by omega)]
      · rw [if_neg h1, if_neg (by omega)]
  · rw [World.frozen?_setCell]
    exact (h j hj).2
theorem Filled.strs {wr : World} {g n : Nat} {J : List ByteArray} (h : Filled wr g n J n) (hJ : J.length = n) (hs : ∀ s ∈ J, s.size ≤ maxLen) (hn : n ≤ maxLen) (hg : g < wr.heap.size) : Strs wr (some ⟨g, 0, none⟩) n J := by
  refine ⟨hJ, hs, hn, fun _ => ⟨g, 0, rfl, hg, fun j hj => ?_⟩⟩
  rw [Nat.zero_add, (h j hj).1]
  simp [partS, hj]

theorem join_left (A B : List ByteArray) (k : Nat) (hk : k < A.length) : (A ++ B).getD k ByteArray.empty = A.getD k ByteArray.empty := by
  rw [List.getD_eq_getElem?_getD, List.getD_eq_getElem?_getD, List.getElem?_append_left hk]
theorem join_right (A B : List ByteArray) (k : Nat) : (A ++ B).getD (A.length + k) ByteArray.empty = B.getD k ByteArray.empty := by
  rw [List.getD_eq_getElem?_getD, List.getD_eq_getElem?_getD, List.getElem?_append_right (by omega)]
  congr 2
  omega

set_option maxHeartbeats 2000000 in
theorem law2_walk (a0 : Option Addr) (n0 c0 : Nat) (K : List ByteArray) (a1 : Option Addr) (n1 c1 : Nat) (A : List ByteArray) (a2 : Option Addr) (n2 c2 : Nat) (B : List ByteArray) (w : World) (h0 : Strs w a0 n0 K) (h1 : Strs w a1 n1 A) (h2 : Strs w a2 n2 B) :
    Calls Try.prog 4 #[.slice a0 n0 c0, .slice a1 n1 c1, .slice a2 n2 c2] w fun e w' => e = .returned (.bool true) ∧ Below w.heap.size w w' := by
  obtain ⟨i0, hi, hz0, hz1, hz2⟩ := info_parts info9
  have Hi : Hid (Try.prog.info? 9 = some i0 ∧ i0.zero = some (.string ByteArray.empty) ∧ i0.size = 1 ∧ i0.bytes = 16) := ⟨hi, hz0, hz1, hz2⟩
  clear hi hz0 hz1 hz2
  go_enter Try.func4, Try.ntmps4
  go_wp2_with fail
  refine (bytes13_any a0 n0 c0 K a1 n1 c1 A a2 n2 c2 B _ h0 h1 h2).mono ?_
  rintro e w' ⟨⟨r, rfl⟩, rfl⟩
  cases r
  · go_wp2
    go_ret
    exact ⟨rfl, Below.refl _ _⟩
  go_wp2_with fail
  refine (addStrs_any 0 a0 n0 c0 K _ (by decide) (by decide) h0).mono ?_
  rintro e w' ⟨t, rfl, rfl, t0, t1, t2⟩
  go_wp2_with fail
  refine (addStrs_any t a1 n1 c1 A _ t0 t1 h1).mono ?_
  rintro e w' ⟨u, rfl, rfl, u0, u1, u2⟩
  go_wp2_with fail
  refine (addStrs_any u a2 n2 c2 B _ u0 u1 h2).mono ?_
  rintro e w ⟨v, rfl, rfl, v0, v1, v2⟩
  by_cases hv : 1048576 < v
  · clear t2 u2 v2
    go_wp2
    go_ret
    exact ⟨rfl, Below.refl _ _⟩
  have hN : n1 + n2 ≤ 65536 := by omega
  have hv' : v ≤ 1048576 := by omega
  have hm' : n1 + n2 ≤ maxLen := by unfold maxLen; omega
  clear t2 u2 v2 hv
  have HS0 : Hid (Strs w a0 n0 K) := h0
  have HS1 : Hid (Strs w a1 n1 A) := h1
  have HS2 : Hid (Strs w a2 n2 B) := h2
  have hA : A.length = n1 := h1.1
  have hB : B.length = n2 := h2.1
  clear h0 h1 h2
  go_wp2_with (at_make; refine wpList_make_full _ rfl _ _ 22 rfl w.heap.size 9 i0 (.string ByteArray.empty) 1 Try.underlying22 Hi.out.1 Hi.out.2.1 Hi.out.2.2.1 _ _ _ _ (n1 + n2) rfl rfl (by omega) (by omega) (by rw [Hi.out.2.2.2]; omega) hm' (Nat.le_refl _) ?_; intro w2 hown hgrow; have hF2 : Filled w2 w.heap.size (n1 + n2) (A ++ B) 0 := filled_made hown; have hB2 := (Below.refl w.heap.size w).grown hgrow (Nat.le_refl _) (fun k h => by cases h); have hlt2 := (hown.lt _ rfl).2; clear hown hgrow)
  go_loopw [9] (fun i wr => ∃ k : Nat, k ≤ n1 ∧ i = .int .i64 k ∧ Below w.heap.size w wr ∧ w.heap.size < wr.heap.size ∧ Filled wr w.heap.size (n1 + n2) (A ++ B) k) (fun i _ => n1 - (intOf i).toNat)
  case atStart => exact ⟨0, Nat.zero_le _, rfl, hB2, hlt2, hF2⟩
  case round =>
    obtain ⟨k, hk, rfl, hBr, hltr, hFr⟩ := hrel
    by_cases hlt : k < n1
    · obtain ⟨b, off, rfl, hb, hc⟩ := HS1.out.2.2.2 (by omega)
      have hck : wr.cell? ⟨b, off + k, none⟩ = some (.string (A.getD k ByteArray.empty)) := (hBr.cell (by exact hb)).trans (hc k hlt)
      have hd1 := (hFr k (by omega)).1
      have hd2 := (hFr k (by omega)).2
      have hF' := hFr.step (k := k) (by omega)
      rw [join_left A B k (by omega)] at hF'
      have hB' : Below w.heap.size w (wr.setCell ⟨w.heap.size, k, none⟩ (.string (A.getD k ByteArray.empty))) := hBr.setCell (Nat.le_refl _) _
      have hlt' : k < n1 + n2 := by omega
      generalize A.getD k ByteArray.empty = s at hck hF' hB'
      clear hc hb hFr
      go_wp2
      go_roundw
      case rel => exact ⟨k + 1, by omega, by go_num, hB', by simpa using hltr, hF'⟩
      case measure => simp [intOf]; omega
    have e : k = n1 := by omega
    subst e
    clear hF2 hB2 hlt2
    go_wp2_with fail
    go_loopw [10] (fun i wr => ∃ j : Nat, j ≤ n2 ∧ i = .int .i64 j ∧ Below w.heap.size w wr ∧ w.heap.size < wr.heap.size ∧ Filled wr w.heap.size (k + n2) (A ++ B) (k + j)) (fun i _ => n2 - (intOf i).toNat)
    case atStart => exact ⟨0, Nat.zero_le _, rfl, hBr, hltr, hFr⟩
    case round =>
      clear hFr hBr hltr
      obtain ⟨j, hj, rfl, hBr, hltr, hFr⟩ := hrel
      by_cases hlt2 : j < n2
      · obtain ⟨b, off, rfl, hb, hc⟩ := HS2.out.2.2.2 (by omega)
        have hck : wr.cell? ⟨b, off + j, none⟩ = some (.string (B.getD j ByteArray.empty)) := (hBr.cell (by exact hb)).trans (hc j hlt2)
        have hd1 := (hFr (k + j) (by omega)).1
        have hd2 := (hFr (k + j) (by omega)).2
        have hF' := hFr.step (k := k + j) (by omega)
        rw [show k + j = A.length + j by omega, join_right A B j, ← show k + j = A.length + j by omega] at hF'
        have hB' : Below w.heap.size w (wr.setCell ⟨w.heap.size, k + j, none⟩ (.string (B.getD j ByteArray.empty))) := hBr.setCell (Nat.le_refl _) _
        have hlt' : k + j < k + n2 := by omega
        generalize B.getD j ByteArray.empty = s at hck hF' hB'
        clear hc hb hFr
        go_wp2
        go_roundw
        case rel => exact ⟨j + 1, by omega, by go_num, hB', by simpa using hltr, hF'⟩
        case measure => simp [intOf]; omega
      have e : j = n2 := by omega
      subst e
      have hJ : Strs wr (some ⟨w.heap.size, 0, none⟩) (k + j) (A ++ B) := hFr.strs (by simp [hA, hB]) (fun s hs => by rcases List.mem_append.1 hs with h | h; exact HS1.out.2.1 s h; exact HS2.out.2.1 s h) hm' hltr
      have h0 := HS0.out.below hBr
      have hA1 := HS1.out.below hBr
      have hB1 := HS2.out.below hBr
      clear hFr HS0 HS1 HS2 hltr Hi
      go_wp2_with fail
      refine (set_any a0 n0 c0 K _ h0).mono ?_
      rintro e w3 ⟨rfl, hown, hB3⟩
      have BB := hBr.trans (hB3.mono hBr.size)
      have hJ := hJ.below hB3
      have hA1 := hA1.below hB3
      have hB1 := hB1.below hB3
      have HD : Hid (Reads (Sd K n0) K) := by intro s; have := has_Sd K s; rw [h0.1] at this; exact this
      have h0 := h0.below hB3
      clear hB3 hBr
      have AP := anyB_append K A B
      cases hra : hasB K star
      · have HA : Hid (hasB K star = false) := hra
        cases hpa : anyB K A
        · obtain ⟨RB, hRB⟩ : ∃ RB, anyB K B = RB := ⟨_, rfl⟩
          obtain ⟨RJ, hRJ⟩ : ∃ RJ, RJ = RB := ⟨_, rfl⟩
          subst hRJ
          have HJ : Hid (anyB K (A ++ B) = RJ) := by show _ = _; rw [AP, hpa, hRB]; rfl
          have HJ' : Hid ((hasB K star || anyB K (A ++ B)) = RJ) := by show _ = _; rw [hra, HJ.out]; rfl
          have HAA : Hid ((hasB K star || anyB K A) = false) := by show _ = _; rw [hra, hpa]; rfl
          have HBB : Hid ((hasB K star || anyB K B) = RJ) := by show _ = _; rw [hra, hRB]; rfl
          clear AP hra hpa hRB
          go_wp2_with fail
          refine (has_val a0 n0 c0 K ⟨#[42]⟩ false _ h0 HA).mono ?_
          rintro e w' ⟨rfl, rfl⟩
          go_wp2_with fail
          refine (anyIn_val a0 n0 c0 K _ (k + j) (k + j) (A ++ B) RJ _ h0 hJ HJ).mono ?_
          rintro e w' ⟨rfl, rfl⟩
          go_wp2_with fail
          refine (hasAny_val _ n0 _ K _ (k + j) (k + j) (A ++ B) RJ _ hJ hown HD HJ').mono ?_
          rintro e w4 ⟨rfl, hB4, hown4⟩
          have hA4 := hA1.below hB4
          have hb4 := hB1.below hB4
          have B4 := BB.trans (hB4.mono BB.size)
          clear hB4 hown h0 hJ hA1 hB1 BB
          go_wp2_with fail
          refine (hasAny_val _ n0 _ K a1 k c1 A false _ hA4 hown4 HD HAA).mono ?_
          rintro e w5 ⟨rfl, hB5, hown5⟩
          have hb5 := hb4.below hB5
          have B5 := B4.trans (hB5.mono B4.size)
          clear hB5 hown4 hA4 hb4 B4
          go_wp2_with fail
          refine (hasAny_val _ n0 _ K a2 j c2 B RJ _ hb5 hown5 HD HBB).mono ?_
          rintro e w6 ⟨rfl, hB6, hown6⟩
          have B6 := B5.trans (hB6.mono B5.size)
          go_wp2
          go_ret
          exact ⟨rfl, B6⟩
        · have HJ : Hid (anyB K (A ++ B) = true) := by show _ = _; rw [AP, hpa]; rfl
          have HJ' : Hid ((hasB K star || anyB K (A ++ B)) = true) := by show _ = _; rw [hra, HJ.out]; rfl
          have HAA : Hid ((hasB K star || anyB K A) = true) := by show _ = _; rw [hra, hpa]; rfl
          clear AP hra hpa
          go_wp2_with fail
          refine (has_val a0 n0 c0 K ⟨#[42]⟩ false _ h0 HA).mono ?_
          rintro e w' ⟨rfl, rfl⟩
          go_wp2_with fail
          refine (anyIn_val a0 n0 c0 K _ (k + j) (k + j) (A ++ B) true _ h0 hJ HJ).mono ?_
          rintro e w' ⟨rfl, rfl⟩
          go_wp2_with fail
          refine (hasAny_val _ n0 _ K _ (k + j) (k + j) (A ++ B) true _ hJ hown HD HJ').mono ?_
          rintro e w4 ⟨rfl, hB4, hown4⟩
          have hA4 := hA1.below hB4
          have hb4 := hB1.below hB4
          have B4 := BB.trans (hB4.mono BB.size)
          clear hB4 hown h0 hJ hA1 hB1 BB
          go_wp2_with fail
          refine (hasAny_val _ n0 _ K a1 k c1 A true _ hA4 hown4 HD HAA).mono ?_
          rintro e w5 ⟨rfl, hB5, hown5⟩
          have hb5 := hb4.below hB5
          have B5 := B4.trans (hB5.mono B4.size)
          clear hB5 hown4 hA4 hb4 B4
          go_wp2
          go_ret
          exact ⟨rfl, B5⟩
      · have HA : Hid (hasB K star = true) := hra
        have HJ' : Hid ((hasB K star || anyB K (A ++ B)) = true) := by show _ = _; rw [hra]; rfl
        have HAA : Hid ((hasB K star || anyB K A) = true) := by show _ = _; rw [hra]; rfl
        clear AP hra
        go_wp2_with fail
        refine (has_val a0 n0 c0 K ⟨#[42]⟩ true _ h0 HA).mono ?_
        rintro e w' ⟨rfl, rfl⟩
        go_wp2_with fail
        refine (hasAny_val _ n0 _ K _ (k + j) (k + j) (A ++ B) true _ hJ hown HD HJ').mono ?_
        rintro e w4 ⟨rfl, hB4, hown4⟩
        have hA4 := hA1.below hB4
        have hb4 := hB1.below hB4
        have B4 := BB.trans (hB4.mono BB.size)
        clear hB4 hown h0 hJ hA1 hB1 BB
        go_wp2_with fail
        refine (hasAny_val _ n0 _ K a1 k c1 A true _ hA4 hown4 HD HAA).mono ?_
        rintro e w5 ⟨rfl, hB5, hown5⟩
        have hb5 := hb4.below hB5
        have B5 := B4.trans (hB5.mono B4.size)
        clear hB5 hown4 hA4 hb4 B4
        go_wp2
        go_ret
        exact ⟨rfl, B5⟩
end Go.Proofs.Qxb6615580a
