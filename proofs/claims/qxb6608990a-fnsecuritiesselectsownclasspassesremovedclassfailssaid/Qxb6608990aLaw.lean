/-
  The walk of FnSecuritiesSelectsOwnClassPassesRemovedClassFails.
-/
import Derived.Test.Qxb6608990aSel2
import Derived.Test.Qxb6608990aBytes
import Derived.Maps.AppendAt
namespace Go.Proofs.Qxb6608990a
open Go.RowKit

theorem info9 : (Try.prog.info? 9).map (fun i => (i.zero, i.size, i.bytes)) = some (some (.string ByteArray.empty), 1, 16) := by kernel_rfl

/-- A list of strings that a slice of the call's own holds. -/
def Own (w : World) (base g n cap : Nat) (L : List ByteArray) : Prop :=
  (∀ s ∈ L, s.size ≤ maxLen) ∧ w.ownsRow base 9 1 (.slice (some ⟨g, 0, none⟩) n cap) n (L.map Value.string)

theorem strings_oneCell (s : ByteArray) : ∀ u ∈ [Value.string s], u.oneCell' = true := by
  intro u hu
  simp at hu
  subst hu
  rfl

theorem Own.snoc {w w1 : World} {base g n cap : Nat} {L : List ByteArray} {s : ByteArray} (h : Own w base g n cap L) (hs : s.size ≤ maxLen) (h1 : w1.ownsRow base 9 1 (.slice (some ⟨g, 0, none⟩) (n + 1) cap) (n + 1) (L.map Value.string ++ [.string s])) : Own w1 base g (n + 1) cap (L ++ [s]) := by
  refine ⟨fun x hx => ?_, by simpa using h1⟩
  rcases List.mem_append.1 hx with hx | hx
  · exact h.1 x hx
  · simp at hx
    subst hx
    exact hs

theorem Own.length {w : World} {base g n cap : Nat} {L : List ByteArray} (h : Own w base g n cap L) : L.length = n := by
  have := h.2.1
  simpa using this
theorem Own.strs {w : World} {base g n cap : Nat} {L : List ByteArray} (h : Own w base g n cap L) (hn : n ≤ maxLen) : Strs w (some ⟨g, 0, none⟩) n L := by
  refine ⟨h.length, h.1, hn, fun _ => ⟨g, 0, rfl, (h.2.lt g rfl).2, fun j hj => ?_⟩⟩
  have hj' : j < L.length := by rw [h.length]; exact hj
  have := h.2.cells (g := g) rfl j (.string (L.getD j ByteArray.empty)) (by simp [hj'])
  rw [Go.WideShapes.add_plain] at this
  exact this
theorem Own.kept {w w' : World} {base g n cap : Nat} {L : List ByteArray} {row : Option Nat} (h : Own w base g n cap L) (hg : w.grownBy w' row) (hne : some g ≠ row) : Own w' base g n cap L := ⟨h.1, h.2.kept hg (Or.inr hne)⟩
theorem Own.alloc {w : World} {base g n cap : Nat} {L : List ByteArray} (h : Own w base g n cap L) (o : Obj) : Own (w.alloc o) base g n cap L := ⟨h.1, h.2.alloc o⟩
theorem below_app {B : Nat} {w wr w4 : World} {g : Nat} {o : Obj} (hB : Below B w wr) (hs : B ≤ wr.heap.size) (hg : (wr.alloc o).grownBy w4 (some g)) (hgw : B ≤ g) : Below B w w4 :=
  (hB.alloc hs _).grown hg (by simp; omega) (fun j hj => by cases hj; exact hgw)
theorem hasB_snoc (L : List ByteArray) (s v : ByteArray) : hasB (L ++ [s]) v = (hasB L v || (s.data.toList == v.data.toList)) := by
  unfold hasB
  rw [List.any_append]
  simp

/-- Sharing a string is symmetric. -/
theorem anyB_comm (A B : List ByteArray) : anyB A B = anyB B A := by
  rw [Bool.eq_iff_iff]
  unfold anyB hasB
  simp only [List.any_eq_true, beq_iff_eq]
  constructor
  · rintro ⟨s, hs, t, ht, e⟩
    exact ⟨t, ht, s, hs, e.symm⟩
  · rintro ⟨s, hs, t, ht, e⟩
    exact ⟨t, ht, s, hs, e.symm⟩

/-- The security in memory, the two class lists, the tags, the security's tags; what was there before is as it was. -/
structure St (w0 Y : World) (bc : Nat) (cl : ByteArray) (gW nW : Nat) (L : List ByteArray) (gM nM : Nat) (M : List ByteArray) (a1 : Option Addr) (n1 : Nat) (TG : List ByteArray) (a3 : Option Addr) (n3 c3 : Nat) (ST : List ByteArray) : Prop where
  g2 : Y.cell? ⟨bc, 2, none⟩ = some (.string cl)
  g3 : Y.cell? ⟨bc, 3, none⟩ = some (.slice a3 n3 c3)
  sW : Strs Y (some ⟨gW, 0, none⟩) nW L
  sM : Strs Y (some ⟨gM, 0, none⟩) nM M
  sT : Strs Y a1 n1 TG
  sS : Strs Y a3 n3 ST
  bel : Below w0.heap.size w0 Y

section
variable {w0 Y : World} {bc : Nat} {cl : ByteArray} {gW nW : Nat} {L : List ByteArray} {gM nM : Nat} {M : List ByteArray} {a1 : Option Addr} {n1 : Nat} {TG : List ByteArray} {a3 : Option Addr} {n3 c3 : Nat} {ST : List ByteArray}

theorem St.below (h : St w0 Y bc cl gW nW L gM nM M a1 n1 TG a3 n3 c3 ST) {Y' : World} (hB : Below Y.heap.size Y Y') : St w0 Y' bc cl gW nW L gM nM M a1 n1 TG a3 n3 c3 ST where
  g2 := (hB.cell (World.block_lt_of_cell? Y _ h.g2)).trans h.g2
  g3 := (hB.cell (World.block_lt_of_cell? Y _ h.g3)).trans h.g3
  sW := h.sW.below hB
  sM := h.sM.below hB
  sT := h.sT.below hB
  sS := h.sS.below hB
  bel := h.bel.trans (hB.mono h.bel.size)
theorem St.alloc (h : St w0 Y bc cl gW nW L gM nM M a1 n1 TG a3 n3 c3 ST) (o : Obj) : St w0 (Y.alloc o) bc cl gW nW L gM nM M a1 n1 TG a3 n3 c3 ST := h.below ((Below.refl _ _).alloc (Nat.le_refl _) _)

/-- A selector, newly laid: the class list that was filled; the one that was emptied of the class; none. -/
theorem St.with (h : St w0 Y bc cl gW nW L gM nM M a1 n1 TG a3 n3 c3 ST) (cW c1 : Nat) : Laid (Y.alloc (.cells #[.slice (some ⟨gW, 0, none⟩) nW cW, .slice a1 n1 c1, .pointer none] 44)) Y.heap.size bc (some ⟨gW, 0, none⟩) nW cW L a1 n1 c1 TG cl a3 n3 c3 ST :=
  let k := h.alloc (.cells #[.slice (some ⟨gW, 0, none⟩) nW cW, .slice a1 n1 c1, .pointer none] 44)
  { f0 := by simp, f1 := by simp, g2 := k.g2, g3 := k.g3, sC := k.sW, sT := k.sT, sS := k.sS }
theorem St.without (h : St w0 Y bc cl gW nW L gM nM M a1 n1 TG a3 n3 c3 ST) (cM c1 : Nat) : Laid (Y.alloc (.cells #[.slice (some ⟨gM, 0, none⟩) nM cM, .slice a1 n1 c1, .pointer none] 44)) Y.heap.size bc (some ⟨gM, 0, none⟩) nM cM M a1 n1 c1 TG cl a3 n3 c3 ST :=
  let k := h.alloc (.cells #[.slice (some ⟨gM, 0, none⟩) nM cM, .slice a1 n1 c1, .pointer none] 44)
  { f0 := by simp, f1 := by simp, g2 := k.g2, g3 := k.g3, sC := k.sM, sT := k.sT, sS := k.sS }
theorem St.bare (h : St w0 Y bc cl gW nW L gM nM M a1 n1 TG a3 n3 c3 ST) (c1 : Nat) : Laid (Y.alloc (.cells #[.slice none 0 0, .slice a1 n1 c1, .pointer none] 44)) Y.heap.size bc none 0 0 [] a1 n1 c1 TG cl a3 n3 c3 ST :=
  let k := h.alloc (.cells #[.slice none 0 0, .slice a1 n1 c1, .pointer none] 44)
  { f0 := by simp, f1 := by simp, g2 := k.g2, g3 := k.g3, sC := ⟨rfl, (fun s hs => by cases hs), Nat.zero_le _, fun h => absurd h (Nat.lt_irrefl 0)⟩, sT := k.sT, sS := k.sS }
/-- Behind a call of Selects. -/
theorem St.after (h : St w0 Y bc cl gW nW L gM nM M a1 n1 TG a3 n3 c3 ST) {o : Obj} {Y' : World} (hB : Below (Y.alloc o).heap.size (Y.alloc o) Y') : St w0 Y' bc cl gW nW L gM nM M a1 n1 TG a3 n3 c3 ST := (h.alloc o).below hB
end

set_option maxHeartbeats 4000000 in
set_option maxRecDepth 100000 in
theorem law_walk (a0 : Option Addr) (n0 c0 : Nat) (CL : List ByteArray) (a1 : Option Addr) (n1 c1 : Nat) (TG : List ByteArray) (cl : ByteArray) (a3 : Option Addr) (n3 c3 : Nat) (ST : List ByteArray) (p : Int) (w : World)
    (h0 : Strs w a0 n0 CL) (h1 : Strs w a1 n1 TG) (hnil : a1 = none → n1 = 0 ∧ c1 = 0) (hcl : cl.size ≤ maxLen) (h3 : Strs w a3 n3 ST) :
    Calls Try.prog 3 #[.slice a0 n0 c0, .slice a1 n1 c1, .string cl, .slice a3 n3 c3, .int .i64 p] w fun e w' => e = .returned (.bool true) ∧ Below w.heap.size w w' := by
  have hcl' : cl.size ≤ 9223372036854775807 := by unfold maxLen at hcl; omega
  obtain ⟨i0, hi, hz0, hz1, hz2⟩ := info_parts info9
  have Hi : Hid (Try.prog.info? 9 = some i0 ∧ i0.zero = some (.string ByteArray.empty) ∧ i0.size = 1 ∧ i0.bytes = 16) := ⟨hi, hz0, hz1, hz2⟩
  clear hi hz0 hz1 hz2
  go_enter Try.func3, Try.ntmps3
  go_wp2_with fail
  refine (bytes6_any a0 n0 c0 CL a1 n1 c1 TG a3 n3 c3 ST cl hcl p _ h0 h1 h3).mono ?_
  rintro e w' ⟨⟨r, rfl⟩, rfl⟩
  cases r
  · go_wp2
    go_ret
    exact ⟨rfl, Below.refl _ _⟩
  go_wp2_with fail
  refine (addStrs_any 0 a0 n0 c0 CL _ (by decide) (by decide) h0).mono ?_
  rintro e w' ⟨t, rfl, rfl, t0, t1, t2⟩
  go_wp2_with fail
  refine (addStrs_any t a1 n1 c1 TG _ t0 t1 h1).mono ?_
  rintro e w' ⟨u, rfl, rfl, u0, u1, u2⟩
  go_wp2_with fail
  refine (addLen_any u cl.size _ u0 u1 (by omega) (by omega)).mono ?_
  rintro e w' ⟨y, rfl, rfl, y0, y1, y2⟩
  go_wp2_with fail
  refine (addStrs_any y a3 n3 c3 ST _ y0 y1 h3).mono ?_
  rintro e w ⟨v, rfl, rfl, v0, v1, v2⟩
  by_cases hv : 1048576 < v
  · clear t2 u2 v2 y2
    go_wp2
    go_ret
    exact ⟨rfl, Below.refl _ _⟩
  have hN : n0 ≤ 65536 := by omega
  have hv' : v ≤ 1048576 := by omega
  clear t2 u2 v2 y2 hv t0 t1 u0 u1 y0 y1 v0 v1
  by_cases hb1 : 4096 < n1
  · go_wp2
    go_ret
    exact ⟨rfl, Below.refl _ _⟩
  by_cases hb3 : 4096 < n3
  · go_wp2
    go_ret
    exact ⟨rfl, Below.refl _ _⟩
  by_cases hp : p < 0
  · go_wp2
    go_ret
    exact ⟨rfl, Below.refl _ _⟩
  by_cases hp' : (n0 : Int) < p
  · go_wp2
    go_ret
    exact ⟨rfl, Below.refl _ _⟩
  obtain ⟨q, rfl⟩ := Int.eq_ofNat_of_zero_le (show 0 ≤ p by omega)
  have hq : q ≤ n0 := by omega
  clear hp hp'
  have HS0 : Hid (Strs w a0 n0 CL) := h0
  have HS1 : Hid (Strs w a1 n1 TG) := h1
  have HS3 : Hid (Strs w a3 n3 ST) := h3
  have hl0 : CL.length = n0 := h0.1
  clear h0 h1 h3
  have hm' : n0 + 1 ≤ maxLen := by unfold maxLen; omega
  have hm0 : n0 ≤ maxLen := by unfold maxLen; omega
  go_wp2_with (at_make; refine wpList_make_own _ rfl _ _ 22 rfl w.heap.size 9 i0 (.string ByteArray.empty) 1 Try.underlying22 Hi.out.1 Hi.out.2.1 Hi.out.2.2.1 _ _ _ (n0 + 1) rfl rfl (by omega) (by rw [Hi.out.2.2.2]; omega) hm' (Nat.le_refl _) ?_; intro w2 hown hgrow; have hO2 : Own w2 w.heap.size w.heap.size 0 (n0 + 1) [] := ⟨by simp, hown⟩; have hB2 := (Below.refl w.heap.size w).grown hgrow (Nat.le_refl _) (fun k h => by cases h); clear hown hgrow)
  go_loopw [12, 13] (fun c i wr => ∃ k : Nat, k ≤ q ∧ i = .int .i64 k ∧ c = .slice (some ⟨w.heap.size, 0, none⟩) k (n0 + 1) ∧ Below w.heap.size w wr ∧ ∃ L : List ByteArray, Own wr w.heap.size w.heap.size k (n0 + 1) L) (fun _ i _ => q - (intOf i).toNat)
  case atStart => exact ⟨0, Nat.zero_le _, rfl, rfl, hB2, [], hO2⟩
  case round =>
    clear hB2 hO2
    obtain ⟨k, hk, rfl, rfl, hBr, L, hO⟩ := hrel
    by_cases hlt : k < q
    · obtain ⟨b, off, rfl, hb, hc⟩ := HS0.out.2.2.2 (by omega)
      have hck : wr.cell? ⟨b, off + k, none⟩ = some (.string (CL.getD k ByteArray.empty)) := (hBr.cell (by exact hb)).trans (hc k (by omega))
      have hsz := HS0.out.size_at k
      have hlt0 : k < n0 := by omega
      generalize CL.getD k ByteArray.empty = s at hck hsz
      clear hc hb
      go_wp2_with (at_builtin; go_loud (refine wpList_append_fits _ rfl _ _ 22 rfl w.heap.size 9 i0 1 Try.underlying22 Hi.out.1 Hi.out.2.2.1 w.heap.size k (n0 + 1) (L.map Value.string) rfl (hO.2.alloc _) ⟨wr.heap.size, 0, none⟩ 1 1 [.string s] rfl rfl (by exact cell_one_new _ _ _) (strings_oneCell s) (by omega) ?_; intro w4 hown4 hgrow4))
      have hB4 := below_app hBr hBr.size hgrow4 (Nat.le_refl _)
      have hO4 := hO.snoc hsz hown4
      clear hown4 hgrow4 hBr hO
      go_roundw
      case rel => exact ⟨k + 1, by omega, by go_num, rfl, hB4, _, hO4⟩
      case measure => simp [intOf]; omega
    have e : k = q := by omega
    subst e
    go_wp2_with (at_builtin; refine wpList_append_fits _ rfl _ _ 22 rfl w.heap.size 9 i0 1 Try.underlying22 Hi.out.1 Hi.out.2.2.1 w.heap.size k (n0 + 1) ((L).map Value.string) rfl (by exact (hO).2.alloc _) ⟨wr.heap.size, 0, none⟩ 1 1 [.string cl] rfl rfl (by exact cell_one_new _ _ _) (strings_oneCell cl) (by omega) ?_; intro w4 hown4 hgrow4)
    have hB4 := below_app hBr hBr.size hgrow4 (Nat.le_refl _)
    have hO4 := hO.snoc hcl hown4
    have HL4 : Hid (hasB (L ++ [cl]) cl = true) := by show _ = _; rw [hasB_snoc]; simp
    clear hown4 hgrow4 hBr hO
    go_loopw [12, 14] (fun c i wr => ∃ j : Nat, k ≤ j ∧ j ≤ n0 ∧ i = .int .i64 j ∧ c = .slice (some ⟨w.heap.size, 0, none⟩) (j + 1) (n0 + 1) ∧ Below w.heap.size w wr ∧ ∃ L : List ByteArray, Hid (hasB L cl = true) ∧ Own wr w.heap.size w.heap.size (j + 1) (n0 + 1) L) (fun _ i _ => n0 - (intOf i).toNat)
    case atStart => exact ⟨k, Nat.le_refl _, hq, rfl, rfl, hB4, _, HL4, hO4⟩
    case round =>
      clear hB4 hO4 HL4 L
      obtain ⟨j, hkj, hj, rfl, rfl, hBr, L, HL, hO⟩ := hrel
      by_cases hlt2 : j < n0
      · obtain ⟨b, off, rfl, hb, hc⟩ := HS0.out.2.2.2 (by omega)
        have hck : wr.cell? ⟨b, off + j, none⟩ = some (.string (CL.getD j ByteArray.empty)) := (hBr.cell (by exact hb)).trans (hc j (by omega))
        have hsz := HS0.out.size_at j
        generalize CL.getD j ByteArray.empty = s at hck hsz
        clear hc hb
        go_wp2_with (at_builtin; refine wpList_append_fits _ rfl _ _ 22 rfl w.heap.size 9 i0 1 Try.underlying22 Hi.out.1 Hi.out.2.2.1 w.heap.size (j + 1) (n0 + 1) ((L).map Value.string) rfl (by exact (hO).2.alloc _) ⟨wr.heap.size, 0, none⟩ 1 1 [.string s] rfl rfl (by exact cell_one_new _ _ _) (strings_oneCell s) (by omega) ?_; intro w4 hown4 hgrow4)
        have hB4 := below_app hBr hBr.size hgrow4 (Nat.le_refl _)
        have hO4 := hO.snoc hsz hown4
        have HL4 : Hid (hasB (L ++ [s]) cl = true) := by show _ = _; rw [hasB_snoc, HL.out]; rfl
        clear hown4 hgrow4 hBr hO HL
        go_roundw
        case rel => exact ⟨j + 1, by omega, by omega, by go_num, rfl, hB4, _, HL4, hO4⟩
        case measure => simp [intOf]; omega
      have e : j = n0 := by omega
      subst e
      go_wp2_with (at_make; refine wpList_make_own _ rfl _ _ 22 rfl w.heap.size 9 i0 (.string ByteArray.empty) 1 Try.underlying22 Hi.out.1 Hi.out.2.1 Hi.out.2.2.1 _ _ _ j rfl rfl (by omega) (by rw [Hi.out.2.2.2]; omega) hm0 hBr.size ?_; intro w5 hown5 hgrow5)
      have hO5 : Own w5 w.heap.size wr.heap.size 0 j [] := ⟨by simp, hown5⟩
      have hB5 := hBr.grown hgrow5 hBr.size (fun k h => by cases h)
      have hW5 := hO.kept hgrow5 (by simp)
      have hg5 : w.heap.size < wr.heap.size := (hO.2.lt _ rfl).2
      clear hown5 hgrow5 hO hBr
      generalize wr.heap.size = g2 at *
      go_loopw [15, 16] (fun c i wr => ∃ x : Nat, x ≤ j ∧ i = .int .i64 x ∧ Below w.heap.size w wr ∧ Own wr w.heap.size w.heap.size (j + 1) (j + 1) L ∧ ∃ m : Nat, m ≤ x ∧ c = .slice (some ⟨g2, 0, none⟩) m j ∧ ∃ M : List ByteArray, Hid (hasB M cl = false) ∧ Own wr w.heap.size g2 m j M) (fun _ i _ => j - (intOf i).toNat)
      case atStart => exact ⟨0, Nat.zero_le _, rfl, hB5, hW5, 0, Nat.le_refl _, rfl, [], rfl, hO5⟩
      case round =>
        clear hB5 hW5 hO5
        obtain ⟨x, hx, rfl, hBr, hW, m, hmx, rfl, M, HM, hO⟩ := hrel
        by_cases hlt3 : x < j
        · obtain ⟨b, off, rfl, hb, hc⟩ := HS0.out.2.2.2 (by omega)
          have hck : wr.cell? ⟨b, off + x, none⟩ = some (.string (CL.getD x ByteArray.empty)) := (hBr.cell (by exact hb)).trans (hc x (by omega))
          have hsz := HS0.out.size_at x
          generalize CL.getD x ByteArray.empty = s at hck hsz
          clear hc hb
          cases hsc : (s.data.toList == cl.data.toList)
          · have hne : (s.toList == cl.toList) = false := by rw [ByteArray.toList_eq, ByteArray.toList_eq, hsc]
            have HM4 : Hid (hasB (M ++ [s]) cl = false) := by show _ = _; rw [hasB_snoc, HM.out, hsc]; rfl
            clear hsc
            go_wp2_with (at_builtin; refine wpList_append_fits _ rfl _ _ 22 rfl w.heap.size 9 i0 1 Try.underlying22 Hi.out.1 Hi.out.2.2.1 g2 m j ((M).map Value.string) rfl (by exact (hO).2.alloc _) ⟨wr.heap.size, 0, none⟩ 1 1 [.string s] rfl rfl (by exact cell_one_new _ _ _) (strings_oneCell s) (by omega) ?_; intro w4 hown4 hgrow4)
            have hB4 := below_app hBr hBr.size hgrow4 (by omega)
            have hO4 := hO.snoc hsz hown4
            have hW4 := (hW.alloc _).kept hgrow4 (by simp; omega)
            clear hown4 hgrow4 hBr hO HM hW
            go_roundw
            case rel => exact ⟨x + 1, by omega, by go_num, hB4, hW4, m + 1, by omega, rfl, _, HM4, hO4⟩
            case measure => simp [intOf]; omega
          · have hne : (s.toList == cl.toList) = true := by rw [ByteArray.toList_eq, ByteArray.toList_eq, hsc]
            clear hsc
            go_wp2
            go_roundw
            case rel => exact ⟨x + 1, by omega, by go_num, hBr, hW, m, by omega, rfl, _, HM, hO⟩
            case measure => simp [intOf]; omega
        have hW' := hW.strs hm'
        have hO' := hO.strs (by omega)
        have h1' := HS1.out.below hBr
        have h3' := HS3.out.below hBr
        have st : St w (wr.alloc (.cells #[.string ⟨#[]⟩, .string ⟨#[]⟩, .string cl, .slice a3 n3 c3, .pointer none, .int .i32 0, .bool false, .pointer none, .int .i32 0, .bool false, .int .u64 0, .int .i64 0, .pointer none, .string ⟨#[]⟩, .int .i64 0, .map none] 40)) wr.heap.size cl w.heap.size (j + 1) L g2 m M a1 n1 TG a3 n3 c3 ST :=
          ⟨by simp, by simp, hW'.below ((Below.refl _ _).alloc (Nat.le_refl _) _), hO'.below ((Below.refl _ _).alloc (Nat.le_refl _) _), h1'.below ((Below.refl _ _).alloc (Nat.le_refl _) _), h3'.below ((Below.refl _ _).alloc (Nat.le_refl _) _), hBr.alloc hBr.size _⟩
        clear hW hO HS0 HS1 HS3 Hi hW' hO' h1' h3' hBr
        cases a1 with
        | none =>
          obtain ⟨rfl, rfl⟩ := hnil rfl
          have e1 := eql_none
          go_wp2_with fail
          refine (sel_yn _ _ ⟨w.heap.size, 0, none⟩ (j + 1) (j + 1) L TG cl a3 n3 c3 ST _ (by have k := st.with (j + 1) 0; rw [World.size_alloc] at k; exact k) HL).mono ?_
          rintro e w6 ⟨rfl, hB6⟩
          have st6 := st.after hB6
          clear hB6 st
          go_wp2_with fail
          refine (sel_nn _ _ [] TG cl a3 n3 c3 ST _ (by exact st6.bare 0)).mono ?_
          rintro e w7 ⟨rfl, hB7⟩
          have st7 := st6.after hB7
          clear hB7 st6
          go_wp2_with fail
          refine (sel_no _ _ ⟨g2, 0, none⟩ m j none 0 0 M TG cl a3 n3 c3 ST _ (by exact st7.without j 0) HM).mono ?_
          rintro e w8 ⟨rfl, hB8⟩
          have st8 := st7.after hB8
          clear hB8 st7
          go_wp2
          go_ret
          exact ⟨rfl, st8.bel⟩
        | some xt =>
          have e1 := eql_some xt n1 c1
          clear hnil
          go_wp2_with fail
          refine (sel_ys _ _ ⟨w.heap.size, 0, none⟩ (j + 1) (j + 1) xt n1 c1 L TG cl a3 n3 c3 ST _ (by have k := st.with (j + 1) c1; rw [World.size_alloc] at k; exact k) HL).mono ?_
          rintro e w6 ⟨rfl, hB6⟩
          have st6 := st.after hB6
          clear hB6 st
          go_wp2_with fail
          refine (sel_ns _ _ xt n1 c1 [] TG cl a3 n3 c3 ST _ (by exact st6.bare c1)).mono ?_
          rintro e w7 ⟨rfl, hB7⟩
          have st7 := st6.after hB7
          clear hB7 st6
          go_wp2_with fail
          refine (sel_no _ _ ⟨g2, 0, none⟩ m j (some xt) n1 c1 M TG cl a3 n3 c3 ST _ (by exact st7.without j c1) HM).mono ?_
          rintro e w8 ⟨rfl, hB8⟩
          have st8 := st7.after hB8
          clear hB8 st7
          go_wp2_with fail
          refine (share_any a3 n3 c3 ST (some xt) n1 c1 TG _ st8.sS st8.sT).mono ?_
          rintro e w9 ⟨rfl, rfl⟩
          rw [anyB_comm ST TG]
          go_wp2
          go_ret
          exact ⟨rfl, st8.bel⟩
end Go.Proofs.Qxb6608990a
