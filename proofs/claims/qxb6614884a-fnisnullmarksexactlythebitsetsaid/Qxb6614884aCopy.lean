/-
  THE CONTRACT OF zzCopyBytes over a row of bytes that begins at a block's head.
-/
import Derived.Test.Qxb6614884aIsNull
namespace Go.Proofs.Qxb6614884a
open Go.RowKit

/-- What the copy holds after k rounds. -/
def part (zs : List Int) (k j : Nat) : Int := if j < k then zs.getD j 0 else 0

theorem part_all (zs : List Int) (n j : Nat) (h : j < n) : part zs n j = zs.getD j 0 := by simp [part, h]

/-- The made row: zeros, not frozen. -/
theorem made_cells {w1 : World} {base g n : Nat} (h : w1.ownsRow base 5 1 (.slice (some ⟨g, 0, none⟩) n n) n (madeCells (Value.int .u8 0).cells (n * 1)).toList) :
    ∀ j, j < n → w1.cell? ⟨g, j, none⟩ = some (.int .u8 0) ∧ w1.frozen? ⟨g, j, none⟩ = false := by
  obtain ⟨cur, hcur, HO⟩ := made_heap h
  obtain ⟨hx, h2⟩ := h
  rcases h2 with ⟨h0, _⟩ | ⟨g', cap', cur', hv, hg, hh, hn, hcap, hsz, htake⟩
  · cases h0
  · cases hv
    intro j hj
    have hj' : j < cur'.size := by omega
    have e : cur'.toList = (madeCells (Value.int .u8 0).cells (n * 1)).toList := by rw [← htake, List.take_of_length_le (by simp; omega)]
    have e2 : cur' = madeCells (Value.int .u8 0).cells (n * 1) := by cases cur'; simp at e; simp [e]
    constructor
    · subst e2
      have hz : (Value.int .u8 0).cells = #[.int .u8 0] := rfl
      simp [size_madeCells] at hj'
      simp [World.cell?, hh, madeCells, hz, Nat.mod_one, hj']
    · simp [World.frozen?, hh]

/-- What is known of the copy's row while it is filled. -/
theorem fill_step {wr : World} {g n k : Nat} {zs : List Int} (hk : k < n) (h : ∀ j, j < n → wr.cell? ⟨g, j, none⟩ = some (.int .u8 (part zs k j)) ∧ wr.frozen? ⟨g, j, none⟩ = false) :
    ∀ j, j < n → (wr.setCell ⟨g, k, none⟩ (.int .u8 (zs.getD k 0))).cell? ⟨g, j, none⟩ = some (.int .u8 (part zs (k + 1) j)) ∧ (wr.setCell ⟨g, k, none⟩ (.int .u8 (zs.getD k 0))).frozen? ⟨g, j, none⟩ = false := by
  intro j hj
  refine ⟨?_, ?_⟩
  · by_cases e : j = k
    · subst e
      rw [World.cell?_setCell_same _ _ _ (h j hj).1]
      simp [part]
    · rw [World.cell?_setCell_other _ _ _ _ (fun h => e (by cases h; rfl))]
      rw [(h j hj).1]
      simp only [part]
      congr 2
      by_cases h1 : j < k
      · rw [if_pos h1, if_pos (by omega)]
      · rw [if_neg h1, if_neg (by omega)]
  · rw [World.frozen?_setCell]
    exact (h j hj).2

set_option maxHeartbeats 400000 in
theorem copyBytes_any (b n : Nat) (zs : List Int) (w : World) (hn : n ≤ 1048576) (hb : b < w.heap.size) (hzs : zs.length = n)
    (hc : Hid (∀ j, j < n → w.cell? ⟨b, j, none⟩ = some (.int .u8 (zs.getD j 0)))) :
    Calls Try.prog 6 #[.slice (some ⟨b, 0, none⟩) n n] w fun e w' => e = .returned (.slice (some ⟨w.heap.size, 0, none⟩) n n) ∧ Below w.heap.size w w' ∧ w.heap.size < w'.heap.size ∧
      Hid (∀ j, j < n → w'.cell? ⟨w.heap.size, j, none⟩ = some (.int .u8 (zs.getD j 0)) ∧ w'.frozen? ⟨w.heap.size, j, none⟩ = false) := by
  have hq := eql_some ⟨b, 0, none⟩ n n
  obtain ⟨i0, hi, hz0, hz1, hz2⟩ := info_parts info5
  have Hi : Hid (Try.prog.info? 5 = some i0 ∧ i0.zero = some (.int .u8 0) ∧ i0.size = 1 ∧ i0.bytes = 1) := ⟨hi, hz0, hz1, hz2⟩
  clear hi hz0 hz1 hz2
  have hm' : n ≤ maxLen := by unfold maxLen; omega
  go_enter Try.func6, Try.ntmps6
  go_wp2_with (at_make; refine wpList_make_full _ rfl _ _ 22 rfl w.heap.size 5 i0 (.int .u8 0) 1 Try.underlying22 Hi.out.1 Hi.out.2.1 Hi.out.2.2.1 _ _ _ _ n rfl rfl rfl rfl (by rw [Hi.out.2.2.2]; omega) hm' (Nat.le_refl _) ?_; intro w2 hown hgrow; have Hc2 : Hid _ := made_cells hown; have hB2 := (Below.refl w.heap.size w).grown hgrow (Nat.le_refl _) (fun k h => by cases h); have hlt2 := (hown.lt _ rfl).2; clear hown hgrow)
  go_loopw [4] (fun i wr => ∃ k : Nat, k ≤ n ∧ i = .int .i64 k ∧ Below w.heap.size w wr ∧ w.heap.size < wr.heap.size ∧ Hid (∀ j, j < n → wr.cell? ⟨w.heap.size, j, none⟩ = some (.int .u8 (part zs k j)) ∧ wr.frozen? ⟨w.heap.size, j, none⟩ = false)) (fun i _ => n - (intOf i).toNat)
  case atStart => exact ⟨0, Nat.zero_le _, rfl, hB2, hlt2, Hc2⟩
  case round =>
    obtain ⟨k, hk, rfl, hB, hlt, Hr⟩ := hrel
    by_cases hlt' : k < n
    · have hsrc : wr.cell? ⟨b, k, none⟩ = some (.int .u8 (zs.getD k 0)) := (hB.cell (by exact hb)).trans (hc.out k hlt')
      have hd1 := (Hr.out k hlt').1
      have hd2 := (Hr.out k hlt').2
      have Hf : Hid _ := fill_step hlt' Hr.out
      have hB' : Below w.heap.size w (wr.setCell ⟨w.heap.size, k, none⟩ (.int .u8 (zs.getD k 0))) := hB.setCell (Nat.le_refl _) _
      generalize zs.getD k 0 = z at hsrc Hf hB'
      go_wp2
      go_roundw
      case rel => exact ⟨k + 1, by omega, by go_num, hB', by simpa using hlt, Hf⟩
      case measure => simp [intOf]; omega
    · have : k = n := by omega
      subst this
      have Hf : Hid (∀ j, j < k → wr.cell? ⟨w.heap.size, j, none⟩ = some (.int .u8 (zs.getD j 0)) ∧ wr.frozen? ⟨w.heap.size, j, none⟩ = false) := by
        intro j hj
        have := Hr.out j hj
        rw [part_all _ _ _ hj] at this
        exact this
      go_wp2
      go_ret
      exact ⟨rfl, hB, hlt, Hf⟩

/-! ### A ROW OF BYTES IN A WORLD, under a name that the walk leaves alone -/
def Row (w : World) (b n : Nat) (zs : List Int) : Prop := ∀ j, j < n → w.cell? ⟨b, j, none⟩ = some (.int .u8 (zs.getD j 0))

theorem Row.below {w w' : World} {b n B : Nat} {zs : List Int} (h : Row w b n zs) (hB : Below B w w') (hb : b < B) : Row w' b n zs := fun j hj => (hB.cell (p := ⟨b, j, none⟩) hb).trans (h j hj)
theorem Row.setOther {w : World} {b n g k : Nat} {zs : List Int} (h : Row w b n zs) (hb : b ≠ g) (v : Value) : Row (w.setCell ⟨g, k, none⟩ v) b n zs := by
  intro j hj
  rw [World.cell?_setCell_other _ _ _ _ (fun e => hb (by cases e; rfl))]
  exact h j hj
theorem Row.setSame {w : World} {b n k : Nat} {zs : List Int} (h : Row w b n zs) (hn : zs.length = n) (hk : k < n) (v : Int) : Row (w.setCell ⟨b, k, none⟩ (.int .u8 v)) b n (zs.set k v) := by
  intro j hj
  by_cases e : j = k
  · subst e
    rw [World.cell?_setCell_same _ _ _ (h j hj)]
    simp [hn, hk]
  · rw [World.cell?_setCell_other _ _ _ _ (fun h => e (by cases h; rfl)), h j hj]
    simp [Ne.symm e]
theorem Row.drewN {w : World} {b n : Nat} {zs : List Int} (h : Row w b n zs) (q : Nat) : Row (w.drewN q) b n zs := h

/-! ### THE PLAIN LAW: a bit set, a bit cleared -/
theorem bitAt_set (zs : List Int) (K p : Nat) (v : Int) (hK : K < zs.length) : bitAt (zs.set K v) p = if p / 8 = K then bitB v (p % 8) else bitAt zs p := by
  unfold bitAt
  by_cases h : p / 8 = K
  · subst h
    simp [hK]
  · simp [h, Ne.symm h]
theorem set_law (zs : List Int) (k p : Nat) (hk : k < 8 * zs.length) (hz : ∀ j, 0 ≤ zs.getD j 0 ∧ zs.getD j 0 ≤ 255) :
    bitAt (zs.set (k / 8) (bits .or .u8 (zs.getD (k / 8) 0) (2 ^ (k % 8) % 256))) p = (decide (p = k) || bitAt zs p) := by
  rw [bitAt_set _ _ _ _ (by omega)]
  split
  · rename_i h
    rw [(or_bit _ (k % 8) (hz _).1 (hz _).2 (by omega)).2.2 (p % 8) (by omega)]
    have e : decide (p % 8 = k % 8) = decide (p = k) := by rw [Bool.eq_iff_iff]; simp; omega
    rw [e]
    unfold bitAt
    rw [h]
  · rename_i h
    have e : decide (p = k) = false := by simp; intro e; subst e; exact h rfl
    rw [e]
    simp
theorem clr_law (zs : List Int) (k p : Nat) (hk : k < 8 * zs.length) (hz : ∀ j, 0 ≤ zs.getD j 0 ∧ zs.getD j 0 ≤ 255) :
    bitAt (zs.set (k / 8) (bits .andNot .u8 (zs.getD (k / 8) 0) (2 ^ (k % 8) % 256))) p = (!decide (p = k) && bitAt zs p) := by
  rw [bitAt_set _ _ _ _ (by omega)]
  split
  · rename_i h
    rw [(clr_bit _ (k % 8) (hz _).1 (hz _).2 (by omega)).2.2 (p % 8) (by omega)]
    have e : decide (p % 8 = k % 8) = decide (p = k) := by rw [Bool.eq_iff_iff]; simp; omega
    rw [e]
    unfold bitAt
    rw [h]
  · rename_i h
    have e : decide (p = k) = false := by simp; intro e; subst e; exact h rfl
    rw [e]
    simp
theorem set_range (zs : List Int) (K : Nat) (v : Int) (h0 : 0 ≤ v) (h1 : v ≤ 255) (hz : ∀ j, 0 ≤ zs.getD j 0 ∧ zs.getD j 0 ≤ 255) : ∀ j, 0 ≤ (zs.set K v).getD j 0 ∧ (zs.set K v).getD j 0 ≤ 255 := by
  intro j
  have := hz j
  simp only [List.getD_eq_getElem?_getD, List.getElem?_set] at this ⊢
  split
  · split
    · exact ⟨h0, h1⟩
    · exact ⟨Int.le_refl _, by decide⟩
  · exact this
end Go.Proofs.Qxb6614884a
