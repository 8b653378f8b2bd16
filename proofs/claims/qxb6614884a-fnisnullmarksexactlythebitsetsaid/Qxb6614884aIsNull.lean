/-
  CONTRACTS OF THE SMALL FUNCTIONS: isNull, ZZIsNull, zzPopCount, zzCopyBytes.
-/
import Derived.Test.Qxb6614884aRows
import Derived.Test.Qxb6614884aPlain
import Derived.WalkKit
import Derived.ProofKit
import Derived.Below
import Derived.Deep.QuietTactic
import Derived.BigQuiet
import Derived.Laws.CopyOwn
import Derived.WalkSmall
import Derived.Laws.Cover3
import Derived.OpenShut
namespace Go.Proofs.Qxb6614884a
open Go.RowKit

theorem ret_bool {a b : Bool} (h : a = b) : Ending.returned (.bool a) = .returned (.bool b) := by rw [h]
theorem ret_int {k : IntKind} {a b : Int} (h : a = b) : Ending.returned (.int k a) = .returned (.int k b) := by rw [h]

/-- isNull at a bit that lies in the row. -/
theorem isNull_any (b len cap : Nat) (i o z : Int) (w : World) (h0 : 0 ≤ i) (h1 : 0 ≤ o) (h2 : i + o < 8 * len) (hl : len ≤ 1048576)
    (hc : w.cell? ⟨b, ((i + o) / 8).toNat, none⟩ = some (.int .u8 z)) (hz0 : 0 ≤ z) (hz : z ≤ 255) :
    Calls Try.prog 10 #[.slice (some ⟨b, 0, none⟩) len cap, .int .i64 i, .int .i64 o] w fun e w' => e = .returned (.bool (bitB z ((i + o) % 8).toNat)) ∧ ∃ n, w' = w.drewN n := by
  have k1 : (i + o) / 8 < len := by omega
  have k2 : 0 ≤ (i + o) / 8 := by omega
  have k3 : 0 ≤ (i + o) % 8 := by omega
  have E : Hid ((bits .and .u8 z (2 ^ ((i + o) % 8).toNat % 256) != 0) = bitB z ((i + o) % 8).toNat) := and_bit z _ hz0 hz (by omega)
  go_enter Try.func10, Try.ntmps10
  go_wp2
  go_quiet (fail)
  go_wp2
  go_ret
  exact ⟨ret_bool E.out, nq, rfl⟩

/-- ZZIsNull over a row of bytes. -/
theorem zzIsNull_any (b len cap : Nat) (i o : Int) (zs : List Int) (w : World) (h0 : 0 ≤ i) (h1 : 0 ≤ o) (h2 : i + o < 8 * len) (hl : len ≤ 1048576) (hzl : zs.length = len)
    (hc : ∀ j, j < len → w.cell? ⟨b, j, none⟩ = some (.int .u8 (zs.getD j 0))) (hz : ∀ j, 0 ≤ zs.getD j 0 ∧ zs.getD j 0 ≤ 255) :
    Calls Try.prog 7 #[.slice (some ⟨b, 0, none⟩) len cap, .int .i64 i, .int .i64 o] w fun e w' => e = .returned (.bool (bitAt zs (i + o).toNat)) ∧ ∃ n, w' = w.drewN n := by
  have E : Hid (bitB (zs.getD ((i + o) / 8).toNat 0) ((i + o) % 8).toNat = bitAt zs (i + o).toNat) := by
    show _ = _
    unfold bitAt
    rw [show ((i + o) / 8).toNat = (i + o).toNat / 8 by omega, show ((i + o) % 8).toNat = (i + o).toNat % 8 by omega]
  have hck := hc ((i + o) / 8).toNat (by omega)
  have hzk := hz ((i + o) / 8).toNat
  generalize zs.getD ((i + o) / 8).toNat 0 = z at hck hzk E
  obtain ⟨hz0, hz1⟩ := hzk
  clear hc hz
  go_enter Try.func7, Try.ntmps7
  go_wp2_with (go_at_call 10; refine (isNull_any b len cap i o z _ h0 h1 h2 hl hck hz0 hz1).mono ?_; rintro e w' ⟨rfl, n, rfl⟩)
  go_ret
  exact ⟨ret_bool E.out, n, rfl⟩

/-- The same, its answer given by name; the facts on the row hidden from the walk. -/
theorem zzIsNull_val (b len cap : Nat) (i o : Int) (zs : List Int) (r : Bool) (w : World) (h0 : 0 ≤ i) (h1 : 0 ≤ o) (h2 : i + o < 8 * len) (hl : len ≤ 1048576) (hzl : zs.length = len)
    (hc : Hid (∀ j, j < len → w.cell? ⟨b, j, none⟩ = some (.int .u8 (zs.getD j 0)))) (hz : Hid (∀ j, 0 ≤ zs.getD j 0 ∧ zs.getD j 0 ≤ 255)) (hr : Hid (bitAt zs (i + o).toNat = r)) :
    Calls Try.prog 7 #[.slice (some ⟨b, 0, none⟩) len cap, .int .i64 i, .int .i64 o] w fun e w' => e = .returned (.bool r) ∧ ∃ n, w' = w.drewN n := by
  have h := zzIsNull_any b len cap i o zs w h0 h1 h2 hl hzl hc.out hz.out
  rw [hr.out] at h
  exact h

/-- zzPopCount over a row of bytes: as many as bits are set. -/
theorem popCount_any (b len cap : Nat) (zs : List Int) (w : World) (hl : len ≤ 1048576) (hzl : zs.length = len)
    (hc : ∀ j, j < len → w.cell? ⟨b, j, none⟩ = some (.int .u8 (zs.getD j 0))) (hz : ∀ j, 0 ≤ zs.getD j 0 ∧ zs.getD j 0 ≤ 255) :
    Calls Try.prog 9 #[.slice (some ⟨b, 0, none⟩) len cap] w fun e w' => e = .returned (.int .i64 (cnt zs (8 * len))) ∧ w' = w := by
  go_enter Try.func9, Try.ntmps9
  go_wp2
  go_loop [3, 4] (fun p i => ∃ k : Nat, k ≤ len ∧ i = .int .i64 k ∧ p = .int .i64 (cnt zs (8 * k))) (fun _ i => len - (intOf i).toNat)
  case atStart => exact ⟨0, Nat.zero_le _, rfl, rfl⟩
  case round =>
    obtain ⟨k, hk, rfl, rfl⟩ := hrel
    by_cases hlt : k < len
    · have hck := hc k hlt
      have hzk := hz k
      have hb := cnt_byte zs k
      have hcl := cnt_le zs (8 * k)
      generalize zs.getD k 0 = z at hck hzk hb
      generalize cnt zs (8 * k) = c at hb hcl ⊢
      have HB : Hid (cnt zs (8 * (k + 1)) = c + pc z 8) := hb
      obtain ⟨hz0, hz1⟩ := hzk
      clear hb hc hz
      go_wp2
      go_loop [3, 5] (fun p x => ∃ y : Int, 0 ≤ y ∧ y ≤ 255 ∧ x = .int .u8 y ∧ ∃ q : Nat, q + pc y 8 = c + pc z 8 ∧ p = .int .i64 q) (fun _ x => (intOf x).toNat)
      case atStart => exact ⟨z, hz0, hz1, rfl, c, rfl, rfl⟩
      case round =>
        obtain ⟨y, hy0, hy1, rfl, q, hq, rfl⟩ := hrel
        have p1 := pc_le y 8
        have p2 := pc_le z 8
        have hql : q ≤ 8388700 := by omega
        by_cases h0 : y = 0
        · subst h0
          have HQ : Hid (q = cnt zs (8 * (k + 1))) := by show _ = _; rw [HB.out, ← hq, pc_zero]; omega
          clear hq p1 p2 HB
          go_wp2
          go_round
          case rel => exact ⟨k + 1, by omega, by go_num, by rw [← HQ.out]⟩
          case measure => simp [intOf]; omega
        · have hl := low_bit y hy0 hy1 h0
          have hne : (y != 0) = true := by simp [h0]
          have HL : Hid _ := hl
          have HQ : Hid _ := hq
          have hy3 : 1 ≤ y := by omega
          clear hl hq p1 p2 h0
          go_wp2
          have hl := HL.out
          have hq := HQ.out
          go_round
          case rel => exact ⟨_, hl.1, by omega, rfl, q + 1, by omega, by go_num⟩
          case measure => simp [intOf]; omega
    · have : k = len := by omega
      subst this
      go_wp2
      go_ret
      exact ⟨rfl, rfl⟩


/-- zzPopCount of the nil slice: 0. -/
theorem popCount_nil (w : World) : Calls Try.prog 9 #[.slice none 0 0] w fun e w' => e = .returned (.int .i64 0) ∧ w' = w := by
  go_enter Try.func9, Try.ntmps9
  go_wp2
  go_loop [3, 4] (fun p i => p = .int .i64 0 ∧ i = .int .i64 0) (fun _ _ => 0)
  case atStart => exact ⟨rfl, rfl⟩
  case round =>
    obtain ⟨rfl, rfl⟩ := hrel
    go_wp2
    go_ret
    exact ⟨rfl, rfl⟩

/-! ### A slice against nil -/
theorem neq_some (x : Addr) (l c : Nat) (w : World) : (binOp .neq 22 (.slice (some x) l c) (.slice none 0 0)).run Try.prog w = .ok (.bool true) w := by
  simp only [binOp]
  simp [run_equal_slice_nil w 22 5 (some x) l c Try.underlying22]
theorem neq_none (w : World) : (binOp .neq 22 (.slice none 0 0) (.slice none 0 0)).run Try.prog w = .ok (.bool false) w := by
  simp only [binOp]
  simp [run_equal_slice_nil w 22 5 none 0 0 Try.underlying22]
theorem eql_some (x : Addr) (l c : Nat) (w : World) : (binOp .eql 22 (.slice (some x) l c) (.slice none 0 0)).run Try.prog w = .ok (.bool false) w := by
  simp only [binOp]
  simp [run_equal_slice_nil w 22 5 (some x) l c Try.underlying22]

/-! ### A row that the call made and filled by copy -/
theorem info5 : (Try.prog.info? 5).map (fun i => (i.zero, i.size, i.bytes)) = some (some (.int .u8 0), 1, 1) := by kernel_rfl

/-- What a made row of bytes is in memory. -/
theorem made_heap {w1 : World} {base g n : Nat} {xs : List Value} (h : w1.ownsRow base 5 1 (.slice (some ⟨g, 0, none⟩) n n) n xs) : ∃ cur : List Value, cur.length = n ∧ Hid (w1.heap[g]? = some (.cells cur.toArray 5 (0, 0))) := by
  obtain ⟨hx, h2⟩ := h
  rcases h2 with ⟨h0, _⟩ | ⟨g', cap', cur, hv, hg, hh, hn, hcap, hsz, htake⟩
  · cases h0
  · cases hv
    refine ⟨xs, by omega, ?_⟩
    show _ = _
    rw [hh, ← htake, List.take_of_length_le (by simp; omega)]

theorem src_kept {w w2 : World} {cs : List Value} {x : Addr} (hB : Below w.heap.size w w2) (h : ∀ j v, cs[j]? = some v → w.cell? (x.add j) = some v) : ∀ j v, cs[j]? = some v → w2.cell? (x.add j) = some v :=
  fun j v hj => (hB.cell (World.block_lt_of_cell? w _ (h j v hj))).trans (h j v hj)

theorem splice_all {cur cs : List Value} (h : cs.length = cur.length) : splice cur 0 cs = cs := by
  unfold splice
  simp [h]

theorem cells_of_heap {w2 : World} {g n : Nat} {zs : List Int} {t : TypeId} (hzs : zs.length = n) (h : w2.heap[g]? = some (.cells (zs.map (Value.int .u8)).toArray t (0, 0))) :
    ∀ j, j < n → w2.cell? ⟨g, j, none⟩ = some (.int .u8 (zs.getD j 0)) := by
  intro j hj
  have hj' : j < zs.length := by omega
  simp [World.cell?, h, hj']

theorem u8_one : (Try.prog.info? 5).map (·.size) = some 1 := by kernel_rfl

/-- 'zzc := make([]byte, len(b)); copy(zzc, b)': the copy's run, the row that it leaves, the rest of memory as it was. -/
theorem copied {w w2 : World} {x : Addr} {n c : Nat} {zs : List Int} {xs : List Value} (hzs : zs.length = n) (hsrc : ∀ j v, (zs.map (Value.int .u8))[j]? = some v → w.cell? (x.add j) = some v)
    (hown : w2.ownsRow w.heap.size 5 1 (.slice (some ⟨w.heap.size, 0, none⟩) n n) n xs) (hgrow : w.grownBy w2 none) :
    ∃ w3 : World, (Builtin.copy_ #[22, 22] 3 #[.slice (some ⟨w.heap.size, 0, none⟩) n n, .slice (some x) n c]).run Try.prog w2 = .ok (.int .i64 n) w3 ∧
      Hid (∀ j, j < n → w3.cell? ⟨w.heap.size, j, none⟩ = some (.int .u8 (zs.getD j 0))) ∧ Below w.heap.size w w3 ∧ w.heap.size < w3.heap.size := by
  obtain ⟨cur, hcur, HO⟩ := made_heap hown
  have hB := (Below.refl w.heap.size w).grown hgrow (Nat.le_refl _) (fun k h => by cases h)
  have hlen : (zs.map (Value.int .u8)).length = n := by simp [hzs]
  have hrun := run_copy_row (P := Try.prog) w2 22 22 3 5 w.heap.size 0 n n x n c cur.toArray 5 (zs.map (Value.int .u8)) Try.underlying22 u8_one HO.out (by rw [hlen]; exact (Nat.min_self n).symm) (src_kept hB hsrc) (by simp [hcur, hzs]) (ints_oneCell _ _)
  have e : (cur.toArray.toList.take 0 ++ zs.map (Value.int .u8) ++ cur.toArray.toList.drop (0 + (zs.map (Value.int .u8)).length)) = zs.map (Value.int .u8) := by simp [hcur, hzs]
  rw [e, hlen] at hrun
  refine ⟨_, hrun, ?_, below_setRow hB (Nat.le_refl _) _, ?_⟩
  · exact cells_of_heap hzs (setRow_heap w2 _ _ _ 5 _ HO.out)
  · have h := (Array.getElem?_eq_some_iff.1 HO.out).1
    simpa [World.setRow] using h

/-- What a row of bytes that came in gives of its first 'n' cells. -/
theorem row_src {w : World} {x : Addr} {n : Nat} {z0 : List Int} (hn : n ≤ z0.length) (hcell : ∀ i, i < z0.length → w.cell? (x.add i) = some (.int .u8 (z0.getD i 0))) :
    ∀ j v, ((z0.take n).map (Value.int .u8))[j]? = some v → w.cell? (x.add j) = some v := by
  intro j v hj
  rw [List.getElem?_map, List.getElem?_take] at hj
  by_cases h : j < n
  · rw [if_pos h, List.getElem?_eq_getElem (by omega)] at hj
    simp only [Option.map_some, Option.some.injEq] at hj
    rw [hcell j (by omega), ← hj, List.getD_eq_getElem?_getD, List.getElem?_eq_getElem (by omega)]
    rfl
  · rw [if_neg h] at hj
    simp at hj
theorem row_range {n : Nat} {z0 : List Int} (hwz : ∀ m ∈ z0, (Lit.int .u8 m).wf = true) : ∀ j, 0 ≤ (z0.take n).getD j 0 ∧ (z0.take n).getD j 0 ≤ 255 := by
  intro j
  rw [List.getD_eq_getElem?_getD]
  exact range_u8 (fun m hm => hwz m (List.mem_of_mem_take hm)) j
end Go.Proofs.Qxb6614884a
