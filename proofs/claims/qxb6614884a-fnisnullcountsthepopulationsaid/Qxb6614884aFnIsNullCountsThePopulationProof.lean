/-
  THE PROOF OF 'Rows.FnIsNullCountsThePopulationSaid': the frame is the shell that came with the seat; the walk is filled in.
-/
import Derived.Test.Qxb6614884aRows
import Derived.WalkKit
import Derived.ProofKit
import Derived.OpenShut
import Derived.ShutString
import Derived.ChangeOld
import Derived.Below
import Derived.Test.Qxb6614884aIsNull
namespace Go.Proofs.Qxb6614884a.fnIsNullCountsThePopulation
open Go.ChangeShapes Go.WideShapes Go.ChangeAt Go.RowKit
open Go.ChangeMaps (open_string shut_string)
set_option linter.unusedVariables false

theorem own : ownKnob Try.prog.godebug = none := by kernel_rfl
theorem laidOut : laidOutB Try.prog = true := by kernel_rfl

/-- WHAT THE WALK IS TOLD OF A SLICE OF INTEGERS THAT CAME IN: it is nil; or it leads to a row of 'cap' cells, the numbers 'zs' (the first 'len' are its elements, the rest its spare room), each fitting its kind. -/
def IsRow (k : IntKind) (w : World) (a : Option Addr) (len cap : Nat) (zs : List Int) : Prop :=
  (a = none ∧ len = 0 ∧ cap = 0 ∧ zs = []) ∨
  ∃ x, a = some x ∧ len ≤ cap ∧ cap ≤ maxLen ∧ zs.length = cap ∧ (∀ i, i < zs.length → w.cell? (x.add i) = some (.int k (zs.getD i 0))) ∧ ∀ n ∈ zs, (Lit.int k n).wf = true

/-! ### STEP 1: THE WALK: the Go text returns true, AND WRITES NOTHING THAT WAS THERE: 'Below w.heap.size w w'' (Derived/Below.lean: '.refl', '.alloc', '.drew', '.setCell' at a new block, '.trans'). Open each 'IsRow' by 'rcases' AHEAD of 'go_enter'; part every test ahead of the walk. -/
theorem walk (a0 : Option Addr) (len0 cap0 : Nat) (z0 : List Int) (a1 : Int) (w : World) (w0 : IsRow .u8 w a0 len0 cap0 z0) (w1 : (Lit.int .i64 a1).wf = true) :
    Calls Try.prog 4 #[.slice a0 len0 cap0, .int .i64 a1] w fun e w' => e = .returned (.bool true) ∧ Below w.heap.size w w' := by
  rcases w0 with ⟨rfl, rfl, rfl, rfl⟩ | ⟨x, rfl, hlc, hm, hzl, hcell, hwz⟩
  · have hn := neq_none
    by_cases h0 : a1 = 0
    · subst h0
      go_enter Try.func4, Try.ntmps4
      go_wp2
      go_loop [7, 8] (fun c i => c = .int .i64 0 ∧ i = .int .i64 0) (fun _ _ => 0)
      case atStart => exact ⟨rfl, rfl⟩
      case round =>
        obtain ⟨rfl, rfl⟩ := hrel
        go_wp2
        go_loop [7, 9] (fun c i => c = .int .i64 0 ∧ i = .int .i64 0) (fun _ _ => 0)
        case atStart => exact ⟨rfl, rfl⟩
        case round =>
          obtain ⟨rfl, rfl⟩ := hrel
          go_wp2_with (go_at_call 9; refine (popCount_nil _).mono ?_; rintro e w' ⟨rfl, rfl⟩)
          go_ret
          exact ⟨rfl, Below.refl _ _⟩
    · rcases Int.lt_or_gt_of_ne h0 with h1 | h1
      all_goals
        go_enter Try.func4, Try.ntmps4
        go_wp2
        go_ret
        exact ⟨rfl, Below.refl _ _⟩
  by_cases hbig : 65536 < len0
  · by_cases hbig2 : 1048576 < len0
    all_goals
      go_enter Try.func4, Try.ntmps4
      go_wp2
      go_ret
      exact ⟨rfl, Below.refl _ _⟩
  have hn := neq_some x len0 cap0
  have hsrc := row_src (n := len0) (by omega) hcell
  have hz := row_range (n := len0) hwz
  obtain ⟨zs, hzs, HZ⟩ : ∃ zs : List Int, zs.length = len0 ∧ zs = z0.take len0 := ⟨_, by simp; omega, rfl⟩
  rw [← HZ] at hsrc hz
  have Hsrc : Hid (∀ j v, (zs.map (Value.int .u8))[j]? = some v → w.cell? (x.add j) = some v) := hsrc
  have Hz : Hid (∀ j, 0 ≤ zs.getD j 0 ∧ zs.getD j 0 ≤ 255) := hz
  clear hsrc hz HZ hcell hwz hzl
  obtain ⟨i0, hi, hz0, hz1, hz2⟩ := info_parts info5
  have Hi : Hid (Try.prog.info? 5 = some i0 ∧ i0.zero = some (.int .u8 0) ∧ i0.size = 1 ∧ i0.bytes = 1) := ⟨hi, hz0, hz1, hz2⟩
  clear hi hz0 hz1 hz2
  have hb1 : len0 ≤ 65536 := by omega
  have hm' : len0 ≤ maxLen := by unfold maxLen; omega
  clear hbig hm
  by_cases hneg : a1 < 0
  · go_enter Try.func4, Try.ntmps4
    go_wp2_with (first
      | (go_at_call 8; go_in)
      | (at_make; refine wpList_make_full _ rfl _ _ 22 rfl w.heap.size 5 i0 (.int .u8 0) 1 Try.underlying22 Hi.out.1 Hi.out.2.1 Hi.out.2.2.1 _ _ _ _ len0 rfl rfl rfl rfl (by rw [Hi.out.2.2.2]; omega) hm' (Nat.le_refl _) ?_; intro w2 hown hgrow; obtain ⟨w3, hrun, Hc, hB3, hlt3⟩ := copied (x := x) (c := cap0) hzs Hsrc.out hown hgrow; clear hown hgrow))
    go_ret
    exact ⟨rfl, hB3⟩
  by_cases hfar : 8 * (len0 : Int) < a1
  · go_enter Try.func4, Try.ntmps4
    go_wp2_with (first
      | (go_at_call 8; go_in)
      | (at_make; refine wpList_make_full _ rfl _ _ 22 rfl w.heap.size 5 i0 (.int .u8 0) 1 Try.underlying22 Hi.out.1 Hi.out.2.1 Hi.out.2.2.1 _ _ _ _ len0 rfl rfl rfl rfl (by rw [Hi.out.2.2.2]; omega) hm' (Nat.le_refl _) ?_; intro w2 hown hgrow; obtain ⟨w3, hrun, Hc, hB3, hlt3⟩ := copied (x := x) (c := cap0) hzs Hsrc.out hown hgrow; clear hown hgrow))
    go_ret
    exact ⟨rfl, hB3⟩
  have g1 : 0 ≤ a1 := by omega
  have g2 : a1 ≤ 8 * (len0 : Int) := by omega
  clear hneg hfar
  obtain ⟨o, rfl⟩ := Int.eq_ofNat_of_zero_le g1
  have g3 : o ≤ 8 * len0 := by omega
  go_enter Try.func4, Try.ntmps4
  go_wp2_with (first
    | (go_at_call 8; go_in)
    | (at_make; refine wpList_make_full _ rfl _ _ 22 rfl w.heap.size 5 i0 (.int .u8 0) 1 Try.underlying22 Hi.out.1 Hi.out.2.1 Hi.out.2.2.1 _ _ _ _ len0 rfl rfl rfl rfl (by rw [Hi.out.2.2.2]; omega) hm' (Nat.le_refl _) ?_; intro w2 hown hgrow; obtain ⟨w3, hrun, Hc, hB3, hlt3⟩ := copied (x := x) (c := cap0) hzs Hsrc.out hown hgrow; clear hown hgrow))
  go_loopw [7, 8] (fun c i wr => ∃ k : Nat, k ≤ 8 * len0 - o ∧ i = .int .i64 k ∧ ∃ q : Nat, q ≤ k ∧ Hid (q + cnt zs o = cnt zs (o + k)) ∧ c = .int .i64 q ∧ ∃ m, wr = w3.drewN m) (fun _ i _ => 8 * len0 - o - (intOf i).toNat)
  case atStart => exact ⟨0, Nat.zero_le _, rfl, 0, Nat.le_refl _, Nat.zero_add _, rfl, 0, rfl⟩
  case round =>
    obtain ⟨k, hk, rfl, q, hqk, HQ, rfl, m, rfl⟩ := hrel
    by_cases hlt : k < 8 * len0 - o
    · have hlt' : (k : Int) < 8 * len0 - o := by omega
      cases hr : bitAt zs (o + k)
      · have HR : Hid (bitAt zs ((k : Int) + o).toNat = false) := by show _ = _; rw [← hr]; congr 1; omega
        have HQ' : Hid (q + cnt zs o = cnt zs (o + (k + 1))) := by show _ = _; rw [← Nat.add_assoc, cnt_succ, hr, ← HQ.out]; simp
        clear hr
        go_wp2_with (go_at_call 7; refine (zzIsNull_val w.heap.size len0 len0 k o zs false _ (by omega) (by omega) (by omega) (by omega) hzs (by exact Hc) Hz HR).mono ?_; rintro e w' ⟨rfl, n, rfl⟩)
        go_roundw
        case rel => exact ⟨k + 1, by omega, by go_num, q, by omega, HQ', rfl, _, rfl⟩
        case measure => simp [intOf]; omega
      · have HR : Hid (bitAt zs ((k : Int) + o).toNat = true) := by show _ = _; rw [← hr]; congr 1; omega
        have HQ' : Hid (q + 1 + cnt zs o = cnt zs (o + (k + 1))) := by show _ = _; rw [← Nat.add_assoc o, cnt_succ, hr, ← HQ.out]; simp; omega
        clear hr
        go_wp2_with (go_at_call 7; refine (zzIsNull_val w.heap.size len0 len0 k o zs true _ (by omega) (by omega) (by omega) (by omega) hzs (by exact Hc) Hz HR).mono ?_; rintro e w' ⟨rfl, n, rfl⟩)
        go_roundw
        case rel => exact ⟨k + 1, by omega, by go_num, q + 1, by omega, HQ', by go_num, _, rfl⟩
        case measure => simp [intOf]; omega
    · have hk' : k = 8 * len0 - o := by omega
      subst hk'
      have HT : Hid (q + cnt zs o = cnt zs (8 * len0)) := by show _ = _; rw [HQ.out]; congr 1; omega
      clear HQ
      have hcb := cnt_le zs (8 * len0)
      go_wp2_with fail
      go_loopw [7, 9] (fun c i wr => ∃ k : Nat, k ≤ o ∧ i = .int .i64 k ∧ ∃ t : Nat, t ≤ q + k ∧ Hid (t + cnt zs o = cnt zs (8 * len0) + cnt zs k) ∧ c = .int .i64 t ∧ ∃ m, wr = w3.drewN m) (fun _ i _ => o - (intOf i).toNat)
      case atStart => exact ⟨0, Nat.zero_le _, rfl, q, Nat.le_refl _, HT.out, rfl, m, rfl⟩
      case round =>
        obtain ⟨k, hk, rfl, t, htk, HQ, rfl, m', rfl⟩ := hrel
        by_cases hlt2 : k < o
        · have hlt' : (k : Int) < o := by omega
          cases hr : bitAt zs k
          · have HR : Hid (bitAt zs ((k : Int) + 0).toNat = false) := by show _ = _; rw [← hr]; congr 1
            have HQ' : Hid (t + cnt zs o = cnt zs (8 * len0) + cnt zs (k + 1)) := by show _ = _; rw [cnt_succ, hr, HQ.out]; simp
            clear hr
            go_wp2_with (go_at_call 7; refine (zzIsNull_val w.heap.size len0 len0 k 0 zs false _ (by omega) (by omega) (by omega) (by omega) hzs (by exact Hc) Hz HR).mono ?_; rintro e w' ⟨rfl, n, rfl⟩)
            go_roundw
            case rel => exact ⟨k + 1, by omega, by go_num, t, by omega, HQ', rfl, _, rfl⟩
            case measure => simp [intOf]; omega
          · have HR : Hid (bitAt zs ((k : Int) + 0).toNat = true) := by show _ = _; rw [← hr]; congr 1
            have HQ' : Hid (t + 1 + cnt zs o = cnt zs (8 * len0) + cnt zs (k + 1)) := by show _ = _; rw [cnt_succ, hr, ← Nat.add_assoc, ← HQ.out]; simp; omega
            clear hr
            go_wp2_with (go_at_call 7; refine (zzIsNull_val w.heap.size len0 len0 k 0 zs true _ (by omega) (by omega) (by omega) (by omega) hzs (by exact Hc) Hz HR).mono ?_; rintro e w' ⟨rfl, n, rfl⟩)
            go_roundw
            case rel => exact ⟨k + 1, by omega, by go_num, t + 1, by omega, HQ', by go_num, _, rfl⟩
            case measure => simp [intOf]; omega
        · have hk' : k = o := by omega
          subst hk'
          have HE : Hid (t = cnt zs (8 * len0)) := by have := HQ.out; show _ = _; omega
          clear HQ HT
          go_wp2_with (go_at_call 9; refine (popCount_any w.heap.size len0 len0 zs _ (by omega) hzs (by exact Hc.out) Hz.out).mono ?_; rintro e w' ⟨rfl, rfl⟩)
          go_ret
          refine ⟨ret_bool ?_, below_drewN hB3 _⟩
          rw [HE.out]
          simp

/-! ### THE ROW's STEP: WRITTEN OUT: LEAVE IT -/
set_option maxRecDepth 100000 in
theorem lifted (os : Os) (started : os.Started) (H : Type) (enc : TypeId × Value → H) :
    ReturnsInHanded {} Try.checked os 4 .any (Rows.fnIsNullCountsThePopulationSpec.pre6 enc Try.prog Try.f4 Rows.fnIsNullCountsThePopulationRow.domain false) (Rows.fnIsNullCountsThePopulationSpec.post enc Try.prog Try.f4 false true false false) := by
  refine returnsInHanded_of_change (C := Try.checked) own started (by kernel_rfl) Try.func4
    (ChangeSpec.witness6 (enc := enc) (C := Try.checked) false ⟨#[], #[.slice none 0 0, .int .i64 0], []⟩ 8 (by kernel_rfl) (by kernel_rfl) (by kernel_rfl) (by kernel_rfl)) ?_
  intro W base args ds gs before hval0 hW hcnd _
  have hval : ∀ (j : Nat) t v, Try.f4.params[j]? = some t → args[j]? = some v → Value.okWide Try.prog W .any base t v := hval0
  have hW' := hW
  obtain ⟨p, q, hA0, hV, rfl, hfz, hnd⟩ := hW
  have hA : DataW.TrodAll enc Try.prog W 0 (fun _ => true) true Try.f4.params.toList args.toList ds p := hA0
  rw [Try.params4] at hA hval
  obtain ⟨v0, vs0, d0, ds0, p0, q0, hargs, rfl, rfl, h0, r0⟩ := trodAll_cons hA
  obtain ⟨v1, vs1, d1, ds1, p1, q1, rfl, rfl, rfl, h1, r1⟩ := trodAll_cons r0
  obtain ⟨rfl, rfl, rfl⟩ := trodAll_nil r1
  obtain rfl : args = #[v0, v1] := by cases args; simp_all
  obtain ⟨rfl, rfl⟩ := trodVars_none hV
  obtain ⟨a0, len0, cap0, rfl⟩ := okWide_slice Try.underlying22 (hval 0 22 v0 rfl rfl)
  have k0 := h0
  have lt0 : ∀ x ∈ p0, x.block < W.heap.size := by obtain ⟨m, hm⟩ := k0; exact DataW.trod_lt m _ _ _ hm
  obtain ⟨z0, w0⟩ : ∃ zs, IsRow .u8 W a0 len0 cap0 zs := by
    obtain ⟨fuel, hf⟩ := h0
    rcases open_ints Try.underlying22 Try.underlying5 (by kernel_rfl) hf with ⟨hcs, _⟩ | ⟨x, l, c, zs, hcs, _, hl, hm, hz, _, hcell, hwz⟩
    · simp [Value.cells] at hcs
      obtain ⟨rfl, rfl, rfl⟩ := hcs
      exact ⟨[], .inl ⟨rfl, rfl, rfl, rfl⟩⟩
    · simp [Value.cells] at hcs
      obtain ⟨rfl, rfl, rfl⟩ := hcs
      exact ⟨zs, .inr ⟨_, rfl, hl, hm, by simpa using hz, hcell, hwz⟩⟩
  obtain ⟨a1, rfl, rfl, rfl, w1⟩ := open_int Try.underlying3 (hval 1 3 v1 rfl rfl) h1
  clear hA0 hval0
  refine (walk a0 len0 cap0 z0 a1 W w0 w1).mono fun e W' ⟨he, bel⟩ => ?_
  subst he
  exact ⟨_, rfl, _, _, _, [], _, [], hW', trodAll_mk1 (shut_bool Try.underlying4 _), (trodAll_cons_mk (Below.trod laidOut (by kernel_rfl) (of_decide_eq_true (by kernel_rfl)) k0 bel lt0) (trodAll_cons_mk (shut_int Try.underlying3 w1) trodAll_mk0)), rfl, bel.frame _, fun h => by cases h⟩

theorem over : Rows.fnIsNullCountsThePopulationRow.holds Try.pinned (OpenSpec.ofChange Rows.fnIsNullCountsThePopulationSpec) :=
  OpenClaim.holds_of_wide 4 Try.f4 rfl rfl rfl rfl rfl rfl rfl ⟨rfl, rfl, rfl, rfl, rfl⟩ rfl rfl rfl rfl rfl (by kernel_rfl) Try.func4 (by kernel_rfl)
    (of_decide_eq_true (by kernel_rfl)) (by unfold Func.isWrapper; first | (rw [if_pos (by decide +kernel)]; kernel_rfl) | (rw [if_neg (by decide +kernel)]; exact ⟨rfl, rfl⟩))
    (fun os started H enc _ => lifted os started H enc)

/-- ████ THE STATEMENT ████ -/
theorem proved : Rows.FnIsNullCountsThePopulationSaid := over
#print axioms proved
end Go.Proofs.Qxb6614884a.fnIsNullCountsThePopulation
