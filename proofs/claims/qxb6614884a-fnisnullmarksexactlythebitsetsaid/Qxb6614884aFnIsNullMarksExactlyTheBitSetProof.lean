/-
  THE PROOF OF 'Rows.FnIsNullMarksExactlyTheBitSetSaid': the frame is the shell that came with the seat; the walk is filled in.
-/
import Derived.Test.Qxb6614884aRows
import Derived.WalkKit
import Derived.ProofKit
import Derived.OpenShut
import Derived.ShutString
import Derived.ChangeOld
import Derived.Below
import Derived.Test.Qxb6614884aCopy
namespace Go.Proofs.Qxb6614884a.fnIsNullMarksExactlyTheBitSet
open Go.ChangeShapes Go.WideShapes Go.ChangeAt Go.RowKit
open Go.ChangeMaps (open_string shut_string)
set_option linter.unusedVariables false

theorem own : ownKnob Try.prog.godebug = none := by kernel_rfl
theorem laidOut : laidOutB Try.prog = true := by kernel_rfl

/-- WHAT THE WALK IS TOLD OF A SLICE OF INTEGERS THAT CAME IN: it is nil; or it leads to a row of 'cap' cells, the numbers 'zs' (the first 'len' are its elements, the rest its spare room), each fitting its kind. -/
def IsRow (k : IntKind) (w : World) (a : Option Addr) (len cap : Nat) (zs : List Int) : Prop :=
  (a = none ∧ len = 0 ∧ cap = 0 ∧ zs = []) ∨
  ∃ x, a = some x ∧ len ≤ cap ∧ cap ≤ maxLen ∧ zs.length = cap ∧ (∀ i, i < zs.length → w.cell? (x.add i) = some (.int k (zs.getD i 0))) ∧ ∀ n ∈ zs, (Lit.int k n).wf = true

/-- The calls of ZZIsNull and what follows: the three rows lie in memory. -/
theorem bits_set (zs sets : List Int) (a1 a2 a3 : Int) (hs : ∀ p, bitAt sets p = (decide (p = (a2 + a3).toNat) || bitAt zs p)) (p1 : 0 ≤ a1) (p2 : 0 ≤ a2) (p3 : 0 ≤ a3) :
    bitAt sets (a2 + a3).toNat = true ∧ bitAt sets (a1 + a3).toNat = (decide (a1 = a2) || bitAt zs (a1 + a3).toNat) := by
  refine ⟨by rw [hs]; simp, ?_⟩
  rw [hs]
  congr 1
  rw [Bool.eq_iff_iff]
  simp
  omega
theorem bits_clr (zs clrs : List Int) (a1 a2 a3 : Int) (hs : ∀ p, bitAt clrs p = (!decide (p = (a2 + a3).toNat) && bitAt zs p)) (p1 : 0 ≤ a1) (p2 : 0 ≤ a2) (p3 : 0 ≤ a3) :
    bitAt clrs (a2 + a3).toNat = false ∧ bitAt clrs (a1 + a3).toNat = (!decide (a1 = a2) && bitAt zs (a1 + a3).toNat) := by
  refine ⟨by rw [hs]; simp, ?_⟩
  rw [hs]
  congr 2
  rw [Bool.eq_iff_iff]
  simp
  omega

set_option maxHeartbeats 2000000 in
/-- The main way: the value numbers i, j lie in the bitmap behind the offset. -/
theorem main_way (x : Addr) (len0 cap0 : Nat) (zs : List Int) (a1 a2 a3 : Int) (w : World) (hb1 : len0 ≤ 1048576) (hzs : zs.length = len0)
    (Hsrc : Hid (∀ j v, (zs.map (Value.int .u8))[j]? = some v → w.cell? (x.add j) = some v)) (Hz : Hid (∀ j, 0 ≤ zs.getD j 0 ∧ zs.getD j 0 ≤ 255))
    (p1 : 0 ≤ a1) (p2 : 0 ≤ a2) (p3 : 0 ≤ a3) (q1 : a1 + a3 < 8 * len0) (q2 : a2 + a3 < 8 * len0) :
    Calls Try.prog 3 #[.slice (some x) len0 cap0, .int .i64 a1, .int .i64 a2, .int .i64 a3] w fun e w' => e = .returned (.bool true) ∧ Below w.heap.size w w' := by
  have hn := neq_some x len0 cap0
  obtain ⟨i0, hi, hz0, hz1, hz2⟩ := info_parts info5
  have Hi : Hid (Try.prog.info? 5 = some i0 ∧ i0.zero = some (.int .u8 0) ∧ i0.size = 1 ∧ i0.bytes = 1) := ⟨hi, hz0, hz1, hz2⟩
  clear hi hz0 hz1 hz2
  have hm' : len0 ≤ maxLen := by unfold maxLen; omega
  have k1 : (a2 + a3) / 8 < len0 := by omega
  have k2 : 0 ≤ (a2 + a3) / 8 := by omega
  have k3 : 0 ≤ (a2 + a3) % 8 := by omega
  have hkn : ((a2 + a3) / 8).toNat < len0 := by omega
  have ek : ((a2 + a3) / 8).toNat = (a2 + a3).toNat / 8 := by omega
  have em : ((a2 + a3) % 8).toNat = (a2 + a3).toNat % 8 := by omega
  have SL := fun p => set_law zs (a2 + a3).toNat p (by omega) Hz.out
  have CL := fun p => clr_law zs (a2 + a3).toNat p (by omega) Hz.out
  have SO := or_bit (zs.getD ((a2 + a3).toNat / 8) 0) ((a2 + a3).toNat % 8) (Hz.out _).1 (Hz.out _).2 (by omega)
  have CO := clr_bit (zs.getD ((a2 + a3).toNat / 8) 0) ((a2 + a3).toNat % 8) (Hz.out _).1 (Hz.out _).2 (by omega)
  rw [← ek, ← em] at SL CL SO CO
  have SR := set_range zs ((a2 + a3) / 8).toNat _ SO.1 SO.2.1 Hz.out
  have CR := set_range zs ((a2 + a3) / 8).toNat _ CO.1 CO.2.1 Hz.out
  obtain ⟨z, hz⟩ : ∃ z, z = zs.getD ((a2 + a3) / 8).toNat 0 := ⟨_, rfl⟩
  rw [← hz] at SL CL SR CR
  clear SO CO ek em
  have BS := bits_set zs _ a1 a2 a3 SL p1 p2 p3
  have BC := bits_clr zs _ a1 a2 a3 CL p1 p2 p3
  clear SL CL
  obtain ⟨V, hV⟩ : ∃ V, V = bits .or .u8 z (2 ^ ((a2 + a3) % 8).toNat % 256) := ⟨_, rfl⟩
  obtain ⟨U, hU⟩ : ∃ U, U = bits .andNot .u8 z (2 ^ ((a2 + a3) % 8).toNat % 256) := ⟨_, rfl⟩
  rw [← hV] at BS SR
  rw [← hU] at BC CR
  have HZ : Hid (z = zs.getD ((a2 + a3) / 8).toNat 0) := hz
  have HV : Hid (V = bits .or .u8 z (2 ^ ((a2 + a3) % 8).toNat % 256)) := hV
  have HU : Hid (U = bits .andNot .u8 z (2 ^ ((a2 + a3) % 8).toNat % 256)) := hU
  have BS' : Hid (bitAt (zs.set ((a2 + a3) / 8).toNat V) (a2 + a3).toNat = true ∧ bitAt (zs.set ((a2 + a3) / 8).toNat V) (a1 + a3).toNat = (decide (a1 = a2) || bitAt zs (a1 + a3).toNat)) := BS
  have BC' : Hid (bitAt (zs.set ((a2 + a3) / 8).toNat U) (a2 + a3).toNat = false ∧ bitAt (zs.set ((a2 + a3) / 8).toNat U) (a1 + a3).toNat = (!decide (a1 = a2) && bitAt zs (a1 + a3).toNat)) := BC
  have SR' : Hid (∀ j, 0 ≤ (zs.set ((a2 + a3) / 8).toNat V).getD j 0 ∧ (zs.set ((a2 + a3) / 8).toNat V).getD j 0 ≤ 255) := SR
  have CR' : Hid (∀ j, 0 ≤ (zs.set ((a2 + a3) / 8).toNat U).getD j 0 ∧ (zs.set ((a2 + a3) / 8).toNat U).getD j 0 ≤ 255) := CR
  clear BS BC SR CR hz hV hU
  go_enter Try.func3, Try.ntmps3
  go_wp2_with (first
    | (go_at_call 5; go_in)
    | (at_make; refine wpList_make_full _ rfl _ _ 22 rfl w.heap.size 5 i0 (.int .u8 0) 1 Try.underlying22 Hi.out.1 Hi.out.2.1 Hi.out.2.2.1 _ _ _ _ len0 rfl rfl rfl rfl (by rw [Hi.out.2.2.2]; omega) hm' (Nat.le_refl _) ?_; intro w2 hown hgrow; obtain ⟨w3, hrun, Hc, hB3, hlt3⟩ := copied (x := x) (c := cap0) hzs Hsrc.out hown hgrow; clear hown hgrow))
  clear hrun hn Hsrc Hi
  refine (copyBytes_any w.heap.size len0 zs w3 hb1 hlt3 hzs Hc).mono ?_
  rintro e w4 ⟨rfl, hB4, hlt4, Hc4⟩
  have c1 := (Hc4.out ((a2 + a3) / 8).toNat hkn).1
  have c2 := (Hc4.out ((a2 + a3) / 8).toNat hkn).2
  rw [← HZ.out] at c1
  have R4 : Row w4 w.heap.size len0 zs := Row.below Hc hB4 hlt3
  have S4 : Row w4 w3.heap.size len0 zs := fun j hj => (Hc4.out j hj).1
  have B4 : Below w.heap.size w w4 := hB3.trans (hB4.mono (by omega))
  go_wp2_with fail
  rw [← HV.out]
  have R5 := R4.setOther (g := w3.heap.size) (k := ((a2 + a3) / 8).toNat) (by omega) (.int .u8 V)
  have S5 := S4.setSame hzs hkn V
  have B5 := B4.setCell (p := ⟨w3.heap.size, ((a2 + a3) / 8).toNat, none⟩) (by show w.heap.size ≤ w3.heap.size; omega) (.int .u8 V)
  have z5 : (w4.setCell ⟨w3.heap.size, ((a2 + a3) / 8).toNat, none⟩ (.int .u8 V)).heap.size = w4.heap.size := by simp
  clear c1 c2 R4 S4 B4 Hc Hc4 hB4 hB3
  generalize w4.setCell ⟨w3.heap.size, ((a2 + a3) / 8).toNat, none⟩ (.int .u8 V) = w5 at R5 S5 B5 z5 ⊢
  have l5 : w3.heap.size < w5.heap.size := by omega
  clear z5 hlt4
  refine (copyBytes_any w.heap.size len0 zs w5 hb1 (by omega) hzs R5).mono ?_
  rintro e w6 ⟨rfl, hB6, hlt6, Hc6⟩
  have c1 := (Hc6.out ((a2 + a3) / 8).toNat hkn).1
  have c2 := (Hc6.out ((a2 + a3) / 8).toNat hkn).2
  rw [← HZ.out] at c1
  have R6 := R5.below hB6 (by omega)
  have S6 := S5.below hB6 (by omega)
  have C6 : Row w6 w5.heap.size len0 zs := fun j hj => (Hc6.out j hj).1
  have B6 : Below w.heap.size w w6 := B5.trans (hB6.mono (by omega))
  go_wp2_with fail
  rw [← HU.out]
  have R7 := R6.setOther (g := w5.heap.size) (k := ((a2 + a3) / 8).toNat) (by omega) (.int .u8 U)
  have S7 := S6.setOther (g := w5.heap.size) (k := ((a2 + a3) / 8).toNat) (by omega) (.int .u8 U)
  have C7 := C6.setSame hzs hkn U
  have B7 := B6.setCell (p := ⟨w5.heap.size, ((a2 + a3) / 8).toNat, none⟩) (by show w.heap.size ≤ w5.heap.size; omega) (.int .u8 U)
  clear c1 c2 R5 S5 B5 R6 S6 C6 B6 hB6 Hc6 hlt6
  generalize w6.setCell ⟨w5.heap.size, ((a2 + a3) / 8).toNat, none⟩ (.int .u8 U) = w7 at R7 S7 C7 B7 ⊢
  generalize w3.heap.size = g3 at *
  generalize w5.heap.size = g5 at *
  have ls : (zs.set ((a2 + a3) / 8).toNat V).length = len0 := by simp [hzs]
  have lc : (zs.set ((a2 + a3) / 8).toNat U).length = len0 := by simp [hzs]
  generalize zs.set ((a2 + a3) / 8).toNat V = sets at *
  generalize zs.set ((a2 + a3) / 8).toNat U = clrs at *
  clear HZ HV HU k1 k2 k3 hkn hm'
  have BA : Hid (bitAt sets (a2 + a3).toNat = true) := BS'.out.1
  have BB : Hid (bitAt clrs (a2 + a3).toNat = false) := BC'.out.1
  by_cases e : a1 = a2
  · have BX : Hid (bitAt sets (a1 + a3).toNat = true) := by show _ = _; rw [BS'.out.2]; simp [e]
    have BY : Hid (bitAt clrs (a1 + a3).toNat = false) := by show _ = _; rw [BC'.out.2]; simp [e]
    clear BS' BC'
    subst e
    cases hr : bitAt zs (a1 + a3).toNat
    · have HR : Hid (bitAt zs (a1 + a3).toNat = false) := hr
      clear hr
      refine (zzIsNull_val w.heap.size len0 len0 a1 a3 zs false _ p1 p3 q1 hb1 hzs (by exact R7) Hz HR).mono ?_
      rintro e w' ⟨rfl, n1, rfl⟩
      go_wp2_with fail
      refine (zzIsNull_val g3 len0 len0 a1 a3 sets true _ p1 p3 q1 hb1 ls (by exact S7) SR' BA).mono ?_
      rintro e w' ⟨rfl, n2, rfl⟩
      go_wp2_with fail
      refine (zzIsNull_val g5 len0 len0 a1 a3 clrs false _ p1 p3 q1 hb1 lc (by exact C7) CR' BB).mono ?_
      rintro e w' ⟨rfl, n3, rfl⟩
      go_wp2_with fail
      refine (zzIsNull_val g3 len0 len0 a1 a3 sets true _ p1 p3 q1 hb1 ls (by exact S7) SR' BX).mono ?_
      rintro e w' ⟨rfl, n4, rfl⟩
      go_wp2_with fail
      refine (zzIsNull_val g5 len0 len0 a1 a3 clrs false _ p1 p3 q1 hb1 lc (by exact C7) CR' BY).mono ?_
      rintro e w' ⟨rfl, n5, rfl⟩
      go_wp2
      go_ret
      exact ⟨rfl, below_drewN B7 _⟩
    · have HR : Hid (bitAt zs (a1 + a3).toNat = true) := hr
      clear hr
      refine (zzIsNull_val w.heap.size len0 len0 a1 a3 zs true _ p1 p3 q1 hb1 hzs (by exact R7) Hz HR).mono ?_
      rintro e w' ⟨rfl, n1, rfl⟩
      go_wp2_with fail
      refine (zzIsNull_val g3 len0 len0 a1 a3 sets true _ p1 p3 q1 hb1 ls (by exact S7) SR' BA).mono ?_
      rintro e w' ⟨rfl, n2, rfl⟩
      go_wp2_with fail
      refine (zzIsNull_val g5 len0 len0 a1 a3 clrs false _ p1 p3 q1 hb1 lc (by exact C7) CR' BB).mono ?_
      rintro e w' ⟨rfl, n3, rfl⟩
      go_wp2_with fail
      refine (zzIsNull_val g3 len0 len0 a1 a3 sets true _ p1 p3 q1 hb1 ls (by exact S7) SR' BX).mono ?_
      rintro e w' ⟨rfl, n4, rfl⟩
      go_wp2_with fail
      refine (zzIsNull_val g5 len0 len0 a1 a3 clrs false _ p1 p3 q1 hb1 lc (by exact C7) CR' BY).mono ?_
      rintro e w' ⟨rfl, n5, rfl⟩
      go_wp2
      go_ret
      exact ⟨rfl, below_drewN B7 _⟩
  · have hne : (a1 == a2) = false := by simp [e]
    have hne' : (a1 != a2) = true := by simp [e]
    cases hr : bitAt zs (a1 + a3).toNat
    · have HR : Hid (bitAt zs (a1 + a3).toNat = false) := hr
      have BX : Hid (bitAt sets (a1 + a3).toNat = false) := by show _ = _; rw [BS'.out.2, hr]; simp [e]
      have BY : Hid (bitAt clrs (a1 + a3).toNat = false) := by show _ = _; rw [BC'.out.2, hr]; simp [e]
      clear BS' BC'
      clear hr
      refine (zzIsNull_val w.heap.size len0 len0 a1 a3 zs false _ p1 p3 q1 hb1 hzs (by exact R7) Hz HR).mono ?_
      rintro e w' ⟨rfl, n1, rfl⟩
      go_wp2_with fail
      refine (zzIsNull_val g3 len0 len0 a2 a3 sets true _ p2 p3 q2 hb1 ls (by exact S7) SR' BA).mono ?_
      rintro e w' ⟨rfl, n2, rfl⟩
      go_wp2_with fail
      refine (zzIsNull_val g5 len0 len0 a2 a3 clrs false _ p2 p3 q2 hb1 lc (by exact C7) CR' BB).mono ?_
      rintro e w' ⟨rfl, n3, rfl⟩
      go_wp2_with fail
      refine (zzIsNull_val g3 len0 len0 a1 a3 sets false _ p1 p3 q1 hb1 ls (by exact S7) SR' BX).mono ?_
      rintro e w' ⟨rfl, n4, rfl⟩
      go_wp2_with fail
      refine (zzIsNull_val g5 len0 len0 a1 a3 clrs false _ p1 p3 q1 hb1 lc (by exact C7) CR' BY).mono ?_
      rintro e w' ⟨rfl, n5, rfl⟩
      go_wp2
      go_ret
      exact ⟨rfl, below_drewN B7 _⟩
    · have HR : Hid (bitAt zs (a1 + a3).toNat = true) := hr
      have BX : Hid (bitAt sets (a1 + a3).toNat = true) := by show _ = _; rw [BS'.out.2, hr]; simp [e]
      have BY : Hid (bitAt clrs (a1 + a3).toNat = true) := by show _ = _; rw [BC'.out.2, hr]; simp [e]
      clear BS' BC'
      clear hr
      refine (zzIsNull_val w.heap.size len0 len0 a1 a3 zs true _ p1 p3 q1 hb1 hzs (by exact R7) Hz HR).mono ?_
      rintro e w' ⟨rfl, n1, rfl⟩
      go_wp2_with fail
      refine (zzIsNull_val g3 len0 len0 a2 a3 sets true _ p2 p3 q2 hb1 ls (by exact S7) SR' BA).mono ?_
      rintro e w' ⟨rfl, n2, rfl⟩
      go_wp2_with fail
      refine (zzIsNull_val g5 len0 len0 a2 a3 clrs false _ p2 p3 q2 hb1 lc (by exact C7) CR' BB).mono ?_
      rintro e w' ⟨rfl, n3, rfl⟩
      go_wp2_with fail
      refine (zzIsNull_val g3 len0 len0 a1 a3 sets true _ p1 p3 q1 hb1 ls (by exact S7) SR' BX).mono ?_
      rintro e w' ⟨rfl, n4, rfl⟩
      go_wp2_with fail
      refine (zzIsNull_val g5 len0 len0 a1 a3 clrs true _ p1 p3 q1 hb1 lc (by exact C7) CR' BY).mono ?_
      rintro e w' ⟨rfl, n5, rfl⟩
      go_wp2
      go_ret
      exact ⟨rfl, below_drewN B7 _⟩

/-! ### STEP 1: THE WALK: the Go text returns true, AND WRITES NOTHING THAT WAS THERE: 'Below w.heap.size w w'' (Derived/Below.lean: '.refl', '.alloc', '.drew', '.setCell' at a new block, '.trans'). Open each 'IsRow' by 'rcases' AHEAD of 'go_enter'; part every test ahead of the walk. -/
set_option maxHeartbeats 2000000 in
theorem walk (a0 : Option Addr) (len0 cap0 : Nat) (z0 : List Int) (a1 : Int) (a2 : Int) (a3 : Int) (w : World) (w0 : IsRow .u8 w a0 len0 cap0 z0) (w1 : (Lit.int .i64 a1).wf = true) (w2 : (Lit.int .i64 a2).wf = true) (w3 : (Lit.int .i64 a3).wf = true) :
    Calls Try.prog 3 #[.slice a0 len0 cap0, .int .i64 a1, .int .i64 a2, .int .i64 a3] w fun e w' => e = .returned (.bool true) ∧ Below w.heap.size w w' := by
  rcases w0 with ⟨rfl, rfl, rfl, rfl⟩ | ⟨x, rfl, hlc, hm, hzl, hcell, hwz⟩
  · have hn := neq_none
    by_cases h1 : a1 < 0
    · go_enter Try.func3, Try.ntmps3
      go_wp2
      all_goals (go_ret; exact ⟨rfl, Below.refl _ _⟩)
    by_cases h2 : a2 < 0
    · go_enter Try.func3, Try.ntmps3
      go_wp2
      all_goals (go_ret; exact ⟨rfl, Below.refl _ _⟩)
    by_cases h3 : a3 < 0
    · go_enter Try.func3, Try.ntmps3
      go_wp2
      all_goals (go_ret; exact ⟨rfl, Below.refl _ _⟩)
    by_cases h4 : 0 < a3
    · go_enter Try.func3, Try.ntmps3
      go_wp2
      all_goals (go_ret; exact ⟨rfl, Below.refl _ _⟩)
    have h5 : a3 = 0 := by omega
    subst h5
    have h6 : 0 ≤ a1 := by omega
    go_enter Try.func3, Try.ntmps3
    go_wp2
    all_goals (go_ret; exact ⟨rfl, Below.refl _ _⟩)
  by_cases hbig : 1048576 < len0
  · go_enter Try.func3, Try.ntmps3
    go_wp2
    all_goals (go_ret; exact ⟨rfl, Below.refl _ _⟩)
  have hb1 : len0 ≤ 1048576 := by omega
  by_cases h1 : a1 < 0
  · go_enter Try.func3, Try.ntmps3
    go_wp2
    all_goals (go_ret; exact ⟨rfl, Below.refl _ _⟩)
  by_cases h2 : a2 < 0
  · go_enter Try.func3, Try.ntmps3
    go_wp2
    all_goals (go_ret; exact ⟨rfl, Below.refl _ _⟩)
  by_cases h3 : a3 < 0
  · go_enter Try.func3, Try.ntmps3
    go_wp2
    all_goals (go_ret; exact ⟨rfl, Below.refl _ _⟩)
  have p1 : 0 ≤ a1 := by omega
  have p2 : 0 ≤ a2 := by omega
  have p3 : 0 ≤ a3 := by omega
  have hn := neq_some x len0 cap0
  have hsrc := row_src (n := len0) (by omega) hcell
  have hz := row_range (n := len0) hwz
  obtain ⟨zs, hzs, HZ⟩ : ∃ zs : List Int, zs.length = len0 ∧ zs = z0.take len0 := ⟨_, by simp; omega, rfl⟩
  rw [← HZ] at hsrc hz
  have Hsrc : Hid (∀ j v, (zs.map (Value.int .u8))[j]? = some v → w.cell? (x.add j) = some v) := hsrc
  have Hz : Hid (∀ j, 0 ≤ zs.getD j 0 ∧ zs.getD j 0 ≤ 255) := hz
  clear hsrc hz HZ hcell hwz hzl hm hbig h1 h2 h3
  by_cases hin : a1 + a3 < 8 * (len0 : Int) ∧ a2 + a3 < 8 * (len0 : Int)
  · exact main_way x len0 cap0 zs a1 a2 a3 w hb1 hzs Hsrc Hz p1 p2 p3 hin.1 hin.2
  obtain ⟨i0, hi, hz0, hz1, hz2⟩ := info_parts info5
  have Hi : Hid (Try.prog.info? 5 = some i0 ∧ i0.zero = some (.int .u8 0) ∧ i0.size = 1 ∧ i0.bytes = 1) := ⟨hi, hz0, hz1, hz2⟩
  clear hi hz0 hz1 hz2
  have hm' : len0 ≤ maxLen := by unfold maxLen; omega
  obtain hout | hout | hout : 8 * (len0 : Int) < a3 ∨ 8 * (len0 : Int) - a3 ≤ a1 ∨ 8 * (len0 : Int) - a3 ≤ a2 := by omega
  all_goals
    clear hin
    go_enter Try.func3, Try.ntmps3
    go_wp2_with (first
      | (go_at_call 5; go_in)
      | (at_make; refine wpList_make_full _ rfl _ _ 22 rfl w.heap.size 5 i0 (.int .u8 0) 1 Try.underlying22 Hi.out.1 Hi.out.2.1 Hi.out.2.2.1 _ _ _ _ len0 rfl rfl rfl rfl (by rw [Hi.out.2.2.2]; omega) hm' (Nat.le_refl _) ?_; intro w2 hown hgrow; obtain ⟨w3, hrun, Hc, hB3, hlt3⟩ := copied (x := x) (c := cap0) hzs Hsrc.out hown hgrow; clear hown hgrow))
    all_goals (go_ret; exact ⟨rfl, hB3⟩)

/-! ### THE ROW's STEP: WRITTEN OUT: LEAVE IT -/
set_option maxRecDepth 100000 in
theorem lifted (os : Os) (started : os.Started) (H : Type) (enc : TypeId × Value → H) :
    ReturnsInHanded {} Try.checked os 3 .any (Rows.fnIsNullMarksExactlyTheBitSetSpec.pre6 enc Try.prog Try.f3 Rows.fnIsNullMarksExactlyTheBitSetRow.domain false) (Rows.fnIsNullMarksExactlyTheBitSetSpec.post enc Try.prog Try.f3 false true false false) := by
  refine returnsInHanded_of_change (C := Try.checked) own started (by kernel_rfl) Try.func3
    (ChangeSpec.witness6 (enc := enc) (C := Try.checked) false ⟨#[], #[.slice none 0 0, .int .i64 0, .int .i64 0, .int .i64 0], []⟩ 8 (by kernel_rfl) (by kernel_rfl) (by kernel_rfl) (by kernel_rfl)) ?_
  intro W base args ds gs before hval0 hW hcnd _
  have hval : ∀ (j : Nat) t v, Try.f3.params[j]? = some t → args[j]? = some v → Value.okWide Try.prog W .any base t v := hval0
  have hW' := hW
  obtain ⟨p, q, hA0, hV, rfl, hfz, hnd⟩ := hW
  have hA : DataW.TrodAll enc Try.prog W 0 (fun _ => true) true Try.f3.params.toList args.toList ds p := hA0
  rw [Try.params3] at hA hval
  obtain ⟨v0, vs0, d0, ds0, p0, q0, hargs, rfl, rfl, h0, r0⟩ := trodAll_cons hA
  obtain ⟨v1, vs1, d1, ds1, p1, q1, rfl, rfl, rfl, h1, r1⟩ := trodAll_cons r0
  obtain ⟨v2, vs2, d2, ds2, p2, q2, rfl, rfl, rfl, h2, r2⟩ := trodAll_cons r1
  obtain ⟨v3, vs3, d3, ds3, p3, q3, rfl, rfl, rfl, h3, r3⟩ := trodAll_cons r2
  obtain ⟨rfl, rfl, rfl⟩ := trodAll_nil r3
  obtain rfl : args = #[v0, v1, v2, v3] := by cases args; simp_all
  obtain ⟨rfl, rfl⟩ := trodVars_none hV
  obtain ⟨a0, len0, cap0, rfl⟩ := okWide_slice Try.underlying22 (hval 0 22 v0 rfl rfl)
  have k0 := h0
  have lt0 : ∀ x ∈ p0, x.block < W.heap.size := by obtain ⟨m, hm⟩ := k0; exact DataW.trod_lt m _ _ _ hm
  obtain ⟨z0, w0⟩ : ∃ zs, IsRow .u8 W a0 len0 cap0 zs := by
    obtain ⟨fuel, hf⟩ := h0
    rcases open_ints Try.underlying22 Try.underlying5 (by kernel_rfl) hf with ⟨hcs, _⟩ | ⟨x, l, c, zs, hcs, _, hl, hm, hz, _, hcell, hwz⟩
    · simp [Value.cells] at hcs
      obtain ⟨rfl, rfl, rfl⟩ := hcs
      exact ⟨[], .inl ⟨rfl, rfl, rfl, rfl⟩⟩
    · simp [Value.cells] at hcs
      obtain ⟨rfl, rfl, rfl⟩ := hcs
      exact ⟨zs, .inr ⟨_, rfl, hl, hm, by simpa using hz, hcell, hwz⟩⟩
  obtain ⟨a1, rfl, rfl, rfl, w1⟩ := open_int Try.underlying3 (hval 1 3 v1 rfl rfl) h1
  obtain ⟨a2, rfl, rfl, rfl, w2⟩ := open_int Try.underlying3 (hval 2 3 v2 rfl rfl) h2
  obtain ⟨a3, rfl, rfl, rfl, w3⟩ := open_int Try.underlying3 (hval 3 3 v3 rfl rfl) h3
  clear hA0 hval0
  refine (walk a0 len0 cap0 z0 a1 a2 a3 W w0 w1 w2 w3).mono fun e W' ⟨he, bel⟩ => ?_
  subst he
  exact ⟨_, rfl, _, _, _, [], _, [], hW', trodAll_mk1 (shut_bool Try.underlying4 _), (trodAll_cons_mk (Below.trod laidOut (by kernel_rfl) (of_decide_eq_true (by kernel_rfl)) k0 bel lt0) (trodAll_cons_mk (shut_int Try.underlying3 w1) (trodAll_cons_mk (shut_int Try.underlying3 w2) (trodAll_cons_mk (shut_int Try.underlying3 w3) trodAll_mk0)))), rfl, bel.frame _, fun h => by cases h⟩

theorem over : Rows.fnIsNullMarksExactlyTheBitSetRow.holds Try.pinned (OpenSpec.ofChange Rows.fnIsNullMarksExactlyTheBitSetSpec) :=
  OpenClaim.holds_of_wide 3 Try.f3 rfl rfl rfl rfl rfl rfl rfl ⟨rfl, rfl, rfl, rfl, rfl⟩ rfl rfl rfl rfl rfl (by kernel_rfl) Try.func3 (by kernel_rfl)
    (of_decide_eq_true (by kernel_rfl)) (by unfold Func.isWrapper; first | (rw [if_pos (by decide +kernel)]; kernel_rfl) | (rw [if_neg (by decide +kernel)]; exact ⟨rfl, rfl⟩))
    (fun os started H enc _ => lifted os started H enc)

/-- ████ THE STATEMENT ████ -/
theorem proved : Rows.FnIsNullMarksExactlyTheBitSetSaid := over
#print axioms proved
end Go.Proofs.Qxb6614884a.fnIsNullMarksExactlyTheBitSet
