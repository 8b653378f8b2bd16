/-
  (*Securities).Selects.
-/
import Derived.Test.Qxb6608990aSelects
namespace Go.Proofs.Qxb6608990a
open Go.RowKit

theorem eql_some (x : Addr) (l c : Nat) (w : World) : (binOp .eql 22 (.slice (some x) l c) (.slice none 0 0)).run Try.prog w = .ok (.bool false) w := by
  simp only [binOp]
  simp [run_equal_slice_nil w 22 9 (some x) l c Try.underlying22]
theorem eql_none (w : World) : (binOp .eql 22 (.slice none 0 0) (.slice none 0 0)).run Try.prog w = .ok (.bool true) w := by
  simp only [binOp]
  simp [run_equal_slice_nil w 22 9 none 0 0 Try.underlying22]

theorem contains_val (a : Option Addr) (n cap : Nat) (ss : List ByteArray) (v : ByteArray) (r : Bool) (w : World) (h : Strs w a n ss) (hr : Hid (hasB ss v = r)) :
    Calls Try.prog 18 #[.slice a n cap, .string v] w fun e w' => e = .returned (.bool r) ∧ w' = w := by
  have h := contains_any a n cap ss v w h
  rw [hr.out] at h
  exact h

/-- What lies in memory: the selector at block bs, the security at block bc. -/
structure Laid (w : World) (bs bc : Nat) (ac : Option Addr) (nc cc : Nat) (C : List ByteArray) (at' : Option Addr) (nt ct : Nat) (T : List ByteArray) (cl : ByteArray) (aS : Option Addr) (nS cS : Nat) (S : List ByteArray) : Prop where
  f0 : w.cell? ⟨bs, 0, none⟩ = some (.slice ac nc cc)
  f1 : w.cell? ⟨bs, 1, none⟩ = some (.slice at' nt ct)
  g2 : w.cell? ⟨bc, 2, none⟩ = some (.string cl)
  g3 : w.cell? ⟨bc, 3, none⟩ = some (.slice aS nS cS)
  sC : Strs w ac nc C
  sT : Strs w at' nt T
  sS : Strs w aS nS S

theorem Laid.below {w w' : World} {bs bc : Nat} {ac : Option Addr} {nc cc : Nat} {C : List ByteArray} {at' : Option Addr} {nt ct : Nat} {T : List ByteArray} {cl : ByteArray} {aS : Option Addr} {nS cS : Nat} {S : List ByteArray}
    (h : Laid w bs bc ac nc cc C at' nt ct T cl aS nS cS S) (hB : Below w.heap.size w w') : Laid w' bs bc ac nc cc C at' nt ct T cl aS nS cS S where
  f0 := (hB.cell (World.block_lt_of_cell? w _ h.f0)).trans h.f0
  f1 := (hB.cell (World.block_lt_of_cell? w _ h.f1)).trans h.f1
  g2 := (hB.cell (World.block_lt_of_cell? w _ h.g2)).trans h.g2
  g3 := (hB.cell (World.block_lt_of_cell? w _ h.g3)).trans h.g3
  sC := h.sC.below hB
  sT := h.sT.below hB
  sS := h.sS.below hB

set_option maxHeartbeats 1000000 in
/-- No class list, no tag list: selected. -/
theorem sel_nn (bs bc : Nat) (C T : List ByteArray) (cl : ByteArray) (aS : Option Addr) (nS cS : Nat) (S : List ByteArray) (w : World)
    (h : Laid w bs bc none 0 0 C none 0 0 T cl aS nS cS S) :
    Calls Try.prog 9 #[.pointer (some ⟨bs, 0, none⟩), .pointer (some ⟨bc, 0, none⟩)] w fun e w' => e = .returned (.bool true) ∧ Below w.heap.size w w' := by
  have H : Hid (Laid (w.alloc (.cells #[.pointer (some ⟨bs, 0, none⟩)] 41)) bs bc none 0 0 C none 0 0 T cl aS nS cS S) := h.below ((Below.refl _ _).alloc (Nat.le_refl _) _)
  have f0 := H.out.f0
  have f1 := H.out.f1
  have hx : (w.alloc (.cells #[.pointer (some ⟨bs, 0, none⟩)] 41)).cell? ⟨w.heap.size, 0, none⟩ = some (.pointer (some ⟨bs, 0, none⟩)) := by simp
  have e1 := eql_none
  clear h
  go_enter Try.func9, Try.ntmps9
  go_wp2
  go_quiet (fail)
  go_wp2
  go_ret
  exact ⟨rfl, below_drewN ((Below.refl _ _).alloc (Nat.le_refl _) _) _⟩

set_option maxHeartbeats 1000000 in
/-- No class list; a tag list. -/
theorem sel_ns (bs bc : Nat) (xt : Addr) (nt ct : Nat) (C T : List ByteArray) (cl : ByteArray) (aS : Option Addr) (nS cS : Nat) (S : List ByteArray) (w : World)
    (h : Laid w bs bc none 0 0 C (some xt) nt ct T cl aS nS cS S) :
    Calls Try.prog 9 #[.pointer (some ⟨bs, 0, none⟩), .pointer (some ⟨bc, 0, none⟩)] w fun e w' => e = .returned (.bool (anyB T S)) ∧ Below w.heap.size w w' := by
  have H : Hid (Laid (w.alloc (.cells #[.pointer (some ⟨bs, 0, none⟩)] 41)) bs bc none 0 0 C (some xt) nt ct T cl aS nS cS S) := h.below ((Below.refl _ _).alloc (Nat.le_refl _) _)
  have f0 := H.out.f0
  have f1 := H.out.f1
  have g3 := H.out.g3
  have hx : (w.alloc (.cells #[.pointer (some ⟨bs, 0, none⟩)] 41)).cell? ⟨w.heap.size, 0, none⟩ = some (.pointer (some ⟨bs, 0, none⟩)) := by simp
  have e1 := eql_none
  have e2 := eql_some xt nt ct
  have hmf : ∀ (fn : Fn) (first cap : Array Value) (w : World), (Instr.makeFunc fn first cap).run Try.prog w = .ok (.func fn first cap) w := fun _ _ _ _ => rfl
  clear h
  go_enter Try.func9, Try.ntmps9
  go_wp2
  go_quiet ((go_at_call 19; exact Calls.quiet_of_same (containsF_any w.heap.size bs (some xt) nt ct T aS nS cS S _ (by exact hx) (by exact f1) (by exact H.out.sT) (by exact H.out.sS))))
  go_wp2
  go_ret
  exact ⟨rfl, below_drewN ((Below.refl _ _).alloc (Nat.le_refl _) _) _⟩

set_option maxHeartbeats 1000000 in
/-- Its class is listed; no tag list: selected. -/
theorem sel_yn (bs bc : Nat) (xc : Addr) (nc cc : Nat) (C T : List ByteArray) (cl : ByteArray) (aS : Option Addr) (nS cS : Nat) (S : List ByteArray) (w : World)
    (h : Laid w bs bc (some xc) nc cc C none 0 0 T cl aS nS cS S) (hr : Hid (hasB C cl = true)) :
    Calls Try.prog 9 #[.pointer (some ⟨bs, 0, none⟩), .pointer (some ⟨bc, 0, none⟩)] w fun e w' => e = .returned (.bool true) ∧ Below w.heap.size w w' := by
  have H : Hid (Laid (w.alloc (.cells #[.pointer (some ⟨bs, 0, none⟩)] 41)) bs bc (some xc) nc cc C none 0 0 T cl aS nS cS S) := h.below ((Below.refl _ _).alloc (Nat.le_refl _) _)
  have f0 := H.out.f0
  have f1 := H.out.f1
  have g2 := H.out.g2
  have hx : (w.alloc (.cells #[.pointer (some ⟨bs, 0, none⟩)] 41)).cell? ⟨w.heap.size, 0, none⟩ = some (.pointer (some ⟨bs, 0, none⟩)) := by simp
  have e1 := eql_some xc nc cc
  have e2 := eql_none
  clear h
  go_enter Try.func9, Try.ntmps9
  go_wp2
  go_quiet ((go_at_call 18; exact Calls.quiet_of_same (contains_val (some xc) nc cc C cl true _ (by exact H.out.sC) hr)))
  go_wp2
  go_ret
  exact ⟨rfl, below_drewN ((Below.refl _ _).alloc (Nat.le_refl _) _) _⟩

set_option maxHeartbeats 1000000 in
/-- Its class is listed; a tag list. -/
theorem sel_ys (bs bc : Nat) (xc : Addr) (nc cc : Nat) (xt : Addr) (nt ct : Nat) (C T : List ByteArray) (cl : ByteArray) (aS : Option Addr) (nS cS : Nat) (S : List ByteArray) (w : World)
    (h : Laid w bs bc (some xc) nc cc C (some xt) nt ct T cl aS nS cS S) (hr : Hid (hasB C cl = true)) :
    Calls Try.prog 9 #[.pointer (some ⟨bs, 0, none⟩), .pointer (some ⟨bc, 0, none⟩)] w fun e w' => e = .returned (.bool (anyB T S)) ∧ Below w.heap.size w w' := by
  have H : Hid (Laid (w.alloc (.cells #[.pointer (some ⟨bs, 0, none⟩)] 41)) bs bc (some xc) nc cc C (some xt) nt ct T cl aS nS cS S) := h.below ((Below.refl _ _).alloc (Nat.le_refl _) _)
  have f0 := H.out.f0
  have f1 := H.out.f1
  have g2 := H.out.g2
  have g3 := H.out.g3
  have hx : (w.alloc (.cells #[.pointer (some ⟨bs, 0, none⟩)] 41)).cell? ⟨w.heap.size, 0, none⟩ = some (.pointer (some ⟨bs, 0, none⟩)) := by simp
  have e1 := eql_some xc nc cc
  have e2 := eql_some xt nt ct
  have hmf : ∀ (fn : Fn) (first cap : Array Value) (w : World), (Instr.makeFunc fn first cap).run Try.prog w = .ok (.func fn first cap) w := fun _ _ _ _ => rfl
  clear h
  go_enter Try.func9, Try.ntmps9
  go_wp2
  go_quiet (first
    | (go_at_call 18; exact Calls.quiet_of_same (contains_val (some xc) nc cc C cl true _ (by exact H.out.sC) hr))
    | (go_at_call 19; exact Calls.quiet_of_same (containsF_any w.heap.size bs (some xt) nt ct T aS nS cS S _ (by exact hx) (by exact f1) (by exact H.out.sT) (by exact H.out.sS))))
  go_wp2
  go_ret
  exact ⟨rfl, below_drewN ((Below.refl _ _).alloc (Nat.le_refl _) _) _⟩

set_option maxHeartbeats 1000000 in
/-- Its class is not listed: not selected. -/
theorem sel_no (bs bc : Nat) (xc : Addr) (nc cc : Nat) (at' : Option Addr) (nt ct : Nat) (C T : List ByteArray) (cl : ByteArray) (aS : Option Addr) (nS cS : Nat) (S : List ByteArray) (w : World)
    (h : Laid w bs bc (some xc) nc cc C at' nt ct T cl aS nS cS S) (hr : Hid (hasB C cl = false)) :
    Calls Try.prog 9 #[.pointer (some ⟨bs, 0, none⟩), .pointer (some ⟨bc, 0, none⟩)] w fun e w' => e = .returned (.bool false) ∧ Below w.heap.size w w' := by
  have H : Hid (Laid (w.alloc (.cells #[.pointer (some ⟨bs, 0, none⟩)] 41)) bs bc (some xc) nc cc C at' nt ct T cl aS nS cS S) := h.below ((Below.refl _ _).alloc (Nat.le_refl _) _)
  have f0 := H.out.f0
  have g2 := H.out.g2
  have hx : (w.alloc (.cells #[.pointer (some ⟨bs, 0, none⟩)] 41)).cell? ⟨w.heap.size, 0, none⟩ = some (.pointer (some ⟨bs, 0, none⟩)) := by simp
  have e1 := eql_some xc nc cc
  clear h
  go_enter Try.func9, Try.ntmps9
  go_wp2
  go_quiet ((go_at_call 18; exact Calls.quiet_of_same (contains_val (some xc) nc cc C cl false _ (by exact H.out.sC) hr)))
  go_wp2
  go_ret
  exact ⟨rfl, below_drewN ((Below.refl _ _).alloc (Nat.le_refl _) _) _⟩

end Go.Proofs.Qxb6608990a
