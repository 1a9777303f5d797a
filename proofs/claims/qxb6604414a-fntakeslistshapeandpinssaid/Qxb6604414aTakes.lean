/-
  SEAT b6604414a. slices.Index (52), slices.Contains (49), (rules).takes (42), ZZrulesTakes (18), zzJB1Listed (20).
-/
import Derived.Test.Qxb6604414aStrs
import Derived.Laws.EntriesVeiled
namespace Go.Proofs.Qxb6604414a
open Go.RowKit
set_option linter.unusedVariables false

/-- Is x among the first k? -/
def hasB (S : Nat → ByteArray) (x : ByteArray) : Nat → Bool
  | 0 => false
  | k + 1 => hasB S x k || (x.toList == (S k).toList)

theorem hasB_step (S : Nat → ByteArray) (x : ByteArray) (k : Nat) (h : hasB S x k = false) (he : (x.toList == (S k).toList) = false) : hasB S x (k + 1) = false := by
  show (hasB S x k || _) = false
  rw [h, he]; rfl

theorem hasB_hit (S : Nat → ByteArray) (x : ByteArray) (k : Nat) (he : (x.toList == (S k).toList) = true) : hasB S x (k + 1) = true := by
  show (hasB S x k || _) = true
  rw [he, Bool.or_true]

theorem hasB_mono (S : Nat → ByteArray) (x : ByteArray) (k : Nat) : ∀ n, k ≤ n → hasB S x k = true → hasB S x n = true
  | 0, h, hk => by obtain rfl : k = 0 := by omega
                   exact hk
  | n + 1, h, hk => by
    by_cases e : k = n + 1
    · subst e; exact hk
    · show (hasB S x n || _) = true
      rw [hasB_mono S x k n (by omega) hk]; rfl

theorem eqs_symm (a b : ByteArray) : (a.toList == b.toList) = (b.toList == a.toList) := by
  rw [Bool.eq_iff_iff]; simp only [beq_iff_eq]; exact eq_comm

/-- Index: at least 0 where x is among them, else -1. -/
def Found (e : Ending) (h : Bool) : Prop := (h = true ∧ ∃ r : Nat, r ≤ 9223372036854775807 ∧ e = .returned (.int .i64 r)) ∨ (h = false ∧ e = .returned (.int .i64 (-1)))

set_option maxHeartbeats 1000000 in
set_option maxRecDepth 100000 in
theorem index_any (ao : Option Addr) (g o n c : Nat) (S : Nat → ByteArray) (x : ByteArray) (w : World) (hS : Strs w ao g o n S) (hn : n ≤ 1048576) :
    Calls Try.prog 52 #[.slice ao n c, .string x] w fun e w' => Found e (hasB S x n) ∧ w' = w := by
  have HS : Hid (Strs w ao g o n S) := hS
  clear hS
  go_enter Try.func52, Try.ntmps52
  go_wp2
  go_loop [8] (fun vi => ∃ k : Nat, k ≤ n ∧ vi = .int .i64 k ∧ Hid (hasB S x k = false)) (fun vi => n - (intOf vi).toNat)
  case atStart => exact ⟨0, by omega, rfl, rfl⟩
  case round =>
    obtain ⟨k, hk, rfl, HF⟩ := hrel
    by_cases hlt : k < n
    · have hl := HS.out
      obtain rfl := hl.addr (by omega)
      have hc := hl.cell k hlt
      have hkn : (k : Int) < (n : Int) := by omega
      clear hl
      cases he : (x.toList == (S k).toList) with
      | true =>
        have HT : Hid (hasB S x n = true) := hasB_mono S x (k + 1) n (by omega) (hasB_hit S x k he)
        go_wp2
        go_ret
        exact ⟨.inl ⟨HT.out, k, by omega, rfl⟩, rfl⟩
      | false =>
        have HT : Hid (hasB S x (k + 1) = false) := hasB_step S x k HF.out he
        go_wp2
        go_round
        case rel => exact ⟨k + 1, by omega, by go_num, HT⟩
        case measure => simp [intOf]; omega
    · obtain rfl : k = n := by omega
      go_wp2
      go_ret
      exact ⟨.inr ⟨HF.out, rfl⟩, rfl⟩

theorem contains_any (ao : Option Addr) (g o n c : Nat) (S : Nat → ByteArray) (x : ByteArray) (w : World) (hS : Strs w ao g o n S) (hn : n ≤ 1048576) :
    Calls Try.prog 49 #[.slice ao n c, .string x] w fun e w' => e = .returned (.bool (hasB S x n)) ∧ w' = w := by
  go_enter Try.func49, Try.ntmps49
  go_wp2_with fail
  refine (index_any ao g o n c S x w hS hn).mono ?_
  rintro e w1 ⟨hf, hw1⟩; subst w1
  clear hS
  rcases hf with ⟨h, r, hr, rfl⟩ | ⟨h, rfl⟩
  · have H : Hid (hasB S x n = true) := h
    clear h
    go_wp2_with fail
    go_ret
    exact ⟨by rw [H.out]; simp, rfl⟩
  · have H : Hid (hasB S x n = false) := h
    clear h
    go_wp2_with fail
    go_ret
    exact ⟨by rw [H.out]; simp, rfl⟩

set_option maxHeartbeats 1000000 in
set_option maxRecDepth 100000 in
theorem listed_any (ao : Option Addr) (g o n c : Nat) (S : Nat → ByteArray) (x : ByteArray) (w : World) (hS : Strs w ao g o n S) (hn : n ≤ 1048576) :
    Calls Try.prog 20 #[.slice ao n c, .string x] w fun e w' => e = .returned (.bool (hasB S x n)) ∧ w' = w := by
  have HS : Hid (Strs w ao g o n S) := hS
  clear hS
  go_enter Try.func20, Try.ntmps20
  go_wp2
  go_loop [5] (fun vi => ∃ k : Nat, k ≤ n ∧ vi = .int .i64 k ∧ Hid (hasB S x k = false)) (fun vi => n - (intOf vi).toNat)
  case atStart => exact ⟨0, by omega, rfl, rfl⟩
  case round =>
    obtain ⟨k, hk, rfl, HF⟩ := hrel
    by_cases hlt : k < n
    · have hl := HS.out
      obtain rfl := hl.addr (by omega)
      have hc := hl.cell k hlt
      have hkn : (k : Int) < (n : Int) := by omega
      clear hl
      cases he : ((S k).toList == x.toList) with
      | true =>
        have HT : Hid (hasB S x n = true) := hasB_mono S x (k + 1) n (by omega) (hasB_hit S x k (by rw [eqs_symm]; exact he))
        go_wp2
        go_ret
        exact ⟨by rw [HT.out]; rfl, rfl⟩
      | false =>
        have HT : Hid (hasB S x (k + 1) = false) := hasB_step S x k HF.out (by rw [eqs_symm]; exact he)
        go_wp2
        go_round
        case rel => exact ⟨k + 1, by omega, by go_num, HT⟩
        case measure => simp [intOf]; omega
    · obtain rfl : k = n := by omega
      go_wp2
      go_ret
      exact ⟨by rw [HF.out]; rfl, rfl⟩

def isP (x : ByteArray) : Bool := x.toList == [112, 111, 105, 110, 116, 115]
def isX (x : ByteArray) : Bool := x.toList == [101, 120, 99, 108, 117, 100, 101, 70, 114, 111, 109, 83, 99, 111, 114, 101]
def isT (x : ByteArray) : Bool := x.toList == [116, 105, 109, 101, 76, 105, 109, 105, 116]

/-- What takes answers. -/
def takesB (hj hr : Bool) (x : ByteArray) (h : Bool) : Bool := if isP x || isX x then hr else if isT x then hj else h

theorem nf65y (w : World) : (binOp .neq 65 (.func (Fn.func 41) #[] #[]) .nilFunc).run Try.prog w = .ok (.bool true) w := by kernel_rfl
theorem nf65n (w : World) : (binOp .neq 65 .nilFunc .nilFunc).run Try.prog w = .ok (.bool false) w := by kernel_rfl
theorem nf64y (w : World) : (binOp .neq 64 (.func (Fn.func 40) #[] #[]) .nilFunc).run Try.prog w = .ok (.bool true) w := by kernel_rfl
theorem nf64n (w : World) : (binOp .neq 64 .nilFunc .nilFunc).run Try.prog w = .ok (.bool false) w := by kernel_rfl

def fj (b : Bool) : Value := if b then .func (Fn.func 40) #[] #[] else .nilFunc
def fr (b : Bool) : Value := if b then .func (Fn.func 41) #[] #[] else .nilFunc

theorem takesB_P {hj hr : Bool} {x : ByteArray} {h : Bool} (e : isP x = true) : takesB hj hr x h = hr := by unfold takesB; rw [e]; rfl
theorem takesB_X {hj hr : Bool} {x : ByteArray} {h : Bool} (e : isX x = true) : takesB hj hr x h = hr := by unfold takesB; rw [e, Bool.or_true]; rfl
theorem takesB_T {hj hr : Bool} {x : ByteArray} {h : Bool} (e1 : isP x = false) (e2 : isX x = false) (e3 : isT x = true) : takesB hj hr x h = hj := by unfold takesB; rw [e1, e2, e3]; rfl
theorem takesB_O {hj hr : Bool} {x : ByteArray} {h : Bool} (e1 : isP x = false) (e2 : isX x = false) (e3 : isT x = false) : takesB hj hr x h = h := by unfold takesB; rw [e1, e2, e3]; rfl

set_option maxHeartbeats 4000000 in
set_option maxRecDepth 100000 in
theorem takes_any (ao : Option Addr) (g o n c : Nat) (S : Nat → ByteArray) (hj hr : Bool) (x : ByteArray) (w : World) (hS : Strs w ao g o n S) (hn : n ≤ 1048576) :
    Calls Try.prog 42 #[.agg #[.slice ao n c, .nilFunc, fj hj, fr hr, .nilFunc], .string x] w fun e w' => e = .returned (.bool (takesB hj hr x (hasB S x n))) ∧ Below w.heap.size w w' := by
  have f1 := nf65y
  have f2 := nf65n
  have f3 := nf64y
  have f4 := nf64n
  have HS : Hid (Strs w ao g o n S) := hS
  clear hS
  cases hP : (x.toList == [112, 111, 105, 110, 116, 115]) with
  | true =>
    have H : Hid (takesB hj hr x (hasB S x n) = hr) := takesB_P hP
    cases hj <;> cases hr
    all_goals
      simp only [fj, fr, if_true, Bool.false_eq_true, if_false]
      go_enter Try.func42, Try.ntmps42
      go_wp2_with fail
      go_ret
      exact ⟨by rw [H.out]; rfl, (Below.refl _ _).alloc (Nat.le_refl _) _⟩
  | false =>
    cases hX : (x.toList == [101, 120, 99, 108, 117, 100, 101, 70, 114, 111, 109, 83, 99, 111, 114, 101]) with
    | true =>
      have H : Hid (takesB hj hr x (hasB S x n) = hr) := takesB_X hX
      cases hj <;> cases hr
      all_goals
        simp only [fj, fr, if_true, Bool.false_eq_true, if_false]
        go_enter Try.func42, Try.ntmps42
        go_wp2_with fail
        go_ret
        exact ⟨by rw [H.out]; rfl, (Below.refl _ _).alloc (Nat.le_refl _) _⟩
    | false =>
      cases hT : (x.toList == [116, 105, 109, 101, 76, 105, 109, 105, 116]) with
      | true =>
        have H : Hid (takesB hj hr x (hasB S x n) = hj) := takesB_T hP hX hT
        cases hj <;> cases hr
        all_goals
          simp only [fj, fr, if_true, Bool.false_eq_true, if_false]
          go_enter Try.func42, Try.ntmps42
          go_wp2_with fail
          go_ret
          exact ⟨by rw [H.out]; rfl, (Below.refl _ _).alloc (Nat.le_refl _) _⟩
      | false =>
        have H : Hid (takesB hj hr x (hasB S x n) = hasB S x n) := takesB_O hP hX hT
        cases hj <;> cases hr
        all_goals
          simp only [fj, fr, if_true, Bool.false_eq_true, if_false]
          go_enter Try.func42, Try.ntmps42
          go_wp2_with fail
          refine (contains_any ao g o n c S x _ (HS.out.below ((Below.refl _ _).alloc (Nat.le_refl _) _) HS.out.lt) hn).mono ?_
          rintro e w1 ⟨rfl, hw1⟩; subst w1
          go_wp2_with fail
          go_ret
          exact ⟨by rw [H.out]; rfl, (Below.refl _ _).alloc (Nat.le_refl _) _⟩

set_option maxHeartbeats 1000000 in
set_option maxRecDepth 100000 in
theorem ztakes_any (ao : Option Addr) (g o n c : Nat) (S : Nat → ByteArray) (hj hr : Bool) (x : ByteArray) (w : World) (hS : Strs w ao g o n S) (hn : n ≤ 1048576) :
    Calls Try.prog 18 #[.slice ao n c, .bool hj, .bool hr, .string x] w fun e w' => e = .returned (.bool (takesB hj hr x (hasB S x n))) ∧ Below w.heap.size w w' := by
  have HS : Hid (∀ cs, Strs (w.alloc (.cells cs 68)) ao g o n S) := fun cs => hS.below ((Below.refl _ _).alloc (Nat.le_refl _) _) hS.lt
  clear hS
  have HC := fun wx hx => takes_any ao g o n c S hj hr x wx hx hn
  have HC' : Hid (∀ wx, Strs wx ao g o n S → Calls Try.prog 42 #[.agg #[.slice ao n c, .nilFunc, fj hj, fr hr, .nilFunc], .string x] wx fun e w' => e = .returned (.bool (takesB hj hr x (hasB S x n))) ∧ Below wx.heap.size wx w') := HC
  clear HC
  cases hj <;> cases hr
  all_goals
    go_enter Try.func18, Try.ntmps18
    go_wp2_with fail
    refine (HC'.out _ (HS.out _)).mono ?_
    rintro e w1 ⟨rfl, hb1⟩
    go_wp2_with fail
    go_ret
    exact ⟨rfl, ((Below.refl _ _).alloc (Nat.le_refl _) _).trans (hb1.mono (by simp))⟩

#print axioms ztakes_any
end Go.Proofs.Qxb6604414a
