import PyProof.Rows.All
import Wide.All
import OpenK.AllK
import Wide.FinOn
import Lean
import PySem.Challenge.RW_fe0312_02

set_option Elab.async false
set_option maxRecDepth 100000
set_option maxHeartbeats 1000000
set_option linter.unusedSimpArgs false
set_option linter.unusedVariables false

/-! Math1 -/
namespace Mine

/-- edit scripts: a sign put in, left out, turned, kept; with sw two neighbours swapped -/
inductive Ed (sw : Bool) : List Nat → List Nat → Nat → Prop
  | nil : Ed sw [] [] 0
  | del {x a b n} : Ed sw a b n → Ed sw (x :: a) b (n + 1)
  | ins {y a b n} : Ed sw a b n → Ed sw a (y :: b) (n + 1)
  | keep {x a b n} : Ed sw a b n → Ed sw (x :: a) (x :: b) n
  | sub {x y a b n} : Ed sw a b n → Ed sw (x :: a) (y :: b) (n + 1)
  | swap {x y a b n} : sw = true → Ed sw a b n → Ed sw (x :: y :: a) (y :: x :: b) (n + 1)

theorem Ed.dels {sw : Bool} : ∀ a : List Nat, Ed sw a [] a.length
  | [] => .nil
  | _ :: a => .del (Ed.dels a)
theorem Ed.inss {sw : Bool} : ∀ b : List Nat, Ed sw [] b b.length
  | [] => .nil
  | _ :: b => .ins (Ed.inss b)
theorem Ed.refl {sw : Bool} : ∀ a : List Nat, Ed sw a a 0
  | [] => .nil
  | _ :: a => .keep (Ed.refl a)
theorem Ed.append {sw : Bool} {a b a' b' : List Nat} {n m : Nat} (x : Ed sw a b n) (y : Ed sw a' b' m) : Ed sw (a ++ a') (b ++ b') (n + m) := by
  induction x with
  | nil => simpa using y
  | del _ ih => rw [Nat.add_right_comm]; exact .del ih
  | ins _ ih => rw [Nat.add_right_comm]; exact .ins ih
  | keep _ ih => exact .keep ih
  | sub _ ih => rw [Nat.add_right_comm]; exact .sub ih
  | swap h _ ih => rw [Nat.add_right_comm]; exact .swap h ih
theorem Ed.reverse {sw : Bool} {a b : List Nat} {n : Nat} (x : Ed sw a b n) : Ed sw a.reverse b.reverse n := by
  induction x with
  | nil => exact .nil
  | @del x a b n _ ih => have := ih.append (Ed.del (x := x) .nil); simpa using this
  | @ins y a b n _ ih => have := ih.append (Ed.ins (y := y) .nil); simpa using this
  | @keep x a b n _ ih => have := ih.append (Ed.keep (x := x) .nil); simpa using this
  | @sub x y a b n _ ih => have := ih.append (Ed.sub (x := x) (y := y) .nil); simpa using this
  | @swap x y a b n h _ ih => have := ih.append (Ed.swap (x := y) (y := x) h .nil); simpa using this
theorem Ed.symm {sw : Bool} {a b : List Nat} {n : Nat} (x : Ed sw a b n) : Ed sw b a n := by
  induction x with
  | nil => exact .nil
  | del _ ih => exact .ins ih
  | ins _ ih => exact .del ih
  | keep _ ih => exact .keep ih
  | sub _ ih => exact .sub ih
  | swap h _ ih => exact .swap h ih
/-- a sign less on the left: one edit more at most -/
theorem Ed.dropL {sw : Bool} {x : Nat} {a b : List Nat} {n : Nat} (h : Ed sw (x :: a) b n) : ∃ m, m ≤ n + 1 ∧ Ed sw a b m := by
  generalize hc : x :: a = c at h
  induction h generalizing x a with
  | nil => cases hc
  | @del x' a' b n h ih => cases hc; exact ⟨n, by omega, h⟩
  | @ins y a' b n h ih => obtain ⟨m, hm, h'⟩ := ih hc; exact ⟨m + 1, by omega, .ins h'⟩
  | @keep x' a' b n h ih => cases hc; exact ⟨n + 1, by omega, .ins h⟩
  | @sub x' y a' b n h ih => cases hc; exact ⟨n + 1, by omega, .ins h⟩
  | @swap x' y a' b n hs h ih => cases hc; exact ⟨n + 1, by omega, .keep (.ins h)⟩
theorem Ed.dropR {sw : Bool} {y : Nat} {a b : List Nat} {n : Nat} (h : Ed sw a (y :: b) n) : ∃ m, m ≤ n + 1 ∧ Ed sw a b m :=
  let ⟨m, hm, h'⟩ := h.symm.dropL; ⟨m, hm, h'.symm⟩
/-- equal heads: they may be kept -/
theorem Ed.trim {sw : Bool} {x : Nat} {a b : List Nat} {n : Nat} (h : Ed sw (x :: a) (x :: b) n) : ∃ m, m ≤ n ∧ Ed sw a b m := by
  cases h with
  | del h => exact h.dropR
  | ins h => exact h.dropL
  | keep h => exact ⟨_, Nat.le_refl _, h⟩
  | sub h => exact ⟨_, Nat.le_succ _, h⟩
  | swap hs h => exact ⟨_, Nat.le_refl _, .sub h⟩
/-- diagonals rise -/
theorem Ed.diag {sw : Bool} {x y : Nat} {a b : List Nat} {n : Nat} (h : Ed sw (x :: a) (y :: b) n) : ∃ m, m ≤ n ∧ Ed sw a b m := by
  cases h with
  | del h => exact h.dropR
  | ins h => exact h.dropL
  | keep h => exact ⟨_, Nat.le_refl _, h⟩
  | sub h => exact ⟨_, Nat.le_succ _, h⟩
  | swap hs h => exact ⟨_, Nat.le_refl _, .sub h⟩
/-- the difference of lengths is a bound -/
theorem Ed.len {sw : Bool} {a b : List Nat} {n : Nat} (h : Ed sw a b n) : a.length ≤ b.length + n ∧ b.length ≤ a.length + n := by
  induction h <;> simp only [List.length_cons, List.length_nil] at * <;> omega
theorem Ed.zero {sw : Bool} {a b : List Nat} (h : Ed sw a b 0) : a = b := by
  generalize hn : 0 = n at h
  induction h with
  | nil => rfl
  | keep _ ih => rw [ih hn]
  | _ => omega

/-- the table's value, from the lists' heads -/
def dist (sw : Bool) : List Nat → List Nat → Nat
  | [], b => b.length
  | x :: a, [] => (x :: a).length
  | x :: a, y :: b =>
    let d := dist sw a b
    if x = y then d else
      let m := min d (min (dist sw (x :: a) b) (dist sw a (y :: b))) + 1
      match a, b with
      | p :: a', q :: b' => if sw && x == q && p == y then min m (dist sw a' b' + 1) else m
      | _, _ => m
termination_by a b => a.length + b.length

theorem dist_nil_left {sw : Bool} (b : List Nat) : dist sw [] b = b.length := by unfold dist; rfl
theorem dist_nil_right {sw : Bool} (a : List Nat) : dist sw a [] = a.length := by cases a <;> (unfold dist; rfl)
theorem dist_eq {sw : Bool} (x : Nat) (a b : List Nat) : dist sw (x :: a) (x :: b) = dist sw a b := by rw [dist.eq_def]; simp
/-- the swap's value, if there is one -/
def swapTo (sw : Bool) (x y : Nat) : List Nat → List Nat → Option (List Nat × List Nat)
  | p :: a, q :: b => if sw && x == q && p == y then some (a, b) else none
  | _, _ => none
theorem dist_ne {sw : Bool} {x y : Nat} (h : x ≠ y) (a b : List Nat) : dist sw (x :: a) (y :: b) =
    match swapTo sw x y a b with
    | some (a', b') => min (min (dist sw a b) (min (dist sw (x :: a) b) (dist sw a (y :: b))) + 1) (dist sw a' b' + 1)
    | none => min (dist sw a b) (min (dist sw (x :: a) b) (dist sw a (y :: b))) + 1 := by
  rw [dist.eq_def]
  simp only [h, if_false]
  cases a with
  | nil => rfl
  | cons p a =>
    cases b with
    | nil => rfl
    | cons q b =>
      simp only [swapTo]
      split <;> rfl
theorem swapTo_some {sw : Bool} {x y : Nat} {a b a' b' : List Nat} (h : swapTo sw x y a b = some (a', b')) : sw = true ∧ a = y :: a' ∧ b = x :: b' := by
  unfold swapTo at h
  split at h
  · split at h
    · rename_i hc
      simp only [Bool.and_eq_true, beq_iff_eq] at hc
      obtain ⟨⟨h1, h2⟩, h3⟩ := hc
      cases h
      exact ⟨h1, by rw [h3], by rw [h2]⟩
    · cases h
  · cases h

theorem dist_sound (sw : Bool) : ∀ (k : Nat) (a b : List Nat), a.length + b.length ≤ k → Ed sw a b (dist sw a b) := by
  intro k
  induction k with
  | zero =>
    intro a b h
    match a, b with
    | [], [] => rw [dist_nil_left]; exact .nil
    | _ :: _, _ => simp at h
    | [], _ :: _ => simp at h
  | succ k ih =>
    intro a b h
    match a, b with
    | [], b => rw [dist_nil_left]; exact .inss b
    | a, [] => rw [dist_nil_right]; exact .dels a
    | x :: a, y :: b =>
      simp only [List.length_cons] at h
      have h1 := ih a b (by omega)
      have h2 := ih (x :: a) b (by simp only [List.length_cons]; omega)
      have h3 := ih a (y :: b) (by simp only [List.length_cons]; omega)
      by_cases hxy : x = y
      · subst hxy; rw [dist_eq]; exact .keep h1
      · have base : Ed sw (x :: a) (y :: b) (min (dist sw a b) (min (dist sw (x :: a) b) (dist sw a (y :: b))) + 1) := by
          rcases Nat.le_total (dist sw a b) (min (dist sw (x :: a) b) (dist sw a (y :: b))) with q | q
          · rw [Nat.min_eq_left q]; exact .sub h1
          · rw [Nat.min_eq_right q]
            rcases Nat.le_total (dist sw (x :: a) b) (dist sw a (y :: b)) with q | q
            · rw [Nat.min_eq_left q]; exact .ins h2
            · rw [Nat.min_eq_right q]; exact .del h3
        rw [dist_ne hxy]
        split
        · rename_i a' b' hs
          obtain ⟨hsw, rfl, rfl⟩ := swapTo_some hs
          simp only [List.length_cons] at h
          have h4 := ih a' b' (by omega)
          rcases Nat.le_total (min (dist sw (y :: a') (x :: b')) (min (dist sw (x :: y :: a') (x :: b')) (dist sw (y :: a') (y :: x :: b'))) + 1) (dist sw a' b' + 1) with q | q
          · rw [Nat.min_eq_left q]; exact base
          · rw [Nat.min_eq_right q]; exact .swap hsw h4
        · exact base

theorem dist_le {sw : Bool} {a b : List Nat} {n : Nat} (h : Ed sw a b n) : dist sw a b ≤ n := by
  suffices ∀ k n a b, n + a.length + b.length ≤ k → Ed sw a b n → dist sw a b ≤ n from this _ n a b (Nat.le_refl _) h
  intro k
  induction k with
  | zero =>
    intro n a b hk h
    cases h with
    | nil => rw [dist_nil_left]; exact Nat.le_refl _
    | _ => simp at hk
  | succ k ih =>
    intro n a b hk h
    have key : ∀ {x y : Nat} {a b : List Nat} {n : Nat}, n + (x :: a).length + (y :: b).length ≤ k + 1 → Ed sw (x :: a) (y :: b) n → x = y → dist sw (x :: a) (y :: b) ≤ n := by
      intro x y a b n hk h e
      subst e
      obtain ⟨m, hm, h'⟩ := h.trim
      rw [dist_eq]
      simp only [List.length_cons] at hk
      exact Nat.le_trans (ih m a b (by omega) h') hm
    have low : ∀ {x y : Nat} {a b : List Nat}, x ≠ y → dist sw (x :: a) (y :: b) ≤ min (dist sw a b) (min (dist sw (x :: a) b) (dist sw a (y :: b))) + 1 := by
      intro x y a b hxy
      rw [dist_ne hxy]
      split
      · exact Nat.min_le_left _ _
      · exact Nat.le_refl _
    cases h with
    | nil => rw [dist_nil_left]; exact Nat.le_refl _
    | @del x a b n h =>
      cases b with
      | nil => rw [dist_nil_right]; have := h.len; simp only [List.length_cons, List.length_nil] at *; omega
      | cons y b =>
        by_cases hxy : x = y
        · exact key hk (.del h) hxy
        · have := ih n a (y :: b) (by simp only [List.length_cons] at *; omega) h
          refine Nat.le_trans (low hxy) (Nat.succ_le_succ (Nat.le_trans (Nat.min_le_right _ _) (Nat.le_trans (Nat.min_le_right _ _) this)))
    | @ins y a b n h =>
      cases a with
      | nil => rw [dist_nil_left]; have := h.len; simp only [List.length_cons, List.length_nil] at *; omega
      | cons x a =>
        by_cases hxy : x = y
        · exact key hk (.ins h) hxy
        · have := ih n (x :: a) b (by simp only [List.length_cons] at *; omega) h
          refine Nat.le_trans (low hxy) (Nat.succ_le_succ (Nat.le_trans (Nat.min_le_right _ _) (Nat.le_trans (Nat.min_le_left _ _) this)))
    | @keep x a b n h =>
      rw [dist_eq]
      exact ih n a b (by simp only [List.length_cons] at *; omega) h
    | @sub x y a b n h =>
      by_cases hxy : x = y
      · exact key hk (.sub h) hxy
      · have := ih n a b (by simp only [List.length_cons] at *; omega) h
        exact Nat.le_trans (low hxy) (Nat.succ_le_succ (Nat.le_trans (Nat.min_le_left _ _) this))
    | @swap x y a b n hs h =>
      by_cases hxy : x = y
      · exact key hk (.swap hs h) hxy
      · have := ih n a b (by simp only [List.length_cons] at *; omega) h
        rw [dist_ne hxy]
        have : swapTo sw x y (y :: a) (x :: b) = some (a, b) := by simp [swapTo, hs]
        rw [this]
        exact Nat.le_trans (Nat.min_le_right _ _) (by omega)

theorem dist_ed {sw : Bool} (a b : List Nat) : Ed sw a b (dist sw a b) := dist_sound sw _ a b (Nat.le_refl _)
theorem dist_symm {sw : Bool} (a b : List Nat) : dist sw a b = dist sw b a := Nat.le_antisymm (dist_le (dist_ed b a).symm) (dist_le (dist_ed a b).symm)
theorem dist_reverse {sw : Bool} (a b : List Nat) : dist sw a.reverse b.reverse = dist sw a b := by
  refine Nat.le_antisymm (dist_le (dist_ed a b).reverse) ?_
  have := dist_le (dist_ed (sw := sw) a.reverse b.reverse).reverse
  simpa using this
theorem dist_trimL {sw : Bool} (p a b : List Nat) : dist sw (p ++ a) (p ++ b) = dist sw a b := by
  induction p with
  | nil => rfl
  | cons x p ih => rw [List.cons_append, List.cons_append, dist_eq, ih]
theorem dist_trimR {sw : Bool} (q a b : List Nat) : dist sw (a ++ q) (b ++ q) = dist sw a b := by
  rw [← dist_reverse, List.reverse_append, List.reverse_append, dist_trimL, dist_reverse]
theorem dist_len {sw : Bool} (a b : List Nat) : a.length ≤ b.length + dist sw a b ∧ b.length ≤ a.length + dist sw a b := (dist_ed a b).len
theorem dist_zero {sw : Bool} {a b : List Nat} : dist sw a b = 0 ↔ a = b :=
  ⟨fun h => by have := dist_ed (sw := sw) a b; rw [h] at this; exact this.zero, fun h => by subst h; exact Nat.le_zero.mp (dist_le (Ed.refl a))⟩
theorem dist_max {sw : Bool} (a b : List Nat) : dist sw a b ≤ max a.length b.length := by
  suffices ∃ n, n ≤ max a.length b.length ∧ Ed sw a b n from let ⟨n, h1, h2⟩ := this; Nat.le_trans (dist_le h2) h1
  induction a generalizing b with
  | nil => exact ⟨b.length, by simp, .inss b⟩
  | cons x a ih =>
    cases b with
    | nil => exact ⟨(x :: a).length, by simp, .dels _⟩
    | cons y b =>
      obtain ⟨n, h1, h2⟩ := ih b
      exact ⟨n + 1, by simp only [List.length_cons]; omega, .sub h2⟩
theorem dist_diag {sw : Bool} (x y : Nat) (a b : List Nat) : dist sw a b ≤ dist sw (x :: a) (y :: b) := by
  obtain ⟨m, h1, h2⟩ := (dist_ed (sw := sw) (x :: a) (y :: b)).diag
  exact Nat.le_trans (dist_le h2) h1
theorem dist_diags {sw : Bool} : ∀ (p q a b : List Nat), p.length = q.length → dist sw a b ≤ dist sw (p ++ a) (q ++ b)
  | [], [], _, _, _ => Nat.le_refl _
  | x :: p, y :: q, a, b, h => Nat.le_trans (dist_diags p q a b (by simpa using h)) (dist_diag x y _ _)
  | [], _ :: _, _, _, h => by cases h
  | _ :: _, [], _, _, h => by cases h
end Mine

/-! Math2 -/
namespace Mine

/-- the prefixes' distance -/
def P (sw : Bool) (A B : List Nat) (i j : Nat) : Nat := dist sw (A.take i).reverse (B.take j).reverse

section
variable {sw : Bool} {A B : List Nat}
theorem take_succ_rev {L : List Nat} {i x : Nat} (h : L[i]? = some x) : (L.take (i + 1)).reverse = x :: (L.take i).reverse := by
  rw [List.take_add_one, h]; simp
theorem P_whole : P sw A B A.length B.length = dist sw A B := by simp [P, dist_reverse]
theorem P_left (j : Nat) (h : j ≤ B.length) : P sw A B 0 j = j := by simp [P, dist_nil_left, h]
theorem P_top (i : Nat) (h : i ≤ A.length) : P sw A B i 0 = i := by simp [P, dist_nil_right, h]
theorem P_eq {i j x y : Nat} (hx : A[i]? = some x) (hy : B[j]? = some y) (h : x = y) : P sw A B (i + 1) (j + 1) = P sw A B i j := by
  unfold P
  rw [take_succ_rev hx, take_succ_rev hy, h, dist_eq]
/-- a swap ends here -/
def Sw (sw : Bool) (A B : List Nat) (i j x y : Nat) : Prop := sw = true ∧ 0 < i ∧ 0 < j ∧ A[i - 1]? = some y ∧ B[j - 1]? = some x
theorem swapTo_take {i j x y : Nat} (hi : i ≤ A.length) (hj : j ≤ B.length) (h : Sw sw A B i j x y) : swapTo sw x y (A.take i).reverse (B.take j).reverse = some ((A.take (i - 1)).reverse, (B.take (j - 1)).reverse) := by
  obtain ⟨h1, h2, h3, h4, h5⟩ := h
  obtain ⟨i, rfl⟩ : ∃ k, i = k + 1 := ⟨i - 1, by omega⟩
  obtain ⟨j, rfl⟩ : ∃ k, j = k + 1 := ⟨j - 1, by omega⟩
  simp only [Nat.add_sub_cancel] at h4 h5
  rw [take_succ_rev h4, take_succ_rev h5]
  simp [swapTo, h1]
theorem swapTo_none {i j x y : Nat} (hi : i ≤ A.length) (hj : j ≤ B.length) (h : ¬ Sw sw A B i j x y) : swapTo sw x y (A.take i).reverse (B.take j).reverse = none := by
  cases hs : swapTo sw x y (A.take i).reverse (B.take j).reverse with
  | none => rfl
  | some r =>
    obtain ⟨a', b'⟩ := r
    obtain ⟨h1, h2, h3⟩ := swapTo_some hs
    exfalso
    apply h
    have hi0 : 0 < i := by
      cases i with
      | zero => simp at h2
      | succ i => omega
    have hj0 : 0 < j := by
      cases j with
      | zero => simp at h3
      | succ j => omega
    obtain ⟨i, rfl⟩ : ∃ k, i = k + 1 := ⟨i - 1, by omega⟩
    obtain ⟨j, rfl⟩ : ∃ k, j = k + 1 := ⟨j - 1, by omega⟩
    have gx : A[i]? = some (A[i]'(by omega)) := List.getElem?_eq_getElem _
    have gy : B[j]? = some (B[j]'(by omega)) := List.getElem?_eq_getElem _
    rw [take_succ_rev gx] at h2
    rw [take_succ_rev gy] at h3
    refine ⟨h1, hi0, hj0, ?_, ?_⟩
    · show A[i]? = some y
      rw [gx, (List.cons.inj h2).1]
    · show B[j]? = some x
      rw [gy, (List.cons.inj h3).1]
theorem P_ne {i j x y : Nat} (hx : A[i]? = some x) (hy : B[j]? = some y) (h : x ≠ y) (hs : ¬ Sw sw A B i j x y) :
    P sw A B (i + 1) (j + 1) = min (P sw A B i j) (min (P sw A B (i + 1) j) (P sw A B i (j + 1))) + 1 := by
  have hi : i ≤ A.length := Nat.le_of_lt (List.getElem?_eq_some_iff.mp hx).1
  have hj : j ≤ B.length := Nat.le_of_lt (List.getElem?_eq_some_iff.mp hy).1
  unfold P
  rw [take_succ_rev hx, take_succ_rev hy, dist_ne h, swapTo_none hi hj hs]
theorem P_sw {i j x y : Nat} (hx : A[i]? = some x) (hy : B[j]? = some y) (h : x ≠ y) (hs : Sw sw A B i j x y) :
    P sw A B (i + 1) (j + 1) = min (min (P sw A B i j) (min (P sw A B (i + 1) j) (P sw A B i (j + 1))) + 1) (P sw A B (i - 1) (j - 1) + 1) := by
  have hi : i ≤ A.length := Nat.le_of_lt (List.getElem?_eq_some_iff.mp hx).1
  have hj : j ≤ B.length := Nat.le_of_lt (List.getElem?_eq_some_iff.mp hy).1
  unfold P
  rw [take_succ_rev hx, take_succ_rev hy, dist_ne h, swapTo_take hi hj hs]
theorem P_len (i j : Nat) (hi : i ≤ A.length) (hj : j ≤ B.length) : i ≤ j + P sw A B i j ∧ j ≤ i + P sw A B i j := by
  have := dist_len (sw := sw) (A.take i).reverse (B.take j).reverse
  simp only [List.length_reverse, List.length_take, Nat.min_eq_left hi, Nat.min_eq_left hj] at this
  exact this
/-- a path from (i, j) on the diagonal to the corner only rises -/
theorem P_diag (i j : Nat) (h : A.length - i = B.length - j) : P sw A B i j ≤ dist sw A B := by
  have e1 : A.reverse = (A.drop i).reverse ++ (A.take i).reverse := by rw [← List.reverse_append, List.take_append_drop]
  have e2 : B.reverse = (B.drop j).reverse ++ (B.take j).reverse := by rw [← List.reverse_append, List.take_append_drop]
  rw [← dist_reverse, e1, e2]
  exact dist_diags _ _ _ _ (by simp [h])
theorem P_pos {i j : Nat} {x y : Nat} (hx : A[0]? = some x) (hy : B[0]? = some y) (h : x ≠ y) (hi : 0 < i) (hj : 0 < j) : 0 < P sw A B i j := by
  rcases Nat.eq_zero_or_pos (P sw A B i j) with e | e
  · exfalso
    have h0 : A.take i = B.take j := by
      have := dist_zero.mp e
      simpa using this
    have h1 : (A.take i)[0]? = (B.take j)[0]? := by rw [h0]
    rw [List.getElem?_take, List.getElem?_take, if_pos hi, if_pos hj, hx, hy] at h1
    exact h (Option.some.inj h1)
  · exact e

/-- the least that is still to come on the way to the corner; d: what B is longer -/
def pot (d i j : Nat) : Nat := (j + 0 - (i + d)) + (i + d - j)
/-- a cell that may stand for P i j, as far as m asks -/
def Cell (sw : Bool) (A B : List Nat) (m d i j : Nat) (v : Int) : Prop := 0 ≤ v ∧ ∀ k : Nat, k + pot d i j ≤ m → (v ≤ (k : Int) ↔ P sw A B i j ≤ k)
theorem Cell.exact {m d i j : Nat} {v : Int} (h : v = (P sw A B i j : Nat)) : Cell sw A B m d i j v := by
  subst h; exact ⟨by omega, fun k _ => by omega⟩
theorem Cell.far {m d i j : Nat} {v : Int} (h1 : (m : Int) < v + pot d i j) (h0 : 0 ≤ v) (h2 : m < P sw A B i j + pot d i j) : Cell sw A B m d i j v :=
  ⟨h0, fun k hk => by omega⟩

theorem Cell.eq {m d i j x y : Nat} {l : Int} (hx : A[i]? = some x) (hy : B[j]? = some y) (h : x = y) (hl : Cell sw A B m d i j l) : Cell sw A B m d (i + 1) (j + 1) l := by
  refine ⟨hl.1, fun k hk => ?_⟩
  rw [P_eq hx hy h]
  exact hl.2 k (by unfold pot at *; omega)
theorem Cell.ne {m d i j x y : Nat} {l a o : Int} (hx : A[i]? = some x) (hy : B[j]? = some y) (h : x ≠ y) (hs : ¬ Sw sw A B i j x y) (hl : Cell sw A B m d i j l) (ha : Cell sw A B m d (i + 1) j a) (ho : Cell sw A B m d i (j + 1) o) :
    Cell sw A B m d (i + 1) (j + 1) (min l (min a o) + 1) := by
  refine ⟨by have := hl.1; have := ha.1; have := ho.1; omega, fun k hk => ?_⟩
  rw [P_ne hx hy h hs]
  cases k with
  | zero => have := hl.1; have := ha.1; have := ho.1; omega
  | succ k =>
    have e1 := hl.2 k (by unfold pot at *; omega)
    have e2 := ha.2 k (by unfold pot at *; omega)
    have e3 := ho.2 k (by unfold pot at *; omega)
    omega
theorem Cell.swp {m d i j x y : Nat} {l a o t : Int} (hx : A[i]? = some x) (hy : B[j]? = some y) (h : x ≠ y) (hs : Sw sw A B i j x y) (hl : Cell sw A B m d i j l) (ha : Cell sw A B m d (i + 1) j a) (ho : Cell sw A B m d i (j + 1) o)
    (ht : Cell sw A B m d (i - 1) (j - 1) t) : Cell sw A B m d (i + 1) (j + 1) (min (min l (min a o) + 1) (t + 1)) := by
  refine ⟨by have := hl.1; have := ha.1; have := ho.1; have := ht.1; omega, fun k hk => ?_⟩
  rw [P_sw hx hy h hs]
  have hi := hs.2.1
  have hj := hs.2.2.1
  cases k with
  | zero => have := hl.1; have := ha.1; have := ho.1; have := ht.1; omega
  | succ k =>
    have e1 := hl.2 k (by unfold pot at *; omega)
    have e2 := ha.2 k (by unfold pot at *; omega)
    have e3 := ho.2 k (by unfold pot at *; omega)
    have e4 := ht.2 k (by unfold pot at *; omega)
    omega
/-- at the band's left end: the cell above is not asked, a stray 1 does no harm -/
theorem Cell.ne0 {m d i j x y : Nat} {l o : Int} (hx : A[i]? = some x) (hy : B[j]? = some y) (h : x ≠ y) (hj : j = 0) (hl : Cell sw A B m d i j l) (ho : Cell sw A B m d i (j + 1) o) :
    Cell sw A B m d (i + 1) (j + 1) (min l o + 1) := by
  subst hj
  have hi : i < A.length := (List.getElem?_eq_some_iff.mp hx).1
  refine ⟨by have := hl.1; have := ho.1; omega, fun k hk => ?_⟩
  rw [P_ne hx hy h (fun hs => absurd hs.2.2.1 (Nat.lt_irrefl _)), P_top (sw := sw) (B := B) (i + 1) hi, P_top (sw := sw) (B := B) i (Nat.le_of_lt hi)]
  cases k with
  | zero => have := hl.1; have := ho.1; omega
  | succ k =>
    have e1 := hl.2 k (by unfold pot at *; omega)
    have e3 := ho.2 k (by unfold pot at *; omega)
    rw [P_top (sw := sw) (B := B) i (Nat.le_of_lt hi)] at e1
    omega
theorem Cell.edge {m d i j : Nat} {v : Int} (hv : 1 ≤ v) (hP : 0 < P sw A B i j) (hm : m ≤ pot d i j) : Cell sw A B m d i j v :=
  ⟨by omega, fun k hk => by omega⟩
end
end Mine

/-! Math3 -/
namespace Mine

/-- the rest's distance -/
def R (sw : Bool) (a b : List Nat) (i j : Nat) : Nat := dist sw (a.drop i) (b.drop j)
section
variable {sw : Bool} {a b : List Nat} {i j : Nat}
theorem drop_cons {l : List Nat} {i x : Nat} (h : l[i]? = some x) : l.drop i = x :: l.drop (i + 1) := by
  obtain ⟨h1, h2⟩ := List.getElem?_eq_some_iff.mp h
  rw [List.drop_eq_getElem_cons h1, h2]
theorem R_zero : R sw a b 0 0 = dist sw a b := rfl
theorem R_trim {x : Nat} (h1 : a[i]? = some x) (h2 : b[j]? = some x) : R sw a b i j = R sw a b (i + 1) (j + 1) := by
  unfold R; rw [drop_cons h1, drop_cons h2, dist_eq]
theorem R_del (h : i < a.length) : R sw a b i j ≤ R sw a b (i + 1) j + 1 := by
  unfold R; rw [drop_cons (List.getElem?_eq_getElem h)]; exact dist_le (.del (dist_ed _ _))
theorem R_ins (h : j < b.length) : R sw a b i j ≤ R sw a b i (j + 1) + 1 := by
  unfold R; rw [drop_cons (List.getElem?_eq_getElem h)]; exact dist_le (.ins (dist_ed _ _))
theorem R_sub (h : i < a.length) (h' : j < b.length) : R sw a b i j ≤ R sw a b (i + 1) (j + 1) + 1 := by
  unfold R; rw [drop_cons (List.getElem?_eq_getElem h), drop_cons (List.getElem?_eq_getElem h')]; exact dist_le (.sub (dist_ed _ _))
theorem R_swap {x y : Nat} (hs : sw = true) (h1 : a[i]? = some x) (h2 : a[i + 1]? = some y) (h3 : b[j]? = some y) (h4 : b[j + 1]? = some x) : R sw a b i j ≤ R sw a b (i + 2) (j + 2) + 1 := by
  unfold R; rw [drop_cons h1, drop_cons h2, drop_cons h3, drop_cons h4]; exact dist_le (.swap hs (dist_ed _ _))
theorem R_len : a.length - i ≤ (b.length - j) + R sw a b i j ∧ b.length - j ≤ (a.length - i) + R sw a b i j := by
  have := dist_len (sw := sw) (a.drop i) (b.drop j)
  simp only [List.length_drop] at this
  exact this
/-- the law's steps -/
def steps (sw : Bool) : List (Nat × Nat) := if sw then [(1, 0), (0, 1), (1, 1), (2, 2)] else [(1, 0), (0, 1), (1, 1)]
theorem steps_mem : (1, 0) ∈ steps sw ∧ (0, 1) ∈ steps sw ∧ (1, 1) ∈ steps sw := by cases sw <;> simp [steps]
/-- no equal heads stand here -/
def Apart (a b : List Nat) (i j : Nat) : Prop := ∀ x y, a[i]? = some x → b[j]? = some y → x ≠ y
theorem R_ends (hi : i ≤ a.length) (hj : j ≤ b.length) (hd : Apart a b i j) (h : R sw a b i j = 0) : i = a.length ∧ j = b.length := by
  have e : a.drop i = b.drop j := dist_zero.mp h
  have hl := congrArg List.length e
  simp only [List.length_drop] at hl
  by_cases h1 : i < a.length
  · have h2 : j < b.length := by omega
    exfalso
    rw [drop_cons (List.getElem?_eq_getElem h1), drop_cons (List.getElem?_eq_getElem h2)] at e
    exact hd _ _ (List.getElem?_eq_getElem h1) (List.getElem?_eq_getElem h2) (List.cons.inj e).1
  · omega
theorem R_best (hi : i ≤ a.length) (hj : j ≤ b.length) (hd : Apart a b i j) (h : R sw a b i j ≠ 0) :
    ∃ d r, (d, r) ∈ steps sw ∧ i + d ≤ a.length ∧ j + r ≤ b.length ∧ R sw a b (i + d) (j + r) + 1 = R sw a b i j ∧ (d = 2 → sw = true ∧ r = 2 ∧ a[i]? = b[j + 1]? ∧ a[i + 1]? = b[j]?) := by
  obtain ⟨m1, m2, m3⟩ := steps_mem (sw := sw)
  by_cases h1 : i < a.length
  · by_cases h2 : j < b.length
    · have g1 := List.getElem?_eq_getElem h1
      have g2 := List.getElem?_eq_getElem h2
      have hne := hd _ _ g1 g2
      have e := dist_ne (sw := sw) hne (a.drop (i + 1)) (b.drop (j + 1))
      rw [← drop_cons g1, ← drop_cons g2] at e
      have e0 : R sw a b i j = dist sw (a.drop i) (b.drop j) := rfl
      have e1 : R sw a b (i + 1) (j + 1) = dist sw (a.drop (i + 1)) (b.drop (j + 1)) := rfl
      have e2 : R sw a b (i + 1) j = dist sw (a.drop (i + 1)) (b.drop j) := rfl
      have e3 : R sw a b i (j + 1) = dist sw (a.drop i) (b.drop (j + 1)) := rfl
      have three : R sw a b i j = min (R sw a b (i + 1) (j + 1)) (min (R sw a b i (j + 1)) (R sw a b (i + 1) j)) + 1 → ∃ d r, (d, r) ∈ steps sw ∧ i + d ≤ a.length ∧ j + r ≤ b.length ∧ R sw a b (i + d) (j + r) + 1 = R sw a b i j ∧ (d = 2 → sw = true ∧ r = 2 ∧ a[i]? = b[j + 1]? ∧ a[i + 1]? = b[j]?) := fun hm => by
        by_cases c1 : R sw a b (i + 1) (j + 1) + 1 = R sw a b i j
        · exact ⟨1, 1, m3, h1, h2, c1, fun h => absurd h (by omega)⟩
        · by_cases c2 : R sw a b (i + 1) j + 1 = R sw a b i j
          · exact ⟨1, 0, m1, h1, hj, c2, fun h => absurd h (by omega)⟩
          · exact ⟨0, 1, m2, hi, h2, by show R sw a b i (j + 1) + 1 = _; omega, fun h => absurd h (by omega)⟩
      cases hs : swapTo sw a[i] b[j] (a.drop (i + 1)) (b.drop (j + 1)) with
      | none =>
        rw [hs] at e
        exact three (by rw [e0, e1, e2, e3]; exact e)
      | some q =>
        obtain ⟨a', b'⟩ := q
        rw [hs] at e
        obtain ⟨s1, s2, s3⟩ := swapTo_some hs
        have g3 : a[i + 1]? = some b[j] := by
          have := congrArg (fun l => l[0]?) s2
          simpa [List.getElem?_drop] using this
        have g4 : b[j + 1]? = some a[i] := by
          have := congrArg (fun l => l[0]?) s3
          simpa [List.getElem?_drop] using this
        have s2' := drop_cons g3
        have s3' := drop_cons g4
        rw [s2'] at s2
        rw [s3'] at s3
        have ea := (List.cons.inj s2).2
        have eb := (List.cons.inj s3).2
        have e4 : R sw a b (i + 2) (j + 2) = dist sw a' b' := by rw [← ea, ← eb]; rfl
        have hle := R_swap s1 g1 g3 g2 g4
        by_cases c : R sw a b (i + 2) (j + 2) + 1 = R sw a b i j
        · have l1 := (List.getElem?_eq_some_iff.mp g3).1
          have l2 := (List.getElem?_eq_some_iff.mp g4).1
          exact ⟨2, 2, by rw [s1]; simp [steps], l1, l2, c, fun _ => ⟨s1, rfl, by rw [g1, g4], by rw [g3, g2]⟩⟩
        · refine three ?_
          have e' : dist sw (a.drop i) (b.drop j) = min (min (dist sw (a.drop (i + 1)) (b.drop (j + 1))) (min (dist sw (a.drop i) (b.drop (j + 1))) (dist sw (a.drop (i + 1)) (b.drop j))) + 1) (dist sw a' b' + 1) := e
          omega
    · have ej : j = b.length := by omega
      subst ej
      have e1 : R sw a b i b.length = a.length - i := by unfold R; rw [List.drop_length, dist_nil_right]; simp
      have e2 : R sw a b (i + 1) b.length = a.length - (i + 1) := by unfold R; rw [List.drop_length, dist_nil_right]; simp
      exact ⟨1, 0, m1, h1, Nat.le_refl _, by show R sw a b (i + 1) b.length + 1 = _; omega, fun h => absurd h (by omega)⟩
  · have ei : i = a.length := by omega
    subst ei
    have e1 : R sw a b a.length j = b.length - j := by unfold R; rw [List.drop_length, dist_nil_left]; simp
    have e2 : R sw a b a.length (j + 1) = b.length - (j + 1) := by unfold R; rw [List.drop_length, dist_nil_left]; simp
    have h2 : j < b.length := by omega
    exact ⟨0, 1, m2, Nat.le_refl _, h2, by show R sw a b a.length (j + 1) + 1 = _; omega, fun h => absurd h (by omega)⟩
/-- each of the law's steps is an edit -/
theorem R_step {d r : Nat} (hm : (d, r) ∈ steps sw) (h1 : i + d ≤ a.length) (h2 : j + r ≤ b.length) (h3 : d = 2 → a[i]? = b[j + 1]? ∧ a[i + 1]? = b[j]?) : R sw a b i j ≤ R sw a b (i + d) (j + r) + 1 := by
  have hc : (d = 1 ∧ r = 0) ∨ (d = 0 ∧ r = 1) ∨ (d = 1 ∧ r = 1) ∨ (sw = true ∧ d = 2 ∧ r = 2) := by
    cases sw with
    | false => simp [steps] at hm; omega
    | true => simp [steps] at hm; rcases hm with h | h | h | h <;> simp [h]
  rcases hc with ⟨rfl, rfl⟩ | ⟨rfl, rfl⟩ | ⟨rfl, rfl⟩ | ⟨hs, rfl, rfl⟩
  · exact R_del h1
  · exact R_ins h2
  · exact R_sub h1 h2
  · obtain ⟨q1, q2⟩ := h3 rfl
    have g1 := List.getElem?_eq_getElem (show i < a.length by omega)
    have g2 := List.getElem?_eq_getElem (show i + 1 < a.length by omega)
    exact R_swap hs g1 g2 (by rw [← q2, g2]) (by rw [← q1, g1])
end
end Mine

open PySem PySem.W PyProof.Rows

/-! Set1 -/
namespace Mine
open SetTable

/-! a set's table, without the program -/
def Srt (xs : Array Nat) : Prop := ∀ i k, i < k → k < xs.size → xs.getD i 0 < xs.getD k 0

theorem below_go (xs : Array Nat) (j : Nat) : ∀ (fuel lo hi : Nat), lo ≤ hi → hi ≤ xs.size → hi - lo ≤ fuel → Srt xs → (∀ i, i < lo → xs.getD i 0 < j) → (∀ i, hi ≤ i → i < xs.size → j ≤ xs.getD i 0) →
    lo ≤ below.go xs j fuel lo hi ∧ below.go xs j fuel lo hi ≤ hi ∧ (∀ i, i < below.go xs j fuel lo hi → xs.getD i 0 < j) ∧ (∀ i, below.go xs j fuel lo hi ≤ i → i < xs.size → j ≤ xs.getD i 0) := by
  intro fuel
  induction fuel with
  | zero =>
    intro lo hi h1 h2 h3 _ h5 h6
    have e : hi = lo := by omega
    subst e
    exact ⟨Nat.le_refl _, Nat.le_refl _, h5, h6⟩
  | succ fuel ih =>
    intro lo hi h1 h2 h3 h4 h5 h6
    unfold below.go
    by_cases hlt : lo < hi
    · rw [if_pos hlt]
      dsimp only
      have hmid : xs.getD ((lo + hi) / 2) j = xs.getD ((lo + hi) / 2) 0 := by
        rw [Array.getD_eq_getD_getElem?, Array.getD_eq_getD_getElem?, Array.getElem?_eq_getElem (show (lo + hi) / 2 < xs.size by omega)]; rfl
      rw [hmid]
      by_cases hm : xs.getD ((lo + hi) / 2) 0 < j
      · rw [if_pos hm]
        obtain ⟨a, b, c, d⟩ := ih ((lo + hi) / 2 + 1) hi (by omega) h2 (by omega) h4 (fun i hi' => by
          by_cases e : i = (lo + hi) / 2
          · rw [e]; exact hm
          · have := h4 i ((lo + hi) / 2) (by omega) (by omega); omega) h6
        exact ⟨by omega, b, c, d⟩
      · rw [if_neg hm]
        obtain ⟨a, b, c, d⟩ := ih lo ((lo + hi) / 2) (by omega) (by omega) (by omega) h4 h5 (fun i hi' hs => by
          by_cases e : i = (lo + hi) / 2
          · rw [e]; omega
          · have := h4 ((lo + hi) / 2) i (by omega) hs; omega)
        exact ⟨a, by omega, c, d⟩
    · rw [if_neg hlt]
      have e : hi = lo := by omega
      subst e
      exact ⟨Nat.le_refl _, Nat.le_refl _, h5, h6⟩
theorem below_spec {xs : Array Nat} (h : Srt xs) (j : Nat) : below xs j ≤ xs.size ∧ (∀ i, i < below xs j → xs.getD i 0 < j) ∧ (∀ i, below xs j ≤ i → i < xs.size → j ≤ xs.getD i 0) := by
  have := below_go xs j xs.size 0 xs.size (Nat.zero_le _) (Nat.le_refl _) (by omega) h (fun i hi => absurd hi (Nat.not_lt_zero _)) (fun i h1 h2 => absurd h2 (Nat.not_lt.mpr h1))
  exact ⟨this.2.1, this.2.2⟩

theorem getD_of {xs : Array Nat} {i j : Nat} (h : xs[i]? = some j) : i < xs.size ∧ xs.getD i 0 = j := by
  obtain ⟨h1, h2⟩ := Array.getElem?_eq_some_iff.mp h
  exact ⟨h1, by rw [Array.getD_eq_getD_getElem?, h]; rfl⟩
theorem of_getD {xs : Array Nat} {i j : Nat} (h : i < xs.size) (e : xs.getD i 0 = j) : xs[i]? = some j := by
  rw [Array.getElem?_eq_getElem h]
  rw [Array.getD_eq_getD_getElem?, Array.getElem?_eq_getElem h] at e
  exact congrArg some e

/-- a table without dummies, sorted -/
structure Plain (t : SetTable) : Prop where
  srt : Srt t.place
  nod : t.dummies = #[]
theorem slot_live {t : SetTable} (P : Plain t) {i j : Nat} (h : t.place[i]? = some j) : t.slot j = .live i := by
  obtain ⟨h1, h2⟩ := getD_of h
  obtain ⟨b1, b2, b3⟩ := below_spec P.srt j
  have e : below t.place j = i := by
    by_cases c : below t.place j ≤ i
    · by_cases c2 : below t.place j = i
      · exact c2
      · have := b3 (below t.place j) (Nat.le_refl _) (by omega)
        have := P.srt (below t.place j) i (by omega) h1
        omega
    · have := b2 i (by omega); omega
  unfold SetTable.slot
  simp only [e, h, beq_self_eq_true, if_true]
theorem slot_empty {t : SetTable} (P : Plain t) {j : Nat} (h : ∀ i : Nat, t.place[i]? ≠ some j) : t.slot j = .empty := by
  unfold SetTable.slot
  have h1 : (t.place[below t.place j]? == some j) = false := by
    rw [← Bool.not_eq_true, beq_iff_eq]; exact h _
  have h2 : has t.dummies j = false := by rw [P.nod]; rfl
  simp only [h1, h2, Bool.false_eq_true, if_false]
/-- what lies at a slot -/
def view (t : SetTable) (es : Array (Int × Value)) (j : Nat) : Option (Int × Value) := match t.slot j with | .live i => es[i]? | _ => none
theorem slot_cases {t : SetTable} (P : Plain t) (j : Nat) : (∃ i : Nat, t.place[i]? = some j ∧ t.slot j = .live i) ∨ ((∀ i : Nat, t.place[i]? ≠ some j) ∧ t.slot j = .empty) := by
  by_cases h : ∃ i : Nat, t.place[i]? = some j
  · obtain ⟨i, hi⟩ := h; exact .inl ⟨i, hi, slot_live P hi⟩
  · exact .inr ⟨fun i hi => h ⟨i, hi⟩, slot_empty P fun i hi => h ⟨i, hi⟩⟩

/-! the runs of the search -/
def runAt (mask : Nat) (h : Int) : Nat → Nat × Nat
  | 0 => (bits h % (mask + 1), bits h)
  | r + 1 => leap mask (runAt mask h r).1 (runAt mask h r).2
/-- the starts of the runs, as one number -/
def cover (mask : Nat) : Nat → Nat → Nat → Nat → Nat
  | 0, _, _, acc => acc
  | n + 1, i, p, acc => cover mask n (leap mask i p).1 (leap mask i p).2 (acc ||| (1 <<< i))
def covers (mask : Nat) (h : Int) : Bool := cover mask (turns mask) (bits h % (mask + 1)) (bits h) 0 == 2 ^ (mask + 1) - 1
theorem cover_bit (mask : Nat) (h : Int) (j : Nat) : ∀ (n r acc : Nat), (cover mask n (runAt mask h r).1 (runAt mask h r).2 acc).testBit j = true → acc.testBit j = true ∨ ∃ q, r ≤ q ∧ q < r + n ∧ (runAt mask h q).1 = j := by
  intro n
  induction n with
  | zero => intro r acc hb; exact .inl hb
  | succ n ih =>
    intro r acc hb
    rcases ih (r + 1) _ hb with h1 | ⟨q, q1, q2, q3⟩
    · rw [Nat.testBit_or] at h1
      rcases Bool.or_eq_true_iff.mp h1 with h2 | h2
      · exact .inl h2
      · right
        refine ⟨r, Nat.le_refl _, by omega, ?_⟩
        rw [Nat.one_shiftLeft, Nat.testBit_two_pow] at h2
        simpa using h2
    · exact .inr ⟨q, by omega, by omega, q3⟩
theorem covers_run {mask : Nat} {h : Int} (hc : covers mask h = true) {j : Nat} (hj : j ≤ mask) : ∃ r, r < turns mask ∧ (runAt mask h r).1 = j := by
  unfold covers at hc
  have e := beq_iff_eq.mp hc
  have hb : (cover mask (turns mask) (runAt mask h 0).1 (runAt mask h 0).2 0).testBit j = true := by
    show (cover mask (turns mask) (bits h % (mask + 1)) (bits h) 0).testBit j = true
    rw [e, Nat.testBit_two_pow_sub_one]
    simpa using Nat.lt_succ_of_le hj
  rcases cover_bit mask h j (turns mask) 0 0 hb with h1 | ⟨q, _, q2, q3⟩
  · simp at h1
  · exact ⟨q, by omega, q3⟩
end Mine

/-! Set2 -/
namespace Mine
open SetTable

theorem least {p : Nat → Prop} : ∀ n, p n → ∃ m, m ≤ n ∧ p m ∧ ∀ q, q < m → ¬ p q := by
  intro n
  induction n using Nat.strongRecOn with
  | ind n ih =>
    intro hn
    by_cases h : ∃ q, q < n ∧ p q
    · obtain ⟨q, h1, h2⟩ := h
      obtain ⟨m, a, b, c⟩ := ih q h1 h2
      exact ⟨m, by omega, b, c⟩
    · exact ⟨n, Nat.le_refl _, hn, fun q hq hp => h ⟨q, hq, hp⟩⟩
/-- how far a run goes -/
def rlen (mask : Nat) (h : Int) (r : Nat) : Nat := runEnd mask (runAt mask h r).1 - (runAt mask h r).1
/-- the k-th slot of the r-th run -/
def spot (mask : Nat) (h : Int) (r k : Nat) : Nat := (runAt mask h r).1 + k
def prb (mask : Nat) (h : Int) (r k : Nat) : Probe := { j := spot mask h r k, more := rlen mask h r - k, i := (runAt mask h r).1, perturb := (runAt mask h r).2, dummy := none }
theorem rlen_le (mask : Nat) (h : Int) (r : Nat) : rlen mask h r ≤ 9 := by unfold rlen runEnd; split <;> omega
theorem runEnd_le (mask i : Nat) (hi : i ≤ mask) : runEnd mask i ≤ mask := by unfold runEnd; split <;> omega
theorem runEnd_ge (mask i : Nat) : i ≤ runEnd mask i := by unfold runEnd; split <;> omega
theorem runAt_le (mask : Nat) (h : Int) (r : Nat) : (runAt mask h r).1 ≤ mask := by
  cases r with
  | zero => exact Nat.le_of_lt_succ (Nat.mod_lt _ (Nat.succ_pos _))
  | succ r => exact Nat.le_of_lt_succ (Nat.mod_lt _ (Nat.succ_pos _))
theorem spot_le {mask : Nat} {h : Int} {r k : Nat} (hk : k ≤ rlen mask h r) : spot mask h r k ≤ mask := by
  have h1 := runEnd_le mask _ (runAt_le mask h r)
  have h2 := runEnd_ge mask (runAt mask h r).1
  unfold spot; unfold rlen at hk; omega

theorem adv_in {t : SetTable} {h : Int} {r k : Nat} (hk : k < rlen t.mask h r) : t.advance (prb t.mask h r k) = prb t.mask h r (k + 1) := by
  unfold advance prb
  rw [if_pos (show rlen t.mask h r - k > 0 by omega)]
  dsimp only
  rw [show spot t.mask h r k + 1 = spot t.mask h r (k + 1) by unfold spot; omega, show rlen t.mask h r - k - 1 = rlen t.mask h r - (k + 1) by omega]
theorem adv_end {t : SetTable} {h : Int} {r : Nat} : t.advance (prb t.mask h r (rlen t.mask h r)) = prb t.mask h (r + 1) 0 := by
  unfold advance prb
  rw [if_neg (show ¬ rlen t.mask h r - rlen t.mask h r > 0 by omega)]
  rfl

section
variable {t : SetTable} {at_ : Nat → Int} {h : Int}
/-- the search goes past this slot -/
def Pass (t : SetTable) (at_ : Nat → Int) (h : Int) (r k : Nat) : Prop := ∃ i, t.slot (spot t.mask h r k) = .live i ∧ (at_ i == h) = false
theorem go_pass {r k : Nat} {fuel : Nat} (p : Pass t at_ h r k) : probe.go t at_ h (fuel + 1) (prb t.mask h r k) = probe.go t at_ h fuel (t.advance (prb t.mask h r k)) := by
  obtain ⟨i, h1, h2⟩ := p
  rw [probe.go]
  have e : (prb t.mask h r k).j = spot t.mask h r k := rfl
  rw [e, h1]
  dsimp only
  rw [h2]
  rfl
theorem go_run {r : Nat} : ∀ (k : Nat) (fuel : Nat), k ≤ rlen t.mask h r → (∀ q, q < k → Pass t at_ h r q) → probe.go t at_ h (fuel + k) (prb t.mask h r 0) = probe.go t at_ h fuel (prb t.mask h r k) := by
  intro k
  induction k with
  | zero => intro fuel _ _; rfl
  | succ k ih =>
    intro fuel hk hp
    rw [show fuel + (k + 1) = (fuel + 1) + k by omega, ih (fuel + 1) (by omega) (fun q hq => hp q (by omega)), go_pass (hp k (by omega)), adv_in (by omega)]
theorem go_runs : ∀ (r : Nat) (fuel : Nat), 10 * r ≤ fuel → (∀ q, q < r → ∀ k, k ≤ rlen t.mask h q → Pass t at_ h q k) → ∃ f', fuel - 10 * r ≤ f' ∧ probe.go t at_ h fuel (prb t.mask h 0 0) = probe.go t at_ h f' (prb t.mask h r 0) := by
  intro r
  induction r with
  | zero => intro fuel _ _; exact ⟨fuel, by omega, rfl⟩
  | succ r ih =>
    intro fuel hf hp
    obtain ⟨f', h1, h2⟩ := ih fuel (by omega) (fun q hq => hp q (by omega))
    have hl := rlen_le t.mask h r
    obtain ⟨g, rfl⟩ : ∃ g, f' = (g + 1) + rlen t.mask h r := ⟨f' - (rlen t.mask h r + 1), by omega⟩
    refine ⟨g, by omega, ?_⟩
    rw [h2, go_run (rlen t.mask h r) _ (Nat.le_refl _) (fun q hq => hp r (by omega) q (by omega)), go_pass (hp r (by omega) _ (Nat.le_refl _)), adv_end]
/-- the search stops first here -/
structure First (t : SetTable) (at_ : Nat → Int) (h : Int) (r k : Nat) : Prop where
  rt : r < turns t.mask
  kr : k ≤ rlen t.mask h r
  runs : ∀ q, q < r → ∀ k, k ≤ rlen t.mask h q → Pass t at_ h q k
  run : ∀ q, q < k → Pass t at_ h r q
theorem start_prb : t.probeStart h = prb t.mask h 0 0 := by
  unfold probeStart prb
  rfl
theorem First.empty {r k : Nat} (F : First t at_ h r k) (he : t.slot (spot t.mask h r k) = .empty) : t.probe at_ h (t.probeStart h) = some (.empty (spot t.mask h r k) none) := by
  have hl := rlen_le t.mask h r
  have hk := F.kr
  have hrt := F.rt
  obtain ⟨f', h1, h2⟩ := go_runs r (10 * turns t.mask) (by omega) F.runs
  unfold probe
  rw [start_prb, h2]
  have e : f' = (f' - k - 1 + 1) + k := by omega
  rw [e, go_run k _ F.kr F.run, probe.go]
  have ej : (prb t.mask h r k).j = spot t.mask h r k := rfl
  rw [ej, he]
  rfl
theorem First.live {r k i : Nat} (F : First t at_ h r k) (he : t.slot (spot t.mask h r k) = .live i) (hh : (at_ i == h) = true) : ∃ nx, t.probe at_ h (t.probeStart h) = some (.candidate (spot t.mask h r k) i nx) := by
  have hl := rlen_le t.mask h r
  have hk := F.kr
  have hrt := F.rt
  obtain ⟨f', h1, h2⟩ := go_runs r (10 * turns t.mask) (by omega) F.runs
  unfold probe
  rw [start_prb, h2]
  have e : f' = (f' - k - 1 + 1) + k := by omega
  rw [e, go_run k _ F.kr F.run, probe.go]
  have ej : (prb t.mask h r k).j = spot t.mask h r k := rfl
  rw [ej, he]
  dsimp only
  rw [hh]
  exact ⟨_, rfl⟩
theorem first_of {r k : Nat} (hr : r < turns t.mask) (hk : k ≤ rlen t.mask h r) (hn : ¬ Pass t at_ h r k) : ∃ r' k', First t at_ h r' k' ∧ ¬ Pass t at_ h r' k' ∧ (r' < r ∨ (r' = r ∧ k' ≤ k)) := by
  obtain ⟨r', h1, h2, hmin⟩ := least (p := fun r => ∃ k, k ≤ rlen t.mask h r ∧ ¬ Pass t at_ h r k) r ⟨k, hk, hn⟩
  obtain ⟨kk, hk1, hk2⟩ := h2
  obtain ⟨k', q1, q2, qmin⟩ := least (p := fun k => ¬ Pass t at_ h r' k) kk hk2
  refine ⟨r', k', ⟨by omega, by omega, fun q hq k0 hk0 => Classical.byContradiction fun c => hmin q hq ⟨k0, hk0, c⟩, fun q hq => Classical.byContradiction fun c => qmin q hq c⟩, q2, ?_⟩
  by_cases e : r' = r
  · right
    refine ⟨e, ?_⟩
    subst e
    exact Classical.byContradiction fun c => qmin k (by omega) hn
  · left; omega
end
end Mine

/-! Set3 -/
namespace Mine
open SetTable

theorem free_slot {xs : Array Nat} (S : Srt xs) {m : Nat} (hsz : xs.size ≤ m) : ∃ j, j ≤ m ∧ ∀ i : Nat, xs[i]? ≠ some j := by
  refine Classical.byContradiction fun c => ?_
  have all : ∀ j, j ≤ m → ∃ i : Nat, xs[i]? = some j := fun j hj => Classical.byContradiction fun h => c ⟨j, hj, fun i hi => h ⟨i, hi⟩⟩
  have key : ∀ j, j ≤ m → ∃ i : Nat, j ≤ i ∧ xs[i]? = some j := by
    intro j
    induction j with
    | zero => intro hj; obtain ⟨i, hi⟩ := all 0 hj; exact ⟨i, Nat.zero_le _, hi⟩
    | succ j ih =>
      intro hj
      obtain ⟨i, h1, h2⟩ := ih (by omega)
      obtain ⟨i', h3⟩ := all (j + 1) hj
      obtain ⟨s1, g1⟩ := getD_of h2
      obtain ⟨s2, g2⟩ := getD_of h3
      refine ⟨i', ?_, h3⟩
      refine Classical.byContradiction fun hn => ?_
      by_cases e : i' = i
      · rw [e] at g2; omega
      · have := S i' i (by omega) s1; omega
  obtain ⟨i, h1, h2⟩ := key m (Nat.le_refl _)
  have := (getD_of h2).1
  omega

/-- a table that fits its entries, each within reach of its own search -/
structure TabOk (t : SetTable) (es : Array (Int × Value)) : Prop where
  plain : Plain t
  size : t.place.size = es.size
  le : ∀ (i : Nat) j, t.place[i]? = some j → j ≤ t.mask
  room : es.size ≤ t.mask
  uniq : ∀ (i i' : Nat) e e', es[i]? = some e → es[i']? = some e' → e.1 = e'.1 → i = i'
  reach : ∀ (i : Nat) e, es[i]? = some e → ∃ r k, r < turns t.mask ∧ k ≤ rlen t.mask e.1 r ∧ t.place[i]? = some (spot t.mask e.1 r k) ∧
    (∀ q, q < r → ∀ k', k' ≤ rlen t.mask e.1 q → t.slot (spot t.mask e.1 q k') ≠ .empty) ∧ (∀ k', k' < k → t.slot (spot t.mask e.1 r k') ≠ .empty)

section
variable {t : SetTable} {es : Array (Int × Value)} {at_ : Nat → Int} {h : Int}
theorem TabOk.entry (T : TabOk t es) {i j : Nat} (hp : t.place[i]? = some j) : ∃ e, es[i]? = some e := by
  have h1 := (getD_of hp).1
  exact ⟨_, Array.getElem?_eq_getElem (by rw [← T.size]; exact h1)⟩
/-- an entry is found -/
theorem TabOk.find_in (T : TabOk t es) (ha : ∀ (i : Nat) e, es[i]? = some e → at_ i = e.1) {i : Nat} {e : Int × Value} (he : es[i]? = some e) :
    ∃ j nx, t.probe at_ e.1 (t.probeStart e.1) = some (.candidate j i nx) ∧ t.slot j = .live i := by
  obtain ⟨r, k, hr, hk, hp, h1, h2⟩ := T.reach i e he
  have hl := slot_live T.plain hp
  have hai : (at_ i == e.1) = true := by rw [ha i e he]; exact beq_self_eq_true _
  have hn : ¬ Pass t at_ e.1 r k := by
    rintro ⟨i', a, b⟩
    rw [hl] at a; cases a
    rw [hai] at b; cases b
  obtain ⟨r', k', F, hn', hlt⟩ := first_of hr hk hn
  rcases slot_cases T.plain (spot t.mask e.1 r' k') with ⟨i', p1, p2⟩ | ⟨_, p2⟩
  · obtain ⟨e', he'⟩ := T.entry p1
    have hh : (at_ i' == e.1) = true := Classical.byContradiction fun c => hn' ⟨i', p2, by simpa using c⟩
    have hee : e'.1 = e.1 := by rw [← ha i' e' he']; exact beq_iff_eq.mp hh
    have hii := T.uniq i' i e' e he' he hee
    subst hii
    obtain ⟨nx, hx⟩ := F.live p2 hh
    exact ⟨_, nx, hx, p2⟩
  · exfalso
    rcases hlt with h3 | ⟨h3, h4⟩
    · exact h1 r' h3 k' F.kr p2
    · subst h3
      by_cases h5 : k' = k
      · subst h5; rw [hl] at p2; cases p2
      · exact h2 k' (by omega) p2
/-- a key that isn't there: the search ends at an empty slot -/
theorem TabOk.find_out (T : TabOk t es) (ha : ∀ (i : Nat) e, es[i]? = some e → at_ i = e.1) (hc : covers t.mask h = true) (hno : ∀ (i : Nat) e, es[i]? = some e → e.1 ≠ h) :
    ∃ r k, First t at_ h r k ∧ t.slot (spot t.mask h r k) = .empty ∧ t.probe at_ h (t.probeStart h) = some (.empty (spot t.mask h r k) none) := by
  obtain ⟨j, hj, hfree⟩ := free_slot T.plain.srt (m := t.mask) (by rw [T.size]; exact T.room)
  obtain ⟨r, hr, hrj⟩ := covers_run hc hj
  have hs : spot t.mask h r 0 = j := by unfold spot; omega
  have hn : ¬ Pass t at_ h r 0 := by
    rintro ⟨i, a, _⟩
    rw [hs, slot_empty T.plain hfree] at a; cases a
  obtain ⟨r', k', F, hn', _⟩ := first_of hr (Nat.zero_le _) hn
  rcases slot_cases T.plain (spot t.mask h r' k') with ⟨i', p1, p2⟩ | ⟨_, p2⟩
  · exfalso
    obtain ⟨e', he'⟩ := T.entry p1
    have hh : (at_ i' == h) = true := Classical.byContradiction fun c => hn' ⟨i', p2, by simpa using c⟩
    exact hno i' e' he' (by rw [← ha i' e' he']; exact beq_iff_eq.mp hh)
  · exact ⟨r', k', F, p2, F.empty p2⟩
end

theorem insertAt_list {α : Type} (xs : Array α) (p : Nat) (x : α) : (insertAt xs p x).toList = xs.toList.take p ++ x :: xs.toList.drop p := by
  unfold insertAt
  simp
  exact List.take_of_length_le (by simp)
theorem insertAt_get {α : Type} (xs : Array α) {p : Nat} (hp : p ≤ xs.size) (x : α) (i : Nat) : (insertAt xs p x)[i]? = if i < p then xs[i]? else if i = p then some x else xs[i - 1]? := by
  rw [← Array.getElem?_toList, insertAt_list]
  have hl : (xs.toList.take p).length = p := by simp [hp]
  by_cases h1 : i < p
  · rw [if_pos h1, List.getElem?_append_left (by omega), List.getElem?_take, if_pos h1]; simp
  · rw [if_neg h1, List.getElem?_append_right (by omega), hl]
    by_cases h2 : i = p
    · rw [if_pos h2, h2]; simp
    · rw [if_neg h2]
      obtain ⟨q, hq⟩ : ∃ q, i - p = q + 1 := ⟨i - p - 1, by omega⟩
      rw [hq, List.getElem?_cons_succ, List.getElem?_drop]
      rw [show p + q = i - 1 by omega]; simp
end Mine

/-! Set4 -/
namespace Mine
open SetTable

theorem insertAt_size {α : Type} (xs : Array α) (p : Nat) (hp : p ≤ xs.size) (x : α) : (insertAt xs p x).size = xs.size + 1 := by
  rw [← Array.length_toList, insertAt_list]
  simp; omega
theorem insertAt_getD (xs : Array Nat) {p : Nat} (hp : p ≤ xs.size) (x : Nat) (i : Nat) : (insertAt xs p x).getD i 0 = if i < p then xs.getD i 0 else if i = p then x else xs.getD (i - 1) 0 := by
  simp only [Array.getD_eq_getD_getElem?, insertAt_get xs hp]
  split
  · rfl
  · split <;> rfl
/-- where an old place has gone -/
theorem insertAt_old {α : Type} (xs : Array α) {p : Nat} (hp : p ≤ xs.size) (x : α) {i : Nat} {y : α} (h : xs[i]? = some y) : (insertAt xs p x)[if i < p then i else i + 1]? = some y := by
  rw [insertAt_get xs hp]
  by_cases c : i < p
  · rw [if_pos c, if_pos c]; exact h
  · rw [if_neg c, if_neg (by omega), if_neg (by omega)]; exact h
/-- what lies there now was there, or is the new one -/
theorem insertAt_was {α : Type} (xs : Array α) {p : Nat} (hp : p ≤ xs.size) (x : α) {i : Nat} {y : α} (h : (insertAt xs p x)[i]? = some y) : (i = p ∧ y = x) ∨ ∃ i', xs[i']? = some y ∧ i = if i' < p then i' else i' + 1 := by
  rw [insertAt_get xs hp] at h
  by_cases c : i < p
  · rw [if_pos c] at h; exact .inr ⟨i, h, by rw [if_pos c]⟩
  · rw [if_neg c] at h
    by_cases c2 : i = p
    · rw [if_pos c2] at h; exact .inl ⟨c2, (Option.some.inj h).symm⟩
    · rw [if_neg c2] at h; exact .inr ⟨i - 1, h, by rw [if_neg (by omega)]; omega⟩

section
variable {t : SetTable} {es : Array (Int × Value)} {at_ : Nat → Int} {h : Int}
theorem put_eq (P : Plain t) (j : Nat) : t.put j = ({ t with place := insertAt t.place (below t.place j) j, dummies := #[] }, below t.place j) := by
  unfold SetTable.put
  have h2 : has (#[] : Array Nat) j = false := rfl
  simp only [P.nod, h2, Bool.false_eq_true, if_false]

theorem TabOk.put (T : TabOk t es) (hno : ∀ (i : Nat) e, es[i]? = some e → e.1 ≠ h) {r k : Nat} (F : First t at_ h r k) (hs : t.slot (spot t.mask h r k) = .empty) (x : Value) (hroom : es.size + 1 ≤ t.mask) :
    TabOk (t.put (spot t.mask h r k)).1 (insertAt es (t.put (spot t.mask h r k)).2 (h, x)) ∧ (t.put (spot t.mask h r k)).1.mask = t.mask := by
  have P := T.plain
  rw [put_eq P]
  dsimp only
  generalize hj : spot t.mask h r k = j at hs
  obtain ⟨b1, b2, b3⟩ := below_spec P.srt j
  generalize hp : below t.place j = p at b1 b2 b3
  have hnot : ∀ i : Nat, t.place[i]? ≠ some j := fun i hi => by rw [slot_live P hi] at hs; cases hs
  have hpe : p ≤ es.size := by rw [← T.size]; exact b1
  let t' : SetTable := { t with place := insertAt t.place p j, dummies := #[] }
  have P' : Plain t' := by
    refine ⟨fun i i' h1 h2 => ?_, rfl⟩
    have h2 : i' < t.place.size + 1 := by rw [← insertAt_size t.place p b1 j]; exact h2
    show (insertAt t.place p j).getD i 0 < (insertAt t.place p j).getD i' 0
    rw [insertAt_getD _ b1, insertAt_getD _ b1]
    have lo : ∀ q, q < p → t.place.getD q 0 < j := b2
    have hi : ∀ q, p ≤ q → q < t.place.size → j < t.place.getD q 0 := fun q q1 q2 => by
      have := b3 q q1 q2
      have hne : t.place.getD q 0 ≠ j := fun e => hnot q (of_getD q2 e)
      omega
    by_cases c1 : i < p
    · rw [if_pos c1]
      by_cases c2 : i' < p
      · rw [if_pos c2]; exact P.srt i i' h1 (by omega)
      · rw [if_neg c2]
        by_cases c3 : i' = p
        · rw [if_pos c3]; exact lo i c1
        · rw [if_neg c3]
          have := lo i c1
          have := hi (i' - 1) (by omega) (by omega)
          omega
    · rw [if_neg c1, if_neg (show ¬ i' < p by omega), if_neg (show ¬ i' = p by omega)]
      by_cases c3 : i = p
      · rw [if_pos c3]; exact hi (i' - 1) (by omega) (by omega)
      · rw [if_neg c3]; exact P.srt (i - 1) (i' - 1) (by omega) (by omega)
  have keep : ∀ q, t.slot q ≠ .empty → t'.slot q ≠ .empty := fun q hq => by
    rcases slot_cases P q with ⟨i, p1, p2⟩ | ⟨_, p2⟩
    · have := insertAt_old t.place b1 j p1
      rw [slot_live (t := t') P' this]
      exact fun e => nomatch e
    · exact absurd p2 hq
  have pass : ∀ {r k}, Pass t at_ h r k → t'.slot (spot t.mask h r k) ≠ .empty := fun hps => keep _ (by obtain ⟨i, a, _⟩ := hps; rw [a]; exact fun e => nomatch e)
  refine ⟨⟨P', ?_, ?_, ?_, ?_, ?_⟩, rfl⟩
  · rw [insertAt_size _ _ b1, insertAt_size _ _ hpe, T.size]
  · intro i q hq
    rcases insertAt_was _ b1 _ hq with ⟨_, rfl⟩ | ⟨i', h1, _⟩
    · rw [← hj]; exact spot_le F.kr
    · exact T.le i' q h1
  · rw [insertAt_size _ _ hpe]; exact hroom
  · intro i i' e e' h1 h2 h3
    rcases insertAt_was _ hpe _ h1 with ⟨a1, a2⟩ | ⟨i1, a1, a2⟩
    · rcases insertAt_was _ hpe _ h2 with ⟨c1, c2⟩ | ⟨i2, c1, c2⟩
      · rw [a1, c1]
      · exact absurd (by rw [← h3, a2]) (hno i2 e' c1)
    · rcases insertAt_was _ hpe _ h2 with ⟨c1, c2⟩ | ⟨i2, c1, c2⟩
      · exact absurd (by rw [h3, c2]) (hno i1 e a1)
      · have := T.uniq i1 i2 e e' a1 c1 h3
        subst this
        rw [a2, c2]
  · intro i e h1
    rcases insertAt_was _ hpe _ h1 with ⟨a1, a2⟩ | ⟨i1, a1, a2⟩
    · subst a2
      refine ⟨r, k, F.rt, F.kr, ?_, fun q hq k' hk' => pass (F.runs q hq k' hk'), fun k' hk' => pass (F.run k' hk')⟩
      show (insertAt t.place p j)[i]? = some (spot t.mask h r k)
      rw [insertAt_get _ b1, a1, if_neg (Nat.lt_irrefl _), if_pos rfl, hj]
    · obtain ⟨r1, k1, g1, g2, g3, g4, g5⟩ := T.reach i1 e a1
      refine ⟨r1, k1, g1, g2, ?_, fun q hq k' hk' => keep _ (g4 q hq k' hk'), fun k' hk' => keep _ (g5 k' hk')⟩
      show (insertAt t.place p j)[i]? = some (spot t.mask e.1 r1 k1)
      rw [a2]
      exact insertAt_old t.place b1 j g3
end
end Mine

/-! Set5 -/
namespace Mine
open SetTable

/-! a table laid anew -/
def Free (owner : Array (Option Nat)) (j : Nat) : Prop := owner[j]? = some none
/-- what the owners are after the first n hashes -/
structure Own (mask : Nat) (H : Nat → Int) (n : Nat) (owner : Array (Option Nat)) : Prop where
  size : owner.size = mask + 1
  lt : ∀ (j : Nat) k, owner[j]? = some (some k) → k < n
  one : ∀ (j j' : Nat) k, owner[j]? = some (some k) → owner[j']? = some (some k) → j = j'
  has : ∀ k, k < n → ∃ j : Nat, owner[j]? = some (some k)
  reach : ∀ (j : Nat) k, owner[j]? = some (some k) → ∃ r q, r < turns mask ∧ q ≤ rlen mask (H k) r ∧ spot mask (H k) r q = j ∧
    (∀ r', r' < r → ∀ q', q' ≤ rlen mask (H k) r' → ¬ Free owner (spot mask (H k) r' q')) ∧ (∀ q', q' < q → ¬ Free owner (spot mask (H k) r q'))

theorem free_some {mask : Nat} {h : Int} {owner : Array (Option Nat)} (hsz : owner.size = mask + 1) : ∀ (fuel r j : Nat), layClean.free mask owner fuel (runAt mask h r).1 (runAt mask h r).2 = some j →
    ∃ r' q, r ≤ r' ∧ r' < r + fuel ∧ q ≤ rlen mask h r' ∧ spot mask h r' q = j ∧ Free owner j ∧ (∀ p, r ≤ p → p < r' → ∀ q', q' ≤ rlen mask h p → ¬ Free owner (spot mask h p q')) ∧ (∀ q', q' < q → ¬ Free owner (spot mask h r' q')) := by
  intro fuel
  induction fuel with
  | zero => intro r j e; unfold layClean.free at e; cases e
  | succ fuel ih =>
    intro r j e
    unfold layClean.free at e
    have nf : ∀ k, (owner.getD ((runAt mask h r).1 + k) (some 0)).isNone = false → ¬ Free owner (spot mask h r k) := fun k hk hf => by
      have hf' : owner[(runAt mask h r).1 + k]? = some none := hf
      rw [Array.getD_eq_getD_getElem?, hf'] at hk
      cases hk
    have rl := runEnd_ge mask (runAt mask h r).1
    cases hf : (List.range (runEnd mask (runAt mask h r).1 + 1 - (runAt mask h r).1)).find? fun k => (owner.getD ((runAt mask h r).1 + k) (some 0)).isNone with
    | some k =>
      rw [hf] at e
      cases e
      obtain ⟨h1, h2, h3⟩ := List.find?_range_eq_some.mp hf
      have hk : k < runEnd mask (runAt mask h r).1 + 1 - (runAt mask h r).1 := by simpa using h2
      have hk2 : k ≤ rlen mask h r := by unfold rlen; omega
      have hle := spot_le hk2
      have hfree : Free owner (spot mask h r k) := by
        unfold Free
        have hlt : spot mask h r k < owner.size := by omega
        have e2 : owner[spot mask h r k]? = some owner[spot mask h r k] := Array.getElem?_eq_getElem hlt
        have h1' : (owner.getD (spot mask h r k) (some 0)).isNone = true := h1
        rw [Array.getD_eq_getD_getElem?, e2] at h1'
        rw [e2]
        exact congrArg some (Option.isNone_iff_eq_none.mp h1')
      exact ⟨r, k, Nat.le_refl _, by omega, hk2, rfl, hfree, fun p a b => absurd a (by omega), fun q' hq => nf q' (by simpa using h3 q' hq)⟩
    | none =>
      rw [hf] at e
      have hall : ∀ k, k ≤ rlen mask h r → ¬ Free owner (spot mask h r k) := fun k hk => nf k (by
        have := List.find?_eq_none.mp hf k (by unfold rlen at hk; simp; omega)
        simpa only [Bool.not_eq_true] using this)
      obtain ⟨r', q, a1, a2, a3, a4, a5, a6, a7⟩ := ih (r + 1) j e
      refine ⟨r', q, by omega, by omega, a3, a4, a5, fun p p1 p2 => ?_, a7⟩
      by_cases c : p = r
      · rw [c]; exact hall
      · exact a6 p (by omega) p2
theorem free_none {mask : Nat} {h : Int} {owner : Array (Option Nat)} : ∀ (fuel r : Nat), layClean.free mask owner fuel (runAt mask h r).1 (runAt mask h r).2 = none → ∀ p, r ≤ p → p < r + fuel → ¬ Free owner (runAt mask h p).1 := by
  intro fuel
  induction fuel with
  | zero => intro r _ p h1 h2; omega
  | succ fuel ih =>
    intro r e p h1 h2
    unfold layClean.free at e
    have rl := runEnd_ge mask (runAt mask h r).1
    cases hf : (List.range (runEnd mask (runAt mask h r).1 + 1 - (runAt mask h r).1)).find? fun k => (owner.getD ((runAt mask h r).1 + k) (some 0)).isNone with
    | some k => rw [hf] at e; cases e
    | none =>
      rw [hf] at e
      by_cases c : p = r
      · subst c
        intro hfree
        have := List.find?_eq_none.mp hf 0 (by simp; omega)
        have hfree' : owner[(runAt mask h p).1]? = some none := hfree
        rw [Nat.add_zero, Array.getD_eq_getD_getElem?, hfree'] at this
        exact this rfl
      · exact ih (r + 1) e p (by omega) (by omega)

theorem pigeon : ∀ (n m : Nat) (f : Nat → Nat), (∀ i, i < m → f i < n) → (∀ i j, i < m → j < m → f i = f j → i = j) → m ≤ n := by
  intro n
  induction n with
  | zero =>
    intro m f h1 _
    cases m with
    | zero => exact Nat.le_refl _
    | succ m => exact absurd (h1 0 (by omega)) (by omega)
  | succ n ih =>
    intro m f h1 h2
    by_cases c : ∃ i, i < m ∧ f i = n
    · obtain ⟨i0, a1, a2⟩ := c
      have key : ∀ i, i < m - 1 → (if i < i0 then i else i + 1) < m := fun i hi => by split <;> omega
      have := ih (m - 1) (fun i => f (if i < i0 then i else i + 1)) (fun i hi => by
        have b1 := h1 _ (key i hi)
        have b2 : f (if i < i0 then i else i + 1) ≠ n := fun e => by
          have := h2 _ _ (key i hi) a1 (e.trans a2.symm)
          split at this <;> omega
        omega) (fun i j hi hj e => by
        have := h2 _ _ (key i hi) (key j hj) e
        split at this <;> split at this <;> omega)
      omega
    · have := ih m f (fun i hi => by
        have b1 := h1 i hi
        have b2 : f i ≠ n := fun e => c ⟨i, hi, e⟩
        omega) h2
      omega

theorem Own.free {mask : Nat} {H : Nat → Int} {n : Nat} {owner : Array (Option Nat)} (O : Own mask H n owner) (hn : n ≤ mask) : ∃ j, j ≤ mask ∧ Free owner j := by
  refine Classical.byContradiction fun c => ?_
  have all : ∀ j, j ≤ mask → ∃ k, owner[j]? = some (some k) := fun j hj => by
    have hlt : j < owner.size := by rw [O.size]; omega
    cases e : owner[j] with
    | none => exact absurd ⟨j, hj, by unfold Free; rw [Array.getElem?_eq_getElem hlt, e]⟩ c
    | some k => exact ⟨k, by rw [Array.getElem?_eq_getElem hlt, e]⟩
  let f : Nat → Nat := fun j => match owner[j]? with | some (some k) => k | _ => 0
  have fe : ∀ j k, owner[j]? = some (some k) → f j = k := fun j k e => by show (match owner[j]? with | some (some k) => k | _ => 0) = k; rw [e]
  have := pigeon n (mask + 1) f (fun i hi => by
    obtain ⟨k, hk⟩ := all i (by omega)
    rw [fe i k hk]; exact O.lt i k hk) (fun i j hi hj e => by
    obtain ⟨k, hk⟩ := all i (by omega)
    obtain ⟨k', hk'⟩ := all j (by omega)
    rw [fe i k hk, fe j k' hk'] at e
    subst e
    exact O.one i j k hk hk')
  omega
theorem Own.zero (mask : Nat) (H : Nat → Int) : Own mask H 0 (Array.replicate (mask + 1) none) := by
  have no : ∀ (j : Nat) k, (Array.replicate (mask + 1) (none : Option Nat))[j]? ≠ some (some k) := fun j k e => by
    rw [Array.getElem?_replicate] at e
    split at e <;> simp at e
  exact ⟨by simp, fun j k e => absurd e (no j k), fun j j' k e => absurd e (no j k), fun k hk => absurd hk (Nat.not_lt_zero _), fun j k e => absurd e (no j k)⟩
theorem Own.step {mask : Nat} {H : Nat → Int} {n : Nat} {owner : Array (Option Nat)} (O : Own mask H n owner) (hn : n ≤ mask) (hc : covers mask (H n) = true) :
    ∃ j, layClean.free mask owner (turns mask) (bits (H n) % (mask + 1)) (bits (H n)) = some j ∧ Own mask H (n + 1) (owner.setIfInBounds j (some n)) := by
  cases e : layClean.free mask owner (turns mask) (bits (H n) % (mask + 1)) (bits (H n)) with
  | none =>
    exfalso
    obtain ⟨j, hj, hf⟩ := O.free hn
    obtain ⟨r, hr, hrj⟩ := covers_run hc hj
    exact free_none (h := H n) (turns mask) 0 e r (Nat.zero_le _) (by omega) (by rw [hrj]; exact hf)
  | some j =>
    refine ⟨j, rfl, ?_⟩
    obtain ⟨r, q, _, a2, a3, a4, a5, a6, a7⟩ := free_some (h := H n) O.size (turns mask) 0 j e
    have hjs : j < owner.size := (Array.getElem?_eq_some_iff.mp a5).1
    have get : ∀ i : Nat, (owner.setIfInBounds j (some n))[i]? = if i = j then some (some n) else owner[i]? := fun i => by
      rw [Array.getElem?_setIfInBounds]
      by_cases c : j = i
      · subst c; rw [if_pos rfl, if_pos hjs, if_pos rfl]
      · rw [if_neg c, if_neg (fun h => c h.symm)]
    have nf : ∀ i, ¬ Free owner i → ¬ Free (owner.setIfInBounds j (some n)) i := fun i hi hf => by
      unfold Free at hf
      rw [get] at hf
      by_cases c : i = j
      · rw [if_pos c] at hf; simp at hf
      · rw [if_neg c] at hf; exact hi hf
    refine ⟨by simpa using O.size, fun i k h => ?_, fun i i' k h h' => ?_, fun k hk => ?_, fun i k h => ?_⟩
    · rw [get] at h
      by_cases c : i = j
      · rw [if_pos c] at h; cases h; omega
      · rw [if_neg c] at h; have := O.lt i k h; omega
    · rw [get] at h h'
      by_cases c : i = j
      · rw [if_pos c] at h
        cases h
        by_cases c' : i' = j
        · rw [c, c']
        · rw [if_neg c'] at h'; exact absurd (O.lt i' _ h') (Nat.lt_irrefl _)
      · rw [if_neg c] at h
        by_cases c' : i' = j
        · rw [if_pos c'] at h'; cases h'; exact absurd (O.lt i _ h) (Nat.lt_irrefl _)
        · rw [if_neg c'] at h'; exact O.one i i' k h h'
    · by_cases c : k = n
      · exact ⟨j, by rw [get, if_pos rfl, c]⟩
      · obtain ⟨i, hi⟩ := O.has k (by omega)
        refine ⟨i, ?_⟩
        rw [get, if_neg]
        · exact hi
        · intro h; rw [h] at hi; unfold Free at a5; rw [a5] at hi; simp at hi
    · rw [get] at h
      by_cases c : i = j
      · rw [if_pos c] at h
        cases h
        exact ⟨r, q, by omega, a3, by rw [a4, c], fun r' hr q' hq' => nf _ (a6 r' (Nat.zero_le _) hr q' hq'), fun q' hq' => nf _ (a7 q' hq')⟩
      · rw [if_neg c] at h
        obtain ⟨r1, q1, g1, g2, g3, g4, g5⟩ := O.reach i k h
        exact ⟨r1, q1, g1, g2, g3, fun r' hr q' hq' => nf _ (g4 r' hr q' hq'), fun q' hq' => nf _ (g5 q' hq')⟩
end Mine

/-! Set6 -/
namespace Mine
open SetTable

theorem lay_fold {mask : Nat} {H : Nat → Int} : ∀ (l : List Int) (n : Nat) (owner : Array (Option Nat)), Own mask H n owner → (∀ (i : Nat) h, l[i]? = some h → H (n + i) = h ∧ covers mask h = true) → n + l.length ≤ mask →
    ∃ owner', l.foldl (fun (acc : Option (Array (Option Nat) × Nat)) h => do
      let (owner, k) ← acc
      let j ← layClean.free mask owner (turns mask) (bits h % (mask + 1)) (bits h)
      pure (owner.setIfInBounds j (some k), k + 1)) (some (owner, n)) = some (owner', n + l.length) ∧ Own mask H (n + l.length) owner' := by
  intro l
  induction l with
  | nil => intro n owner O _ _; exact ⟨owner, rfl, O⟩
  | cons h l ih =>
    intro n owner O hH hl
    have h0 := hH 0 h rfl
    rw [Nat.add_zero] at h0
    have hl' : n + (l.length + 1) ≤ mask := hl
    obtain ⟨j, e, O'⟩ := O.step (by omega) (by rw [h0.1]; exact h0.2)
    rw [h0.1] at e
    obtain ⟨owner', e1, e2⟩ := ih (n + 1) _ O' (fun i h' hi => by
      have := hH (i + 1) h' (by simpa using hi)
      rw [show n + 1 + i = n + (i + 1) by omega]; exact this) (by omega)
    refine ⟨owner', ?_, ?_⟩
    · rw [List.foldl_cons]
      have e3 : (do
        let (owner, k) ← some (owner, n)
        let j ← layClean.free mask owner (turns mask) (bits h % (mask + 1)) (bits h)
        pure (owner.setIfInBounds j (some k), k + 1)) = some (owner.setIfInBounds j (some n), n + 1) := by
        show (layClean.free mask owner (turns mask) (bits h % (mask + 1)) (bits h) >>= fun j => pure (owner.setIfInBounds j (some n), n + 1)) = _
        rw [e]; rfl
      rw [e3, e1]
      rw [List.length_cons, show n + 1 + l.length = n + (l.length + 1) by omega]
    · rw [List.length_cons, show n + (l.length + 1) = n + 1 + l.length by omega]; exact e2
theorem layClean_ok {mask : Nat} {H : Nat → Int} {hashes : Array Int} (hH : ∀ (i : Nat) h, hashes[i]? = some h → H i = h ∧ covers mask h = true) (hl : hashes.size ≤ mask) :
    ∃ owner, layClean mask hashes = some owner ∧ Own mask H hashes.size owner := by
  obtain ⟨owner', e1, e2⟩ := lay_fold (mask := mask) (H := H) hashes.toList 0 _ (Own.zero mask H) (fun i h hi => by rw [Nat.zero_add]; exact hH i h (by simpa using hi)) (by simpa using hl)
  rw [Nat.zero_add, Array.length_toList] at e1 e2
  refine ⟨owner', ?_, e2⟩
  unfold layClean
  rw [← Array.foldl_toList, e1]
  rfl

/-- the pairs slot, entry in the slots' order -/
def pairsOf (mask : Nat) (owner : Array (Option Nat)) : List (Nat × Nat) := (List.range (mask + 1)).filterMap fun j => (owner.getD j none).map (j, ·)
theorem pairs_mem {mask : Nat} {owner : Array (Option Nat)} (hsz : owner.size = mask + 1) {j k : Nat} : (j, k) ∈ pairsOf mask owner ↔ owner[j]? = some (some k) := by
  unfold pairsOf
  rw [List.mem_filterMap]
  constructor
  · rintro ⟨j', h1, h2⟩
    obtain ⟨k', h3, h4⟩ := Option.map_eq_some_iff.mp h2
    cases h4
    rw [Array.getD_eq_getD_getElem?] at h3
    cases e : owner[j]? with
    | none => rw [e] at h3; cases h3
    | some o => rw [e] at h3; rw [show o = some k from h3]
  · intro h
    have hlt := (Array.getElem?_eq_some_iff.mp h).1
    exact ⟨j, List.mem_range.mpr (by omega), by rw [Array.getD_eq_getD_getElem?, h]; rfl⟩
theorem pairs_sorted (mask : Nat) (owner : Array (Option Nat)) : (pairsOf mask owner).Pairwise fun a b => a.1 < b.1 := by
  unfold pairsOf
  refine List.Pairwise.filterMap _ ?_ List.pairwise_lt_range
  intro a a' hlt b hb b' hb'
  obtain ⟨k, _, h2⟩ := Option.map_eq_some_iff.mp hb
  obtain ⟨k', _, h4⟩ := Option.map_eq_some_iff.mp hb'
  subst h2; subst h4
  exact hlt
end Mine

/-! Set7 -/
namespace Mine
open SetTable

theorem pairs_inj {mask : Nat} {owner : Array (Option Nat)} {i i' : Nat} {p p' : Nat × Nat} (h : (pairsOf mask owner)[i]? = some p) (h' : (pairsOf mask owner)[i']? = some p') (e : p.1 = p'.1) : i = i' := by
  have S := List.pairwise_iff_getElem.mp (pairs_sorted mask owner)
  obtain ⟨a1, a2⟩ := List.getElem?_eq_some_iff.mp h
  obtain ⟨b1, b2⟩ := List.getElem?_eq_some_iff.mp h'
  refine Classical.byContradiction fun c => ?_
  by_cases lt : i < i'
  · have := S i i' a1 b1 lt; rw [a2, b2] at this; omega
  · have := S i' i b1 a1 (by omega); rw [a2, b2] at this; omega
theorem pairs_length {mask n : Nat} {H : Nat → Int} {owner : Array (Option Nat)} (O : Own mask H n owner) : (pairsOf mask owner).length = n := by
  have at_ : ∀ (i : Nat) p, (pairsOf mask owner)[i]? = some p → owner[p.1]? = some (some p.2) := fun i p h => (pairs_mem O.size).mp (List.mem_of_getElem? h)
  apply Nat.le_antisymm
  · let f : Nat → Nat := fun i => match (pairsOf mask owner)[i]? with | some p => p.2 | none => 0
    have fe : ∀ i p, (pairsOf mask owner)[i]? = some p → f i = p.2 := fun i p e => by show (match (pairsOf mask owner)[i]? with | some p => p.2 | none => 0) = _; rw [e]
    refine pigeon n _ f (fun i hi => ?_) (fun i i' hi hi' e => ?_)
    · have h := List.getElem?_eq_getElem hi
      rw [fe i _ h]; exact O.lt _ _ (at_ i _ h)
    · have h := List.getElem?_eq_getElem hi
      have h' := List.getElem?_eq_getElem hi'
      rw [fe i _ h, fe i' _ h'] at e
      have g := at_ i _ h
      have g' := at_ i' _ h'
      rw [← e] at g'
      exact pairs_inj h h' (O.one _ _ _ g g')
  · have ex : ∀ k, k < n → ∃ i : Nat, ∃ j, (pairsOf mask owner)[i]? = some (j, k) := fun k hk => by
      obtain ⟨j, hj⟩ := O.has k hk
      obtain ⟨i, hi, e⟩ := List.getElem_of_mem ((pairs_mem O.size).mpr hj)
      exact ⟨i, j, by rw [List.getElem?_eq_getElem hi, e]⟩
    classical
    let g : Nat → Nat := fun k => if hk : k < n then (ex k hk).choose else 0
    have ge : ∀ k, k < n → ∃ j, (pairsOf mask owner)[g k]? = some (j, k) := fun k hk => by
      have e : g k = (ex k hk).choose := dif_pos hk
      rw [e]; exact (ex k hk).choose_spec
    refine pigeon _ n g (fun k hk => ?_) (fun k k' hk hk' e => ?_)
    · obtain ⟨j, h⟩ := ge k hk
      exact (List.getElem?_eq_some_iff.mp h).1
    · obtain ⟨j, h⟩ := ge k hk
      obtain ⟨j', h'⟩ := ge k' hk'
      rw [e, h'] at h
      cases h; rfl

theorem filterMap_get {α β : Type} {f : α → Option β} : ∀ {l : List α}, (∀ x ∈ l, (f x).isSome = true) → ∀ i : Nat, (l.filterMap f)[i]? = l[i]?.bind f
  | [], _, i => by simp
  | x :: l, h, i => by
    obtain ⟨y, hy⟩ := Option.isSome_iff_exists.mp (h x (.head _))
    rw [List.filterMap_cons_some hy]
    cases i with
    | zero => simp [hy]
    | succ i => simpa using filterMap_get (fun z hz => h z (.tail _ hz)) i

theorem relaid_ok {t : SetTable} {es : Array (Int × Value)} (T : TabOk t es) {wanted m : Nat} (hm : sizeAbove wanted - 1 = m) (hroom : es.size ≤ m) (hc : ∀ (i : Nat) e, es[i]? = some e → covers m e.1 = true) :
    ∃ t' order, t.relaid (es.map (·.1)) wanted = some (t', order) ∧ t'.mask = m ∧ t'.led = t.led ∧ (order.filterMap (es[·]?)).size = es.size ∧ TabOk t' (order.filterMap (es[·]?)) ∧
      ∀ e, (∃ i : Nat, (order.filterMap (es[·]?))[i]? = some e) ↔ ∃ i : Nat, es[i]? = some e := by
  let H : Nat → Int := fun k => ((es[k]?).map (·.1)).getD 0
  obtain ⟨owner, e1, O⟩ := layClean_ok (mask := m) (H := H) (hashes := es.map (·.1)) (fun i h hi => by
    rw [Array.getElem?_map] at hi
    obtain ⟨e, h1, h2⟩ := Option.map_eq_some_iff.mp hi
    subst h2
    exact ⟨by show ((es[i]?).map (·.1)).getD 0 = _; rw [h1]; rfl, hc i e h1⟩) (by simpa using hroom)
  rw [Array.size_map] at O
  let L := pairsOf m owner
  have hL : L.length = es.size := pairs_length O
  have at_ : ∀ (i : Nat) p, L[i]? = some p → owner[p.1]? = some (some p.2) := fun i p h => (pairs_mem O.size).mp (List.mem_of_getElem? h)
  let t' : SetTable := { mask := m, place := (L.map (·.1)).toArray, dummies := #[], finger := t.finger, led := t.led, moves := t.movedTo m, plain := t.plain }
  have hrel : t.relaid (es.map (·.1)) wanted = some (t', (L.map (·.2)).toArray) := by
    unfold relaid laid
    rw [hm, e1]
    rfl
  have some_ : ∀ k ∈ L.map (·.2), (es[k]?).isSome = true := fun k hk => by
    obtain ⟨p, h1, h2⟩ := List.mem_map.mp hk
    subst h2
    have := O.lt _ _ ((pairs_mem O.size).mp h1)
    rw [Array.getElem?_eq_getElem this]; rfl
  have get : ∀ i : Nat, (((L.map (·.2)).toArray).filterMap (es[·]?))[i]? = (L[i]?).bind fun p => es[p.2]? := fun i => by
    rw [← Array.getElem?_toList, Array.toList_filterMap, filterMap_get some_ i, List.getElem?_map]
    cases L[i]? <;> rfl
  have pl : ∀ i : Nat, t'.place[i]? = (L[i]?).map (·.1) := fun i => by
    show ((L.map (·.1)).toArray)[i]? = _
    rw [List.getElem?_toArray, List.getElem?_map]
  have hsz : (((L.map (·.2)).toArray).filterMap (es[·]?)).size = es.size := by
    have hlen : ∀ {l : List Nat}, (∀ k ∈ l, (es[k]?).isSome = true) → (l.filterMap (es[·]?)).length = l.length := fun {l} => by
      induction l with
      | nil => intro _; rfl
      | cons x l ih =>
        intro h
        obtain ⟨y, hy⟩ := Option.isSome_iff_exists.mp (h x (.head _))
        rw [List.filterMap_cons_some hy, List.length_cons, List.length_cons, ih fun z hz => h z (.tail _ hz)]
    rw [← Array.length_toList, Array.toList_filterMap, hlen some_]
    simpa using hL
  have P' : Plain t' := by
    refine ⟨fun i k h1 h2 => ?_, rfl⟩
    have h2 : k < L.length := by simpa [t'] using h2
    have S := List.pairwise_iff_getElem.mp (pairs_sorted m owner) i k (by show i < L.length; omega) h2 h1
    have g : ∀ q (hq : q < L.length), t'.place.getD q 0 = L[q].1 := fun q hq => by
      rw [Array.getD_eq_getD_getElem?, pl q, List.getElem?_eq_getElem hq]; rfl
    rw [g i (by omega), g k h2]
    exact S
  have nonfree : ∀ {j}, j ≤ m → ¬ Free owner j → t'.slot j ≠ .empty := fun {j} hj hn => by
    have hlt : j < owner.size := by rw [O.size]; omega
    cases e : owner[j] with
    | none => exact absurd (by unfold Free; rw [Array.getElem?_eq_getElem hlt, e]) hn
    | some k =>
      have hmem := (pairs_mem O.size).mpr (show owner[j]? = some (some k) by rw [Array.getElem?_eq_getElem hlt, e])
      obtain ⟨i, hi, e2⟩ := List.getElem_of_mem hmem
      rw [slot_live P' (i := i) (by rw [pl i]; show ((pairsOf m owner)[i]?).map (·.1) = some j; rw [List.getElem?_eq_getElem hi, e2]; rfl)]
      exact fun e => nomatch e
  have ent : ∀ (i : Nat) e, (((L.map (·.2)).toArray).filterMap (es[·]?))[i]? = some e → ∃ j k, L[i]? = some (j, k) ∧ es[k]? = some e ∧ H k = e.1 := fun i e h => by
    rw [get i] at h
    obtain ⟨⟨j, k⟩, h1, h2⟩ := Option.bind_eq_some_iff.mp h
    exact ⟨j, k, h1, h2, by show ((es[k]?).map (·.1)).getD 0 = _; rw [show es[k]? = some e from h2]; rfl⟩
  refine ⟨t', (L.map (·.2)).toArray, hrel, rfl, rfl, hsz, ⟨P', ?_, ?_, ?_, ?_, ?_⟩, fun e => ⟨?_, ?_⟩⟩
  · rw [hsz]; simpa [t'] using hL
  · intro i j h
    rw [pl i] at h
    obtain ⟨p, h1, h2⟩ := Option.map_eq_some_iff.mp h
    subst h2
    have := (Array.getElem?_eq_some_iff.mp (at_ i p h1)).1
    rw [O.size] at this
    exact Nat.le_of_lt_succ this
  · rw [hsz]; exact hroom
  · intro i i' e e' h h' hh
    obtain ⟨j, k, h1, h2, _⟩ := ent i e h
    obtain ⟨j', k', h1', h2', _⟩ := ent i' e' h'
    have := T.uniq k k' e e' h2 h2' hh
    subst this
    exact pairs_inj h1 h1' (O.one j j' k (at_ i _ h1) (at_ i' _ h1'))
  · intro i e h
    obtain ⟨j, k, h1, h2, h3⟩ := ent i e h
    obtain ⟨r, q, g1, g2, g3, g4, g5⟩ := O.reach j k (at_ i _ h1)
    rw [h3] at g2 g3 g4 g5
    refine ⟨r, q, g1, g2, by rw [pl i, h1]; show some j = _; rw [← g3], fun r' hr q' hq' => nonfree (spot_le hq') (g4 r' hr q' hq'), fun q' hq' => nonfree (spot_le (show q' ≤ rlen m e.1 r by omega)) (g5 q' hq')⟩
  · rintro ⟨i, h⟩
    obtain ⟨j, k, _, h2, _⟩ := ent i e h
    exact ⟨k, h2⟩
  · rintro ⟨k, h⟩
    obtain ⟨j, hj⟩ := O.has k (Array.getElem?_eq_some_iff.mp h).1
    obtain ⟨i, hi, e2⟩ := List.getElem_of_mem ((pairs_mem O.size).mpr hj)
    exact ⟨i, by rw [get i]; show ((pairsOf m owner)[i]?).bind _ = _; rw [List.getElem?_eq_getElem hi, e2]; exact h⟩
end Mine

/-! Set8 -/
namespace Mine
open SetTable

/-- the hash of a pair of whole numbers -/
def ph (i j : Nat) : Int := reduceHash (Builtin.Tuple.tupleHashOf ([(i : Int), (j : Int)].map hashInt))
theorem ph_key (prog : Program) (w : World) (i j : Nat) : tupleKeyHash (intKind prog w) [(i : Int), (j : Int)] = ph i j := rfl
theorem ph_cov : ∀ i, i < 6 → ∀ j, j < 6 → covers 7 (ph i j) = true ∧ covers 31 (ph i j) = true ∧ covers 127 (ph i j) = true := by
  decide +kernel
theorem ph_inj36 : ∀ n, n < 36 → ∀ m, m < 36 → ph (n / 6) (n % 6) = ph (m / 6) (m % 6) → n = m := by
  decide +kernel
theorem ph_inj {i j i' j' : Nat} (hi : i < 6) (hj : j < 6) (hi' : i' < 6) (hj' : j' < 6) (h : ph i j = ph i' j') : i = i' ∧ j = j' := by
  have e := ph_inj36 (6 * i + j) (by omega) (6 * i' + j') (by omega) (by
    rw [show (6 * i + j) / 6 = i by omega, show (6 * i + j) % 6 = j by omega, show (6 * i' + j') / 6 = i' by omega, show (6 * i' + j') % 6 = j' by omega]; exact h)
  omega
end Mine

/-! Set9 -/
namespace Mine
open SetTable

section
variable {prog : Program} {w : World} {A : Around} {E : Value → Shared → Prop} {s : Shared} {K : Type} [DecidableEq K] {knd : KeyKind prog w K}

theorem ofClass_byValue (n : Nat) {v : Value} (h : carriedByValue v = true) : ofAClassStatement n v = pure false := by
  cases v with
  | ref a => simp [carriedByValue] at h
  | _ => unfold ofAClassStatement; rfl
theorem ofClass_tuple {ks : List K} {a : Addr} (n : Nat) (hk : IsTupleKey knd s.heap ks a) {Q : Bool → Shared → Prop} (h : Q false s) : wpAny (model prog w) A (ofAClassStatement (n + 1) (.ref a)) Q E s := by
  have hT := hk.typeIs
  obtain ⟨o, items, m, ho, hcl, hd, hi⟩ := hk
  unfold ofAClassStatement
  refine wpAny_bind (wpAny_typeOf hT ?_)
  dsimp only
  rw [if_pos (by decide)]
  refine wpAny_bind (wpAny_pure ?_)
  simp only [Bool.not_true, Bool.false_eq_true, if_false]
  refine wpAny_bind (wpAny_seqItems ho hd ?_)
  dsimp only
  refine wpAny_bind ?_
  show wpAny _ _ (forIn items _ _) _ _ s
  rw [← Array.forIn_toList]
  refine wpAny_forIn_list _ (fun rest r s' => r.1 = none ∧ s' = s ∧ ∀ v ∈ rest, carriedByValue v = true) _ ?_ ?_ _ _ ⟨rfl, rfl, hi.byValue⟩
  · rintro v rest r s' ⟨hr, rfl, hall⟩
    rw [ofClass_byValue _ (hall v List.mem_cons_self)]
    refine wpAny_bind (wpAny_pure ?_)
    simp only [Bool.false_eq_true, if_false]
    exact wpAny_pure ⟨rfl, rfl, fun u hu' => hall u (List.mem_cons_of_mem _ hu')⟩
  · rintro ⟨r1, r2⟩ s' ⟨hr, rfl, _⟩
    simp only at hr
    subst hr
    exact wpAny_pure h
/-- nobody sees the search among tuples of plain values -/
theorem notSeen {ks : List K} {a : Addr} (hk : IsTupleKey knd s.heap ks a) : ∀ {stored : List Value}, (∀ y ∈ stored, ∃ b ks', y = .ref b ∧ IsTupleKey knd s.heap ks' b) → ∀ {Q : Bool → Shared → Prop}, Q false s → wpAny (model prog w) A (searchCouldBeSeen (.ref a) stored) Q E s := by
  intro stored hst Q h
  unfold searchCouldBeSeen
  refine wpAny_bind ?_
  show wpAny _ _ (forIn stored _ _) _ _ s
  refine wpAny_forIn_list _ (fun rest r s' => r.1 = none ∧ s' = s ∧ ∀ y ∈ rest, ∃ b ks', y = .ref b ∧ IsTupleKey knd s.heap ks' b) _ ?_ ?_ _ _ ⟨rfl, rfl, hst⟩
  · rintro v rest r s' ⟨hr, rfl, hall⟩
    obtain ⟨b, ks', rfl, hb⟩ := hall v List.mem_cons_self
    have fin : ∀ u ∈ rest, ∃ b ks', u = .ref b ∧ IsTupleKey knd s'.heap ks' b := fun u hu' => hall u (List.mem_cons_of_mem _ hu')
    dsimp only
    split
    · exact wpAny_pure ⟨rfl, rfl, fin⟩
    · refine wpAny_bind (wpAny_eqIsQuiet_tuple hk ?_)
      simp only [Bool.not_true, Bool.false_eq_true, if_false]
      refine wpAny_bind (wpAny_eqIsQuiet_tuple hb ?_)
      simp only [Bool.not_true, Bool.false_eq_true, if_false]
      refine wpAny_bind (ofClass_tuple 7 hk ?_)
      simp only [Bool.false_eq_true, if_false]
      refine wpAny_bind (ofClass_tuple 7 hb ?_)
      simp only [Bool.false_eq_true, if_false]
      exact wpAny_pure ⟨rfl, rfl, fin⟩
  · rintro ⟨r1, r2⟩ s' ⟨hr, rfl, _⟩
    simp only at hr
    subst hr
    exact wpAny_pure h
end
end Mine

/-! Set10 -/
namespace Mine
open SetTable

/-- a set of pairs 0..5 in the heap -/
structure PSet (prog : Program) (w : World) (h : Heap) (a : Addr) (xs : List (Nat × Nat)) (o : Obj) (es : Array (Int × Value)) (ep : Nat) (t : SetTable) : Prop where
  here : h.get? a = some o
  exact : o.ExactSet
  data : o.data = .set es ep t
  tab : TabOk t es
  mask : t.mask = 7 ∨ t.mask = 31 ∨ t.mask = 127
  few : es.size * 5 < t.mask * 3
  ent : ∀ (i : Nat) e, es[i]? = some e → ∃ p ∈ xs, ∃ b, e = (ph p.1 p.2, .ref b) ∧ IsTupleKey (intKind prog w) h [(p.1 : Int), (p.2 : Int)] b
  has : ∀ p ∈ xs, ∃ (i : Nat) (e : Int × Value), es[i]? = some e ∧ e.1 = ph p.1 p.2
  dom : ∀ p ∈ xs, p.1 < 6 ∧ p.2 < 6

section
variable {prog : Program} {w : World} {A : Around} {E : Value → Shared → Prop} {s : Shared} {a : Addr} {xs : List (Nat × Nat)} {o : Obj} {es : Array (Int × Value)} {ep : Nat} {t : SetTable}

theorem PSet.fits {h : Heap} (S : PSet prog w h a xs o es ep t) : t.fits es.size = true := by
  unfold SetTable.fits SetTable.fill
  have h1 := S.tab.size
  have h2 := S.tab.room
  have h3 : t.dummies = #[] := S.tab.plain.nod
  rw [h3]
  simp only [Bool.and_eq_true, beq_iff_eq, decide_eq_true_eq, List.size_toArray, List.length_nil, Nat.add_zero]
  omega
theorem PSet.cov {h : Heap} (S : PSet prog w h a xs o es ep t) {i j : Nat} (hi : i < 6) (hj : j < 6) : covers t.mask (ph i j) = true := by
  obtain ⟨c1, c2, c3⟩ := ph_cov i hi j hj
  rcases S.mask with e | e | e <;> rw [e] <;> assumption
theorem PSet.noWay {h : Heap} (S : PSet prog w h a xs o es ep t) : t.gaveWay = false := by
  unfold SetTable.gaveWay
  rcases S.mask with e | e | e <;> rw [e] <;> rfl

theorem search_in {adding : Bool} {i j : Nat} {x : Addr} (hu : A.units < cLine) (hk : IsTupleKey (intKind prog w) s.heap [(i : Int), (j : Int)] x) (S : PSet prog w s.heap a xs o es ep t) (hp : (i, j) ∈ xs) {Q : SetFound → Shared → Prop}
    (h : ∀ r : Option Nat, (adding = false → r.isSome = true) → Q (.there r) s) : wpAny (model prog w) A (setSearch a (.ref x) (ph i j) adding) Q E s := by
  obtain ⟨q, e, he, heh⟩ := S.has _ hp
  obtain ⟨jj, nx, hpr, hsl⟩ := S.tab.find_in (at_ := fun i => (es[i]?.map (·.1)).getD 0) (fun i e he => by show ((es[i]?).map (·.1)).getD 0 = _; rw [he]; rfl) he
  rw [heh] at hpr
  dsimp only at hpr
  obtain ⟨p, hpx, b, eb, hb⟩ := S.ent q e he
  have hd := S.dom p hpx
  have hd' := S.dom _ hp
  have hij : p.1 = i ∧ p.2 = j := by
    have : ph p.1 p.2 = ph i j := by rw [← heh, eb]
    exact ph_inj hd.1 hd.2 hd'.1 hd'.2 this
  unfold setSearch
  rw [show (100000 : Nat) = 99999 + 1 by rfl]
  unfold setSearchFrom
  refine wpAny_bind (wpAny_setState_of S.here S.data S.fits ?_)
  dsimp only
  rw [S.noWay]
  simp only [Bool.false_eq_true, if_false, Option.getD_none]
  split
  · rename_i met heq
    have hmet := (show some _ = some met from hpr.symm.trans heq)
    cases hmet
    dsimp only
    have he' : es[q]? = some (ph i j, .ref b) := by rw [he, eb, hij.1, hij.2]
    have hb' : IsTupleKey (intKind prog w) s.heap [(i : Int), (j : Int)] b := by rw [← hij.1, ← hij.2]; exact hb
    cases hled : t.led
    · simp only [Bool.not_false, if_true]
      refine wpAny_bind (notSeen hk (fun y hy => ?_) ?_)
      · obtain ⟨e', h1, h2⟩ := List.mem_map.mp hy
        have h3 := (Array.mem_filter.mp (Array.mem_toList_iff.mp h1)).1
        obtain ⟨q', h4, h5⟩ := Array.getElem_of_mem h3
        obtain ⟨p', _, b', eb', hb2⟩ := S.ent q' e' (by rw [Array.getElem?_eq_getElem h4, h5])
        exact ⟨b', _, by rw [← h2, eb'], hb2⟩
      simp only [Bool.false_eq_true, if_false]
      rw [he']
      dsimp only
      refine wpAny_bind (wpAny_holding (wpAny_eqBool_tuple hu hb' hk ?_))
      rw [show decide ([(i : Int), (j : Int)] = [(i : Int), (j : Int)]) = true by simp]
      refine wpAny_bind (wpAny_setState_of S.here S.data S.fits ?_)
      dsimp only
      cases adding
      · simp only [Bool.false_and, Bool.false_eq_true, if_false]
        have hsm : t.sameMemory t.moves t.mask = some true := by unfold SetTable.sameMemory; simp
        rw [hsm]
        dsimp only
        rw [if_pos rfl, hsl]
        dsimp only
        rw [he']
        dsimp only
        refine wpAny_bind (wpAny_isSame_ref_self ?_)
        refine wpAny_bind (wpAny_pure ?_)
        simp only [if_true]
        exact wpAny_pure (h _ fun _ => rfl)
      · simp only [Bool.and_self, if_true]
        exact wpAny_pure (h _ fun e => by cases e)
    · simp only [Bool.not_true, Bool.false_eq_true, if_false]
      rw [he']
      dsimp only
      refine wpAny_bind (wpAny_holding (wpAny_eqBool_tuple hu hb' hk ?_))
      rw [show decide ([(i : Int), (j : Int)] = [(i : Int), (j : Int)]) = true by simp]
      refine wpAny_bind (wpAny_setState_of S.here S.data S.fits ?_)
      dsimp only
      cases adding
      · simp only [Bool.false_and, Bool.false_eq_true, if_false]
        have hsm : t.sameMemory t.moves t.mask = some true := by unfold SetTable.sameMemory; simp
        rw [hsm]
        dsimp only
        rw [if_pos rfl, hsl]
        dsimp only
        rw [he']
        dsimp only
        refine wpAny_bind (wpAny_isSame_ref_self ?_)
        refine wpAny_bind (wpAny_pure ?_)
        simp only [if_true]
        exact wpAny_pure (h _ fun _ => rfl)
      · simp only [Bool.and_self, if_true]
        exact wpAny_pure (h _ fun e => by cases e)
  · rename_i heq
    exact absurd hpr (heq _)

theorem PSet.out {h : Heap} (S : PSet prog w h a xs o es ep t) {i j : Nat} (hi : i < 6) (hj : j < 6) (hn : (i, j) ∉ xs) : ∀ (q : Nat) e, es[q]? = some e → e.1 ≠ ph i j := fun q e he hc => by
  obtain ⟨p, hpx, b, eb, _⟩ := S.ent q e he
  have hd := S.dom p hpx
  have := ph_inj hd.1 hd.2 hi hj (by rw [← hc, eb])
  exact hn (by rw [← this.1, ← this.2]; exact hpx)
theorem search_out {adding : Bool} {i j : Nat} {x : Addr} (hi : i < 6) (hj : j < 6) (S : PSet prog w s.heap a xs o es ep t) (hn : (i, j) ∉ xs) {Q : SetFound → Shared → Prop}
    (h : ∀ r k, First t (fun i => (es[i]?.map (·.1)).getD 0) (ph i j) r k → t.slot (spot t.mask (ph i j) r k) = .empty → Q (.free (spot t.mask (ph i j) r k) false) s) :
    wpAny (model prog w) A (setSearch a (.ref x) (ph i j) adding) Q E s := by
  obtain ⟨r, k, F, he, hpr⟩ := S.tab.find_out (at_ := fun i => (es[i]?.map (·.1)).getD 0) (fun i e he => by show ((es[i]?).map (·.1)).getD 0 = _; rw [he]; rfl) (S.cov hi hj) (S.out hi hj hn)
  unfold setSearch
  rw [show (100000 : Nat) = 99999 + 1 by rfl]
  unfold setSearchFrom
  refine wpAny_bind (wpAny_setState_of S.here S.data S.fits ?_)
  dsimp only
  rw [S.noWay]
  simp only [Bool.false_eq_true, if_false, Option.getD_none]
  split
  · rename_i met heq
    have hmet := (show some _ = some met from hpr.symm.trans heq)
    cases hmet
    exact wpAny_pure (h r k F he)
  · rename_i heq
    exact absurd hpr (heq _)
end
end Mine

/-! Set11 -/
namespace Mine
open SetTable
section
variable {prog : Program} {w : World} {A : Around} {E : Value → Shared → Prop} {s : Shared} {a : Addr} {xs : List (Nat × Nat)} {o : Obj} {es : Array (Int × Value)} {ep : Nat} {t : SetTable}

theorem PSet.typeIs (S : PSet prog w s.heap a xs o es ep t) : s.TypeIs (.ref a) "set" := ⟨o, S.here, S.exact.1⟩
theorem byScan_ref (x : Addr) (es : Array (Int × Value)) : byScan (.ref x) es = false := rfl
theorem find_pset {i j : Nat} {x : Addr} (hu : A.units < cLine) (hi : i < 6) (hj : j < 6) (hk : IsTupleKey (intKind prog w) s.heap [(i : Int), (j : Int)] x) (S : PSet prog w s.heap a xs o es ep t) {Q : Option Nat → Shared → Prop}
    (h : ∀ r : Option Nat, r.isSome = decide ((i, j) ∈ xs) → Q r s) : wpAny (model prog w) A (setFind a (.ref x) (ph i j)) Q E s := by
  unfold setFind
  rw [show (100000 : Nat) = 99999 + 1 by rfl]
  unfold setFindIn
  refine wpAny_bind (wpAny_setState_of S.here S.data S.fits ?_)
  dsimp only
  rw [byScan_ref]
  simp only [Bool.false_eq_true, if_false]
  by_cases hp : (i, j) ∈ xs
  · refine wpAny_bind (search_in hu hk S hp fun r hr => ?_)
    exact wpAny_pure (h r (by rw [hr rfl]; simp [hp]))
  · refine wpAny_bind (search_out hi hj S hp fun r k F he => ?_)
    exact wpAny_pure (h none (by simp [hp]))
/-- the search that a set of pairs runs for «in» -/
theorem has_body {i j : Nat} {x : Addr} {B : Around} (hu : B.units < cLine) (hi : i < 6) (hj : j < 6) (hk : IsTupleKey (intKind prog w) s.heap [(i : Int), (j : Int)] x) (S : PSet prog w s.heap a xs o es ep t) :
    wpAny (model prog w) B (Builtin.«frozenset.__contains__» ⟨[.ref a, .ref x], []⟩) (fun fin s' => fin = .done (.ret (.bool (decide ((i, j) ∈ xs)))) ∧ ∃ tk, s' = { s with toks := tk }) E s := by
  have found : ∀ E' : Value → Shared → Prop, wpAny (model prog w) B (setFind a (.ref x) (ph i j)) (fun r s' => r.isSome = decide ((i, j) ∈ xs) ∧ s' = { s with toks := s.toks + 3 }) E' { s with toks := s.toks + 3 } := fun _ =>
    find_pset (s := { s with toks := s.toks + 3 }) hu hi hj hk S fun r hr => ⟨hr, rfl⟩
  unfold Builtin.«frozenset.__contains__» Builtin.Frozenset.oneOther Builtin.Frozenset.addrOf Builtin.Frozenset.withSetAsKey setContains
  simp only [List.isEmpty_nil, bind_assoc]
  refine wpAny_bind (wpAny_pure ?_)
  refine wpAny_bind (wpAny_pure (wpAny_bind (wpAny_tryCatch (wpAny_holding (wpAny_bind (wpAny_pyHash_tuple (knd := intKind prog w) hu hk ?_))))))
  rw [ph_key]
  refine wpAny_bind (wpAny_mono (found fun _ _ => False) (fun r s' h => wpAny_pure ?_) fun _ _ e => e.elim)
  obtain ⟨hr, rfl⟩ := h
  show wpAny _ _ (ret (Value.bool r.isSome)) _ _ _
  rw [hr]
  exact wpAny_pure ⟨rfl, _, rfl⟩
theorem in_pset {i j : Nat} {x : Addr} {Q : Value → Shared → Prop} (hu : A.units + 1 < cLine) (hi : i < 6) (hj : j < 6) (hk : IsTupleKey (intKind prog w) s.heap [(i : Int), (j : Int)] x) (S : PSet prog w s.heap a xs o es ep t)
    (h : ∀ tk, Q (.bool (decide ((i, j) ∈ xs))) { s with toks := tk }) : wpAny (model prog w) A (compareOp .In (.ref x) (.ref a)) Q E s := by
  have T := S.typeIs
  have run : wpAny (model prog w) A (call (.builtin "set.__contains__") [.ref a, .ref x]) (fun v s' => v = .bool (decide ((i, j) ∈ xs)) ∧ ∃ tk, s' = { s with toks := tk }) E s :=
    wpAny_call_entry F.slot_set_contains T entry_set_contains (wpAny_mono (has_body (B := A.in1) hu hi hj hk S) (fun _ _ z => ⟨_, z.1, rfl, z.2⟩) fun _ _ e => e) (F.args_set_contains_2 _ _)
  show wpAny _ _ (do return .bool (← contains (.ref a) (.ref x))) Q E s
  refine wpAny_bind ?_
  unfold contains
  refine wpAny_holding (wpAny_bind (wpAny_specialOf T F.slot_set_contains.lookup ?_))
  show wpAny _ _ (if (some (Value.builtin "set.__contains__") == some Value.none) = true then _ else _) _ E s
  rw [beq_builtin_none, if_neg Bool.false_ne_true]
  refine wpAny_bind (wpAny_callSpecialUnlessNone?_slot (name := Str.ofString "__contains__") T F.slot_set_contains (wpAny_mono run (fun v s' z => ?_) fun _ _ e => e))
  obtain ⟨rfl, tk, rfl⟩ := z
  exact wpAny_truthy_bool (wpAny_pure (h tk))
end
end Mine

/-! Set12 -/
namespace Mine
open SetTable
section
variable {prog : Program} {w : World} {A : Around} {E : Value → Shared → Prop} {s : Shared} {a : Addr} {xs : List (Nat × Nat)} {o : Obj} {es : Array (Int × Value)} {ep : Nat} {t : SetTable}

theorem hashByValue_int (n : Nat) (i : Int) (tk : Tok) : hashByValue n (.int i tk) = pure true := by cases n <;> rfl
theorem hashByValue_pair {x : Addr} {ks : List Int} (hk : IsTupleKey (intKind prog w) s.heap ks x) {Q : Bool → Shared → Prop} (h : Q true s) : wpAny (model prog w) A (hashByValue 8 (.ref x)) Q E s := by
  have hT := hk.typeIs
  obtain ⟨o, items, m, ho, hcl, hd, hi⟩ := hk
  have hints : ∀ {ks : List Int} {vs : List Value}, ItemsAre (intKind prog w) ks vs → ∀ v ∈ vs, ∃ i tk, v = .int i tk := fun x => by
    induction x with
    | nil => intro v hv; nomatch hv
    | cons hkv _ ih =>
      intro v hv
      rcases List.mem_cons.mp hv with rfl | hv
      · obtain ⟨t, e⟩ := Value.isInt_shape hkv; exact ⟨_, t, e⟩
      · exact ih v hv
  unfold hashByValue
  refine wpAny_bind (wpAny_specialOf hT F.slot_tuple_hash.lookup ?_)
  dsimp only
  refine wpAny_bind (wpAny_seqItems ho hd ?_)
  refine wpAny_bind ?_
  show wpAny _ _ (forIn items _ _) _ _ s
  rw [← Array.forIn_toList]
  refine wpAny_forIn_list _ (fun rest r s' => r.1 = none ∧ s' = s ∧ ∀ v ∈ rest, ∃ i tk, v = .int i tk) _ ?_ ?_ _ _ ⟨rfl, rfl, hints hi⟩
  · rintro v rest r s' ⟨hr, rfl, hall⟩
    obtain ⟨i, tk, rfl⟩ := hall v List.mem_cons_self
    rw [hashByValue_int]
    refine wpAny_bind (wpAny_pure ?_)
    simp only [Bool.not_true, Bool.false_eq_true, if_false]
    exact wpAny_pure ⟨rfl, rfl, fun u hu' => hall u (List.mem_cons_of_mem _ hu')⟩
  · rintro ⟨r1, r2⟩ s' ⟨hr, rfl, _⟩
    simp only at hr
    subst hr
    exact wpAny_pure h

theorem PSet.count {h : Heap} (S : PSet prog w h a xs o es ep t) : es.size ≤ 36 := by
  have ex : ∀ q, q < es.size → ∃ n, n < 36 ∧ ∀ e, es[q]? = some e → e.1 = ph (n / 6) (n % 6) := fun q hq => by
    have he : es[q]? = some es[q] := Array.getElem?_eq_getElem hq
    obtain ⟨p, hp, b, eb, _⟩ := S.ent q _ he
    have hd := S.dom p hp
    refine ⟨6 * p.1 + p.2, by omega, fun e h2 => ?_⟩
    rw [he] at h2; cases h2
    rw [show (6 * p.1 + p.2) / 6 = p.1 by omega, show (6 * p.1 + p.2) % 6 = p.2 by omega, eb]
  classical
  let f : Nat → Nat := fun q => if hq : q < es.size then (ex q hq).choose else 0
  have fe : ∀ q (hq : q < es.size), f q < 36 ∧ ∀ e, es[q]? = some e → e.1 = ph (f q / 6) (f q % 6) := fun q hq => by
    have e : f q = (ex q hq).choose := dif_pos hq
    rw [e]; exact (ex q hq).choose_spec
  refine pigeon 36 es.size f (fun q hq => (fe q hq).1) (fun q q' hq hq' e => ?_)
  have h1 := Array.getElem?_eq_getElem hq
  have h2 := Array.getElem?_eq_getElem hq'
  refine S.tab.uniq q q' _ _ h1 h2 ?_
  rw [(fe q hq).2 _ h1, (fe q' hq').2 _ h2, e]
end
end Mine

/-! Set13 -/
namespace Mine
open SetTable
section
variable {prog : Program} {w : World} {A : Around} {E : Value → Shared → Prop} {s : Shared} {a : Addr} {xs : List (Nat × Nat)} {o : Obj} {es : Array (Int × Value)} {ep : Nat} {t : SetTable}

theorem TabOk.congr {t t' : SetTable} (T : TabOk t es) (h1 : t'.mask = t.mask) (h2 : t'.place = t.place) (h3 : t'.dummies = t.dummies) : TabOk t' es := by
  have hs : ∀ j, t'.slot j = t.slot j := fun j => by unfold SetTable.slot; rw [h2, h3]
  refine ⟨⟨by rw [h2]; exact T.plain.srt, by rw [h3]; exact T.plain.nod⟩, by rw [h2]; exact T.size, fun i j h => by rw [h1]; exact T.le i j (by rw [← h2]; exact h), by rw [h1]; exact T.room, T.uniq, fun i e he => ?_⟩
  obtain ⟨r, k, g1, g2, g3, g4, g5⟩ := T.reach i e he
  rw [h1, h2]
  exact ⟨r, k, g1, g2, g3, fun q hq k' hk' => by rw [hs]; exact g4 q hq k' hk', fun k' hk' => by rw [hs]; exact g5 k' hk'⟩

/-- the entries and the table after one more pair: what add is to leave -/
structure Added (prog : Program) (w : World) (h : Heap) (xs : List (Nat × Nat)) (es : Array (Int × Value)) (t : SetTable) : Prop where
  tab : TabOk t es
  mask : t.mask = 7 ∨ t.mask = 31 ∨ t.mask = 127
  ent : ∀ (i : Nat) e, es[i]? = some e → ∃ p ∈ xs, ∃ b, e = (ph p.1 p.2, .ref b) ∧ IsTupleKey (intKind prog w) h [(p.1 : Int), (p.2 : Int)] b
  has : ∀ p ∈ xs, ∃ (i : Nat) (e : Int × Value), es[i]? = some e ∧ e.1 = ph p.1 p.2
  dom : ∀ p ∈ xs, p.1 < 6 ∧ p.2 < 6

theorem PSet.added {h : Heap} (S : PSet prog w h a xs o es ep t) {i j : Nat} {x : Addr} (hi : i < 6) (hj : j < 6) (hn : (i, j) ∉ xs) (hk : IsTupleKey (intKind prog w) h [(i : Int), (j : Int)] x) {at_ : Nat → Int} {r k : Nat}
    (F : First t at_ (ph i j) r k) (he : t.slot (spot t.mask (ph i j) r k) = .empty) :
    Added prog w h ((i, j) :: xs) (insertAt es (t.put (spot t.mask (ph i j) r k)).2 (ph i j, .ref x)) (t.put (spot t.mask (ph i j) r k)).1 ∧ (insertAt es (t.put (spot t.mask (ph i j) r k)).2 (ph i j, .ref x)).size = es.size + 1 ∧
      (t.put (spot t.mask (ph i j) r k)).1.mask = t.mask := by
  have hroom : es.size + 1 ≤ t.mask := by
    have := S.few
    rcases S.mask with e | e | e <;> omega
  have hp := S.tab.put (S.out hi hj hn) F he (.ref x) hroom
  have hpe : (t.put (spot t.mask (ph i j) r k)).2 ≤ es.size := by
    rw [put_eq S.tab.plain]
    have := (below_spec S.tab.plain.srt (spot t.mask (ph i j) r k)).1
    rw [← S.tab.size]; exact this
  refine ⟨⟨hp.1, by rw [hp.2]; exact S.mask, fun q e hq => ?_, fun p hp' => ?_, fun p hp' => ?_⟩, insertAt_size _ _ hpe _, hp.2⟩
  · rcases insertAt_was _ hpe _ hq with ⟨_, rfl⟩ | ⟨q', h1, _⟩
    · exact ⟨(i, j), .head _, x, rfl, hk⟩
    · obtain ⟨p, g1, g2⟩ := S.ent q' e h1
      exact ⟨p, .tail _ g1, g2⟩
  · rcases List.mem_cons.mp hp' with rfl | hp'
    · exact ⟨_, _, by rw [insertAt_get _ hpe, if_neg (Nat.lt_irrefl _), if_pos rfl], rfl⟩
    · obtain ⟨q, e, h1, h2⟩ := S.has p hp'
      exact ⟨_, e, insertAt_old _ hpe _ h1, h2⟩
  · rcases List.mem_cons.mp hp' with rfl | hp'
    · exact ⟨hi, hj⟩
    · exact S.dom p hp'
end
end Mine

/-! Set14 -/
namespace Mine
open SetTable
section
variable {prog : Program} {w : World} {xs : List (Nat × Nat)} {es : Array (Int × Value)} {t : SetTable}

theorem Added.cov {h : Heap} (D : Added prog w h xs es t) {m : Nat} (hm : m = 7 ∨ m = 31 ∨ m = 127) : ∀ (i : Nat) e, es[i]? = some e → covers m e.1 = true := fun i e he => by
  obtain ⟨p, hp, b, eb, _⟩ := D.ent i e he
  have hd := D.dom p hp
  obtain ⟨c1, c2, c3⟩ := ph_cov p.1 hd.1 p.2 hd.2
  rw [eb]
  rcases hm with e | e | e <;> rw [e] <;> assumption
theorem Added.relay {h : Heap} (D : Added prog w h xs es t) {m : Nat} (hm : m = 31 ∨ m = 127) (hw : sizeAbove (grown es.size) - 1 = m) (hroom : es.size ≤ m) :
    ∃ t' order, t.relaid (es.map (·.1)) (grown es.size) = some (t', order) ∧ t'.mask = m ∧ (order.filterMap (es[·]?)).size = es.size ∧ Added prog w h xs (order.filterMap (es[·]?)) t' := by
  obtain ⟨t', order, h1, h2, _, h4, h5, h6⟩ := relaid_ok D.tab hw hroom (D.cov (by rcases hm with e | e <;> rw [e] <;> simp))
  refine ⟨t', order, h1, h2, h4, ⟨h5, by rw [h2]; rcases hm with e | e <;> simp [e], fun i e he => ?_, fun p hp => ?_, D.dom⟩⟩
  · obtain ⟨q, hq⟩ := (h6 e).mp ⟨i, he⟩
    exact D.ent q e hq
  · obtain ⟨q, e, g1, g2⟩ := D.has p hp
    obtain ⟨q', hq'⟩ := (h6 e).mpr ⟨q, g1⟩
    exact ⟨q', e, hq', g2⟩
end
end Mine

/-! Set15 -/
namespace Mine
open SetTable
section
variable {prog : Program} {w : World} {A : Around} {E : Value → Shared → Prop} {s : Shared} {a : Addr} {xs : List (Nat × Nat)} {o : Obj} {es : Array (Int × Value)} {ep : Nat} {t : SetTable}

theorem store_pset {h : Heap} (ho : h.get? a = some o) (hex : o.ExactSet) (hd : o.data = .set es ep t) {es' : Array (Int × Value)} {t' : SetTable} :
    (h.update a (Obj.putSet es' t')).get? a = some { o with data := .set es' (ep + 1) t' } := by
  have := Heap.get?_update_self (Obj.putSet es' t') ho (by rw [putSet_of es' t' hd]; rfl)
  rw [putSet_of es' t' hd] at this; exact this
theorem tuple_same {h h' : Heap} {ks : List Int} {b : Addr} (hs : Heap.SameBut a h h') (ho : h.get? a = some o) (hex : o.ExactSet) (hk : IsTupleKey (intKind prog w) h ks b) : IsTupleKey (intKind prog w) h' ks b := by
  obtain ⟨ob, items, n, h1, h2, h3, h4⟩ := hk
  have hne : b ≠ a := fun e => by
    subst e
    rw [ho] at h1; cases h1
    rw [hex.1] at h2
    exact absurd (Value.type.inj h2) (by decide)
  exact ⟨ob, items, n, (hs.2 b hne).trans h1, h2, h3, h4⟩
theorem Added.same {h h' : Heap} (hs : Heap.SameBut a h h') (ho : h.get? a = some o) (hex : o.ExactSet) (D : Added prog w h xs es t) : Added prog w h' xs es t :=
  ⟨D.tab, D.mask, fun i e he => let ⟨p, g1, b, g2, g3⟩ := D.ent i e he; ⟨p, g1, b, g2, tuple_same hs ho hex g3⟩, D.has, D.dom⟩
theorem Added.pset {h : Heap} (D : Added prog w h xs es t) (ho : h.get? a = some o) (hex : o.ExactSet) (hd : o.data = .set es ep t) (hf : es.size * 5 < t.mask * 3) : PSet prog w h a xs o es ep t :=
  ⟨ho, hex, hd, D.tab, D.mask, hf, D.ent, D.has, D.dom⟩
end
end Mine

/-! Set16 -/
namespace Mine
open SetTable
section
variable {prog : Program} {w : World} {A : Around} {E : Value → Shared → Prop} {s : Shared} {a : Addr} {xs : List (Nat × Nat)} {o : Obj} {es : Array (Int × Value)} {ep : Nat} {t : SetTable}

theorem addHashed_new {i j : Nat} {x : Addr} (hi : i < 6) (hj : j < 6) (hk : IsTupleKey (intKind prog w) s.heap [(i : Int), (j : Int)] x) (S : PSet prog w s.heap a xs o es ep t) (hn : (i, j) ∉ xs) {Q : Bool → Shared → Prop}
    (h : ∀ h' o' es' ep' t', Heap.SameBut a s.heap h' → PSet prog w h' a ((i, j) :: xs) o' es' ep' t' → Q true { s with heap := h' }) :
    wpAny (model prog w) A (setAddHashed a (.ref x) (ph i j)) Q E s := by
  unfold setAddHashed
  refine wpAny_holding ?_
  rw [show (100000 : Nat) = 99999 + 1 by rfl]
  unfold setAddHashedIn
  refine wpAny_bind (wpAny_setState_of S.here S.data S.fits ?_)
  dsimp only
  rw [byScan_ref]
  simp only [Bool.false_eq_true, if_false]
  refine wpAny_bind (search_out hi hj S hn fun r k F he => ?_)
  dsimp only
  refine wpAny_bind (wpAny_setState_of S.here S.data S.fits ?_)
  dsimp only
  obtain ⟨D, hsz, hmask⟩ := S.added hi hj hn hk F he
  have hcount := S.count
  have hfew := S.few
  generalize insertAt es (t.put (spot t.mask (ph i j) r k)).snd (ph i j, Value.ref x) = es1 at D hsz
  generalize (t.put (spot t.mask (ph i j) r k)).fst = t1 at D hmask
  have tail : wpAny (model prog w) A (do
      storeSet a es1 t1
      if (!false && t1.tooFull) = true then do
        setRelay a (grown (es.size + 1))
        pure true
      else pure true) Q E s := by
    refine wpAny_bind (wpAny_storeSet_of S.here S.data ?_ (by rw [sizeLine_eq]; omega))
    have ho1 := store_pset (es' := es1) (t' := t1) S.here S.exact S.data
    have hsb := Heap.SameBut.update s.heap a (Obj.putSet es1 t1)
    have D1 := D.same hsb S.here S.exact
    by_cases hfull : t1.tooFull = true
    · rw [if_pos (by rw [hfull]; rfl)]
      have hful : t1.mask * 3 ≤ es1.size * 5 := by
        unfold SetTable.tooFull SetTable.fill at hfull
        have e1 := D.tab.size
        have e2 : t1.dummies = #[] := D.tab.plain.nod
        rw [e2] at hfull
        simp at hfull
        omega
      have hm : ∃ m, (m = 31 ∨ m = 127) ∧ sizeAbove (grown es1.size) - 1 = m ∧ es1.size ≤ m ∧ es1.size * 5 < m * 3 ∧ sizeAbove (grown es1.size) ≤ 128 := by
        rcases S.mask with e | e | e
        · have h5 : es1.size = 5 := by omega
          rw [h5]; exact ⟨31, .inl rfl, rfl, by omega, by omega, by decide⟩
        · have h5 : es1.size = 19 := by omega
          rw [h5]; exact ⟨127, .inr rfl, rfl, by omega, by omega, by decide⟩
        · omega
      obtain ⟨m, m1, m2, m3, m4, m5⟩ := hm
      obtain ⟨t2, order, r1, r2, r3, D2⟩ := D1.relay m1 m2 m3
      have hf1 : t1.fits es1.size = true := by
        unfold SetTable.fits SetTable.fill
        have q1 := D.tab.size
        have q2 := D.tab.room
        have q3 : t1.dummies = #[] := D.tab.plain.nod
        rw [q3]
        simp only [Bool.and_eq_true, beq_iff_eq, decide_eq_true_eq, List.size_toArray, List.length_nil, Nat.add_zero]
        omega
      rw [← hsz]
      refine wpAny_bind ?_
      unfold setRelay
      refine wpAny_bind (wpAny_setState_of ho1 rfl hf1 ?_)
      dsimp only
      rw [if_neg (by rw [sizeLine_eq]; omega), r1]
      refine wpAny_bind ?_
      show wpAny _ _ (do
        if (order.filterMap (es1[·]?)).size != es1.size then unsupported "internal:set-table-lost-an-element"
        pure (order.filterMap (es1[·]?), t2)) _ _ _
      rw [r3]
      simp only [bne_self_eq_false, Bool.false_eq_true, if_false]
      refine wpAny_pure ?_
      dsimp only
      refine wpAny_storeSet_of ho1 rfl ?_ (by rw [r3, sizeLine_eq]; omega)
      have ho2 := store_pset (es' := order.filterMap (es1[·]?)) (t' := t2) ho1 S.exact rfl
      have hsb2 := Heap.SameBut.update (s.heap.update a (Obj.putSet es1 t1)) a (Obj.putSet (order.filterMap (es1[·]?)) t2)
      have D3 := D2.same hsb2 ho1 S.exact
      exact wpAny_pure (h _ _ _ _ _ (hsb.trans hsb2) (D3.pset ho2 S.exact rfl (by rw [r2, r3]; exact m4)))
    · rw [if_neg (by simpa using hfull)]
      have hfew1 : es1.size * 5 < t1.mask * 3 := by
        unfold SetTable.tooFull SetTable.fill at hfull
        have e1 := D.tab.size
        have e2 : t1.dummies = #[] := D.tab.plain.nod
        rw [e2] at hfull
        simp at hfull
        omega
      exact wpAny_pure (h _ _ _ _ _ hsb (D1.pset ho1 S.exact rfl hfew1))
  split
  · refine wpAny_bind (hashByValue_pair hk ?_)
    simp only [if_true]
    exact tail
  · refine wpAny_bind (wpAny_pure ?_)
    simp only [if_true]
    exact tail
end
end Mine

/-! Set17 -/
namespace Mine
open SetTable
section
variable {prog : Program} {w : World} {A : Around} {E : Value → Shared → Prop} {s : Shared} {a : Addr} {xs : List (Nat × Nat)} {o : Obj} {es : Array (Int × Value)} {ep : Nat} {t : SetTable}

theorem addHashed_old {i j : Nat} {x : Addr} (hu : A.units < cLine) (hk : IsTupleKey (intKind prog w) s.heap [(i : Int), (j : Int)] x) (S : PSet prog w s.heap a xs o es ep t) (hp : (i, j) ∈ xs) {Q : Bool → Shared → Prop}
    (h : Q false s) : wpAny (model prog w) A (setAddHashed a (.ref x) (ph i j)) Q E s := by
  unfold setAddHashed
  refine wpAny_holding ?_
  rw [show (100000 : Nat) = 99999 + 1 by rfl]
  unfold setAddHashedIn
  refine wpAny_bind (wpAny_setState_of S.here S.data S.fits ?_)
  dsimp only
  rw [byScan_ref]
  simp only [Bool.false_eq_true, if_false]
  exact wpAny_bind (search_in hu hk S hp fun r _ => wpAny_pure h)

theorem addTo_pset {i j : Nat} {x : Addr} {Q : Value → Shared → Prop} (hu : A.units + 1 < cLine) (hi : i < 6) (hj : j < 6) (hk : IsTupleKey (intKind prog w) s.heap [(i : Int), (j : Int)] x) (S : PSet prog w s.heap a xs o es ep t) (hn : (i, j) ∉ xs)
    (h : ∀ h' o' es' ep' t' tk, Heap.SameBut a s.heap h' → PSet prog w h' a ((i, j) :: xs) o' es' ep' t' → Q .none { s with heap := h', toks := tk }) :
    wpAny (model prog w) A (call (.builtin "set.add") [.ref a, .ref x]) Q E s := by
  have body : wpAny (model prog w) A.in1 (Builtin.«set.add» ⟨[.ref a, .ref x], []⟩) (fun fin s' => fin = .done (.ret .none) ∧ Q .none s') E s := by
    unfold Builtin.«set.add» Builtin.Frozenset.oneOther Builtin.Frozenset.addrOf setAdd
    simp only [List.isEmpty_nil, bind_assoc]
    refine wpAny_bind (wpAny_pure ?_)
    refine wpAny_bind (wpAny_pure (wpAny_bind (wpAny_holding (wpAny_bind (wpAny_pyHash_tuple (knd := intKind prog w) hu hk ?_)))))
    rw [ph_key]
    exact addHashed_new (s := { s with toks := s.toks + 3 }) hi hj hk S hn fun h' o' es' ep' t' hsb S' => wpAny_pure ⟨rfl, h h' o' es' ep' t' _ hsb S'⟩
  exact wpAny_call_entry F.slot_set_add S.typeIs F.entry_set_add (wpAny_mono body (fun _ _ z => ⟨_, z.1, z.2⟩) fun _ _ e => e) (F.args_set_add_2 _ _)
end
end Mine

/-! Ref1 -/
namespace Mine

/-- a test that no evaluation opens -/
noncomputable def pd (p : Prop) : Bool := @decide p (Classical.propDecidable p)
theorem pd_dec (p : Prop) [Decidable p] : pd p = decide p := by unfold pd; congr
theorem pd_True : pd True = true := by unfold pd; simp
theorem pd_False : pd False = false := by unfold pd; simp
theorem pd_of {p : Prop} (h : pd p = true) : p := by unfold pd at h; simpa using h
theorem pd_true {p : Prop} (h : p) : pd p = true := by unfold pd; simpa using h
theorem pd_false {p : Prop} (h : ¬ p) : pd p = false := by unfold pd; simpa using h

/-- flat abstract values -/
inductive FV where
  | none | bool (b : Bool) | int (i : Int) | str (s : Str) | ref (k : Nat)
  | obj (a : Addr)
inductive PV where
  | fl (f : FV) | tup (fs : List FV)
inductive MO where
  | list (xs : List PV)
  | inst (cl : Addr) (kd : Nat)
  | adict (es : List (Str × FV))
  | pset (xs : List (Nat × Nat))
  | pmap (xs : List ((Nat × Nat) × Int))
structure St where
  loc : List (Option PV)
  mem : List MO

def RF (φ : List Addr) (v : Value) : FV → Prop
  | .none => v = .none
  | .bool b => v = .bool b
  | .int i => ∃ t, v = .int i t
  | .str s => ∃ t, v = .str s t
  | .ref k => ∃ a, φ[k]? = some a ∧ v = .ref a
  | .obj a => v = .ref a
def RFs (φ : List Addr) : List Value → List FV → Prop
  | [], [] => True
  | v :: vs, f :: fs => RF φ v f ∧ RFs φ vs fs
  | _, _ => False
def RV (φ : List Addr) (h : Heap) (v : Value) : PV → Prop
  | .fl f => RF φ v f
  | .tup fs => ∃ a items, v = .ref a ∧ h.IsTuple a items ∧ RFs φ items.toList fs
def RVs (φ : List Addr) (h : Heap) : List Value → List PV → Prop
  | [], [] => True
  | v :: vs, f :: fs => RV φ h v f ∧ RVs φ h vs fs
  | _, _ => False

def Keep (h h' : Heap) : Prop := ∀ a items, h.IsTuple a items → h'.IsTuple a items
theorem Keep.refl (h : Heap) : Keep h h := fun _ _ x => x
theorem Keep.trans {h h' h'' : Heap} (x : Keep h h') (y : Keep h' h'') : Keep h h'' := fun a i z => y a i (x a i z)
theorem Keep.all {h h' : Heap} (hk : ∀ b o, h.get? b = some o → h'.get? b = some o) : Keep h h' := fun _ _ x => x.at fun o e => hk _ o e
theorem Keep.but {h h' : Heap} (P : Addr → Prop) (hk : ∀ b o, ¬ P b → h.get? b = some o → h'.get? b = some o) (hn : ∀ b items, P b → ¬ h.IsTuple b items) : Keep h h' :=
  fun a items x => x.at fun o e => hk a o (fun p => hn a items p x) e

theorem prefix_get {φ φ' : List Addr} (hp : φ <+: φ') {k : Nat} {a : Addr} (e : φ[k]? = some a) : φ'[k]? = some a := by
  obtain ⟨t, rfl⟩ := hp
  rw [List.getElem?_append_left (by exact (List.getElem?_eq_some_iff.mp e).1)]
  exact e

theorem RF.mono {φ φ' : List Addr} (hp : φ <+: φ') {v : Value} {f : FV} (x : RF φ v f) : RF φ' v f := by
  cases f with
  | ref k => obtain ⟨a, e, rfl⟩ := x; exact ⟨a, prefix_get hp e, rfl⟩
  | _ => exact x
theorem RFs.mono {φ φ' : List Addr} (hp : φ <+: φ') : ∀ {vs : List Value} {fs : List FV}, RFs φ vs fs → RFs φ' vs fs
  | [], [], _ => trivial
  | _ :: _, _ :: _, x => ⟨x.1.mono hp, RFs.mono hp x.2⟩
theorem RV.mono {φ φ' : List Addr} {h h' : Heap} (hp : φ <+: φ') (hk : Keep h h') {v : Value} {p : PV} (x : RV φ h v p) : RV φ' h' v p := by
  cases p with
  | fl f => exact RF.mono (f := f) hp x
  | tup fs => obtain ⟨a, items, rfl, ht, hr⟩ := x; exact ⟨a, items, rfl, hk _ _ ht, hr.mono hp⟩
theorem RVs.mono {φ φ' : List Addr} {h h' : Heap} (hp : φ <+: φ') (hk : Keep h h') : ∀ {vs : List Value} {fs : List PV}, RVs φ h vs fs → RVs φ' h' vs fs
  | [], [], _ => trivial
  | _ :: _, _ :: _, x => ⟨x.1.mono hp hk, RVs.mono hp hk x.2⟩
theorem RVs.length {φ : List Addr} {h : Heap} : ∀ {vs : List Value} {fs : List PV}, RVs φ h vs fs → vs.length = fs.length
  | [], [], _ => rfl
  | _ :: _, _ :: _, x => congrArg (· + 1) (RVs.length x.2)
theorem RVs.get {φ : List Addr} {h : Heap} : ∀ {vs : List Value} {fs : List PV}, RVs φ h vs fs → ∀ {i : Nat} {p : PV}, fs[i]? = some p → ∃ v, vs[i]? = some v ∧ RV φ h v p
  | v :: _, _ :: _, x, 0, p, e => ⟨v, rfl, by cases e; exact x.1⟩
  | _ :: vs, _ :: fs, x, i + 1, p, e => RVs.get (vs := vs) (fs := fs) x.2 (by simpa using e)
  | [], [], _, i, p, e => by simp at e
theorem RVs.set {φ : List Addr} {h : Heap} : ∀ {vs : List Value} {fs : List PV}, RVs φ h vs fs → ∀ (i : Nat) {v : Value} {p : PV}, RV φ h v p → RVs φ h (vs.set i v) (fs.set i p)
  | [], [], _, _, _, _, _ => trivial
  | _ :: _, _ :: _, x, 0, _, _, y => ⟨y, x.2⟩
  | _ :: _, _ :: _, x, i + 1, _, _, y => ⟨x.1, RVs.set x.2 i y⟩
theorem RVs.snoc {φ : List Addr} {h : Heap} : ∀ {vs : List Value} {fs : List PV}, RVs φ h vs fs → ∀ {v : Value} {p : PV}, RV φ h v p → RVs φ h (vs ++ [v]) (fs ++ [p])
  | [], [], _, _, _, y => ⟨y, trivial⟩
  | _ :: _, _ :: _, x, _, _, y => ⟨x.1, RVs.snoc x.2 y⟩

/-- an attribute table's entries -/
inductive Ents (φ : List Addr) : List DictEntry → List (Str × FV) → Prop
  | nil : Ents φ [] []
  | cons {e : DictEntry} {es n f fs tk} : e.key = .str n tk → RF φ e.val f → Ents φ es fs → Ents φ (e :: es) ((n, f) :: fs)
theorem Ents.mono {φ φ' : List Addr} (hp : φ <+: φ') {es fs} (x : Ents φ es fs) : Ents φ' es fs := by
  induction x with
  | nil => exact .nil
  | cons hk hv _ ih => exact .cons hk (hv.mono hp) ih

/-- a tuple of two whole numbers -/
def TupI (h : Heap) (i j : Nat) (b : Addr) : Prop := ∃ items t u, h.IsTuple b items ∧ items.toList = [.int (i : Int) t, .int (j : Int) u]
/-- a set of pairs 0..5, without the program -/
structure PS (h : Heap) (a : Addr) (xs : List (Nat × Nat)) (o : Obj) (es : Array (Int × Value)) (ep : Nat) (t : SetTable) : Prop where
  here : h.get? a = some o
  exact : o.ExactSet
  data : o.data = .set es ep t
  tab : TabOk t es
  mask : t.mask = 7 ∨ t.mask = 31 ∨ t.mask = 127
  few : es.size * 5 < t.mask * 3
  ent : ∀ (i : Nat) e, es[i]? = some e → ∃ p ∈ xs, ∃ b, e = (ph p.1 p.2, .ref b) ∧ TupI h p.1 p.2 b
  has : ∀ p ∈ xs, ∃ (i : Nat) (e : Int × Value), es[i]? = some e ∧ e.1 = ph p.1 p.2
  dom : ∀ p ∈ xs, p.1 < 6 ∧ p.2 < 6

/-- a dict's entries: pairs onto whole numbers -/
inductive PM : List (List Int × Addr × Value) → List ((Nat × Nat) × Int) → Prop
  | nil : PM [] []
  | cons {zs xs} (p : Nat × Nat) (i : Int) (b : Addr) (t : Tok) : PM zs xs → PM (([(p.1 : Int), (p.2 : Int)], b, .int i t) :: zs) ((p, i) :: xs)
theorem itemsAny {p p' : Program} {w w' : World} {ks : List Int} {vs : List Value} (x : ItemsAre (intKind p w) ks vs) : ItemsAre (intKind p' w') ks vs := by
  induction x with
  | nil => exact .nil
  | cons h _ ih => exact .cons h ih
theorem dictAny {p p' : Program} {w w' : World} {h : Heap} {d : Addr} {zs : List (List Int × Addr × Value)} (x : h.DictOfH (tupleKind (intKind p w)) d zs) : h.DictOfH (tupleKind (intKind p' w')) d zs := by
  obtain ⟨o, es, ep, h1, h2, h3, h4, h5, h6⟩ := x
  refine ⟨o, es, ep, h1, h2, h3, h4, fun x hx => ?_, h6⟩
  obtain ⟨ob, its, n, g1, g2, g3, g4⟩ := h5 x hx
  exact ⟨ob, its, n, g1, g2, g3, itemsAny g4⟩
theorem dictKeep {p : Program} {w : World} {h h' : Heap} {d : Addr} {zs : List (List Int × Addr × Value)} (ha : ∀ o, h.get? d = some o → h'.get? d = some o) (hk : Keep h h') (x : h.DictOfH (tupleKind (intKind p w)) d zs) : h'.DictOfH (tupleKind (intKind p w)) d zs := by
  obtain ⟨o, es, ep, h1, h2, h3, h4, h5, h6⟩ := x
  refine ⟨o, es, ep, ha _ h1, h2, h3, h4, fun x hx => ?_, h6⟩
  obtain ⟨ob, its, n, g1, g2, g3, g4⟩ := h5 x hx
  obtain ⟨ob', k1, k2, n', k3⟩ := hk _ _ ⟨ob, g1, g2, n, g3⟩
  exact ⟨ob', its, n', k1, k2, k3, g4⟩

def MOAt (φ : List Addr) (h : Heap) (a : Addr) : MO → Prop
  | .list xs => ∃ items, h.PlainList a items ∧ RVs φ h items.toList xs
  | .inst cl kd => ∃ dx, φ[kd]? = some dx ∧ h.get? a = some ⟨.ref cl, some dx, .plain, #[]⟩
  | .adict fs => ∃ es n, h.get? a = some (dictOf es n) ∧ Ents φ es fs
  | .pset xs => ∃ o es ep t, PS h a xs o es ep t
  | .pmap xs => ∃ zs, (∀ p w, h.DictOfH (tupleKind (intKind p w)) a zs) ∧ PM zs xs ∧ (∃ p w, h.DictOfH (tupleKind (intKind p w)) a zs)

/-- what all own objects have in common -/
theorem MOAt.get {φ : List Addr} {h : Heap} {a : Addr} {mo : MO} (x : MOAt φ h a mo) : ∃ o, h.get? a = some o ∧ (∀ v, o.data ≠ .cell v) ∧ (∀ items, ¬ h.IsTuple a items) := by
  cases mo with
  | list xs =>
    obtain ⟨items, ⟨n, h1⟩, _⟩ := x
    refine ⟨_, h1, fun v e => (nomatch e), fun its => ?_⟩
    rintro ⟨o, ho, hc, _⟩
    rw [h1] at ho; cases ho
    exact absurd (Value.type.inj hc) (by decide)
  | inst cl kd =>
    obtain ⟨dx, _, h1⟩ := x
    refine ⟨_, h1, fun v e => (nomatch e), fun its => ?_⟩
    rintro ⟨o, ho, hc, _⟩
    rw [h1] at ho; cases ho
    cases hc
  | adict fs =>
    obtain ⟨es, n, h1, _⟩ := x
    refine ⟨_, h1, fun v e => (nomatch e), fun its => ?_⟩
    rintro ⟨o, ho, hc, _⟩
    rw [h1] at ho; cases ho
    exact absurd (Value.type.inj hc) (by decide)
  | pset xs =>
    obtain ⟨o, es, ep, t, S⟩ := x
    refine ⟨_, S.here, fun v e => (by rw [S.data] at e; nomatch e), fun its => ?_⟩
    rintro ⟨o', ho, hc, _⟩
    rw [S.here] at ho; cases ho
    rw [S.exact.1] at hc
    exact absurd (Value.type.inj hc) (by decide)
  | pmap xs =>
    obtain ⟨zs, _, _, p, w, o, es, ep, h1, h2, h3, _⟩ := x
    refine ⟨_, h1, fun v e => (by rw [h3] at e; nomatch e), fun its => ?_⟩
    rintro ⟨o', ho, hc, _⟩
    rw [h1] at ho; cases ho
    rw [h2.1] at hc
    exact absurd (Value.type.inj hc) (by decide)

structure Cx where
  prog : Program
  w : World
  A : Around
  env : Env
  names : List Str
  s₀ : Shared
  mg : Str → Option Value
  mb : Str → Option Value
  K : Frag

structure Cx.Ok (C : Cx) : Prop where
  hh : C.A.handled = none
  hd : C.A.depth + 8 < recursionLimit
  hu : C.A.units + 64 < cLine
  hk : C.env.scope.kind = .function
  nodup : C.names.Nodup
  hloc : ∀ x ∈ C.names, C.env.kindOf x = some .local
  hL : C.s₀.heap.get? C.env.locals = none
  g : C.s₀.heap.Ns C.env.globals C.mg
  b : C.s₀.heap.Ns C.env.builtins C.mb
  nolimit : C.s₀.heap.NoLimit
  kin : C.K.In C.s₀.heap

structure Rep (C : Cx) (φ : List Addr) (st : St) (s : Shared) : Prop where
  same : ∃ h tk, s = { C.s₀ with heap := h, toks := tk }
  keep : ∀ b o, C.s₀.heap.get? b = some o → s.heap.get? b = some o
  len : st.loc.length = C.names.length
  loc : ∃ m, s.heap.Ns C.env.locals m ∧ ∀ (k : Nat) x pv, C.names[k]? = some x → st.loc[k]? = some (some pv) → ∃ v, m x = some v ∧ RV φ s.heap v pv
  nd : φ.Nodup
  memlen : φ.length = st.mem.length
  mem : ∀ (k : Nat) mo a, st.mem[k]? = some mo → φ[k]? = some a → MOAt φ s.heap a mo
  fresh : ∀ a ∈ φ, C.s₀.heap.get? a = none ∧ a ≠ C.env.locals

/-- how a heap grows: the own objects (φ) and the locals turn, all else stands -/
structure Ext (C : Cx) (φ : List Addr) (h : Heap) (φ' : List Addr) (h' : Heap) : Prop where
  pre : φ <+: φ'
  tup : Keep h h'
  kept : ∀ b o, b ∉ φ → b ≠ C.env.locals → h.get? b = some o → h'.get? b = some o
  new : ∀ a, a ∈ φ' → a ∉ φ → h.get? a = none ∧ a ≠ C.env.locals
theorem Ext.refl {C : Cx} (φ : List Addr) (h : Heap) : Ext C φ h φ h := ⟨List.prefix_rfl, Keep.refl _, fun _ _ _ _ e => e, fun _ a b => absurd a b⟩
theorem Ext.trans {C : Cx} {φ φ₁ φ₂ : List Addr} {h h₁ h₂ : Heap} (x : Ext C φ h φ₁ h₁) (y : Ext C φ₁ h₁ φ₂ h₂) : Ext C φ h φ₂ h₂ := by
  refine ⟨x.pre.trans y.pre, x.tup.trans y.tup, fun b o h1 h2 e => y.kept b o (fun hb => ?_) h2 (x.kept b o h1 h2 e), fun a h1 h2 => ?_⟩
  · rw [(x.new b hb h1).1] at e; cases e
  · by_cases h3 : a ∈ φ₁
    · exact x.new a h3 h2
    · have := y.new a h1 h3
      refine ⟨?_, this.2⟩
      cases e : h.get? a with
      | none => rfl
      | some o => have := x.kept a o h2 this.2 e; rw [(y.new a h1 h3).1] at this; cases this
theorem Ext.all {C : Cx} {φ : List Addr} {h h' : Heap} (hk : ∀ b o, h.get? b = some o → h'.get? b = some o) : Ext C φ h φ h' := ⟨List.prefix_rfl, Keep.all hk, fun b o _ _ e => hk b o e, fun _ a b => absurd a b⟩

/-- .. and the locals stand too: an expression -/
structure ExtE (C : Cx) (φ : List Addr) (h : Heap) (φ' : List Addr) (h' : Heap) : Prop extends Ext C φ h φ' h' where
  loc : ∀ o, h.get? C.env.locals = some o → h'.get? C.env.locals = some o
theorem ExtE.refl {C : Cx} (φ : List Addr) (h : Heap) : ExtE C φ h φ h := ⟨Ext.refl _ _, fun _ e => e⟩
theorem ExtE.trans {C : Cx} {φ φ₁ φ₂ : List Addr} {h h₁ h₂ : Heap} (x : ExtE C φ h φ₁ h₁) (y : ExtE C φ₁ h₁ φ₂ h₂) : ExtE C φ h φ₂ h₂ := ⟨x.toExt.trans y.toExt, fun o e => y.loc o (x.loc o e)⟩
theorem ExtE.all {C : Cx} {φ : List Addr} {h h' : Heap} (hk : ∀ b o, h.get? b = some o → h'.get? b = some o) : ExtE C φ h φ h' := ⟨Ext.all hk, fun o e => hk _ o e⟩

abbrev Cx.M (C : Cx) : Model := model C.prog C.w
abbrev noE : Value → Shared → Prop := fun _ _ => False

/-- what an evaluation hands on -/
def PostV (C : Cx) (φ : List Addr) (h : Heap) (st : St) (v : PV) : Value → Shared → Prop :=
  fun cv s' => ∃ φ', ExtE C φ h φ' s'.heap ∧ Rep C φ' st s' ∧ RV φ' s'.heap cv v
def PostB (C : Cx) (φ : List Addr) (h : Heap) (st : St) (v : Bool) : Bool → Shared → Prop :=
  fun cv s' => cv = v ∧ ∃ φ', ExtE C φ h φ' s'.heap ∧ Rep C φ' st s'
def PostU (C : Cx) (φ : List Addr) (h : Heap) (st : St) : Unit → Shared → Prop :=
  fun _ s' => ∃ φ', Ext C φ h φ' s'.heap ∧ Rep C φ' st s'
inductive Fl where
  | next | brk | cont | ret (v : PV)
def RFl (φ : List Addr) (h : Heap) : Flow → Fl → Prop
  | .next, .next => True
  | .brk, .brk => True
  | .cont, .cont => True
  | .ret v, .ret p => RV φ h v p
  | _, _ => False
def PostF (C : Cx) (φ : List Addr) (h : Heap) (st : St) (f : Fl) : Flow → Shared → Prop :=
  fun cf s' => ∃ φ', Ext C φ h φ' s'.heap ∧ Rep C φ' st s' ∧ RFl φ' s'.heap cf f

abbrev Mo (α : Type) := St → Option (α × St)

def EvE (C : Cx) (e : Expr) (m : Mo PV) : Prop :=
  ∀ φ st s v st', Rep C φ st s → m st = some (v, st') → wpAny C.M C.A (eval e C.env) (PostV C φ s.heap st' v) noE s
def EvT (C : Cx) (e : Expr) (m : Mo Bool) : Prop :=
  ∀ φ st s v st', Rep C φ st s → m st = some (v, st') → wpAny C.M C.A (isTrue e C.env (eval e C.env)) (PostB C φ s.heap st' v) noE s
def EvS (C : Cx) (x : Stmt) (m : Mo Fl) : Prop :=
  ∀ φ st s f st', Rep C φ st s → m st = some (f, st') → wpAny C.M C.A (exec x C.env) (PostF C φ s.heap st' f) noE s
def EvB (C : Cx) (x : List Stmt) (m : Mo Fl) : Prop :=
  ∀ φ st s f st', Rep C φ st s → m st = some (f, st') → wpAny C.M C.A (execs x C.env) (PostF C φ s.heap st' f) noE s

theorem pre_refl (φ : List Addr) : φ <+: φ := List.prefix_rfl

/-! heap steps that keep a representation -/
theorem Rep.toks {C : Cx} {φ : List Addr} {st : St} {s : Shared} (R : Rep C φ st s) (t : Nat) : Rep C φ st { s with toks := t } :=
  ⟨let ⟨h, _, e⟩ := R.same; ⟨h, t, by rw [e]⟩, R.keep, R.len, R.loc, R.nd, R.memlen, R.mem, R.fresh⟩

theorem MOAt.mono {φ φ' : List Addr} {h h' : Heap} {a : Addr} {mo : MO} (hp : φ <+: φ') (hk : Keep h h') (ha : ∀ o, h.get? a = some o → h'.get? a = some o) (x : MOAt φ h a mo) : MOAt φ' h' a mo := by
  cases mo with
  | list xs => obtain ⟨items, h1, h2⟩ := x; exact ⟨items, h1.at ha, h2.mono hp hk⟩
  | inst cl kd => obtain ⟨dx, h1, h2⟩ := x; exact ⟨dx, prefix_get hp h1, ha _ h2⟩
  | adict fs => obtain ⟨es, n, h1, h2⟩ := x; exact ⟨es, n, ha _ h1, h2.mono hp⟩
  | pset xs =>
    obtain ⟨o, es, ep, t, S⟩ := x
    exact ⟨o, es, ep, t, ha _ S.here, S.exact, S.data, S.tab, S.mask, S.few, fun i e he => let ⟨p, g1, b, g2, its, t, u, g3, g4⟩ := S.ent i e he; ⟨p, g1, b, g2, its, t, u, hk _ _ g3, g4⟩, S.has, S.dom⟩
  | pmap xs =>
    obtain ⟨zs, h1, h2, p, w, h3⟩ := x
    exact ⟨zs, fun p w => dictKeep ha hk (h1 p w), h2, p, w, dictKeep ha hk h3⟩

/-- all that stood stands -/
theorem Rep.kept {C : Cx} {φ : List Addr} {st : St} {s : Shared} (R : Rep C φ st s) {h' : Heap} {tk : Nat} (hk : ∀ b o, s.heap.get? b = some o → h'.get? b = some o) :
    Rep C φ st { s with heap := h', toks := tk } := by
  have K : Keep s.heap h' := Keep.all hk
  refine ⟨let ⟨_, _, e⟩ := R.same; ⟨h', tk, by rw [e]⟩, fun b o e => hk b o (R.keep b o e), R.len, ?_, R.nd, R.memlen, ?_, R.fresh⟩
  · obtain ⟨m, hn, hm⟩ := R.loc
    exact ⟨m, hn.keeps hk, fun k x pv e1 e2 => let ⟨v, e, r⟩ := hm k x pv e1 e2; ⟨v, e, r.mono (pre_refl _) K⟩⟩
  · exact fun k mo a e1 e2 => (R.mem k mo a e1 e2).mono (pre_refl _) K fun o e => hk a o e

theorem ns_notTuple {h : Heap} {a : Addr} {m : Str → Option Value} {items : Array Value} (hn : h.Ns a m) : ¬ h.IsTuple a items := by
  rintro ⟨o, ho, _, n, hd⟩
  obtain ⟨o', es, ep, ho', hd', _⟩ := hn
  rw [ho] at ho'; cases ho'
  rw [hd] at hd'; cases hd'
theorem list_notTuple {h : Heap} {a : Addr} {xs items : Array Value} (hn : h.IsList a xs) : ¬ h.IsTuple a items := by
  rintro ⟨o, ho, hc, _⟩
  obtain ⟨o', ho', hc', _⟩ := hn
  rw [ho] at ho'; cases ho'
  rw [hc] at hc'; exact absurd (Value.type.inj hc') (by decide)

theorem Rep.memAddr {C : Cx} {φ : List Addr} {st : St} {s : Shared} (R : Rep C φ st s) {k : Nat} {a : Addr} (e : φ[k]? = some a) : ∃ mo, st.mem[k]? = some mo := by
  have hk := (List.getElem?_eq_some_iff.mp e).1
  exact ⟨st.mem[k]'(R.memlen ▸ hk), List.getElem?_eq_getElem _⟩

/-- a local is stored -/
theorem Rep.store {C : Cx} {φ : List Addr} {st : St} {s : Shared} (O : C.Ok) (R : Rep C φ st s) {k : Nat} {x : Str} {v : Value} {p : PV} (hx : C.names[k]? = some x) (hv : RV φ s.heap v p)
    {h' : Heap} {tk : Nat} {m : Str → Option Value} (hn : s.heap.Ns C.env.locals m) (hm : ∀ (k : Nat) x pv, C.names[k]? = some x → st.loc[k]? = some (some pv) → ∃ v, m x = some v ∧ RV φ s.heap v pv)
    (hn' : h'.Ns C.env.locals fun y => if y = x then some v else m y) (hs : Heap.SameBut C.env.locals s.heap h') :
    Rep C φ { st with loc := st.loc.set k (some p) } { s with heap := h', toks := tk } ∧ Ext C φ s.heap φ h' := by
  have hk : ∀ b o, b ≠ C.env.locals → s.heap.get? b = some o → h'.get? b = some o := fun b o hb e => hs.extBut b o hb e
  have K : Keep s.heap h' := Keep.but (· = C.env.locals) hk (fun b items hb ht => by subst hb; exact ns_notTuple hn ht)
  refine ⟨⟨let ⟨_, _, e⟩ := R.same; ⟨h', tk, by rw [e]⟩, fun b o e => hk b o (fun hb => by subst hb; rw [O.hL] at e; cases e) (R.keep b o e), by simpa using R.len, ?_, R.nd, R.memlen, ?_, R.fresh⟩, List.prefix_rfl, K, fun b o _ h2 e => hk b o h2 e, fun _ a b => absurd a b⟩
  · refine ⟨_, hn', fun k' x' pv e1 e2 => ?_⟩
    by_cases hkk : k' = k
    · subst hkk
      rw [hx] at e1; cases e1
      have hlt : k' < st.loc.length := by rw [R.len]; exact (List.getElem?_eq_some_iff.mp hx).1
      rw [List.getElem?_set_self hlt] at e2
      cases e2
      exact ⟨v, by simp, hv.mono (pre_refl _) K⟩
    · rw [List.getElem?_set_ne (fun e => hkk e.symm)] at e2
      have hne : x' ≠ x := fun e => by
        subst e
        obtain ⟨l1, g1⟩ := List.getElem?_eq_some_iff.mp e1
        obtain ⟨l2, g2⟩ := List.getElem?_eq_some_iff.mp hx
        exact hkk ((List.getElem_inj O.nodup).mp (g1.trans g2.symm))
      obtain ⟨u, e, r⟩ := hm k' x' pv e1 e2
      exact ⟨u, by simp [hne, e], r.mono (pre_refl _) K⟩
  · exact fun k' mo a e1 e2 => (R.mem k' mo a e1 e2).mono (pre_refl _) K fun o e => hk a o ((R.fresh a (List.mem_of_getElem? e2)).2) e

end Mine

/-! Ref2 -/
namespace Mine

def cst (v : PV) : Mo PV := fun st => some (v, st)
def getL (k : Nat) : Mo PV := fun st => match st.loc[k]? with | some (some v) => some (v, st) | _ => none
def bindM {α β : Type} (m : Mo α) (f : α → Mo β) : Mo β := fun st => match m st with | none => none | some (a, st') => f a st'
def liftO {α : Type} (o : Option α) : Mo α := fun st => match o with | none => none | some a => some (a, st)
theorem bindM_some {α β : Type} {m : Mo α} {f : α → Mo β} {st : St} {r : β × St} (h : bindM m f st = some r) : ∃ a st', m st = some (a, st') ∧ f a st' = some r := by
  unfold bindM at h
  cases e : m st with
  | none => rw [e] at h; cases h
  | some q => rw [e] at h; exact ⟨q.1, q.2, rfl, h⟩
theorem liftO_some {α : Type} {o : Option α} {st : St} {a : α} {st' : St} (h : liftO o st = some (a, st')) : o = some a ∧ st' = st := by
  unfold liftO at h
  cases o with
  | none => cases h
  | some b => cases h; exact ⟨rfl, rfl⟩

/-- post conditions in sequence -/
theorem PostV.trans {C : Cx} {φ φ₁ : List Addr} {h h₁ : Heap} {st : St} {v : PV} {cv : Value} {s : Shared} (X : ExtE C φ h φ₁ h₁) (x : PostV C φ₁ h₁ st v cv s) : PostV C φ h st v cv s :=
  let ⟨φ', a, b⟩ := x; ⟨φ', X.trans a, b⟩
theorem PostB.trans {C : Cx} {φ φ₁ : List Addr} {h h₁ : Heap} {st : St} {v cv : Bool} {s : Shared} (X : ExtE C φ h φ₁ h₁) (x : PostB C φ₁ h₁ st v cv s) : PostB C φ h st v cv s :=
  let ⟨e, φ', a, b⟩ := x; ⟨e, φ', X.trans a, b⟩
theorem PostF.trans {C : Cx} {φ φ₁ : List Addr} {h h₁ : Heap} {st : St} {v : Fl} {cv : Flow} {s : Shared} (X : Ext C φ h φ₁ h₁) (x : PostF C φ₁ h₁ st v cv s) : PostF C φ h st v cv s :=
  let ⟨φ', a, b⟩ := x; ⟨φ', X.trans a, b⟩
theorem PostU.trans {C : Cx} {φ φ₁ : List Addr} {h h₁ : Heap} {st : St} {u : Unit} {s : Shared} (X : Ext C φ h φ₁ h₁) (x : PostU C φ₁ h₁ st u s) : PostU C φ h st u s :=
  let ⟨φ', a, b⟩ := x; ⟨φ', X.trans a, b⟩

/-- a value, nothing but tokens turned -/
theorem PostV.pure {C : Cx} {φ : List Addr} {st : St} {v : PV} {cv : Value} {s : Shared} (R : Rep C φ st s) (hv : RV φ s.heap cv v) (t : Nat) : PostV C φ s.heap st v cv { s with toks := t } :=
  ⟨φ, ExtE.refl _ _, R.toks t, hv⟩

theorem RV.int {φ : List Addr} {h : Heap} {i : Int} {t : Tok} : RV φ h (.int i t) (.fl (.int i)) := ⟨t, rfl⟩
theorem RV.str {φ : List Addr} {h : Heap} {i : Str} {t : Tok} : RV φ h (.str i t) (.fl (.str i)) := ⟨t, rfl⟩
theorem RV.none {φ : List Addr} {h : Heap} : RV φ h .none (.fl .none) := rfl
theorem RV.bool {φ : List Addr} {h : Heap} {b : Bool} : RV φ h (.bool b) (.fl (.bool b)) := rfl
section
variable {C : Cx}

theorem EvE.mk {e : Expr} {m m' : Mo PV} (h : EvE C e m) (em : m = m') : EvE C e m' := em ▸ h

theorem EvE.loc (O : C.Ok) {x : Str} {pos : Pos} {k : Nat} (hx : C.names[k]? = some x) (hd : (x == ("__debug__" : Str)) = false) : EvE C (.Name x pos) (getL k) := by
  intro φ st s v st' R hm
  unfold getL at hm
  split at hm
  · rename_i v' e
    cases hm
    obtain ⟨m, hn, hm⟩ := R.loc
    obtain ⟨u, hu, hr⟩ := hm k x v hx e
    refine wpAny_Name (wpAny_loadName_local O.hk (O.hloc x (List.mem_of_getElem? hx)) hn hu ?_) hd
    exact PostV.pure R hr s.toks
  · cases hm

theorem EvE.int {i : Int} {k pos} : EvE C (.Constant (.int i) k pos) (cst (.fl (.int i))) := by
  intro φ st s v st' R hm
  cases hm
  exact wpAny_Constant_int (PostV.pure R RV.int _)
theorem EvE.noneC {k pos} : EvE C (.Constant .none k pos) (cst (.fl .none)) := by
  intro φ st s v st' R hm
  cases hm
  show wpAny C.M C.A (pure Value.none) _ _ s
  exact wpAny_pure (PostV.pure R RV.none s.toks)
theorem EvE.str {x : Str} {k pos} : EvE C (.Constant (.str x) k pos) (cst (.fl (.str x))) := by
  intro φ st s v st' R hm
  cases hm
  show wpAny C.M C.A (mkText x) _ _ s
  exact wpAny_mkText (PostV.pure R RV.str _)

/-- two values -/
theorem ev2 {l r : Expr} {ml mr : Mo PV} (hl : EvE C l ml) (hr : EvE C r mr) {φ st s} (R : Rep C φ st s) {a b : PV} {st₁ st₂ : St} (h1 : ml st = some (a, st₁)) (h2 : mr st₁ = some (b, st₂))
    {Q : Value → Value → Shared → Prop}
    (k : ∀ φ₂ ca cb s₂, ExtE C φ s.heap φ₂ s₂.heap → Rep C φ₂ st₂ s₂ → RV φ₂ s₂.heap ca a → RV φ₂ s₂.heap cb b → Q ca cb s₂) :
    wpAny C.M C.A (eval l C.env) (fun ca s₁ => wpAny C.M C.A (eval r C.env) (fun cb s₂ => Q ca cb s₂) noE s₁) noE s := by
  refine wpAny_mono (hl φ st s a st₁ R h1) (fun ca s₁ h => ?_) fun _ _ x => x
  obtain ⟨φ₁, X₁, R₁, v₁⟩ := h
  refine wpAny_mono (hr φ₁ st₁ s₁ b st₂ R₁ h2) (fun cb s₂ h => ?_) fun _ _ x => x
  obtain ⟨φ₂, X₂, R₂, v₂⟩ := h
  exact k φ₂ ca cb s₂ (X₁.trans X₂) R₂ (v₁.mono X₂.pre X₂.tup) v₂

def binF : Operator → PV → PV → Option PV
  | .Add, .fl (.int a), .fl (.int b) => some (.fl (.int (a + b)))
  | .Sub, .fl (.int a), .fl (.int b) => some (.fl (.int (a - b)))
  | _, _, _ => none
def binM (op : Operator) (ml mr : Mo PV) : Mo PV := bindM ml fun a => bindM mr fun b => liftO (binF op a b)

theorem binF_ok {op : Operator} {a b c : PV} (hc : binF op a b = some c) {φ : List Addr} {st : St} {s : Shared} (R : Rep C φ st s) {ca cb : Value} (ra : RV φ s.heap ca a) (rb : RV φ s.heap cb b) :
    wpAny C.M C.A (binaryOp op ca cb) (PostV C φ s.heap st c) noE s := by
  unfold binF at hc
  split at hc
  · cases hc; obtain ⟨t, rfl⟩ := ra; obtain ⟨u, rfl⟩ := rb; exact add_int (PostV.pure R RV.int _)
  · cases hc; obtain ⟨t, rfl⟩ := ra; obtain ⟨u, rfl⟩ := rb; exact sub_int (PostV.pure R RV.int _)
  · cases hc

theorem EvE.bin {l r : Expr} {op pos} {ml mr : Mo PV} (hl : EvE C l ml) (hr : EvE C r mr) : EvE C (.BinOp l op r pos) (binM op ml mr) := by
  intro φ st s v st' R hm
  obtain ⟨a, st₁, h1, hm⟩ := bindM_some hm
  obtain ⟨b, st₂, h2, hm⟩ := bindM_some hm
  obtain ⟨hc, rfl⟩ := liftO_some hm
  refine wpAny_BinOp (ev2 hl hr R h1 h2 fun φ₂ ca cb s₂ X₂ R₂ ra rb => ?_)
  exact wpAny_mono (binF_ok hc R₂ ra rb) (fun _ _ x => x.trans X₂) fun _ _ x => x

noncomputable def cmpF : CmpOp → PV → PV → Option Bool
  | .Eq, .fl (.int a), .fl (.int b) => some (a == b)
  | .NotEq, .fl (.int a), .fl (.int b) => some (a != b)
  | .Lt, .fl (.int a), .fl (.int b) => some (pd (a < b))
  | .LtE, .fl (.int a), .fl (.int b) => some (pd (a ≤ b))
  | .Gt, .fl (.int a), .fl (.int b) => some (pd (a > b))
  | .GtE, .fl (.int a), .fl (.int b) => some (pd (a ≥ b))
  | .Eq, .fl (.str a), .fl (.str b) => some (a == b)
  | .NotEq, .fl (.str a), .fl (.str b) => some (a != b)
  | .Is, .fl .none, .fl .none => some true
  | .Is, .fl (.str _), .fl .none => some false
  | _, _, _ => none

theorem cmpF_ok {op : CmpOp} {a b : PV} {c : Bool} (hc : cmpF op a b = some c) {φ : List Addr} {s : Shared} {ca cb : Value} (ra : RV φ s.heap ca a) (rb : RV φ s.heap cb b) {Q : Value → Shared → Prop} (h : Q (.bool c) s) :
    wpAny C.M C.A (compareOp op ca cb) Q noE s := by
  unfold cmpF at hc
  split at hc <;> cases hc
  · obtain ⟨t, rfl⟩ := ra; obtain ⟨u, rfl⟩ := rb; exact eq_int h
  · obtain ⟨t, rfl⟩ := ra; obtain ⟨u, rfl⟩ := rb; exact ne_int h
  · obtain ⟨t, rfl⟩ := ra; obtain ⟨u, rfl⟩ := rb; rw [pd_dec] at h; exact lt_int h
  · obtain ⟨t, rfl⟩ := ra; obtain ⟨u, rfl⟩ := rb; rw [pd_dec] at h; exact le_int h
  · obtain ⟨t, rfl⟩ := ra; obtain ⟨u, rfl⟩ := rb; rw [pd_dec] at h; exact gt_int h
  · obtain ⟨t, rfl⟩ := ra; obtain ⟨u, rfl⟩ := rb; rw [pd_dec] at h; exact ge_int h
  · obtain ⟨t, rfl⟩ := ra; obtain ⟨u, rfl⟩ := rb; exact eq_str h
  · obtain ⟨t, rfl⟩ := ra; obtain ⟨u, rfl⟩ := rb; exact ne_str h
  · cases ra; cases rb; exact wpAny_pure h
  · obtain ⟨t, rfl⟩ := ra; cases rb; exact wpAny_pure h

noncomputable def cmpM (op : CmpOp) (ml mr : Mo PV) : Mo Bool := bindM ml fun a => bindM mr fun b => liftO (cmpF op a b)
def ofB (m : Mo Bool) : Mo PV := bindM m fun b => cst (.fl (.bool b))

theorem EvE.cmp {l r : Expr} {op pos} {ml mr : Mo PV} (hl : EvE C l ml) (hr : EvE C r mr) (hb : behindInMarks op r = false) : EvE C (.Compare l [op] [r] pos) (ofB (cmpM op ml mr)) := by
  intro φ st s v st' R hm
  obtain ⟨c, st₃, hm, e⟩ := bindM_some hm
  cases e
  obtain ⟨a, st₁, h1, hm⟩ := bindM_some hm
  obtain ⟨b, st₂, h2, hm⟩ := bindM_some hm
  obtain ⟨hc, rfl⟩ := liftO_some hm
  refine wpAny_Compare1 (ev2 hl hr R h1 h2 fun φ₂ ca cb s₂ X₂ R₂ ra rb => ?_) hb
  exact cmpF_ok hc ra rb ⟨φ₂, X₂, R₂, rfl⟩

theorem EvT.cmp {l r : Expr} {op pos} {ml mr : Mo PV} (hl : EvE C l ml) (hr : EvE C r mr) (hb : behindInMarks op r = false) : EvT C (.Compare l [op] [r] pos) (cmpM op ml mr) := by
  intro φ st s v st' R hm
  obtain ⟨a, st₁, h1, hm⟩ := bindM_some hm
  obtain ⟨b, st₂, h2, hm⟩ := bindM_some hm
  obtain ⟨hc, rfl⟩ := liftO_some hm
  refine wpAny_isTrue_Compare1 (ev2 hl hr R h1 h2 fun φ₂ ca cb s₂ X₂ R₂ ra rb => ?_) hb
  exact cmpF_ok hc ra rb (wpAny_truthy_bool ⟨rfl, φ₂, X₂, R₂⟩)

/-! and, or as tests -/
def andM : List (Mo Bool) → Mo Bool
  | [] => fun st => some (true, st)
  | m :: r => bindM m fun b => if b then andM r else fun st => some (false, st)
def orM : List (Mo Bool) → Mo Bool
  | [] => fun st => some (false, st)
  | m :: r => bindM m fun b => if b then fun st => some (true, st) else orM r

inductive EvTs (C : Cx) : List Expr → List (Mo Bool) → Prop
  | nil : EvTs C [] []
  | cons {e es m ms} : EvT C e m → EvTs C es ms → EvTs C (e :: es) (m :: ms)

theorem allTrue_and {es : List Expr} {ms : List (Mo Bool)} (h : EvTs C es ms) : ∀ {φ st s v st'}, Rep C φ st s → andM ms st = some (v, st') → wpAny C.M C.A (allTrue .And es C.env) (PostB C φ s.heap st' v) noE s := by
  induction h with
  | nil => intro φ st s v st' R hm; cases hm; exact wpAny_pure ⟨rfl, φ, ExtE.refl _ _, R⟩
  | @cons e es m ms h1 h2 ih =>
    intro φ st s v st' R hm
    obtain ⟨b, st₁, e1, hm⟩ := bindM_some hm
    show wpAny C.M C.A (isTrue e C.env (eval e C.env) >>= fun r => match BoolOp.And, r with | .And, false => pure false | .Or, true => pure true | _, _ => allTrue .And es C.env) _ _ s
    refine wpAny_bind (wpAny_mono (h1 φ st s b st₁ R e1) (fun r s₁ hr => ?_) fun _ _ x => x)
    obtain ⟨rfl, φ₁, X₁, R₁⟩ := hr
    cases r with
    | false => cases hm; exact wpAny_pure ⟨rfl, φ₁, X₁, R₁⟩
    | true => exact wpAny_mono (ih R₁ hm) (fun _ _ x => x.trans X₁) fun _ _ x => x
theorem allTrue_or {es : List Expr} {ms : List (Mo Bool)} (h : EvTs C es ms) : ∀ {φ st s v st'}, Rep C φ st s → orM ms st = some (v, st') → wpAny C.M C.A (allTrue .Or es C.env) (PostB C φ s.heap st' v) noE s := by
  induction h with
  | nil => intro φ st s v st' R hm; cases hm; exact wpAny_pure ⟨rfl, φ, ExtE.refl _ _, R⟩
  | @cons e es m ms h1 h2 ih =>
    intro φ st s v st' R hm
    obtain ⟨b, st₁, e1, hm⟩ := bindM_some hm
    show wpAny C.M C.A (isTrue e C.env (eval e C.env) >>= fun r => match BoolOp.Or, r with | .And, false => pure false | .Or, true => pure true | _, _ => allTrue .Or es C.env) _ _ s
    refine wpAny_bind (wpAny_mono (h1 φ st s b st₁ R e1) (fun r s₁ hr => ?_) fun _ _ x => x)
    obtain ⟨rfl, φ₁, X₁, R₁⟩ := hr
    cases r with
    | true => cases hm; exact wpAny_pure ⟨rfl, φ₁, X₁, R₁⟩
    | false => exact wpAny_mono (ih R₁ hm) (fun _ _ x => x.trans X₁) fun _ _ x => x
theorem EvT.and {es pos ms} (h : EvTs C es ms) : EvT C (.BoolOp .And es pos) (andM ms) := fun _ _ _ _ _ R hm => allTrue_and h R hm
theorem EvT.or {es pos ms} (h : EvTs C es ms) : EvT C (.BoolOp .Or es pos) (orM ms) := fun _ _ _ _ _ R hm => allTrue_or h R hm

def iteM {α : Type} (t : Mo Bool) (a b : Mo α) : Mo α := bindM t fun c => if c then a else b
theorem EvE.ifExp {t a b : Expr} {pos mt ma mb} (ht : EvT C t mt) (ha : EvE C a ma) (hb : EvE C b mb) : EvE C (.IfExp t a b pos) (iteM mt ma mb) := by
  intro φ st s v st' R hm
  obtain ⟨c, st₁, e1, hm⟩ := bindM_some hm
  show wpAny C.M C.A (isTrue t C.env (eval t C.env) >>= fun c => if c then eval a C.env else eval b C.env) _ _ s
  refine wpAny_bind (wpAny_mono (ht φ st s c st₁ R e1) (fun r s₁ hr => ?_) fun _ _ x => x)
  obtain ⟨rfl, φ₁, X₁, R₁⟩ := hr
  cases r with
  | true => exact wpAny_mono (ha _ _ _ _ _ R₁ hm) (fun _ _ x => x.trans X₁) fun _ _ x => x
  | false => exact wpAny_mono (hb _ _ _ _ _ R₁ hm) (fun _ _ x => x.trans X₁) fun _ _ x => x

theorem EvE.neg {i : Int} {k p pos} : EvE C (.UnaryOp .USub (.Constant (.int i) k p) pos) (cst (.fl (.int (-i)))) := by
  intro φ st s v st' R hm
  cases hm
  show wpAny C.M C.A (eval (.Constant (.int i) k p) C.env >>= fun v => (do standAt pos; holding [v] (unaryOp .USub v))) _ _ s
  refine wpAny_bind (wpAny_Constant_int (wpAny_bind (wpAny_standAt (wpAny_holding (neg_int ?_)))))
  exact (PostV.pure R RV.int _)
end
end Mine

/-! Ref3 -/
namespace Mine
section
variable {C : Cx}

/-! subscripts -/
noncomputable def subF (st : St) : PV → PV → Option PV
  | .fl (.str s), .fl (.int i) => if pd (0 ≤ i ∧ i < 2 ^ 62) = true then (s.cps[i.toNat]?).map fun c => .fl (.str ⟨#[c]⟩) else none
  | .fl (.ref k), .fl (.int i) => if pd (0 ≤ i ∧ i < 2 ^ 62) = true then (match st.mem[k]? with | some (.list xs) => xs[i.toNat]? | _ => none) else none
  | _, _ => none
noncomputable def subM (mv mi : Mo PV) : Mo PV := bindM mv fun a => bindM mi fun b => fun st => (subF st a b).map (·, st)

theorem Rep.listAt {φ : List Addr} {st : St} {s : Shared} (R : Rep C φ st s) {k : Nat} {a : Addr} {xs : List PV} (hm : st.mem[k]? = some (.list xs)) (ha : φ[k]? = some a) :
    ∃ items, s.heap.PlainList a items ∧ RVs φ s.heap items.toList xs := R.mem k _ a hm ha

theorem EvE.sub {v i : Expr} {pos} {mv mi : Mo PV} (hv : EvE C v mv) (hi : EvE C i mi) (hs : ∀ o x, subscripted i false o x = operate [o, x] (getItem o x)) : EvE C (.Subscript v i pos) (subM mv mi) := by
  intro φ st s r st' R hm
  obtain ⟨a, st₁, h1, hm⟩ := bindM_some hm
  obtain ⟨b, st₂, h2, hm⟩ := bindM_some hm
  obtain ⟨c, hc, e⟩ := Option.map_eq_some_iff.mp hm
  cases e
  refine Subscript_ (ev2 hv hi R h1 h2 fun φ₂ ca cb s₂ X₂ R₂ ra rb => ?_)
  unfold subF at hc
  split at hc
  · obtain ⟨t, rfl⟩ := ra; obtain ⟨u, rfl⟩ := rb
    rename_i x j _
    split at hc
    · rename_i hj
      have hj := pd_of hj
      obtain ⟨c, hcc, e⟩ := Option.map_eq_some_iff.mp hc
      cases e
      refine tail_any (typeIs_str s₂ x t) F.slot_str_getitem.lookup (P.getItem_str (c := c) ?_ ?_ ?_) (hs _ _)
      · simp only [Bool.or_eq_false_iff, decide_eq_false_iff_not]; omega
      · have hl : j.toNat < x.length := (Array.getElem?_eq_some_iff.mp hcc).1
        have : seqIndex? j x.length = some j.toNat := by
          unfold seqIndex?
          have h1 : ¬ j < 0 := by omega
          have h3 : j < (x.length : Int) := by omega
          simp [h1, hj.1, h3]
        rw [this]; exact hcc
      · exact ⟨φ₂, X₂, R₂.toks _, RV.str⟩
    · cases hc
  · obtain ⟨A, hA, rfl⟩ := ra; obtain ⟨u, rfl⟩ := rb
    rename_i k j _
    split at hc
    · rename_i hj
      have hj := pd_of hj
      split at hc
      · rename_i xs hmem
        obtain ⟨items, hl, hr⟩ := R₂.listAt hmem hA
        obtain ⟨cv, hcv, hrv⟩ := hr.get hc
        refine tail_any hl.isList.typeIs slot_list_getitem.lookup (wpAny_getItem_list hl.isList hj.1 (by omega) (x := cv) (by simpa using hcv) ?_) (hs _ _)
        exact ⟨φ₂, X₂, R₂, hrv⟩
      · cases hc
    · cases hc
  · cases hc

/-! several values -/
inductive EvEs (C : Cx) : List Expr → List (Mo PV) → Prop
  | nil : EvEs C [] []
  | cons {e es m ms} : EvE C e m → (starEach (e :: es) C.env = (false, eval e C.env) :: starEach es C.env) → EvEs C es ms → EvEs C (e :: es) (m :: ms)
def seqM : List (Mo PV) → Mo (List PV)
  | [] => fun st => some ([], st)
  | m :: ms => bindM m fun v => bindM (seqM ms) fun vs => fun st => some (v :: vs, st)
def PostVs (C : Cx) (φ : List Addr) (h : Heap) (st : St) (v : List PV) : List Value → Shared → Prop :=
  fun cv s' => ∃ φ', ExtE C φ h φ' s'.heap ∧ Rep C φ' st s' ∧ RVs φ' s'.heap cv v
theorem evs_spliced {es : List Expr} {ms : List (Mo PV)} (h : EvEs C es ms) (pos : Pos) : ∀ {φ st s vs st'}, Rep C φ st s → seqM ms st = some (vs, st') →
    wpAny C.M C.A (spliced (backTo pos (starEach es C.env))) (PostVs C φ s.heap st' vs) noE s := by
  induction h with
  | nil => intro φ st s vs st' R hm; cases hm; exact wpAny_pure ⟨φ, ExtE.refl _ _, R, trivial⟩
  | @cons e es m ms h1 hs h2 ih =>
    intro φ st s vs st' R hm
    obtain ⟨v, st₁, e1, hm⟩ := bindM_some hm
    obtain ⟨vs', st₂, e2, hm⟩ := bindM_some hm
    cases hm
    rw [hs]
    refine Calls.spliced_cons (wpAny_mono (h1 φ st s v st₁ R e1) (fun cv s₁ h => ?_) fun _ _ x => x)
    obtain ⟨φ₁, X₁, R₁, v₁⟩ := h
    refine wpAny_mono (ih R₁ e2) (fun cvs s₂ h => ?_) fun _ _ x => x
    obtain ⟨φ₂, X₂, R₂, v₂⟩ := h
    exact ⟨φ₂, X₁.trans X₂, R₂, v₁.mono X₂.pre X₂.tup, v₂⟩

def flatL : List PV → Option (List FV)
  | [] => some []
  | .fl f :: r => (flatL r).map (f :: ·)
  | .tup _ :: _ => none
theorem flatL_ok {φ : List Addr} {h : Heap} : ∀ {cvs : List Value} {vs : List PV} {fs : List FV}, RVs φ h cvs vs → flatL vs = some fs → RFs φ cvs fs
  | [], [], _, _, e => by cases e; exact trivial
  | _ :: _, .fl f :: r, fs, x, e => by
    obtain ⟨fs', e', rfl⟩ := Option.map_eq_some_iff.mp e
    exact ⟨x.1, flatL_ok x.2 e'⟩
  | _ :: _, .tup _ :: _, _, _, e => by cases e

theorem Rep.push {φ : List Addr} {st : St} {s : Shared} (R : Rep C φ st s) (o : Obj) : Rep C φ st { s with heap := s.heap.push o } :=
  R.kept (tk := s.toks) fun _ _ e => Heap.get?_push_of_some _ e

def tupM (ms : List (Mo PV)) : Mo PV := bindM (seqM ms) fun vs => liftO (if vs.length ≤ 100 then (flatL vs).map .tup else none)
theorem EvE.tuple {es : List Expr} {k pos ms} (h : EvEs C es ms) : EvE C (.Tuple es k pos) (tupM ms) := by
  intro φ st s r st' R hm
  obtain ⟨vs, st₁, e1, hm⟩ := bindM_some hm
  obtain ⟨e, rfl⟩ := liftO_some hm
  split at e
  · rename_i hl
    obtain ⟨fs, hf, rfl⟩ := Option.map_eq_some_iff.mp e
    refine Tuple_ (wpAny_mono (evs_spliced h pos R e1) (fun cvs s₁ h => ?_) fun _ _ x => x)
    obtain ⟨φ₁, X₁, R₁, v₁⟩ := h
    have hlen := v₁.length
    unfold newTuple
    refine wpAny_newObj_type ?_ (by show cvs.toArray.size ≤ sizeLine; rw [List.size_toArray, sizeLine_eq]; omega)
    refine ⟨φ₁, X₁.trans (ExtE.all fun _ _ e => Heap.get?_push_of_some _ e), R₁.push _, _, cvs.toArray, rfl, ⟨_, Heap.get?_push_size _ rfl, rfl, 0, rfl⟩, ?_⟩
    simpa using flatL_ok v₁ hf
  · cases e

/-- a new object of the abstract memory -/
theorem Rep.alloc {φ : List Addr} {st : St} {s : Shared} (R : Rep C φ st s) {o : Obj} {mo : MO}
    (hmo : ∀ φ', φ <+: φ' → MOAt φ' (s.heap.push o) s.heap.objs.size mo) :
    Rep C (φ ++ [s.heap.objs.size]) { st with mem := st.mem ++ [mo] } { s with heap := s.heap.push o } ∧ ExtE C φ s.heap (φ ++ [s.heap.objs.size]) (s.heap.push o) := by
  have hp : φ <+: φ ++ [s.heap.objs.size] := List.prefix_append ..
  have K : Keep s.heap (s.heap.push o) := Keep.all fun _ _ e => Heap.get?_push_of_some _ e
  have hlt : ∀ a ∈ φ, a < s.heap.objs.size := fun a ha => by
    obtain ⟨k, hk, e⟩ := List.getElem_of_mem ha
    have e' : φ[k]? = some a := by rw [List.getElem?_eq_getElem hk, e]
    obtain ⟨mo, hmo⟩ := R.memAddr e'
    obtain ⟨o, ho, _⟩ := (R.mem k mo a hmo e').get
    exact Heap.lt_size ho
  have hL : C.env.locals < s.heap.objs.size := by obtain ⟨m, hn, _⟩ := R.loc; exact hn.lt
  have X : ExtE C φ s.heap (φ ++ [s.heap.objs.size]) (s.heap.push o) := by
    refine ⟨⟨hp, K, fun b o _ _ e => Heap.get?_push_of_some _ e, fun a h1 h2 => ?_⟩, fun o e => Heap.get?_push_of_some _ e⟩
    rcases List.mem_append.mp h1 with h1 | h1
    · exact absurd h1 h2
    · rw [List.mem_singleton.mp h1]
      refine ⟨?_, Ne.symm (Nat.ne_of_lt hL)⟩
      cases e : s.heap.get? s.heap.objs.size with
      | none => rfl
      | some o' => exact absurd (Heap.lt_size e) (Nat.lt_irrefl _)
  refine ⟨⟨let ⟨_, tk, e⟩ := R.same; ⟨_, tk, by rw [e]⟩, fun b o e => Heap.get?_push_of_some _ (R.keep b o e), R.len, ?_, ?_, by simp [R.memlen], ?_, ?_⟩, X⟩
  · obtain ⟨m, hn, hm⟩ := R.loc
    exact ⟨m, hn.push _, fun k x pv e1 e2 => let ⟨v, e, r⟩ := hm k x pv e1 e2; ⟨v, e, r.mono hp K⟩⟩
  · refine List.nodup_append.mpr ⟨R.nd, by simp, fun a ha b hb => ?_⟩
    rw [List.mem_singleton.mp hb]
    exact Nat.ne_of_lt (hlt a ha)
  · intro k mo' a e1 e2
    by_cases hk : k < φ.length
    · rw [List.getElem?_append_left hk] at e2
      rw [List.getElem?_append_left (by rw [← R.memlen]; exact hk)] at e1
      exact (R.mem k mo' a e1 e2).mono hp K fun o e => Heap.get?_push_of_some _ e
    · have hk2 : k = φ.length := by
        have := (List.getElem?_eq_some_iff.mp e2).1
        simp at this; omega
      subst hk2
      rw [List.getElem?_append_right (Nat.le_refl _)] at e2
      rw [R.memlen, List.getElem?_append_right (Nat.le_refl _)] at e1
      simp at e1 e2
      subst e1; subst e2
      exact hmo _ hp
  · intro a ha
    rcases List.mem_append.mp ha with ha | ha
    · exact R.fresh a ha
    · rw [List.mem_singleton.mp ha]
      refine ⟨?_, Ne.symm (Nat.ne_of_lt hL)⟩
      cases e : C.s₀.heap.get? s.heap.objs.size with
      | none => rfl
      | some o' => exact absurd (Heap.lt_size (R.keep _ _ e)) (Nat.lt_irrefl _)

def newL (vs : List PV) : Mo PV := fun st => some (.fl (.ref st.mem.length), { st with mem := st.mem ++ [.list vs] })
def listM (ms : List (Mo PV)) : Mo PV := bindM (seqM ms) fun vs => if vs.length ≤ 100 then newL vs else fun _ => none
theorem EvE.list {es : List Expr} {pos ms} (h : EvEs C es ms) : EvE C (.List es pos) (listM ms) := by
  intro φ st s r st' R hm
  obtain ⟨vs, st₁, e1, hm⟩ := bindM_some hm
  split at hm
  · rename_i hl
    cases hm
    refine List_ (wpAny_mono (evs_spliced h pos R e1) (fun cvs s₁ h => ?_) fun _ _ x => x)
    obtain ⟨φ₁, X₁, R₁, v₁⟩ := h
    have hlen := v₁.length
    unfold newList
    refine wpAny_newObj_type ?_ (by show cvs.toArray.size ≤ sizeLine; rw [List.size_toArray, sizeLine_eq]; omega)
    have K : Keep s₁.heap (s₁.heap.push { cls := .type "list", data := .seq cvs.toArray }) := Keep.all fun _ _ e => Heap.get?_push_of_some _ e
    have W := R₁.alloc (o := { cls := .type "list", data := .seq cvs.toArray }) (mo := .list vs) fun φ' hp => ⟨cvs.toArray, ⟨0, Heap.get?_push_size _ rfl⟩, by simpa using v₁.mono hp K⟩
    refine ⟨φ₁ ++ [s₁.heap.objs.size], X₁.trans W.2, W.1, _, ?_, rfl⟩
    rw [← R₁.memlen]; simp
  · cases hm

/-! calls of built-in functions -/
theorem abs_e (a : Int) : (if a < 0 then -a else a) = (a.natAbs : Int) := by split <;> omega
theorem RV_min {φ : List Addr} {h : Heap} {a b : Int} {t u : Tok} : RV φ h (if b < a then .int b u else .int a t) (.fl (.int (min a b))) := by
  by_cases hba : b < a
  · have e : min a b = b := by omega
    rw [if_pos hba, e]; exact RV.int
  · have e : min a b = a := by omega
    rw [if_neg hba, e]; exact RV.int
noncomputable def bltF (st : St) : String → List PV → Option PV
  | "len", [.fl (.str x)] => if pd (x.length < 2 ^ 62) = true then some (.fl (.int x.length)) else none
  | "len", [.fl (.ref k)] => (match st.mem[k]? with | some (.list xs) => if pd (xs.length < 2 ^ 62) = true then some (.fl (.int xs.length)) else none | _ => none)
  | "abs", [.fl (.int a)] => some (.fl (.int a.natAbs))
  | "min", [.fl (.int a), .fl (.int b)] => some (.fl (.int (min a b)))
  | _, _ => none
theorem bltF_ok (O : C.Ok) {id : String} {vs : List PV} {c : PV} {st : St} (hc : bltF st id vs = some c) {φ : List Addr} {s : Shared} (R : Rep C φ st s) {cvs : List Value} (r : RVs φ s.heap cvs vs) :
    wpAny C.M C.A (call (.builtin id) cvs) (PostV C φ s.heap st c) noE s := by
  unfold bltF at hc
  split at hc
  · match cvs, r with
    | [_], ⟨⟨t, rfl⟩, _⟩ =>
      split at hc
      · rename_i hx
        have hx := pd_of hx
        cases hc
        exact P.len_str (by omega) (PostV.pure R RV.int _)
      · cases hc
  · match cvs, r with
    | [_], ⟨⟨a, ha, rfl⟩, _⟩ =>
      split at hc
      · rename_i xs hmem
        split at hc
        · rename_i hx
          have hx := pd_of hx
          cases hc
          obtain ⟨items, hl, hr⟩ := R.listAt hmem ha
          have hlen := hr.length
          have hsz : items.size = xs.length := by simpa using hlen
          refine Calls.call_len_list hl.isList (by omega) ?_
          rw [hsz]; exact PostV.pure R RV.int _
        · cases hc
      · cases hc
  · match cvs, r with
    | [_], ⟨⟨t, rfl⟩, _⟩ =>
      cases hc
      refine call_abs_int fun u tk => ?_
      rw [abs_e]; exact PostV.pure R RV.int _
  · match cvs, r with
    | [_, _], ⟨⟨t, rfl⟩, ⟨u, rfl⟩, _⟩ =>
      cases hc
      exact min_two_ints O.hh fun h' tk hk => ⟨φ, ExtE.all hk, R.kept hk, RV_min⟩
  · cases hc

noncomputable def bltM (id : String) (ms : List (Mo PV)) : Mo PV := bindM (seqM ms) fun vs => fun st => (bltF st id vs).map (·, st)

/-- a name of the built-ins -/
structure IsBuiltin (C : Cx) (x : Str) (v : Value) : Prop where
  kind : C.env.kindOf x = some .globalImplicit
  miss : C.mg x = none
  has : C.mb x = some v
structure IsGlobal (C : Cx) (x : Str) (v : Value) : Prop where
  kind : C.env.kindOf x = some .globalImplicit
  has : C.mg x = some v
theorem IsBuiltin.eval (O : C.Ok) {x : Str} {v : Value} (B : IsBuiltin C x v) {pos : Pos} {φ st s} (R : Rep C φ st s) (hd : (x == ("__debug__" : Str)) = false) {Q : Value → Shared → Prop} (h : Q v s) :
    wpAny C.M C.A (eval (.Name x pos) C.env) Q noE s :=
  Calls.Name_function_global O.hk B.kind (Calls.loadGlobal_builtin (O.g.keeps R.keep) B.miss (O.b.keeps R.keep) B.has h) hd
theorem IsGlobal.eval (O : C.Ok) {x : Str} {v : Value} (B : IsGlobal C x v) {pos : Pos} {φ st s} (R : Rep C φ st s) (hd : (x == ("__debug__" : Str)) = false) {Q : Value → Shared → Prop} (h : Q v s) :
    wpAny C.M C.A (eval (.Name x pos) C.env) Q noE s :=
  Calls.Name_function_global O.hk B.kind (Calls.loadGlobal_global (O.g.keeps R.keep) B.has h) hd

theorem noStar {es : List Expr} {ms : List (Mo PV)} (h : EvEs C es ms) (pos : Pos) : (backTo pos (starEach es C.env)).any (·.1) = false := by
  induction h with
  | nil => rfl
  | cons _ hs _ ih => rw [hs]; exact ih

theorem evalArgs_some {es : List Expr} {ms : List (Mo PV)} (h : EvEs C es ms) (hne : es ≠ []) (f : Value) (pos : Pos) {Q : Args → Shared → Prop} {s : Shared}
    (k : wpAny C.M C.A (spliced (backTo pos (starEach es C.env))) (fun vs s' => Q ⟨vs, []⟩ s') noE s) : wpAny C.M C.A (evalArgs f true (backTo pos (starEach es C.env)) []) Q noE s := by
  cases h with
  | nil => exact absurd rfl hne
  | cons _ hs _ => rw [hs] at k ⊢; exact Calls.evalArgs_plain k

theorem EvE.blt (O : C.Ok) {x : Str} {id : String} {p pos : Pos} {es : List Expr} {ms : List (Mo PV)} (B : IsBuiltin C x (.builtin id)) (hd : (x == ("__debug__" : Str)) = false) (h : EvEs C es ms) (hne : es ≠ []) :
    EvE C (.Call (.Name x p) es [] pos) (bltM id ms) := by
  intro φ st s r st' R hm
  obtain ⟨vs, st₁, e1, hm⟩ := bindM_some hm
  obtain ⟨c, hc, e⟩ := Option.map_eq_some_iff.mp hm
  cases e
  refine wpAny_Call_NameR (B.eval O R hd ?_)
  refine Calls.callWith_builtin (noStar h pos) (evalArgs_some h hne _ pos (wpAny_mono (evs_spliced h pos R e1) (fun cvs s₁ h => ?_) fun _ _ x => x))
  obtain ⟨φ₁, X₁, R₁, v₁⟩ := h
  exact wpAny_mono (bltF_ok O hc R₁ v₁) (fun _ _ x => x.trans X₁) fun _ _ x => x
end
end Mine

/-! Ref4 -/
namespace Mine
section
variable {C : Cx}

theorem Cx.Ok.pl (O : C.Ok) : (C.env.scope.kind == ScopeKind.class || C.env.scope.kind == ScopeKind.module && C.env.locals != C.env.globals) = false := by rw [O.hk]; rfl

/-! stores -/
def setL (k : Nat) (v : PV) : Mo Unit := fun st => some ((), { st with loc := st.loc.set k (some v) })
theorem store_ok (O : C.Ok) {k : Nat} {x : Str} (hx : C.names[k]? = some x) {φ : List Addr} {st : St} {s : Shared} (R : Rep C φ st s) {cv : Value} {v : PV} (hv : RV φ s.heap cv v) :
    wpAny C.M C.A (storeName C.env x cv) (PostU C φ s.heap { st with loc := st.loc.set k (some v) }) noE s := by
  obtain ⟨m, hn, hm⟩ := R.loc
  refine wpAny_storeName_local (O.hloc x (List.mem_of_getElem? hx)) hn (fun h' hn' hs => ?_) O.pl
  have W := R.store O (tk := s.toks + 1) hx hv hn hm hn' hs
  exact ⟨φ, W.2, W.1⟩

def EvTg (C : Cx) (t : Expr) (f : PV → Mo Unit) : Prop :=
  ∀ φ st s cv v st', Rep C φ st s → RV φ s.heap cv v → f v st = some ((), st') → wpAny C.M C.A (assign t C.env cv) (PostU C φ s.heap st') noE s
theorem EvTg.name (O : C.Ok) {x : Str} {pos : Pos} {k : Nat} (hx : C.names[k]? = some x) : EvTg C (.Name x pos) (setL k) := by
  intro φ st s cv v st' R hv hm
  cases hm
  exact wpAny_assign_Name (store_ok O hx R hv)

def setMem (k : Nat) (mo : MO) (st : St) : St := { st with mem := st.mem.set k mo }
/-- an own object turns -/
theorem Rep.update {φ : List Addr} {st : St} {s : Shared} (R : Rep C φ st s) {k : Nat} {a : Addr} {mo : MO} (ha : φ[k]? = some a) {h' : Heap} {tk : Nat} (hs : Heap.SameBut a s.heap h')
    (hnt : ∀ items, ¬ s.heap.IsTuple a items) (hmo : Keep s.heap h' → MOAt φ h' a mo) : Rep C φ (setMem k mo st) { s with heap := h', toks := tk } ∧ Ext C φ s.heap φ h' := by
  have hf := R.fresh a (List.mem_of_getElem? ha)
  have hk : ∀ b o, b ≠ a → s.heap.get? b = some o → h'.get? b = some o := fun b o hb e => hs.extBut b o hb e
  have K : Keep s.heap h' := Keep.but (· = a) hk (fun b items hb => by subst hb; exact hnt items)
  refine ⟨⟨let ⟨_, _, e⟩ := R.same; ⟨h', tk, by rw [e]⟩, fun b o e => hk b o (fun hb => by subst hb; rw [hf.1] at e; cases e) (R.keep b o e), R.len, ?_, R.nd, by simp [setMem, R.memlen], ?_, R.fresh⟩,
    List.prefix_rfl, K, fun b o h1 _ e => hk b o (fun hb => h1 (by subst hb; exact List.mem_of_getElem? ha)) e, fun _ x y => absurd x y⟩
  · obtain ⟨m, hn, hm⟩ := R.loc
    exact ⟨m, hn.sameBut hs (Ne.symm hf.2), fun k x pv e1 e2 => let ⟨v, e, r⟩ := hm k x pv e1 e2; ⟨v, e, r.mono (pre_refl _) K⟩⟩
  · intro k' mo' a' e1 e2
    by_cases hkk : k' = k
    · subst hkk
      rw [ha] at e2; cases e2
      have hlt : k' < st.mem.length := by rw [← R.memlen]; exact (List.getElem?_eq_some_iff.mp ha).1
      simp only [setMem, List.getElem?_set_self hlt] at e1
      cases e1
      exact hmo K
    · simp only [setMem] at e1
      rw [List.getElem?_set_ne (fun e => hkk e.symm)] at e1
      have hne : a' ≠ a := fun e => by
        subst e
        obtain ⟨l1, g1⟩ := List.getElem?_eq_some_iff.mp e2
        obtain ⟨l2, g2⟩ := List.getElem?_eq_some_iff.mp ha
        exact hkk ((List.getElem_inj R.nd).mp (g1.trans g2.symm))
      exact (R.mem k' mo' a' e1 e2).mono (pre_refl _) K fun o e => hk a' o hne e

noncomputable def setItemF (v : PV) : PV → PV → St → Option St
  | .fl (.ref k), .fl (.int i), st => if pd (0 ≤ i ∧ i < 2 ^ 62) = true then (match st.mem[k]? with | some (.list xs) => if i < xs.length then some (setMem k (.list (xs.set i.toNat v)) st) else none | _ => none) else none
  | _, _, _ => none
noncomputable def setItemM (mo mi : Mo PV) (v : PV) : Mo Unit := bindM mo fun a => bindM mi fun b => fun st => (setItemF v a b st).map ((), ·)

/-- one place of a plain list is written: the list stays plain -/
theorem setItem_plain {prog : Program} {w : World} {A : Around} {E : Value → Shared → Prop} {s : Shared} {l : Addr} {items : Array Value} {k : Int} {t : Tok} {v : Value} {Q : Unit → Shared → Prop} (hl : s.heap.PlainList l items)
    (h0 : 0 ≤ k) (hfit : k < 2 ^ 62) (hn : k < items.size)
    (hQ : ∀ h', h'.PlainList l (items.setIfInBounds k.toNat v) → Heap.SameBut l s.heap h' → Q () { s with heap := h' }) :
    wpAny (model prog w) A (setItem (.ref l) (.int k t) v) Q E s := by
  have T : s.TypeIs (.ref l) "list" := hl.isList.typeIs
  have fits := fitsIndex_of h0 (show k < 2 ^ 63 by omega)
  obtain ⟨n, ho⟩ := hl
  -- what the heap holds afterwards, for the place as a natural number
  have after : ∀ j : Nat, (s.heap.update l (Obj.mapSeq (·.setIfInBounds j v))).get? l = some { cls := .type "list", data := .seq (items.setIfInBounds j v) n } := fun j => by
    have e : Obj.mapSeq (·.setIfInBounds j v) { cls := .type "list", data := .seq items n } = { cls := .type "list", data := .seq (items.setIfInBounds j v) n } := by simp [Obj.mapSeq]
    rw [Heap.get?_update_self _ ho (by rw [e]; rfl), e]
  have done : ∀ j : Nat, k.toNat = j → Q () { s with heap := s.heap.update l (Obj.mapSeq (·.setIfInBounds j v)) } := fun j e => hQ _ ⟨n, by rw [e]; exact after j⟩ (Heap.SameBut.update ..)
  unfold setItem
  refine wpAny_holding (wpAny_bind (wpAny_sequenceKey T (by decide) (wpAny_bind (wpAny_callSpecial?_slot (name := Str.ofString "__setitem__") T slot_list_setitem
    (wpAny_call_entry slot_list_setitem T entry_list_setitem ?_ (args_list_setitem _ _ _))))))
  show wpAny _ _ (Builtin.List.listSubscript? (.int k t) >>= _) _ _ s
  refine wpAny_bind (wpAny_listSubscript_int fits ?_)
  clear fits hfit
  obtain ⟨j, rfl⟩ := Int.eq_ofNat_of_zero_le h0
  have within : j < items.size := by omega
  show wpAny _ _ ((seqItemAt l j >>= fun r => pure (r.map (j, ·))) >>= _) _ _ s
  refine wpAny_bind (wpAny_bind (wpAny_seqItemAt ho rfl (wpAny_pure ?_)))
  rw [show items[j]? = some items[j] from Array.getElem?_eq_getElem within]
  show wpAny _ _ (setSeqItemAt l j v >>= _) _ _ s
  refine wpAny_bind (wpAny_setSeqItemAt ho rfl ?_)
  have fin := done j rfl
  first
    | exact wpAny_pure ⟨.none, rfl, wpAny_pure fin⟩
    | exact wpAny_bind (wpAny_pure (wpAny_pure ⟨.none, rfl, wpAny_pure fin⟩))

theorem wpAny_release {M : Model} {A : Around} {E : Value → Shared → Prop} {s : Shared} {vs keep : List Value} {Q : Unit → Shared → Prop} (h : Q () s) : wpAny M A (release vs keep) Q E s :=
  fun Γ p _ => by rw [Sem.wp_release]; exact h

theorem EvTg.sub {o i : Expr} {pos : Pos} {mo mi : Mo PV} (ho : EvE C o mo) (hi : EvE C i mi) : EvTg C (.Subscript o i pos) (setItemM mo mi) := by
  intro φ st s cv v st' R hv hm
  obtain ⟨a, st₁, h1, hm⟩ := bindM_some hm
  obtain ⟨b, st₂, h2, hm⟩ := bindM_some hm
  obtain ⟨st₃, hc, e⟩ := Option.map_eq_some_iff.mp hm
  cases e
  rw [arm_assign_Subscript]
  refine wpAny_bind (wpAny_holding (wpAny_mono (ho φ st s a st₁ R h1) (fun ca s₁ h => ?_) fun _ _ x => x))
  obtain ⟨φ₁, X₁, R₁, v₁⟩ := h
  refine wpAny_bind (wpAny_holding (wpAny_mono (hi φ₁ st₁ s₁ b st₂ R₁ h2) (fun cb s₂ h => ?_) fun _ _ x => x))
  obtain ⟨φ₂, X₂, R₂, v₂⟩ := h
  have v₁' := v₁.mono X₂.pre X₂.tup
  have hv' := hv.mono (X₁.trans X₂).pre (X₁.trans X₂).tup
  unfold setItemF at hc
  split at hc
  · obtain ⟨A, hA, rfl⟩ := v₁'; obtain ⟨u, rfl⟩ := v₂
    split at hc
    · rename_i hj
      have hj := pd_of hj
      split at hc
      · rename_i xs hmem
        split at hc
        · rename_i hlt
          cases hc
          obtain ⟨items, hl, hr⟩ := R₂.listAt hmem hA
          have hlen := hr.length
          have hsz : items.size = xs.length := by simpa using hlen
          refine wpAny_bind (wpAny_standAt (wpAny_bind (wpAny_holding (setItem_plain hl hj.1 hj.2 (by omega) fun h' hl' hs' => wpAny_release ?_))))
          have W := R₂.update (tk := s₂.toks) hA hs' (fun items => list_notTuple hl.isList) (mo := .list (xs.set _ v)) fun K => ⟨_, hl', by
            rw [Array.toList_setIfInBounds]
            exact (hr.mono (pre_refl _) K).set _ (hv'.mono (pre_refl _) K)⟩
          exact ⟨φ₂, (X₁.trans X₂).toExt.trans W.2, W.1⟩
        · cases hc
      · cases hc
    · cases hc
  · cases hc

/-! assignments -/
def asg1 (m : Mo PV) (f : PV → Mo Unit) : Mo Fl := bindM m fun v => bindM (f v) fun _ st => some (.next, st)
def asg2 (m : Mo PV) (f g : PV → Mo Unit) : Mo Fl := bindM m fun v => bindM (f v) fun _ => bindM (g v) fun _ st => some (.next, st)

theorem assignOne {t value : Expr} {pos : Pos} {Q : Flow → Shared → Prop} {E : Value → Shared → Prop} {s : Shared} {M : Model} {A : Around} {env : Env}
    (h : wpAny M A (eval value env) (fun v s₁ => wpAny M A (assign t env v) (fun _ => Q .next) E s₁) E s)
    (hs : swapsWithSole [t] value pos.line env = pure false) (hw : swappedStores [t] value env = pure none)
    (ht : (assignEach [t] env).map (·.2) = [assign t env]) : wpAny M A (exec (.Assign [t] value pos) env) Q E s := by
  rw [exec_Assign]
  refine wpAny_bind (wpAny_standAt ?_)
  rw [hs]
  refine wpAny_bind (wpAny_pure ?_)
  rw [if_neg (by decide)]
  refine wpAny_bind (wpAny_mono h (fun v s₁ h₁ => ?_) fun _ _ x => x)
  rw [hw]
  refine wpAny_bind (wpAny_pure ?_)
  rw [ht]
  show wpAny M A (do assignAll v [assign t env]; pure .next) Q E s₁
  exact wpAny_bind (wpAny_mono h₁ (fun _ _ x => wpAny_pure x) fun _ _ x => x)

theorem EvS.assign {t value : Expr} {pos : Pos} {m : Mo PV} {f : PV → Mo Unit} (hm : EvE C value m) (ht : EvTg C t f) (hs : swapsWithSole [t] value pos.line C.env = pure false)
    (hw : swappedStores [t] value C.env = pure none) (hte : (assignEach [t] C.env).map (·.2) = [assign t C.env]) : EvS C (.Assign [t] value pos) (asg1 m f) := by
  intro φ st s fl st' R h
  obtain ⟨v, st₁, h1, h⟩ := bindM_some h
  obtain ⟨_, st₂, h2, h⟩ := bindM_some h
  cases h
  refine assignOne (wpAny_mono (hm φ st s v st₁ R h1) (fun cv s₁ h => ?_) fun _ _ x => x) hs hw hte
  obtain ⟨φ₁, X₁, R₁, v₁⟩ := h
  refine wpAny_mono (ht φ₁ st₁ s₁ cv v _ R₁ v₁ h2) (fun _ s₂ h => ?_) fun _ _ x => x
  obtain ⟨φ₂, X₂, R₂⟩ := h
  exact ⟨φ₂, X₁.toExt.trans X₂, R₂, trivial⟩

theorem EvS.assign2 {t₁ t₂ value : Expr} {pos : Pos} {m : Mo PV} {f g : PV → Mo Unit} (hm : EvE C value m) (ht₁ : EvTg C t₁ f) (ht₂ : EvTg C t₂ g)
    (hte : (assignEach [t₁, t₂] C.env).map (·.2) = [PySem.assign t₁ C.env, PySem.assign t₂ C.env]) (hw : swappedStores [t₁, t₂] value C.env = pure none) : EvS C (.Assign [t₁, t₂] value pos) (asg2 m f g) := by
  intro φ st s fl st' R h
  obtain ⟨v, st₁, h1, h⟩ := bindM_some h
  obtain ⟨_, st₂, h2, h⟩ := bindM_some h
  obtain ⟨_, st₃, h3, h⟩ := bindM_some h
  cases h
  refine wpAny_Assign_two (wpAny_mono (hm φ st s v st₁ R h1) (fun cv s₁ h => ?_) fun _ _ x => x) hte hw
  obtain ⟨φ₁, X₁, R₁, v₁⟩ := h
  refine wpAny_mono (ht₁ φ₁ st₁ s₁ cv v st₂ R₁ v₁ h2) (fun _ s₂ h => ?_) fun _ _ x => x
  obtain ⟨φ₂, X₂, R₂⟩ := h
  refine wpAny_mono (ht₂ φ₂ st₂ s₂ cv v _ R₂ (v₁.mono X₂.pre X₂.tup) h3) (fun _ s₃ h => ?_) fun _ _ x => x
  obtain ⟨φ₃, X₃, R₃⟩ := h
  exact ⟨φ₃, (X₁.toExt.trans X₂).trans X₃, R₃, trivial⟩

/-! a tuple's places onto names -/
def setLs : List Nat → List FV → Mo Unit
  | [], [] => fun st => some ((), st)
  | k :: ks, f :: fs => bindM (setL k (.fl f)) fun _ => setLs ks fs
  | _, _ => fun _ => none
def tupTg (ks : List Nat) : PV → Mo Unit
  | .tup fs => setLs ks fs
  | _ => fun _ => none
/-- targets that are names -/
inductive NamesAt (C : Cx) : List Expr → List Nat → Prop
  | nil : NamesAt C [] []
  | cons {x p es k ks} : C.names[k]? = some x → (∀ r, assignEach (.Name x p :: r) C.env = (false, assign (.Name x p) C.env) :: assignEach r C.env) → NamesAt C es ks → NamesAt C (.Name x p :: es) (k :: ks)
theorem NamesAt.shape {es : List Expr} {ks : List Nat} (h : NamesAt C es ks) : (assignEach es C.env).length = ks.length ∧ (assignEach es C.env).findIdx? (·.1) = none := by
  induction h with
  | nil => exact ⟨rfl, rfl⟩
  | cons _ hs _ ih => rw [hs]; exact ⟨by simp [ih.1], by rw [List.findIdx?_cons]; simp [ih.2]⟩
theorem setLs_len : ∀ {ks : List Nat} {fs : List FV} {st : St} {r : Unit × St}, setLs ks fs st = some r → ks.length = fs.length
  | [], [], _, _, _ => rfl
  | _ :: _, _ :: _, _, _, h => by obtain ⟨_, _, _, h⟩ := bindM_some h; simp [setLs_len h]
  | [], _ :: _, _, _, h => by cases h
  | _ :: _, [], _, _, h => by cases h
theorem RFs.len {φ : List Addr} : ∀ {vs : List Value} {fs : List FV}, RFs φ vs fs → vs.length = fs.length
  | [], [], _ => rfl
  | _ :: _, _ :: _, x => congrArg (· + 1) (RFs.len x.2)
theorem inOrder_ok (O : C.Ok) {es : List Expr} {ks : List Nat} (h : NamesAt C es ks) : ∀ {φ st s cvs fs st'}, Rep C φ st s → RFs φ cvs fs → setLs ks fs st = some ((), st') →
    wpAny C.M C.A (assignInOrder ((assignEach es C.env).map (·.2)) cvs) (PostU C φ s.heap st') noE s := by
  induction h with
  | nil =>
    intro φ st s cvs fs st' R r hm
    cases fs with
    | nil => cases hm; match cvs, r with | [], _ => exact wpAny_pure ⟨φ, Ext.refl _ _, R⟩
    | cons => cases hm
  | @cons x p es k ks hx hs _ ih =>
    intro φ st s cvs fs st' R r hm
    cases fs with
    | nil => cases hm
    | cons f fs =>
      match cvs, r with
      | cv :: cvs, r =>
        obtain ⟨_, st₁, h1, hm⟩ := bindM_some hm
        rw [hs]
        show wpAny C.M C.A (holding cvs (assign (.Name x p) C.env cv) >>= fun _ => assignInOrder ((assignEach es C.env).map (·.2)) cvs) _ _ s
        refine wpAny_bind (wpAny_holding (wpAny_mono (EvTg.name O hx φ st s cv (.fl f) st₁ R r.1 h1) (fun _ s₁ h => ?_) fun _ _ x => x))
        obtain ⟨φ₁, X₁, R₁⟩ := h
        exact wpAny_mono (ih R₁ (r.2.mono X₁.pre) hm) (fun _ _ x => x.trans X₁) fun _ _ x => x

theorem EvTg.tuple (O : C.Ok) {es : List Expr} {x1 pos ks} (h : NamesAt C es ks) : EvTg C (.Tuple es x1 pos) (tupTg ks) := by
  intro φ st s cv v st' R hv hm
  cases v with
  | fl f => cases hm
  | tup fs =>
    obtain ⟨a, items, rfl, ht, hr⟩ := hv
    have hl := setLs_len hm
    have hl2 := hr.len
    refine wpAny_assign_Tuple O.hh ht (by rw [h.shape.1]; simpa [hl] using hl2.symm) h.shape.2 fun h' hx => ?_
    have hk : ∀ b o, s.heap.get? b = some o → h'.get? b = some o := fun b o e => hx b o (Nat.ne_of_lt (Heap.lt_size e)) e
    exact wpAny_mono (inOrder_ok O h (R.kept (tk := s.toks) hk) hr hm) (fun _ _ x => x.trans (Ext.all hk)) fun _ _ x => x

/-! swapped stores: a tuple of values onto names, the stores from behind -/
theorem inOrderN_ok (O : C.Ok) : ∀ {xs : List Str} {ks : List Nat} {φ st s cvs fs st'}, (∀ (i : Nat) k x, ks[i]? = some k → xs[i]? = some x → C.names[k]? = some x) → xs.length = ks.length → Rep C φ st s → RFs φ cvs fs → setLs ks fs st = some ((), st') →
    wpAny C.M C.A (assignInOrder (xs.map fun n => bindName C.env n) cvs) (PostU C φ s.heap st') noE s
  | [], [], φ, st, s, cvs, fs, st', _, _, R, r, hm => by
    cases fs with
    | nil => cases hm; match cvs, r with | [], _ => exact wpAny_pure ⟨φ, Ext.refl _ _, R⟩
    | cons => cases hm
  | x :: xs, k :: ks, φ, st, s, cvs, fs, st', hx, hl, R, r, hm => by
    cases fs with
    | nil => cases hm
    | cons f fs =>
      match cvs, r with
      | cv :: cvs, r =>
        obtain ⟨_, st₁, h1, hm⟩ := bindM_some hm
        show wpAny C.M C.A (holding cvs (bindName C.env x cv) >>= fun _ => assignInOrder (xs.map fun n => bindName C.env n) cvs) _ _ s
        cases h1
        refine wpAny_bind (wpAny_holding (wpAny_bindName (wpAny_mono (store_ok O (hx 0 k x rfl rfl) R (v := .fl f) r.1) (fun _ s₁ h => ?_) fun _ _ x => x)))
        obtain ⟨φ₁, X₁, R₁⟩ := h
        exact wpAny_mono (inOrderN_ok O (fun i k x e1 e2 => hx (i + 1) k x e1 e2) (by simpa using hl) R₁ (r.2.mono X₁.pre) hm) (fun _ _ x => x.trans X₁) fun _ _ x => x
  | [], _ :: _, _, _, _, _, _, _, _, hl, _, _, _ => by cases hl
  | _ :: _, [], _, _, _, _, _, _, _, hl, _, _, _ => by cases hl
theorem RFs.append {φ : List Addr} : ∀ {vs : List Value} {fs : List FV} {us : List Value} {gs : List FV}, RFs φ vs fs → RFs φ us gs → RFs φ (vs ++ us) (fs ++ gs)
  | [], [], _, _, _, y => y
  | _ :: _, _ :: _, _, _, x, y => ⟨x.1, RFs.append x.2 y⟩
theorem RFs.reverse {φ : List Addr} : ∀ {vs : List Value} {fs : List FV}, RFs φ vs fs → RFs φ vs.reverse fs.reverse
  | [], [], _ => trivial
  | v :: vs, f :: fs, x => by rw [List.reverse_cons, List.reverse_cons]; exact RFs.append (RFs.reverse x.2) ⟨x.1, trivial⟩

def asgSw (m : Mo PV) (ks : List Nat) : Mo Fl := bindM m fun v => match v with
  | .tup fs => bindM (setLs ks fs.reverse) fun _ st => some (.next, st)
  | _ => fun _ => none
theorem EvS.assignSw (O : C.Ok) {elts : List Expr} {k tpos value pos} {xs : List Str} {ks : List Nat} {m : Mo PV} (hm : EvE C value m) (hx : ∀ (i : Nat) k x, ks[i]? = some k → xs.reverse[i]? = some x → C.names[k]? = some x) (hl : xs.length = ks.length)
    (hs : swapsWithSole [.Tuple elts k tpos] value pos.line C.env = pure false) (hw : swappedStores [.Tuple elts k tpos] value C.env = pure (some xs)) :
    EvS C (.Assign [.Tuple elts k tpos] value pos) (asgSw m ks) := by
  intro φ st s fl st' R h
  obtain ⟨v, st₁, h1, h⟩ := bindM_some h
  cases v with
  | fl f => cases h
  | tup fs =>
    obtain ⟨_, st₂, h2, h⟩ := bindM_some h
    cases h
    refine Assign_Tuple_swapped (wpAny_mono (hm φ st s _ st₁ R h1) (fun cv s₁ h => ?_) fun _ _ x => x) hs hw
    obtain ⟨φ₁, X₁, R₁, v₁⟩ := h
    obtain ⟨a, items, rfl, ht, hr⟩ := v₁
    have e1 := setLs_len h2
    have e2 := hr.len
    have hn : xs.length = items.size := by simp at e1 e2; omega
    rw [hn]
    refine wpAny_unpackItems_tuple O.hh ht fun h' hx' => ?_
    have hk : ∀ b o, s₁.heap.get? b = some o → h'.get? b = some o := fun b o e => hx' b o (Nat.ne_of_lt (Heap.lt_size e)) e
    refine wpAny_mono (inOrderN_ok O hx (by simpa using hl) (R₁.kept (tk := s₁.toks) hk) hr.reverse h2) (fun _ s₂ h => ?_) fun _ _ x => x
    obtain ⟨φ₂, X₂, R₂⟩ := h
    exact ⟨φ₂, (X₁.toExt.trans (Ext.all hk)).trans X₂, R₂, trivial⟩

/-! x op= e -/
def augM (op : Operator) (k : Nat) (m : Mo PV) : Mo Fl := bindM (getL k) fun a => bindM m fun b => bindM (liftO (binF op a b)) fun c => bindM (setL k c) fun _ st => some (.next, st)
theorem augF_ok {op : Operator} {a b c : PV} (hc : binF op a b = some c) {φ : List Addr} {st : St} {s : Shared} (R : Rep C φ st s) {ca cb : Value} (ra : RV φ s.heap ca a) (rb : RV φ s.heap cb b) :
    wpAny C.M C.A (inplaceOp op ca cb) (PostV C φ s.heap st c) noE s := by
  unfold binF at hc
  split at hc
  · cases hc; obtain ⟨t, rfl⟩ := ra; obtain ⟨u, rfl⟩ := rb; exact PyProof.Rows.iadd_int (PostV.pure R RV.int _)
  · cases hc; obtain ⟨t, rfl⟩ := ra; obtain ⟨u, rfl⟩ := rb; exact PyProof.Rows.isub_int (PostV.pure R RV.int _)
  · cases hc
theorem EvS.aug (O : C.Ok) {x : Str} {pos' op value pos} {k : Nat} {m : Mo PV} (hx : C.names[k]? = some x) (hv : EvE C value m) : EvS C (.AugAssign (.Name x pos') op value pos) (augM op k m) := by
  intro φ st s fl st' R h
  obtain ⟨a, st₁, h1, h⟩ := bindM_some h
  obtain ⟨b, st₂, h2, h⟩ := bindM_some h
  obtain ⟨c, st₃, h3, h⟩ := bindM_some h
  obtain ⟨_, st₄, h4, h⟩ := bindM_some h
  cases h
  obtain ⟨hc, e3⟩ := liftO_some h3
  unfold setL at h4
  cases h4
  subst e3
  unfold getL at h1
  split at h1
  · rename_i v' e
    cases h1
    obtain ⟨m, hn, hm⟩ := R.loc
    obtain ⟨u, hu, hr⟩ := hm k x a hx e
    refine wpAny_AugAssign_Name (wpAny_loadName_local O.hk (O.hloc x (List.mem_of_getElem? hx)) hn hu ?_)
    refine wpAny_mono (hv φ st s b _ R h2) (fun cb s₁ h => ?_) fun _ _ x => x
    obtain ⟨φ₁, X₁, R₁, v₁⟩ := h
    refine wpAny_mono (augF_ok hc R₁ (hr.mono X₁.pre X₁.tup) v₁) (fun cc s₂ h => ?_) fun _ _ x => x
    obtain ⟨φ₂, X₂, R₂, v₂⟩ := h
    refine wpAny_mono (store_ok O hx R₂ v₂) (fun _ s₃ h => ?_) fun _ _ x => x
    obtain ⟨φ₃, X₃, R₃⟩ := h
    exact ⟨φ₃, (X₁.trans X₂).toExt.trans X₃, R₃, trivial⟩
  · cases h1

/-! blocks, if, return -/
def blkM : List (Mo Fl) → Mo Fl
  | [] => fun st => some (.next, st)
  | m :: ms => bindM m fun f => match f with
    | .next => blkM ms
    | f => fun st => some (f, st)
theorem EvB.nil : EvB C [] (blkM []) := by
  intro φ st s f st' R h
  cases h
  exact wpAny_execs_nil ⟨φ, Ext.refl _ _, R, trivial⟩
theorem EvB.cons {x : Stmt} {xs : List Stmt} {m : Mo Fl} {ms : List (Mo Fl)} (h1 : EvS C x m) (h2 : EvB C xs (blkM ms)) : EvB C (x :: xs) (blkM (m :: ms)) := by
  intro φ st s f st' R h
  obtain ⟨g, st₁, e1, h⟩ := bindM_some h
  refine wpAny_execs_cons (wpAny_mono (h1 φ st s g st₁ R e1) (fun cf s₁ hp => ?_) fun _ _ x => x)
  obtain ⟨φ₁, X₁, R₁, r₁⟩ := hp
  cases g with
  | next =>
    cases cf with
    | next => exact wpAny_mono (h2 φ₁ st₁ s₁ f st' R₁ h) (fun _ _ x => x.trans X₁) fun _ _ x => x
    | _ => exact r₁.elim
  | brk => cases h; cases cf with | brk => exact ⟨φ₁, X₁, R₁, r₁⟩ | _ => exact r₁.elim
  | cont => cases h; cases cf with | cont => exact ⟨φ₁, X₁, R₁, r₁⟩ | _ => exact r₁.elim
  | ret v => cases h; cases cf with | ret v => exact ⟨φ₁, X₁, R₁, r₁⟩ | _ => exact r₁.elim

theorem EvS.ite {t : Expr} {a b : List Stmt} {pos mt ma mb} (ht : EvT C t mt) (ha : EvB C a ma) (hb : EvB C b mb) : EvS C (.If t a b pos) (iteM mt ma mb) := by
  intro φ st s f st' R h
  obtain ⟨c, st₁, e1, h⟩ := bindM_some h
  refine wpAny_If (wpAny_mono (ht φ st s c st₁ R e1) (fun r s₁ hr => ?_) fun _ _ x => x)
  obtain ⟨rfl, φ₁, X₁, R₁⟩ := hr
  cases r with
  | true => exact wpAny_mono (ha _ _ _ _ _ R₁ h) (fun _ _ x => x.trans X₁.toExt) fun _ _ x => x
  | false => exact wpAny_mono (hb _ _ _ _ _ R₁ h) (fun _ _ x => x.trans X₁.toExt) fun _ _ x => x

def retM (m : Mo PV) : Mo Fl := bindM m fun v st => some (.ret v, st)
theorem EvS.ret {e : Expr} {pos m} (h : EvE C e m) : EvS C (.Return (some e) pos) (retM m) := by
  intro φ st s f st' R hm
  obtain ⟨v, st₁, e1, hm⟩ := bindM_some hm
  cases hm
  refine wpAny_Return_some (wpAny_mono (h φ st s v st' R e1) (fun cv s₁ hp => ?_) fun _ _ x => x)
  obtain ⟨φ₁, X₁, R₁, v₁⟩ := hp
  exact ⟨φ₁, X₁.toExt, R₁, v₁⟩
theorem EvS.cont {pos} : EvS C (.Continue pos) (fun st => some (.cont, st)) := by
  intro φ st s f st' R hm
  cases hm
  exact wpAny_Continue ⟨φ, Ext.refl _ _, R, trivial⟩
end
end Mine

/-! Ref5 -/
namespace Mine
section
variable {C : Cx}

/-! while -/
def whileM : Nat → Mo Bool → Mo Fl → Mo Fl
  | 0, _, _ => fun _ => none
  | n + 1, t, b => bindM t fun c => if c then bindM b fun f => match f with
      | .next => whileM n t b
      | .cont => whileM n t b
      | .brk => fun st => some (.next, st)
      | .ret v => fun st => some (.ret v, st)
    else fun st => some (.next, st)

theorem EvS.while {t : Expr} {body : List Stmt} {pos mt mb} (n : Nat) (ht : EvT C t mt) (hb : EvB C body mb) : EvS C (.While t body [] pos) (whileM n mt mb) := by
  intro φ st s f st' R h
  refine wpAny_While (codeAny_whileLoop (fun k s' => ∃ φ₁ st₁, Ext C φ s.heap φ₁ s'.heap ∧ Rep C φ₁ st₁ s' ∧ whileM k mt mb st₁ = some (f, st')) ?_ n ⟨φ, st, Ext.refl _ _, R, h⟩)
  rintro k s' ⟨φ₁, st₁, X₁, R₁, h₁⟩
  cases k with
  | zero => cases h₁
  | succ k =>
    obtain ⟨c, st₂, e₂, h₁⟩ := bindM_some h₁
    refine wpAny_mono (ht φ₁ st₁ s' c st₂ R₁ e₂) (fun b s₂ hp => ?_) fun _ _ x => x.elim
    obtain ⟨rfl, φ₂, X₂, R₂⟩ := hp
    cases b with
    | true =>
      simp only [if_true] at h₁ ⊢
      obtain ⟨g, st₃, e₃, h₁⟩ := bindM_some h₁
      refine wpAny_mono (hb φ₂ st₂ s₂ g st₃ R₂ e₃) (fun cf s₃ hp => ?_) fun _ _ x => x.elim
      obtain ⟨φ₃, X₃, R₃, r₃⟩ := hp
      have X := X₁.trans (X₂.toExt.trans X₃)
      cases g with
      | next => cases cf with | next => exact ⟨k, Nat.lt_succ_self _, φ₃, st₃, X, R₃, h₁⟩ | _ => exact r₃.elim
      | cont => cases cf with | cont => exact ⟨k, Nat.lt_succ_self _, φ₃, st₃, X, R₃, h₁⟩ | _ => exact r₃.elim
      | brk => cases h₁; cases cf with | brk => exact ⟨φ₃, X, R₃, trivial⟩ | _ => exact r₃.elim
      | ret v => cases h₁; cases cf with | ret v => exact ⟨φ₃, X, R₃, r₃⟩ | _ => exact r₃.elim
    | false =>
      simp only [Bool.false_eq_true, if_false] at h₁ ⊢
      cases h₁
      exact wpAny_execs_nil ⟨φ₂, X₁.trans X₂.toExt, R₂, trivial⟩

/-! an object beside (an iterator) turns -/
structure Side (C : Cx) (φ : List Addr) (I : Addr) : Prop where
  out : I ∉ φ
  ne : I ≠ C.env.locals
  fresh : C.s₀.heap.get? I = none

theorem Rep.beside {φ : List Addr} {st : St} {s : Shared} (R : Rep C φ st s) {I : Addr} (S : Side C φ I) {h' : Heap} {tk : Nat} (hk : ∀ b o, b ≠ I → s.heap.get? b = some o → h'.get? b = some o)
    (hnt : ∀ items, ¬ s.heap.IsTuple I items) : Rep C φ st { s with heap := h', toks := tk } ∧ Keep s.heap h' := by
  have K : Keep s.heap h' := Keep.but (· = I) hk (fun b items hb => by subst hb; exact hnt items)
  refine ⟨⟨let ⟨_, _, e⟩ := R.same; ⟨h', tk, by rw [e]⟩, fun b o e => hk b o (fun hb => by subst hb; rw [S.fresh] at e; cases e) (R.keep b o e), R.len, ?_, R.nd, R.memlen, ?_, R.fresh⟩, K⟩
  · obtain ⟨m, hn, hm⟩ := R.loc
    exact ⟨m, hn.at' fun o e => hk _ o (Ne.symm S.ne) e, fun k x pv e1 e2 => let ⟨v, e, r⟩ := hm k x pv e1 e2; ⟨v, e, r.mono (pre_refl _) K⟩⟩
  · exact fun k mo a e1 e2 => (R.mem k mo a e1 e2).mono (pre_refl _) K fun o e => hk a o (fun hb => S.out (by subst hb; exact List.mem_of_getElem? e2)) e

theorem Ext.beside {φ φ₁ : List Addr} {h h₁ h' : Heap} (X : Ext C φ h φ₁ h₁) {I : Addr} (hI : h.get? I = none) (hk : ∀ b o, b ≠ I → h₁.get? b = some o → h'.get? b = some o) : Ext C φ h φ₁ h' := by
  refine ⟨X.pre, fun a items x => ?_, fun b o h1 h2 e => hk b o (fun hb => by subst hb; rw [hI] at e; cases e) (X.kept b o h1 h2 e), X.new⟩
  have hne : a ≠ I := fun e => by subst e; obtain ⟨o, ho, _⟩ := x; rw [hI] at ho; cases ho
  exact (X.tup a items x).at fun o e => hk a o hne e

theorem Side.ext {φ φ₁ : List Addr} {h h₁ : Heap} {I : Addr} (S : Side C φ I) (X : Ext C φ h φ₁ h₁) {o : Obj} (ho : h.get? I = some o) : Side C φ₁ I ∧ h₁.get? I = some o := by
  refine ⟨⟨fun hm => ?_, S.ne, S.fresh⟩, X.kept I o S.out S.ne ho⟩
  rw [(X.new I hm S.out).1] at ho; cases ho

/-! for over a range -/
def loopR (f : PV → Mo Unit) (b : Mo Fl) (c : Int) : Nat → Int → Mo Fl
  | 0, _ => fun st => some (.next, st)
  | n + 1, i => bindM (f (.fl (.int i))) fun _ => bindM b fun fl => match fl with
      | .next => loopR f b c n (i + c)
      | .cont => loopR f b c n (i + c)
      | .brk => fun st => some (.next, st)
      | .ret v => fun st => some (.ret v, st)

theorem rangeIter_notTuple {h : Heap} {I : Addr} {x l c : Int} (hi : IsRangeIter h I x l c) (items : Array Value) : ¬ h.IsTuple I items := by
  rintro ⟨o, ho, hc, _⟩
  have hi' : h.get? I = some _ := hi
  rw [hi'] at ho
  cases ho
  exact absurd (Value.type.inj hc) (by decide)

theorem loopR_ok (O : C.Ok) {t : Expr} {body : List Stmt} {f : PV → Mo Unit} {mb : Mo Fl} (ht : EvTg C t f) (hb : EvB C body mb) {I : Addr} {a c : Int} {n : Nat} (htu : ∀ v, letOwnedTupleGo t (.ref I) v = pure ())
    {φ₀ : List Addr} {h₀ : Heap} (hI : h₀.get? I = none) {fl : Fl} {st' : St} {Q : Flow → Shared → Prop} (hQ : ∀ cf s', PostF C φ₀ h₀ st' fl cf s' → Q cf s')
    {φ st s} (X : Ext C φ₀ h₀ φ s.heap) (R : Rep C φ st s) (S : Side C φ I) (hit : IsRangeIter s.heap I a n c) (hm : loopR f mb c n a st = some (fl, st')) :
    codeAny C.M C.A (.forLoop t (.ref I) body [] C.env) (fun r s' => match r with | .ok f => Q f s' | .error e => cameBackBy C.M C.A C.env noE e s') s := by
  refine codeAny_forLoop (fun k s' => ∃ φ₁ st₁ i, ∃ left : Nat, k = left + 1 ∧ Ext C φ₀ h₀ φ₁ s'.heap ∧ Rep C φ₁ st₁ s' ∧ Side C φ₁ I ∧ IsRangeIter s'.heap I i left c ∧ loopR f mb c left i st₁ = some (fl, st')) ?_ (n + 1)
    ⟨φ, st, a, n, rfl, X, R, S, hit, hm⟩ htu
  rintro k s' ⟨φ₁, st₁, i, left, rfl, X₁, R₁, S₁, hit₁, h₁⟩
  cases left with
  | zero =>
    cases h₁
    refine wpAny_pyNext_range_end O.hh hit₁ (by omega) fun h' he' => wpAny_execs_nil (hQ _ _ ?_)
    have hk : ∀ b o, b ≠ I → s'.heap.get? b = some o → h'.get? b = some o := fun b o hb e => he' b o hb e
    have W := R₁.beside S₁ (tk := s'.toks) hk (rangeIter_notTuple hit₁)
    exact ⟨φ₁, X₁.beside hI hk, W.1, trivial⟩
  | succ left =>
    obtain ⟨_, st₂, e₂, h₁⟩ := bindM_some h₁
    obtain ⟨g, st₃, e₃, h₁⟩ := bindM_some h₁
    refine wpAny_pyNext_range_item hit₁ (by omega) fun h' hit' hs' => ?_
    have hk : ∀ b o, b ≠ I → s'.heap.get? b = some o → h'.get? b = some o := fun b o hb e => hs'.extBut b o hb e
    have W := R₁.beside S₁ (tk := s'.toks + 1) hk (rangeIter_notTuple hit₁)
    have X₂ := X₁.beside hI hk
    refine wpAny_mono (ht φ₁ st₁ _ _ (.fl (.int i)) st₂ W.1 RV.int e₂) (fun _ s₃ hp => ?_) fun _ _ x => x.elim
    obtain ⟨φ₃, X₃, R₃⟩ := hp
    have hit'' : h'.get? I = some _ := hit'
    have T₃ := S₁.ext X₃ hit''
    refine wpAny_mono (hb φ₃ st₂ s₃ g st₃ R₃ e₃) (fun cf s₄ hp => ?_) fun _ _ x => x.elim
    obtain ⟨φ₄, X₄, R₄, r₄⟩ := hp
    have T₄ := T₃.1.ext X₄ T₃.2
    have X₅ := (X₂.trans X₃).trans X₄
    have e : ((left + 1 : Nat) : Int) - 1 = (left : Int) := by omega
    have it₄ : IsRangeIter s₄.heap I (i + c) left c := by rw [← e]; exact T₄.2
    cases g with
    | next => cases cf with | next => exact ⟨left + 1, by omega, φ₄, st₃, i + c, left, rfl, X₅, R₄, T₄.1, it₄, h₁⟩ | _ => exact r₄.elim
    | cont => cases cf with | cont => exact ⟨left + 1, by omega, φ₄, st₃, i + c, left, rfl, X₅, R₄, T₄.1, it₄, h₁⟩ | _ => exact r₄.elim
    | brk => cases h₁; cases cf with | brk => exact hQ _ _ ⟨φ₄, X₅, R₄, trivial⟩ | _ => exact r₄.elim
    | ret v => cases h₁; cases cf with | ret v => exact hQ _ _ ⟨φ₄, X₅, R₄, r₄⟩ | _ => exact r₄.elim

theorem Rep.side {φ : List Addr} {st : St} {s : Shared} (R : Rep C φ st s) {I : Addr} (hI : s.heap.get? I = none) : Side C φ I := by
  refine ⟨fun hm => ?_, fun e => ?_, ?_⟩
  · obtain ⟨k, hk, e⟩ := List.getElem_of_mem hm
    have e' : φ[k]? = some I := by rw [List.getElem?_eq_getElem hk, e]
    obtain ⟨mo, hmo⟩ := R.memAddr e'
    obtain ⟨o, ho, _⟩ := (R.mem k mo I hmo e').get
    rw [hI] at ho; cases ho
  · subst e; obtain ⟨m, ⟨o, _, _, ho, _⟩, _⟩ := R.loc; rw [hI] at ho; cases ho
  · cases e : C.s₀.heap.get? I with
    | none => rfl
    | some o => have := R.keep _ _ e; rw [hI] at this; cases this
theorem get?_size (h : Heap) : h.get? h.objs.size = none := by
  cases e : h.get? h.objs.size with
  | none => rfl
  | some o => exact absurd (Heap.lt_size e) (Nat.lt_irrefl _)

noncomputable def rng : List PV → Option (Int × Nat)
  | [.fl (.int n)] => if pd (-(2 ^ 62) ≤ n ∧ n < 2 ^ 62) = true then some (0, n.toNat) else none
  | [.fl (.int a), .fl (.int b)] => if pd (-(2 ^ 62) ≤ a ∧ a < 2 ^ 62 ∧ -(2 ^ 62) ≤ b ∧ b < 2 ^ 62) = true then some (a, (b - a).toNat) else none
  | _ => none
/-- what «range(..)» and iter() of it leave -/
theorem range_ok {vs : List PV} {a : Int} {n : Nat} (hc : rng vs = some (a, n)) {φ : List Addr} {s : Shared} {cvs : List Value} (r : RVs φ s.heap cvs vs) {Q : Value → Shared → Prop}
    (h : ∀ I h' tk, s.heap.get? I = none → (∀ b o, s.heap.get? b = some o → h'.get? b = some o) → IsRangeIter h' I a n 1 → Q (.ref I) { s with heap := h', toks := tk }) :
    wpAny C.M C.A (call (.type "range") cvs) (fun x s₁ => wpAny C.M C.A (pyIter x) Q noE s₁) noE s := by
  have fin : ∀ (b : Int) (o : Obj) (tk : Nat), Builtin.Range.rangeSize a b 1 = (n : Int) → (∀ b o, s.heap.get? b = some o → (s.heap.push o).get? b = some o) →
      IsRangeIter ((s.heap.push o).push { cls := Value.type "range_iterator", data := Data.fields #[rawInt a, rawInt (Builtin.Range.rangeSize a b 1), rawInt 1] }) (s.heap.push o).objs.size a n 1 ∧
      s.heap.get? (s.heap.push o).objs.size = none := by
    intro b o tk hn _
    refine ⟨by show Heap.get? _ _ = _; rw [Heap.get?_push_size _ rfl, hn], ?_⟩
    cases e : s.heap.get? (s.heap.push o).objs.size with
    | none => rfl
    | some o' => exact absurd (Heap.lt_size e) (by rw [Heap.size_push]; exact Nat.not_lt.mpr (Nat.le_succ _))
  unfold rng at hc
  split at hc
  · match cvs, r with
    | [_], ⟨⟨t, rfl⟩, _⟩ =>
      split at hc
      · rename_i N _ hN
        have hN := pd_of hN
        cases hc
        have hsz : Builtin.Range.rangeSize 0 N 1 = (N.toNat : Int) := by rw [rangeSize_one]; split <;> omega
        refine call_range_1 (wpAny_pyIter_range (IsRange.new ..) (small_one (by decide) (by decide) hN.1 hN.2) ?_)
        have W := fin N { cls := .type "range", data := .fields #[.int 0 s.toks, .int N t, .int 1 (s.toks + 1)] } 0 hsz fun _ _ e => Heap.get?_push_of_some _ e
        exact h _ _ _ W.2 (fun _ _ e => Heap.get?_push_of_some _ (Heap.get?_push_of_some _ e)) W.1
      · cases hc
  · match cvs, r with
    | [_, _], ⟨⟨t, rfl⟩, ⟨u, rfl⟩, _⟩ =>
      split at hc
      · rename_i a b _ hN
        have hN := pd_of hN
        cases hc
        have hsz : Builtin.Range.rangeSize a b 1 = ((b - a).toNat : Int) := by rw [rangeSize_one]; split <;> omega
        refine call_range_2 (wpAny_pyIter_range (IsRange.new ..) (small_one hN.1 hN.2.1 hN.2.2.1 hN.2.2.2) ?_)
        have W := fin b { cls := .type "range", data := .fields #[.int a t, .int b u, .int 1 s.toks] } 0 hsz fun _ _ e => Heap.get?_push_of_some _ e
        exact h _ _ _ W.2 (fun _ _ e => Heap.get?_push_of_some _ (Heap.get?_push_of_some _ e)) W.1
      · cases hc
  · cases hc

noncomputable def forRangeM (ms : List (Mo PV)) (f : PV → Mo Unit) (b : Mo Fl) : Mo Fl := bindM (seqM ms) fun vs => match rng vs with
  | some (a, n) => loopR f b 1 n a
  | none => fun _ => none

theorem evalArgs_all {es : List Expr} {ms : List (Mo PV)} (h : EvEs C es ms) (hne : es ≠ []) (f : Value) (pos : Pos) {φ st s vs st₁} (R : Rep C φ st s) (e1 : seqM ms st = some (vs, st₁)) {Q : Args → Shared → Prop}
    (k : ∀ cvs s', PostVs C φ s.heap st₁ vs cvs s' → Q ⟨cvs, []⟩ s') : wpAny C.M C.A (evalArgs f true (backTo pos (starEach es C.env)) []) Q noE s :=
  evalArgs_some h hne f pos (wpAny_mono (evs_spliced h pos R e1) (fun cvs s' x => k cvs s' x) fun _ _ x => x)

theorem EvS.forRange (O : C.Ok) {t : Expr} {p rpos pos : Pos} {es : List Expr} {ms : List (Mo PV)} {body : List Stmt} {f : PV → Mo Unit} {mb : Mo Fl} (B : IsBuiltin C "range" (.type "range"))
    (h : EvEs C es ms) (hne : es ≠ []) (ht : EvTg C t f) (hb : EvB C body mb) (htu : ∀ I v, letOwnedTupleGo t (.ref I) v = pure ()) (hs : ∀ x, foldedSetIterable (.Call (.Name "range" p) es [] rpos) C.env x = pure x) :
    EvS C (.For t (.Call (.Name "range" p) es [] rpos) body [] pos) (forRangeM ms f mb) := by
  intro φ st s fl st' R hm
  obtain ⟨vs, st₁, e1, hm⟩ := bindM_some hm
  have hm' : (match rng vs with | some (a, n) => loopR f mb 1 n a | none => fun _ => none) st₁ = some (fl, st') := hm
  clear hm
  cases hr : rng vs with
  | none => rw [hr] at hm'; cases hm'
  | some q =>
    obtain ⟨a, n⟩ := q
    rw [hr] at hm'
    have hm : loopR f mb 1 n a st₁ = some (fl, st') := hm'
    refine wpAny_For (wpAny_Call_NameR (B.eval O R (by decide) ?_)) hs
    refine PySem.callWith_type (noStar h rpos) (evalArgs_all h hne _ rpos R e1 fun cvs s₁ hp => ?_)
    obtain ⟨φ₁, X₁, R₁, v₁⟩ := hp
    refine range_ok hr v₁ fun I h' tk hI hk hit => ?_
    have R₂ := R₁.kept (tk := tk) hk
    have S : Side C φ₁ I := R₁.side hI
    refine loopR_ok O ht hb (htu I) hI (fun cf s' hp => ?_) (Ext.all hk) R₂ S hit hm
    exact hp.trans X₁.toExt

/-! for over an own list, read as it goes -/
def loopL (k : Nat) (f : PV → Mo Unit) (b : Mo Fl) : Nat → Nat → Mo Fl
  | 0, _ => fun _ => none
  | n + 1, i => fun st => match st.mem[k]? with
    | some (.list ys) => (match ys[i]? with
      | some v => (bindM (f v) fun _ => bindM b fun fl => match fl with
          | .next => loopL k f b n (i + 1)
          | .cont => loopL k f b n (i + 1)
          | .brk => fun st => some (.next, st)
          | .ret v => fun st => some (.ret v, st)) st
      | none => some (.next, st))
    | _ => none

theorem listIter_notTuple {h : Heap} {I l : Addr} {i : Nat} (hi : h.IsListIter I l i) (items : Array Value) : ¬ h.IsTuple I items := by
  rintro ⟨o, ho, hc, _⟩
  obtain ⟨o', ho', hc', _⟩ := hi
  rw [ho'] at ho
  cases ho
  rw [hc] at hc'
  exact absurd (Value.type.inj hc') (by decide)

/-- the tuple that an iterator owns: a list's iterator owns none -/
def GoOk (C : Cx) (t : Expr) (I : Addr) : Prop := ∀ (s : Shared) (E : Value → Shared → Prop) (Q : Unit → Shared → Prop) ax i v, s.heap.IsListIter I ax i → Q () s → wpAny C.M C.A (letOwnedTupleGo t (.ref I) v) Q E s
theorem GoOk.name {x : Str} {p : Pos} {I : Addr} : GoOk C (.Name x p) I := fun _ _ _ _ _ _ _ h => wpAny_pure h
theorem GoOk.tuple {es : List Expr} {x1 : Nat} {p : Pos} {I : Addr} : GoOk C (.Tuple es x1 p) I := fun s E Q ax i v hi h => by
  cases v with
  | ref T => exact wpAny_letOwnedTupleGo_listiter hi h
  | _ => exact wpAny_pure h

theorem loopL_ok (O : C.Ok) {t : Expr} {body : List Stmt} {f : PV → Mo Unit} {mb : Mo Fl} (ht : EvTg C t f) (hb : EvB C body mb) {I ax : Addr} {k : Nat} {n : Nat} (htu : GoOk C t I)
    {φ₀ : List Addr} {h₀ : Heap} (hI : h₀.get? I = none) {fl : Fl} {st' : St} {Q : Flow → Shared → Prop} (hQ : ∀ cf s', PostF C φ₀ h₀ st' fl cf s' → Q cf s')
    {φ st s} (X : Ext C φ₀ h₀ φ s.heap) (R : Rep C φ st s) (S : Side C φ I) (hax : φ[k]? = some ax) (hit : s.heap.IsListIter I ax 0) (hm : loopL k f mb n 0 st = some (fl, st')) :
    codeAny C.M C.A (.forLoop t (.ref I) body [] C.env) (fun r s' => match r with | .ok f => Q f s' | .error e => cameBackBy C.M C.A C.env noE e s') s := by
  refine codeAny_forLoop_any (fun q s' => ∃ φ₁ st₁, ∃ i : Nat, Ext C φ₀ h₀ φ₁ s'.heap ∧ Rep C φ₁ st₁ s' ∧ Side C φ₁ I ∧ φ₁[k]? = some ax ∧ s'.heap.IsListIter I ax i ∧ loopL k f mb q i st₁ = some (fl, st')) ?_ n
    ⟨φ, st, 0, X, R, S, hax, hit, hm⟩
  rintro q s' ⟨φ₁, st₁, i, X₁, R₁, S₁, hax₁, hit₁, h₁⟩
  cases q with
  | zero => cases h₁
  | succ q =>
    unfold loopL at h₁
    split at h₁
    · rename_i ys hys
      obtain ⟨items, hl, hr⟩ := R₁.listAt hys hax₁
      have hlen := hr.length
      have hax2 : ax ≠ I := fun e => S₁.out (by subst e; exact List.mem_of_getElem? hax₁)
      split at h₁
      · rename_i v hv
        obtain ⟨cv, hcv, hrv⟩ := hr.get hv
        obtain ⟨_, st₂, e₂, h₁⟩ := bindM_some h₁
        obtain ⟨g, st₃, e₃, h₁⟩ := bindM_some h₁
        refine wpAny_pyNext_list_item hit₁ hl.isList (x := cv) (by simpa using hcv) fun h' hit' hs' => ?_
        have hk : ∀ b o, b ≠ I → s'.heap.get? b = some o → h'.get? b = some o := fun b o hb e => hs'.extBut b o hb e
        have W := R₁.beside S₁ (tk := s'.toks) hk (listIter_notTuple hit₁)
        have X₂ := X₁.beside hI hk
        refine htu _ _ _ ax (i + 1) cv hit' ?_
        refine wpAny_mono (ht φ₁ st₁ _ _ v st₂ W.1 (hrv.mono (pre_refl _) W.2) e₂) (fun _ s₃ hp => ?_) fun _ _ x => x.elim
        obtain ⟨φ₃, X₃, R₃⟩ := hp
        obtain ⟨oI, hoI, hcI, hdI⟩ := hit'
        have T₃ := S₁.ext X₃ hoI
        refine wpAny_mono (hb φ₃ st₂ s₃ g st₃ R₃ e₃) (fun cf s₄ hp => ?_) fun _ _ x => x.elim
        obtain ⟨φ₄, X₄, R₄, r₄⟩ := hp
        have T₄ := T₃.1.ext X₄ T₃.2
        have X₅ := (X₂.trans X₃).trans X₄
        have it₄ : s₄.heap.IsListIter I ax (i + 1) := ⟨oI, T₄.2, hcI, hdI⟩
        have hax₄ : φ₄[k]? = some ax := prefix_get (X₃.pre.trans X₄.pre) hax₁
        cases g with
        | next => cases cf with | next => exact ⟨q, Nat.lt_succ_self _, φ₄, st₃, i + 1, X₅, R₄, T₄.1, hax₄, it₄, h₁⟩ | _ => exact r₄.elim
        | cont => cases cf with | cont => exact ⟨q, Nat.lt_succ_self _, φ₄, st₃, i + 1, X₅, R₄, T₄.1, hax₄, it₄, h₁⟩ | _ => exact r₄.elim
        | brk => cases h₁; cases cf with | brk => exact hQ _ _ ⟨φ₄, X₅, R₄, trivial⟩ | _ => exact r₄.elim
        | ret v => cases h₁; cases cf with | ret v => exact hQ _ _ ⟨φ₄, X₅, R₄, r₄⟩ | _ => exact r₄.elim
      · rename_i hv
        cases h₁
        have hnone : items[i]? = none := by
          have : ys.length ≤ i := by simpa using hv
          apply Array.getElem?_eq_none
          have e : items.toList.length = items.size := by simp
          omega
        refine wpAny_pyNext_list_end O.hh hit₁ hl.isList hnone fun h' he' => wpAny_execs_nil (hQ _ _ ?_)
        have hk : ∀ b o, b ≠ I → s'.heap.get? b = some o → h'.get? b = some o := fun b o hb e => he' b o hb e
        have W := R₁.beside S₁ (tk := s'.toks) hk (listIter_notTuple hit₁)
        exact ⟨φ₁, X₁.beside hI hk, W.1, trivial⟩
    · cases h₁

def forListM (fuel : Nat) (m : Mo PV) (f : PV → Mo Unit) (b : Mo Fl) : Mo Fl := bindM m fun v => match v with
  | .fl (.ref k) => fun st => match st.mem[k]? with
    | some (.list _) => loopL k f b fuel 0 st
    | _ => none
  | _ => fun _ => none
theorem EvS.forList (O : C.Ok) {t e : Expr} {pos : Pos} {body : List Stmt} {m : Mo PV} {f : PV → Mo Unit} {mb : Mo Fl} (fuel : Nat) (he : EvE C e m) (ht : EvTg C t f) (hb : EvB C body mb)
    (htu : ∀ I, GoOk C t I) (hs : ∀ x, foldedSetIterable e C.env x = pure x) :
    EvS C (.For t e body [] pos) (forListM fuel m f mb) := by
  intro φ st s fl st' R hm
  obtain ⟨v, st₁, e1, hm⟩ := bindM_some hm
  split at hm
  · rename_i k
    split at hm
    · rename_i ys hys
      refine wpAny_For (wpAny_mono (he φ st s _ st₁ R e1) (fun cv s₁ hp => ?_) fun _ _ x => x) hs
      obtain ⟨φ₁, X₁, R₁, v₁⟩ := hp
      obtain ⟨ax, hax, rfl⟩ := v₁
      obtain ⟨items, hl, hr⟩ := R₁.listAt hys hax
      refine wpAny_pyIter_list hl.isList ?_
      have hI := get?_size s₁.heap
      have hk : ∀ b o, s₁.heap.get? b = some o → (s₁.heap.push { cls := Value.type "list_iterator", data := Data.fields #[Value.ref ax, Value.int 0 0] }).get? b = some o := fun b o e => Heap.get?_push_of_some _ e
      refine loopL_ok O ht hb (htu _) hI (fun cf s' hp => ?_) (Ext.all hk) (R₁.kept (tk := s₁.toks) hk) (R₁.side hI) hax ⟨_, Heap.get?_push_size _ rfl, rfl, rfl⟩ hm
      exact hp.trans X₁.toExt
    · cases hm
  · cases hm
end
end Mine

/-! Ref6 -/
namespace Mine
section
variable {C : Cx}

/-! l.append(e) as a statement -/
def appF (a b : PV) (st : St) : Option (Fl × St) := match a with
  | .fl (.ref k) => (match st.mem[k]? with
    | some (.list xs) => if xs.length < 2 ^ 20 then some (.next, setMem k (.list (xs ++ [b])) st) else none
    | _ => none)
  | _ => none
/-- the receiver stands as a list when it is read -/
def isL (a : PV) (st : St) : Bool := match a with
  | .fl (.ref k) => (match st.mem[k]? with | some (.list _) => true | _ => false)
  | _ => false
def appM (ml me : Mo PV) : Mo Fl := bindM ml fun a => fun st => if isL a st = true then (bindM me fun b => appF a b) st else none
theorem EvS.append {o e : Expr} {apos pos spos : Pos} {ml me : Mo PV} (hl : EvE C o ml) (he : EvE C e me) (hi : interactive C.env = false)
    (hbase : attributeBase o "append" C.env (eval o C.env) = eval o C.env) (hst : starEach [e] C.env = [(false, eval e C.env)]) (hline : (apos.endLine == pos.line) = true) :
    EvS C (.Expr (.Call (.Attribute o "append" apos) [e] [] pos) spos) (appM ml me) := by
  intro φ st s fl st' R h
  obtain ⟨a, st₁, h1, h⟩ := bindM_some h
  have h0 : (if isL a st₁ = true then (bindM me fun b => appF a b) st₁ else none) = some (fl, st') := h
  clear h
  split at h0
  case isFalse => cases h0
  rename_i hk1
  obtain ⟨b, st₂, h2, h'⟩ := bindM_some h0
  unfold appF at h'
  split at h'
  · rename_i k
    split at h'
    · rename_i xs hmem
      split at h'
      · rename_i hsz
        cases h'
        refine wpAny_Expr ?_ hi (by rfl)
        refine wpAny_Call_method (T := "list") (id := "list.append") hbase (by rw [hst]; rfl) hline F.plainAttrs_list slot_list_append type_list_append (wpAny_mono (hl φ st s _ st₁ R h1) (fun ca s₁ hp => ?_) fun _ _ x => x)
        obtain ⟨φ₁, X₁, R₁, v₁⟩ := hp
        obtain ⟨A, hA, rfl⟩ := v₁
        unfold isL at hk1
        dsimp only at hk1
        -- the list stands as a list already
        have hob : ∃ n its, s₁.heap.get? A = some { cls := .type "list", data := .seq its n } := by
          cases hm1 : st₁.mem[k]? with
          | none => rw [hm1] at hk1; cases hk1
          | some mo =>
            rw [hm1] at hk1
            cases mo with
            | list ys => obtain ⟨items, ⟨n, h1⟩, _⟩ := R₁.mem k _ A hm1 hA; exact ⟨n, items, h1⟩
            | _ => cases hk1
        obtain ⟨n, its, hob⟩ := hob
        refine ⟨⟨_, hob, rfl⟩, fun a ea => by cases ea; exact ⟨_, hob, rfl⟩, ?_⟩
        rw [hst]
        refine Calls.callWith_builtin (by rfl) (Calls.evalArgs_plain (Calls.spliced_cons (wpAny_mono (he φ₁ st₁ s₁ b st₂ R₁ h2) (fun cb s₂ hp => ?_) fun _ _ x => x)))
        obtain ⟨φ₂, X₂, R₂, v₂⟩ := hp
        refine Calls.spliced_nil ?_
        obtain ⟨items, hl2, hr⟩ := R₂.listAt hmem (prefix_get X₂.pre hA)
        have hlen := hr.length
        have hsz2 : items.size = xs.length := by simpa using hlen
        refine wpAny_list_append_plain hl2 (fun h' hl' hs' => ?_) (by rw [sizeLine_eq]; omega)
        have W := R₂.update (tk := s₂.toks) (prefix_get X₂.pre hA) hs' (fun items => list_notTuple hl2.isList) (mo := .list (xs ++ [b])) fun K => ⟨_, hl', by
          rw [Array.toList_push]
          exact (hr.mono (pre_refl _) K).snoc (v₂.mono (pre_refl _) K)⟩
        exact ⟨φ₂, (X₁.trans X₂).toExt.trans W.2, W.1, trivial⟩
      · cases h'
    · cases h'
  · cases h'

/-- an object that stands beside is taken as an own one -/
theorem Rep.adopt {φ : List Addr} {st : St} {s : Shared} (R : Rep C φ st s) {h₀ : Heap} {D : Addr} (_hD : h₀.get? D = none) (S : Side C φ D) {mo : MO} (hmo : ∀ φ', φ <+: φ' → MOAt φ' s.heap D mo) :
    Rep C (φ ++ [D]) { st with mem := st.mem ++ [mo] } s ∧ ∀ h₁ : Heap, (∀ b o, h₁.get? b = some o → s.heap.get? b = some o) → h₁.get? D = none → ExtE C φ h₁ (φ ++ [D]) s.heap := by
  have hp : φ <+: φ ++ [D] := List.prefix_append ..
  refine ⟨⟨R.same, R.keep, R.len, ?_, ?_, by simp [R.memlen], ?_, ?_⟩, fun h₁ hk hn => ⟨⟨hp, Keep.all hk, fun b o _ _ e => hk b o e, fun a h1 h2 => ?_⟩, fun o e => hk _ o e⟩⟩
  · obtain ⟨m, hn, hm⟩ := R.loc
    exact ⟨m, hn, fun k x pv e1 e2 => let ⟨v, e, r⟩ := hm k x pv e1 e2; ⟨v, e, r.mono hp (Keep.refl _)⟩⟩
  · refine List.nodup_append.mpr ⟨R.nd, by simp, fun a ha b hb => ?_⟩
    rw [List.mem_singleton.mp hb]
    exact fun e => S.out (e ▸ ha)
  · intro k mo' a e1 e2
    by_cases hk : k < φ.length
    · rw [List.getElem?_append_left hk] at e2
      rw [List.getElem?_append_left (by rw [← R.memlen]; exact hk)] at e1
      exact (R.mem k mo' a e1 e2).mono hp (Keep.refl _) fun o e => e
    · have hk2 : k = φ.length := by
        have := (List.getElem?_eq_some_iff.mp e2).1
        simp at this; omega
      subst hk2
      rw [List.getElem?_append_right (Nat.le_refl _)] at e2
      rw [R.memlen, List.getElem?_append_right (Nat.le_refl _)] at e1
      simp at e1 e2
      subst e1; subst e2
      exact hmo _ hp
  · intro a ha
    rcases List.mem_append.mp ha with ha | ha
    · exact R.fresh a ha
    · rw [List.mem_singleton.mp ha]; exact ⟨S.fresh, S.ne⟩
  · rcases List.mem_append.mp h1 with h1 | h1
    · exact absurd h1 h2
    · rw [List.mem_singleton.mp h1]; exact ⟨hn, S.ne⟩

/-! cells that are not stored to -/
structure IsCellVar (C : Cx) (x : Str) (f : FV) : Prop where
  kind : C.env.kindOf x = some .cell
  at_ : ∃ c cv, C.env.cells.lookup x = some c ∧ C.s₀.heap.IsCell c (some cv) ∧ RF [] cv f
theorem EvE.cell (O : C.Ok) {x : Str} {pos : Pos} {f : FV} (hc : IsCellVar C x f) (hd : (x == ("__debug__" : Str)) = false) : EvE C (.Name x pos) (cst (.fl f)) := by
  intro φ st s v st' R hm
  cases hm
  obtain ⟨c, cv, hc1, hc2, hc3⟩ := hc.at_
  refine wpAny_Name (wpAny_loadName_cell O.hk hc.kind hc1 (hc2.keeps R.keep) ?_) hd
  exact ⟨φ, ExtE.refl _ _, R, RF.mono (List.nil_prefix) hc3⟩

/-! [e for x in range(..)], nothing else -/
def FV.noRef : FV → Bool
  | .ref _ => false
  | _ => true
def compL (m : Mo PV) : Nat → Int → Option (List PV)
  | 0, _ => some []
  | n + 1, i => match m ⟨[some (.fl (.int i))], []⟩ with
    | some (.fl f, ⟨_, []⟩) => if f.noRef then (compL m n (i + 1)).map (.fl f :: ·) else none
    | _ => none
theorem RF.noRef {φ φ' : List Addr} {v : Value} {f : FV} (hf : f.noRef = true) (x : RF φ v f) : RF φ' v f := by
  cases f with
  | ref k => cases hf
  | _ => exact x

/-- one element's value -/
def CompEl (m : Mo PV) (v y : Value) : Prop := ∃ i t f l, v = .int i t ∧ m ⟨[some (.fl (.int i))], []⟩ = some (.fl f, ⟨l, []⟩) ∧ f.noRef = true ∧ RF [] y f
theorem compL_ok {m : Mo PV} : ∀ {n : Nat} {a : Int} {xs : List PV} {vs ys : List Value}, compL m n a = some xs → vs.length = n → (∀ (j : Nat) v, vs[j]? = some v → ∃ t, v = .int (a + j) t) → Paired (CompEl m) vs ys → ∀ φ h, RVs φ h ys xs
  | 0, _, _, [], _, hc, _, _, hp, _, _ => by cases hc; cases hp; exact trivial
  | n + 1, a, xs, v :: vs, ys, hc, hl, hv, hp, φ, h => by
    cases hp with
    | cons hy hp =>
      unfold compL at hc
      obtain ⟨t, rfl⟩ := hv 0 v rfl
      obtain ⟨i, t', f, l, e, he, hf, hr⟩ := hy
      cases e
      rw [show a + ((0 : Nat) : Int) = a by omega] at he
      rw [he] at hc
      simp only [hf, if_true] at hc
      obtain ⟨xs', hx, rfl⟩ := Option.map_eq_some_iff.mp hc
      refine ⟨RF.noRef hf hr, compL_ok hx (by simpa using hl) (fun j u hj => ?_) hp φ h⟩
      obtain ⟨t, rfl⟩ := hv (j + 1) u (by simpa using hj)
      exact ⟨t, by congr 1; omega⟩
  | 0, _, _, _ :: _, _, _, hl, _, _, _, _ => by cases hl
  | _ + 1, _, _, [], _, _, hl, _, _, _, _ => by cases hl

/-- the element, in the comprehension's own block -/
def ElOk (C : Cx) (scope : Scope) (cl : List (Str × Addr)) (x : Str) (elt : Expr) (m : Mo PV) : Prop :=
  ∀ C' : Cx, C'.Ok → C'.prog = C.prog → C'.w = C.w → C'.A = C.A → C'.names = [x] → C'.env = compEnvC scope cl C'.env.locals C.env → C'.mg = C.mg → C'.mb = C.mb →
    (∀ b o, C.s₀.heap.get? b = some o → C'.s₀.heap.get? b = some o) → EvE C' elt m

theorem hide_get {h : Heap} {a b : Addr} {o : Obj} (e : h.get? b = some o) (hne : b ≠ a) : (h.hide a).get? b = some o := (Heap.hide_ne h hne).trans e

theorem el_ok (O : C.Ok) {scope : Scope} {cl : List (Str × Addr)} {x : Str} {elt : Expr} {m : Mo PV} (hE : ElOk C scope cl x elt m) (hkind : scope.kind = .function) (hx : scope.names.lookup x = some .local)
    {φ st s} (R : Rep C φ st s) {L' : Addr} {s₃ : Shared} {m₃ : Str → Option Value} (hk : ∀ b o, s.heap.get? b = some o → s₃.heap.get? b = some o)
    (hn : s₃.heap.Ns L' m₃) {i : Int} {t : Tok} (hm : m₃ x = some (.int i t)) (hnew : s.heap.get? L' = none) {f : FV} {l : List (Option PV)} (he : m ⟨[some (.fl (.int i))], []⟩ = some (.fl f, ⟨l, []⟩)) (hf : f.noRef = true) {E : Value → Shared → Prop} :
    wpAny C.M C.A (eval elt (compEnvC scope cl L' C.env)) (fun y s₄ => CompEl m (.int i t) y ∧ Keeps s₃ s₄) E s₃ := by
  let C' : Cx := { C with env := compEnvC scope cl L' C.env, names := [x], s₀ := { s₃ with heap := s₃.heap.hide L' } }
  have hL₀ : C.s₀.heap.get? L' = none := by
    cases e : C.s₀.heap.get? L' with
    | none => rfl
    | some o => have := R.keep _ _ e; rw [hnew] at this; cases this
  have hkk : ∀ b o, C.s₀.heap.get? b = some o → C'.s₀.heap.get? b = some o := fun b o e =>
    hide_get (hk b o (R.keep b o e)) fun hb => by subst hb; rw [hL₀] at e; cases e
  have O' : C'.Ok := by
    refine ⟨O.hh, O.hd, O.hu, ?_, by simp [C'], ?_, Heap.hide_self _ _, O.g.keeps hkk, O.b.keeps hkk, O.nolimit.keeps hkk, O.kin.keeps hkk⟩
    · show (relabel scope C.env).kind = .function
      exact hkind
    · intro y hy
      rw [List.mem_singleton.mp hy]
      exact lookup_relabel_local hx
  have R' : Rep C' [] ⟨[some (.fl (.int i))], []⟩ s₃ := by
    refine ⟨⟨s₃.heap, s₃.toks, rfl⟩, fun b o e => Heap.of_hide e, rfl, ⟨m₃, hn, fun k y pv e1 e2 => ?_⟩, List.nodup_nil, rfl, fun k mo a e1 _ => by simp at e1, fun a ha => nomatch ha⟩
    cases k with
    | zero => cases e1; cases e2; exact ⟨_, hm, RV.int⟩
    | succ k => simp [C'] at e1
  refine wpAny_mono (hE C' O' rfl rfl rfl rfl rfl rfl rfl hkk [] _ s₃ _ _ R' he) (fun y s₄ hp => ?_) fun _ _ x => x.elim
  obtain ⟨φ', X, R₄, v⟩ := hp
  have hφ : φ' = [] := by
    have := R₄.memlen
    simpa using this
  subst hφ
  refine ⟨⟨i, t, f, l, rfl, he, hf, v⟩, ?_⟩
  obtain ⟨h₄, tk₄, e₄⟩ := R₄.same
  refine ⟨h₄, tk₄, by rw [e₄], fun b o e => ?_⟩
  have e₅ : s₄.heap = h₄ := by rw [e₄]
  rw [← e₅]
  by_cases hb : b = L'
  · subst hb; exact X.loc o e
  · exact X.kept b o (fun hm => nomatch hm) hb e

noncomputable def compM (ms : List (Mo PV)) (m : Mo PV) : Mo PV := bindM (seqM ms) fun vs => fun st => match rng vs with
  | some (a, n) => if n ≤ 2 ^ 20 then (match compL m n a with | some xs => newL xs st | none => none) else none
  | none => none

theorem compL_at {m : Mo PV} : ∀ {n : Nat} {a : Int} {xs : List PV}, compL m n a = some xs → ∀ j : Nat, j < n → ∃ f l, m ⟨[some (.fl (.int (a + j)))], []⟩ = some (.fl f, ⟨l, []⟩) ∧ f.noRef = true
  | n + 1, a, xs, h, j, hj => by
    unfold compL at h
    split at h
    · rename_i f l he
      split at h
      · rename_i hf
        obtain ⟨xs', hx, _⟩ := Option.map_eq_some_iff.mp h
        cases j with
        | zero => exact ⟨f, l, by simpa using he, hf⟩
        | succ j =>
          obtain ⟨f', l', e1, e2⟩ := compL_at hx j (by omega)
          refine ⟨f', l', ?_, e2⟩
          rw [← e1, show a + ((j + 1 : Nat) : Int) = a + 1 + (j : Int) by omega]
      · cases h
    · cases h

theorem quiet_el (O : C.Ok) {scope : Scope} {cl : List (Str × Addr)} {x : Str} {elt : Expr} {m : Mo PV} (hE : ElOk C scope cl x elt m) (hkind : scope.kind = .function) (hx : scope.names.lookup x = some .local)
    {φ st s} (R : Rep C φ st s) {s₂ : Shared} {I : Addr} (hI : s.heap.get? I = none) (hk₂ : ∀ b o, s.heap.get? b = some o → s₂.heap.get? b = some o) {n : Nat} {a : Int} {xs : List PV} (hc : compL m n a = some xs) :
    QuietOnC C.prog C.w C.A C.env scope cl x [] elt [I] (fun i v => i < n ∧ ∃ t, v = Value.int (a + i * 1) t) (fun _ => true) (CompEl m) s₂ where
  tests := fun _ _ _ s₃ _ _ _ _ _ _ _ _ => by
    rw [List.forIn_nil]
    exact wpAny_pure ⟨rfl, s₃.heap, s₃.toks, rfl, fun _ _ e => e⟩
  elt := fun L' i v s₃ m₃ E' hL hP _ hn hm hk _ => by
    obtain ⟨hi, t, rfl⟩ := hP
    obtain ⟨f, l, he, hf⟩ := compL_at hc i hi
    have e : a + (i : Int) * 1 = a + i := by rw [Int.mul_one]
    rw [e] at hm ⊢
    refine el_ok O hE hkind hx R (fun b o e => hk b o (fun hm => ?_) (hk₂ b o e)) hn hm ?_ he hf
    · rw [List.mem_singleton.mp hm] at e; rw [hI] at e; cases e
    · cases e : s.heap.get? L' with
      | none => rfl
      | some o => exact absurd (Heap.lt_size (hk₂ _ _ e)) (Nat.not_lt.mpr hL)

/-- what stands of a comprehension's scope -/
structure CompScope (C : Cx) (scope : Scope) (cl : List (Str × Addr)) (x : Str) : Prop where
  clos : closureFor scope C.env = pure cl
  cell : ∀ z ∈ scope.names, z.2 ≠ .cell
  kind : scope.kind = .function
  names : ∀ z ∈ scope.names, z.2 = .local → scope.names.lookup z.1 = some .local
  var : scope.names.lookup x = some .local

theorem filter_true {α : Type} (l : List α) : l.filter (fun _ => true) = l := List.filter_eq_self.mpr fun _ _ => rfl

theorem EvE.comp (O : C.Ok) {elt : Expr} {x : Str} {px p rpos : Pos} {es : List Expr} {ms : List (Mo PV)} {scope : Scope} {cl : List (Str × Addr)} {pos : Pos} {m : Mo PV} (B : IsBuiltin C "range" (.type "range"))
    (h : EvEs C es ms) (hne : es ≠ []) (S : CompScope C scope cl x) (hE : ElOk C scope cl x elt m) (hs : ∀ x, foldedSetIterable (.Call (.Name "range" p) es [] rpos) C.env x = pure x) :
    EvE C (.ListComp elt [⟨.Name x px, .Call (.Name "range" p) es [] rpos, [], 0⟩] scope pos) (compM ms m) := by
  intro φ st s v st' R hm
  obtain ⟨vs, st₁, e1, hm⟩ := bindM_some hm
  have hm' : (match rng vs with
    | some (a, n) => if n ≤ 2 ^ 20 then (match compL m n a with | some xs => newL xs st₁ | none => none) else none
    | none => none) = some (v, st') := hm
  clear hm
  cases hr : rng vs with
  | none => rw [hr] at hm'; cases hm'
  | some q =>
    obtain ⟨a, n⟩ := q
    rw [hr] at hm'
    dsimp only at hm'
    split at hm'
    · rename_i hn
      cases hc : compL m n a with
      | none => rw [hc] at hm'; cases hm'
      | some xs =>
        rw [hc] at hm'
        cases hm'
        refine wpAny_ListComp_free (fun _ => true) (CompEl m) S.clos S.cell S.kind S.names S.var (wpAny_Call_NameR (B.eval O R (by decide) ?_)) hs
        refine PySem.callWith_type (noStar h rpos) (evalArgs_all h hne _ rpos R e1 fun cvs s₁ hp => ?_)
        obtain ⟨φ₁, X₁, R₁, v₁⟩ := hp
        refine range_ok hr v₁ fun I h' tk hI hk hit => ?_
        have hIlt : I < h'.objs.size := by have : h'.get? I = some _ := hit; exact Heap.lt_size this
        refine ⟨I, [I], [I], n, _, _, rfl, (Walks.range O.hh I a 1 n).bound, by rw [sizeLine_eq]; omega, ?_, fun b hb => by rw [List.mem_singleton.mp hb]; exact hIlt, quiet_el O hE S.kind S.var R₁ hI hk hc, ?_⟩
        · show IsRangeIter h' I (a + ((0 : Nat) : Int) * 1) ((n : Int) - ((0 : Nat) : Int)) 1
          rw [show a + ((0 : Nat) : Int) * 1 = a by simp, show (n : Int) - ((0 : Nat) : Int) = n by simp]; exact hit
        · intro D h₅ tk₅ ys vs' hD hlD hplD hlen hP hF hk₅
          have hk₆ : ∀ b o, s₁.heap.get? b = some o → h₅.get? b = some o := fun b o e => hk₅ b o (fun hm => by rw [List.mem_singleton.mp hm, hI] at e; cases e) (hk b o e)
          have hDs : s₁.heap.get? D = none := by
            cases e : s₁.heap.get? D with
            | none => rfl
            | some o => have hD' : h'.get? D = none := hD; rw [hk _ _ e] at hD'; cases hD'
          rw [filter_true] at hF
          have hys := compL_ok hc hlen (fun j u hj => by obtain ⟨_, t, e⟩ := hP j u hj; exact ⟨t, by rw [e, Int.mul_one]⟩) hF
          have R₅ := R₁.kept (tk := tk₅) hk₆
          have W := R₅.adopt hDs (R₁.side hDs) (mo := .list xs) fun φ' _ => ⟨ys, hplD, hys φ' h₅⟩
          refine ⟨φ₁ ++ [D], X₁.trans (W.2 s₁.heap hk₆ hDs), W.1, D, ?_, rfl⟩
          rw [← R₁.memlen]; simp
    · cases hm'
end
end Mine

/-! Ref7 -/
namespace Mine
section
variable {C : Cx}

theorem EvS.compAssign (O : C.Ok) {elt : Expr} {x y : Str} {px py p rpos : Pos} {es : List Expr} {ms : List (Mo PV)} {scope : Scope} {cl : List (Str × Addr)} {pos spos : Pos} {m : Mo PV} {k : Nat} (B : IsBuiltin C "range" (.type "range"))
    (hy : C.names[k]? = some y) (h : EvEs C es ms) (hne : es ≠ []) (S : CompScope C scope cl x) (hE : ElOk C scope cl x elt m)
    (hsw : swapsWith (.ListComp elt [⟨.Name x px, .Call (.Name "range" p) es [] rpos, [], 0⟩] scope pos) (some (.Name y py)) spos.line C.env = pure true)
    (hs : ∀ x, foldedSetIterable (.Call (.Name "range" p) es [] rpos) C.env x = pure x) :
    EvS C (.Assign [.Name y py] (.ListComp elt [⟨.Name x px, .Call (.Name "range" p) es [] rpos, [], 0⟩] scope pos) spos) (asg1 (compM ms m) (setL k)) := by
  intro φ st s fl st' R hm0
  obtain ⟨v, stx, hm, hm0⟩ := bindM_some hm0
  obtain ⟨_, sty, hst, hm0⟩ := bindM_some hm0
  cases hm0
  obtain ⟨vs, st₁, e1, hm⟩ := bindM_some hm
  have hm' : (match rng vs with
    | some (a, n) => if n ≤ 2 ^ 20 then (match compL m n a with | some xs => newL xs st₁ | none => none) else none
    | none => none) = some (v, stx) := hm
  clear hm
  cases hr : rng vs with
  | none => rw [hr] at hm'; cases hm'
  | some q =>
    obtain ⟨a, n⟩ := q
    rw [hr] at hm'
    dsimp only at hm'
    split at hm'
    · rename_i hn
      cases hc : compL m n a with
      | none => rw [hc] at hm'; cases hm'
      | some xs =>
        rw [hc] at hm'
        cases hm'
        cases hst
        refine wpAny_Assign_ListComp_free (fun _ => true) (CompEl m) hsw S.clos S.cell S.kind S.names S.var (O.hloc y (List.mem_of_getElem? hy)) O.pl (wpAny_Call_NameR (B.eval O R (by decide) ?_)) hs
        refine PySem.callWith_type (noStar h rpos) (evalArgs_all h hne _ rpos R e1 fun cvs s₁ hp => ?_)
        obtain ⟨φ₁, X₁, R₁, v₁⟩ := hp
        refine range_ok hr v₁ fun I h' tk hI hk hit => ?_
        have hIlt : I < h'.objs.size := by have : h'.get? I = some _ := hit; exact Heap.lt_size this
        obtain ⟨m₁, hn₁, hm₁⟩ := R₁.loc
        have hIL : C.env.locals ≠ I := fun e => by obtain ⟨o, _, _, ho, _⟩ := hn₁; rw [e, hI] at ho; cases ho
        refine ⟨I, [I], [I], n, _, _, m₁, rfl, (Walks.range O.hh I a 1 n).bound, by rw [sizeLine_eq]; omega, ?_, fun b hb => by rw [List.mem_singleton.mp hb]; exact hIlt,
          fun hm => hIL (List.mem_singleton.mp hm), hn₁.keeps hk, quiet_el O hE S.kind S.var R₁ hI hk hc, ?_⟩
        · show IsRangeIter h' I (a + ((0 : Nat) : Int) * 1) ((n : Int) - ((0 : Nat) : Int)) 1
          rw [show a + ((0 : Nat) : Int) * 1 = a by simp, show (n : Int) - ((0 : Nat) : Int) = n by simp]; exact hit
        · intro D h₅ tk₅ ys vs' hD hlD hplD hlen hP hF hns hk₅
          have hk₆ : ∀ b o, b ≠ C.env.locals → s₁.heap.get? b = some o → h₅.get? b = some o := fun b o hb e => hk₅ b o hb (fun hm => by rw [List.mem_singleton.mp hm, hI] at e; cases e) (hk b o e)
          have hDs : s₁.heap.get? D = none := by
            cases e : s₁.heap.get? D with
            | none => rfl
            | some o => have hD' : h'.get? D = none := hD; rw [hk _ _ e] at hD'; cases hD'
          rw [filter_true] at hF
          have hys := compL_ok hc hlen (fun j u hj => by obtain ⟨_, t, e⟩ := hP j u hj; exact ⟨t, by rw [e, Int.mul_one]⟩) hF
          obtain ⟨oL, es', ep, hoL, hoL2⟩ := hn₁
          obtain ⟨oL', es'', ep', hoL', _⟩ := id hns
          -- the heap with the old locals
          let hm := h₅.update C.env.locals fun _ => oL
          have gm : ∀ b, b ≠ C.env.locals → hm.get? b = h₅.get? b := fun b hb => Heap.get?_update_ne _ _ _ _ hb
          have gL : hm.get? C.env.locals = some oL := Heap.get?_update_self _ hoL' (Obj.isFreed_of_dict hoL2.1)
          have hkm : ∀ b o, s₁.heap.get? b = some o → hm.get? b = some o := fun b o e => by
            by_cases hb : b = C.env.locals
            · subst hb; rw [hoL] at e; cases e; exact gL
            · rw [gm b hb]; exact hk₆ b o hb e
          have R₅ := R₁.kept (tk := tk₅) hkm
          have SD := R₁.side hDs
          have hplm : hm.PlainList D ys := hplD.at fun o e => by rw [gm D SD.ne]; exact e
          have W := R₅.adopt hDs SD (mo := .list xs) fun φ' _ => ⟨ys, hplm, hys φ' hm⟩
          have hsb : Heap.SameBut C.env.locals hm h₅ := ⟨(Heap.SameBut.update h₅ C.env.locals fun _ => oL).1.symm, fun b hb => (gm b hb).symm⟩
          have hL5 : hm.Ns C.env.locals m₁ := ⟨oL, es', ep, gL, hoL2⟩
          have Rm := W.1
          obtain ⟨m₂, hn₂, hm₂⟩ := Rm.loc
          have hlast : (φ₁ ++ [D])[st₁.mem.length]? = some D := by rw [← R₁.memlen]; simp
          have Z := Rm.store O (tk := tk₅) hy (v := .ref D) (p := .fl (.ref st₁.mem.length)) ⟨D, hlast, rfl⟩ hL5 (fun k' x' pv e1 e2 => by
            obtain ⟨u, eu, ru⟩ := hm₁ k' x' pv e1 e2
            exact ⟨u, eu, ru.mono (List.prefix_append ..) (Keep.all hkm)⟩) hns hsb
          exact ⟨φ₁ ++ [D], (X₁.toExt.trans (W.2 s₁.heap hkm hDs).toExt).trans Z.2, Z.1, trivial⟩
    · cases hm'

/-! calls -/
inductive Locs (φ : List Addr) (h : Heap) : List (Option Value) → List (Option PV) → Prop
  | nil : Locs φ h [] []
  | skip {v vs ps} : Locs φ h vs ps → Locs φ h (v :: vs) (none :: ps)
  | cons {v p vs ps} : RV φ h v p → Locs φ h vs ps → Locs φ h (some v :: vs) (some p :: ps)
theorem Locs.len {φ : List Addr} {h : Heap} {vs : List (Option Value)} {ps : List (Option PV)} (x : Locs φ h vs ps) : ps.length = vs.length := by
  induction x <;> simp_all
theorem Locs.get {φ : List Addr} {h : Heap} {vs : List (Option Value)} {ps : List (Option PV)} (x : Locs φ h vs ps) : ∀ {k : Nat} {p : PV}, ps[k]? = some (some p) → ∃ v, vs[k]? = some (some v) ∧ RV φ h v p := by
  induction x with
  | nil => intro k p e; simp at e
  | skip _ ih => intro k p e; cases k with
    | zero => simp at e
    | succ k => obtain ⟨v, a, b⟩ := ih (k := k) (by simpa using e); exact ⟨v, by simpa using a, b⟩
  | cons hv _ ih => intro k p e; cases k with
    | zero => simp at e; subst e; exact ⟨_, rfl, hv⟩
    | succ k => obtain ⟨v, a, b⟩ := ih (k := k) (by simpa using e); exact ⟨v, by simpa using a, b⟩
theorem Locs.mono {φ φ' : List Addr} {h h' : Heap} (hp : φ <+: φ') (hk : Keep h h') {vs : List (Option Value)} {ps : List (Option PV)} (x : Locs φ h vs ps) : Locs φ' h' vs ps := by
  induction x with
  | nil => exact .nil
  | skip _ ih => exact .skip ih
  | cons hv _ ih => exact .cons (hv.mono hp hk) ih

def retV : Fl → PV
  | .ret v => v
  | _ => .fl .none

/-- a def of the text, as the caller's heap holds it -/
structure DefAt (C : Cx) (a : Addr) (fd : FuncData) (body : List Stmt) : Prop where
  here : ∃ o, C.s₀.heap.get? a = some o ∧ o.data = .func fd
  code : C.s₀.heap.CodeRec fd.code fd.qualname
  body : fd.body = .stmts body
  closed : fd.closure = []
  globals : fd.globals = C.env.globals
  builtins : fd.builtins = C.env.builtins
  co : fd.scope.isCoroutine = false
  gen : fd.scope.isGenerator = false
  kind : fd.scope.kind = .function

/-- the callee's block, for each cell a fixed value -/
def BodyOk (C : Cx) (fd : FuncData) (a : Addr) (names : List Str) (cells : List (Str × FV)) (body : List Stmt) (m : Mo Fl) : Prop :=
  ∀ C' : Cx, C'.Ok → C'.prog = C.prog → C'.w = C.w → C'.names = names → C'.env = callEnvC fd C'.env.locals a → C'.mg = C.mg → C'.mb = C.mb → C'.K = C.K →
    (∀ b o, C.s₀.heap.get? b = some o → C'.s₀.heap.get? b = some o) → (∀ x f, (x, f) ∈ cells → IsCellVar C' x f) → C'.A.depth ≤ C.A.depth + 2 → C'.A.units ≤ C.A.units + 4 → EvB C' body m

theorem code_ok (O : C.Ok) (hd1 : C.A.depth + 10 < recursionLimit) (hu1 : C.A.units + 68 < cLine) {B : Around} (hBh : B.handled = none) (hBd : B.depth ≤ C.A.depth + 1) (hBu : B.units ≤ C.A.units + 1) {a : Addr} {fd : FuncData} {body : List Stmt} (D : DefAt C a fd body) {names : List Str} {cells : List (Str × FV)} {m : Mo Fl}
    (hB : BodyOk C fd a names cells body m) (hnd : names.Nodup) (hloc : ∀ x ∈ names, fd.scope.names.lookup x = some .local)
    {vals : List Value} {binds : List (Str × Value)} 
    (hkind : ∀ n, ∀ x ∈ binds, fd.scope.names.lookup x.1 = some .local ∨ (fd.scope.names.lookup x.1 = some .cell ∧ ((cellsFrom (n + 1) fd.scope.names []).lookup x.1).isSome = true))
    {φ st s} (R : Rep C φ st s) (hbind : BindsTo s fd ⟨vals, []⟩ binds) {lv : List (Option Value)} {lp : List (Option PV)} (hlv : names.map (bindL (fun x => fd.scope.names.lookup x) binds fun _ => none) = lv) (hL : Locs φ s.heap lv lp)
    (hcells : ∀ x f, (x, f) ∈ cells → fd.scope.names.lookup x = some .cell ∧ ∀ n, ∃ c v, (cellsFrom (n + 1) fd.scope.names []).lookup x = some c ∧ bindC (fun x => fd.scope.names.lookup x) binds (fun _ => none) x = some v ∧ RF [] v f)
    {fl : Fl} {st₁ : St} (hm : m ⟨lp, st.mem⟩ = some (fl, st₁)) :
    codeAny C.M B (.call (.ref a) ⟨vals, []⟩) (fun r s' => match r with | .ok (.ret v) => PostV C φ s.heap { st with mem := st₁.mem } (retV fl) v s' | .ok _ => False | .error _ => False) s := by
  obtain ⟨o, ho, hdat⟩ := D.here
  refine codeAny_call_function (by omega) (R.keep _ _ ho) hdat D.co D.gen D.body (D.code.keeps R.keep) (hbind _ _ _ _ ?_)
  rw [D.closed]
  refine wpAny_newFunctionEnv_cells D.kind (hkind _) fun env he s₁ x => ?_
  subst he
  replace x : InCallC s (callEnvC fd s.heap.objs.size a).locals (bindL (callEnvC fd s.heap.objs.size a).kindOf binds fun _ => none) (callEnvC fd s.heap.objs.size a).cells (bindC (callEnvC fd s.heap.objs.size a).kindOf binds fun _ => none) s₁ := x
  refine ⟨(O.nolimit.keeps R.keep).keeps x.toInCall.keep, codeAny_func ?_⟩
  show wpAny (model C.prog C.w) (B.deeper (callEnvC fd s.heap.objs.size a)) (execs body (callEnvC fd s.heap.objs.size a)) _ _ s₁
  have hsz : (callEnvC fd s.heap.objs.size a).locals = s.heap.objs.size := rfl
  have hkind' : (callEnvC fd s.heap.objs.size a).kindOf = fun x => fd.scope.names.lookup x := rfl
  rw [hkind'] at x
  obtain ⟨h₁, tk₁, es₁⟩ := x.toInCall.same
  let L' := s.heap.objs.size
  let base := hideAll s₁.heap (L' :: φ)
  have hφlt : ∀ b ∈ φ, b ≠ L' := fun b hb e => by
    have := (R.side (get?_size s.heap)).out
    have e' : b = s.heap.objs.size := e
    exact this (e' ▸ hb)
  have hbk : ∀ b o, s.heap.get? b = some o → b ∉ φ → base.get? b = some o := fun b o e hb =>
    hideAll_get _ (x.toInCall.keep b o e) (fun hm => by
      rcases List.mem_cons.mp hm with e' | hm
      · subst e'; exact absurd (Heap.lt_size e) (Nat.lt_irrefl _)
      · exact hb hm)
  have hs₀φ : ∀ b o, C.s₀.heap.get? b = some o → b ∉ φ := fun b o e hb => by rw [(R.fresh b hb).1] at e; cases e
  have hkb : ∀ b o, C.s₀.heap.get? b = some o → base.get? b = some o := fun b o e => hbk b o (R.keep b o e) (hs₀φ b o e)
  let A' := B.deeper (callEnvC fd s.heap.objs.size a)
  let C' : Cx := { prog := C.prog, w := C.w, A := A', env := callEnvC fd s.heap.objs.size a, names := names, s₀ := { s₁ with heap := base }, mg := C.mg, mb := C.mb, K := C.K }
  have O' : C'.Ok := by
    refine ⟨hBh, ?_, ?_, D.kind, hnd, hloc, hideAll_none _ (List.mem_cons_self ..), ?_, ?_, O.nolimit.keeps hkb, O.kin.keeps hkb⟩
    · show B.depth + 1 + 8 < recursionLimit; omega
    · show B.units + 3 + 64 < cLine; omega
    · show base.Ns fd.globals C.mg
      rw [D.globals]; exact O.g.keeps hkb
    · show base.Ns fd.builtins C.mb
      rw [D.builtins]; exact O.b.keeps hkb
  have K₁ : Keep s.heap s₁.heap := Keep.all x.toInCall.keep
  have R' : Rep C' φ ⟨lp, st.mem⟩ s₁ := by
    refine ⟨⟨s₁.heap, s₁.toks, rfl⟩, fun b o e => of_hideAll _ e, ?_, ⟨_, x.toInCall.ns, fun k y pv e1 e2 => ?_⟩, R.nd, R.memlen, fun k mo b e1 e2 => ?_, fun b hb => ⟨hideAll_none _ (List.mem_cons_of_mem _ hb), hφlt b hb⟩⟩
    · show lp.length = names.length
      rw [hL.len, ← hlv]; simp
    · obtain ⟨v, hv, hr⟩ := hL.get e2
      refine ⟨v, ?_, hr.mono (pre_refl _) K₁⟩
      rw [← hlv] at hv
      have e1' : names[k]? = some y := e1
      simp only [List.getElem?_map, e1', Option.map_some] at hv
      exact Option.some.inj hv
    · exact (R.mem k mo b e1 e2).mono (pre_refl _) K₁ fun o e => x.toInCall.keep b o e
  have hcv : ∀ y f, (y, f) ∈ cells → IsCellVar C' y f := fun y f hyf => by
    obtain ⟨h1, h2⟩ := hcells y f hyf
    obtain ⟨c, v, h3, h4, h5⟩ := h2 s.heap.objs.size
    refine ⟨h1, c, v, h3, ?_, h5⟩
    have hc := x.cell y c h3
    rw [h4] at hc
    obtain ⟨oc, hoc, hdc⟩ := hc
    refine ⟨oc, hideAll_get _ hoc fun hm => ?_, hdc⟩
    rcases List.mem_cons.mp hm with e | hm
    · have := x.above y c (mem_of_lookup h3)
      exact absurd e (Nat.ne_of_gt this)
    · obtain ⟨k, hk, e⟩ := List.getElem_of_mem hm
      have e' : φ[k]? = some c := by rw [List.getElem?_eq_getElem hk, e]
      obtain ⟨mo, hmo⟩ := R.memAddr e'
      obtain ⟨o6, h6, h7, _⟩ := (R'.mem k mo c hmo e').get
      rw [hoc] at h6; cases h6
      exact h7 _ hdc
  have E := hB C' O' rfl rfl rfl rfl rfl rfl rfl hkb hcv (by show B.depth + 1 ≤ _; omega) (by show B.units + 3 ≤ _; omega)
  refine wpAny_mono (E φ _ s₁ fl st₁ R' hm) (fun cf s₂ hp => ?_) fun _ _ x => x.elim
  obtain ⟨φ₂, X₂, R₂, r₂⟩ := hp
  have hLs : ∀ b o, s.heap.get? b = some o → b ∉ φ → s₂.heap.get? b = some o := fun b o e hb => R₂.keep b o (hbk b o e hb)
  obtain ⟨oL, hoL⟩ : ∃ oL, s.heap.get? C.env.locals = some oL := by obtain ⟨_, ⟨oL, _, _, h, _⟩, _⟩ := R.loc; exact ⟨oL, h⟩
  have hLφ : C.env.locals ∉ φ := fun hm => (R.fresh _ hm).2 rfl
  have hnew : ∀ b, b ∈ φ₂ → b ∉ φ → s.heap.get? b = none := fun b h1 h2 => by
    have := (X₂.new b h1 h2).1
    cases e : s.heap.get? b with
    | none => rfl
    | some o => rw [x.toInCall.keep _ _ e] at this; cases this
  have XX : ExtE C φ s.heap φ₂ s₂.heap := by
    refine ⟨⟨X₂.pre, K₁.trans X₂.tup, fun b o h1 _ e => hLs b o e h1, fun b h1 h2 => ⟨hnew b h1 h2, fun e => ?_⟩⟩, fun o e => hLs _ o e hLφ⟩
    have := hnew b h1 h2
    rw [e, hoL] at this; cases this
  refine ⟨φ₂, XX, ?_, ?_⟩
  · refine ⟨?_, fun b o e => hLs b o (R.keep b o e) (hs₀φ b o e), R.len, ?_, R₂.nd, R₂.memlen, R₂.mem, fun b hb => ?_⟩
    · obtain ⟨h, tk, e⟩ := R₂.same
      obtain ⟨h0, tk0, e0⟩ := R.same
      exact ⟨h, tk, by rw [e]; show ({ s₁ with heap := h, toks := tk } : Shared) = _; rw [es₁, e0]⟩
    · obtain ⟨m₀, hn, hm₀⟩ := R.loc
      exact ⟨m₀, hn.at' fun o e => hLs _ o e hLφ, fun k y pv e1 e2 => let ⟨v, e, r⟩ := hm₀ k y pv e1 e2; ⟨v, e, r.mono XX.pre XX.tup⟩⟩
    · by_cases hb2 : b ∈ φ
      · exact R.fresh b hb2
      · refine ⟨?_, (XX.new b hb hb2).2⟩
        cases e : C.s₀.heap.get? b with
        | none => rfl
        | some o => have := hnew b hb hb2; rw [R.keep _ _ e] at this; cases this
  · cases fl with
    | next => cases cf with | next => exact RV.none | _ => exact r₂.elim
    | brk => cases cf with | brk => exact RV.none | _ => exact r₂.elim
    | cont => cases cf with | cont => exact RV.none | _ => exact r₂.elim
    | ret v => cases cf with | ret v => exact r₂ | _ => exact r₂.elim
end
end Mine

/-! Ref8 -/
namespace Mine

def stAt (p : Program) (i : Nat) : Stmt := p.main.body.getD i (.Pass default)
def blockOf (s : Stmt) : List Stmt := match s with
  | .FunctionDef _ _ b _ _ _ _ _ _ _ => b
  | .ClassDef _ _ _ b _ _ _ _ _ _ _ => b
  | _ => []
def scopeOf (s : Stmt) : Scope := match s with
  | .FunctionDef _ _ _ _ _ _ sc _ _ _ => sc
  | _ => default
def paramsOf (s : Stmt) : Arguments := match s with
  | .FunctionDef _ ps _ _ _ _ _ _ _ _ => ps
  | _ => default
def stParams (p : Program) (i : Nat) : Arguments := paramsOf (stAt p i)
def stBody (p : Program) (i : Nat) : List Stmt := Mine.blockOf (stAt p i)
def stScope (p : Program) (i : Nat) : Scope := scopeOf (stAt p i)
def clAt (p : Program) (i j : Nat) : Stmt := (Mine.blockOf (stAt p i)).getD j (.Pass default)
def clParams (p : Program) (i j : Nat) : Arguments := paramsOf (clAt p i j)
def clBody (p : Program) (i j : Nat) : List Stmt := Mine.blockOf (clAt p i j)
def clScope (p : Program) (i j : Nat) : Scope := scopeOf (clAt p i j)

theorem sw_hx {names : List Str} : ∀ {ks : List Nat} {xs : List Str}, ks.map (fun k => names[k]?) = xs.map some → ∀ (i : Nat) k x, ks[i]? = some k → xs[i]? = some x → names[k]? = some x := by
  intro ks xs h i k x e1 e2
  have h' := congrArg (fun l => l[i]?) h
  simp only [List.getElem?_map, e1, e2, Option.map_some] at h'
  exact Option.some.inj h'

section
variable {C : Cx}
theorem names0 {x : Str} (h : C.names = [x]) : C.names[0]? = some x := by rw [h]; rfl

theorem CompScope.zero {scope : Scope} {x : Str} (hn : scope.names = [((".0" : Str), .local), (x, .local)]) (hk : scope.kind = .function) : CompScope C scope [] x := by
  refine ⟨closureFor_none fun z hz => ?_, fun z hz => ?_, hk, fun z hz _ => ?_, ?_⟩
  · rw [hn] at hz; simp at hz; rcases hz with rfl | rfl <;> simp
  · rw [hn] at hz; simp at hz; rcases hz with rfl | rfl <;> simp
  · rw [hn] at hz ⊢; simp at hz
    rcases hz with rfl | rfl
    · simp [List.lookup_cons]
    · simp only [List.lookup_cons, beq_self_eq_true]; split <;> rfl
  · rw [hn]; simp only [List.lookup_cons, beq_self_eq_true]; split <;> rfl

theorem CompScope.one {scope : Scope} {x y : Str} {c : Addr} (hn : scope.names = [((".0" : Str), .local), (x, .local), (y, .free)]) (hk : scope.kind = .function) (hc : C.env.cells.lookup y = some c) :
    CompScope C scope [(y, c)] x := by
  refine ⟨?_, fun z hz => ?_, hk, fun z hz hl => ?_, ?_⟩
  · have e1 : (NameKind.local == NameKind.free) = false := rfl
    have e2 : (NameKind.free == NameKind.free) = true := rfl
    simp only [closureFor, hn, List.forIn_cons, List.forIn_nil, e1, e2, cellOf, hc, pure_bind, if_true, Bool.false_eq_true, if_false]
  · rw [hn] at hz; simp at hz; rcases hz with rfl | rfl | rfl <;> simp
  · rw [hn] at hz ⊢; simp at hz
    rcases hz with rfl | rfl | rfl
    · simp [List.lookup_cons]
    · simp only [List.lookup_cons, beq_self_eq_true]; split <;> rfl
    · cases hl
  · rw [hn]; simp only [List.lookup_cons, beq_self_eq_true]; split <;> rfl

theorem comp_cell (O : C.Ok) {scope : Scope} {x y : Str} {c : Addr} {f : FV} (hv : IsCellVar C y f) (hc : C.env.cells.lookup y = some c) (hn : scope.names = [((".0" : Str), .local), (x, .local), (y, .free)])
    (h0 : (y == (".0" : Str)) = false) (h1 : (y == x) = false) {C' : Cx} (he : C'.env = compEnvC scope [(y, c)] C'.env.locals C.env) (hk : ∀ b o, C.s₀.heap.get? b = some o → C'.s₀.heap.get? b = some o) : IsCellVar C' y f := by
  obtain ⟨c', cv, h2, h3, h4⟩ := hv.at_
  rw [hc] at h2; cases h2
  refine ⟨?_, c, cv, ?_, h3.keeps hk, h4⟩
  · rw [he]
    show (relabel scope C.env).names.lookup y = some .cell
    unfold relabel
    have hky : C.env.kindOf y = some .cell := hv.kind
    simp only [hn, List.map_cons, List.map_nil, O.hk, hky, List.lookup_cons]
    have e1 : (NameKind.local == NameKind.free) = false := rfl
    simp [e1, h0, h1, List.lookup_cons]
  · rw [he]
    show List.lookup y [(y, c)] = some c
    simp [List.lookup_cons]
end
end Mine

/-! BFn1 -/
namespace Mine

def psp_names : List Str := [Str.ofString "string_1", Str.ofString "string_2", Str.ofString "len_1", Str.ofString "len_2", Str.ofString "start"]
def psp_body : List Stmt := stBody PySem.Challenge.pw_fe0312_02 3
def psp_scope : Scope := stScope PySem.Challenge.pw_fe0312_02 3
def psp_params : Arguments := stParams PySem.Challenge.pw_fe0312_02 3
noncomputable def psp_m (n1 : Nat) (n2 : Nat)  : Mo Fl :=
  (blkM [(asg1 (bltM "len" [(getL 0)]) (setL 2)),
  (asg1 (bltM "len" [(getL 1)]) (setL 3)),
  (whileM n1 (andM [(cmpM .NotEq (getL 2) (cst (.fl (.int 0)))), (cmpM .Eq (subM (getL 0) (binM .Sub (getL 2) (cst (.fl (.int 1))))) (subM (getL 1) (binM .Sub (getL 3) (cst (.fl (.int 1))))))]) (blkM [(augM .Sub 2 (cst (.fl (.int 1)))),
  (augM .Sub 3 (cst (.fl (.int 1))))])),
  (asg1 (cst (.fl (.int 0))) (setL 4)),
  (whileM n2 (andM [(cmpM .NotEq (getL 4) (getL 2)), (cmpM .Eq (subM (getL 0) (getL 4)) (subM (getL 1) (getL 4)))]) (blkM [(augM .Add 4 (cst (.fl (.int 1))))])),
  (iteM (cmpM .NotEq (getL 4) (cst (.fl (.int 0)))) (blkM [(augM .Sub 2 (getL 4)),
  (augM .Sub 3 (getL 4))]) (blkM [])),
  (retM (tupM [(getL 2), (getL 3), (getL 4)]))])
theorem psp_ok {prog : Program} {w : World} {A : Around} {L gl blt : Addr} {cells : List (Str × Addr)} {qual : Str} {func frame : Option Addr} {code : Value} {s₀ : Shared} {mg mb : Str → Option Value} {K : Frag} (n1 : Nat) (n2 : Nat) 
    {C : Cx} (hC : C = ⟨prog, w, A, ⟨psp_scope, L, gl, cells, qual, func, code, frame, blt⟩, psp_names, s₀, mg, mb, K⟩) (O : C.Ok) (b_len : IsBuiltin C "len" (.builtin "len")) : EvB C psp_body (psp_m n1 n2) := by
  subst hC
  exact (EvB.cons (EvS.assign (EvE.blt O b_len (by decide) (EvEs.cons (EvE.loc O rfl (by decide)) rfl EvEs.nil) (List.cons_ne_nil _ _)) (EvTg.name O rfl) rfl rfl rfl)
  (EvB.cons (EvS.assign (EvE.blt O b_len (by decide) (EvEs.cons (EvE.loc O rfl (by decide)) rfl EvEs.nil) (List.cons_ne_nil _ _)) (EvTg.name O rfl) rfl rfl rfl)
  (EvB.cons (EvS.while n1 (EvT.and (EvTs.cons (EvT.cmp (EvE.loc O rfl (by decide)) EvE.int rfl) (EvTs.cons (EvT.cmp (EvE.sub (EvE.loc O rfl (by decide)) (EvE.bin (EvE.loc O rfl (by decide)) EvE.int) (fun _ _ => rfl)) (EvE.sub (EvE.loc O rfl (by decide)) (EvE.bin (EvE.loc O rfl (by decide)) EvE.int) (fun _ _ => rfl)) rfl) EvTs.nil))) (EvB.cons (EvS.aug O rfl EvE.int)
  (EvB.cons (EvS.aug O rfl EvE.int)
  EvB.nil)))
  (EvB.cons (EvS.assign EvE.int (EvTg.name O rfl) rfl rfl rfl)
  (EvB.cons (EvS.while n2 (EvT.and (EvTs.cons (EvT.cmp (EvE.loc O rfl (by decide)) (EvE.loc O rfl (by decide)) rfl) (EvTs.cons (EvT.cmp (EvE.sub (EvE.loc O rfl (by decide)) (EvE.loc O rfl (by decide)) (fun _ _ => rfl)) (EvE.sub (EvE.loc O rfl (by decide)) (EvE.loc O rfl (by decide)) (fun _ _ => rfl)) rfl) EvTs.nil))) (EvB.cons (EvS.aug O rfl EvE.int)
  EvB.nil))
  (EvB.cons (EvS.ite (EvT.cmp (EvE.loc O rfl (by decide)) EvE.int rfl) (EvB.cons (EvS.aug O rfl (EvE.loc O rfl (by decide)))
  (EvB.cons (EvS.aug O rfl (EvE.loc O rfl (by decide)))
  EvB.nil)) EvB.nil)
  (EvB.cons (EvS.ret (EvE.tuple (EvEs.cons (EvE.loc O rfl (by decide)) rfl (EvEs.cons (EvE.loc O rfl (by decide)) rfl (EvEs.cons (EvE.loc O rfl (by decide)) rfl EvEs.nil)))))
  EvB.nil)))))))

def ndr_names : List Str := [Str.ofString "string_1", Str.ofString "string_2", Str.ofString "max_distance"]
def ndr_body : List Stmt := stBody PySem.Challenge.pw_fe0312_02 2
def ndr_scope : Scope := stScope PySem.Challenge.pw_fe0312_02 2
def ndr_params : Arguments := stParams PySem.Challenge.pw_fe0312_02 2
noncomputable def ndr_m   : Mo Fl :=
  (blkM [(iteM (cmpM .Is (getL 0) (cst (.fl .none))) (blkM [(iteM (cmpM .Is (getL 1) (cst (.fl .none))) (blkM [(retM (cst (.fl (.int 0))))]) (blkM [])),
  (retM (iteM (cmpM .LtE (bltM "len" [(getL 1)]) (getL 2)) (bltM "len" [(getL 1)]) (cst (.fl (.int (-1))))))]) (blkM [])),
  (retM (iteM (cmpM .LtE (bltM "len" [(getL 0)]) (getL 2)) (bltM "len" [(getL 0)]) (cst (.fl (.int (-1))))))])
theorem ndr_ok {prog : Program} {w : World} {A : Around} {L gl blt : Addr} {cells : List (Str × Addr)} {qual : Str} {func frame : Option Addr} {code : Value} {s₀ : Shared} {mg mb : Str → Option Value} {K : Frag}  
    {C : Cx} (hC : C = ⟨prog, w, A, ⟨ndr_scope, L, gl, cells, qual, func, code, frame, blt⟩, ndr_names, s₀, mg, mb, K⟩) (O : C.Ok) (b_len : IsBuiltin C "len" (.builtin "len")) : EvB C ndr_body (ndr_m ) := by
  subst hC
  exact (EvB.cons (EvS.ite (EvT.cmp (EvE.loc O rfl (by decide)) EvE.noneC rfl) (EvB.cons (EvS.ite (EvT.cmp (EvE.loc O rfl (by decide)) EvE.noneC rfl) (EvB.cons (EvS.ret EvE.int)
  EvB.nil) EvB.nil)
  (EvB.cons (EvS.ret (EvE.ifExp (EvT.cmp (EvE.blt O b_len (by decide) (EvEs.cons (EvE.loc O rfl (by decide)) rfl EvEs.nil) (List.cons_ne_nil _ _)) (EvE.loc O rfl (by decide)) rfl) (EvE.blt O b_len (by decide) (EvEs.cons (EvE.loc O rfl (by decide)) rfl EvEs.nil) (List.cons_ne_nil _ _)) EvE.neg))
  EvB.nil)) EvB.nil)
  (EvB.cons (EvS.ret (EvE.ifExp (EvT.cmp (EvE.blt O b_len (by decide) (EvEs.cons (EvE.loc O rfl (by decide)) rfl EvEs.nil) (List.cons_ne_nil _ _)) (EvE.loc O rfl (by decide)) rfl) (EvE.blt O b_len (by decide) (EvEs.cons (EvE.loc O rfl (by decide)) rfl EvEs.nil) (List.cons_ne_nil _ _)) EvE.neg))
  EvB.nil))

def lvd_names : List Str := [Str.ofString "string_1", Str.ofString "string_2", Str.ofString "len_1", Str.ofString "len_2", Str.ofString "start", Str.ofString "char_1_costs", Str.ofString "current_cost", Str.ofString "i", Str.ofString "left_char_cost", Str.ofString "above_char_cost", Str.ofString "char_1", Str.ofString "j"]
def lvd_body : List Stmt := clBody PySem.Challenge.pw_fe0312_02 18 2
def lvd_scope : Scope := clScope PySem.Challenge.pw_fe0312_02 18 2
def lvd_params : Arguments := clParams PySem.Challenge.pw_fe0312_02 18 2
noncomputable def lvd_m   : Mo Fl :=
  (blkM [(asg1 (compM [(getL 3)] (binM .Add (getL 0) (cst (.fl (.int 1))))) (setL 5)),
  (asg1 (cst (.fl (.int 0))) (setL 6)),
  (forRangeM [(getL 2)] (setL 7) (blkM [(asg2 (getL 7) (setL 8) (setL 9)),
  (asg1 (subM (getL 0) (binM .Add (getL 4) (getL 7))) (setL 10)),
  (forRangeM [(getL 3)] (setL 11) (blkM [(asg1 (getL 8) (setL 6)),
  (asg1 (subM (getL 5) (getL 11)) (setL 8)),
  (iteM (cmpM .NotEq (subM (getL 1) (binM .Add (getL 4) (getL 11))) (getL 10)) (blkM [(iteM (cmpM .Lt (getL 9) (getL 6)) (blkM [(asg1 (getL 9) (setL 6))]) (blkM [])),
  (iteM (cmpM .Lt (getL 8) (getL 6)) (blkM [(asg1 (getL 8) (setL 6))]) (blkM [])),
  (augM .Add 6 (cst (.fl (.int 1))))]) (blkM [])),
  (asg2 (getL 6) (setItemM (getL 5) (getL 11)) (setL 9))]))])),
  (retM (getL 6))])
theorem lvd_ok {prog : Program} {w : World} {A : Around} {L gl blt : Addr} {cells : List (Str × Addr)} {qual : Str} {func frame : Option Addr} {code : Value} {s₀ : Shared} {mg mb : Str → Option Value} {K : Frag}  
    {C : Cx} (hC : C = ⟨prog, w, A, ⟨lvd_scope, L, gl, cells, qual, func, code, frame, blt⟩, lvd_names, s₀, mg, mb, K⟩) (O : C.Ok) (b_range : IsBuiltin C "range" (.type "range")) : EvB C lvd_body (lvd_m ) := by
  subst hC
  exact (EvB.cons (EvS.compAssign O b_range rfl (EvEs.cons (EvE.loc O rfl (by decide)) rfl EvEs.nil) (List.cons_ne_nil _ _) (CompScope.zero rfl rfl) (fun C2 O2 _ _ _ hn2 he2 _ _ hk2 => (EvE.bin (EvE.loc O2 (names0 hn2) (by decide)) EvE.int)) rfl (fun _ => rfl))
  (EvB.cons (EvS.assign EvE.int (EvTg.name O rfl) rfl rfl rfl)
  (EvB.cons (EvS.forRange O b_range (EvEs.cons (EvE.loc O rfl (by decide)) rfl EvEs.nil) (List.cons_ne_nil _ _) (EvTg.name O rfl) (EvB.cons (EvS.assign2 (EvE.loc O rfl (by decide)) (EvTg.name O rfl) (EvTg.name O rfl) rfl rfl)
  (EvB.cons (EvS.assign (EvE.sub (EvE.loc O rfl (by decide)) (EvE.bin (EvE.loc O rfl (by decide)) (EvE.loc O rfl (by decide))) (fun _ _ => rfl)) (EvTg.name O rfl) rfl rfl rfl)
  (EvB.cons (EvS.forRange O b_range (EvEs.cons (EvE.loc O rfl (by decide)) rfl EvEs.nil) (List.cons_ne_nil _ _) (EvTg.name O rfl) (EvB.cons (EvS.assign (EvE.loc O rfl (by decide)) (EvTg.name O rfl) rfl rfl rfl)
  (EvB.cons (EvS.assign (EvE.sub (EvE.loc O rfl (by decide)) (EvE.loc O rfl (by decide)) (fun _ _ => rfl)) (EvTg.name O rfl) rfl rfl rfl)
  (EvB.cons (EvS.ite (EvT.cmp (EvE.sub (EvE.loc O rfl (by decide)) (EvE.bin (EvE.loc O rfl (by decide)) (EvE.loc O rfl (by decide))) (fun _ _ => rfl)) (EvE.loc O rfl (by decide)) rfl) (EvB.cons (EvS.ite (EvT.cmp (EvE.loc O rfl (by decide)) (EvE.loc O rfl (by decide)) rfl) (EvB.cons (EvS.assign (EvE.loc O rfl (by decide)) (EvTg.name O rfl) rfl rfl rfl)
  EvB.nil) EvB.nil)
  (EvB.cons (EvS.ite (EvT.cmp (EvE.loc O rfl (by decide)) (EvE.loc O rfl (by decide)) rfl) (EvB.cons (EvS.assign (EvE.loc O rfl (by decide)) (EvTg.name O rfl) rfl rfl rfl)
  EvB.nil) EvB.nil)
  (EvB.cons (EvS.aug O rfl EvE.int)
  EvB.nil))) EvB.nil)
  (EvB.cons (EvS.assign2 (EvE.loc O rfl (by decide)) (EvTg.sub (EvE.loc O rfl (by decide)) (EvE.loc O rfl (by decide))) (EvTg.name O rfl) rfl rfl)
  EvB.nil)))) (fun _ _ => rfl) (fun _ => rfl))
  EvB.nil))) (fun _ _ => rfl) (fun _ => rfl))
  (EvB.cons (EvS.ret (EvE.loc O rfl (by decide)))
  EvB.nil))))

def lvm_names : List Str := [Str.ofString "string_1", Str.ofString "string_2", Str.ofString "len_1", Str.ofString "len_2", Str.ofString "start", Str.ofString "char_1_costs", Str.ofString "len_diff", Str.ofString "j_start_offset", Str.ofString "j_start", Str.ofString "j_end", Str.ofString "current_cost", Str.ofString "i", Str.ofString "char_1", Str.ofString "prev_char_1_cost", Str.ofString "above_char_cost", Str.ofString "j"]
def lvm_body : List Stmt := clBody PySem.Challenge.pw_fe0312_02 18 3
def lvm_scope : Scope := clScope PySem.Challenge.pw_fe0312_02 18 3
def lvm_params : Arguments := clParams PySem.Challenge.pw_fe0312_02 18 3
noncomputable def lvm_m  (c_max_distance : FV) : Mo Fl :=
  (blkM [(asg1 (compM [(getL 3)] (iteM (cmpM .Lt (getL 0) (cst (.fl c_max_distance))) (binM .Add (getL 0) (cst (.fl (.int 1)))) (binM .Add (cst (.fl c_max_distance)) (cst (.fl (.int 1)))))) (setL 5)),
  (asg1 (binM .Sub (getL 3) (getL 2)) (setL 6)),
  (asg1 (binM .Sub (cst (.fl c_max_distance)) (getL 6)) (setL 7)),
  (asg1 (cst (.fl (.int 0))) (setL 8)),
  (asg1 (cst (.fl c_max_distance)) (setL 9)),
  (asg1 (cst (.fl (.int 0))) (setL 10)),
  (forRangeM [(getL 2)] (setL 11) (blkM [(asg1 (subM (getL 0) (binM .Add (getL 4) (getL 11))) (setL 12)),
  (asg2 (getL 11) (setL 13) (setL 14)),
  (augM .Add 8 (iteM (cmpM .Gt (getL 11) (getL 7)) (cst (.fl (.int 1))) (cst (.fl (.int 0))))),
  (augM .Add 9 (iteM (cmpM .Lt (getL 9) (getL 3)) (cst (.fl (.int 1))) (cst (.fl (.int 0))))),
  (forRangeM [(getL 8), (getL 9)] (setL 15) (blkM [(asg1 (getL 13) (setL 10)),
  (asg1 (subM (getL 5) (getL 15)) (setL 13)),
  (iteM (cmpM .NotEq (subM (getL 1) (binM .Add (getL 4) (getL 15))) (getL 12)) (blkM [(iteM (cmpM .Lt (getL 14) (getL 10)) (blkM [(asg1 (getL 14) (setL 10))]) (blkM [])),
  (iteM (cmpM .Lt (getL 13) (getL 10)) (blkM [(asg1 (getL 13) (setL 10))]) (blkM [])),
  (augM .Add 10 (cst (.fl (.int 1))))]) (blkM [])),
  (asg2 (getL 10) (setItemM (getL 5) (getL 15)) (setL 14))])),
  (iteM (cmpM .Gt (subM (getL 5) (binM .Add (getL 11) (getL 6))) (cst (.fl c_max_distance))) (blkM [(retM (cst (.fl (.int (-1)))))]) (blkM []))])),
  (retM (iteM (cmpM .LtE (getL 10) (cst (.fl c_max_distance))) (getL 10) (cst (.fl (.int (-1))))))])
theorem lvm_ok {prog : Program} {w : World} {A : Around} {L gl blt : Addr} {cells : List (Str × Addr)} {qual : Str} {func frame : Option Addr} {code : Value} {s₀ : Shared} {mg mb : Str → Option Value} {K : Frag}  (c_max_distance : FV)
    {C : Cx} (hC : C = ⟨prog, w, A, ⟨lvm_scope, L, gl, cells, qual, func, code, frame, blt⟩, lvm_names, s₀, mg, mb, K⟩) (O : C.Ok) (b_range : IsBuiltin C "range" (.type "range")) (hc_max_distance : IsCellVar C "max_distance" c_max_distance) : EvB C lvm_body (lvm_m c_max_distance) := by
  subst hC
  obtain ⟨cc, cv, hcc, hcell, hcf⟩ := hc_max_distance.at_
  exact (EvB.cons (EvS.compAssign O b_range rfl (EvEs.cons (EvE.loc O rfl (by decide)) rfl EvEs.nil) (List.cons_ne_nil _ _) (CompScope.one rfl rfl hcc) (fun C2 O2 _ _ _ hn2 he2 _ _ hk2 => (EvE.ifExp (EvT.cmp (EvE.loc O2 (names0 hn2) (by decide)) (EvE.cell O2 (comp_cell O hc_max_distance hcc rfl (by decide) (by decide) he2 hk2) (by decide)) rfl) (EvE.bin (EvE.loc O2 (names0 hn2) (by decide)) EvE.int) (EvE.bin (EvE.cell O2 (comp_cell O hc_max_distance hcc rfl (by decide) (by decide) he2 hk2) (by decide)) EvE.int))) rfl (fun _ => rfl))
  (EvB.cons (EvS.assign (EvE.bin (EvE.loc O rfl (by decide)) (EvE.loc O rfl (by decide))) (EvTg.name O rfl) rfl rfl rfl)
  (EvB.cons (EvS.assign (EvE.bin (EvE.cell O hc_max_distance (by decide)) (EvE.loc O rfl (by decide))) (EvTg.name O rfl) rfl rfl rfl)
  (EvB.cons (EvS.assign EvE.int (EvTg.name O rfl) rfl rfl rfl)
  (EvB.cons (EvS.assign (EvE.cell O hc_max_distance (by decide)) (EvTg.name O rfl) rfl rfl rfl)
  (EvB.cons (EvS.assign EvE.int (EvTg.name O rfl) rfl rfl rfl)
  (EvB.cons (EvS.forRange O b_range (EvEs.cons (EvE.loc O rfl (by decide)) rfl EvEs.nil) (List.cons_ne_nil _ _) (EvTg.name O rfl) (EvB.cons (EvS.assign (EvE.sub (EvE.loc O rfl (by decide)) (EvE.bin (EvE.loc O rfl (by decide)) (EvE.loc O rfl (by decide))) (fun _ _ => rfl)) (EvTg.name O rfl) rfl rfl rfl)
  (EvB.cons (EvS.assign2 (EvE.loc O rfl (by decide)) (EvTg.name O rfl) (EvTg.name O rfl) rfl rfl)
  (EvB.cons (EvS.aug O rfl (EvE.ifExp (EvT.cmp (EvE.loc O rfl (by decide)) (EvE.loc O rfl (by decide)) rfl) EvE.int EvE.int))
  (EvB.cons (EvS.aug O rfl (EvE.ifExp (EvT.cmp (EvE.loc O rfl (by decide)) (EvE.loc O rfl (by decide)) rfl) EvE.int EvE.int))
  (EvB.cons (EvS.forRange O b_range (EvEs.cons (EvE.loc O rfl (by decide)) rfl (EvEs.cons (EvE.loc O rfl (by decide)) rfl EvEs.nil)) (List.cons_ne_nil _ _) (EvTg.name O rfl) (EvB.cons (EvS.assign (EvE.loc O rfl (by decide)) (EvTg.name O rfl) rfl rfl rfl)
  (EvB.cons (EvS.assign (EvE.sub (EvE.loc O rfl (by decide)) (EvE.loc O rfl (by decide)) (fun _ _ => rfl)) (EvTg.name O rfl) rfl rfl rfl)
  (EvB.cons (EvS.ite (EvT.cmp (EvE.sub (EvE.loc O rfl (by decide)) (EvE.bin (EvE.loc O rfl (by decide)) (EvE.loc O rfl (by decide))) (fun _ _ => rfl)) (EvE.loc O rfl (by decide)) rfl) (EvB.cons (EvS.ite (EvT.cmp (EvE.loc O rfl (by decide)) (EvE.loc O rfl (by decide)) rfl) (EvB.cons (EvS.assign (EvE.loc O rfl (by decide)) (EvTg.name O rfl) rfl rfl rfl)
  EvB.nil) EvB.nil)
  (EvB.cons (EvS.ite (EvT.cmp (EvE.loc O rfl (by decide)) (EvE.loc O rfl (by decide)) rfl) (EvB.cons (EvS.assign (EvE.loc O rfl (by decide)) (EvTg.name O rfl) rfl rfl rfl)
  EvB.nil) EvB.nil)
  (EvB.cons (EvS.aug O rfl EvE.int)
  EvB.nil))) EvB.nil)
  (EvB.cons (EvS.assign2 (EvE.loc O rfl (by decide)) (EvTg.sub (EvE.loc O rfl (by decide)) (EvE.loc O rfl (by decide))) (EvTg.name O rfl) rfl rfl)
  EvB.nil)))) (fun _ _ => rfl) (fun _ => rfl))
  (EvB.cons (EvS.ite (EvT.cmp (EvE.sub (EvE.loc O rfl (by decide)) (EvE.bin (EvE.loc O rfl (by decide)) (EvE.loc O rfl (by decide))) (fun _ _ => rfl)) (EvE.cell O hc_max_distance (by decide)) rfl) (EvB.cons (EvS.ret EvE.neg)
  EvB.nil) EvB.nil)
  EvB.nil)))))) (fun _ _ => rfl) (fun _ => rfl))
  (EvB.cons (EvS.ret (EvE.ifExp (EvT.cmp (EvE.loc O rfl (by decide)) (EvE.cell O hc_max_distance (by decide)) rfl) (EvE.loc O rfl (by decide)) EvE.neg))
  EvB.nil))))))))

def osd_names : List Str := [Str.ofString "string_1", Str.ofString "string_2", Str.ofString "len_1", Str.ofString "len_2", Str.ofString "start", Str.ofString "char_1_costs", Str.ofString "prev_char_1_costs", Str.ofString "char_1", Str.ofString "current_cost", Str.ofString "i", Str.ofString "prev_char_1", Str.ofString "char_2", Str.ofString "left_char_cost", Str.ofString "above_char_cost", Str.ofString "next_trans_cost", Str.ofString "j", Str.ofString "this_trans_cost", Str.ofString "prev_char_2"]
def osd_body : List Stmt := clBody PySem.Challenge.pw_fe0312_02 19 2
def osd_scope : Scope := clScope PySem.Challenge.pw_fe0312_02 19 2
def osd_params : Arguments := clParams PySem.Challenge.pw_fe0312_02 19 2
noncomputable def osd_m   : Mo Fl :=
  (blkM [(asg1 (compM [(getL 3)] (binM .Add (getL 0) (cst (.fl (.int 1))))) (setL 5)),
  (asg1 (cst (.fl (.str (Str.ofString " ")))) (setL 7)),
  (asg1 (cst (.fl (.int 0))) (setL 8)),
  (forRangeM [(getL 2)] (setL 9) (blkM [(asg1 (getL 7) (setL 10)),
  (asg1 (subM (getL 0) (binM .Add (getL 4) (getL 9))) (setL 7)),
  (asg1 (cst (.fl (.str (Str.ofString " ")))) (setL 11)),
  (asg2 (getL 9) (setL 12) (setL 13)),
  (asg1 (cst (.fl (.int 0))) (setL 14)),
  (forRangeM [(getL 3)] (setL 15) (blkM [(asg1 (getL 14) (setL 16)),
  (asg1 (subM (getL 6) (getL 15)) (setL 14)),
  (asg2 (getL 12) (setItemM (getL 6) (getL 15)) (setL 8)),
  (asg1 (subM (getL 5) (getL 15)) (setL 12)),
  (asg1 (getL 11) (setL 17)),
  (asg1 (subM (getL 1) (binM .Add (getL 4) (getL 15))) (setL 11)),
  (iteM (cmpM .NotEq (getL 7) (getL 11)) (blkM [(iteM (cmpM .Lt (getL 13) (getL 8)) (blkM [(asg1 (getL 13) (setL 8))]) (blkM [])),
  (iteM (cmpM .Lt (getL 12) (getL 8)) (blkM [(asg1 (getL 12) (setL 8))]) (blkM [])),
  (augM .Add 8 (cst (.fl (.int 1)))),
  (iteM (andM [(cmpM .NotEq (getL 9) (cst (.fl (.int 0)))), (cmpM .NotEq (getL 15) (cst (.fl (.int 0)))), (cmpM .Eq (getL 7) (getL 17)), (cmpM .Eq (getL 10) (getL 11)), (cmpM .Lt (binM .Add (getL 16) (cst (.fl (.int 1)))) (getL 8))]) (blkM [(asg1 (binM .Add (getL 16) (cst (.fl (.int 1)))) (setL 8))]) (blkM []))]) (blkM [])),
  (asg2 (getL 8) (setItemM (getL 5) (getL 15)) (setL 13))]))])),
  (retM (getL 8))])
theorem osd_ok {prog : Program} {w : World} {A : Around} {L gl blt : Addr} {cells : List (Str × Addr)} {qual : Str} {func frame : Option Addr} {code : Value} {s₀ : Shared} {mg mb : Str → Option Value} {K : Frag}  
    {C : Cx} (hC : C = ⟨prog, w, A, ⟨osd_scope, L, gl, cells, qual, func, code, frame, blt⟩, osd_names, s₀, mg, mb, K⟩) (O : C.Ok) (b_range : IsBuiltin C "range" (.type "range")) : EvB C osd_body (osd_m ) := by
  subst hC
  exact (EvB.cons (EvS.compAssign O b_range rfl (EvEs.cons (EvE.loc O rfl (by decide)) rfl EvEs.nil) (List.cons_ne_nil _ _) (CompScope.zero rfl rfl) (fun C2 O2 _ _ _ hn2 he2 _ _ hk2 => (EvE.bin (EvE.loc O2 (names0 hn2) (by decide)) EvE.int)) rfl (fun _ => rfl))
  (EvB.cons (EvS.assign EvE.str (EvTg.name O rfl) rfl rfl rfl)
  (EvB.cons (EvS.assign EvE.int (EvTg.name O rfl) rfl rfl rfl)
  (EvB.cons (EvS.forRange O b_range (EvEs.cons (EvE.loc O rfl (by decide)) rfl EvEs.nil) (List.cons_ne_nil _ _) (EvTg.name O rfl) (EvB.cons (EvS.assign (EvE.loc O rfl (by decide)) (EvTg.name O rfl) rfl rfl rfl)
  (EvB.cons (EvS.assign (EvE.sub (EvE.loc O rfl (by decide)) (EvE.bin (EvE.loc O rfl (by decide)) (EvE.loc O rfl (by decide))) (fun _ _ => rfl)) (EvTg.name O rfl) rfl rfl rfl)
  (EvB.cons (EvS.assign EvE.str (EvTg.name O rfl) rfl rfl rfl)
  (EvB.cons (EvS.assign2 (EvE.loc O rfl (by decide)) (EvTg.name O rfl) (EvTg.name O rfl) rfl rfl)
  (EvB.cons (EvS.assign EvE.int (EvTg.name O rfl) rfl rfl rfl)
  (EvB.cons (EvS.forRange O b_range (EvEs.cons (EvE.loc O rfl (by decide)) rfl EvEs.nil) (List.cons_ne_nil _ _) (EvTg.name O rfl) (EvB.cons (EvS.assign (EvE.loc O rfl (by decide)) (EvTg.name O rfl) rfl rfl rfl)
  (EvB.cons (EvS.assign (EvE.sub (EvE.loc O rfl (by decide)) (EvE.loc O rfl (by decide)) (fun _ _ => rfl)) (EvTg.name O rfl) rfl rfl rfl)
  (EvB.cons (EvS.assign2 (EvE.loc O rfl (by decide)) (EvTg.sub (EvE.loc O rfl (by decide)) (EvE.loc O rfl (by decide))) (EvTg.name O rfl) rfl rfl)
  (EvB.cons (EvS.assign (EvE.sub (EvE.loc O rfl (by decide)) (EvE.loc O rfl (by decide)) (fun _ _ => rfl)) (EvTg.name O rfl) rfl rfl rfl)
  (EvB.cons (EvS.assign (EvE.loc O rfl (by decide)) (EvTg.name O rfl) rfl rfl rfl)
  (EvB.cons (EvS.assign (EvE.sub (EvE.loc O rfl (by decide)) (EvE.bin (EvE.loc O rfl (by decide)) (EvE.loc O rfl (by decide))) (fun _ _ => rfl)) (EvTg.name O rfl) rfl rfl rfl)
  (EvB.cons (EvS.ite (EvT.cmp (EvE.loc O rfl (by decide)) (EvE.loc O rfl (by decide)) rfl) (EvB.cons (EvS.ite (EvT.cmp (EvE.loc O rfl (by decide)) (EvE.loc O rfl (by decide)) rfl) (EvB.cons (EvS.assign (EvE.loc O rfl (by decide)) (EvTg.name O rfl) rfl rfl rfl)
  EvB.nil) EvB.nil)
  (EvB.cons (EvS.ite (EvT.cmp (EvE.loc O rfl (by decide)) (EvE.loc O rfl (by decide)) rfl) (EvB.cons (EvS.assign (EvE.loc O rfl (by decide)) (EvTg.name O rfl) rfl rfl rfl)
  EvB.nil) EvB.nil)
  (EvB.cons (EvS.aug O rfl EvE.int)
  (EvB.cons (EvS.ite (EvT.and (EvTs.cons (EvT.cmp (EvE.loc O rfl (by decide)) EvE.int rfl) (EvTs.cons (EvT.cmp (EvE.loc O rfl (by decide)) EvE.int rfl) (EvTs.cons (EvT.cmp (EvE.loc O rfl (by decide)) (EvE.loc O rfl (by decide)) rfl) (EvTs.cons (EvT.cmp (EvE.loc O rfl (by decide)) (EvE.loc O rfl (by decide)) rfl) (EvTs.cons (EvT.cmp (EvE.bin (EvE.loc O rfl (by decide)) EvE.int) (EvE.loc O rfl (by decide)) rfl) EvTs.nil)))))) (EvB.cons (EvS.assign (EvE.bin (EvE.loc O rfl (by decide)) EvE.int) (EvTg.name O rfl) rfl rfl rfl)
  EvB.nil) EvB.nil)
  EvB.nil)))) EvB.nil)
  (EvB.cons (EvS.assign2 (EvE.loc O rfl (by decide)) (EvTg.sub (EvE.loc O rfl (by decide)) (EvE.loc O rfl (by decide))) (EvTg.name O rfl) rfl rfl)
  EvB.nil)))))))) (fun _ _ => rfl) (fun _ => rfl))
  EvB.nil)))))) (fun _ _ => rfl) (fun _ => rfl))
  (EvB.cons (EvS.ret (EvE.loc O rfl (by decide)))
  EvB.nil)))))

def osm_names : List Str := [Str.ofString "string_1", Str.ofString "string_2", Str.ofString "len_1", Str.ofString "len_2", Str.ofString "start", Str.ofString "char_1_costs", Str.ofString "prev_char_1_costs", Str.ofString "len_diff", Str.ofString "j_start_offset", Str.ofString "j_start", Str.ofString "j_end", Str.ofString "char_1", Str.ofString "current_cost", Str.ofString "i", Str.ofString "prev_char_1", Str.ofString "char_2", Str.ofString "left_char_cost", Str.ofString "above_char_cost", Str.ofString "next_trans_cost", Str.ofString "j", Str.ofString "this_trans_cost", Str.ofString "prev_char_2"]
def osm_body : List Stmt := clBody PySem.Challenge.pw_fe0312_02 19 3
def osm_scope : Scope := clScope PySem.Challenge.pw_fe0312_02 19 3
def osm_params : Arguments := clParams PySem.Challenge.pw_fe0312_02 19 3
noncomputable def osm_m  (c_max_distance : FV) : Mo Fl :=
  (blkM [(asg1 (compM [(getL 3)] (iteM (cmpM .Lt (getL 0) (cst (.fl c_max_distance))) (binM .Add (getL 0) (cst (.fl (.int 1)))) (binM .Add (cst (.fl c_max_distance)) (cst (.fl (.int 1)))))) (setL 5)),
  (asg1 (binM .Sub (getL 3) (getL 2)) (setL 7)),
  (asg1 (binM .Sub (cst (.fl c_max_distance)) (getL 7)) (setL 8)),
  (asg1 (cst (.fl (.int 0))) (setL 9)),
  (asg1 (cst (.fl c_max_distance)) (setL 10)),
  (asg1 (cst (.fl (.str (Str.ofString " ")))) (setL 11)),
  (asg1 (cst (.fl (.int 0))) (setL 12)),
  (forRangeM [(getL 2)] (setL 13) (blkM [(asg1 (getL 11) (setL 14)),
  (asg1 (subM (getL 0) (binM .Add (getL 4) (getL 13))) (setL 11)),
  (asg1 (cst (.fl (.str (Str.ofString " ")))) (setL 15)),
  (asg2 (getL 13) (setL 16) (setL 17)),
  (asg1 (cst (.fl (.int 0))) (setL 18)),
  (augM .Add 9 (iteM (cmpM .Gt (getL 13) (getL 8)) (cst (.fl (.int 1))) (cst (.fl (.int 0))))),
  (augM .Add 10 (iteM (cmpM .Lt (getL 10) (getL 3)) (cst (.fl (.int 1))) (cst (.fl (.int 0))))),
  (forRangeM [(getL 9), (getL 10)] (setL 19) (blkM [(asg1 (getL 18) (setL 20)),
  (asg1 (subM (getL 6) (getL 19)) (setL 18)),
  (asg2 (getL 16) (setItemM (getL 6) (getL 19)) (setL 12)),
  (asg1 (subM (getL 5) (getL 19)) (setL 16)),
  (asg1 (getL 15) (setL 21)),
  (asg1 (subM (getL 1) (binM .Add (getL 4) (getL 19))) (setL 15)),
  (iteM (cmpM .NotEq (getL 11) (getL 15)) (blkM [(iteM (cmpM .Lt (getL 17) (getL 12)) (blkM [(asg1 (getL 17) (setL 12))]) (blkM [])),
  (iteM (cmpM .Lt (getL 16) (getL 12)) (blkM [(asg1 (getL 16) (setL 12))]) (blkM [])),
  (augM .Add 12 (cst (.fl (.int 1)))),
  (iteM (andM [(cmpM .NotEq (getL 13) (cst (.fl (.int 0)))), (cmpM .NotEq (getL 19) (cst (.fl (.int 0)))), (cmpM .Eq (getL 11) (getL 21)), (cmpM .Eq (getL 14) (getL 15)), (cmpM .Lt (binM .Add (getL 20) (cst (.fl (.int 1)))) (getL 12))]) (blkM [(asg1 (binM .Add (getL 20) (cst (.fl (.int 1)))) (setL 12))]) (blkM []))]) (blkM [])),
  (asg2 (getL 12) (setItemM (getL 5) (getL 19)) (setL 17))])),
  (iteM (cmpM .Gt (subM (getL 5) (binM .Add (getL 13) (getL 7))) (cst (.fl c_max_distance))) (blkM [(retM (cst (.fl (.int (-1)))))]) (blkM []))])),
  (retM (iteM (cmpM .LtE (getL 12) (cst (.fl c_max_distance))) (getL 12) (cst (.fl (.int (-1))))))])
theorem osm_ok {prog : Program} {w : World} {A : Around} {L gl blt : Addr} {cells : List (Str × Addr)} {qual : Str} {func frame : Option Addr} {code : Value} {s₀ : Shared} {mg mb : Str → Option Value} {K : Frag}  (c_max_distance : FV)
    {C : Cx} (hC : C = ⟨prog, w, A, ⟨osm_scope, L, gl, cells, qual, func, code, frame, blt⟩, osm_names, s₀, mg, mb, K⟩) (O : C.Ok) (b_range : IsBuiltin C "range" (.type "range")) (hc_max_distance : IsCellVar C "max_distance" c_max_distance) : EvB C osm_body (osm_m c_max_distance) := by
  subst hC
  obtain ⟨cc, cv, hcc, hcell, hcf⟩ := hc_max_distance.at_
  exact (EvB.cons (EvS.compAssign O b_range rfl (EvEs.cons (EvE.loc O rfl (by decide)) rfl EvEs.nil) (List.cons_ne_nil _ _) (CompScope.one rfl rfl hcc) (fun C2 O2 _ _ _ hn2 he2 _ _ hk2 => (EvE.ifExp (EvT.cmp (EvE.loc O2 (names0 hn2) (by decide)) (EvE.cell O2 (comp_cell O hc_max_distance hcc rfl (by decide) (by decide) he2 hk2) (by decide)) rfl) (EvE.bin (EvE.loc O2 (names0 hn2) (by decide)) EvE.int) (EvE.bin (EvE.cell O2 (comp_cell O hc_max_distance hcc rfl (by decide) (by decide) he2 hk2) (by decide)) EvE.int))) rfl (fun _ => rfl))
  (EvB.cons (EvS.assign (EvE.bin (EvE.loc O rfl (by decide)) (EvE.loc O rfl (by decide))) (EvTg.name O rfl) rfl rfl rfl)
  (EvB.cons (EvS.assign (EvE.bin (EvE.cell O hc_max_distance (by decide)) (EvE.loc O rfl (by decide))) (EvTg.name O rfl) rfl rfl rfl)
  (EvB.cons (EvS.assign EvE.int (EvTg.name O rfl) rfl rfl rfl)
  (EvB.cons (EvS.assign (EvE.cell O hc_max_distance (by decide)) (EvTg.name O rfl) rfl rfl rfl)
  (EvB.cons (EvS.assign EvE.str (EvTg.name O rfl) rfl rfl rfl)
  (EvB.cons (EvS.assign EvE.int (EvTg.name O rfl) rfl rfl rfl)
  (EvB.cons (EvS.forRange O b_range (EvEs.cons (EvE.loc O rfl (by decide)) rfl EvEs.nil) (List.cons_ne_nil _ _) (EvTg.name O rfl) (EvB.cons (EvS.assign (EvE.loc O rfl (by decide)) (EvTg.name O rfl) rfl rfl rfl)
  (EvB.cons (EvS.assign (EvE.sub (EvE.loc O rfl (by decide)) (EvE.bin (EvE.loc O rfl (by decide)) (EvE.loc O rfl (by decide))) (fun _ _ => rfl)) (EvTg.name O rfl) rfl rfl rfl)
  (EvB.cons (EvS.assign EvE.str (EvTg.name O rfl) rfl rfl rfl)
  (EvB.cons (EvS.assign2 (EvE.loc O rfl (by decide)) (EvTg.name O rfl) (EvTg.name O rfl) rfl rfl)
  (EvB.cons (EvS.assign EvE.int (EvTg.name O rfl) rfl rfl rfl)
  (EvB.cons (EvS.aug O rfl (EvE.ifExp (EvT.cmp (EvE.loc O rfl (by decide)) (EvE.loc O rfl (by decide)) rfl) EvE.int EvE.int))
  (EvB.cons (EvS.aug O rfl (EvE.ifExp (EvT.cmp (EvE.loc O rfl (by decide)) (EvE.loc O rfl (by decide)) rfl) EvE.int EvE.int))
  (EvB.cons (EvS.forRange O b_range (EvEs.cons (EvE.loc O rfl (by decide)) rfl (EvEs.cons (EvE.loc O rfl (by decide)) rfl EvEs.nil)) (List.cons_ne_nil _ _) (EvTg.name O rfl) (EvB.cons (EvS.assign (EvE.loc O rfl (by decide)) (EvTg.name O rfl) rfl rfl rfl)
  (EvB.cons (EvS.assign (EvE.sub (EvE.loc O rfl (by decide)) (EvE.loc O rfl (by decide)) (fun _ _ => rfl)) (EvTg.name O rfl) rfl rfl rfl)
  (EvB.cons (EvS.assign2 (EvE.loc O rfl (by decide)) (EvTg.sub (EvE.loc O rfl (by decide)) (EvE.loc O rfl (by decide))) (EvTg.name O rfl) rfl rfl)
  (EvB.cons (EvS.assign (EvE.sub (EvE.loc O rfl (by decide)) (EvE.loc O rfl (by decide)) (fun _ _ => rfl)) (EvTg.name O rfl) rfl rfl rfl)
  (EvB.cons (EvS.assign (EvE.loc O rfl (by decide)) (EvTg.name O rfl) rfl rfl rfl)
  (EvB.cons (EvS.assign (EvE.sub (EvE.loc O rfl (by decide)) (EvE.bin (EvE.loc O rfl (by decide)) (EvE.loc O rfl (by decide))) (fun _ _ => rfl)) (EvTg.name O rfl) rfl rfl rfl)
  (EvB.cons (EvS.ite (EvT.cmp (EvE.loc O rfl (by decide)) (EvE.loc O rfl (by decide)) rfl) (EvB.cons (EvS.ite (EvT.cmp (EvE.loc O rfl (by decide)) (EvE.loc O rfl (by decide)) rfl) (EvB.cons (EvS.assign (EvE.loc O rfl (by decide)) (EvTg.name O rfl) rfl rfl rfl)
  EvB.nil) EvB.nil)
  (EvB.cons (EvS.ite (EvT.cmp (EvE.loc O rfl (by decide)) (EvE.loc O rfl (by decide)) rfl) (EvB.cons (EvS.assign (EvE.loc O rfl (by decide)) (EvTg.name O rfl) rfl rfl rfl)
  EvB.nil) EvB.nil)
  (EvB.cons (EvS.aug O rfl EvE.int)
  (EvB.cons (EvS.ite (EvT.and (EvTs.cons (EvT.cmp (EvE.loc O rfl (by decide)) EvE.int rfl) (EvTs.cons (EvT.cmp (EvE.loc O rfl (by decide)) EvE.int rfl) (EvTs.cons (EvT.cmp (EvE.loc O rfl (by decide)) (EvE.loc O rfl (by decide)) rfl) (EvTs.cons (EvT.cmp (EvE.loc O rfl (by decide)) (EvE.loc O rfl (by decide)) rfl) (EvTs.cons (EvT.cmp (EvE.bin (EvE.loc O rfl (by decide)) EvE.int) (EvE.loc O rfl (by decide)) rfl) EvTs.nil)))))) (EvB.cons (EvS.assign (EvE.bin (EvE.loc O rfl (by decide)) EvE.int) (EvTg.name O rfl) rfl rfl rfl)
  EvB.nil) EvB.nil)
  EvB.nil)))) EvB.nil)
  (EvB.cons (EvS.assign2 (EvE.loc O rfl (by decide)) (EvTg.sub (EvE.loc O rfl (by decide)) (EvE.loc O rfl (by decide))) (EvTg.name O rfl) rfl rfl)
  EvB.nil)))))))) (fun _ _ => rfl) (fun _ => rfl))
  (EvB.cons (EvS.ite (EvT.cmp (EvE.sub (EvE.loc O rfl (by decide)) (EvE.bin (EvE.loc O rfl (by decide)) (EvE.loc O rfl (by decide))) (fun _ _ => rfl)) (EvE.cell O hc_max_distance (by decide)) rfl) (EvB.cons (EvS.ret EvE.neg)
  EvB.nil) EvB.nil)
  EvB.nil))))))))) (fun _ _ => rfl) (fun _ => rfl))
  (EvB.cons (EvS.ret (EvE.ifExp (EvT.cmp (EvE.loc O rfl (by decide)) (EvE.cell O hc_max_distance (by decide)) rfl) (EvE.loc O rfl (by decide)) EvE.neg))
  EvB.nil)))))))))

end Mine

/-! BAp -/
namespace Mine
/-! the combinators, applied -/
theorem bindM_ap {α β : Type} (m : Mo α) (f : α → Mo β) (st : St) : bindM m f st = match m st with | none => none | some (a, st') => f a st' := by
  unfold bindM; cases m st with | none => rfl | some q => rfl
theorem cst_ap (v : PV) (st : St) : cst v st = some (v, st) := rfl
theorem getL_ap (k : Nat) (l : List (Option PV)) (mem : List MO) : getL k ⟨l, mem⟩ = match l[k]? with | some (some v) => some (v, ⟨l, mem⟩) | _ => none := rfl
theorem setL_ap (k : Nat) (v : PV) (l : List (Option PV)) (mem : List MO) : setL k v ⟨l, mem⟩ = some ((), ⟨l.set k (some v), mem⟩) := rfl
theorem binM_ap (op : Operator) (ml mr : Mo PV) (st : St) : binM op ml mr st = match ml st with | none => none | some (a, s1) => match mr s1 with | none => none | some (b, s2) => match binF op a b with | none => none | some c => some (c, s2) := by
  unfold binM bindM liftO
  cases ml st with
  | none => rfl
  | some q =>
    dsimp only
    cases mr q.2 with
    | none => rfl
    | some r => dsimp only; cases binF op q.1 r.1 <;> rfl
theorem cmpM_ap (op : CmpOp) (ml mr : Mo PV) (st : St) : cmpM op ml mr st = match ml st with | none => none | some (a, s1) => match mr s1 with | none => none | some (b, s2) => match cmpF op a b with | none => none | some c => some (c, s2) := by
  unfold cmpM bindM liftO
  cases ml st with
  | none => rfl
  | some q =>
    dsimp only
    cases mr q.2 with
    | none => rfl
    | some r => dsimp only; cases cmpF op q.1 r.1 <;> rfl
theorem iteM_ap {α : Type} (t : Mo Bool) (a b : Mo α) (st : St) : iteM t a b st = match t st with | none => none | some (c, s1) => if c = true then a s1 else b s1 := by
  unfold iteM bindM
  cases t st with
  | none => rfl
  | some q => obtain ⟨c, s⟩ := q; cases c <;> rfl
theorem asg1_ap (m : Mo PV) (f : PV → Mo Unit) (st : St) : asg1 m f st = match m st with | none => none | some (v, s1) => match f v s1 with | none => none | some (_, s2) => some (.next, s2) := by
  unfold asg1 bindM
  cases m st with
  | none => rfl
  | some q => dsimp only; cases f q.1 q.2 <;> rfl
theorem asg2_ap (m : Mo PV) (f g : PV → Mo Unit) (st : St) : asg2 m f g st = match m st with | none => none | some (v, s1) => match f v s1 with | none => none | some (_, s2) => match g v s2 with | none => none | some (_, s3) => some (.next, s3) := by
  unfold asg2 bindM
  cases m st with
  | none => rfl
  | some q =>
    dsimp only
    cases f q.1 q.2 with
    | none => rfl
    | some r => dsimp only; cases g q.1 r.2 <;> rfl
theorem augM_ap (op : Operator) (k : Nat) (m : Mo PV) (l : List (Option PV)) (mem : List MO) : augM op k m ⟨l, mem⟩ = match l[k]? with
    | some (some a) => (match m ⟨l, mem⟩ with | none => none | some (b, s2) => match binF op a b with | none => none | some c => some (.next, { s2 with loc := s2.loc.set k (some c) }))
    | _ => none := by
  unfold augM bindM getL liftO
  dsimp only
  cases l[k]? with
  | none => rfl
  | some o =>
    cases o with
    | none => rfl
    | some a =>
      dsimp only
      cases m ⟨l, mem⟩ with
      | none => rfl
      | some q => dsimp only; cases binF op a q.1 <;> rfl
theorem blkM_nil_ap (st : St) : blkM [] st = some (.next, st) := rfl
theorem blkM_cons_ap (m : Mo Fl) (ms : List (Mo Fl)) (st : St) : blkM (m :: ms) st = match m st with
    | none => none
    | some (.next, s1) => blkM ms s1
    | some (f, s1) => some (f, s1) := by
  show bindM m _ st = _
  unfold bindM
  cases m st with
  | none => rfl
  | some q => obtain ⟨f, s⟩ := q; cases f <;> rfl
theorem retM_ap (m : Mo PV) (st : St) : retM m st = match m st with | none => none | some (v, s1) => some (.ret v, s1) := by
  unfold retM bindM; cases m st with | none => rfl | some q => rfl
theorem andM_nil_ap (st : St) : andM [] st = some (true, st) := rfl
theorem andM_cons_ap (m : Mo Bool) (ms : List (Mo Bool)) (st : St) : andM (m :: ms) st = match m st with
    | none => none
    | some (true, s1) => andM ms s1
    | some (false, s1) => some (false, s1) := by
  show bindM m _ st = _
  unfold bindM
  cases m st with
  | none => rfl
  | some q => obtain ⟨f, s⟩ := q; cases f <;> rfl
theorem orM_nil_ap (st : St) : orM [] st = some (false, st) := rfl
theorem orM_cons_ap (m : Mo Bool) (ms : List (Mo Bool)) (st : St) : orM (m :: ms) st = match m st with
    | none => none
    | some (true, s1) => some (true, s1)
    | some (false, s1) => orM ms s1 := by
  show bindM m _ st = _
  unfold bindM
  cases m st with
  | none => rfl
  | some q => obtain ⟨f, s⟩ := q; cases f <;> rfl
theorem seqM_nil_ap (st : St) : seqM [] st = some ([], st) := rfl
theorem seqM_cons_ap (m : Mo PV) (ms : List (Mo PV)) (st : St) : seqM (m :: ms) st = match m st with | none => none | some (v, s1) => match seqM ms s1 with | none => none | some (vs, s2) => some (v :: vs, s2) := by
  show bindM m _ st = _
  unfold bindM
  cases m st with
  | none => rfl
  | some q => dsimp only; cases seqM ms q.2 <;> rfl
theorem tupM_ap (ms : List (Mo PV)) (st : St) : tupM ms st = match seqM ms st with | none => none | some (vs, s1) => if vs.length ≤ 100 then (match flatL vs with | none => none | some fs => some (.tup fs, s1)) else none := by
  unfold tupM bindM liftO
  cases seqM ms st with
  | none => rfl
  | some q =>
    dsimp only
    by_cases h : q.1.length ≤ 100
    · rw [if_pos h, if_pos h]; cases flatL q.1 <;> rfl
    · rw [if_neg h, if_neg h]
theorem subM_ap (mv mi : Mo PV) (st : St) : subM mv mi st = match mv st with | none => none | some (a, s1) => match mi s1 with | none => none | some (b, s2) => match subF s2 a b with | none => none | some c => some (c, s2) := by
  unfold subM bindM
  cases mv st with
  | none => rfl
  | some q =>
    dsimp only
    cases mi q.2 with
    | none => rfl
    | some r => dsimp only; cases subF r.2 q.1 r.1 <;> rfl
theorem subF_str (l : List (Option PV)) (mem : List MO) (s : Str) (i : Int) : subF ⟨l, mem⟩ (.fl (.str s)) (.fl (.int i)) = if pd (0 ≤ i ∧ i < 4611686018427387904) = true then (s.cps[i.toNat]?).map fun c => .fl (.str ⟨#[c]⟩) else none := id (by rfl)
theorem subF_list (l : List (Option PV)) (mem : List MO) (k : Nat) (i : Int) : subF ⟨l, mem⟩ (.fl (.ref k)) (.fl (.int i)) = if pd (0 ≤ i ∧ i < 4611686018427387904) = true then (match mem[k]? with | some (.list xs) => xs[i.toNat]? | _ => none) else none := id (by rfl)
theorem setItemM_ap (mo mi : Mo PV) (v : PV) (st : St) : setItemM mo mi v st = match mo st with | none => none | some (a, s1) => match mi s1 with | none => none | some (b, s2) => match setItemF v a b s2 with | none => none | some s3 => some ((), s3) := by
  unfold setItemM bindM
  cases mo st with
  | none => rfl
  | some q =>
    dsimp only
    cases mi q.2 with
    | none => rfl
    | some r => dsimp only; cases setItemF v q.1 r.1 r.2 <;> rfl
theorem setItemF_list (v : PV) (l : List (Option PV)) (mem : List MO) (k : Nat) (i : Int) : setItemF v (.fl (.ref k)) (.fl (.int i)) ⟨l, mem⟩ =
    if pd (0 ≤ i ∧ i < 4611686018427387904) = true then (match mem[k]? with | some (.list xs) => if i < xs.length then some ⟨l, mem.set k (.list (xs.set i.toNat v))⟩ else none | _ => none) else none := id (by rfl)
theorem bltM_ap (id : String) (ms : List (Mo PV)) (st : St) : bltM id ms st = match seqM ms st with | none => none | some (vs, s1) => match bltF s1 id vs with | none => none | some c => some (c, s1) := by
  unfold bltM bindM
  cases seqM ms st with
  | none => rfl
  | some q => dsimp only; cases bltF q.2 id q.1 <;> rfl
theorem whileM_ap (n : Nat) (t : Mo Bool) (b : Mo Fl) (st : St) : whileM (n + 1) t b st = match t st with
    | none => none
    | some (true, s1) => (match b s1 with
      | none => none
      | some (.next, s2) => whileM n t b s2
      | some (.cont, s2) => whileM n t b s2
      | some (.brk, s2) => some (.next, s2)
      | some (.ret v, s2) => some (.ret v, s2))
    | some (false, s1) => some (.next, s1) := by
  show bindM t _ st = _
  unfold bindM
  cases t st with
  | none => rfl
  | some q =>
    obtain ⟨c, s⟩ := q
    cases c with
    | false => rfl
    | true =>
      dsimp only
      rw [if_pos (rfl : true = true)]
      cases b s with
      | none => rfl
      | some r => obtain ⟨f, s'⟩ := r; cases f <;> rfl
theorem loopR_zero_ap (f : PV → Mo Unit) (b : Mo Fl) (c i : Int) (st : St) : loopR f b c 0 i st = some (.next, st) := rfl
theorem loopR_succ_ap (f : PV → Mo Unit) (b : Mo Fl) (c : Int) (n : Nat) (i : Int) (st : St) : loopR f b c (n + 1) i st = match f (.fl (.int i)) st with
    | none => none
    | some (_, s1) => match b s1 with
      | none => none
      | some (.next, s2) => loopR f b c n (i + c) s2
      | some (.cont, s2) => loopR f b c n (i + c) s2
      | some (.brk, s2) => some (.next, s2)
      | some (.ret v, s2) => some (.ret v, s2) := by
  show bindM _ _ st = _
  unfold bindM
  cases f (.fl (.int i)) st with
  | none => rfl
  | some q =>
    dsimp only
    cases b q.2 with
    | none => rfl
    | some r => obtain ⟨g, s'⟩ := r; cases g <;> rfl
theorem forRangeM_ap (ms : List (Mo PV)) (f : PV → Mo Unit) (b : Mo Fl) (st : St) : forRangeM ms f b st = match seqM ms st with
    | none => none
    | some (vs, s1) => match rng vs with
      | some (a, n) => loopR f b 1 n a s1
      | none => none := by
  unfold forRangeM bindM
  cases seqM ms st with
  | none => rfl
  | some q => dsimp only; cases rng q.1 <;> rfl
theorem compM_ap (ms : List (Mo PV)) (m : Mo PV) (st : St) : compM ms m st = match seqM ms st with
    | none => none
    | some (vs, s1) => match rng vs with
      | some (a, n) => if n ≤ 1048576 then (match compL m n a with | some xs => newL xs s1 | none => none) else none
      | none => none := by
  unfold compM bindM
  cases seqM ms st with
  | none => rfl
  | some q => rfl
theorem newL_ap (vs : List PV) (l : List (Option PV)) (mem : List MO) : newL vs ⟨l, mem⟩ = some (.fl (.ref mem.length), ⟨l, mem ++ [.list vs]⟩) := rfl
theorem bin_add (a b : Int) : binF .Add (.fl (.int a)) (.fl (.int b)) = some (.fl (.int (a + b))) := rfl
theorem bin_sub (a b : Int) : binF .Sub (.fl (.int a)) (.fl (.int b)) = some (.fl (.int (a - b))) := rfl
theorem cmp_eq_i (a b : Int) : cmpF .Eq (.fl (.int a)) (.fl (.int b)) = some (decide (a = b)) := rfl
theorem cmp_ne_i (a b : Int) : cmpF .NotEq (.fl (.int a)) (.fl (.int b)) = some (decide (¬ a = b)) := by
  show some (a != b) = _
  by_cases h : a = b <;> simp [h]
theorem cmp_lt_i (a b : Int) : cmpF .Lt (.fl (.int a)) (.fl (.int b)) = some (pd (a < b)) := rfl
theorem cmp_le_i (a b : Int) : cmpF .LtE (.fl (.int a)) (.fl (.int b)) = some (pd (a ≤ b)) := rfl
theorem cmp_gt_i (a b : Int) : cmpF .Gt (.fl (.int a)) (.fl (.int b)) = some (pd (a > b)) := rfl
theorem cmp_ge_i (a b : Int) : cmpF .GtE (.fl (.int a)) (.fl (.int b)) = some (pd (a ≥ b)) := rfl
theorem str1_eq (c d : Nat) : ((⟨#[c]⟩ : Str) == ⟨#[d]⟩) = (c == d) := by
  rw [Bool.eq_iff_iff, beq_iff_eq, beq_iff_eq]; simp
theorem cmp_eq_c (a b : Nat) : cmpF .Eq (.fl (.str ⟨#[a]⟩)) (.fl (.str ⟨#[b]⟩)) = some (decide (a = b)) := by
  show some _ = _; rw [str1_eq]; rfl
theorem cmp_ne_c (a b : Nat) : cmpF .NotEq (.fl (.str ⟨#[a]⟩)) (.fl (.str ⟨#[b]⟩)) = some (decide (¬ a = b)) := by
  show some (!_) = _; rw [str1_eq]; by_cases h : a = b <;> simp [h]
theorem blt_len_s (st : St) (x : Str) : bltF st "len" [.fl (.str x)] = if pd (x.length < 4611686018427387904) = true then some (.fl (.int x.length)) else none := id (by rfl)
end Mine

/-! BEv1 -/
namespace Mine

abbrev sI (i : Int) : Option PV := some (.fl (.int i))
abbrev sS (s : Str) : Option PV := some (.fl (.str s))
abbrev sC (c : Nat) : Option PV := some (.fl (.str ⟨#[c]⟩))
abbrev sR (k : Nat) : Option PV := some (.fl (.ref k))

theorem cps_get (s : Str) (i : Nat) : s.cps[i]? = s.cps.toList[i]? := by simp

/-- the suffix loop -/
theorem psp_w1 (s1 s2 : Str) (mem : List MO) (x : Option PV) (a b : List Nat) (ha : s1.cps.toList = a) (hb : s2.cps.toList = b) (hla : a.length < 2 ^ 61) (hlb : b.length < 2 ^ 61) : ∀ (l1 l2 n : Nat), l1 ≤ l2 → l1 ≤ a.length → l2 ≤ b.length → l1 + 1 ≤ n → a.drop l1 = b.drop l2 →
    ∃ k1 k2, k1 ≤ k2 ∧ k1 ≤ l1 ∧ k2 ≤ l2 ∧ a.drop k1 = b.drop k2 ∧
      whileM n (andM [(cmpM .NotEq (getL 2) (cst (.fl (.int 0)))), (cmpM .Eq (subM (getL 0) (binM .Sub (getL 2) (cst (.fl (.int 1))))) (subM (getL 1) (binM .Sub (getL 3) (cst (.fl (.int 1))))))]) (blkM [(augM .Sub 2 (cst (.fl (.int 1)))),
        (augM .Sub 3 (cst (.fl (.int 1))))]) ⟨[sS s1, sS s2, sI l1, sI l2, x], mem⟩ = some (.next, ⟨[sS s1, sS s2, sI k1, sI k2, x], mem⟩) := by
  intro l1
  induction l1 with
  | zero =>
    intro l2 n h1 h2 h3 h4 h5
    obtain ⟨n, rfl⟩ : ∃ m, n = m + 1 := ⟨n - 1, by omega⟩
    refine ⟨0, l2, by omega, by omega, by omega, h5, ?_⟩
    simp [whileM_ap, getL_ap, setL_ap, cst_ap, binM_ap, cmpM_ap, andM_nil_ap, andM_cons_ap, orM_nil_ap, orM_cons_ap, iteM_ap, asg1_ap, asg2_ap, augM_ap, blkM_nil_ap, blkM_cons_ap, retM_ap, tupM_ap, seqM_nil_ap, seqM_cons_ap, flatL, subM_ap, subF_str, subF_list, setItemM_ap, setItemF_list, bltM_ap, blt_len_s, bin_add, bin_sub, cmp_eq_i, cmp_ne_i, cmp_lt_i, cmp_le_i, cmp_gt_i, cmp_ge_i, cmp_eq_c, cmp_ne_c, pd_True, pd_False]
  | succ l1 ih =>
    intro l2 n h1 h2 h3 h4 h5
    obtain ⟨n, rfl⟩ : ∃ m, n = m + 1 := ⟨n - 1, by omega⟩
    obtain ⟨l2, rfl⟩ : ∃ m, l2 = m + 1 := ⟨l2 - 1, by omega⟩
    have g1 : s1.cps[l1]? = some a[l1] := by rw [cps_get, ha]; exact List.getElem?_eq_getElem _
    have g2 : s2.cps[l2]? = some b[l2] := by rw [cps_get, hb]; exact List.getElem?_eq_getElem _
    have d1 : a.drop l1 = a[l1] :: a.drop (l1 + 1) := List.drop_eq_getElem_cons (by omega)
    have d2 : b.drop l2 = b[l2] :: b.drop (l2 + 1) := List.drop_eq_getElem_cons (by omega)
    have n1 : ¬ ((l1 : Int) + 1 = 0) := by omega
    have b1 : (l1 : Int) < 4611686018427387904 := by omega
    have b2 : (l2 : Int) < 4611686018427387904 := by omega
    by_cases hc : a[l1] = b[l2]
    · obtain ⟨k1, k2, q1, q2, q3, q4, q5⟩ := ih l2 n (by omega) (by omega) (by omega) (by omega) (by rw [d1, d2, hc, h5])
      refine ⟨k1, k2, q1, by omega, by omega, q4, ?_⟩
      rw [← q5]
      rw [whileM_ap]
      simp [getL_ap, setL_ap, cst_ap, binM_ap, cmpM_ap, andM_nil_ap, andM_cons_ap, orM_nil_ap, orM_cons_ap, iteM_ap, asg1_ap, asg2_ap, augM_ap, blkM_nil_ap, blkM_cons_ap, retM_ap, tupM_ap, seqM_nil_ap, seqM_cons_ap, flatL, subM_ap, subF_str, subF_list, setItemM_ap, setItemF_list, bltM_ap, blt_len_s, bin_add, bin_sub, cmp_eq_i, cmp_ne_i, cmp_lt_i, cmp_le_i, cmp_gt_i, cmp_ge_i, cmp_eq_c, cmp_ne_c, pd_True, pd_False, n1, b1, b2, g1, g2, hc]
    · refine ⟨l1 + 1, l2 + 1, by omega, by omega, by omega, h5, ?_⟩
      rw [whileM_ap]
      simp [getL_ap, setL_ap, cst_ap, binM_ap, cmpM_ap, andM_nil_ap, andM_cons_ap, orM_nil_ap, orM_cons_ap, iteM_ap, asg1_ap, asg2_ap, augM_ap, blkM_nil_ap, blkM_cons_ap, retM_ap, tupM_ap, seqM_nil_ap, seqM_cons_ap, flatL, subM_ap, subF_str, subF_list, setItemM_ap, setItemF_list, bltM_ap, blt_len_s, bin_add, bin_sub, cmp_eq_i, cmp_ne_i, cmp_lt_i, cmp_le_i, cmp_gt_i, cmp_ge_i, cmp_eq_c, cmp_ne_c, pd_True, pd_False, n1, b1, b2, g1, g2, hc]

/-- the prefix loop -/
theorem psp_w2 (s1 s2 : Str) (mem : List MO) (a b : List Nat) (ha : s1.cps.toList = a) (hb : s2.cps.toList = b) (hla : a.length < 2 ^ 61) (hlb : b.length < 2 ^ 61) (k1 k2 : Nat) (h12 : k1 ≤ k2) (hk1 : k1 ≤ a.length) (hk2 : k2 ≤ b.length) :
    ∀ (left u n : Nat), u + left = k1 → left + 1 ≤ n → a.take u = b.take u →
    ∃ v, v ≤ k1 ∧ a.take v = b.take v ∧ (v < k1 → a[v]? ≠ b[v]?) ∧
      whileM n (andM [(cmpM .NotEq (getL 4) (getL 2)), (cmpM .Eq (subM (getL 0) (getL 4)) (subM (getL 1) (getL 4)))]) (blkM [(augM .Add 4 (cst (.fl (.int 1))))])
        ⟨[sS s1, sS s2, sI k1, sI k2, sI u], mem⟩ = some (.next, ⟨[sS s1, sS s2, sI k1, sI k2, sI v], mem⟩) := by
  intro left
  induction left with
  | zero =>
    intro u n h1 h2 h3
    obtain ⟨n, rfl⟩ : ∃ m, n = m + 1 := ⟨n - 1, by omega⟩
    have e : u = k1 := by omega
    subst e
    refine ⟨u, Nat.le_refl _, h3, fun h => absurd h (Nat.lt_irrefl _), ?_⟩
    simp [whileM_ap, getL_ap, setL_ap, cst_ap, binM_ap, cmpM_ap, andM_nil_ap, andM_cons_ap, orM_nil_ap, orM_cons_ap, iteM_ap, asg1_ap, asg2_ap, augM_ap, blkM_nil_ap, blkM_cons_ap, retM_ap, tupM_ap, seqM_nil_ap, seqM_cons_ap, flatL, subM_ap, subF_str, subF_list, setItemM_ap, setItemF_list, bltM_ap, blt_len_s, bin_add, bin_sub, cmp_eq_i, cmp_ne_i, cmp_lt_i, cmp_le_i, cmp_gt_i, cmp_ge_i, cmp_eq_c, cmp_ne_c, pd_True, pd_False]
  | succ left ih =>
    intro u n h1 h2 h3
    obtain ⟨n, rfl⟩ : ∃ m, n = m + 1 := ⟨n - 1, by omega⟩
    have hu1 : u < a.length := by omega
    have hu2 : u < b.length := by omega
    have g1 : s1.cps[u]? = some a[u] := by rw [cps_get, ha]; exact List.getElem?_eq_getElem _
    have g2 : s2.cps[u]? = some b[u] := by rw [cps_get, hb]; exact List.getElem?_eq_getElem _
    have n1 : ¬ ((u : Int) = (k1 : Int)) := by omega
    have n2 : ¬ (u = k1) := by omega
    have b1 : (u : Int) < 4611686018427387904 := by omega
    by_cases hc : a[u] = b[u]
    · obtain ⟨v, q1, q2, q3, q4⟩ := ih (u + 1) n (by omega) (by omega) (by
        rw [List.take_succ_eq_append_getElem hu1, List.take_succ_eq_append_getElem hu2, h3, hc])
      refine ⟨v, q1, q2, q3, ?_⟩
      rw [← q4]
      rw [whileM_ap]
      simp [getL_ap, setL_ap, cst_ap, binM_ap, cmpM_ap, andM_nil_ap, andM_cons_ap, orM_nil_ap, orM_cons_ap, iteM_ap, asg1_ap, asg2_ap, augM_ap, blkM_nil_ap, blkM_cons_ap, retM_ap, tupM_ap, seqM_nil_ap, seqM_cons_ap, flatL, subM_ap, subF_str, subF_list, setItemM_ap, setItemF_list, bltM_ap, blt_len_s, bin_add, bin_sub, cmp_eq_i, cmp_ne_i, cmp_lt_i, cmp_le_i, cmp_gt_i, cmp_ge_i, cmp_eq_c, cmp_ne_c, pd_True, pd_False, n1, n2, b1, g1, g2, hc]
    · refine ⟨u, by omega, h3, fun _ => by rw [List.getElem?_eq_getElem hu1, List.getElem?_eq_getElem hu2]; exact fun e => hc (Option.some.inj e), ?_⟩
      rw [whileM_ap]
      simp [getL_ap, setL_ap, cst_ap, binM_ap, cmpM_ap, andM_nil_ap, andM_cons_ap, orM_nil_ap, orM_cons_ap, iteM_ap, asg1_ap, asg2_ap, augM_ap, blkM_nil_ap, blkM_cons_ap, retM_ap, tupM_ap, seqM_nil_ap, seqM_cons_ap, flatL, subM_ap, subF_str, subF_list, setItemM_ap, setItemF_list, bltM_ap, blt_len_s, bin_add, bin_sub, cmp_eq_i, cmp_ne_i, cmp_lt_i, cmp_le_i, cmp_gt_i, cmp_ge_i, cmp_eq_c, cmp_ne_c, pd_True, pd_False, n1, n2, b1, g1, g2, hc]

/-- what the trimming gives: the common front p, the common end q -/
structure Trim (a b a' b' p q : List Nat) : Prop where
  left : a = p ++ a' ++ q
  right : b = p ++ b' ++ q
  heads : a' = [] ∨ ∃ x y a'' b'', a' = x :: a'' ∧ b' = y :: b'' ∧ x ≠ y
  le : a'.length ≤ b'.length
theorem Trim.dist {sw : Bool} {a b a' b' p q : List Nat} (h : Trim a b a' b' p q) : dist sw a b = dist sw a' b' := by
  rw [h.left, h.right, dist_trimR, dist_trimL]

theorem psp_eval (s1 s2 : Str) (mem : List MO) (a b : List Nat) (ha : s1.cps.toList = a) (hb : s2.cps.toList = b) (hab : a.length ≤ b.length) (hlb : b.length < 2 ^ 61) :
    ∃ a' b' p q, Trim a b a' b' p q ∧ ∃ l, psp_m (a.length + 1) (a.length + 1) ⟨[sS s1, sS s2, none, none, none], mem⟩ = some (.ret (.tup [.int a'.length, .int b'.length, .int p.length]), ⟨l, mem⟩) := by
  have hl1 : s1.length = a.length := by rw [← ha]; simp [Str.length]
  have hl2 : s2.length = b.length := by rw [← hb]; simp [Str.length]
  obtain ⟨k1, k2, q1, q2, q3, q4, q5⟩ := psp_w1 s1 s2 mem none a b ha hb (by omega) hlb a.length b.length (a.length + 1) hab (Nat.le_refl _) (Nat.le_refl _) (Nat.le_refl _) (by simp)
  obtain ⟨v, r1, r2, r3, r4⟩ := psp_w2 s1 s2 mem a b ha hb (by omega) hlb k1 k2 q1 q2 q3 k1 0 (a.length + 1) (by omega) (by omega) (by simp)
  have hsplit : ∀ (l : List Nat) (u w : Nat), u ≤ w → l = l.take u ++ (l.take w).drop u ++ l.drop w := fun l u w huw => by
    have e : l.take w = l.take u ++ (l.take w).drop u := by
      have := List.take_append_drop u (l.take w)
      rw [List.take_take, Nat.min_eq_left huw] at this
      exact this.symm
    rw [← e, List.take_append_drop]
  refine ⟨(a.take k1).drop v, (b.take k2).drop v, a.take v, a.drop k1, ⟨hsplit a v k1 r1, by rw [r2, q4]; exact hsplit b v k2 (by omega), ?_, by simp; omega⟩, ?_⟩
  · by_cases hv : v < k1
    · right
      have h1 : v < (a.take k1).length := by simp; omega
      have h2 : v < (b.take k2).length := by simp; omega
      refine ⟨_, _, _, _, List.drop_eq_getElem_cons h1, List.drop_eq_getElem_cons h2, fun e => r3 hv ?_⟩
      rw [List.getElem_take, List.getElem_take] at e
      rw [List.getElem?_eq_getElem (by omega), List.getElem?_eq_getElem (by omega), e]
    · left
      apply List.drop_eq_nil_of_le
      simp; omega
  · have e1 : ((a.take k1).drop v).length = k1 - v := by simp; omega
    have e2 : ((b.take k2).drop v).length = k2 - v := by simp; omega
    have e3 : (a.take v).length = v := by simp; omega
    have f1 : (a.length : Int) < 4611686018427387904 := by omega
    have f2 : (b.length : Int) < 4611686018427387904 := by omega
    have f3 : a.length < 4611686018427387904 := by omega
    have f4 : b.length < 4611686018427387904 := by omega
    rw [e1, e2, e3]
    have z : sI ((0 : Nat) : Int) = sI 0 := rfl
    rw [z] at r4
    unfold psp_m
    by_cases hv : v = 0
    · subst hv
      exact ⟨_, by simp [getL_ap, setL_ap, cst_ap, binM_ap, cmpM_ap, andM_nil_ap, andM_cons_ap, orM_nil_ap, orM_cons_ap, iteM_ap, asg1_ap, asg2_ap, augM_ap, blkM_nil_ap, blkM_cons_ap, retM_ap, tupM_ap, seqM_nil_ap, seqM_cons_ap, flatL, subM_ap, subF_str, subF_list, setItemM_ap, setItemF_list, bltM_ap, blt_len_s, bin_add, bin_sub, cmp_eq_i, cmp_ne_i, cmp_lt_i, cmp_le_i, cmp_gt_i, cmp_ge_i, cmp_eq_c, cmp_ne_c, pd_True, pd_False, hl1, hl2, f3, f4, q5, r4]; rfl⟩
    · have hv' : ¬ ((v : Int) = 0) := by omega
      have c1 : ((k1 - v : Nat) : Int) = (k1 : Int) - v := by omega
      have c2 : ((k2 - v : Nat) : Int) = (k2 : Int) - v := by omega
      exact ⟨_, by simp [getL_ap, setL_ap, cst_ap, binM_ap, cmpM_ap, andM_nil_ap, andM_cons_ap, orM_nil_ap, orM_cons_ap, iteM_ap, asg1_ap, asg2_ap, augM_ap, blkM_nil_ap, blkM_cons_ap, retM_ap, tupM_ap, seqM_nil_ap, seqM_cons_ap, flatL, subM_ap, subF_str, subF_list, setItemM_ap, setItemF_list, bltM_ap, blt_len_s, bin_add, bin_sub, cmp_eq_i, cmp_ne_i, cmp_lt_i, cmp_le_i, cmp_gt_i, cmp_ge_i, cmp_eq_c, cmp_ne_c, pd_True, pd_False, hl1, hl2, f3, f4, q5, r4, hv, hv', c1, c2]; rfl⟩
end Mine

/-! BEv2 -/
namespace Mine

theorem rng1 (n : Nat) (h : n < 2 ^ 61) : rng [.fl (.int n)] = some (0, n) := by
  show (if pd _ = true then some (0, (n : Int).toNat) else none) = _
  rw [if_pos (pd_true ⟨by omega, by omega⟩)]; simp
theorem rng2 (a : Int) (b : Int) (h0 : 0 ≤ a) (h0' : 0 ≤ b) (h : a < 2 ^ 61) (h' : b < 2 ^ 61) : rng [.fl (.int a), .fl (.int b)] = some (a, (b - a).toNat) := by
  show (if pd _ = true then some (a, (b - a).toNat) else none) = _
  rw [if_pos (pd_true ⟨by omega, by omega, by omega, by omega⟩)]
theorem compL_all {m : Mo PV} {g : Int → FV} (hr : ∀ i, (g i).noRef = true) : ∀ (n : Nat) (a : Int), (∀ k : Nat, k < n → m ⟨[sI (a + k)], []⟩ = some (.fl (g (a + k)), ⟨[sI (a + k)], []⟩)) → compL m n a = some ((List.range n).map fun k => .fl (g (a + (k : Nat)))) := by
  intro n
  induction n with
  | zero => intro a _; rfl
  | succ n ih =>
    intro a h
    have h0 := h 0 (by omega)
    rw [show a + ((0 : Nat) : Int) = a by omega] at h0
    unfold compL
    rw [h0]
    dsimp only
    rw [if_pos (hr a), ih (a + 1) (fun k hk => by rw [show a + 1 + (k : Int) = a + ((k + 1 : Nat) : Int) by omega]; exact h (k + 1) (by omega))]
    rw [List.range_succ_eq_map]
    simp only [Option.map_some, List.map_cons, List.map_map]
    have e0 : a + ((0 : Nat) : Int) = a := by omega
    rw [e0]
    congr 2
    apply List.map_congr_left
    intro k _
    have e1 : a + 1 + (k : Int) = a + ((k + 1 : Nat) : Int) := by omega
    show PV.fl (g (a + 1 + (k : Int))) = PV.fl (g (a + ((k + 1 : Nat) : Int)))
    rw [e1]
theorem toNat_add2 (a b : Nat) : ((a : Int) + (b : Int)).toNat = a + b := by omega

/-- the step «if x < y: y = x» -/
noncomputable def minM (a b : Nat) : Mo Fl := iteM (cmpM .Lt (getL a) (getL b)) (blkM [(asg1 (getL a) (setL b))]) (blkM [])
theorem minM_ap {l : List (Option PV)} {mem : List MO} {a b : Nat} {x y : Int} (ha : l[a]? = some (sI x)) (hb : l[b]? = some (sI y)) : minM a b ⟨l, mem⟩ = some (.next, ⟨l.set b (sI (min x y)), mem⟩) := by
  unfold minM
  by_cases h : x < y
  · have e : min x y = x := by omega
    simp [getL_ap, setL_ap, cst_ap, binM_ap, cmpM_ap, andM_nil_ap, andM_cons_ap, orM_nil_ap, orM_cons_ap, iteM_ap, asg1_ap, asg2_ap, augM_ap, blkM_nil_ap, blkM_cons_ap, retM_ap, tupM_ap, seqM_nil_ap, seqM_cons_ap, flatL, subM_ap, subF_str, subF_list, setItemM_ap, setItemF_list, bltM_ap, blt_len_s, bin_add, bin_sub, cmp_eq_i, cmp_ne_i, cmp_lt_i, cmp_le_i, cmp_gt_i, cmp_ge_i, cmp_eq_c, cmp_ne_c, pd_True, pd_False, ha, hb, h, e]
  · have e : min x y = y := by omega
    have e2 : l.set b (sI y) = l := by
      apply List.ext_getElem?
      intro i
      by_cases hi : i = b
      · subst hi
        rw [List.getElem?_set_self (List.getElem?_eq_some_iff.mp hb).1, hb]
      · rw [List.getElem?_set_ne (fun e => hi e.symm)]
    rw [e, e2]
    simp [getL_ap, setL_ap, cst_ap, binM_ap, cmpM_ap, andM_nil_ap, andM_cons_ap, orM_nil_ap, orM_cons_ap, iteM_ap, asg1_ap, asg2_ap, augM_ap, blkM_nil_ap, blkM_cons_ap, retM_ap, tupM_ap, seqM_nil_ap, seqM_cons_ap, flatL, subM_ap, subF_str, subF_list, setItemM_ap, setItemF_list, bltM_ap, blt_len_s, bin_add, bin_sub, cmp_eq_i, cmp_ne_i, cmp_lt_i, cmp_le_i, cmp_gt_i, cmp_ge_i, cmp_eq_c, cmp_ne_c, pd_True, pd_False, ha, hb, h]

/-- a new cell's value -/
def cellV (x y : Nat) (l a o : Int) : Int := if x = y then l else min o (min a l) + 1

theorem snoc_get (m : List MO) (x : MO) : (m ++ [x])[m.length]? = some x := by simp
theorem snoc_set (m : List MO) (x y : MO) : (m ++ [x]).set m.length y = m ++ [y] := by simp

noncomputable def lvd_in : Mo Fl := blkM [(asg1 (getL 8) (setL 6)),
  (asg1 (subM (getL 5) (getL 11)) (setL 8)),
  (iteM (cmpM .NotEq (subM (getL 1) (binM .Add (getL 4) (getL 11))) (getL 10)) (blkM [minM 9 6, minM 8 6,
  (augM .Add 6 (cst (.fl (.int 1))))]) (blkM [])),
  (asg2 (getL 6) (setItemM (getL 5) (getL 11)) (setL 9))]
noncomputable def lvd_out : Mo Fl := blkM [(asg2 (getL 7) (setL 8) (setL 9)),
  (asg1 (subM (getL 0) (binM .Add (getL 4) (getL 7))) (setL 10)),
  (forRangeM [(getL 3)] (setL 11) lvd_in)]

theorem lvd_step {s1 s2 : Str} {z2 z3 cur x11 : Option PV} {st j x y : Nat} {i l a o : Int} {mem : List MO} {row : List PV} (hj : j < 2 ^ 60) (hst : st < 2 ^ 60) (hrow : row[j]? = some (.fl (.int o))) (hy : s2.cps[st + j]? = some y) :
    lvd_in ⟨[sS s1, sS s2, z2, z3, sI st, sR mem.length, cur, sI i, sI l, sI a, sC x, sI j], mem ++ [.list row]⟩ =
      some (.next, ⟨[sS s1, sS s2, z2, z3, sI st, sR mem.length, sI (cellV x y l a o), sI i, sI o, sI (cellV x y l a o), sC x, sI j], mem ++ [.list (row.set j (.fl (.int (cellV x y l a o))))]⟩) := by
  have h1 : (0 : Int) ≤ (st : Int) + j := by omega
  have h2 : (st : Int) + j < 4611686018427387904 := by omega
  have h3 : (j : Int) < 4611686018427387904 := by omega
  obtain ⟨h4, h5⟩ := List.getElem?_eq_some_iff.mp hrow
  unfold lvd_in
  by_cases h : x = y
  · subst h
    simp [getL_ap, setL_ap, cst_ap, binM_ap, cmpM_ap, andM_nil_ap, andM_cons_ap, orM_nil_ap, orM_cons_ap, iteM_ap, asg1_ap, asg2_ap, augM_ap, blkM_nil_ap, blkM_cons_ap, retM_ap, tupM_ap, seqM_nil_ap, seqM_cons_ap, flatL, subM_ap, subF_str, subF_list, setItemM_ap, setItemF_list, bltM_ap, blt_len_s, bin_add, bin_sub, cmp_eq_i, cmp_ne_i, cmp_lt_i, cmp_le_i, cmp_gt_i, cmp_ge_i, cmp_eq_c, cmp_ne_c, pd_True, pd_False, h1, h2, h3, h4, snoc_get, snoc_set, hrow, hy, toNat_add2, cellV, h5]
  · have h' : ¬ y = x := fun e => h e.symm
    simp [getL_ap, setL_ap, cst_ap, binM_ap, cmpM_ap, andM_nil_ap, andM_cons_ap, orM_nil_ap, orM_cons_ap, iteM_ap, asg1_ap, asg2_ap, augM_ap, blkM_nil_ap, blkM_cons_ap, retM_ap, tupM_ap, seqM_nil_ap, seqM_cons_ap, flatL, subM_ap, subF_str, subF_list, setItemM_ap, setItemF_list, bltM_ap, blt_len_s, bin_add, bin_sub, cmp_eq_i, cmp_ne_i, cmp_lt_i, cmp_le_i, cmp_gt_i, cmp_ge_i, cmp_eq_c, cmp_ne_c, pd_True, pd_False, h1, h2, h3, h4, snoc_get, snoc_set, hrow, hy, toNat_add2, cellV, h, h', h5, minM_ap]

/-- the kept row: the first j cells are the new row's -/
def rowP (sw : Bool) (A B : List Nat) (i j : Nat) : List PV := (List.range B.length).map fun k => .fl (.int (if k < j then P sw A B (i + 1) (k + 1) else P sw A B i (k + 1) : Nat))
theorem rowP_get {sw A B} {i j k : Nat} (h : k < B.length) (hk : j ≤ k) : (rowP sw A B i j)[k]? = some (.fl (.int (P sw A B i (k + 1)))) := by
  unfold rowP
  rw [List.getElem?_map, List.getElem?_range h]
  simp only [Option.map_some]
  rw [if_neg (by omega)]
theorem rowP_set {sw A B} {i j : Nat} (h : j < B.length) : (rowP sw A B i j).set j (.fl (.int (P sw A B (i + 1) (j + 1)))) = rowP sw A B i (j + 1) := by
  unfold rowP
  apply List.ext_getElem?
  intro k
  by_cases hk : k = j
  · subst hk
    rw [List.getElem?_set_self (by simpa using h), List.getElem?_map, List.getElem?_range h]
    simp only [Option.map_some]
    rw [if_pos (by omega)]
  · rw [List.getElem?_set_ne (fun e => hk e.symm), List.getElem?_map, List.getElem?_map]
    by_cases hl : k < B.length
    · rw [List.getElem?_range hl]
      simp only [Option.map_some]
      by_cases h1 : k < j
      · rw [if_pos h1, if_pos (by omega)]
      · rw [if_neg h1, if_neg (by omega)]
    · rw [List.getElem?_eq_none (by simpa using hl)]; rfl
theorem rowP_full {sw A B} {i : Nat} : rowP sw A B i B.length = rowP sw A B (i + 1) 0 := by
  unfold rowP
  apply List.map_congr_left
  intro k hk
  have := List.mem_range.mp hk
  rw [if_pos this, if_neg (by omega)]
/-- what stands above as the row is walked -/
def aP (sw : Bool) (A B : List Nat) (i j : Nat) : Nat := if j = 0 then i else P sw A B (i + 1) j
theorem aP_succ {sw A B} (i j : Nat) : aP sw A B i (j + 1) = P sw A B (i + 1) (j + 1) := if_neg (by omega)
theorem cellV_P {A B : List Nat} {i j x y : Nat} (hx : A[i]? = some x) (hy : B[j]? = some y) : cellV x y (P false A B i j) (aP false A B i j) (P false A B i (j + 1)) = (P false A B (i + 1) (j + 1) : Nat) := by
  unfold cellV
  by_cases h : x = y
  · rw [if_pos h, P_eq hx hy h]
  · rw [if_neg h, P_ne (sw := false) hx hy h (fun hs => Bool.noConfusion hs.1)]
    unfold aP
    by_cases hj : j = 0
    · subst hj
      have hi : i < A.length := (List.getElem?_eq_some_iff.mp hx).1
      rw [if_pos rfl, P_top (sw := false) (B := B) (i + 1) hi, P_top (sw := false) (B := B) i (Nat.le_of_lt hi)]
      omega
    · rw [if_neg hj]; omega

theorem lvd_row {s1 s2 : Str} {A B : List Nat} {st : Nat} (hB : ∀ (j : Nat) y, B[j]? = some y → s2.cps[st + j]? = some y) (hlen : B.length < 2 ^ 60) (hst : st < 2 ^ 60) {i x : Nat} (hx : A[i]? = some x) {z2 z3 : Option PV} {mem : List MO} :
    ∀ (n j : Nat), j + n = B.length → ∀ cur x11, ∃ cur' x11', ((n = 0 → cur' = cur) ∧ (0 < n → cur' = sI (P false A B (i + 1) B.length))) ∧
      loopR (setL 11) lvd_in 1 n j ⟨[sS s1, sS s2, z2, z3, sI st, sR mem.length, cur, sI i, sI (P false A B i j), sI (aP false A B i j), sC x, x11], mem ++ [.list (rowP false A B i j)]⟩ =
        some (.next, ⟨[sS s1, sS s2, z2, z3, sI st, sR mem.length, cur', sI i, sI (P false A B i B.length), sI (aP false A B i B.length), sC x, x11'], mem ++ [.list (rowP false A B i B.length)]⟩) := by
  intro n
  induction n with
  | zero =>
    intro j hj cur x11
    obtain rfl : j = B.length := by omega
    exact ⟨cur, x11, ⟨fun _ => rfl, fun h => absurd h (Nat.lt_irrefl _)⟩, rfl⟩
  | succ n ih =>
    intro j hj cur x11
    have hy : B[j]? = some (B[j]'(by omega)) := List.getElem?_eq_getElem _
    have hs := lvd_step (s1 := s1) (z2 := z2) (z3 := z3) (cur := cur) (x11 := x11) (i := i) (l := P false A B i j) (a := aP false A B i j) (mem := mem) (by omega : j < 2 ^ 60) hst (rowP_get (sw := false) (A := A) (B := B) (i := i) (by omega) (Nat.le_refl j)) (hB j _ hy) (x := x)
    rw [cellV_P hx hy, rowP_set (by omega)] at hs
    obtain ⟨cur', x11', h1, h2⟩ := ih (j + 1) (by omega) (sI (P false A B (i + 1) (j + 1))) (sI j)
    refine ⟨cur', x11', ⟨fun h => absurd h (by omega), fun _ => ?_⟩, ?_⟩
    · cases n with
      | zero =>
        have e : j + 1 = B.length := by omega
        rw [h1.1 rfl, e]
      | succ n => exact h1.2 (by omega)
    · rw [loopR_succ_ap]
      simp only [setL_ap, List.set_cons_succ, List.set_cons_zero]
      rw [hs]
      rw [aP_succ] at h2
      exact h2

theorem lvd_rows {s1 s2 : Str} {A B : List Nat} {st : Nat} (hA : ∀ (j : Nat) y, A[j]? = some y → s1.cps[st + j]? = some y) (hB : ∀ (j : Nat) y, B[j]? = some y → s2.cps[st + j]? = some y) (hla : A.length < 2 ^ 60) (hlen : B.length < 2 ^ 60) (hst : st < 2 ^ 60) (hB0 : 0 < B.length)
    {z2 : Option PV} {mem : List MO} :
    ∀ (n i : Nat), i + n = A.length → ∀ cur x7 x8 x9 x10 x11, ∃ cur' x7' x8' x9' x10' x11', ((n = 0 → cur' = cur) ∧ (0 < n → cur' = sI (P false A B A.length B.length))) ∧
      loopR (setL 7) lvd_out 1 n i ⟨[sS s1, sS s2, z2, sI B.length, sI st, sR mem.length, cur, x7, x8, x9, x10, x11], mem ++ [.list (rowP false A B i 0)]⟩ =
        some (.next, ⟨[sS s1, sS s2, z2, sI B.length, sI st, sR mem.length, cur', x7', x8', x9', x10', x11'], mem ++ [.list (rowP false A B A.length 0)]⟩) := by
  intro n
  induction n with
  | zero =>
    intro i hi cur x7 x8 x9 x10 x11
    obtain rfl : i = A.length := by omega
    exact ⟨cur, x7, x8, x9, x10, x11, ⟨fun _ => rfl, fun h => absurd h (Nat.lt_irrefl _)⟩, rfl⟩
  | succ n ih =>
    intro i hi cur x7 x8 x9 x10 x11
    have hx : A[i]? = some (A[i]'(by omega)) := List.getElem?_eq_getElem _
    have g1 := hA i _ hx
    have h1 : (0 : Int) ≤ (st : Int) + i := by omega
    have h2 : (st : Int) + i < 4611686018427387904 := by omega
    obtain ⟨cur', x11', hc, hr⟩ := lvd_row (z2 := z2) (z3 := sI B.length) (mem := mem) hB hlen hst hx B.length 0 (by omega) cur x11
    obtain ⟨cur'', x7', x8', x9', x10', x11'', hc2, hr2⟩ := ih (i + 1) (by omega) cur' (sI i) (sI (P false A B i B.length)) (sI (aP false A B i B.length)) (sC (A[i]'(by omega))) x11'
    refine ⟨cur'', x7', x8', x9', x10', x11'', ⟨fun h => absurd h (by omega), fun _ => ?_⟩, ?_⟩
    · cases n with
      | zero =>
        have e : i + 1 = A.length := by omega
        rw [hc2.1 rfl, hc.2 hB0, e]
      | succ n => exact hc2.2 (by omega)
    · rw [loopR_succ_ap]
      have e0 : P false A B i 0 = i := P_top i (by omega)
      have e1 : aP false A B i 0 = i := if_pos rfl
      rw [e0, e1] at hr
      rw [rowP_full] at hr
      unfold lvd_out
      simp [getL_ap, setL_ap, cst_ap, binM_ap, cmpM_ap, andM_nil_ap, andM_cons_ap, orM_nil_ap, orM_cons_ap, iteM_ap, asg1_ap, asg2_ap, augM_ap, blkM_nil_ap, blkM_cons_ap, retM_ap, tupM_ap, seqM_nil_ap, seqM_cons_ap, flatL, subM_ap, subF_str, subF_list, setItemM_ap, setItemF_list, bltM_ap, blt_len_s, bin_add, bin_sub, cmp_eq_i, cmp_ne_i, cmp_lt_i, cmp_le_i, cmp_gt_i, cmp_ge_i, cmp_eq_c, cmp_ne_c, pd_True, pd_False, forRangeM_ap, h1, h2, g1, toNat_add2, rng1 B.length (by omega)]
      rw [show (0 : Int) = ((0 : Nat) : Int) by rfl, hr]
      exact hr2

theorem lvd_eval {s1 s2 : Str} {A B : List Nat} {st : Nat} (hA : ∀ (j : Nat) y, A[j]? = some y → s1.cps[st + j]? = some y) (hB : ∀ (j : Nat) y, B[j]? = some y → s2.cps[st + j]? = some y) (hla : A.length ≤ 1000) (hlen : B.length ≤ 1000) (hst : st ≤ 1000) (hA0 : 0 < A.length) (hB0 : 0 < B.length)
    {x5 x6 x7 x8 x9 x10 x11 : Option PV} {mem : List MO} :
    ∃ l row, lvd_m ⟨[sS s1, sS s2, sI A.length, sI B.length, sI st, x5, x6, x7, x8, x9, x10, x11], mem⟩ = some (.ret (.fl (.int (dist false A B))), ⟨l, mem ++ [row]⟩) := by
  obtain ⟨cur', x7', x8', x9', x10', x11', hc, hr⟩ := lvd_rows (A := A) (B := B) hA hB (by omega) (by omega) (by omega) hB0 (z2 := sI A.length) (mem := mem) A.length 0 (by omega) (sI 0) x7 x8 x9 x10 x11
  have hc := hc.2 hA0
  rw [P_whole] at hc
  subst hc
  have z : ((0 : Nat) : Int) = 0 := rfl
  rw [z] at hr
  have hcomp : compL (binM .Add (getL 0) (cst (.fl (.int 1)))) B.length 0 = some (rowP false A B 0 0) := by
    rw [compL_all (g := fun i => .int (i + 1)) (fun _ => rfl) B.length 0 (fun k hk => by simp [getL_ap, setL_ap, cst_ap, binM_ap, cmpM_ap, andM_nil_ap, andM_cons_ap, orM_nil_ap, orM_cons_ap, iteM_ap, asg1_ap, asg2_ap, augM_ap, blkM_nil_ap, blkM_cons_ap, retM_ap, tupM_ap, seqM_nil_ap, seqM_cons_ap, flatL, subM_ap, subF_str, subF_list, setItemM_ap, setItemF_list, bltM_ap, blt_len_s, bin_add, bin_sub, cmp_eq_i, cmp_ne_i, cmp_lt_i, cmp_le_i, cmp_gt_i, cmp_ge_i, cmp_eq_c, cmp_ne_c, pd_True, pd_False])]
    congr 1
    unfold rowP
    apply List.map_congr_left
    intro k hk
    have := List.mem_range.mp hk
    rw [if_neg (by omega), P_left (sw := false) (A := A) (k + 1) (by omega)]
    show PV.fl (.int ((0 : Int) + (k : Int) + 1)) = PV.fl (.int ((k + 1 : Nat) : Int))
    rw [show (0 : Int) + (k : Int) + 1 = ((k + 1 : Nat) : Int) by omega]
  refine ⟨[sS s1, sS s2, sI A.length, sI B.length, sI st, sR mem.length, sI (dist false A B), x7', x8', x9', x10', x11'], .list (rowP false A B A.length 0), ?_⟩
  show blkM [(asg1 (compM [(getL 3)] (binM .Add (getL 0) (cst (.fl (.int 1))))) (setL 5)), (asg1 (cst (.fl (.int 0))) (setL 6)), (forRangeM [(getL 2)] (setL 7) lvd_out), (retM (getL 6))] _ = _
  have hB1 : B.length ≤ 1048576 := by omega
  simp [getL_ap, setL_ap, cst_ap, binM_ap, cmpM_ap, andM_nil_ap, andM_cons_ap, orM_nil_ap, orM_cons_ap, iteM_ap, asg1_ap, asg2_ap, augM_ap, blkM_nil_ap, blkM_cons_ap, retM_ap, tupM_ap, seqM_nil_ap, seqM_cons_ap, flatL, subM_ap, subF_str, subF_list, setItemM_ap, setItemF_list, bltM_ap, blt_len_s, bin_add, bin_sub, cmp_eq_i, cmp_ne_i, cmp_lt_i, cmp_le_i, cmp_gt_i, cmp_ge_i, cmp_eq_c, cmp_ne_c, pd_True, pd_False, forRangeM_ap, compM_ap, rng1 B.length (by omega), rng1 A.length (by omega), hB1, hcomp, newL_ap, hr]
end Mine

/-! BEv3 -/
namespace Mine

/-- the memory while the two rows are walked -/
def memO (m : List MO) (kp : Nat) (a b : List PV) : List MO := m.set kp (.list a) ++ [.list b]
theorem memO_getk (m : List MO) (kp : Nat) (a b : List PV) : (memO m kp a b)[m.length]? = some (.list b) := by simp [memO]
theorem memO_getp {m : List MO} {kp : Nat} (h : kp < m.length) (a b : List PV) : (memO m kp a b)[kp]? = some (.list a) := by
  unfold memO
  rw [List.getElem?_append_left (by simpa using h), List.getElem?_set_self h]
theorem memO_setk (m : List MO) (kp : Nat) (a b c : List PV) : (memO m kp a b).set m.length (.list c) = memO m kp a c := by simp [memO]
theorem memO_setp {m : List MO} {kp : Nat} (h : kp < m.length) (a b c : List PV) : (memO m kp a b).set kp (.list c) = memO m kp c b := by
  unfold memO
  rw [List.set_append_left _ _ (by simpa using h), List.set_set]
theorem space_c : Str.ofString " " = ⟨#[32]⟩ := rfl

/-- a new cell's value, with swaps -/
def cellS (i j x y px py : Nat) (l a o t : Int) : Int := if x = y then l else if i ≠ 0 ∧ j ≠ 0 ∧ x = py ∧ px = y ∧ t + 1 < min o (min a l) + 1 then t + 1 else min o (min a l) + 1

noncomputable def swTail (si sj s7 s17 s10 s11 s16 s8 : Nat) : Mo Fl := (iteM (andM [(cmpM .NotEq (getL si) (cst (.fl (.int 0)))), (cmpM .NotEq (getL sj) (cst (.fl (.int 0)))), (cmpM .Eq (getL s7) (getL s17)), (cmpM .Eq (getL s10) (getL s11)), (cmpM .Lt (binM .Add (getL s16) (cst (.fl (.int 1)))) (getL s8))]) (blkM [(asg1 (binM .Add (getL s16) (cst (.fl (.int 1)))) (setL s8))]) (blkM []))
theorem swTail_ap {l : List (Option PV)} {mem : List MO} {si sj s7 s17 s10 s11 s16 s8 i j x py px y : Nat} {t v : Int} (h1 : l[si]? = some (sI i)) (h2 : l[sj]? = some (sI j)) (h3 : l[s7]? = some (sC x)) (h4 : l[s17]? = some (sC py)) (h5 : l[s10]? = some (sC px)) (h6 : l[s11]? = some (sC y))
    (h7 : l[s16]? = some (sI t)) (h8 : l[s8]? = some (sI v)) :
    swTail si sj s7 s17 s10 s11 s16 s8 ⟨l, mem⟩ = some (.next, ⟨l.set s8 (sI (if i ≠ 0 ∧ j ≠ 0 ∧ x = py ∧ px = y ∧ t + 1 < v then t + 1 else v)), mem⟩) := by
  have e2 : l.set s8 (sI v) = l := by
    apply List.ext_getElem?
    intro i
    by_cases hi : i = s8
    · subst hi
      rw [List.getElem?_set_self (List.getElem?_eq_some_iff.mp h8).1, h8]
    · rw [List.getElem?_set_ne (fun e => hi e.symm)]
  unfold swTail
  by_cases c1 : i = 0
  · rw [if_neg (fun h => h.1 c1), e2]; subst c1; simp [getL_ap, setL_ap, cst_ap, binM_ap, cmpM_ap, andM_nil_ap, andM_cons_ap, orM_nil_ap, orM_cons_ap, iteM_ap, asg1_ap, asg2_ap, augM_ap, blkM_nil_ap, blkM_cons_ap, retM_ap, tupM_ap, seqM_nil_ap, seqM_cons_ap, flatL, subM_ap, subF_str, subF_list, setItemM_ap, setItemF_list, bltM_ap, blt_len_s, bin_add, bin_sub, cmp_eq_i, cmp_ne_i, cmp_lt_i, cmp_le_i, cmp_gt_i, cmp_ge_i, cmp_eq_c, cmp_ne_c, pd_True, pd_False, h1]
  have c1' : ¬ (i : Int) = 0 := by omega
  by_cases c2 : j = 0
  · rw [if_neg (fun h => h.2.1 c2), e2]; subst c2; simp [getL_ap, setL_ap, cst_ap, binM_ap, cmpM_ap, andM_nil_ap, andM_cons_ap, orM_nil_ap, orM_cons_ap, iteM_ap, asg1_ap, asg2_ap, augM_ap, blkM_nil_ap, blkM_cons_ap, retM_ap, tupM_ap, seqM_nil_ap, seqM_cons_ap, flatL, subM_ap, subF_str, subF_list, setItemM_ap, setItemF_list, bltM_ap, blt_len_s, bin_add, bin_sub, cmp_eq_i, cmp_ne_i, cmp_lt_i, cmp_le_i, cmp_gt_i, cmp_ge_i, cmp_eq_c, cmp_ne_c, pd_True, pd_False, h1, c1', h2, c1]
  have c2' : ¬ (j : Int) = 0 := by omega
  by_cases c3 : x = py
  · by_cases c4 : px = y
    · by_cases c5 : t + 1 < v
      · rw [if_pos ⟨c1, c2, c3, c4, c5⟩]; simp [getL_ap, setL_ap, cst_ap, binM_ap, cmpM_ap, andM_nil_ap, andM_cons_ap, orM_nil_ap, orM_cons_ap, iteM_ap, asg1_ap, asg2_ap, augM_ap, blkM_nil_ap, blkM_cons_ap, retM_ap, tupM_ap, seqM_nil_ap, seqM_cons_ap, flatL, subM_ap, subF_str, subF_list, setItemM_ap, setItemF_list, bltM_ap, blt_len_s, bin_add, bin_sub, cmp_eq_i, cmp_ne_i, cmp_lt_i, cmp_le_i, cmp_gt_i, cmp_ge_i, cmp_eq_c, cmp_ne_c, pd_True, pd_False, h1, c1', h2, c1, c2, c2', h3, h4, c3, h5, h6, c4, h7, h8, c5]
      · rw [if_neg (fun h => c5 h.2.2.2.2), e2]; simp [getL_ap, setL_ap, cst_ap, binM_ap, cmpM_ap, andM_nil_ap, andM_cons_ap, orM_nil_ap, orM_cons_ap, iteM_ap, asg1_ap, asg2_ap, augM_ap, blkM_nil_ap, blkM_cons_ap, retM_ap, tupM_ap, seqM_nil_ap, seqM_cons_ap, flatL, subM_ap, subF_str, subF_list, setItemM_ap, setItemF_list, bltM_ap, blt_len_s, bin_add, bin_sub, cmp_eq_i, cmp_ne_i, cmp_lt_i, cmp_le_i, cmp_gt_i, cmp_ge_i, cmp_eq_c, cmp_ne_c, pd_True, pd_False, h1, c1', h2, c1, c2, c2', h3, h4, c3, h5, h6, c4, h7, h8, c5]
    · rw [if_neg (fun h => c4 h.2.2.2.1), e2]; simp [getL_ap, setL_ap, cst_ap, binM_ap, cmpM_ap, andM_nil_ap, andM_cons_ap, orM_nil_ap, orM_cons_ap, iteM_ap, asg1_ap, asg2_ap, augM_ap, blkM_nil_ap, blkM_cons_ap, retM_ap, tupM_ap, seqM_nil_ap, seqM_cons_ap, flatL, subM_ap, subF_str, subF_list, setItemM_ap, setItemF_list, bltM_ap, blt_len_s, bin_add, bin_sub, cmp_eq_i, cmp_ne_i, cmp_lt_i, cmp_le_i, cmp_gt_i, cmp_ge_i, cmp_eq_c, cmp_ne_c, pd_True, pd_False, h1, c1', h2, c1, c2, c2', h3, h4, c3, h5, h6, c4]
  · rw [if_neg (fun h => c3 h.2.2.1), e2]; simp [getL_ap, setL_ap, cst_ap, binM_ap, cmpM_ap, andM_nil_ap, andM_cons_ap, orM_nil_ap, orM_cons_ap, iteM_ap, asg1_ap, asg2_ap, augM_ap, blkM_nil_ap, blkM_cons_ap, retM_ap, tupM_ap, seqM_nil_ap, seqM_cons_ap, flatL, subM_ap, subF_str, subF_list, setItemM_ap, setItemF_list, bltM_ap, blt_len_s, bin_add, bin_sub, cmp_eq_i, cmp_ne_i, cmp_lt_i, cmp_le_i, cmp_gt_i, cmp_ge_i, cmp_eq_c, cmp_ne_c, pd_True, pd_False, h1, c1', h2, c1, c2, c2', h3, h4, c3]

noncomputable def osd_in : Mo Fl := blkM [(asg1 (getL 14) (setL 16)),
  (asg1 (subM (getL 6) (getL 15)) (setL 14)),
  (asg2 (getL 12) (setItemM (getL 6) (getL 15)) (setL 8)),
  (asg1 (subM (getL 5) (getL 15)) (setL 12)),
  (asg1 (getL 11) (setL 17)),
  (asg1 (subM (getL 1) (binM .Add (getL 4) (getL 15))) (setL 11)),
  (iteM (cmpM .NotEq (getL 7) (getL 11)) (blkM [minM 13 8, minM 12 8,
  (augM .Add 8 (cst (.fl (.int 1)))),
  swTail 9 15 7 17 10 11 16 8]) (blkM [])),
  (asg2 (getL 8) (setItemM (getL 5) (getL 15)) (setL 13))]
noncomputable def osd_out : Mo Fl := blkM [(asg1 (getL 7) (setL 10)),
  (asg1 (subM (getL 0) (binM .Add (getL 4) (getL 9))) (setL 7)),
  (asg1 (cst (.fl (.str (Str.ofString " ")))) (setL 11)),
  (asg2 (getL 9) (setL 12) (setL 13)),
  (asg1 (cst (.fl (.int 0))) (setL 14)),
  (forRangeM [(getL 3)] (setL 15) osd_in)]

theorem osd_step {s1 s2 : Str} {z2 z3 cur x16 x17 : Option PV} {st i j x y y0 px kp : Nat} {l a o t0 p : Int} {mem : List MO} {row prow : List PV} (hkp : kp < mem.length) (hj : j < 2 ^ 60) (hst : st < 2 ^ 60) (hrow : row[j]? = some (.fl (.int o))) (hprow : prow[j]? = some (.fl (.int p))) (hy : s2.cps[st + j]? = some y) :
    osd_in ⟨[sS s1, sS s2, z2, z3, sI st, sR mem.length, sR kp, sC x, cur, sI i, sC px, sC y0, sI l, sI a, sI t0, sI j, x16, x17], memO mem kp prow row⟩ =
      some (.next, ⟨[sS s1, sS s2, z2, z3, sI st, sR mem.length, sR kp, sC x, sI (cellS i j x y px y0 l a o t0), sI i, sC px, sC y, sI o, sI (cellS i j x y px y0 l a o t0), sI p, sI j, sI t0, sC y0],
        memO mem kp (prow.set j (.fl (.int l))) (row.set j (.fl (.int (cellS i j x y px y0 l a o t0))))⟩) := by
  have h1 : (0 : Int) ≤ (st : Int) + j := by omega
  have h2 : (st : Int) + j < 4611686018427387904 := by omega
  have h3 : (j : Int) < 4611686018427387904 := by omega
  obtain ⟨h4, h5⟩ := List.getElem?_eq_some_iff.mp hrow
  obtain ⟨h6, h7⟩ := List.getElem?_eq_some_iff.mp hprow
  have g1 := memO_getk mem kp
  have g2 := fun a b => memO_getp hkp a b
  have g3 := memO_setk mem kp
  have g4 := fun a b c => memO_setp hkp a b c
  unfold osd_in
  by_cases h : x = y
  · subst h
    simp [getL_ap, setL_ap, cst_ap, binM_ap, cmpM_ap, andM_nil_ap, andM_cons_ap, orM_nil_ap, orM_cons_ap, iteM_ap, asg1_ap, asg2_ap, augM_ap, blkM_nil_ap, blkM_cons_ap, retM_ap, tupM_ap, seqM_nil_ap, seqM_cons_ap, flatL, subM_ap, subF_str, subF_list, setItemM_ap, setItemF_list, bltM_ap, blt_len_s, bin_add, bin_sub, cmp_eq_i, cmp_ne_i, cmp_lt_i, cmp_le_i, cmp_gt_i, cmp_ge_i, cmp_eq_c, cmp_ne_c, pd_True, pd_False, h1, h2, h3, h4, h6, g1, g2, g3, g4, hy, toNat_add2, cellS, h5, h7]
  · simp [getL_ap, setL_ap, cst_ap, binM_ap, cmpM_ap, andM_nil_ap, andM_cons_ap, orM_nil_ap, orM_cons_ap, iteM_ap, asg1_ap, asg2_ap, augM_ap, blkM_nil_ap, blkM_cons_ap, retM_ap, tupM_ap, seqM_nil_ap, seqM_cons_ap, flatL, subM_ap, subF_str, subF_list, setItemM_ap, setItemF_list, bltM_ap, blt_len_s, bin_add, bin_sub, cmp_eq_i, cmp_ne_i, cmp_lt_i, cmp_le_i, cmp_gt_i, cmp_ge_i, cmp_eq_c, cmp_ne_c, pd_True, pd_False, h1, h2, h3, h4, h6, g1, g2, g3, g4, hy, toNat_add2, cellS, h, h5, h7, minM_ap]
    rw [swTail_ap (i := i) (j := j) (x := x) (py := y0) (px := px) (y := y) (t := t0) (v := min o (min a l) + 1) rfl rfl rfl rfl rfl rfl rfl rfl]
    simp [getL_ap, setL_ap, cst_ap, binM_ap, cmpM_ap, andM_nil_ap, andM_cons_ap, orM_nil_ap, orM_cons_ap, iteM_ap, asg1_ap, asg2_ap, augM_ap, blkM_nil_ap, blkM_cons_ap, retM_ap, tupM_ap, seqM_nil_ap, seqM_cons_ap, flatL, subM_ap, subF_str, subF_list, setItemM_ap, setItemF_list, bltM_ap, blt_len_s, bin_add, bin_sub, cmp_eq_i, cmp_ne_i, cmp_lt_i, cmp_le_i, cmp_gt_i, cmp_ge_i, cmp_eq_c, cmp_ne_c, pd_True, pd_False, h1, h2, h3, h4, h6, g1, g2, g3, g4, hy, toNat_add2, cellS, h, h5, h7, minM_ap]

theorem cellS_P {A B : List Nat} {i j x y px py : Nat} {t : Int} (hx : A[i]? = some x) (hy : B[j]? = some y) (hpx : i ≠ 0 → A[i - 1]? = some px) (hpy : j ≠ 0 → B[j - 1]? = some py) (ht : i ≠ 0 → j ≠ 0 → t = (P true A B (i - 1) (j - 1) : Nat)) :
    cellS i j x y px py (P true A B i j) (aP true A B i j) (P true A B i (j + 1)) t = (P true A B (i + 1) (j + 1) : Nat) := by
  have hi : i < A.length := (List.getElem?_eq_some_iff.mp hx).1
  have hmin : min (P true A B i (j + 1) : Int) (min (aP true A B i j) (P true A B i j)) + 1 = ((min (P true A B i j) (min (P true A B (i + 1) j) (P true A B i (j + 1))) + 1 : Nat) : Int) := by
    unfold aP
    by_cases hj : j = 0
    · subst hj
      rw [if_pos rfl, P_top (sw := true) (B := B) (i + 1) hi, P_top (sw := true) (B := B) i (Nat.le_of_lt hi)]
      omega
    · rw [if_neg hj]; omega
  unfold cellS
  by_cases h : x = y
  · rw [if_pos h, P_eq hx hy h]
  · rw [if_neg h, hmin]
    by_cases hs : Sw true A B i j x y
    · have h1 : i ≠ 0 := by have := hs.2.1; omega
      have h2 : j ≠ 0 := by have := hs.2.2.1; omega
      have h3 : px = y := by have := hs.2.2.2.1; rw [hpx h1] at this; exact Option.some.inj this
      have h4 : x = py := by have := hs.2.2.2.2; rw [hpy h2] at this; exact (Option.some.inj this).symm
      rw [P_sw hx hy h hs, ht h1 h2]
      by_cases hl : ((P true A B (i - 1) (j - 1) : Nat) : Int) + 1 < ((min (P true A B i j) (min (P true A B (i + 1) j) (P true A B i (j + 1))) + 1 : Nat) : Int)
      · rw [if_pos ⟨h1, h2, h4, h3, hl⟩]; omega
      · rw [if_neg (fun h => hl h.2.2.2.2)]; omega
    · rw [P_ne hx hy h hs, if_neg]
      rintro ⟨h1, h2, h3, h4, _⟩
      exact hs ⟨rfl, by omega, by omega, by rw [hpx h1, h4], by rw [hpy h2, h3]⟩

/-- the row before last: the first j cells are the last row's -/
def PrOk (sw : Bool) (A B : List Nat) (i j : Nat) (r : List PV) : Prop := B.length ≤ r.length ∧ ∀ k : Nat, k < r.length → ∃ v : Int, r[k]? = some (.fl (.int v)) ∧ (k < j → v = (P sw A B i k : Nat)) ∧ (j ≤ k → k < B.length → i ≠ 0 → v = (P sw A B (i - 1) k : Nat))
theorem PrOk.set {sw A B} {i j : Nat} {r : List PV} (h : PrOk sw A B i j r) (hj : j < B.length) : PrOk sw A B i (j + 1) (r.set j (.fl (.int (P sw A B i j)))) := by
  refine ⟨by simpa using h.1, fun k hk => ?_⟩
  have hk : k < r.length := by simpa using hk
  by_cases e : k = j
  · subst e
    refine ⟨_, List.getElem?_set_self (by have := h.1; omega), fun _ => rfl, fun h => absurd h (by omega)⟩
  · obtain ⟨v, h1, h2, h3⟩ := h.2 k hk
    exact ⟨v, by rw [List.getElem?_set_ne (fun h => e h.symm)]; exact h1, fun h => h2 (by omega), fun h => h3 (by omega)⟩
theorem PrOk.full {sw A B} {i : Nat} {r : List PV} (h : PrOk sw A B i B.length r) : PrOk sw A B (i + 1) 0 r := by
  refine ⟨h.1, fun k hk => ?_⟩
  obtain ⟨v, h1, h2, h3⟩ := h.2 k hk
  exact ⟨v, h1, fun h => absurd h (by omega), fun _ hkB _ => h2 hkB⟩

theorem osd_row {s1 s2 : Str} {A B : List Nat} {st : Nat} (hB : ∀ (j : Nat) y, B[j]? = some y → s2.cps[st + j]? = some y) (hlen : B.length < 2 ^ 60) (hst : st < 2 ^ 60) {i x px kp : Nat} (hx : A[i]? = some x) (hpx : i ≠ 0 → A[i - 1]? = some px) {z2 z3 : Option PV} {mem : List MO} (hkp : kp < mem.length) :
    ∀ (n j : Nat), j + n = B.length → ∀ cur y0 (t0 : Int) x15 x16 x17 prow, PrOk true A B i j prow → (j ≠ 0 → B[j - 1]? = some y0) → (i ≠ 0 → j ≠ 0 → t0 = (P true A B (i - 1) (j - 1) : Nat)) →
    ∃ cur' y0', ∃ t0' : Int, ∃ x15' x16' x17' prow', ((n = 0 → cur' = cur) ∧ (0 < n → cur' = sI (P true A B (i + 1) B.length))) ∧ PrOk true A B i B.length prow' ∧ prow'.length = prow.length ∧
      loopR (setL 15) osd_in 1 n j ⟨[sS s1, sS s2, z2, z3, sI st, sR mem.length, sR kp, sC x, cur, sI i, sC px, sC y0, sI (P true A B i j), sI (aP true A B i j), sI t0, x15, x16, x17], memO mem kp prow (rowP true A B i j)⟩ =
        some (.next, ⟨[sS s1, sS s2, z2, z3, sI st, sR mem.length, sR kp, sC x, cur', sI i, sC px, sC y0', sI (P true A B i B.length), sI (aP true A B i B.length), sI t0', x15', x16', x17'], memO mem kp prow' (rowP true A B i B.length)⟩) := by
  intro n
  induction n with
  | zero =>
    intro j hj cur y0 t0 x15 x16 x17 prow hpr hy0 ht0
    obtain rfl : j = B.length := by omega
    exact ⟨cur, y0, t0, x15, x16, x17, prow, ⟨fun _ => rfl, fun h => absurd h (Nat.lt_irrefl _)⟩, hpr, rfl, rfl⟩
  | succ n ih =>
    intro j hj cur y0 t0 x15 x16 x17 prow hpr hy0 ht0
    have hjl : j < B.length := by omega
    have hy : B[j]? = some (B[j]'hjl) := List.getElem?_eq_getElem _
    obtain ⟨p, hp1, hp2, hp3⟩ := hpr.2 j (by have := hpr.1; omega)
    have hs := osd_step (s1 := s1) (z2 := z2) (z3 := z3) (cur := cur) (x16 := x16) (x17 := x17) (i := i) (x := x) (px := px) (y0 := y0) (t0 := t0) (l := P true A B i j) (a := aP true A B i j) (mem := mem) hkp (by omega : j < 2 ^ 60) hst (rowP_get (sw := true) (A := A) (B := B) (i := i) hjl (Nat.le_refl j)) hp1 (hB j _ hy)
    rw [cellS_P hx hy hpx hy0 ht0, rowP_set hjl] at hs
    obtain ⟨cur', y0', t0', x15', x16', x17', prow', h1, h2, h2b, h3⟩ := ih (j + 1) (by omega) (sI (P true A B (i + 1) (j + 1))) (B[j]'hjl) p (sI j) (sI t0) (sC y0) _ (hpr.set hjl) (fun _ => hy) (fun h _ => hp3 (Nat.le_refl _) hjl h)
    refine ⟨cur', y0', t0', x15', x16', x17', prow', ⟨fun h => absurd h (by omega), fun _ => ?_⟩, h2, by simpa using h2b, ?_⟩
    · cases n with
      | zero =>
        have e : j + 1 = B.length := by omega
        rw [h1.1 rfl, e]
      | succ n => exact h1.2 (by omega)
    · rw [loopR_succ_ap]
      simp only [setL_ap, List.set_cons_succ, List.set_cons_zero]
      rw [hs]
      rw [aP_succ] at h3
      exact h3

theorem osd_rows {s1 s2 : Str} {A B : List Nat} {st : Nat} (hA : ∀ (j : Nat) y, A[j]? = some y → s1.cps[st + j]? = some y) (hB : ∀ (j : Nat) y, B[j]? = some y → s2.cps[st + j]? = some y) (hla : A.length < 2 ^ 60) (hlen : B.length < 2 ^ 60) (hst : st < 2 ^ 60) (hB0 : 0 < B.length)
    {z2 : Option PV} {mem : List MO} {kp : Nat} (hkp : kp < mem.length) :
    ∀ (n i : Nat), i + n = A.length → ∀ cur px x9 x10 x11 x12 x13 x14 x15 x16 x17 prow, PrOk true A B i 0 prow → (i ≠ 0 → A[i - 1]? = some px) →
    ∃ cur' px' x9' x10' x11' x12' x13' x14' x15' x16' x17' prow', ((n = 0 → cur' = cur) ∧ (0 < n → cur' = sI (P true A B A.length B.length))) ∧ PrOk true A B A.length 0 prow' ∧ prow'.length = prow.length ∧
      loopR (setL 9) osd_out 1 n i ⟨[sS s1, sS s2, z2, sI B.length, sI st, sR mem.length, sR kp, sC px, cur, x9, x10, x11, x12, x13, x14, x15, x16, x17], memO mem kp prow (rowP true A B i 0)⟩ =
        some (.next, ⟨[sS s1, sS s2, z2, sI B.length, sI st, sR mem.length, sR kp, sC px', cur', x9', x10', x11', x12', x13', x14', x15', x16', x17'], memO mem kp prow' (rowP true A B A.length 0)⟩) := by
  intro n
  induction n with
  | zero =>
    intro i hi cur px x9 x10 x11 x12 x13 x14 x15 x16 x17 prow hpr hpx
    obtain rfl : i = A.length := by omega
    exact ⟨cur, px, x9, x10, x11, x12, x13, x14, x15, x16, x17, prow, ⟨fun _ => rfl, fun h => absurd h (Nat.lt_irrefl _)⟩, hpr, rfl, rfl⟩
  | succ n ih =>
    intro i hi cur px x9 x10 x11 x12 x13 x14 x15 x16 x17 prow hpr hpx
    have hil : i < A.length := by omega
    have hx : A[i]? = some (A[i]'hil) := List.getElem?_eq_getElem _
    have g1 := hA i _ hx
    have h1 : (0 : Int) ≤ (st : Int) + i := by omega
    have h2 : (st : Int) + i < 4611686018427387904 := by omega
    obtain ⟨cur', y0', t0', x15', x16', x17', prow', hc, hp, hpl, hr⟩ := osd_row (z2 := z2) (z3 := sI B.length) (mem := mem) (s1 := s1) hB hlen hst hx hpx hkp B.length 0 (by omega) cur 32 0 x15 x16 x17 prow hpr (fun h => absurd rfl h) (fun _ h => absurd rfl h)
    obtain ⟨cur'', px'', x9'', x10'', x11'', x12'', x13'', x14'', x15'', x16'', x17'', prow'', hc2, hp2, hpl2, hr2⟩ := ih (i + 1) (by omega) cur' (A[i]'hil) (sI i) (sC px) (sC y0') (sI (P true A B i B.length)) (sI (aP true A B i B.length)) (sI t0') x15' x16' x17' prow' hp.full (fun _ => hx)
    refine ⟨cur'', px'', x9'', x10'', x11'', x12'', x13'', x14'', x15'', x16'', x17'', prow'', ⟨fun h => absurd h (by omega), fun _ => ?_⟩, hp2, by rw [hpl2, hpl], ?_⟩
    · cases n with
      | zero =>
        have e : i + 1 = A.length := by omega
        rw [hc2.1 rfl, hc.2 hB0, e]
      | succ n => exact hc2.2 (by omega)
    · rw [loopR_succ_ap]
      have e0 : P true A B i 0 = i := P_top i (by omega)
      have e1 : aP true A B i 0 = i := if_pos rfl
      have z : ((0 : Nat) : Int) = 0 := rfl
      rw [e0, e1, z] at hr
      rw [rowP_full] at hr
      unfold osd_out
      simp [getL_ap, setL_ap, cst_ap, binM_ap, cmpM_ap, andM_nil_ap, andM_cons_ap, orM_nil_ap, orM_cons_ap, iteM_ap, asg1_ap, asg2_ap, augM_ap, blkM_nil_ap, blkM_cons_ap, retM_ap, tupM_ap, seqM_nil_ap, seqM_cons_ap, flatL, subM_ap, subF_str, subF_list, setItemM_ap, setItemF_list, bltM_ap, blt_len_s, bin_add, bin_sub, cmp_eq_i, cmp_ne_i, cmp_lt_i, cmp_le_i, cmp_gt_i, cmp_ge_i, cmp_eq_c, cmp_ne_c, pd_True, pd_False, forRangeM_ap, h1, h2, g1, toNat_add2, rng1 B.length (by omega), space_c, hr]
      exact hr2

theorem osd_eval {s1 s2 : Str} {A B : List Nat} {st : Nat} (hA : ∀ (j : Nat) y, A[j]? = some y → s1.cps[st + j]? = some y) (hB : ∀ (j : Nat) y, B[j]? = some y → s2.cps[st + j]? = some y) (hla : A.length ≤ 1000) (hlen : B.length ≤ 1000) (hst : st ≤ 1000) (hA0 : 0 < A.length) (hB0 : 0 < B.length)
    {x5 x7 x8 x9 x10 x11 x12 x13 x14 x15 x16 x17 : Option PV} {mem : List MO} {kp : Nat} {prow : List PV} (hkp : mem[kp]? = some (.list prow)) (hpl : B.length ≤ prow.length) (hpi : ∀ k : Nat, k < prow.length → ∃ v, prow[k]? = some (.fl (.int v))) :
    ∃ l row prow', osd_m ⟨[sS s1, sS s2, sI A.length, sI B.length, sI st, x5, sR kp, x7, x8, x9, x10, x11, x12, x13, x14, x15, x16, x17], mem⟩ = some (.ret (.fl (.int (dist true A B))), ⟨l, mem.set kp (.list prow') ++ [row]⟩) ∧
      prow'.length = prow.length ∧ ∀ k : Nat, k < prow'.length → ∃ v, prow'[k]? = some (.fl (.int v)) := by
  have hk : kp < mem.length := (List.getElem?_eq_some_iff.mp hkp).1
  have hpr : PrOk true A B 0 0 prow := ⟨hpl, fun k hk => let ⟨v, e⟩ := hpi k hk; ⟨v, e, fun h => absurd h (by omega), fun _ _ h => absurd rfl h⟩⟩
  obtain ⟨cur', px', x9', x10', x11', x12', x13', x14', x15', x16', x17', prow', hc, hp, hl, hr⟩ := osd_rows (A := A) (B := B) hA hB (by omega) (by omega) (by omega) hB0 (z2 := sI A.length) hk A.length 0 (by omega) (sI 0) 32 x9 x10 x11 x12 x13 x14 x15 x16 x17 prow hpr (fun h => absurd rfl h)
  have hc := hc.2 hA0
  rw [P_whole] at hc
  subst hc
  have z : ((0 : Nat) : Int) = 0 := rfl
  rw [z] at hr
  have e0 : memO mem kp prow (rowP true A B 0 0) = mem ++ [.list (rowP true A B 0 0)] := by
    unfold memO
    congr 1
    apply List.ext_getElem?
    intro k
    by_cases e : k = kp
    · subst e; rw [List.getElem?_set_self hk, hkp]
    · rw [List.getElem?_set_ne (fun h => e h.symm)]
  rw [e0] at hr
  have hcomp : compL (binM .Add (getL 0) (cst (.fl (.int 1)))) B.length 0 = some (rowP true A B 0 0) := by
    rw [compL_all (g := fun i => .int (i + 1)) (fun _ => rfl) B.length 0 (fun k hk => by simp [getL_ap, setL_ap, cst_ap, binM_ap, cmpM_ap, andM_nil_ap, andM_cons_ap, orM_nil_ap, orM_cons_ap, iteM_ap, asg1_ap, asg2_ap, augM_ap, blkM_nil_ap, blkM_cons_ap, retM_ap, tupM_ap, seqM_nil_ap, seqM_cons_ap, flatL, subM_ap, subF_str, subF_list, setItemM_ap, setItemF_list, bltM_ap, blt_len_s, bin_add, bin_sub, cmp_eq_i, cmp_ne_i, cmp_lt_i, cmp_le_i, cmp_gt_i, cmp_ge_i, cmp_eq_c, cmp_ne_c, pd_True, pd_False])]
    congr 1
    unfold rowP
    apply List.map_congr_left
    intro k hk
    have := List.mem_range.mp hk
    rw [if_neg (by omega), P_left (sw := true) (A := A) (k + 1) (by omega)]
    show PV.fl (.int ((0 : Int) + (k : Int) + 1)) = PV.fl (.int ((k + 1 : Nat) : Int))
    rw [show (0 : Int) + (k : Int) + 1 = ((k + 1 : Nat) : Int) by omega]
  refine ⟨[sS s1, sS s2, sI A.length, sI B.length, sI st, sR mem.length, sR kp, sC px', sI (dist true A B), x9', x10', x11', x12', x13', x14', x15', x16', x17'], .list (rowP true A B A.length 0), prow', ?_, hl, fun k hk => let ⟨v, e, _⟩ := hp.2 k hk; ⟨v, e⟩⟩
  show blkM [(asg1 (compM [(getL 3)] (binM .Add (getL 0) (cst (.fl (.int 1))))) (setL 5)), (asg1 (cst (.fl (.str (Str.ofString " ")))) (setL 7)), (asg1 (cst (.fl (.int 0))) (setL 8)), (forRangeM [(getL 2)] (setL 9) osd_out), (retM (getL 8))] _ = _
  have hB1 : B.length ≤ 1048576 := by omega
  simp [getL_ap, setL_ap, cst_ap, binM_ap, cmpM_ap, andM_nil_ap, andM_cons_ap, orM_nil_ap, orM_cons_ap, iteM_ap, asg1_ap, asg2_ap, augM_ap, blkM_nil_ap, blkM_cons_ap, retM_ap, tupM_ap, seqM_nil_ap, seqM_cons_ap, flatL, subM_ap, subF_str, subF_list, setItemM_ap, setItemF_list, bltM_ap, blt_len_s, bin_add, bin_sub, cmp_eq_i, cmp_ne_i, cmp_lt_i, cmp_le_i, cmp_gt_i, cmp_ge_i, cmp_eq_c, cmp_ne_c, pd_True, pd_False, forRangeM_ap, compM_ap, rng1 B.length (by omega), rng1 A.length (by omega), hB1, hcomp, newL_ap, space_c, hr, memO]
end Mine

/-! BEv4 -/
namespace Mine

/-! the band -/
structure Band (A B : List Nat) (m d : Nat) : Prop where
  len : B.length = A.length + d
  dm : d ≤ m
  mB : m < B.length
  pos : 0 < A.length
  heads : ∃ x y, A[0]? = some x ∧ B[0]? = some y ∧ x ≠ y
def jsB (m d i : Nat) : Nat := i - (m - d)
def jeB (B : List Nat) (m i : Nat) : Nat := min B.length (m + i + 1)
theorem Band.js0 {A B m d} (b : Band A B m d) {i : Nat} (hi : 0 < jsB m d i) : m ≤ pot d i (jsB m d i) := by
  unfold jsB at *; unfold pot; have := b.dm; omega
theorem Band.ppos {sw A B m d} (b : Band A B m d) {i j : Nat} (hi : 0 < i) (hj : 0 < j) : 0 < P sw A B i j := by
  obtain ⟨x, y, h1, h2, h3⟩ := b.heads
  exact P_pos h1 h2 h3 hi hj

/-- a row of the band, before the row i is walked up to column j -/
def RowB (sw : Bool) (A B : List Nat) (m d i j : Nat) (r : List PV) : Prop := r.length = B.length ∧ ∀ k : Nat, k < B.length → ∃ v : Int, r[k]? = some (.fl (.int v)) ∧
  (j ≤ k → jsB m d i ≤ k → Cell sw A B m d i (k + 1) v) ∧ (k < j → jsB m d i ≤ k → Cell sw A B m d (i + 1) (k + 1) v) ∧ (m + i + 1 ≤ k → v = m + 1) ∧ (j ≤ k → m + i ≤ k → v = m + 1)
theorem RowB.zero {sw A B m d} (b : Band A B m d) : RowB sw A B m d 0 0 ((List.range B.length).map fun k => .fl (.int (if k < m then k + 1 else m + 1 : Nat))) := by
  refine ⟨by simp, fun k hk => ⟨_, by rw [List.getElem?_map, List.getElem?_range hk]; rfl, fun _ _ => ?_, fun h => absurd h (by omega), fun h => ?_, fun _ h => ?_⟩⟩
  · by_cases h : k < m
    · rw [if_pos h]; exact Cell.exact (by rw [P_left _ (by omega)])
    · rw [if_neg h]
      exact Cell.far (by unfold pot; omega) (by omega) (by rw [P_left _ (by omega)]; omega)
  · rw [if_neg (by omega)]; omega
  · rw [if_neg (by omega)]; omega
theorem RowB.set {sw A B m d i j r} (h : RowB sw A B m d i j r) (hj : j < jeB B m i) {v : Int} (hv : Cell sw A B m d (i + 1) (j + 1) v) : RowB sw A B m d i (j + 1) (r.set j (.fl (.int v))) := by
  have hjl : j < B.length := by unfold jeB at hj; omega
  refine ⟨by simpa using h.1, fun k hk => ?_⟩
  by_cases e : k = j
  · subst e
    exact ⟨v, List.getElem?_set_self (by rw [h.1]; exact hjl), fun h => absurd h (by omega), fun _ _ => hv, fun h => absurd h (by unfold jeB at hj; omega), fun h => absurd h (by omega)⟩
  · obtain ⟨u, h1, h2, h3, h4, h5⟩ := h.2 k hk
    exact ⟨u, by rw [List.getElem?_set_ne (fun h => e h.symm)]; exact h1, fun h => h2 (by omega), fun h => h3 (by omega), h4, fun h => h5 (by omega)⟩
theorem RowB.full {sw A B m d i r} (b : Band A B m d) (hi : i < A.length) (h : RowB sw A B m d i (jeB B m i) r) : RowB sw A B m d (i + 1) 0 r := by
  refine ⟨h.1, fun k hk => ?_⟩
  obtain ⟨u, h1, h2, h3, h4, h5⟩ := h.2 k hk
  refine ⟨u, h1, fun _ hs => ?_, fun h => absurd h (by omega), fun h => h4 (by omega), fun _ h => h4 (by omega)⟩
  by_cases hk2 : k < jeB B m i
  · exact h3 hk2 (by unfold jsB at *; omega)
  · have hk3 : m + i + 1 ≤ k := by unfold jeB at hk2; omega
    rw [h4 hk3]
    refine Cell.far (by unfold pot; omega) (by omega) ?_
    have := (P_len (sw := sw) (A := A) (B := B) (i + 1) (k + 1) (by omega) (by omega)).2
    omega

/-- a new cell of the band -/
theorem cellV_B {A B : List Nat} {m d i j x y : Nat} {l a o : Int} (b : Band A B m d) (hx : A[i]? = some x) (hy : B[j]? = some y) (hl : Cell false A B m d i j l) (ho : Cell false A B m d i (j + 1) o)
    (ha : Cell false A B m d (i + 1) j a ∨ (j = 0 ∧ a = l) ∨ (0 < j ∧ m ≤ pot d i j ∧ 0 < l ∧ 0 ≤ a)) : Cell false A B m d (i + 1) (j + 1) (cellV x y l a o) := by
  unfold cellV
  rcases ha with ha | ⟨rfl, rfl⟩ | ⟨h1, h2, h3, h4⟩
  · by_cases h : x = y
    · rw [if_pos h]; exact Cell.eq hx hy h hl
    · rw [if_neg h]
      have := Cell.ne (sw := false) hx hy h (fun hs => Bool.noConfusion hs.1) hl ha ho
      rw [show min o (min a l) = min l (min a o) by omega]; exact this
  · by_cases h : x = y
    · rw [if_pos h]; exact Cell.eq hx hy h hl
    · rw [if_neg h]
      have := Cell.ne0 (sw := false) hx hy h rfl hl ho
      rw [show min o (min a a) = min a o by omega]; exact this
  · refine Cell.edge ?_ (b.ppos (by omega) (by omega)) (by unfold pot at *; omega)
    have := ho.1
    split <;> omega

noncomputable def lvm_in : Mo Fl := blkM [(asg1 (getL 13) (setL 10)),
  (asg1 (subM (getL 5) (getL 15)) (setL 13)),
  (iteM (cmpM .NotEq (subM (getL 1) (binM .Add (getL 4) (getL 15))) (getL 12)) (blkM [minM 14 10, minM 13 10,
  (augM .Add 10 (cst (.fl (.int 1))))]) (blkM [])),
  (asg2 (getL 10) (setItemM (getL 5) (getL 15)) (setL 14))]
noncomputable def bumpM (op : CmpOp) (k a b : Nat) : Mo Fl := augM .Add k (iteM (cmpM op (getL a) (getL b)) (cst (.fl (.int 1))) (cst (.fl (.int 0))))
theorem bumpGt_ap {l : List (Option PV)} {mem : List MO} {k a b : Nat} {u x y : Int} (h1 : l[k]? = some (sI u)) (h2 : l[a]? = some (sI x)) (h3 : l[b]? = some (sI y)) : bumpM .Gt k a b ⟨l, mem⟩ = some (.next, ⟨l.set k (sI (u + if y < x then 1 else 0)), mem⟩) := by
  unfold bumpM
  by_cases h : y < x
  · simp [getL_ap, setL_ap, cst_ap, binM_ap, cmpM_ap, andM_nil_ap, andM_cons_ap, orM_nil_ap, orM_cons_ap, iteM_ap, asg1_ap, asg2_ap, augM_ap, blkM_nil_ap, blkM_cons_ap, retM_ap, tupM_ap, seqM_nil_ap, seqM_cons_ap, flatL, subM_ap, subF_str, subF_list, setItemM_ap, setItemF_list, bltM_ap, blt_len_s, bin_add, bin_sub, cmp_eq_i, cmp_ne_i, cmp_lt_i, cmp_le_i, cmp_gt_i, cmp_ge_i, cmp_eq_c, cmp_ne_c, pd_True, pd_False, h1, h2, h3, h]
  · simp [getL_ap, setL_ap, cst_ap, binM_ap, cmpM_ap, andM_nil_ap, andM_cons_ap, orM_nil_ap, orM_cons_ap, iteM_ap, asg1_ap, asg2_ap, augM_ap, blkM_nil_ap, blkM_cons_ap, retM_ap, tupM_ap, seqM_nil_ap, seqM_cons_ap, flatL, subM_ap, subF_str, subF_list, setItemM_ap, setItemF_list, bltM_ap, blt_len_s, bin_add, bin_sub, cmp_eq_i, cmp_ne_i, cmp_lt_i, cmp_le_i, cmp_gt_i, cmp_ge_i, cmp_eq_c, cmp_ne_c, pd_True, pd_False, h1, h2, h3, h]
theorem bumpLt_ap {l : List (Option PV)} {mem : List MO} {k a b : Nat} {u x y : Int} (h1 : l[k]? = some (sI u)) (h2 : l[a]? = some (sI x)) (h3 : l[b]? = some (sI y)) : bumpM .Lt k a b ⟨l, mem⟩ = some (.next, ⟨l.set k (sI (u + if x < y then 1 else 0)), mem⟩) := by
  unfold bumpM
  by_cases h : x < y
  · simp [getL_ap, setL_ap, cst_ap, binM_ap, cmpM_ap, andM_nil_ap, andM_cons_ap, orM_nil_ap, orM_cons_ap, iteM_ap, asg1_ap, asg2_ap, augM_ap, blkM_nil_ap, blkM_cons_ap, retM_ap, tupM_ap, seqM_nil_ap, seqM_cons_ap, flatL, subM_ap, subF_str, subF_list, setItemM_ap, setItemF_list, bltM_ap, blt_len_s, bin_add, bin_sub, cmp_eq_i, cmp_ne_i, cmp_lt_i, cmp_le_i, cmp_gt_i, cmp_ge_i, cmp_eq_c, cmp_ne_c, pd_True, pd_False, h1, h2, h3, h]
  · simp [getL_ap, setL_ap, cst_ap, binM_ap, cmpM_ap, andM_nil_ap, andM_cons_ap, orM_nil_ap, orM_cons_ap, iteM_ap, asg1_ap, asg2_ap, augM_ap, blkM_nil_ap, blkM_cons_ap, retM_ap, tupM_ap, seqM_nil_ap, seqM_cons_ap, flatL, subM_ap, subF_str, subF_list, setItemM_ap, setItemF_list, bltM_ap, blt_len_s, bin_add, bin_sub, cmp_eq_i, cmp_ne_i, cmp_lt_i, cmp_le_i, cmp_gt_i, cmp_ge_i, cmp_eq_c, cmp_ne_c, pd_True, pd_False, h1, h2, h3, h]
noncomputable def lvm_out (c : FV) : Mo Fl := blkM [(asg1 (subM (getL 0) (binM .Add (getL 4) (getL 11))) (setL 12)),
  (asg2 (getL 11) (setL 13) (setL 14)),
  bumpM .Gt 8 11 7, bumpM .Lt 9 9 3,
  (forRangeM [(getL 8), (getL 9)] (setL 15) lvm_in),
  (iteM (cmpM .Gt (subM (getL 5) (binM .Add (getL 11) (getL 6))) (cst (.fl c))) (blkM [(retM (cst (.fl (.int (-1)))))]) (blkM []))]

theorem lvm_step {s1 s2 : Str} {z2 z3 z6 z7 z8 z9 cur : Option PV} {st j x y : Nat} {i l a o : Int} {mem : List MO} {row : List PV} (hj : j < 2 ^ 60) (hst : st < 2 ^ 60) (hrow : row[j]? = some (.fl (.int o))) (hy : s2.cps[st + j]? = some y) :
    lvm_in ⟨[sS s1, sS s2, z2, z3, sI st, sR mem.length, z6, z7, z8, z9, cur, sI i, sC x, sI l, sI a, sI j], mem ++ [.list row]⟩ =
      some (.next, ⟨[sS s1, sS s2, z2, z3, sI st, sR mem.length, z6, z7, z8, z9, sI (cellV x y l a o), sI i, sC x, sI o, sI (cellV x y l a o), sI j], mem ++ [.list (row.set j (.fl (.int (cellV x y l a o))))]⟩) := by
  have h1 : (0 : Int) ≤ (st : Int) + j := by omega
  have h2 : (st : Int) + j < 4611686018427387904 := by omega
  have h3 : (j : Int) < 4611686018427387904 := by omega
  obtain ⟨h4, h5⟩ := List.getElem?_eq_some_iff.mp hrow
  unfold lvm_in
  by_cases h : x = y
  · subst h
    simp [getL_ap, setL_ap, cst_ap, binM_ap, cmpM_ap, andM_nil_ap, andM_cons_ap, orM_nil_ap, orM_cons_ap, iteM_ap, asg1_ap, asg2_ap, augM_ap, blkM_nil_ap, blkM_cons_ap, retM_ap, tupM_ap, seqM_nil_ap, seqM_cons_ap, flatL, subM_ap, subF_str, subF_list, setItemM_ap, setItemF_list, bltM_ap, blt_len_s, bin_add, bin_sub, cmp_eq_i, cmp_ne_i, cmp_lt_i, cmp_le_i, cmp_gt_i, cmp_ge_i, cmp_eq_c, cmp_ne_c, pd_True, pd_False, h1, h2, h3, h4, snoc_get, snoc_set, hrow, hy, toNat_add2, cellV, h5]
  · have h' : ¬ y = x := fun e => h e.symm
    simp [getL_ap, setL_ap, cst_ap, binM_ap, cmpM_ap, andM_nil_ap, andM_cons_ap, orM_nil_ap, orM_cons_ap, iteM_ap, asg1_ap, asg2_ap, augM_ap, blkM_nil_ap, blkM_cons_ap, retM_ap, tupM_ap, seqM_nil_ap, seqM_cons_ap, flatL, subM_ap, subF_str, subF_list, setItemM_ap, setItemF_list, bltM_ap, blt_len_s, bin_add, bin_sub, cmp_eq_i, cmp_ne_i, cmp_lt_i, cmp_le_i, cmp_gt_i, cmp_ge_i, cmp_eq_c, cmp_ne_c, pd_True, pd_False, h1, h2, h3, h4, snoc_get, snoc_set, hrow, hy, toNat_add2, cellV, h, h', h5, minM_ap]

theorem lvm_row {s1 s2 : Str} {A B : List Nat} {st m d : Nat} (b : Band A B m d) (hB : ∀ (j : Nat) y, B[j]? = some y → s2.cps[st + j]? = some y) (hlen : B.length < 2 ^ 60) (hst : st < 2 ^ 60) {i x : Nat} (hx : A[i]? = some x) {z2 z3 z6 z7 z8 z9 : Option PV} {mem : List MO} :
    ∀ (n j : Nat), j + n = jeB B m i → jsB m d i ≤ j → ∀ cur (l a : Int) x15 row, RowB false A B m d i j row → Cell false A B m d i j l →
      (0 < n → Cell false A B m d (i + 1) j a ∨ (j = 0 ∧ a = l) ∨ (0 < j ∧ m ≤ pot d i j ∧ 0 < l ∧ 0 ≤ a)) → (n = 0 → ∃ v, cur = sI v ∧ Cell false A B m d (i + 1) j v) →
    ∃ (v l' a' : Int), ∃ x15' row', Cell false A B m d (i + 1) (jeB B m i) v ∧ RowB false A B m d i (jeB B m i) row' ∧
      loopR (setL 15) lvm_in 1 n j ⟨[sS s1, sS s2, z2, z3, sI st, sR mem.length, z6, z7, z8, z9, cur, sI i, sC x, sI l, sI a, x15], mem ++ [.list row]⟩ =
        some (.next, ⟨[sS s1, sS s2, z2, z3, sI st, sR mem.length, z6, z7, z8, z9, sI v, sI i, sC x, sI l', sI a', x15'], mem ++ [.list row']⟩) := by
  intro n
  induction n with
  | zero =>
    intro j hj hjs cur l a x15 row hr hl ha hc
    obtain rfl : j = jeB B m i := by omega
    obtain ⟨v, rfl, hv⟩ := hc rfl
    exact ⟨v, l, a, x15, row, hv, hr, rfl⟩
  | succ n ih =>
    intro j hj hjs cur l a x15 row hr hl ha hc
    have hjl : j < B.length := by unfold jeB at hj; omega
    have hy : B[j]? = some (B[j]'hjl) := List.getElem?_eq_getElem _
    obtain ⟨o, ho1, ho2, ho3, ho4, ho5⟩ := hr.2 j hjl
    have ho := ho2 (Nat.le_refl j) hjs
    have hv := cellV_B b hx hy hl ho (ha (by omega))
    have hs := lvm_step (s1 := s1) (z2 := z2) (z3 := z3) (z6 := z6) (z7 := z7) (z8 := z8) (z9 := z9) (cur := cur) (i := i) (l := l) (a := a) (mem := mem) (by omega : j < 2 ^ 60) hst ho1 (hB j _ hy) (x := x)
    obtain ⟨v, l', a', x15', row', h1, h2, h3⟩ := ih (j + 1) (by omega) (by omega) (sI (cellV x (B[j]'hjl) l a o)) o (cellV x (B[j]'hjl) l a o) (sI j) _ (hr.set (by omega) hv) ho (fun _ => Or.inl hv) (fun _ => ⟨_, rfl, hv⟩)
    refine ⟨v, l', a', x15', row', h1, h2, ?_⟩
    rw [loopR_succ_ap]
    simp only [setL_ap, List.set_cons_succ, List.set_cons_zero]
    rw [hs]
    exact h3

theorem Band.start {sw A B m d} (b : Band A B m d) {i : Nat} (hi : i < A.length) : Cell sw A B m d i (jsB m d i) i ∧
    (Cell sw A B m d (i + 1) (jsB m d i) i ∨ (jsB m d i = 0 ∧ (i : Int) = i) ∨ (0 < jsB m d i ∧ m ≤ pot d i (jsB m d i) ∧ 0 < (i : Int) ∧ 0 ≤ (i : Int))) := by
  by_cases h : jsB m d i = 0
  · rw [h]
    exact ⟨Cell.exact (by rw [P_top i (by omega)]), Or.inr (Or.inl ⟨rfl, rfl⟩)⟩
  · have h1 : 0 < jsB m d i := by omega
    have h2 : 0 < i := by unfold jsB at h1; omega
    exact ⟨Cell.edge (by omega) (b.ppos h2 h1) (b.js0 h1), Or.inr (Or.inr ⟨h1, b.js0 h1, by omega, by omega⟩)⟩

/-- what the band returns -/
def bandR (m D : Nat) : Int := if D ≤ m then D else -1
theorem Band.exit {sw A B m d} (b : Band A B m d) {i : Nat} (hi : i < A.length) {v : Int} (hv : Cell sw A B m d (i + 1) (i + d + 1) v) (h : (m : Int) < v) : bandR m (dist sw A B) = -1 := by
  unfold bandR
  rw [if_neg]
  intro hd
  have h1 := (hv.2 m (by unfold pot; omega))
  have h2 := P_diag (sw := sw) (A := A) (B := B) (i + 1) (i + d + 1) (by have := b.len; omega)
  omega
theorem Band.fin {sw A B m d} (b : Band A B m d) {v : Int} (hv : Cell sw A B m d A.length B.length v) : (v ≤ (m : Int) → v = (dist sw A B : Nat) ∧ bandR m (dist sw A B) = v) ∧ (¬ v ≤ (m : Int) → bandR m (dist sw A B) = -1) := by
  have hp : pot d A.length B.length = 0 := by unfold pot; have := b.len; omega
  have h := hv.2
  rw [hp, P_whole] at h
  have h0 := hv.1
  constructor
  · intro hm
    have h1 := h v.toNat (by omega)
    have h2 : dist sw A B ≤ v.toNat := h1.mp (by omega)
    have h3 := (h (dist sw A B) (by omega)).mpr (Nat.le_refl _)
    have e : v = (dist sw A B : Nat) := by omega
    refine ⟨e, ?_⟩
    unfold bandR
    rw [if_pos (by omega), e]
  · intro hm
    unfold bandR
    rw [if_neg]
    intro hd
    exact hm ((h m (by omega)).mpr hd)

theorem lvm_outstep {s1 s2 : Str} {la lb st d x i : Nat} {js0 js1 je0 je1 off m : Int} {cur cur' x12 x13 x14 x15 x12' x13' x14' x15' : Option PV} {n : Nat} {row row' : List PV} {mem : List MO} {cv : Int}
    (g1 : s1.cps[st + i]? = some x) (hst : st < 2 ^ 60) (hi : i < 2 ^ 60) (hd : d < 2 ^ 60) (e8 : js0 + (if off < i then 1 else 0) = js1) (e9 : je0 + (if je0 < lb then 1 else 0) = je1) (hrng : rng [.fl (.int js1), .fl (.int je1)] = some (js1, n))
    (hrow : loopR (setL 15) lvm_in 1 n js1 ⟨[sS s1, sS s2, sI la, sI lb, sI st, sR mem.length, sI d, sI off, sI js1, sI je1, cur, sI i, sC x, sI i, sI i, x15], mem ++ [.list row]⟩ = some (.next, ⟨[sS s1, sS s2, sI la, sI lb, sI st, sR mem.length, sI d, sI off, sI js1, sI je1, cur', sI i, x12', x13', x14', x15'], mem ++ [.list row']⟩))
    (hc : row'[i + d]? = some (.fl (.int cv))) :
    lvm_out (.int m) ⟨[sS s1, sS s2, sI la, sI lb, sI st, sR mem.length, sI d, sI off, sI js0, sI je0, cur, sI i, x12, x13, x14, x15], mem ++ [.list row]⟩ =
      some (if m < cv then .ret (.fl (.int (-1))) else .next, ⟨[sS s1, sS s2, sI la, sI lb, sI st, sR mem.length, sI d, sI off, sI js1, sI je1, cur', sI i, x12', x13', x14', x15'], mem ++ [.list row']⟩) := by
  have h1 : (0 : Int) ≤ (st : Int) + i := by omega
  have h2 : (st : Int) + i < 4611686018427387904 := by omega
  have h3 : (0 : Int) ≤ (i : Int) + d := by omega
  have h4 : (i : Int) + d < 4611686018427387904 := by omega
  obtain ⟨hc1, hc2⟩ := List.getElem?_eq_some_iff.mp hc
  unfold lvm_out
  rw [blkM_cons_ap]
  simp [getL_ap, setL_ap, cst_ap, binM_ap, cmpM_ap, andM_nil_ap, andM_cons_ap, orM_nil_ap, orM_cons_ap, iteM_ap, asg1_ap, asg2_ap, augM_ap, blkM_nil_ap, blkM_cons_ap, retM_ap, tupM_ap, seqM_nil_ap, seqM_cons_ap, flatL, subM_ap, subF_str, subF_list, setItemM_ap, setItemF_list, bltM_ap, blt_len_s, bin_add, bin_sub, cmp_eq_i, cmp_ne_i, cmp_lt_i, cmp_le_i, cmp_gt_i, cmp_ge_i, cmp_eq_c, cmp_ne_c, pd_True, pd_False, h1, h2, g1, toNat_add2]
  rw [bumpGt_ap (u := js0) (x := i) (y := off) rfl rfl rfl, e8]
  simp only [List.set_cons_succ, List.set_cons_zero]
  rw [bumpLt_ap (u := je0) (x := je0) (y := lb) rfl rfl rfl, e9]
  simp only [List.set_cons_succ, List.set_cons_zero]
  simp [getL_ap, setL_ap, cst_ap, binM_ap, cmpM_ap, andM_nil_ap, andM_cons_ap, orM_nil_ap, orM_cons_ap, iteM_ap, asg1_ap, asg2_ap, augM_ap, blkM_nil_ap, blkM_cons_ap, retM_ap, tupM_ap, seqM_nil_ap, seqM_cons_ap, flatL, subM_ap, subF_str, subF_list, setItemM_ap, setItemF_list, bltM_ap, blt_len_s, bin_add, bin_sub, cmp_eq_i, cmp_ne_i, cmp_lt_i, cmp_le_i, cmp_gt_i, cmp_ge_i, cmp_eq_c, cmp_ne_c, pd_True, pd_False, forRangeM_ap, hrng, hrow, h3, h4, toNat_add2, snoc_get, hc1, hc2]
  by_cases h : m < cv
  · simp [h, pd_True, pd_False]
  · simp [h, pd_True, pd_False]

theorem lvm_rows {s1 s2 : Str} {A B : List Nat} {st m d : Nat} (b : Band A B m d) (hA : ∀ (j : Nat) y, A[j]? = some y → s1.cps[st + j]? = some y) (hB : ∀ (j : Nat) y, B[j]? = some y → s2.cps[st + j]? = some y) (hla : A.length < 2 ^ 59) (hlen : B.length < 2 ^ 59) (hst : st < 2 ^ 59) {mem : List MO} :
    ∀ (n i : Nat), i + n = A.length → ∀ cur x11 x12 x13 x14 x15 row, RowB false A B m d i 0 row → (n = 0 → ∃ v, cur = sI v ∧ Cell false A B m d A.length B.length v) →
    ∃ fl l' row', loopR (setL 11) (lvm_out (.int m)) 1 n i ⟨[sS s1, sS s2, sI A.length, sI B.length, sI st, sR mem.length, sI d, sI ((m : Int) - d), sI (i - 1 - (m - d) : Nat), sI (min B.length (m + i) : Nat), cur, x11, x12, x13, x14, x15], mem ++ [.list row]⟩ = some (fl, ⟨l', mem ++ [.list row']⟩) ∧
      ((fl = .ret (.fl (.int (-1))) ∧ bandR m (dist false A B) = -1) ∨ (fl = .next ∧ ∃ v, l'[10]? = some (sI v) ∧ Cell false A B m d A.length B.length v)) := by
  have hbl := b.len
  have hdm := b.dm
  have hmB := b.mB
  intro n
  induction n with
  | zero =>
    intro i hi cur x11 x12 x13 x14 x15 row hr hc
    obtain ⟨v, rfl, hv⟩ := hc rfl
    exact ⟨.next, _, row, rfl, Or.inr ⟨rfl, v, rfl, hv⟩⟩
  | succ n ih =>
    intro i hi cur x11 x12 x13 x14 x15 row hr hc
    have hil : i < A.length := by omega
    have hx : A[i]? = some (A[i]'hil) := List.getElem?_eq_getElem _
    have g1 := hA i _ hx
    have h1 : (0 : Int) ≤ (st : Int) + i := by omega
    have h2 : (st : Int) + i < 4611686018427387904 := by omega
    have hje : jsB m d i < jeB B m i := by unfold jsB jeB; omega
    have hst0 := b.start (sw := false) hil
    obtain ⟨v, l', a', x15', row', hv, hr', hrow⟩ := lvm_row (s1 := s1) (z2 := sI A.length) (z3 := sI B.length) (z6 := sI d) (z7 := sI ((m : Int) - d)) (z8 := sI (jsB m d i)) (z9 := sI (jeB B m i)) (mem := mem) b hB (by omega) (by omega) hx (jeB B m i - jsB m d i) (jsB m d i) (by omega) (Nat.le_refl _) cur i i x15 row
      ⟨hr.1, fun k hk => let ⟨u, q1, q2, q3, q4, q5⟩ := hr.2 k hk; ⟨u, q1, fun _ h => q2 (by omega) h, fun h1 h2 => absurd h1 (by omega), q4, fun _ h => q5 (by omega) h⟩⟩ hst0.1 (fun _ => hst0.2) (fun h => absurd h (by omega))
    have hfull := hr'.full b hil
    -- the corner of this row
    have hid : i + d < B.length := by omega
    obtain ⟨c, hc1, _, hc3, _, _⟩ := hr'.2 (i + d) hid
    have hcell := hc3 (by unfold jeB; omega) (by unfold jsB; omega)
    obtain ⟨hc4, hc5⟩ := List.getElem?_eq_some_iff.mp hc1
    have e8 : ((i - 1 - (m - d) : Nat) : Int) + (if (m : Int) - d < i then 1 else 0) = (jsB m d i : Nat) := by unfold jsB; split <;> omega
    have e9 : ((min B.length (m + i) : Nat) : Int) + (if ((min B.length (m + i) : Nat) : Int) < B.length then 1 else 0) = (jeB B m i : Nat) := by unfold jeB; split <;> omega
    have hrng := rng2 (jsB m d i : Nat) (jeB B m i : Nat) (by omega) (by omega) (by unfold jsB; omega) (by unfold jeB; omega)
    rw [show ((jeB B m i : Nat) : Int) - (jsB m d i : Nat) = ((jeB B m i - jsB m d i : Nat) : Int) by omega, Int.toNat_natCast] at hrng
    have hd0 : (0 : Int) ≤ (i : Int) + d := by omega
    have hd1 : (i : Int) + d < 4611686018427387904 := by omega
    have hstep := lvm_outstep (s2 := s2) (la := A.length) (lb := B.length) (m := m) (x12 := x12) (x13 := x13) (x14 := x14) g1 (by omega) (by omega) (by omega) e8 e9 hrng hrow hc1
    by_cases hex : (m : Int) < c
    · refine ⟨.ret (.fl (.int (-1))), [sS s1, sS s2, sI A.length, sI B.length, sI st, sR mem.length, sI d, sI ((m : Int) - d), sI (jsB m d i), sI (jeB B m i), sI v, sI i, sC (A[i]'hil), sI l', sI a', x15'], row', ?_, Or.inl ⟨rfl, b.exit hil hcell hex⟩⟩
      rw [loopR_succ_ap]
      simp only [setL_ap, List.set_cons_succ, List.set_cons_zero]
      rw [hstep, if_pos hex]
    · obtain ⟨fl, l2, row2, q1, q2⟩ := ih (i + 1) (by omega) (sI v) (sI i) (sC (A[i]'hil)) (sI l') (sI a') x15' row' hfull (fun h => ⟨v, rfl, by
        have e1 : i + 1 = A.length := by omega
        have e2 : jeB B m i = B.length := by unfold jeB; omega
        rw [e1, e2] at hv; exact hv⟩)
      refine ⟨fl, l2, row2, ?_, q2⟩
      rw [loopR_succ_ap]
      simp only [setL_ap, List.set_cons_succ, List.set_cons_zero]
      rw [hstep, if_neg hex]
      have e3 : i + 1 - 1 - (m - d) = jsB m d i := by unfold jsB; omega
      have e4 : min B.length (m + (i + 1)) = jeB B m i := by unfold jeB; omega
      rw [e3, e4] at q1
      exact q1

theorem lvm_eval {s1 s2 : Str} {A B : List Nat} {st m d : Nat} (b : Band A B m d) (hA : ∀ (j : Nat) y, A[j]? = some y → s1.cps[st + j]? = some y) (hB : ∀ (j : Nat) y, B[j]? = some y → s2.cps[st + j]? = some y) (hla : A.length ≤ 1000) (hlen : B.length ≤ 1000) (hst : st ≤ 1000)
    {x5 x6 x7 x8 x9 x10 x11 x12 x13 x14 x15 : Option PV} {mem : List MO} :
    ∃ l row, lvm_m (.int m) ⟨[sS s1, sS s2, sI A.length, sI B.length, sI st, x5, x6, x7, x8, x9, x10, x11, x12, x13, x14, x15], mem⟩ = some (.ret (.fl (.int (bandR m (dist false A B)))), ⟨l, mem ++ [row]⟩) := by
  have hbl := b.len
  have hmB := b.mB
  have hp := b.pos
  let row0 : List PV := (List.range B.length).map fun k => .fl (.int (if k < m then k + 1 else m + 1 : Nat))
  obtain ⟨fl, l', row', hr, hfin⟩ := lvm_rows b hA hB (by omega) (by omega) (by omega) (mem := mem) A.length 0 (by omega) (sI 0) x11 x12 x13 x14 x15 row0 (RowB.zero b) (fun h => absurd h (by omega))
  have e1 : min B.length (m + 0) = m := by omega
  have e2 : 0 - 1 - (m - d) = 0 := by omega
  have z : ((0 : Nat) : Int) = 0 := rfl
  rw [e1, e2, z] at hr
  have hcomp : compL (iteM (cmpM .Lt (getL 0) (cst (.fl (.int m)))) (binM .Add (getL 0) (cst (.fl (.int 1)))) (binM .Add (cst (.fl (.int m))) (cst (.fl (.int 1))))) B.length 0 = some row0 := by
    rw [compL_all (g := fun i => .int (if i < m then i + 1 else m + 1)) (fun _ => rfl) B.length 0 (fun k hk => by
      by_cases h : k < m
      · simp [getL_ap, setL_ap, cst_ap, binM_ap, cmpM_ap, andM_nil_ap, andM_cons_ap, orM_nil_ap, orM_cons_ap, iteM_ap, asg1_ap, asg2_ap, augM_ap, blkM_nil_ap, blkM_cons_ap, retM_ap, tupM_ap, seqM_nil_ap, seqM_cons_ap, flatL, subM_ap, subF_str, subF_list, setItemM_ap, setItemF_list, bltM_ap, blt_len_s, bin_add, bin_sub, cmp_eq_i, cmp_ne_i, cmp_lt_i, cmp_le_i, cmp_gt_i, cmp_ge_i, cmp_eq_c, cmp_ne_c, pd_True, pd_False, h]
      · simp [getL_ap, setL_ap, cst_ap, binM_ap, cmpM_ap, andM_nil_ap, andM_cons_ap, orM_nil_ap, orM_cons_ap, iteM_ap, asg1_ap, asg2_ap, augM_ap, blkM_nil_ap, blkM_cons_ap, retM_ap, tupM_ap, seqM_nil_ap, seqM_cons_ap, flatL, subM_ap, subF_str, subF_list, setItemM_ap, setItemF_list, bltM_ap, blt_len_s, bin_add, bin_sub, cmp_eq_i, cmp_ne_i, cmp_lt_i, cmp_le_i, cmp_gt_i, cmp_ge_i, cmp_eq_c, cmp_ne_c, pd_True, pd_False, h])]
    congr 1
    apply List.map_congr_left
    intro k hk
    show PV.fl (.int (if (0 : Int) + (k : Int) < m then (0 : Int) + (k : Int) + 1 else m + 1)) = PV.fl (.int ((if k < m then k + 1 else m + 1 : Nat) : Int))
    by_cases h : k < m
    · rw [if_pos h, if_pos (by omega)]; congr 2; omega
    · rw [if_neg h, if_neg (by omega)]; rfl
  have hB1 : B.length ≤ 1048576 := by omega
  have ed : (B.length : Int) - A.length = d := by omega
  have hm : lvm_m (.int m) ⟨[sS s1, sS s2, sI A.length, sI B.length, sI st, x5, x6, x7, x8, x9, x10, x11, x12, x13, x14, x15], mem⟩ =
      blkM [forRangeM [getL 2] (setL 11) (lvm_out (.int m)), retM (iteM (cmpM .LtE (getL 10) (cst (.fl (.int m)))) (getL 10) (cst (.fl (.int (-1)))))]
        ⟨[sS s1, sS s2, sI A.length, sI B.length, sI st, sR mem.length, sI d, sI ((m : Int) - d), sI 0, sI m, sI 0, x11, x12, x13, x14, x15], mem ++ [.list row0]⟩ := by
    show blkM [(asg1 (compM [(getL 3)] (iteM (cmpM .Lt (getL 0) (cst (.fl (.int m)))) (binM .Add (getL 0) (cst (.fl (.int 1)))) (binM .Add (cst (.fl (.int m))) (cst (.fl (.int 1)))))) (setL 5)),
      (asg1 (binM .Sub (getL 3) (getL 2)) (setL 6)), (asg1 (binM .Sub (cst (.fl (.int m))) (getL 6)) (setL 7)), (asg1 (cst (.fl (.int 0))) (setL 8)), (asg1 (cst (.fl (.int m))) (setL 9)), (asg1 (cst (.fl (.int 0))) (setL 10)),
      forRangeM [getL 2] (setL 11) (lvm_out (.int m)), retM (iteM (cmpM .LtE (getL 10) (cst (.fl (.int m)))) (getL 10) (cst (.fl (.int (-1)))))] _ = _
    rw [blkM_cons_ap, asg1_ap, compM_ap]
    simp only [seqM_cons_ap, seqM_nil_ap, getL_ap, List.getElem?_cons_succ, List.getElem?_cons_zero, rng1 B.length (by omega : B.length < 2 ^ 61), hB1, if_true, hcomp, newL_ap, setL_ap, List.set_cons_succ, List.set_cons_zero]
    simp only [blkM_cons_ap _ (_ :: _), getL_ap, setL_ap, cst_ap, binM_ap, cmpM_ap, andM_nil_ap, andM_cons_ap, orM_nil_ap, orM_cons_ap, iteM_ap, asg1_ap, asg2_ap, augM_ap, blkM_nil_ap, blkM_cons_ap, retM_ap, tupM_ap, seqM_nil_ap, seqM_cons_ap, flatL, subM_ap, subF_str, subF_list, setItemM_ap, setItemF_list, bltM_ap, blt_len_s, bin_add, bin_sub, cmp_eq_i, cmp_ne_i, cmp_lt_i, cmp_le_i, cmp_gt_i, cmp_ge_i, cmp_eq_c, cmp_ne_c, pd_True, pd_False, List.getElem?_cons_succ, List.getElem?_cons_zero, List.set_cons_succ, List.set_cons_zero, ed]
  rw [hm]
  rcases hfin with ⟨rfl, hb⟩ | ⟨rfl, v, hv1, hv2⟩
  · refine ⟨l', .list row', ?_⟩
    rw [hb]
    simp [getL_ap, setL_ap, cst_ap, binM_ap, cmpM_ap, andM_nil_ap, andM_cons_ap, orM_nil_ap, orM_cons_ap, iteM_ap, asg1_ap, asg2_ap, augM_ap, blkM_nil_ap, blkM_cons_ap, retM_ap, tupM_ap, seqM_nil_ap, seqM_cons_ap, flatL, subM_ap, subF_str, subF_list, setItemM_ap, setItemF_list, bltM_ap, blt_len_s, bin_add, bin_sub, cmp_eq_i, cmp_ne_i, cmp_lt_i, cmp_le_i, cmp_gt_i, cmp_ge_i, cmp_eq_c, cmp_ne_c, pd_True, pd_False, forRangeM_ap, rng1 A.length (by omega), hr]
  · refine ⟨l', .list row', ?_⟩
    have hf := b.fin hv2
    by_cases h : v ≤ (m : Int)
    · rw [(hf.1 h).2]
      simp [getL_ap, setL_ap, cst_ap, binM_ap, cmpM_ap, andM_nil_ap, andM_cons_ap, orM_nil_ap, orM_cons_ap, iteM_ap, asg1_ap, asg2_ap, augM_ap, blkM_nil_ap, blkM_cons_ap, retM_ap, tupM_ap, seqM_nil_ap, seqM_cons_ap, flatL, subM_ap, subF_str, subF_list, setItemM_ap, setItemF_list, bltM_ap, blt_len_s, bin_add, bin_sub, cmp_eq_i, cmp_ne_i, cmp_lt_i, cmp_le_i, cmp_gt_i, cmp_ge_i, cmp_eq_c, cmp_ne_c, pd_True, pd_False, forRangeM_ap, rng1 A.length (by omega), hr, hv1, h]
    · rw [hf.2 h]
      simp [getL_ap, setL_ap, cst_ap, binM_ap, cmpM_ap, andM_nil_ap, andM_cons_ap, orM_nil_ap, orM_cons_ap, iteM_ap, asg1_ap, asg2_ap, augM_ap, blkM_nil_ap, blkM_cons_ap, retM_ap, tupM_ap, seqM_nil_ap, seqM_cons_ap, flatL, subM_ap, subF_str, subF_list, setItemM_ap, setItemF_list, bltM_ap, blt_len_s, bin_add, bin_sub, cmp_eq_i, cmp_ne_i, cmp_lt_i, cmp_le_i, cmp_gt_i, cmp_ge_i, cmp_eq_c, cmp_ne_c, pd_True, pd_False, forRangeM_ap, rng1 A.length (by omega), hr, hv1, h]
end Mine

/-! BEv5 -/
namespace Mine

/-- the row before last in the band -/
def PrB (sw : Bool) (A B : List Nat) (m d i j : Nat) (r : List PV) : Prop := B.length ≤ r.length ∧ ∀ k : Nat, k < r.length → ∃ v : Int, r[k]? = some (.fl (.int v)) ∧
  (jsB m d i ≤ k → k < j → Cell sw A B m d i k v) ∧ (i ≠ 0 → j ≤ k → jsB m d (i - 1) ≤ k → k < jeB B m (i - 1) → Cell sw A B m d (i - 1) k v)
theorem PrB.set {sw A B m d i j r} (h : PrB sw A B m d i j r) (hj : j < B.length) {l : Int} (hl : Cell sw A B m d i j l) : PrB sw A B m d i (j + 1) (r.set j (.fl (.int l))) := by
  refine ⟨by simpa using h.1, fun k hk => ?_⟩
  have hk : k < r.length := by simpa using hk
  by_cases e : k = j
  · subst e
    exact ⟨l, List.getElem?_set_self (by have := h.1; omega), fun _ _ => hl, fun _ h => absurd h (by omega)⟩
  · obtain ⟨v, h1, h2, h3⟩ := h.2 k hk
    exact ⟨v, by rw [List.getElem?_set_ne (fun h => e h.symm)]; exact h1, fun a _ => h2 a (by omega), fun a _ => h3 a (by omega)⟩
theorem PrB.full {sw A B m d i r} (h : PrB sw A B m d i (jeB B m i) r) : PrB sw A B m d (i + 1) 0 r := by
  refine ⟨h.1, fun k hk => ?_⟩
  obtain ⟨v, h1, h2, h3⟩ := h.2 k hk
  exact ⟨v, h1, fun _ h => absurd h (by omega), fun _ _ a b => h2 a b⟩

/-- a new cell of the band, with swaps -/
theorem cellS_B {A B : List Nat} {m d i j x y px py : Nat} {l a o t : Int} (b : Band A B m d) (hx : A[i]? = some x) (hy : B[j]? = some y) (hl : Cell true A B m d i j l) (ho : Cell true A B m d i (j + 1) o)
    (hpx : i ≠ 0 → A[i - 1]? = some px)
    (ha : (Cell true A B m d (i + 1) j a ∧ (j ≠ 0 → B[j - 1]? = some py ∧ (i ≠ 0 → Cell true A B m d (i - 1) (j - 1) t))) ∨ (j = 0 ∧ a = l) ∨ (0 < j ∧ m ≤ pot d i j ∧ 0 < l ∧ 0 ≤ a ∧ 0 ≤ t)) : Cell true A B m d (i + 1) (j + 1) (cellS i j x y px py l a o t) := by
  unfold cellS
  by_cases h : x = y
  · rw [if_pos h]
    rcases ha with ⟨ha, _⟩ | ⟨rfl, rfl⟩ | ⟨h1, h2, h3, h4, h5⟩
    · exact Cell.eq hx hy h hl
    · exact Cell.eq hx hy h hl
    · exact Cell.edge (by omega) (b.ppos (by omega) (by omega)) (by unfold pot at *; omega)
  · rw [if_neg h]
    rcases ha with ⟨ha, hsw⟩ | ⟨rfl, rfl⟩ | ⟨h1, h2, h3, h4, h5⟩
    · by_cases hs : Sw true A B i j x y
      · have h1 : i ≠ 0 := by have := hs.2.1; omega
        have h2 : j ≠ 0 := by have := hs.2.2.1; omega
        obtain ⟨hpy, ht⟩ := hsw h2
        have h3 : px = y := by have := hs.2.2.2.1; rw [hpx h1] at this; exact Option.some.inj this
        have h4 : x = py := by have := hs.2.2.2.2; rw [hpy] at this; exact (Option.some.inj this).symm
        have hc := Cell.swp hx hy h hs hl ha ho (ht h1)
        by_cases hlt : t + 1 < min o (min a l) + 1
        · rw [if_pos ⟨h1, h2, h4, h3, hlt⟩]
          rw [show min (min l (min a o) + 1) (t + 1) = t + 1 by omega] at hc; exact hc
        · rw [if_neg (fun h => hlt h.2.2.2.2)]
          rw [show min (min l (min a o) + 1) (t + 1) = min o (min a l) + 1 by omega] at hc; exact hc
      · rw [if_neg]
        · have := Cell.ne hx hy h hs hl ha ho
          rw [show min o (min a l) = min l (min a o) by omega]; exact this
        · rintro ⟨h1, h2, h3, h4, _⟩
          obtain ⟨hpy, _⟩ := hsw h2
          exact hs ⟨rfl, by omega, by omega, by rw [hpx h1, h4], by rw [hpy, h3]⟩
    · rw [if_neg (fun h => h.2.1 rfl)]
      have := Cell.ne0 hx hy h rfl hl ho
      rw [show min o (min a a) = min a o by omega]; exact this
    · refine Cell.edge ?_ (b.ppos (by omega) (by omega)) (by unfold pot at *; omega)
      have := ho.1
      split <;> omega

noncomputable def osm_in : Mo Fl := blkM [(asg1 (getL 18) (setL 20)),
  (asg1 (subM (getL 6) (getL 19)) (setL 18)),
  (asg2 (getL 16) (setItemM (getL 6) (getL 19)) (setL 12)),
  (asg1 (subM (getL 5) (getL 19)) (setL 16)),
  (asg1 (getL 15) (setL 21)),
  (asg1 (subM (getL 1) (binM .Add (getL 4) (getL 19))) (setL 15)),
  (iteM (cmpM .NotEq (getL 11) (getL 15)) (blkM [minM 17 12, minM 16 12,
  (augM .Add 12 (cst (.fl (.int 1)))),
  swTail 13 19 11 21 14 15 20 12]) (blkM [])),
  (asg2 (getL 12) (setItemM (getL 5) (getL 19)) (setL 17))]
noncomputable def osm_out (c : FV) : Mo Fl := blkM [(asg1 (getL 11) (setL 14)),
  (asg1 (subM (getL 0) (binM .Add (getL 4) (getL 13))) (setL 11)),
  (asg1 (cst (.fl (.str (Str.ofString " ")))) (setL 15)),
  (asg2 (getL 13) (setL 16) (setL 17)),
  (asg1 (cst (.fl (.int 0))) (setL 18)),
  bumpM .Gt 9 13 8, bumpM .Lt 10 10 3,
  (forRangeM [(getL 9), (getL 10)] (setL 19) osm_in),
  (iteM (cmpM .Gt (subM (getL 5) (binM .Add (getL 13) (getL 7))) (cst (.fl c))) (blkM [(retM (cst (.fl (.int (-1)))))]) (blkM []))]

theorem osm_step {s1 s2 : Str} {z2 z3 z7 z8 z9 z10 cur x20 x21 : Option PV} {st i j x y y0 px kp : Nat} {l a o t0 p : Int} {mem : List MO} {row prow : List PV} (hkp : kp < mem.length) (hj : j < 2 ^ 60) (hst : st < 2 ^ 60) (hrow : row[j]? = some (.fl (.int o))) (hprow : prow[j]? = some (.fl (.int p))) (hy : s2.cps[st + j]? = some y) :
    osm_in ⟨[sS s1, sS s2, z2, z3, sI st, sR mem.length, sR kp, z7, z8, z9, z10, sC x, cur, sI i, sC px, sC y0, sI l, sI a, sI t0, sI j, x20, x21], memO mem kp prow row⟩ =
      some (.next, ⟨[sS s1, sS s2, z2, z3, sI st, sR mem.length, sR kp, z7, z8, z9, z10, sC x, sI (cellS i j x y px y0 l a o t0), sI i, sC px, sC y, sI o, sI (cellS i j x y px y0 l a o t0), sI p, sI j, sI t0, sC y0],
        memO mem kp (prow.set j (.fl (.int l))) (row.set j (.fl (.int (cellS i j x y px y0 l a o t0))))⟩) := by
  have h1 : (0 : Int) ≤ (st : Int) + j := by omega
  have h2 : (st : Int) + j < 4611686018427387904 := by omega
  have h3 : (j : Int) < 4611686018427387904 := by omega
  obtain ⟨h4, h5⟩ := List.getElem?_eq_some_iff.mp hrow
  obtain ⟨h6, h7⟩ := List.getElem?_eq_some_iff.mp hprow
  have g1 := memO_getk mem kp
  have g2 := fun a b => memO_getp hkp a b
  have g3 := memO_setk mem kp
  have g4 := fun a b c => memO_setp hkp a b c
  unfold osm_in
  by_cases h : x = y
  · subst h
    simp [getL_ap, setL_ap, cst_ap, binM_ap, cmpM_ap, andM_nil_ap, andM_cons_ap, orM_nil_ap, orM_cons_ap, iteM_ap, asg1_ap, asg2_ap, augM_ap, blkM_nil_ap, blkM_cons_ap, retM_ap, tupM_ap, seqM_nil_ap, seqM_cons_ap, flatL, subM_ap, subF_str, subF_list, setItemM_ap, setItemF_list, bltM_ap, blt_len_s, bin_add, bin_sub, cmp_eq_i, cmp_ne_i, cmp_lt_i, cmp_le_i, cmp_gt_i, cmp_ge_i, cmp_eq_c, cmp_ne_c, pd_True, pd_False, h1, h2, h3, h4, h6, g1, g2, g3, g4, hy, toNat_add2, cellS, h5, h7]
  · simp [getL_ap, setL_ap, cst_ap, binM_ap, cmpM_ap, andM_nil_ap, andM_cons_ap, orM_nil_ap, orM_cons_ap, iteM_ap, asg1_ap, asg2_ap, augM_ap, blkM_nil_ap, blkM_cons_ap, retM_ap, tupM_ap, seqM_nil_ap, seqM_cons_ap, flatL, subM_ap, subF_str, subF_list, setItemM_ap, setItemF_list, bltM_ap, blt_len_s, bin_add, bin_sub, cmp_eq_i, cmp_ne_i, cmp_lt_i, cmp_le_i, cmp_gt_i, cmp_ge_i, cmp_eq_c, cmp_ne_c, pd_True, pd_False, h1, h2, h3, h4, h6, g1, g2, g3, g4, hy, toNat_add2, cellS, h, h5, h7, minM_ap]
    rw [swTail_ap (i := i) (j := j) (x := x) (py := y0) (px := px) (y := y) (t := t0) (v := min o (min a l) + 1) rfl rfl rfl rfl rfl rfl rfl rfl]
    simp [getL_ap, setL_ap, cst_ap, binM_ap, cmpM_ap, andM_nil_ap, andM_cons_ap, orM_nil_ap, orM_cons_ap, iteM_ap, asg1_ap, asg2_ap, augM_ap, blkM_nil_ap, blkM_cons_ap, retM_ap, tupM_ap, seqM_nil_ap, seqM_cons_ap, flatL, subM_ap, subF_str, subF_list, setItemM_ap, setItemF_list, bltM_ap, blt_len_s, bin_add, bin_sub, cmp_eq_i, cmp_ne_i, cmp_lt_i, cmp_le_i, cmp_gt_i, cmp_ge_i, cmp_eq_c, cmp_ne_c, pd_True, pd_False, h1, h2, h3, h4, h6, g1, g2, g3, g4, hy, toNat_add2, cellS, h, h5, h7, minM_ap]

theorem osm_row {s1 s2 : Str} {A B : List Nat} {st m d : Nat} (b : Band A B m d) (hB : ∀ (j : Nat) y, B[j]? = some y → s2.cps[st + j]? = some y) (hlen : B.length < 2 ^ 60) (hst : st < 2 ^ 60) {i x px kp : Nat} (hx : A[i]? = some x) (hpx : i ≠ 0 → A[i - 1]? = some px)
    {z2 z3 z7 z8 z9 z10 : Option PV} {mem : List MO} (hkp : kp < mem.length) :
    ∀ (n j : Nat), j + n = jeB B m i → jsB m d i ≤ j → ∀ cur y0 (l a t0 : Int) x19 x20 x21 row prow, RowB true A B m d i j row → PrB true A B m d i j prow → Cell true A B m d i j l →
      (0 < n → (Cell true A B m d (i + 1) j a ∧ (j ≠ 0 → B[j - 1]? = some y0 ∧ (i ≠ 0 → Cell true A B m d (i - 1) (j - 1) t0))) ∨ (j = 0 ∧ a = l) ∨ (0 < j ∧ m ≤ pot d i j ∧ 0 < l ∧ 0 ≤ a ∧ 0 ≤ t0)) → (n = 0 → ∃ v, cur = sI v ∧ Cell true A B m d (i + 1) j v) →
    ∃ (v l' a' t0' : Int), ∃ y0' x19' x20' x21' row' prow', Cell true A B m d (i + 1) (jeB B m i) v ∧ RowB true A B m d i (jeB B m i) row' ∧ PrB true A B m d i (jeB B m i) prow' ∧ prow'.length = prow.length ∧
      loopR (setL 19) osm_in 1 n j ⟨[sS s1, sS s2, z2, z3, sI st, sR mem.length, sR kp, z7, z8, z9, z10, sC x, cur, sI i, sC px, sC y0, sI l, sI a, sI t0, x19, x20, x21], memO mem kp prow row⟩ =
        some (.next, ⟨[sS s1, sS s2, z2, z3, sI st, sR mem.length, sR kp, z7, z8, z9, z10, sC x, sI v, sI i, sC px, sC y0', sI l', sI a', sI t0', x19', x20', x21'], memO mem kp prow' row'⟩) := by
  intro n
  induction n with
  | zero =>
    intro j hj hjs cur y0 l a t0 x19 x20 x21 row prow hr hpr hl ha hc
    obtain rfl : j = jeB B m i := by omega
    obtain ⟨v, rfl, hv⟩ := hc rfl
    exact ⟨v, l, a, t0, y0, x19, x20, x21, row, prow, hv, hr, hpr, rfl, rfl⟩
  | succ n ih =>
    intro j hj hjs cur y0 l a t0 x19 x20 x21 row prow hr hpr hl ha hc
    have hjl : j < B.length := by unfold jeB at hj; omega
    have hy : B[j]? = some (B[j]'hjl) := List.getElem?_eq_getElem _
    obtain ⟨o, ho1, ho2, ho3, ho4, ho5⟩ := hr.2 j hjl
    obtain ⟨p, hp1, hp2, hp3⟩ := hpr.2 j (by have := hpr.1; omega)
    have ho := ho2 (Nat.le_refl j) hjs
    have hv := cellS_B b hx hy hl ho hpx (ha (by omega))
    have hs := osm_step (s1 := s1) (z2 := z2) (z3 := z3) (z7 := z7) (z8 := z8) (z9 := z9) (z10 := z10) (cur := cur) (x20 := x20) (x21 := x21) (i := i) (px := px) (y0 := y0) (l := l) (a := a) (t0 := t0) (mem := mem) hkp (by omega : j < 2 ^ 60) hst ho1 hp1 (hB j _ hy) (x := x)
    obtain ⟨v, l', a', t0', y0', x19', x20', x21', row', prow', h1, h2, h2a, h2b, h3⟩ := ih (j + 1) (by omega) (by omega) (sI (cellS i j x (B[j]'hjl) px y0 l a o t0)) (B[j]'hjl) o (cellS i j x (B[j]'hjl) px y0 l a o t0) p (sI j) (sI t0) (sC y0) _ _ (hr.set (by omega) hv) (hpr.set hjl hl) ho
      (fun _ => Or.inl ⟨hv, fun _ => ⟨hy, fun hi => hp3 hi (Nat.le_refl _) (by unfold jsB at *; omega) (by unfold jeB at *; omega)⟩⟩) (fun _ => ⟨_, rfl, hv⟩)
    refine ⟨v, l', a', t0', y0', x19', x20', x21', row', prow', h1, h2, h2a, by simpa using h2b, ?_⟩
    rw [loopR_succ_ap]
    simp only [setL_ap, List.set_cons_succ, List.set_cons_zero]
    rw [hs]
    exact h3

theorem osm_outstep {s1 s2 : Str} {la lb st d x px i kp : Nat} {js0 js1 je0 je1 off m : Int} {cur cur' x14 x15 x16 x17 x18 x19 x20 x21 x14' x15' x16' x17' x18' x19' x20' x21' : Option PV} {n : Nat} {row row' prow prow' : List PV} {mem : List MO} {cv : Int}
    (g1 : s1.cps[st + i]? = some x) (hst : st < 2 ^ 60) (hi : i < 2 ^ 60) (hd : d < 2 ^ 60) (e8 : js0 + (if off < i then 1 else 0) = js1) (e9 : je0 + (if je0 < lb then 1 else 0) = je1) (hrng : rng [.fl (.int js1), .fl (.int je1)] = some (js1, n))
    (hrow : loopR (setL 19) osm_in 1 n js1 ⟨[sS s1, sS s2, sI la, sI lb, sI st, sR mem.length, sR kp, sI d, sI off, sI js1, sI je1, sC x, cur, sI i, sC px, sC 32, sI i, sI i, sI 0, x19, x20, x21], memO mem kp prow row⟩ =
      some (.next, ⟨[sS s1, sS s2, sI la, sI lb, sI st, sR mem.length, sR kp, sI d, sI off, sI js1, sI je1, sC x, cur', sI i, x14', x15', x16', x17', x18', x19', x20', x21'], memO mem kp prow' row'⟩))
    (hc : row'[i + d]? = some (.fl (.int cv))) :
    osm_out (.int m) ⟨[sS s1, sS s2, sI la, sI lb, sI st, sR mem.length, sR kp, sI d, sI off, sI js0, sI je0, sC px, cur, sI i, x14, x15, x16, x17, x18, x19, x20, x21], memO mem kp prow row⟩ =
      some (if m < cv then .ret (.fl (.int (-1))) else .next, ⟨[sS s1, sS s2, sI la, sI lb, sI st, sR mem.length, sR kp, sI d, sI off, sI js1, sI je1, sC x, cur', sI i, x14', x15', x16', x17', x18', x19', x20', x21'], memO mem kp prow' row'⟩) := by
  have h1 : (0 : Int) ≤ (st : Int) + i := by omega
  have h2 : (st : Int) + i < 4611686018427387904 := by omega
  have h3 : (0 : Int) ≤ (i : Int) + d := by omega
  have h4 : (i : Int) + d < 4611686018427387904 := by omega
  obtain ⟨hc1, hc2⟩ := List.getElem?_eq_some_iff.mp hc
  have g2 := memO_getk mem kp
  unfold osm_out
  simp [getL_ap, setL_ap, cst_ap, binM_ap, cmpM_ap, andM_nil_ap, andM_cons_ap, orM_nil_ap, orM_cons_ap, iteM_ap, asg1_ap, asg2_ap, augM_ap, blkM_nil_ap, blkM_cons_ap, retM_ap, tupM_ap, seqM_nil_ap, seqM_cons_ap, flatL, subM_ap, subF_str, subF_list, setItemM_ap, setItemF_list, bltM_ap, blt_len_s, bin_add, bin_sub, cmp_eq_i, cmp_ne_i, cmp_lt_i, cmp_le_i, cmp_gt_i, cmp_ge_i, cmp_eq_c, cmp_ne_c, pd_True, pd_False, h1, h2, g1, toNat_add2, space_c]
  rw [bumpGt_ap (u := js0) (x := i) (y := off) rfl rfl rfl, e8]
  simp only [List.set_cons_succ, List.set_cons_zero]
  rw [bumpLt_ap (u := je0) (x := je0) (y := lb) rfl rfl rfl, e9]
  simp only [List.set_cons_succ, List.set_cons_zero]
  simp [getL_ap, setL_ap, cst_ap, binM_ap, cmpM_ap, andM_nil_ap, andM_cons_ap, orM_nil_ap, orM_cons_ap, iteM_ap, asg1_ap, asg2_ap, augM_ap, blkM_nil_ap, blkM_cons_ap, retM_ap, tupM_ap, seqM_nil_ap, seqM_cons_ap, flatL, subM_ap, subF_str, subF_list, setItemM_ap, setItemF_list, bltM_ap, blt_len_s, bin_add, bin_sub, cmp_eq_i, cmp_ne_i, cmp_lt_i, cmp_le_i, cmp_gt_i, cmp_ge_i, cmp_eq_c, cmp_ne_c, pd_True, pd_False, forRangeM_ap, hrng, hrow, h3, h4, toNat_add2, g2, hc1, hc2]
  by_cases h : m < cv
  · simp [h, pd_True, pd_False]
  · simp [h, pd_True, pd_False]

theorem osm_rows {s1 s2 : Str} {A B : List Nat} {st m d kp : Nat} (b : Band A B m d) (hA : ∀ (j : Nat) y, A[j]? = some y → s1.cps[st + j]? = some y) (hB : ∀ (j : Nat) y, B[j]? = some y → s2.cps[st + j]? = some y) (hla : A.length < 2 ^ 59) (hlen : B.length < 2 ^ 59) (hst : st < 2 ^ 59) {mem : List MO} (hkp : kp < mem.length) :
    ∀ (n i : Nat), i + n = A.length → ∀ px cur x13 x14 x15 x16 x17 x18 x19 x20 x21 row prow, RowB true A B m d i 0 row → PrB true A B m d i 0 prow → (i ≠ 0 → A[i - 1]? = some px) → (n = 0 → ∃ v, cur = sI v ∧ Cell true A B m d A.length B.length v) →
    ∃ fl l' row' prow', loopR (setL 13) (osm_out (.int m)) 1 n i ⟨[sS s1, sS s2, sI A.length, sI B.length, sI st, sR mem.length, sR kp, sI d, sI ((m : Int) - d), sI (i - 1 - (m - d) : Nat), sI (min B.length (m + i) : Nat), sC px, cur, x13, x14, x15, x16, x17, x18, x19, x20, x21], memO mem kp prow row⟩ = some (fl, ⟨l', memO mem kp prow' row'⟩) ∧
      prow'.length = prow.length ∧ (∀ k : Nat, k < prow'.length → ∃ v, prow'[k]? = some (.fl (.int v))) ∧
      ((fl = .ret (.fl (.int (-1))) ∧ bandR m (dist true A B) = -1) ∨ (fl = .next ∧ ∃ v, l'[12]? = some (sI v) ∧ Cell true A B m d A.length B.length v)) := by
  have hbl := b.len
  have hdm := b.dm
  have hmB := b.mB
  intro n
  induction n with
  | zero =>
    intro i hi px cur x13 x14 x15 x16 x17 x18 x19 x20 x21 row prow hr hpr hpx hc
    obtain ⟨v, rfl, hv⟩ := hc rfl
    exact ⟨.next, _, row, prow, rfl, rfl, fun k hk => let ⟨v, e, _⟩ := hpr.2 k hk; ⟨v, e⟩, Or.inr ⟨rfl, v, rfl, hv⟩⟩
  | succ n ih =>
    intro i hi px cur x13 x14 x15 x16 x17 x18 x19 x20 x21 row prow hr hpr hpx hc
    have hil : i < A.length := by omega
    have hx : A[i]? = some (A[i]'hil) := List.getElem?_eq_getElem _
    have g1 := hA i _ hx
    have hje : jsB m d i < jeB B m i := by unfold jsB jeB; omega
    have hst0 := b.start (sw := true) hil
    obtain ⟨v, l', a', t0', y0', x19', x20', x21', row', prow', hv, hr', hpr', hpl, hrow⟩ := osm_row (s1 := s1) (z2 := sI A.length) (z3 := sI B.length) (z7 := sI d) (z8 := sI ((m : Int) - d)) (z9 := sI (jsB m d i)) (z10 := sI (jeB B m i)) (mem := mem) b hB (by omega) (by omega) hx hpx hkp (jeB B m i - jsB m d i) (jsB m d i) (by omega) (Nat.le_refl _) cur 32 i i 0 x19 x20 x21 row prow
      ⟨hr.1, fun k hk => let ⟨u, q1, q2, q3, q4, q5⟩ := hr.2 k hk; ⟨u, q1, fun _ h => q2 (by omega) h, fun h1 h2 => absurd h1 (by omega), q4, fun _ h => q5 (by omega) h⟩⟩
      ⟨hpr.1, fun k hk => let ⟨u, q1, q2, q3⟩ := hpr.2 k hk; ⟨u, q1, fun h1 h2 => absurd h1 (by omega), fun h _ => q3 h (by omega)⟩⟩ hst0.1 (fun _ => by
        by_cases h0 : jsB m d i = 0
        · exact Or.inr (Or.inl ⟨h0, rfl⟩)
        · have h1 : 0 < jsB m d i := by omega
          have h2 : 0 < i := by unfold jsB at h1; omega
          exact Or.inr (Or.inr ⟨h1, b.js0 h1, by omega, by omega, by omega⟩)) (fun h => absurd h (by omega))
    have hfull := hr'.full b hil
    have hpfull := hpr'.full
    have hid : i + d < B.length := by omega
    obtain ⟨c, hc1, _, hc3, _, _⟩ := hr'.2 (i + d) hid
    have hcell := hc3 (by unfold jeB; omega) (by unfold jsB; omega)
    have e8 : ((i - 1 - (m - d) : Nat) : Int) + (if (m : Int) - d < i then 1 else 0) = (jsB m d i : Nat) := by unfold jsB; split <;> omega
    have e9 : ((min B.length (m + i) : Nat) : Int) + (if ((min B.length (m + i) : Nat) : Int) < B.length then 1 else 0) = (jeB B m i : Nat) := by unfold jeB; split <;> omega
    have hrng := rng2 (jsB m d i : Nat) (jeB B m i : Nat) (by omega) (by omega) (by unfold jsB; omega) (by unfold jeB; omega)
    rw [show ((jeB B m i : Nat) : Int) - (jsB m d i : Nat) = ((jeB B m i - jsB m d i : Nat) : Int) by omega, Int.toNat_natCast] at hrng
    have hstep := osm_outstep (s2 := s2) (la := A.length) (lb := B.length) (m := m) (x14 := x14) (x15 := x15) (x16 := x16) (x17 := x17) (x18 := x18) g1 (by omega) (by omega) (by omega) e8 e9 hrng hrow hc1
    by_cases hex : (m : Int) < c
    · refine ⟨.ret (.fl (.int (-1))), [sS s1, sS s2, sI A.length, sI B.length, sI st, sR mem.length, sR kp, sI d, sI ((m : Int) - d), sI (jsB m d i), sI (jeB B m i), sC (A[i]'hil), sI v, sI i, sC px, sC y0', sI l', sI a', sI t0', x19', x20', x21'], row', prow', ?_, hpl, fun k hk => let ⟨v, e, _⟩ := hpr'.2 k hk; ⟨v, e⟩, Or.inl ⟨rfl, b.exit hil hcell hex⟩⟩
      rw [loopR_succ_ap]
      simp only [setL_ap, List.set_cons_succ, List.set_cons_zero]
      rw [hstep, if_pos hex]
    · obtain ⟨fl, l2, row2, prow2, q1, q1a, q1b, q2⟩ := ih (i + 1) (by omega) (A[i]'hil) (sI v) (sI i) (sC px) (sC y0') (sI l') (sI a') (sI t0') x19' x20' x21' row' prow' hfull hpfull (fun _ => hx) (fun h => ⟨v, rfl, by
        have e1 : i + 1 = A.length := by omega
        have e2 : jeB B m i = B.length := by unfold jeB; omega
        rw [e1, e2] at hv; exact hv⟩)
      refine ⟨fl, l2, row2, prow2, ?_, by rw [q1a, hpl], q1b, q2⟩
      rw [loopR_succ_ap]
      simp only [setL_ap, List.set_cons_succ, List.set_cons_zero]
      rw [hstep, if_neg hex]
      have e3 : i + 1 - 1 - (m - d) = jsB m d i := by unfold jsB; omega
      have e4 : min B.length (m + (i + 1)) = jeB B m i := by unfold jeB; omega
      rw [e3, e4] at q1
      exact q1

theorem osm_eval {s1 s2 : Str} {A B : List Nat} {st m d : Nat} (b : Band A B m d) (hA : ∀ (j : Nat) y, A[j]? = some y → s1.cps[st + j]? = some y) (hB : ∀ (j : Nat) y, B[j]? = some y → s2.cps[st + j]? = some y) (hla : A.length ≤ 1000) (hlen : B.length ≤ 1000) (hst : st ≤ 1000)
    {x5 x7 x8 x9 x10 x11 x12 x13 x14 x15 x16 x17 x18 x19 x20 x21 : Option PV} {mem : List MO} {kp : Nat} {prow : List PV} (hkp : mem[kp]? = some (.list prow)) (hpl : B.length ≤ prow.length) (hpi : ∀ k : Nat, k < prow.length → ∃ v, prow[k]? = some (.fl (.int v))) :
    ∃ l row prow', osm_m (.int m) ⟨[sS s1, sS s2, sI A.length, sI B.length, sI st, x5, sR kp, x7, x8, x9, x10, x11, x12, x13, x14, x15, x16, x17, x18, x19, x20, x21], mem⟩ = some (.ret (.fl (.int (bandR m (dist true A B)))), ⟨l, mem.set kp (.list prow') ++ [row]⟩) ∧
      prow'.length = prow.length ∧ ∀ k : Nat, k < prow'.length → ∃ v, prow'[k]? = some (.fl (.int v)) := by
  have hbl := b.len
  have hmB := b.mB
  have hp := b.pos
  have hk : kp < mem.length := (List.getElem?_eq_some_iff.mp hkp).1
  let row0 : List PV := (List.range B.length).map fun k => .fl (.int (if k < m then k + 1 else m + 1 : Nat))
  have hpr : PrB true A B m d 0 0 prow := ⟨hpl, fun k hk => let ⟨v, e⟩ := hpi k hk; ⟨v, e, fun _ h => absurd h (by omega), fun h => absurd rfl h⟩⟩
  obtain ⟨fl, l', row', prow', hr, hl, hi, hfin⟩ := osm_rows b hA hB (by omega) (by omega) (by omega) hk A.length 0 (by omega) 32 (sI 0) x13 x14 x15 x16 x17 x18 x19 x20 x21 row0 prow (RowB.zero b) hpr (fun h => absurd rfl h) (fun h => absurd h (by omega))
  have e1 : min B.length (m + 0) = m := by omega
  have e2 : 0 - 1 - (m - d) = 0 := by omega
  have z : ((0 : Nat) : Int) = 0 := rfl
  rw [e1, e2, z] at hr
  have e0 : memO mem kp prow row0 = mem ++ [.list row0] := by
    unfold memO
    congr 1
    apply List.ext_getElem?
    intro k
    by_cases e : k = kp
    · subst e; rw [List.getElem?_set_self hk, hkp]
    · rw [List.getElem?_set_ne (fun h => e h.symm)]
  rw [e0] at hr
  have hcomp : compL (iteM (cmpM .Lt (getL 0) (cst (.fl (.int m)))) (binM .Add (getL 0) (cst (.fl (.int 1)))) (binM .Add (cst (.fl (.int m))) (cst (.fl (.int 1))))) B.length 0 = some row0 := by
    rw [compL_all (g := fun i => .int (if i < m then i + 1 else m + 1)) (fun _ => rfl) B.length 0 (fun k hk => by
      by_cases h : k < m
      · simp [getL_ap, setL_ap, cst_ap, binM_ap, cmpM_ap, andM_nil_ap, andM_cons_ap, orM_nil_ap, orM_cons_ap, iteM_ap, asg1_ap, asg2_ap, augM_ap, blkM_nil_ap, blkM_cons_ap, retM_ap, tupM_ap, seqM_nil_ap, seqM_cons_ap, flatL, subM_ap, subF_str, subF_list, setItemM_ap, setItemF_list, bltM_ap, blt_len_s, bin_add, bin_sub, cmp_eq_i, cmp_ne_i, cmp_lt_i, cmp_le_i, cmp_gt_i, cmp_ge_i, cmp_eq_c, cmp_ne_c, pd_True, pd_False, h]
      · simp [getL_ap, setL_ap, cst_ap, binM_ap, cmpM_ap, andM_nil_ap, andM_cons_ap, orM_nil_ap, orM_cons_ap, iteM_ap, asg1_ap, asg2_ap, augM_ap, blkM_nil_ap, blkM_cons_ap, retM_ap, tupM_ap, seqM_nil_ap, seqM_cons_ap, flatL, subM_ap, subF_str, subF_list, setItemM_ap, setItemF_list, bltM_ap, blt_len_s, bin_add, bin_sub, cmp_eq_i, cmp_ne_i, cmp_lt_i, cmp_le_i, cmp_gt_i, cmp_ge_i, cmp_eq_c, cmp_ne_c, pd_True, pd_False, h])]
    congr 1
    apply List.map_congr_left
    intro k hk
    show PV.fl (.int (if (0 : Int) + (k : Int) < m then (0 : Int) + (k : Int) + 1 else m + 1)) = PV.fl (.int ((if k < m then k + 1 else m + 1 : Nat) : Int))
    by_cases h : k < m
    · rw [if_pos h, if_pos (by omega)]; congr 2; omega
    · rw [if_neg h, if_neg (by omega)]; rfl
  have hB1 : B.length ≤ 1048576 := by omega
  have ed : (B.length : Int) - A.length = d := by omega
  have hm : osm_m (.int m) ⟨[sS s1, sS s2, sI A.length, sI B.length, sI st, x5, sR kp, x7, x8, x9, x10, x11, x12, x13, x14, x15, x16, x17, x18, x19, x20, x21], mem⟩ =
      blkM [forRangeM [getL 2] (setL 13) (osm_out (.int m)), retM (iteM (cmpM .LtE (getL 12) (cst (.fl (.int m)))) (getL 12) (cst (.fl (.int (-1)))))]
        ⟨[sS s1, sS s2, sI A.length, sI B.length, sI st, sR mem.length, sR kp, sI d, sI ((m : Int) - d), sI 0, sI m, sC 32, sI 0, x13, x14, x15, x16, x17, x18, x19, x20, x21], mem ++ [.list row0]⟩ := by
    show blkM [(asg1 (compM [(getL 3)] (iteM (cmpM .Lt (getL 0) (cst (.fl (.int m)))) (binM .Add (getL 0) (cst (.fl (.int 1)))) (binM .Add (cst (.fl (.int m))) (cst (.fl (.int 1)))))) (setL 5)),
      (asg1 (binM .Sub (getL 3) (getL 2)) (setL 7)), (asg1 (binM .Sub (cst (.fl (.int m))) (getL 7)) (setL 8)), (asg1 (cst (.fl (.int 0))) (setL 9)), (asg1 (cst (.fl (.int m))) (setL 10)), (asg1 (cst (.fl (.str (Str.ofString " ")))) (setL 11)), (asg1 (cst (.fl (.int 0))) (setL 12)),
      forRangeM [getL 2] (setL 13) (osm_out (.int m)), retM (iteM (cmpM .LtE (getL 12) (cst (.fl (.int m)))) (getL 12) (cst (.fl (.int (-1)))))] _ = _
    rw [blkM_cons_ap, asg1_ap, compM_ap]
    simp only [seqM_cons_ap, seqM_nil_ap, getL_ap, List.getElem?_cons_succ, List.getElem?_cons_zero, rng1 B.length (by omega : B.length < 2 ^ 61), hB1, if_true, hcomp, newL_ap, setL_ap, List.set_cons_succ, List.set_cons_zero]
    simp only [blkM_cons_ap _ (_ :: _), getL_ap, setL_ap, cst_ap, binM_ap, cmpM_ap, andM_nil_ap, andM_cons_ap, orM_nil_ap, orM_cons_ap, iteM_ap, asg1_ap, asg2_ap, augM_ap, blkM_nil_ap, blkM_cons_ap, retM_ap, tupM_ap, seqM_nil_ap, seqM_cons_ap, flatL, subM_ap, subF_str, subF_list, setItemM_ap, setItemF_list, bltM_ap, blt_len_s, bin_add, bin_sub, cmp_eq_i, cmp_ne_i, cmp_lt_i, cmp_le_i, cmp_gt_i, cmp_ge_i, cmp_eq_c, cmp_ne_c, pd_True, pd_False, List.getElem?_cons_succ, List.getElem?_cons_zero, List.set_cons_succ, List.set_cons_zero, ed, space_c]
  rw [hm]
  rcases hfin with ⟨rfl, hb⟩ | ⟨rfl, v, hv1, hv2⟩
  · refine ⟨l', .list row', prow', ?_, hl, hi⟩
    rw [hb]
    simp [getL_ap, setL_ap, cst_ap, binM_ap, cmpM_ap, andM_nil_ap, andM_cons_ap, orM_nil_ap, orM_cons_ap, iteM_ap, asg1_ap, asg2_ap, augM_ap, blkM_nil_ap, blkM_cons_ap, retM_ap, tupM_ap, seqM_nil_ap, seqM_cons_ap, flatL, subM_ap, subF_str, subF_list, setItemM_ap, setItemF_list, bltM_ap, blt_len_s, bin_add, bin_sub, cmp_eq_i, cmp_ne_i, cmp_lt_i, cmp_le_i, cmp_gt_i, cmp_ge_i, cmp_eq_c, cmp_ne_c, pd_True, pd_False, forRangeM_ap, rng1 A.length (by omega), hr, memO]
  · refine ⟨l', .list row', prow', ?_, hl, hi⟩
    have hf := b.fin hv2
    by_cases h : v ≤ (m : Int)
    · rw [(hf.1 h).2]
      simp [getL_ap, setL_ap, cst_ap, binM_ap, cmpM_ap, andM_nil_ap, andM_cons_ap, orM_nil_ap, orM_cons_ap, iteM_ap, asg1_ap, asg2_ap, augM_ap, blkM_nil_ap, blkM_cons_ap, retM_ap, tupM_ap, seqM_nil_ap, seqM_cons_ap, flatL, subM_ap, subF_str, subF_list, setItemM_ap, setItemF_list, bltM_ap, blt_len_s, bin_add, bin_sub, cmp_eq_i, cmp_ne_i, cmp_lt_i, cmp_le_i, cmp_gt_i, cmp_ge_i, cmp_eq_c, cmp_ne_c, pd_True, pd_False, forRangeM_ap, rng1 A.length (by omega), hr, hv1, h, memO]
    · rw [hf.2 h]
      simp [getL_ap, setL_ap, cst_ap, binM_ap, cmpM_ap, andM_nil_ap, andM_cons_ap, orM_nil_ap, orM_cons_ap, iteM_ap, asg1_ap, asg2_ap, augM_ap, blkM_nil_ap, blkM_cons_ap, retM_ap, tupM_ap, seqM_nil_ap, seqM_cons_ap, flatL, subM_ap, subF_str, subF_list, setItemM_ap, setItemF_list, bltM_ap, blt_len_s, bin_add, bin_sub, cmp_eq_i, cmp_ne_i, cmp_lt_i, cmp_le_i, cmp_gt_i, cmp_ge_i, cmp_eq_c, cmp_ne_c, pd_True, pd_False, forRangeM_ap, rng1 A.length (by omega), hr, hv1, h, memO]
end Mine

/-! Ref9 -/
namespace Mine
section
variable {C : Cx}

/-! a callable, as its callers see it -/
abbrev FM := List PV → List MO → Option (PV × List MO)
def CodeFun (C : Cx) (f : Value) (n : Nat) (m : FM) : Prop :=
  ∀ B : Around, B.handled = none → B.depth ≤ C.A.depth + 1 → B.units ≤ C.A.units + 1 → ∀ φ st s cvs vs v mem', Rep C φ st s → RVs φ s.heap cvs vs → vs.length = n → m vs st.mem = some (v, mem') →
    codeAny C.M B (.call f ⟨cvs, []⟩) (fun r s' => match r with | .ok (.ret cv) => PostV C φ s.heap { st with mem := mem' } v cv s' | .ok _ => False | .error _ => False) s
def Fun (C : Cx) (f : Value) (n : Nat) (m : FM) : Prop :=
  ∀ φ st s cvs vs v mem', Rep C φ st s → RVs φ s.heap cvs vs → vs.length = n → m vs st.mem = some (v, mem') →
    wpAny C.M C.A (call f cvs) (PostV C φ s.heap { st with mem := mem' } v) noE s
theorem CodeFun.toFun (O : C.Ok) {f : Value} {n : Nat} {m : FM} (F : CodeFun C f n m) : Fun C f n m := fun φ st s cvs vs v mem' R r hn hm =>
  wpAny_call (codeAny_mono (F C.A O.hh (by omega) (by omega) φ st s cvs vs v mem' R r hn hm) fun r s' z => by
    rcases r with e | (v | _ | _ | _) <;> first | exact z | exact z.elim)

/-- a def of the text, whose block is refined by m -/
theorem DefAt.fun (O : C.Ok) (hd1 : C.A.depth + 10 < recursionLimit) (hu1 : C.A.units + 68 < cLine) {a : Addr} {fd : FuncData} {body : List Stmt} (D : DefAt C a fd body) {n : Nat} {names : List Str} {cells : List PV → List (Str × FV)} {m : List PV → Mo Fl}
    {lp : List PV → List (Option PV)} (hB : ∀ vs, BodyOk C fd a names (cells vs) body (m vs)) (hnd : names.Nodup) (hloc : ∀ x ∈ names, fd.scope.names.lookup x = some .local)
    (hbind : ∀ φ s (cvs : List Value) vs, C.K.In s.heap → RVs φ s.heap cvs vs → vs.length = n → ∃ binds, BindsTo s fd ⟨cvs, []⟩ binds ∧
      (∀ n, ∀ x ∈ binds, fd.scope.names.lookup x.1 = some .local ∨ (fd.scope.names.lookup x.1 = some .cell ∧ ((cellsFrom (n + 1) fd.scope.names []).lookup x.1).isSome = true)) ∧
      (∃ lv, names.map (bindL (fun x => fd.scope.names.lookup x) binds fun _ => none) = lv ∧ Locs φ s.heap lv (lp vs)) ∧
      (∀ x f, (x, f) ∈ cells vs → fd.scope.names.lookup x = some .cell ∧ ∀ n, ∃ c v, (cellsFrom (n + 1) fd.scope.names []).lookup x = some c ∧ bindC (fun x => fd.scope.names.lookup x) binds (fun _ => none) x = some v ∧ RF [] v f)) :
    CodeFun C (.ref a) n (fun vs mem => (m vs ⟨lp vs, mem⟩).map fun r => (retV r.1, r.2.mem)) := by
  intro B h1 h2 h3 φ st s cvs vs v mem' R r hn hm
  obtain ⟨⟨fl, st₁⟩, e1, e2⟩ := Option.map_eq_some_iff.mp hm
  cases e2
  obtain ⟨binds, b1, b2, ⟨lv, b3, b4⟩, b5⟩ := hbind φ s cvs vs (O.kin.keeps R.keep) r hn
  exact code_ok O hd1 hu1 h1 h2 h3 D (hB vs) hnd hloc b2 R b1 b3 b4 b5 e1

/-! calls -/
theorem evalArgs_q {es : List Expr} {ms : List (Mo PV)} (h : EvEs C es ms) (f : Value) (pos : Pos) {φ st s vs st₁} (R : Rep C φ st s) (e1 : seqM ms st = some (vs, st₁)) {Q : Args → Shared → Prop}
    (k : ∀ cvs s', PostVs C φ s.heap st₁ vs cvs s' → Q ⟨cvs, []⟩ s') : wpAny C.M C.A (evalArgs f true (backTo pos (starEach es C.env)) []) Q noE s := by
  cases h with
  | nil => cases e1; exact evalArgs_nil3 (k [] s ⟨φ, ExtE.refl _ _, R, trivial⟩)
  | cons h1 hs h2 => exact evalArgs_all (.cons h1 hs h2) (List.cons_ne_nil _ _) f pos R e1 k

theorem EvEs.len {es : List Expr} {ms : List (Mo PV)} (h : EvEs C es ms) : es.length = ms.length := by
  induction h with
  | nil => rfl
  | cons _ _ _ ih => simp [ih]
theorem seqM_len : ∀ {ms : List (Mo PV)} {st : St} {vs : List PV} {st' : St}, seqM ms st = some (vs, st') → vs.length = ms.length
  | [], _, _, _, h => by cases h; rfl
  | _ :: _, _, _, _, h => by
    obtain ⟨v, st₁, _, h⟩ := bindM_some h
    obtain ⟨vs', st₂, h2, h⟩ := bindM_some h
    cases h
    simp [seqM_len h2]
theorem RVs.app {φ : List Addr} {h : Heap} : ∀ {vs : List Value} {fs : List PV} {us : List Value} {gs : List PV}, RVs φ h vs fs → RVs φ h us gs → RVs φ h (vs ++ us) (fs ++ gs)
  | [], [], _, _, _, y => y
  | _ :: _, _ :: _, _, _, x, y => ⟨x.1, RVs.app x.2 y⟩

/-- the values, then the callable -/
def runM (pf : List PV) (ms : List (Mo PV)) (m : FM) : Mo PV := bindM (seqM ms) fun vs st => (m (pf ++ vs) st.mem).map fun r => (r.1, { st with mem := r.2 })

theorem callWith_fun (O : C.Ok) {f : Value} (hk : keepIn C.K f = true) {n : Nat} {m : FM} (F : Fun C f n m) {es : List Expr} {ms : List (Mo PV)} (h : EvEs C es ms) {first : List Value} {pf : List PV} {pos : Pos} {φ st s} (R : Rep C φ st s)
    (hf : RVs φ s.heap first pf) (hn : pf.length + es.length = n) {v st'} (hm : runM pf ms m st = some (v, st')) : wpAny C.M C.A (callWith pos f first (backTo pos (starEach es C.env)) []) (PostV C φ s.heap st' v) noE s := by
  obtain ⟨vs, st₁, e1, hm⟩ := bindM_some hm
  obtain ⟨⟨v', mem'⟩, e2, e⟩ := Option.map_eq_some_iff.mp hm
  cases e
  have hlen := seqM_len e1
  have hlen2 := h.len
  refine callWith_of (P := C.K.In) (by rw [noStar h pos]; rfl) (keeps_K hk) (evalArgs_q h f pos R e1 fun cvs s₁ hp => ?_)
  obtain ⟨φ₁, X₁, R₁, v₁⟩ := hp
  refine ⟨O.kin.keeps R₁.keep, wpAny_mono (F φ₁ st₁ s₁ _ _ v' mem' R₁ ((hf.mono X₁.pre X₁.tup).app v₁) (by simp; omega) e2) (fun _ _ x => x.trans X₁) fun _ _ x => x⟩

theorem EvE.call (O : C.Ok) {x : Str} {f : Value} (G : IsGlobal C x f) (hd : (x == ("__debug__" : Str)) = false) (hk : keepIn C.K f = true) {n : Nat} {m : FM} (F : Fun C f n m) {es : List Expr} {ms : List (Mo PV)} (h : EvEs C es ms) (hn : es.length = n) {p pos : Pos} :
    EvE C (.Call (.Name x p) es [] pos) (runM [] ms m) := by
  intro φ st s v st' R hm
  exact wpAny_Call_NameR (G.eval O R hd (callWith_fun O hk F h R (first := []) (pf := []) trivial (by simpa using hn) hm))

/-! attributes -/
theorem Ents.look {φ : List Addr} {des : List DictEntry} {es : List (Str × FV)} (x : Ents φ des es) (name : Str) : match es.lookup name with
    | some f => ∃ v, W.getL name des = some (some v) ∧ RF φ v f
    | none => W.getL name des = some none := by
  have hr : des.any (·.refKey) = false := by
    induction x with
    | nil => rfl
    | cons hk _ _ ih => rw [List.any_cons, ih, Bool.or_false]; unfold DictEntry.refKey; rw [hk]
  unfold W.getL
  rw [hr]
  clear hr
  induction x with
  | nil => rfl
  | @cons e des n f fs tk hk hv _ ih =>
    rw [List.lookup_cons, List.find?_cons]
    have e1 : e.key.isStr name = (name == n) := by
      rw [hk]
      show (n == name) = (name == n)
      rw [Bool.eq_iff_iff, beq_iff_eq, beq_iff_eq]; exact eq_comm
    rw [e1]
    cases name == n with
    | true => exact ⟨e.val, rfl, hv⟩
    | false => exact ih

theorem RF.handed {φ : List Addr} {v : Value} {f : FV} (x : RF φ v f) : handedIn v = true := by
  cases f with
  | none => rw [show v = _ from x]; rfl
  | bool b => rw [show v = _ from x]; rfl
  | int i => obtain ⟨t, rfl⟩ := x; rfl
  | str i => obtain ⟨t, rfl⟩ := x; rfl
  | ref k => obtain ⟨a, _, rfl⟩ := x; rfl
  | obj a => rw [show v = _ from x]; rfl

theorem Rep.instAt {φ : List Addr} {st : St} {s : Shared} (R : Rep C φ st s) {k kd : Nat} {a cl : Addr} {fs : List (Str × FV)} (hm : st.mem[k]? = some (.inst cl kd)) (ha : φ[k]? = some a) (hd : st.mem[kd]? = some (.adict fs)) :
    ∃ dx des n, φ[kd]? = some dx ∧ W.InstAt s.heap a ⟨.ref cl, some dx, .plain, #[]⟩ cl (some (dictOf des n)) ∧ s.heap.get? dx = some (dictOf des n) ∧ Ents φ des fs := by
  obtain ⟨dx, h1, h2⟩ := R.mem k _ a hm ha
  obtain ⟨des, n, h3, h4⟩ := R.mem kd _ dx hd h1
  exact ⟨dx, des, n, h1, ⟨h2, rfl, rfl, h3⟩, h3, h4⟩

/-- an instance's own attribute may be read -/
structure AttrOk (K : Frag) (cl : Addr) (name : Str) : Prop where
  get : plainGet K cl name = true
  dict : hasDictIn K cl = true
  attr : ∃ a, findIn K (.ref cl) name = some a ∧ noGet K a = true

def attrF (cls : List Addr) (st : St) (name : Str) : PV → Option PV
  | .fl (.ref k) => match st.mem[k]? with
    | some (.inst cl kd) => if cls.contains cl then (match st.mem[kd]? with | some (.adict fs) => (fs.lookup name).map .fl | _ => none) else none
    | _ => none
  | _ => none
def attrM (cls : List Addr) (m : Mo PV) (name : Str) : Mo PV := bindM m fun v st => (attrF cls st name v).map (·, st)

theorem attrF_ok {cls : List Addr} {name : Str} (hc : ∀ cl ∈ cls, AttrOk C.K cl name) (O : C.Ok) {φ st s} (R : Rep C φ st s) {cv : Value} {v r : PV} (hv : RV φ s.heap cv v) (h : attrF cls st name v = some r) {expr : Bool} :
    wpAny C.M C.A (getAttr cv name expr) (PostV C φ s.heap st r) noE s := by
  unfold attrF at h
  split at h
  · rename_i k
    obtain ⟨a, ha, rfl⟩ := hv
    split at h
    · rename_i cl kd hm
      split at h
      · rename_i hcl
        split at h
        · rename_i fs hd
          obtain ⟨f, e1, e2⟩ := Option.map_eq_some_iff.mp h
          subst e2
          obtain ⟨dx, des, n, h1, I, h3, h4⟩ := R.instAt hm ha hd
          have hl := h4.look name
          rw [e1] at hl
          obtain ⟨u, hu, hr⟩ := hl
          obtain ⟨g1, g2, at_, g3, g4⟩ := hc cl (List.contains_iff_mem.mp hcl)
          exact get_value (O.kin.keeps R.keep) I (plainGet_of g1).1 (findObj_own g2 g3 g4 hu) hr.handed ⟨φ, ExtE.refl _ _, R.toks _, hr⟩
        · cases h
      · cases h
    · cases h
  · cases h

theorem EvE.attr (O : C.Ok) {cls : List Addr} {name x : Str} {xp pos : Pos} {m : Mo PV} (hm : EvE C (.Name x xp) m) (hc : ∀ cl ∈ cls, AttrOk C.K cl name) : EvE C (.Attribute (.Name x xp) name pos) (attrM cls m name) := by
  intro φ st s r st' R h
  obtain ⟨v, st₁, h1, h⟩ := bindM_some h
  obtain ⟨r', h2, e⟩ := Option.map_eq_some_iff.mp h
  cases e
  refine Attribute_name (wpAny_mono (hm φ st s v _ R h1) (fun cv s₁ hp => ?_) fun _ _ x => x)
  obtain ⟨φ₁, X₁, R₁, v₁⟩ := hp
  exact wpAny_mono (attrF_ok hc O R₁ v₁ h2) (fun _ _ x => x.trans X₁) fun _ _ x => x

/-- an instance's own attribute may be stored to -/
structure StoreOk (K : Frag) (cl : Addr) (name : Str) : Prop where
  set : findIn K (.ref cl) "__setattr__" = some (some (.builtin "object.__setattr__"))
  over : plainOver K cl = true
  taker : takerIn K cl name = some none
  dict : hasDictIn K cl = true

def putF (name : Str) (v : FV) : List (Str × FV) → List (Str × FV)
  | [] => [(name, v)]
  | (n, f) :: r => if n == name then (n, v) :: r else (n, f) :: putF name v r
theorem putF_len (name : Str) (v : FV) : ∀ fs, (putF name v fs).length ≤ fs.length + 1
  | [] => by simp [putF]
  | (n, f) :: r => by
    unfold putF
    split
    · simp
    · have := putF_len name v r; simp; omega
theorem Ents.put {φ : List Addr} {name : Str} {hsh : Int} {tk : Tok} {cv : Value} {v : FV} (hv : RF φ cv v) {des : List DictEntry} {es : List (Str × FV)} (x : Ents φ des es) : Ents φ (putL name hsh (.str name tk) cv des) (putF name v es) := by
  induction x with
  | nil => exact .cons rfl hv .nil
  | @cons e des n f fs tk' hk hv' hr ih =>
    unfold putL putF
    have e1 : e.key.isStr name = (n == name) := by rw [hk]; rfl
    rw [e1]
    cases n == name with
    | true => exact .cons hk hv hr
    | false => exact .cons hk hv' ih
end
end Mine

/-! Ref10 -/
namespace Mine
section
variable {C : Cx}

/-- all objects but two -/
def allBut (h : Heap) (L d : Addr) : List (Addr × Obj) := (List.range h.objs.size).filterMap fun b => if b = L ∨ b = d then none else (h.get? b).map fun o => (b, o)
theorem mem_allBut {h : Heap} {L d b : Addr} {o : Obj} : (b, o) ∈ allBut h L d ↔ b ≠ L ∧ b ≠ d ∧ h.get? b = some o := by
  unfold allBut
  rw [List.mem_filterMap]
  constructor
  · rintro ⟨c, hc, e⟩
    split at e
    · cases e
    · rename_i hn
      obtain ⟨o', h1, h2⟩ := Option.map_eq_some_iff.mp e
      cases h2
      exact ⟨fun h => hn (.inl h), fun h => hn (.inr h), h1⟩
  · rintro ⟨h1, h2, h3⟩
    exact ⟨b, List.mem_range.mpr (Heap.lt_size h3), by rw [if_neg (fun h => h.elim h1 h2), h3]; rfl⟩

/-- an own object turns, the locals mean the same -/
theorem Rep.updateL (O : C.Ok) {φ : List Addr} {st : St} {s : Shared} (R : Rep C φ st s) {k : Nat} {a : Addr} {mo : MO} (ha : φ[k]? = some a) {h' : Heap} {tk : Nat} {m : Str → Option Value} (hn : s.heap.Ns C.env.locals m)
    (hm : ∀ (k : Nat) x pv, C.names[k]? = some x → st.loc[k]? = some (some pv) → ∃ v, m x = some v ∧ RV φ s.heap v pv) (hn' : h'.Ns C.env.locals m)
    (hk : ∀ b o, b ≠ C.env.locals → b ≠ a → s.heap.get? b = some o → h'.get? b = some o)
    (hnt : ∀ items, ¬ s.heap.IsTuple a items) (hmo : Keep s.heap h' → MOAt φ h' a mo) : Rep C φ (setMem k mo st) { s with heap := h', toks := tk } ∧ Ext C φ s.heap φ h' := by
  have hf := R.fresh a (List.mem_of_getElem? ha)
  have hLt : ∀ items, ¬ s.heap.IsTuple C.env.locals items := by
    rintro items ⟨o, ho, _, n, hd⟩
    obtain ⟨o', es, ep, ho', hd', _⟩ := hn
    rw [ho] at ho'; cases ho'
    rw [hd] at hd'; cases hd'
  have K : Keep s.heap h' := fun b items x => x.at fun o e => hk b o (fun h => hLt items (h ▸ x)) (fun h => hnt items (h ▸ x)) e
  refine ⟨⟨let ⟨_, _, e⟩ := R.same; ⟨h', tk, by rw [e]⟩, fun b o e => hk b o (fun hb => by subst hb; rw [O.hL] at e; cases e) (fun hb => by subst hb; rw [hf.1] at e; cases e) (R.keep b o e), R.len, ?_, R.nd, by simp [setMem, R.memlen], ?_, R.fresh⟩,
    List.prefix_rfl, K, fun b o h1 h2 e => hk b o h2 (fun hb => h1 (by subst hb; exact List.mem_of_getElem? ha)) e, fun _ x y => absurd x y⟩
  · exact ⟨m, hn', fun k x pv e1 e2 => let ⟨v, e, r⟩ := hm k x pv e1 e2; ⟨v, e, r.mono (pre_refl _) K⟩⟩
  · intro k' mo' a' e1 e2
    by_cases hkk : k' = k
    · subst hkk
      rw [ha] at e2; cases e2
      have hlt : k' < st.mem.length := by rw [← R.memlen]; exact (List.getElem?_eq_some_iff.mp ha).1
      simp only [setMem, List.getElem?_set_self hlt] at e1
      cases e1
      exact hmo K
    · simp only [setMem] at e1
      rw [List.getElem?_set_ne (fun e => hkk e.symm)] at e1
      have hne : a' ≠ a := fun e => by
        subst e
        obtain ⟨l1, g1⟩ := List.getElem?_eq_some_iff.mp e2
        obtain ⟨l2, g2⟩ := List.getElem?_eq_some_iff.mp ha
        exact hkk ((List.getElem_inj R.nd).mp (g1.trans g2.symm))
      exact (R.mem k' mo' a' e1 e2).mono (pre_refl _) K fun o e => hk a' o (R.fresh a' (List.mem_of_getElem? e2)).2 hne e

def setAttrF (cls : List Addr) (name : Str) (pv : PV) (o : PV) (st : St) : Option St := match o, pv with
  | .fl (.ref k), .fl f => match st.mem[k]? with
    | some (.inst cl kd) => if cls.contains cl then (match st.mem[kd]? with | some (.adict fs) => if fs.length < 100 then some (setMem kd (.adict (putF name f fs)) st) else none | _ => none) else none
    | _ => none
  | _, _ => none

theorem setAttr_ok {cls : List Addr} {name : Str} (hc : ∀ cl ∈ cls, StoreOk C.K cl name) (O : C.Ok) {φ st s} (R : Rep C φ st s) {co cv : Value} {o v : PV} {st' : St} (ho : RV φ s.heap co o) (hv : RV φ s.heap cv v) (h : setAttrF cls name v o st = some st') :
    wpAny C.M C.A (setAttr co name cv) (PostU C φ s.heap st') noE s := by
  unfold setAttrF at h
  split at h
  · rename_i k f
    obtain ⟨a, ha, rfl⟩ := ho
    split at h
    · rename_i cl kd hm
      split at h
      · rename_i hcl
        split at h
        · rename_i fs hd
          split at h
          · rename_i hlen
            cases h
            obtain ⟨dx, des, n, h1, I, h3, h4⟩ := R.instAt hm ha hd
            obtain ⟨g1, g2, g3, g4⟩ := hc cl (List.contains_iff_mem.mp hcl)
            obtain ⟨mL, hn, hmL⟩ := R.loc
            have X := O.kin.keeps R.keep
            have hdL : dx ≠ C.env.locals := (R.fresh dx (List.mem_of_getElem? h1)).2
            have F : Fr { s.heap with objs := #[] } C.env.locals s.heap mL := ⟨hn, fun b o e => by
              have e' : (#[] : Array Obj)[b]? = some o ∨ False := by
                left
                unfold Heap.get? at e
                simp at e
              simp at e', Nat.zero_le _⟩
            have none0 : ∀ b, ({ s.heap with objs := #[] } : Heap).get? b = none := fun b => by
              cases e : ({ s.heap with objs := #[] } : Heap).get? b with
              | none => rfl
              | some o => exact absurd (Heap.lt_size e) (Nat.not_lt_zero _)
            have N : News { s.heap with objs := #[] } C.env.locals s.heap (allBut s.heap C.env.locals dx ++ (dx, dictOf des n) :: []) := by
              intro p hp
              rcases List.mem_append.mp hp with hp | hp
              · obtain ⟨q1, q2, q3⟩ := mem_allBut.mp hp
                exact ⟨q3, q1, none0 _⟩
              · rw [List.mem_singleton.mp hp]; exact ⟨h3, hdL, none0 _⟩
            have hlk := h4.look name
            have hsome : (lookIn name (dictOf des n)).isSome = true := by
              rw [lookIn_dict]
              cases e : fs.lookup name with
              | none => rw [e] at hlk; rw [hlk]; rfl
              | some f' => rw [e] at hlk; obtain ⟨u, hu, _⟩ := hlk; rw [hu]; rfl
            have hel : ∀ {fs : List (Str × FV)} {des : List DictEntry}, Ents φ des fs → des.length = fs.length := fun x => by induction x with
              | nil => rfl
              | cons _ _ _ ih => simp [ih]
            refine set_plain X I g1 (osa_dict (s := { s with toks := s.toks + 1 }) F N X I rfl g2 g3 g4 hsome (fun p hp => (mem_allBut.mp hp).2.1) (fun p hp => nomatch hp) (putName_dict _ _ _ _ _ _) rfl
              (by
                have q1 := hel (h4.put (hsh := PyData.keyHash C.w.params name) (tk := s.toks + 1) (name := name) hv)
                have q2 := putF_len name f fs
                rw [q1]; omega) fun h' F' N' => ?_)
            have hk : ∀ b o, b ≠ C.env.locals → b ≠ dx → s.heap.get? b = some o → h'.get? b = some o := fun b o q1 q2 q3 => (N' (b, o) (List.mem_append_left _ (mem_allBut.mpr ⟨q1, q2, q3⟩))).1
            have hnew := (N' (dx, _) (List.mem_append_right _ (List.mem_singleton.mpr rfl))).1
            have W := R.updateL O (tk := s.toks + 1 + 1) h1 hn hmL F'.ns hk (fun items => by
              rintro ⟨o, ho, hcl, _⟩
              rw [h3] at ho; cases ho
              exact absurd (Value.type.inj hcl) (by decide)) (mo := .adict (putF name f fs)) fun K => ⟨_, _, hnew, h4.put hv⟩
            exact ⟨φ, W.2, W.1⟩
          · cases h
        · cases h
      · cases h
    · cases h
  · cases h

def setAttrM (cls : List Addr) (mo : Mo PV) (name : Str) (v : PV) : Mo Unit := bindM mo fun o st => (setAttrF cls name v o st).map ((), ·)
theorem EvTg.attr (O : C.Ok) {cls : List Addr} {name : Str} {o : Expr} {pos : Pos} {mo : Mo PV} (ho : EvE C o mo) (hc : ∀ cl ∈ cls, StoreOk C.K cl name) : EvTg C (.Attribute o name pos) (setAttrM cls mo name) := by
  intro φ st s cv v st' R hv hm
  obtain ⟨ov, st₁, h1, hm⟩ := bindM_some hm
  obtain ⟨st₂, h2, e⟩ := Option.map_eq_some_iff.mp hm
  cases e
  rw [arm_assign_Attribute]
  refine wpAny_bind (wpAny_holding (wpAny_mono (ho φ st s ov st₁ R h1) (fun co s₁ hp => ?_) fun _ _ x => x))
  obtain ⟨φ₁, X₁, R₁, v₁⟩ := hp
  refine wpAny_bind (wpAny_standAt (wpAny_bind (wpAny_holding (wpAny_mono (setAttr_ok hc O R₁ v₁ (hv.mono X₁.pre X₁.tup) h2) (fun _ s₂ hp => ?_) fun _ _ x => x))))
  exact wpAny_release (hp.trans X₁.toExt)
end
end Mine

/-! Ref11 -/
namespace Mine
section
variable {C : Cx}

/-! methods -/
inductive MethKind (C : Cx) (cl : Addr) (name : Str) (n : Nat) : Bool → FM → Prop
  | plain {f : Addr} {m : FM} : findIn C.K (.ref cl) name = some (some (.ref f)) → isFn C.K (.ref f) = true → keepIn C.K (.ref f) = true → Fun C (.ref f) (n + 1) m → MethKind C cl name n false m
  | static {p : Addr} {f : Value} {rest : List Value} {m : FM} : findIn C.K (.ref cl) name = some (some (.ref p)) → typeIn C.K (.ref p) = some (.type "staticmethod") → specialIn C.K (.ref p) "__get__" = some (some (.builtin "staticmethod.__get__")) →
      takesIn C.K (.ref p) = some false → recIn C.K p "staticmethod" = some (f :: rest) → handedIn f = true → keepIn C.K f = true → copiedNames.contains name = false → Fun C f n m → MethKind C cl name n true m
structure MethOk (C : Cx) (cl : Addr) (name : Str) (n : Nat) (b : Bool) (m : FM) : Prop where
  get : plainGet C.K cl name = true
  dict : hasDictIn C.K cl = true
  kind : MethKind C cl name n b m

theorem findObj_bind {K : Frag} {cl : Addr} {od : Obj} {name : Str} {a g : Value} (hh : hasDictIn K cl = true) (ha : findIn K (.ref cl) name = some (some a)) (hg : specialIn K a "__get__" = some (some g)) (ht : takesIn K a = some false)
    (hc : copiedNames.contains name = false) (hl : lookIn name od = some none) : findObj K cl (some od) name = some (.bind g a) := by
  obtain ⟨cd, hc', hd⟩ := any_some hh
  unfold findObj
  have ho : W.ownOf cd (some od) name = some none := by unfold W.ownOf; rw [if_pos hd]; exact hl
  rw [hc', Option.bind_some, ha, Option.bind_some]
  simp only [hg, Option.bind_some, ht, ho, hc, Bool.false_and, Bool.false_eq_true, if_false]

def methM (tab : Addr → Option (Bool × FM)) (mo : Mo PV) (name : Str) (ms : List (Mo PV)) : Mo PV := bindM mo fun v st => match v with
  | .fl (.ref k) => match st.mem[k]? with
    | some (.inst cl kd) => match st.mem[kd]? with
      | some (.adict fs) => match fs.lookup name with
        | none => match tab cl with
          | some (true, m) => runM [] ms m st
          | some (false, m) => runM [v] ms m st
          | none => none
        | some _ => none
      | _ => none
    | _ => none
  | _ => none

theorem EvE.meth (O : C.Ok) {tab : Addr → Option (Bool × FM)} {o : Expr} {mo : Mo PV} {name : Str} {es : List Expr} {ms : List (Mo PV)} {apos pos : Pos} {n : Nat} (hn : es.length = n) (ht : ∀ cl b m, tab cl = some (b, m) → MethOk C cl name n b m)
    (ho : EvE C o mo) (h : EvEs C es ms)
    (he : ∃ pl, eval (.Call (.Attribute o name apos) es [] pos) C.env = (do
      let ov ← eval o C.env
      standAt apos.atName
      let (f, first) ← holding [ov] (getMethod ov name pl)
      callWith pos f first (backTo pos (starEach es C.env)) (backToKw pos (keywordEach [] C.env)))) :
    EvE C (.Call (.Attribute o name apos) es [] pos) (methM tab mo name ms) := by
  intro φ st s r st' R hm
  obtain ⟨pl, he⟩ := he
  obtain ⟨v, st₁, e1, hm⟩ := bindM_some hm
  refine methodCall_KW (pl := pl) (wpAny_mono (ho φ st s v st₁ R e1) (fun cv s₁ hp => ?_) fun _ _ x => x) he
  obtain ⟨φ₁, X₁, R₁, v₁⟩ := hp
  split at hm
  · rename_i k
    split at hm
    · rename_i cl kd hk
      split at hm
      · rename_i fs hd
        split at hm
        · rename_i hlk
          obtain ⟨a, ha, rfl⟩ := id v₁
          obtain ⟨dx, des, dn, h1, I, h3, h4⟩ := R₁.instAt hk ha hd
          have hl := h4.look name
          rw [hlk] at hl
          have X := O.kin.keeps R₁.keep
          split at hm
          · rename_i m htab
            obtain ⟨q1, q2, q3⟩ := ht cl true m htab
            cases q3 with
            | static k1 k2 k3 k4 k5 k6 k7 k8 F =>
              refine method_usual X I (plainGet_of q1).1 (plainGet_of q1).2 k1 (by rw [Option.all_some, k2]; rfl) ?_
              refine get_bind X I (plainGet_of q1).1 (findObj_bind q2 k1 k3 k4 k8 (by rw [lookIn_dict]; exact hl)) (plainGet_of q1).2 (wpAny_call (sm_get (s := { s₁ with toks := s₁.toks + 1 }) X k5 (handed_on k6 ?_)))
              exact wpAny_mono (callWith_fun O k7 F h (R₁.toks _) (first := []) (pf := []) trivial (by simpa using hn) hm) (fun _ _ x => PostV.trans X₁ x) fun _ _ x => x
          · rename_i m htab
            obtain ⟨q1, q2, q3⟩ := ht cl false m htab
            cases q3 with
            | plain k1 k2 k3 F =>
              refine method_fn X I (plainGet_of q1).1 (plainGet_of q1).2 k1 (beq_iff_eq.mp k2) (by show (lookIn name (dictOf des dn)).map _ = _; rw [lookIn_dict, hl]; rfl) ?_
              exact wpAny_mono (callWith_fun O k3 F h R₁ (first := [.ref a]) (pf := [.fl (.ref k)]) ⟨v₁, trivial⟩ (by simp; omega) hm) (fun _ _ x => PostV.trans X₁ x) fun _ _ x => x
          · cases hm
        · cases hm
      · cases hm
    · cases hm
  · cases hm

/-! an instance is made -/
def makeF (cl : Addr) (mI : FM) : FM := fun vs mem => match mI (.fl (.ref (mem.length + 1)) :: vs) ((mem ++ [.adict []]) ++ [.inst cl mem.length]) with
  | some (.fl .none, mem') => some (.fl (.ref (mem.length + 1)), mem')
  | _ => none
theorem make_fun (O : C.Ok) {cl fI : Addr} {n : Nat} {mI : FM} (hm : makesIn C.K cl = true) (hi : findIn C.K (.ref cl) "__init__" = some (some (.ref fI))) (hf : typeIn C.K (.ref fI) = some (.type "function")) (FI : CodeFun C (.ref fI) (n + 1) mI) :
    Fun C (.ref cl) n (makeF cl mI) := by
  intro φ st s cvs vs v mem' R r hn h
  obtain ⟨loc, mem⟩ := st
  obtain ⟨hp₀, g₀, d₀, t₀, os₀⟩ := s
  unfold makeF at h
  dsimp only at h
  split at h
  · rename_i mem'' hI
    cases h
    have X := O.kin.keeps R.keep
    have W1 := R.alloc (o := emptyDict) (mo := .adict []) fun φ' _ => ⟨[], 0, Heap.get?_push_size _ rfl, .nil⟩
    obtain ⟨R1, X1⟩ := W1
    have hlast1 : (φ ++ [hp₀.objs.size])[mem.length]? = some hp₀.objs.size := by rw [← R.memlen]; simp
    have W2 := R1.alloc (o := instObj cl hp₀.objs.size) (mo := .inst cl mem.length) fun φ' hp => ⟨hp₀.objs.size, prefix_get hp hlast1, Heap.get?_push_size _ rfl⟩
    obtain ⟨R2, X2⟩ := W2
    have hsz : (hp₀.push emptyDict).objs.size = hp₀.objs.size + 1 := Heap.size_push _ _
    simp only [hsz] at R2 X2
    have hlast2 : ((φ ++ [hp₀.objs.size]) ++ [hp₀.objs.size + 1])[mem.length + 1]? = some (hp₀.objs.size + 1) := by rw [← R.memlen]; simp
    have XX := X1.trans X2
    refine wpAny_call (make_core (A := C.A) (makes_of X hm) (looks_findIn X hi) (fun self => bind_fn X self hf) (.inl rfl) ?_)
    refine codeAny_mono (FI (C.A.under (.builtin "type.__call__" ⟨.ref cl :: cvs, []⟩)) O.hh (Nat.le_refl _) (Nat.le_refl _) _ _ _ (.ref (hp₀.objs.size + 1) :: cvs) (.fl (.ref (mem.length + 1)) :: vs) (.fl .none) _ R2 ⟨⟨_, hlast2, rfl⟩, r.mono XX.pre XX.tup⟩ (by simp [hn]) hI) fun r s' z => ?_
    rcases r with e | (u | _ | _ | _) <;> first | exact z.elim | skip
    obtain ⟨φ', Y, R', hv⟩ := z
    refine ⟨hv, φ', XX.trans Y, R', _, prefix_get Y.pre hlast2, rfl⟩
  · cases h
end
end Mine

/-! Ref12 -/
namespace Mine
section
variable {C : Cx}

/-! a class's own value -/
theorem EvE.clsAttr (O : C.Ok) {x name : Str} {xp pos : Pos} {cl a : Addr} {mc : Value} (G : IsGlobal C x (.ref cl)) (hd : (x == ("__debug__" : Str)) = false) (hr : readsIn C.K cl mc = true) (e : findCls C.K (.ref cl) mc name = some (.val (.ref a))) :
    EvE C (.Attribute (.Name x xp) name pos) (cst (.fl (.obj a))) := by
  intro φ st s v st' R hm
  cases hm
  refine Attribute_name (G.eval O R hd (cls_value (O.kin.keeps R.keep) hr e rfl ?_))
  exact ⟨φ, ExtE.refl _ _, R.toks _, rfl⟩

/-! objects that are compared as themselves -/
structure SelfEq (K : Frag) (cl : Addr) : Prop where
  eq : findIn K (.ref cl) "__eq__" = some (some (.builtin "object.__eq__"))
  obj : mroIn K cl (.type "object") = some true
def Member (K : Frag) (cl a : Addr) : Prop := ∃ dx sl od, K.lookup a = some ⟨.ref cl, some dx, .plain, sl⟩ ∧ K.lookup dx = some od

theorem eq_bound {cl x : Addr} {ox : Obj} {od : Option Obj} {E : Value → Shared → Prop} {s : Shared} {K : Frag} {prog : Program} {w : World} {A : Around} (X : K.In s.heap) (S : SelfEq K cl) (I : W.InstAt s.heap x ox cl od) {b : Value} {Q : Option Value → Shared → Prop}
    (h : wpAny (model prog w) A (call (.builtin "object.__eq__") [.ref x, b]) (fun v s' => match v with | .notImplemented => Q none s' | v => Q (some v) s') E s) :
    wpAny (model prog w) A (tryCompare (.ref x) "__eq__" b) Q E s := by
  unfold tryCompare
  refine wpAny_bind ?_
  simp only [callSpecialIfBound?, bindSpecialIfBound?]
  refine wpAny_holding (wpAny_bind (wpAny_bind (wpAny_bind (I.type.here ((looks_findIn X S.eq).here ?_)))))
  simp only [PySem.F.cmp_object.eq.bind]
  have fin : wpAny (model prog w) A (call (.builtin "object.__eq__") ([.ref x] ++ [b]) >>= fun v => pure (some v)) (fun r s' => wpAny (model prog w) A (match r with | some .notImplemented | none => pure none | some v => pure (some v)) Q E s') E s :=
    wpAny_bind (wpAny_mono h (fun v s' h' => wpAny_pure (by cases v <;> exact wpAny_pure h')) fun _ _ h' => h')
  refine wpAny_bind (wpAny_askSetting (wpAny_ite ?_))
  split
  · exact wpAny_bind (wpAny_pure (wpAny_pure fin))
  · exact wpAny_tryCatch (wpAny_bind (wpAny_pure (wpAny_pure fin)))

theorem eq_call_same {cl x : Addr} {ox : Obj} {od : Option Obj} {E : Value → Shared → Prop} {s : Shared} {K : Frag} {prog : Program} {w : World} {A : Around} (X : K.In s.heap) (S : SelfEq K cl) (I : W.InstAt s.heap x ox cl od) {Q : Value → Shared → Prop}
    (h : Q (.bool true) s) : wpAny (model prog w) A (call (.builtin "object.__eq__") [.ref x, .ref x]) Q E s := by
  have sub : Looks (model prog w) s.heap (isInstance (.ref x) (.type "object")) true := I.type.andThen (looks_mroIn X S.obj)
  exact wpAny_call (codeAny_call_builtin PySem.F.cmp_object.eq.plain PySem.F.cmpEntry_eq (check_slot PySem.F.cmpKind_eq PySem.F.cmpSplit_eq sub (PySem.F.cmpArgs_eq _ _) (objEq_entry_same h)))
theorem eq_call_other {cl x y : Addr} {ox oy : Obj} {od : Option Obj} {E : Value → Shared → Prop} {s : Shared} {K : Frag} {prog : Program} {w : World} {A : Around} (X : K.In s.heap) (S : SelfEq K cl) (I : W.InstAt s.heap x ox cl od) (hxy : x ≠ y)
    (hy : s.heap.get? y = some oy) {Q : Value → Shared → Prop} (h : Q .notImplemented s) : wpAny (model prog w) A (call (.builtin "object.__eq__") [.ref x, .ref y]) Q E s := by
  have sub : Looks (model prog w) s.heap (isInstance (.ref x) (.type "object")) true := I.type.andThen (looks_mroIn X S.obj)
  exact wpAny_call (codeAny_call_builtin PySem.F.cmp_object.eq.plain PySem.F.cmpEntry_eq (check_slot PySem.F.cmpKind_eq PySem.F.cmpSplit_eq sub (PySem.F.cmpArgs_eq _ _) (objEq_entry_other hxy I.at_ hy (by rw [I.cls]; exact Value.noConfusion) h)))

theorem eq_same_objects {cl x y : Addr} {ox oy : Obj} {od od' : Option Obj} {E : Value → Shared → Prop} {s : Shared} {K : Frag} {prog : Program} {w : World} {A : Around} (hu : A.units < cLine) (X : K.In s.heap) (S : SelfEq K cl) (I : W.InstAt s.heap x ox cl od)
    (J : W.InstAt s.heap y oy cl od') {Q : Value → Shared → Prop} (h : Q (.bool (x == y)) s) : wpAny (model prog w) A (compareOp .Eq (.ref x) (.ref y)) Q E s := by
  refine cmp_ofEq ?_
  unfold richCompare
  simp only [oneThing_ref]
  refine wpAny_holding (wpAny_bind (wpAny_cRoomFor hu ?_))
  refine wpAny_bind (I.type.here (wpAny_bind (J.type.here ?_)))
  rw [if_neg (by simp)]
  refine wpAny_bind (wpAny_pure ?_)
  simp only [Bool.false_eq_true, if_false]
  by_cases hxy : x = y
  · subst hxy
    refine wpAny_bind (eq_bound X S I (eq_call_same X S I ?_))
    exact wpAny_pure (by simpa using h)
  · refine wpAny_bind (eq_bound X S I (eq_call_other X S I hxy J.at_ ?_))
    refine wpAny_bind (eq_bound X S J (eq_call_other X S J (Ne.symm hxy) I.at_ ?_))
    have e : (x == y) = false := by simpa using hxy
    rw [e] at h
    refine wpAny_bind (wpAny_rule (wpAny_bind (wpAny_isSame_ref_other hxy I.at_ J.at_ (by rw [I.cls]; exact Value.noConfusion) (wpAny_pure h))))
end
end Mine

/-! Ref13 -/
namespace Mine
section
variable {C : Cx}

/-! objects that are equal just to themselves, as a test -/
noncomputable def cmpObjF (objs : List Addr) : PV → PV → Option Bool
  | .fl (.obj a), .fl (.obj b) => if objs.contains a && objs.contains b then some (a == b) else none
  | _, _ => none
noncomputable def cmpObjM (objs : List Addr) (ml mr : Mo PV) : Mo Bool := bindM ml fun a => bindM mr fun b => liftO (cmpObjF objs a b)
theorem EvT.cmpObj (O : C.Ok) {objs : List Addr} {cl : Addr} (S : SelfEq C.K cl) (hob : ∀ a ∈ objs, Member C.K cl a) {l r : Expr} {pos} {ml mr : Mo PV} (hl : EvE C l ml) (hr : EvE C r mr) (hb : behindInMarks .Eq r = false) :
    EvT C (.Compare l [.Eq] [r] pos) (cmpObjM objs ml mr) := by
  intro φ st s v st' R hm
  obtain ⟨a, st₁, h1, hm⟩ := bindM_some hm
  obtain ⟨b, st₂, h2, hm⟩ := bindM_some hm
  obtain ⟨hc, rfl⟩ := liftO_some hm
  refine wpAny_isTrue_Compare1 (ev2 hl hr R h1 h2 fun φ₂ ca cb s₂ X₂ R₂ ra rb => ?_) hb
  unfold cmpObjF at hc
  split at hc
  · rename_i x y _
    split at hc
    · rename_i hin
      cases hc
      obtain ⟨i1, i2⟩ := Bool.and_eq_true_iff.mp hin
      have X := O.kin.keeps R₂.keep
      obtain ⟨dx, sl, od, k1, k2⟩ := hob x (List.contains_iff_mem.mp i1)
      obtain ⟨dx', sl', od', k3, k4⟩ := hob y (List.contains_iff_mem.mp i2)
      have ea : ca = .ref x := ra
      have eb : cb = .ref y := rb
      subst ea; subst eb
      refine eq_same_objects (by have := O.hu; omega) X S (InstAt.of_K X k1 k2) (InstAt.of_K X k3 k4) ?_
      exact wpAny_truthy_bool ⟨rfl, φ₂, X₂, R₂⟩
    · cases hc
  · cases hc

/-! more operators on flat values -/
noncomputable def binG : Operator → PV → PV → Option PV
  | .Add, .fl (.int a), .fl (.int b) => some (.fl (.int (a + b)))
  | .Sub, .fl (.int a), .fl (.int b) => some (.fl (.int (a - b)))
  | .Mod, .fl (.int a), .fl (.int b) => if pd (b ≠ 0) = true then some (.fl (.int (a.fmod b))) else none
  | .FloorDiv, .fl (.int a), .fl (.int b) => if pd (b ≠ 0 ∧ b.natAbs < 1073741824) = true then some (.fl (.int (a.fdiv b))) else none
  | .Pow, .fl (.int a), .fl (.int b) => if pd (0 ≤ b ∧ b ≤ 1000 ∧ a.natAbs < 2 ^ 64) = true then some (.fl (.int (a ^ b.toNat))) else none
  | _, _, _ => none
noncomputable def binX (op : Operator) (ml mr : Mo PV) : Mo PV := bindM ml fun a => bindM mr fun b => liftO (binG op a b)
theorem binG_ok {op : Operator} {a b c : PV} (hc : binG op a b = some c) {φ : List Addr} {st : St} {s : Shared} (R : Rep C φ st s) {ca cb : Value} (ra : RV φ s.heap ca a) (rb : RV φ s.heap cb b) :
    wpAny C.M C.A (binaryOp op ca cb) (PostV C φ s.heap st c) noE s := by
  unfold binG at hc
  split at hc
  · cases hc; obtain ⟨t, rfl⟩ := ra; obtain ⟨u, rfl⟩ := rb; exact add_int (PostV.pure R RV.int _)
  · cases hc; obtain ⟨t, rfl⟩ := ra; obtain ⟨u, rfl⟩ := rb; exact sub_int (PostV.pure R RV.int _)
  · split at hc
    · rename_i hb
      cases hc; obtain ⟨t, rfl⟩ := ra; obtain ⟨u, rfl⟩ := rb; exact PyProof.Rows.mod_int' (pd_of hb) (PostV.pure R RV.int _)
    · cases hc
  · split at hc
    · rename_i hb
      cases hc; obtain ⟨t, rfl⟩ := ra; obtain ⟨u, rfl⟩ := rb
      exact PyProof.Rows.floordiv_int (pd_of hb).1 (PostV.pure R RV.int _) (Or.inl (PyProof.noPylong_small (pd_of hb).2))
    · cases hc
  · split at hc
    · rename_i hb
      have hb := pd_of hb
      cases hc; obtain ⟨t, rfl⟩ := ra; obtain ⟨u, rfl⟩ := rb; exact PyProof.Rows.pow_int_small hb.1 (by omega) hb.2.2 (PostV.pure R RV.int _)
    · cases hc
  · cases hc
theorem EvE.binX {l r : Expr} {op pos} {ml mr : Mo PV} (hl : EvE C l ml) (hr : EvE C r mr) : EvE C (.BinOp l op r pos) (binX op ml mr) := by
  intro φ st s v st' R hm
  obtain ⟨a, st₁, h1, hm⟩ := bindM_some hm
  obtain ⟨b, st₂, h2, hm⟩ := bindM_some hm
  obtain ⟨hc, rfl⟩ := liftO_some hm
  refine wpAny_BinOp (ev2 hl hr R h1 h2 fun φ₂ ca cb s₂ X₂ R₂ ra rb => ?_)
  exact wpAny_mono (binG_ok hc R₂ ra rb) (fun _ _ x => x.trans X₂) fun _ _ x => x

/-! int(i) -/
def intM (m : Mo PV) : Mo PV := bindM m fun v st => match v with | .fl (.int i) => some (.fl (.int i), st) | _ => none
theorem EvE.intCall (O : C.Ok) {e : Expr} {p pos : Pos} {m : Mo PV} (B : IsBuiltin C "int" (.type "int")) (h : EvE C e m) (hs : starEach [e] C.env = [(false, eval e C.env)]) : EvE C (.Call (.Name "int" p) [e] [] pos) (intM m) := by
  intro φ st s v st' R hm
  obtain ⟨u, st₁, h1, hm⟩ := bindM_some hm
  split at hm
  · rename_i i
    cases hm
    refine wpAny_Call_NameR (B.eval O R (by decide) ?_)
    rw [hs]
    refine PySem.callWith_type (by rfl) (Calls.evalArgs_plain (Calls.spliced_cons (wpAny_mono (h φ st s _ _ R h1) (fun cv s₁ hp => ?_) fun _ _ x => x)))
    obtain ⟨φ₁, X₁, R₁, t, rfl⟩ := hp
    exact Calls.spliced_nil (PySem.call_int_int ⟨φ₁, X₁, R₁, RV.int⟩)
  · cases hm
end
end Mine

/-! Ref14 -/
namespace Mine

/-- a def of the text, in the fragment -/
def FnIn (K : Frag) (a : Addr) (name qual : Str) (params : Arguments) (body : List Stmt) (scope : Scope) (dV : Value) : Prop :=
  ∃ oc od kV doc pm an cdv ct osl, K.lookup a = some ⟨oc, od, .func (fnOf name qual params body scope dV kV doc pm an cdv ct), osl⟩ ∧ codeIn K cdv qual = true

structure Base (C : Cx) : Prop where
  g : C.env.globals = mainGlobals
  b : C.env.builtins = builtinsNs
structure Room (C : Cx) (n : Nat) : Prop where
  d : C.A.depth + 10 + 2 * n < recursionLimit
  u : C.A.units + 68 + 4 * n < cLine

theorem Cx.form {C : Cx} {scope L gl cells qual func code frame blt names} (he : C.env = ⟨scope, L, gl, cells, qual, func, code, frame, blt⟩) (hn : C.names = names) :
    C = ⟨C.prog, C.w, C.A, ⟨scope, L, gl, cells, qual, func, code, frame, blt⟩, names, C.s₀, C.mg, C.mb, C.K⟩ := by
  cases C; simp_all

theorem RVs.cons_inv {φ : List Addr} {h : Heap} {n : Nat} : ∀ {cvs : List Value} {vs : List PV}, RVs φ h cvs vs → vs.length = n + 1 → ∃ c cs v us, cvs = c :: cs ∧ vs = v :: us ∧ RV φ h c v ∧ RVs φ h cs us ∧ us.length = n
  | [], [], _, hn => by cases hn
  | c :: cs, v :: us, r, hn => ⟨c, cs, v, us, rfl, rfl, r.1, r.2, by simpa using hn⟩
theorem RVs.nil_inv {φ : List Addr} {h : Heap} : ∀ {cvs : List Value} {vs : List PV}, RVs φ h cvs vs → vs.length = 0 → cvs = [] ∧ vs = []
  | [], [], _, _ => ⟨rfl, rfl⟩
  | _ :: _, _ :: _, _, hn => by cases hn
theorem EvB.no {C : Cx} {body : List Stmt} : EvB C body (fun _ => none) := fun _ _ _ _ _ _ h => nomatch h
theorem EvS.no {C : Cx} {x : Stmt} : EvS C x (fun _ => none) := fun _ _ _ _ _ _ h => nomatch h

/-- what a caller's context hands to a callee's -/
structure Sub (C C' : Cx) (fd : FuncData) (a : Addr) (names : List Str) : Prop where
  ok : C'.Ok
  prog : C'.prog = C.prog
  w : C'.w = C.w
  names : C'.names = names
  env : C'.env = callEnvC fd C'.env.locals a
  mg : C'.mg = C.mg
  mb : C'.mb = C.mb
  K : C'.K = C.K
  keep : ∀ b o, C.s₀.heap.get? b = some o → C'.s₀.heap.get? b = some o
  d : C'.A.depth ≤ C.A.depth + 2
  u : C'.A.units ≤ C.A.units + 4
theorem Sub.room {C C' : Cx} {fd a names} (S : Sub C C' fd a names) {n : Nat} (r : Room C (n + 1)) : Room C' n := ⟨by have := S.d; have := r.d; omega, by have := S.u; have := r.u; omega⟩

theorem fn_fun {C : Cx} (O : C.Ok) {k : Nat} (rm : Room C k) (B : Base C) {a : Addr} {name qual : Str} {params : Arguments} {body : List Stmt} {scope : Scope} {dV : Value} (F : FnIn C.K a name qual params body scope dV)
    (hco : scope.isCoroutine = false) (hgen : scope.isGenerator = false) (hk : scope.kind = .function)
    {n : Nat} {names : List Str} {cells : List PV → List (Str × FV)} {m : List PV → Mo Fl} {lp : List PV → List (Option PV)} (hnd : names.Nodup) (hloc : ∀ x ∈ names, scope.names.lookup x = some .local)
    (hB : ∀ vs C' fd, Sub C C' fd a names → fd.scope = scope → fd.globals = mainGlobals → fd.builtins = builtinsNs → (∀ x f, (x, f) ∈ cells vs → IsCellVar C' x f) → EvB C' body (m vs))
    (hbind : ∀ fd : FuncData, fd.params = params → fd.qualname = qual → fd.defaults = dV → fd.scope = scope → ∀ φ s (cvs : List Value) vs, C.K.In s.heap → RVs φ s.heap cvs vs → vs.length = n → ∃ binds, BindsTo s fd ⟨cvs, []⟩ binds ∧
      (∀ n, ∀ x ∈ binds, scope.names.lookup x.1 = some .local ∨ (scope.names.lookup x.1 = some .cell ∧ ((cellsFrom (n + 1) scope.names []).lookup x.1).isSome = true)) ∧
      (∃ lv, names.map (bindL (fun x => scope.names.lookup x) binds fun _ => none) = lv ∧ Locs φ s.heap lv (lp vs)) ∧
      (∀ x f, (x, f) ∈ cells vs → scope.names.lookup x = some .cell ∧ ∀ n, ∃ c v, (cellsFrom (n + 1) scope.names []).lookup x = some c ∧ bindC (fun x => scope.names.lookup x) binds (fun _ => none) x = some v ∧ RF [] v f)) :
    CodeFun C (.ref a) n (fun vs mem => (m vs ⟨lp vs, mem⟩).map fun r => (retV r.1, r.2.mem)) := by
  obtain ⟨oc, od, kV, doc, pm, an, cdv, ct, osl, hl, hc⟩ := F
  have D : DefAt C a (fnOf name qual params body scope dV kV doc pm an cdv ct) body := ⟨⟨_, O.kin _ _ hl, rfl⟩, codeRec_of O.kin hc, rfl, rfl, B.g.symm, B.b.symm, hco, hgen, hk⟩
  refine D.fun O (by have := rm.d; omega) (by have := rm.u; omega) (names := names) (cells := cells) (fun vs C' O' h1 h2 h3 h4 h5 h6 h7 h8 h9 h10 h11 => ?_) hnd hloc (hbind (fnOf name qual params body scope dV kV doc pm an cdv ct) rfl rfl rfl rfl)
  exact hB vs C' _ ⟨O', h1, h2, h3, h4, h5, h6, h7, h8, h10, h11⟩ rfl rfl rfl h9

theorem Sub.builtin {C C' : Cx} {fd a names} (S : Sub C C' fd a names) {scope : Scope} (hs : fd.scope = scope) {x : Str} {v : Value} (h : scope.names.lookup x = some .globalImplicit) (hb : C.mg x = none ∧ C.mb x = some v) : IsBuiltin C' x v :=
  ⟨by rw [S.env]; show fd.scope.names.lookup x = _; rw [hs]; exact h, by rw [S.mg]; exact hb.1, by rw [S.mb]; exact hb.2⟩
theorem Sub.global {C C' : Cx} {fd a names} (S : Sub C C' fd a names) {scope : Scope} (hs : fd.scope = scope) {x : Str} {v : Value} (h : scope.names.lookup x = some .globalImplicit) (hb : C.mg x = some v) : IsGlobal C' x v :=
  ⟨by rw [S.env]; show fd.scope.names.lookup x = _; rw [hs]; exact h, by rw [S.mg]; exact hb⟩
theorem Sub.form {C C' : Cx} {fd a names} (S : Sub C C' fd a names) {scope : Scope} (hs : fd.scope = scope) : ∃ gl cells qual func code frame blt, C'.env = ⟨scope, C'.env.locals, gl, cells, qual, func, code, frame, blt⟩ :=
  ⟨_, _, _, _, _, _, _, by rw [← hs]; exact S.env⟩
theorem Sub.base {C C' : Cx} {fd a names} (S : Sub C C' fd a names) (hg : fd.globals = mainGlobals) (hb : fd.builtins = builtinsNs) : Base C' := ⟨by rw [S.env]; exact hg, by rw [S.env]; exact hb⟩

def argI (i : Nat) (vs : List PV) : Option Int := match vs[i]? with | some (.fl (.int m)) => some m | _ => none
theorem argI_some {i : Nat} {vs : List PV} {m : Int} (h : argI i vs = some m) : vs[i]? = some (.fl (.int m)) := by
  unfold argI at h
  split at h
  · rename_i e; cases h; exact e
  · cases h

structure StatIn (K : Frag) (cl : Addr) (name : Str) (f : Addr) : Prop where
  get : plainGet K cl name = true
  dict : hasDictIn K cl = true
  raw : ∃ p rest, findIn K (.ref cl) name = some (some (.ref p)) ∧ typeIn K (.ref p) = some (.type "staticmethod") ∧ specialIn K (.ref p) "__get__" = some (some (.builtin "staticmethod.__get__")) ∧
    takesIn K (.ref p) = some false ∧ recIn K p "staticmethod" = some (.ref f :: rest)
  keep : keepIn K (.ref f) = true
  free : copiedNames.contains name = false
structure PlainIn (K : Frag) (cl : Addr) (name : Str) (f : Addr) : Prop where
  get : plainGet K cl name = true
  dict : hasDictIn K cl = true
  find : findIn K (.ref cl) name = some (some (.ref f))
  fn : isFn K (.ref f) = true
  keep : keepIn K (.ref f) = true
theorem StatIn.meth {C : Cx} {cl f : Addr} {name : Str} {n : Nat} {m : FM} (S : StatIn C.K cl name f) (F : Fun C (.ref f) n m) : MethOk C cl name n true m :=
  let ⟨_, _, k1, k2, k3, k4, k5⟩ := S.raw
  ⟨S.get, S.dict, .static k1 k2 k3 k4 k5 rfl S.keep S.free F⟩
theorem PlainIn.meth {C : Cx} {cl f : Addr} {name : Str} {n : Nat} {m : FM} (S : PlainIn C.K cl name f) (F : Fun C (.ref f) (n + 1) m) : MethOk C cl name n false m :=
  ⟨S.get, S.dict, .plain S.find S.fn S.keep F⟩
structure ClassIn (K : Frag) (cl fI : Addr) : Prop where
  makes : makesIn K cl = true
  init : findIn K (.ref cl) "__init__" = some (some (.ref fI))
  fn : typeIn K (.ref fI) = some (.type "function")
  keep : keepIn K (.ref cl) = true
/-- one class has it -/
def tab1 (c : Addr) (b : Bool) (m : FM) : Addr → Option (Bool × FM) := fun cl => if cl = c then some (b, m) else none
theorem tab1_ok {C : Cx} {c : Addr} {name : Str} {n : Nat} {b : Bool} {m : FM} (h : MethOk C c name n b m) : ∀ cl b' m', tab1 c b m cl = some (b', m') → MethOk C cl name n b' m' := fun cl b' m' e => by
  unfold tab1 at e
  split at e
  · rename_i q; subst q; cases e; exact h
  · cases e
def tab2 (c d : Addr) (b : Bool) (m1 m2 : FM) : Addr → Option (Bool × FM) := fun cl => if cl = c then some (b, m1) else if cl = d then some (b, m2) else none
theorem tab2_ok {C : Cx} {c d : Addr} {name : Str} {n : Nat} {b : Bool} {m1 m2 : FM} (h : MethOk C c name n b m1) (h2 : MethOk C d name n b m2) : ∀ cl b' m', tab2 c d b m1 m2 cl = some (b', m') → MethOk C cl name n b' m' := fun cl b' m' e => by
  unfold tab2 at e
  split at e
  · rename_i q; subst q; cases e; exact h
  · split at e
    · rename_i q; subst q; cases e; exact h2
    · cases e
end Mine

/-! Ref15 -/
namespace Mine

/-! sets of pairs as own objects -/
theorem TupI.key {prog : Program} {w : World} {h : Heap} {i j : Nat} {b : Addr} (x : TupI h i j b) : IsTupleKey (intKind prog w) h [(i : Int), (j : Int)] b := by
  obtain ⟨items, t, u, ⟨o, ho, hc, n, hd⟩, hi⟩ := x
  refine ⟨o, items, n, ho, hc, hd, ?_⟩
  rw [hi]
  exact .cons (by simp [intKind, Value.isInt]) (.cons (by simp [intKind, Value.isInt]) .nil)
theorem TupI.ofKey {prog : Program} {w : World} {h : Heap} {i j : Nat} {b : Addr} (x : IsTupleKey (intKind prog w) h [(i : Int), (j : Int)] b) : TupI h i j b := by
  obtain ⟨o, items, n, ho, hc, hd, hi⟩ := x
  generalize hl : items.toList = l at hi
  cases hi with
  | cons h1 hi =>
    cases hi with
    | cons h2 hi =>
      cases hi
      obtain ⟨t, rfl⟩ := Value.isInt_shape h1
      obtain ⟨u, rfl⟩ := Value.isInt_shape h2
      exact ⟨items, t, u, ⟨o, ho, hc, n, hd⟩, hl⟩
theorem PS.pset {prog : Program} {w : World} {h : Heap} {a : Addr} {xs o es ep t} (S : PS h a xs o es ep t) : PSet prog w h a xs o es ep t :=
  ⟨S.here, S.exact, S.data, S.tab, S.mask, S.few, fun i e he => let ⟨p, g1, b, g2, g3⟩ := S.ent i e he; ⟨p, g1, b, g2, g3.key⟩, S.has, S.dom⟩
theorem PSet.ps {prog : Program} {w : World} {h : Heap} {a : Addr} {xs o es ep t} (S : PSet prog w h a xs o es ep t) : PS h a xs o es ep t :=
  ⟨S.here, S.exact, S.data, S.tab, S.mask, S.few, fun i e he => let ⟨p, g1, b, g2, g3⟩ := S.ent i e he; ⟨p, g1, b, g2, TupI.ofKey g3⟩, S.has, S.dom⟩

theorem tab_fresh (m : Nat) (led : Bool) : TabOk (SetTable.fresh 0 m led) #[] := by
  refine ⟨⟨?_, rfl⟩, rfl, fun i j h => by simp [SetTable.fresh] at h, by simp, fun i j _ _ h => by simp at h, fun i e he => by simp at he⟩
  intro i j hij hj
  simp [SetTable.fresh] at hj

section
variable {C : Cx}

/-! set() -/
def newPS : Mo PV := fun st => some (.fl (.ref st.mem.length), { st with mem := st.mem ++ [.pset []] })
theorem EvE.setNew (O : C.Ok) {p pos : Pos} (B : IsBuiltin C "set" (.type "set")) : EvE C (.Call (.Name "set" p) [] [] pos) newPS := by
  intro φ st s v st' R hm
  cases hm
  refine wpAny_Call_NameR (B.eval O R (by decide) ?_)
  refine PySem.callWith_type (by rfl) (evalArgs_nil3 ?_)
  refine call_set_0 fun led => ?_
  have W := R.alloc (o := { cls := .type "set", dict := none, data := .set #[] 0 (.fresh 0 0 led) }) (mo := .pset []) fun φ' _ =>
    ⟨_, _, _, _, ⟨Heap.get?_push_size _ rfl, ⟨rfl, rfl, rfl⟩, rfl, tab_fresh 0 led, .inl rfl, by show (0 : Nat) * 5 < 7 * 3; omega, fun i e he => by simp at he, fun p hp => (nomatch hp), fun p hp => (nomatch hp)⟩⟩
  refine ⟨_, W.2, W.1, _, ?_, rfl⟩
  rw [← R.memlen]; simp

/-! x in s -/
noncomputable def inPSF (st : St) : PV → PV → Option Bool
  | .tup [.int i, .int j], .fl (.ref k) => if pd (0 ≤ i ∧ i < 6 ∧ 0 ≤ j ∧ j < 6) = true then (match st.mem[k]? with | some (.pset xs) => some (pd ((i.toNat, j.toNat) ∈ xs)) | _ => none) else none
  | _, _ => none
noncomputable def inPSM (ml mr : Mo PV) : Mo Bool := bindM ml fun a => bindM mr fun b st => (inPSF st a b).map (·, st)
theorem RFs.pair {φ : List Addr} {h : Heap} {a : Addr} {items : Array Value} {i j : Nat} (ht : h.IsTuple a items) (r : RFs φ items.toList [.int (i : Int), .int (j : Int)]) : TupI h i j a := by
  generalize hl : items.toList = l at r
  match l, r with
  | [x, y], ⟨⟨t, hx⟩, ⟨u, hy⟩, _⟩ => exact ⟨items, t, u, ht, by rw [hl, hx, hy]⟩
theorem EvT.inPS (O : C.Ok) {l r : Expr} {pos} {ml mr : Mo PV} (hl : EvE C l ml) (hr : EvE C r mr) (hb : behindInMarks .In r = false) : EvT C (.Compare l [.In] [r] pos) (inPSM ml mr) := by
  intro φ st s v st' R hm
  obtain ⟨a, st₁, h1, hm⟩ := bindM_some hm
  obtain ⟨b, st₂, h2, hm⟩ := bindM_some hm
  obtain ⟨c, hc, e⟩ := Option.map_eq_some_iff.mp hm
  cases e
  refine wpAny_isTrue_Compare1 (ev2 hl hr R h1 h2 fun φ₂ ca cb s₂ X₂ R₂ ra rb => ?_) hb
  unfold inPSF at hc
  split at hc
  · rename_i i j k _
    split at hc
    · rename_i hij
      obtain ⟨h0, h6, g0, g6⟩ := pd_of hij
      split at hc
      · rename_i xs hmem
        cases hc
        obtain ⟨x, items, rfl, ht, hr⟩ := ra
        obtain ⟨a, ha, rfl⟩ := rb
        obtain ⟨o, es, ep, t, S⟩ := R₂.mem k _ a hmem ha
        obtain ⟨i, rfl⟩ := Int.eq_ofNat_of_zero_le h0
        obtain ⟨j, rfl⟩ := Int.eq_ofNat_of_zero_le g0
        have hk := (RFs.pair ht hr).key (prog := C.prog) (w := C.w)
        refine in_pset (by have := O.hu; omega) (by omega) (by omega) hk S.pset fun tk => ?_
        refine wpAny_truthy_bool ⟨?_, φ₂, X₂, R₂.toks _⟩
        rw [pd_dec]; rfl
      · cases hc
    · cases hc
  · cases hc

/-! s.add(x) as a statement -/
noncomputable def addPSF (a b : PV) (st : St) : Option (Fl × St) := match a, b with
  | .fl (.ref k), .tup [.int i, .int j] => if pd (0 ≤ i ∧ i < 6 ∧ 0 ≤ j ∧ j < 6) = true then (match st.mem[k]? with
    | some (.pset xs) => if pd ((i.toNat, j.toNat) ∉ xs) = true then some (.next, setMem k (.pset ((i.toNat, j.toNat) :: xs)) st) else none
    | _ => none) else none
  | _, _ => none
def isPS (a : PV) (st : St) : Bool := match a with
  | .fl (.ref k) => (match st.mem[k]? with | some (.pset _) => true | _ => false)
  | _ => false
noncomputable def addPSM (ml me : Mo PV) : Mo Fl := bindM ml fun a => fun st => if isPS a st = true then (bindM me fun b => addPSF a b) st else none
theorem ps_notTuple {h : Heap} {a : Addr} {xs o es ep t} (S : PS h a xs o es ep t) (its : Array Value) : ¬ h.IsTuple a its := by
  rintro ⟨o', ho, hc, _⟩
  rw [S.here] at ho; cases ho
  rw [S.exact.1] at hc
  exact absurd (Value.type.inj hc) (by decide)
theorem EvS.addPS (O : C.Ok) {o e : Expr} {apos pos spos : Pos} {ml me : Mo PV} (hl : EvE C o ml) (he : EvE C e me) (hi : interactive C.env = false)
    (hbase : attributeBase o "add" C.env (eval o C.env) = eval o C.env) (hst : starEach [e] C.env = [(false, eval e C.env)]) (hline : (apos.endLine == pos.line) = true) :
    EvS C (.Expr (.Call (.Attribute o "add" apos) [e] [] pos) spos) (addPSM ml me) := by
  intro φ st s fl st' R h
  obtain ⟨a, st₁, h1, h⟩ := bindM_some h
  have h0 : (if isPS a st₁ = true then (bindM me fun b => addPSF a b) st₁ else none) = some (fl, st') := h
  clear h
  split at h0
  case isFalse => cases h0
  rename_i hk1
  obtain ⟨b, st₂, h2, h'⟩ := bindM_some h0
  unfold addPSF at h'
  split at h'
  · rename_i k i j
    split at h'
    · rename_i hij
      obtain ⟨z0, z6, g0, g6⟩ := pd_of hij
      split at h'
      · rename_i xs hmem
        split at h'
        · rename_i hnot
          have hnot := pd_of hnot
          cases h'
          refine wpAny_Expr ?_ hi (by rfl)
          refine wpAny_Call_method (T := "set") (id := "set.add") hbase (by rw [hst]; rfl) hline F.plainAttrs_set F.slot_set_add F.type_set_add (wpAny_mono (hl φ st s _ st₁ R h1) (fun ca s₁ hp => ?_) fun _ _ x => x)
          obtain ⟨φ₁, X₁, R₁, v₁⟩ := hp
          obtain ⟨A, hA, rfl⟩ := v₁
          unfold isPS at hk1
          dsimp only at hk1
          have hob : ∃ ys o es ep t, PS s₁.heap A ys o es ep t := by
            cases hm1 : st₁.mem[k]? with
            | none => rw [hm1] at hk1; cases hk1
            | some mo =>
              rw [hm1] at hk1
              cases mo with
              | pset ys => obtain ⟨o, es, ep, t, S⟩ := R₁.mem k _ A hm1 hA; exact ⟨ys, o, es, ep, t, S⟩
              | _ => cases hk1
          obtain ⟨ys, o, es, ep, t, S⟩ := hob
          refine ⟨⟨o, S.here, S.exact.1⟩, fun a ea => by cases ea; exact ⟨_, S.here, S.exact.2.1⟩, ?_⟩
          rw [hst]
          refine Calls.callWith_builtin (by rfl) (Calls.evalArgs_plain (Calls.spliced_cons (wpAny_mono (he φ₁ st₁ s₁ _ st₂ R₁ h2) (fun cb s₂ hp => ?_) fun _ _ x => x)))
          obtain ⟨φ₂, X₂, R₂, v₂⟩ := hp
          refine Calls.spliced_nil ?_
          have hA2 := prefix_get X₂.pre hA
          obtain ⟨o2, es2, ep2, t2, S2⟩ := R₂.mem k _ A hmem hA2
          obtain ⟨x, items, rfl, ht, hr⟩ := v₂
          obtain ⟨i, rfl⟩ := Int.eq_ofNat_of_zero_le z0
          obtain ⟨j, rfl⟩ := Int.eq_ofNat_of_zero_le g0
          have hk := (RFs.pair ht hr).key (prog := C.prog) (w := C.w)
          refine addTo_pset (by have := O.hu; omega) (by omega) (by omega) hk S2.pset hnot fun h' o' es' ep' t' tk hs' S' => ?_
          have W := R₂.update (tk := tk) hA2 hs' (ps_notTuple S2) (mo := .pset ((i, j) :: xs)) fun K => ⟨_, _, _, _, S'.ps⟩
          exact ⟨φ₂, (X₁.trans X₂).toExt.trans W.2, W.1, trivial⟩
        · cases h'
      · cases h'
    · cases h'
  · cases h'
end
end Mine

/-! Ref16 -/
namespace Mine
theorem RVs.drop {φ : List Addr} {h : Heap} : ∀ {vs : List Value} {fs : List PV}, RVs φ h vs fs → ∀ n, RVs φ h (vs.drop n) (fs.drop n)
  | _, _, x, 0 => x
  | [], [], _, _ + 1 => trivial
  | _ :: _, _ :: _, x, n + 1 => RVs.drop x.2 n
theorem RVs.take {φ : List Addr} {h : Heap} : ∀ {vs : List Value} {fs : List PV}, RVs φ h vs fs → ∀ n, RVs φ h (vs.take n) (fs.take n)
  | [], [], _, 0 => trivial
  | _ :: _, _ :: _, _, 0 => trivial
  | [], [], _, _ + 1 => trivial
  | _ :: _, _ :: _, x, n + 1 => ⟨x.1, RVs.take x.2 n⟩
section
variable {C : Cx}

/-! x or y, as a value: none or a text -/
def orVM (ma mb : Mo PV) : Mo PV := bindM ma fun v => match v with
  | .fl .none => mb
  | .fl (.str x) => fun st => if x.length < 2 ^ 20 then (if x.length = 0 then mb st else some (.fl (.str x), st)) else none
  | _ => fun _ => none
theorem EvE.orV {a b : Expr} {pos : Pos} {ma mb : Mo PV} (ha : EvE C a ma) (hb : EvE C b mb) : EvE C (.BoolOp .Or [a, b] pos) (orVM ma mb) := by
  intro φ st s r st' R hm
  obtain ⟨v, st₁, h1, hm⟩ := bindM_some hm
  refine BoolOp_or (wpAny_mono (ha φ st s v st₁ R h1) (fun cv s₁ hp => ?_) fun _ _ x => x)
  obtain ⟨φ₁, X₁, R₁, v₁⟩ := hp
  split at hm
  · rw [show cv = .none from v₁]
    refine truthy_none ?_
    simp only [Bool.false_eq_true, if_false]
    exact BoolOp_one (wpAny_mono (hb φ₁ st₁ s₁ r st' R₁ hm) (fun _ _ x => x.trans X₁) fun _ _ x => x)
  · rename_i x
    obtain ⟨t, rfl⟩ := v₁
    split at hm
    · rename_i hx
      refine PySem.P.truthy_str (by omega) ?_
      split at hm
      · rename_i h0
        have e : ((x.length : Int) != 0) = false := by rw [h0]; rfl
        rw [e]
        simp only [Bool.false_eq_true, if_false]
        exact BoolOp_one (wpAny_mono (hb φ₁ st₁ _ r st' (R₁.toks (s₁.toks + 1 + 1)) hm) (fun _ _ x => x.trans X₁) fun _ _ x => x)
      · rename_i h0
        cases hm
        have e : ((x.length : Int) != 0) = true := by simpa using h0
        rw [e]
        simp only [if_true]
        exact ⟨φ₁, X₁, R₁.toks _, RV.str⟩
    · cases hm
  · cases hm

/-! texts put together -/
def addSF : PV → PV → Option PV
  | .fl (.str x), .fl (.str y) => if x.length + y.length < 2 ^ 20 then some (.fl (.str (x ++ y))) else none
  | _, _ => none
def addSM (ml mr : Mo PV) : Mo PV := bindM ml fun a => bindM mr fun b => liftO (addSF a b)
theorem EvE.addS {l r : Expr} {pos} {ml mr : Mo PV} (hl : EvE C l ml) (hr : EvE C r mr) : EvE C (.BinOp l .Add r pos) (addSM ml mr) := by
  intro φ st s v st' R hm
  obtain ⟨a, st₁, h1, hm⟩ := bindM_some hm
  obtain ⟨b, st₂, h2, hm⟩ := bindM_some hm
  obtain ⟨hc, rfl⟩ := liftO_some hm
  refine wpAny_BinOp (ev2 hl hr R h1 h2 fun φ₂ ca cb s₂ X₂ R₂ ra rb => ?_)
  unfold addSF at hc
  split at hc
  · obtain ⟨t, rfl⟩ := ra; obtain ⟨u, rfl⟩ := rb
    split at hc
    · rename_i hsz
      cases hc
      exact PyProof.Rows.add_str (fun t' tk => ⟨φ₂, X₂, R₂.toks _, RV.str⟩) (by rw [sizeLine_eq]; omega)
    · cases hc
  · cases hc

/-! '..'.join(a list of texts) -/
def strsL : List PV → Option (List Str)
  | [] => some []
  | .fl (.str s) :: r => (strsL r).map (s :: ·)
  | _ => none
theorem strsL_ok {φ : List Addr} {h : Heap} : ∀ {cvs : List Value} {vs : List PV} {ys : List Str}, RVs φ h cvs vs → strsL vs = some ys → StrsAre cvs ys
  | [], [], _, _, e => by cases e; exact .nil
  | c :: cs, .fl (.str s) :: r, ys, x, e => by
    obtain ⟨ys', e', rfl⟩ := Option.map_eq_some_iff.mp e
    obtain ⟨⟨t, rfl⟩, x⟩ := x
    exact .cons _ _ (strsL_ok x e')
  | _ :: _, .fl .none :: _, _, _, e => by cases e
  | _ :: _, .fl (.bool _) :: _, _, _, e => by cases e
  | _ :: _, .fl (.int _) :: _, _, _, e => by cases e
  | _ :: _, .fl (.ref _) :: _, _, _, e => by cases e
  | _ :: _, .fl (.obj _) :: _, _, _, e => by cases e
  | _ :: _, .tup _ :: _, _, _, e => by cases e
def joinF (st : St) : PV → PV → Option PV
  | .fl (.str x), .fl (.ref k) => match st.mem[k]? with
    | some (.list xs) => (match strsL xs with
      | some ys => if x.length ≤ 16 ∧ (ys.map (·.length)).sum + ys.length ≤ 1048576 then some (.fl (.str (Txt.join x ys))) else none
      | none => none)
    | _ => none
  | _, _ => none
def joinM (x : Str) (m : Mo PV) : Mo PV := bindM m fun b st => (joinF st (.fl (.str x)) b).map (·, st)
theorem EvE.join {x : Str} {e : Expr} {kp apos pos : Pos} {m : Mo PV} {ck} (he : EvE C e m)
    (hbase : attributeBase (.Constant (.str x) ck kp) "join" C.env (eval (.Constant (.str x) ck kp) C.env) = eval (.Constant (.str x) ck kp) C.env)
    (hst : starEach [e] C.env = [(false, eval e C.env)]) (hline : (apos.endLine == pos.line) = true) :
    EvE C (.Call (.Attribute (.Constant (.str x) ck kp) "join" apos) [e] [] pos) (joinM x m) := by
  intro φ st s v st' R hm
  obtain ⟨b, st₂, h2, hm⟩ := bindM_some hm
  obtain ⟨c, hc, e'⟩ := Option.map_eq_some_iff.mp hm
  cases e'
  refine wpAny_Call_method (T := "str") (id := "str.join") hbase (by rw [hst]; rfl) hline F.plainAttrs_str F.slot_str_join F.type_str_join ?_
  show wpAny C.M C.A (mkText x) _ _ s
  refine wpAny_mkText ⟨typeIs_str _ _ _, fun a ea => (nomatch ea), ?_⟩
  rw [hst]
  refine Calls.callWith_builtin (by rfl) (Calls.evalArgs_plain (Calls.spliced_cons (wpAny_mono (he φ st _ _ st' (R.toks (s.toks + 1)) h2) (fun cb s₂ hp => ?_) fun _ _ x => x)))
  obtain ⟨φ₂, X₂, R₂, v₂⟩ := hp
  refine Calls.spliced_nil ?_
  unfold joinF at hc
  split at hc
  · rename_i x' k' hx
    cases hx
    split at hc
    · rename_i xs hmem
      split at hc
      · rename_i ys hys
        split at hc
        · rename_i hw
          cases hc
          obtain ⟨A, hA, rfl⟩ := v₂
          obtain ⟨items, hl, hr⟩ := R₂.listAt hmem hA
          exact join_listW hl.isList (strsL_ok hr hys) hw.1 hw.2 fun t' k => ⟨φ₂, X₂, R₂.toks _, RV.str⟩
        · cases hc
      · cases hc
    · cases hc
  · cases hc

/-! l[i:] and l[:j] of an own list -/
def slF (st : St) : PV → Option PV → Option PV → Option (List PV)
  | .fl (.ref k), lo, hi => match st.mem[k]? with
    | some (.list xs) => if xs.length ≤ 2 ^ 20 then (match lo, hi with
      | some (.fl (.int i)), none => if 0 ≤ i then some (xs.drop i.toNat) else none
      | none, some (.fl (.int j)) => if 0 ≤ j then some (xs.take j.toNat) else none
      | _, _ => none) else none
    | _ => none
  | _, _, _ => none
def optM : Option (Mo PV) → Mo (Option PV)
  | none => fun st => some (none, st)
  | some m => bindM m fun v st => some (some v, st)
def sliceM (ml : Mo PV) (lo hi : Option (Mo PV)) : Mo PV := bindM ml fun a => bindM (optM lo) fun l => bindM (optM hi) fun h st => match slF st a l h with
  | some ys => newL ys st
  | none => none
inductive EvO (C : Cx) : Option Expr → Option (Mo PV) → Prop
  | none : EvO C none none
  | some {e m} : EvE C e m → EvO C (some e) (some m)
def RO (φ : List Addr) (h : Heap) (v : Value) : Option PV → Prop
  | none => v = .none
  | some p => RV φ h v p
theorem RO.mono {φ φ' : List Addr} {h h' : Heap} (hp : φ <+: φ') (hk : Keep h h') {v : Value} {p : Option PV} (x : RO φ h v p) : RO φ' h' v p := by
  cases p with
  | none => exact x
  | some p => exact RV.mono hp hk x
theorem evO {e : Option Expr} {m : Option (Mo PV)} (h : EvO C e m) {φ st s v st'} (R : Rep C φ st s) (hm : optM m st = some (v, st')) :
    wpAny C.M C.A (evalPart e C.env) (fun cv s' => ∃ φ', ExtE C φ s.heap φ' s'.heap ∧ Rep C φ' st' s' ∧ RO φ' s'.heap cv v) noE s := by
  cases h with
  | none => cases hm; rw [evalPart_none]; exact wpAny_pure ⟨φ, ExtE.refl _ _, R, rfl⟩
  | some h =>
    obtain ⟨u, st₁, h1, hm⟩ := bindM_some hm
    cases hm
    rw [evalPart_some]
    exact h φ st s u _ R h1
theorem EvE.slice {v : Expr} {lo hi : Option Expr} {p pos : Pos} {ml : Mo PV} {mlo mhi : Option (Mo PV)} (hv : EvE C v ml) (hlo : EvO C lo mlo) (hhi : EvO C hi mhi) : EvE C (.Subscript v (.Slice lo hi none p) pos) (sliceM ml mlo mhi) := by
  intro φ st s r st' R hm
  obtain ⟨a, st₁, h1, hm⟩ := bindM_some hm
  obtain ⟨l, st₂, h2, hm⟩ := bindM_some hm
  obtain ⟨u, st₃, h3, hm⟩ := bindM_some hm
  cases hs : slF st₃ a l u with
  | none => simp only [hs] at hm; cases hm
  | some ys =>
    simp only [hs] at hm
    cases hm
    refine Subscript_ (wpAny_mono (hv φ st s a st₁ R h1) (fun ca s₁ hp => ?_) fun _ _ x => x)
    obtain ⟨φ₁, X₁, R₁, v₁⟩ := hp
    refine wpAny_Slice (wpAny_mono (evO hlo R₁ h2) (fun cl s₂ hp => ?_) fun _ _ x => x)
    obtain ⟨φ₂, X₂, R₂, v₂⟩ := hp
    refine wpAny_mono (evO hhi R₂ h3) (fun cu s₃ hp => ?_) fun _ _ x => x
    obtain ⟨φ₃, X₃, R₃, v₃⟩ := hp
    rw [evalPart_none]
    refine wpAny_pure ?_
    have v₁' := (v₁.mono X₂.pre X₂.tup).mono X₃.pre X₃.tup
    have v₂' := v₂.mono X₃.pre X₃.tup
    unfold slF at hs
    split at hs
    · rename_i k _ _
      obtain ⟨A, hA, rfl⟩ := v₁'
      split at hs
      · rename_i xs hmem
        split at hs
        · rename_i hlen0
          obtain ⟨items, hl, hr⟩ := R₃.listAt hmem hA
          have hlen := hr.length
          have hsz : items.size = xs.length := by simpa using hlen
          -- what is picked
          have pick : ∃ lo' hi', IsPart cl lo' ∧ IsPart cu hi' ∧ RVs φ₃ s₃.heap (slicePick items lo' hi' none).toList ys := by
            split at hs
            · rename_i i
              split at hs
              · rename_i hi0
                cases hs
                obtain ⟨t, rfl⟩ := v₂'
                rw [show cu = .none from v₃]
                obtain ⟨n, rfl⟩ := Int.eq_ofNat_of_zero_le hi0
                refine ⟨_, _, .int _ _, .none, ?_⟩
                rw [slicePick_from']
                exact RVs.drop hr n
              · cases hs
            · rename_i j
              split at hs
              · rename_i hj0
                cases hs
                obtain ⟨t, rfl⟩ := v₃
                rw [show cl = .none from v₂']
                obtain ⟨n, rfl⟩ := Int.eq_ofNat_of_zero_le hj0
                refine ⟨_, _, .none, .int _ _, ?_⟩
                rw [slicePick_upto']
                exact RVs.take hr n
              · cases hs
            · cases hs
          obtain ⟨lo', hi', p1, p2, p3⟩ := pick
          refine tail_any (hl.isList.push _).typeIs slot_list_getitem.lookup (wpAny_getItem_list_slice (hl.isList.push _) (Heap.IsSliceOf.new ..) p1 p2 .none (by simp) ?_ (by rw [sizeLine_eq]; omega)) (ops := [_, _]) rfl
          have Rp := R₃.push { cls := .type "slice", data := .fields #[cl, cu, .none] }
          have K1 : Keep s₃.heap (s₃.heap.push { cls := .type "slice", data := .fields #[cl, cu, .none] }) := Keep.all fun _ _ e => Heap.get?_push_of_some _ e
          have W := Rp.alloc (o := { cls := .type "list", data := .seq (slicePick items lo' hi' none) }) (mo := .list ys) fun φ' hp => ⟨_, ⟨0, Heap.get?_push_size _ rfl⟩,
            p3.mono hp (K1.trans (Keep.all fun _ _ e => Heap.get?_push_of_some _ e))⟩
          have XX : ExtE C φ₃ s₃.heap φ₃ (s₃.heap.push { cls := .type "slice", data := .fields #[cl, cu, .none] }) := ExtE.all fun _ _ e => Heap.get?_push_of_some _ e
          have esz : (s₃.heap.push { cls := .type "slice", data := .fields #[cl, cu, .none] }).objs.size = s₃.heap.objs.size + 1 := Heap.size_push _ _
          rw [esz] at W
          dsimp only
          rw [esz]
          refine ⟨_, ((X₁.trans X₂).trans X₃).trans (XX.trans W.2), W.1, s₃.heap.objs.size + 1, ?_, rfl⟩
          rw [← R₃.memlen]; simp
        · cases hs
      · cases hs
    · cases hs
end
end Mine

/-! Ref17 -/
namespace Mine
section
variable {C : Cx}

/-- a list of whole numbers, written out -/
def intsOf : List Expr → Option (List Int)
  | [] => some []
  | .Constant (.int i) _ _ :: r => (intsOf r).map (i :: ·)
  | _ => none
theorem EvEs.ints : ∀ {es : List Expr} {is : List Int}, intsOf es = some is → EvEs C es (is.map fun i => cst (.fl (.int i)))
  | [], _, e => by cases e; exact .nil
  | .Constant (.int i) _ _ :: es, is, e => by
    obtain ⟨is', e', rfl⟩ := Option.map_eq_some_iff.mp e
    exact .cons EvE.int rfl (EvEs.ints e')

/-- a def that gives back such a list: kept apart from the evaluation -/
theorem retInts {C : Cx} {body : List Stmt} {m : Mo Fl} (key : ∀ P : List Stmt → Mo Fl → Prop, (∀ es p q is, intsOf es = some is → P [.Return (some (.List es p)) q] (blkM [retM (listM (is.map fun i => cst (.fl (.int i))))])) → P body m) : EvB C body m :=
  key (EvB C) fun _ _ _ _ h => EvB.cons (EvS.ret (EvE.list (EvEs.ints h))) EvB.nil

/-! two lists of whole numbers side by side -/
def intsL : List PV → Option (List Int)
  | [] => some []
  | .fl (.int i) :: r => (intsL r).map (i :: ·)
  | _ => none
theorem intsL_ok {φ : List Addr} {h : Heap} : ∀ {cvs : List Value} {vs : List PV} {ns : List Int}, RVs φ h cvs vs → intsL vs = some ns → ns.length = cvs.length ∧ ∀ (j : Nat) (v : Value), cvs[j]? = some v → ∃ t, v = .int (ns.getD j 0) t
  | [], [], _, _, e => by cases e; exact ⟨rfl, fun j v hj => by simp at hj⟩
  | c :: cs, .fl (.int i) :: r, ns, x, e => by
    obtain ⟨ns', e', rfl⟩ := Option.map_eq_some_iff.mp e
    obtain ⟨⟨t, rfl⟩, x⟩ := x
    obtain ⟨h1, h2⟩ := intsL_ok x e'
    refine ⟨by simp [h1], fun j v hj => ?_⟩
    cases j with
    | zero => simp at hj; subst hj; exact ⟨t, rfl⟩
    | succ j => obtain ⟨u, hu⟩ := h2 j v (by simpa using hj); exact ⟨u, by simpa using hu⟩
  | _ :: _, .fl .none :: _, _, _, e => by cases e
  | _ :: _, .fl (.bool _) :: _, _, _, e => by cases e
  | _ :: _, .fl (.str _) :: _, _, _, e => by cases e
  | _ :: _, .fl (.ref _) :: _, _, _, e => by cases e
  | _ :: _, .fl (.obj _) :: _, _, _, e => by cases e
  | _ :: _, .tup _ :: _, _, _, e => by cases e
def eqLF (st : St) : PV → PV → Option Bool
  | .fl (.ref k), .fl (.ref k') => match st.mem[k]?, st.mem[k']? with
    | some (.list xs), some (.list ys) => (match intsL xs, intsL ys with
      | some ns, some ms => some (decide (ns = ms))
      | _, _ => none)
    | _, _ => none
  | _, _ => none
def eqLM (ml mr : Mo PV) : Mo PV := bindM ml fun a => bindM mr fun b st => (eqLF st a b).map fun c => (.fl (.bool c), st)
theorem all_eq {ns ms : List Int} (h : ns.length = ms.length) : (List.range ns.length).all (fun j => ns.getD j 0 == ms.getD j 0) = decide (ns = ms) := by
  rw [Bool.eq_iff_iff, List.all_eq_true, decide_eq_true_iff]
  refine ⟨fun x => List.ext_getElem h fun j h1 h2 => ?_, fun e j _ => by rw [e]; exact beq_self_eq_true _⟩
  have := x j (List.mem_range.mpr h1)
  rw [beq_iff_eq] at this
  simpa [List.getD_eq_getElem?_getD, List.getElem?_eq_getElem h1, List.getElem?_eq_getElem h2] using this
theorem EvE.eqL (O : C.Ok) {l r : Expr} {pos} {ml mr : Mo PV} (hl : EvE C l ml) (hr : EvE C r mr) (hb : behindInMarks .Eq r = false) : EvE C (.Compare l [.Eq] [r] pos) (eqLM ml mr) := by
  intro φ st s v st' R hm
  obtain ⟨a, st₁, h1, hm⟩ := bindM_some hm
  obtain ⟨b, st₂, h2, hm⟩ := bindM_some hm
  obtain ⟨c, hc, e⟩ := Option.map_eq_some_iff.mp hm
  cases e
  refine wpAny_Compare1 (ev2 hl hr R h1 h2 fun φ₂ ca cb s₂ X₂ R₂ ra rb => ?_) hb
  unfold eqLF at hc
  split at hc
  · rename_i k k' _
    split at hc
    · rename_i xs ys hk hk'
      split at hc
      · rename_i ns ms hn hms
        cases hc
        obtain ⟨a, ha, rfl⟩ := ra
        obtain ⟨b, hb, rfl⟩ := rb
        obtain ⟨items, hl, hr⟩ := R₂.listAt hk ha
        obtain ⟨items', hl', hr'⟩ := R₂.listAt hk' hb
        obtain ⟨e1, e2⟩ := intsL_ok hr hn
        obtain ⟨f1, f2⟩ := intsL_ok hr' hms
        have hu : C.A.units < cLine := by have := O.hu; omega
        have g1 : items.size = ns.length := by rw [e1]; simp
        have g2 : items'.size = ms.length := by rw [f1]; simp
        by_cases hsz : items.size = items'.size
        · refine SeqAt.eq_listAt (e := fun j => ns.getD j 0 == ms.getD j 0) hl.isList hl'.isList hsz hu (fun j h1 h2 => ?_) ?_
          · obtain ⟨t, ht⟩ := e2 j items[j] (by rw [Array.getElem?_toList]; exact Array.getElem?_eq_getElem h1)
            obtain ⟨u, hu'⟩ := f2 j items'[j] (by rw [Array.getElem?_toList]; exact Array.getElem?_eq_getElem h2)
            rw [ht, hu']
            exact SeqAt.EqAt.int_int _ _ _ _
          · rw [g1, all_eq (by omega)]
            exact ⟨φ₂, X₂, R₂, rfl⟩
        · refine SeqAt.eq_list_lengthsAt hl.isList hl'.isList (by simpa using hsz) hu ?_
          have : decide (ns = ms) = false := by
            rw [decide_eq_false_iff_not]; intro e; subst e; omega
          rw [this]
          exact ⟨φ₂, X₂, R₂, rfl⟩
      · cases hc
    · cases hc
  · cases hc

/-! a list that is handed in: it stands -/
def BaseList (C : Cx) (bs : Addr) (xs : List PV) : Prop := ∃ items, C.s₀.heap.IsList bs items ∧ RVs [] C.s₀.heap items.toList xs
def lenBM (bs : Addr) (xs : List PV) (m : Mo PV) : Mo PV := bindM m fun v st => match v with
  | .fl (.obj a) => if a = bs ∧ xs.length < 2 ^ 20 then some (.fl (.int xs.length), st) else none
  | _ => none
theorem EvE.lenB (O : C.Ok) {bs : Addr} {xs : List PV} (H : BaseList C bs xs) {e : Expr} {p pos : Pos} {m : Mo PV} (B : IsBuiltin C "len" (.builtin "len")) (h : EvE C e m) (hs : starEach [e] C.env = [(false, eval e C.env)]) :
    EvE C (.Call (.Name "len" p) [e] [] pos) (lenBM bs xs m) := by
  intro φ st s v st' R hm
  obtain ⟨u, st₁, h1, hq⟩ := bindM_some hm
  clear hm
  split at hq
  · rename_i a
    split at hq
    · rename_i hc
      obtain ⟨rfl, hc⟩ := hc
      cases hq
      refine wpAny_Call_NameR (B.eval O R (by decide) ?_)
      rw [hs]
      refine Calls.callWith_builtin (by rfl) (Calls.evalArgs_plain (Calls.spliced_cons (wpAny_mono (h φ st s _ _ R h1) (fun cv s₁ hp => ?_) fun _ _ x => x)))
      obtain ⟨φ₁, X₁, R₁, v₁⟩ := hp
      rw [show cv = .ref a from v₁]
      obtain ⟨items, hl, hr⟩ := H
      have hlen := hr.length
      have hsz : items.size = xs.length := by simpa using hlen
      refine Calls.spliced_nil (Calls.call_len_list (hl.at fun o e => R₁.keep _ _ e) (by omega) ?_)
      rw [hsz]
      exact ⟨φ₁, X₁, R₁.toks _, RV.int⟩
    · cases hq
  · cases hq
def addBM (bs : Addr) (xs : List PV) (ml mr : Mo PV) : Mo PV := bindM ml fun a => bindM mr fun b st => match a, b with
  | .fl (.obj a), .fl (.ref k) => if a = bs then (match st.mem[k]? with
    | some (.list ys) => if xs.length + ys.length ≤ 2 ^ 20 then newL (xs ++ ys) st else none
    | _ => none) else none
  | _, _ => none
theorem EvE.addB (O : C.Ok) {bs : Addr} {xs : List PV} (H : BaseList C bs xs) {l r : Expr} {pos} {ml mr : Mo PV} (hl : EvE C l ml) (hr : EvE C r mr) : EvE C (.BinOp l .Add r pos) (addBM bs xs ml mr) := by
  intro φ st s v st' R hm
  obtain ⟨a, st₁, h1, hq1⟩ := bindM_some hm
  obtain ⟨b, st₂, h2, hq⟩ := bindM_some hq1
  clear hm hq1
  refine wpAny_BinOp (ev2 hl hr R h1 h2 fun φ₂ ca cb s₂ X₂ R₂ ra rb => ?_)
  split at hq
  · rename_i a k
    split at hq
    · rename_i he
      subst he
      split at hq
      · rename_i ys hmem
        split at hq
        · rename_i hsz
          cases hq
          rw [show ca = .ref a from ra]
          obtain ⟨B, hB, rfl⟩ := rb
          obtain ⟨items, hl, hr⟩ := H
          have hl2 := hl.at fun o e => R₂.keep _ _ e
          obtain ⟨items', hl', hr'⟩ := R₂.listAt hmem hB
          have q1 := hr.length
          have q2 := hr'.length
          have r1 : items.size = xs.length := by simpa using q1
          have r2 : items'.size = ys.length := by simpa using q2
          obtain ⟨⟨cls, dd, data, sl⟩, ho, hc, n, hd⟩ := hl2
          obtain ⟨⟨cls2, dd2, data2, sl2⟩, ho2, hc2, n2, hd2⟩ := hl'.isList
          simp only at hc hd hc2 hd2
          subst hc hd hc2 hd2
          refine concat_meets ⟨_, ho, rfl⟩ ⟨_, ho2, rfl⟩ noFill_list_add seq_list_add PySem.F.slot_list_add PySem.F.entry_list_add (PySem.F.args_list_add_2 _ _) (list_addW a B items items' n n2 dd dd2 sl sl2 (by rw [sizeLine_eq]; omega)) ⟨ho, ho2, ?_⟩
          have W := R₂.alloc (o := { cls := .type "list", data := .seq (items ++ items') }) (mo := .list (xs ++ ys)) fun φ' hp => ⟨_, ⟨0, Heap.get?_push_size _ rfl⟩, by
            have K0 : Keep C.s₀.heap (s₂.heap.push { cls := .type "list", data := .seq (items ++ items') }) := Keep.all fun _ _ e => Heap.get?_push_of_some _ (R₂.keep _ _ e)
            rw [Array.toList_append]
            exact (hr.mono (List.nil_prefix) K0).app (hr'.mono hp (Keep.all fun _ _ e => Heap.get?_push_of_some _ e))⟩
          refine ⟨_, X₂.trans W.2, W.1, s₂.heap.objs.size, ?_, rfl⟩
          rw [← R₂.memlen]; simp
        · cases hq
      · cases hq
    · cases hq
  · cases hq

/-! for over a range with a step, all fixed -/
def forRange3M (a c : Int) (n : Nat) (f : PV → Mo Unit) (b : Mo Fl) : Mo Fl := loopR f b c n a
theorem EvS.forRange3 (O : C.Ok) {t : Expr} {p rpos pos : Pos} {a b c : Int} {k1 k2 k3} {p1 p2 p3 : Pos} {body : List Stmt} {f : PV → Mo Unit} {mb : Mo Fl} (B : IsBuiltin C "range" (.type "range")) (n : Nat)
    (hc : c ≠ 0) (hsm : Builtin.Range.small a b c = true) (hn : Builtin.Range.rangeSize a b c = (n : Int)) (hpl : Builtin.divisionGoesByPylong (b - a) c = false)
    (ht : EvTg C t f) (hb : EvB C body mb) (htu : ∀ I v, letOwnedTupleGo t (.ref I) v = pure ())
    (hst : starEach [.Constant (.int a) k1 p1, .Constant (.int b) k2 p2, .Constant (.int c) k3 p3] C.env = [(false, eval (.Constant (.int a) k1 p1) C.env), (false, eval (.Constant (.int b) k2 p2) C.env), (false, eval (.Constant (.int c) k3 p3) C.env)])
    (hs : ∀ x, foldedSetIterable (.Call (.Name "range" p) [.Constant (.int a) k1 p1, .Constant (.int b) k2 p2, .Constant (.int c) k3 p3] [] rpos) C.env x = pure x) :
    EvS C (.For t (.Call (.Name "range" p) [.Constant (.int a) k1 p1, .Constant (.int b) k2 p2, .Constant (.int c) k3 p3] [] rpos) body [] pos) (forRange3M a c n f mb) := by
  intro φ st s fl st' R hm
  refine wpAny_For (wpAny_Call_NameR (B.eval O R (by decide) ?_)) hs
  rw [hst]
  refine PySem.callWith_type (by rfl) (Calls.evalArgs_plain (Calls.spliced_cons (wpAny_Constant_int (k := k1) (pos := p1) (Calls.spliced_cons (wpAny_Constant_int (k := k2) (pos := p2) (Calls.spliced_cons (wpAny_Constant_int (k := k3) (pos := p3) (Calls.spliced_nil ?_))))))))
  refine call_range_3 hc ?_ (Or.inl hpl)
  refine wpAny_pyIter_range (IsRange.new ..) hsm ?_
  rw [hn]
  have hk : ∀ b' o', s.heap.get? b' = some o' → ((s.heap.push { cls := .type "range", data := .fields #[.int a s.toks, .int b (s.toks + 1), .int c (s.toks + 1 + 1)] }).push { cls := .type "range_iterator", data := .fields #[rawInt a, rawInt (n : Int), rawInt c] }).get? b' = some o' :=
    fun _ _ e => Heap.get?_push_of_some _ (Heap.get?_push_of_some _ e)
  have hI : s.heap.get? (s.heap.push { cls := .type "range", data := .fields #[.int a s.toks, .int b (s.toks + 1), .int c (s.toks + 1 + 1)] }).objs.size = none := by
    cases e : s.heap.get? (s.heap.push { cls := .type "range", data := .fields #[.int a s.toks, .int b (s.toks + 1), .int c (s.toks + 1 + 1)] }).objs.size with
    | none => rfl
    | some o' => exact absurd (Heap.lt_size e) (by rw [Heap.size_push]; exact Nat.not_lt.mpr (Nat.le_succ _))
  exact loopR_ok O ht hb (htu _) hI (fun cf s' hp => hp) (Ext.all hk) (R.kept (tk := s.toks + 1 + 1 + 1) hk) (R.side hI) (by show Heap.get? _ _ = _; exact Heap.get?_push_size _ rfl) hm
end
end Mine

/-! Ref18 -/
namespace Mine
section
variable {C : Cx}

/-! a text that stands in the module -/
structure IsText (C : Cx) (x : Str) (y : Str) : Prop where
  kind : C.env.kindOf x = some .globalImplicit
  has : ∃ t, C.mg x = some (.str y t)
theorem EvE.text (O : C.Ok) {x y : Str} {pos : Pos} (G : IsText C x y) (hd : (x == ("__debug__" : Str)) = false) : EvE C (.Name x pos) (cst (.fl (.str y))) := by
  intro φ st s v st' R hm
  cases hm
  obtain ⟨t, ht⟩ := G.has
  exact IsGlobal.eval O ⟨G.kind, ht⟩ R hd ⟨φ, ExtE.refl _ _, R, RV.str⟩

/-! slices of a text -/
def optI : Option PV → Option (Option Int)
  | none => some none
  | some (.fl (.int i)) => some (some i)
  | some _ => none
def slSF : PV → Option PV → Option PV → Option PV
  | .fl (.str x), l, u => if x.length ≤ 2 ^ 20 then (match optI l, optI u with
    | some i, some j => some (.fl (.str (PySem.StrLaws.sliceText x i j)))
    | _, _ => none) else none
  | _, _, _ => none
def sliceSM (ms : Mo PV) (lo hi : Option (Mo PV)) : Mo PV := bindM ms fun a => bindM (optM lo) fun l => bindM (optM hi) fun h => liftO (slSF a l h)
theorem RO.part {φ : List Addr} {h : Heap} {cv : Value} {v : Option PV} {i : Option Int} (r : RO φ h cv v) (e : optI v = some i) : ∃ p : Option (Int × Tok), cv = partValue p ∧ p.map (·.1) = i := by
  unfold optI at e
  split at e
  · cases e; exact ⟨none, r, rfl⟩
  · cases e; obtain ⟨t, rfl⟩ := r; exact ⟨some (_, t), rfl, rfl⟩
  · cases e
theorem EvE.sliceS {v : Expr} {lo hi : Option Expr} {p pos : Pos} {ms : Mo PV} {mlo mhi : Option (Mo PV)} (hv : EvE C v ms) (hlo : EvO C lo mlo) (hhi : EvO C hi mhi) : EvE C (.Subscript v (.Slice lo hi none p) pos) (sliceSM ms mlo mhi) := by
  intro φ st s r st' R hm
  obtain ⟨a, st₁, h1, hm1⟩ := bindM_some hm
  obtain ⟨l, st₂, h2, hm2⟩ := bindM_some hm1
  obtain ⟨u, st₃, h3, hm3⟩ := bindM_some hm2
  obtain ⟨hs, rfl⟩ := liftO_some hm3
  clear hm hm1 hm2 hm3
  refine Subscript_ (wpAny_mono (hv φ st s a st₁ R h1) (fun ca s₁ hp => ?_) fun _ _ x => x)
  obtain ⟨φ₁, X₁, R₁, v₁⟩ := hp
  refine wpAny_Slice (wpAny_mono (evO hlo R₁ h2) (fun cl s₂ hp => ?_) fun _ _ x => x)
  obtain ⟨φ₂, X₂, R₂, v₂⟩ := hp
  refine wpAny_mono (evO hhi R₂ h3) (fun cu s₃ hp => ?_) fun _ _ x => x
  obtain ⟨φ₃, X₃, R₃, v₃⟩ := hp
  rw [evalPart_none]
  refine wpAny_pure ?_
  have v₁' := (v₁.mono X₂.pre X₂.tup).mono X₃.pre X₃.tup
  have v₂' := v₂.mono X₃.pre X₃.tup
  unfold slSF at hs
  split at hs
  · rename_i _ _ _ x
    split at hs
    · rename_i hxl
      split at hs
      · rename_i i j hi hj
        cases hs
        obtain ⟨t, rfl⟩ := v₁'
        obtain ⟨p1, rfl, e1⟩ := v₂'.part hi
        obtain ⟨p2, rfl, e2⟩ := v₃.part hj
        have XX : ExtE C φ₃ s₃.heap φ₃ (s₃.heap.push { cls := .type "slice", data := .fields #[partValue p1, partValue p2, .none] }) := ExtE.all fun _ _ e => Heap.get?_push_of_some _ e
        have Rp := R₃.push { cls := .type "slice", data := .fields #[partValue p1, partValue p2, .none] }
        refine tail_any (typeIs_str _ x t) F.slot_str_getitem.lookup (wpAny_getItem_str_slice (l := p1) (u := p2) (st := none) ⟨_, Heap.get?_push_size _ rfl, rfl, rfl⟩ rfl ?_) (ops := [_, _]) rfl
        subst e1; subst e2
        unfold sliceMade PySem.StrLaws.sliceText slicePicked
        simp only [Option.map_none, Option.getD_none]
        split
        · exact ⟨φ₃, ((X₁.trans X₂).trans X₃).trans XX, Rp, RV.str⟩
        · refine ⟨?_, φ₃, ((X₁.trans X₂).trans X₃).trans XX, Rp.toks _, RV.str⟩
          show (List.filterMap _ _).toArray.size ≤ _
          rw [List.size_toArray]
          exact Nat.le_trans (List.length_filterMap_le _ _) (Nat.le_trans (sliceIndices_le _ _ _) (by rw [sizeLine_eq]; omega))
      · cases hs
    · cases hs
  · cases hs

/-! the last place of an own list -/
def lastF (st : St) : PV → Option PV
  | .fl (.ref k) => match st.mem[k]? with | some (.list xs) => if xs.length < 2 ^ 20 then xs[xs.length - 1]? else none | _ => none
  | _ => none
def lastM (mv : Mo PV) : Mo PV := bindM mv fun a st => (lastF st a).map (·, st)
theorem EvE.last {v : Expr} {k p up pos} {mv : Mo PV} (hv : EvE C v mv) (hs : ∀ o x, subscripted (.UnaryOp .USub (.Constant (.int 1) k p) up) false o x = operate [o, x] (getItem o x)) : EvE C (.Subscript v (.UnaryOp .USub (.Constant (.int 1) k p) up) pos) (lastM mv) := by
  intro φ st s r st' R hm
  obtain ⟨a, st₁, h1, hm1⟩ := bindM_some hm
  obtain ⟨c, hc, e⟩ := Option.map_eq_some_iff.mp hm1
  cases e
  refine Subscript_ (ev2 hv (EvE.neg (i := 1)) R h1 rfl fun φ₂ ca cb s₂ X₂ R₂ ra rb => ?_)
  unfold lastF at hc
  split at hc
  · rename_i k
    split at hc
    · rename_i xs hmem
      split at hc
      · rename_i hlt
        obtain ⟨A, hA, rfl⟩ := ra
        obtain ⟨u, rfl⟩ := rb
        obtain ⟨items, hl, hr⟩ := R₂.listAt hmem hA
        have hlen := hr.length
        have hsz : items.size = xs.length := by simpa using hlen
        have hpos := (List.getElem?_eq_some_iff.mp hc).1
        obtain ⟨cv, hcv, hrv⟩ := hr.get hc
        refine tail_any hl.isList.typeIs slot_list_getitem.lookup (wpAny_getItem_list_neg hl.isList (by omega) (by omega) (by omega) (x := cv) ?_ ?_) (hs _ _)
        · have e : (-1 + (items.size : Int)).toNat = xs.length - 1 := by omega
          rw [e]; simpa using hcv
        · exact ⟨φ₂, X₂, R₂, hrv⟩
      · cases hc
    · cases hc
  · cases hc

/-! a place of a tuple -/
def subTF : PV → PV → Option PV
  | .tup fs, .fl (.int i) => if 0 ≤ i ∧ i < 2 ^ 20 then (fs[i.toNat]?).map .fl else none
  | _, _ => none
def subTM (mv mi : Mo PV) : Mo PV := bindM mv fun a => bindM mi fun b => liftO (subTF a b)
theorem RFs.get {φ : List Addr} : ∀ {vs : List Value} {fs : List FV}, RFs φ vs fs → ∀ {i : Nat} {p : FV}, fs[i]? = some p → ∃ v, vs[i]? = some v ∧ RF φ v p
  | v :: _, _ :: _, x, 0, p, e => ⟨v, rfl, by cases e; exact x.1⟩
  | _ :: vs, _ :: fs, x, i + 1, p, e => RFs.get (vs := vs) (fs := fs) x.2 (by simpa using e)
  | [], [], _, i, p, e => by simp at e
theorem EvE.subT {v i : Expr} {pos} {mv mi : Mo PV} (hv : EvE C v mv) (hi : EvE C i mi) (hs : ∀ o x, subscripted i false o x = operate [o, x] (getItem o x)) : EvE C (.Subscript v i pos) (subTM mv mi) := by
  intro φ st s r st' R hm
  obtain ⟨a, st₁, h1, hm1⟩ := bindM_some hm
  obtain ⟨b, st₂, h2, hm2⟩ := bindM_some hm1
  obtain ⟨hc, rfl⟩ := liftO_some hm2
  refine Subscript_ (ev2 hv hi R h1 h2 fun φ₂ ca cb s₂ X₂ R₂ ra rb => ?_)
  unfold subTF at hc
  split at hc
  · rename_i fs j
    split at hc
    · rename_i hj
      obtain ⟨f, hf, rfl⟩ := Option.map_eq_some_iff.mp hc
      obtain ⟨A, items, rfl, ht, hr⟩ := ra
      obtain ⟨u, rfl⟩ := rb
      obtain ⟨cv, hcv, hrv⟩ := hr.get hf
      have hlt : j.toNat < items.size := by have := (List.getElem?_eq_some_iff.mp hcv).1; simpa using this
      have hix : seqIndex? j items.size = some j.toNat := by
        unfold seqIndex?
        have g1 : ¬ j < 0 := by omega
        have g3 : j < (items.size : Int) := by omega
        simp [g1, hj.1, g3]
      refine tail_any ht.typeIs PySem.F.slot_tuple_getitem.lookup (PyProof.Rows.getItem_tuple ht (by omega) (by omega) hix (by simpa using hcv) ?_) (hs _ _)
      exact ⟨φ₂, X₂, R₂, hrv⟩
    · cases hc
  · cases hc
end
end Mine

/-! Ref19 -/
namespace Mine
section
variable {C : Cx}

/-! a name that holds a truth value, as a test; not -/
def boolM (m : Mo PV) : Mo Bool := bindM m fun v st => match v with | .fl (.bool b) => some (b, st) | _ => none
theorem EvT.bool {e : Expr} {m : Mo PV} (h : EvE C e m) (he : ∀ whole, isTrue e C.env whole = (do let v ← whole; standAt e.pos; holding [v] (truthy v))) : EvT C e (boolM m) := by
  intro φ st s v st' R hm
  obtain ⟨u, st₁, h1, hm1⟩ := bindM_some hm
  clear hm
  refine wpAny_isTrue_value (wpAny_mono (h φ st s u st₁ R h1) (fun cv s₁ hp => ?_) fun _ _ x => x) (he _)
  obtain ⟨φ₁, X₁, R₁, v₁⟩ := hp
  split at hm1
  · cases hm1
    rw [show cv = .bool _ from v₁]
    exact wpAny_truthy_bool ⟨rfl, φ₁, X₁, R₁⟩
  · cases hm1
def notM (m : Mo Bool) : Mo Bool := bindM m fun b st => some (!b, st)
theorem EvT.not {e : Expr} {pos} {m : Mo Bool} (h : EvT C e m) : EvT C (.UnaryOp .Not e pos) (notM m) := by
  intro φ st s v st' R hm
  obtain ⟨u, st₁, h1, hm1⟩ := bindM_some hm
  cases hm1
  refine isTrue_not (wpAny_mono (h φ st s u _ R h1) (fun cv s₁ hp => ?_) fun _ _ x => x)
  obtain ⟨rfl, φ₁, X₁, R₁⟩ := hp
  exact ⟨rfl, φ₁, X₁, R₁⟩

/-! and, or of truth values, as a value -/
def andB : List (Mo PV) → Mo PV
  | [] => fun _ => none
  | [m] => bindM m fun v st => match v with | .fl (.bool b) => some (.fl (.bool b), st) | _ => none
  | m :: m2 :: r => bindM m fun v => match v with | .fl (.bool true) => andB (m2 :: r) | .fl (.bool false) => fun st => some (.fl (.bool false), st) | _ => fun _ => none
def orB : List (Mo PV) → Mo PV
  | [] => fun _ => none
  | [m] => bindM m fun v st => match v with | .fl (.bool b) => some (.fl (.bool b), st) | _ => none
  | m :: m2 :: r => bindM m fun v => match v with | .fl (.bool false) => orB (m2 :: r) | .fl (.bool true) => fun st => some (.fl (.bool true), st) | _ => fun _ => none
inductive EvL (C : Cx) : List Expr → List (Mo PV) → Prop
  | nil : EvL C [] []
  | cons {e es m ms} : EvE C e m → EvL C es ms → EvL C (e :: es) (m :: ms)
theorem EvE.andB {pos} : ∀ {es : List Expr} {ms : List (Mo PV)}, EvL C es ms → EvE C (.BoolOp .And es pos) (Mine.andB ms)
  | _, _, .nil => fun _ _ _ _ _ _ hm => nomatch hm
  | _, _, .cons h .nil => fun φ st s v st' R hm => by
    obtain ⟨u, st₁, h1, hm1⟩ := bindM_some hm
    clear hm
    refine BoolOp_one ?_
    split at hm1
    · cases hm1; exact h φ st s _ _ R h1
    · cases hm1
  | _, _, .cons (e := e) h (.cons h2 hr) => fun φ st s v st' R hm => by
    obtain ⟨u, st₁, h1, hm1⟩ := bindM_some hm
    clear hm
    refine BoolOp_and (wpAny_mono (h φ st s u st₁ R h1) (fun cv s₁ hp => ?_) fun _ _ x => x)
    obtain ⟨φ₁, X₁, R₁, v₁⟩ := hp
    split at hm1
    · rw [show cv = .bool _ from v₁]
      refine wpAny_truthy_bool ?_
      rw [if_pos rfl]
      exact wpAny_mono (EvE.andB (.cons h2 hr) φ₁ st₁ s₁ v st' R₁ hm1) (fun _ _ x => x.trans X₁) fun _ _ x => x
    · cases hm1
      rw [show cv = .bool _ from v₁]
      refine wpAny_truthy_bool ?_
      rw [if_neg (by simp)]
      exact ⟨φ₁, X₁, R₁, rfl⟩
    · cases hm1
theorem EvE.orB {pos} : ∀ {es : List Expr} {ms : List (Mo PV)}, EvL C es ms → EvE C (.BoolOp .Or es pos) (Mine.orB ms)
  | _, _, .nil => fun _ _ _ _ _ _ hm => nomatch hm
  | _, _, .cons h .nil => fun φ st s v st' R hm => by
    obtain ⟨u, st₁, h1, hm1⟩ := bindM_some hm
    clear hm
    refine BoolOp_one ?_
    split at hm1
    · cases hm1; exact h φ st s _ _ R h1
    · cases hm1
  | _, _, .cons (e := e) h (.cons h2 hr) => fun φ st s v st' R hm => by
    obtain ⟨u, st₁, h1, hm1⟩ := bindM_some hm
    clear hm
    refine BoolOp_or (wpAny_mono (h φ st s u st₁ R h1) (fun cv s₁ hp => ?_) fun _ _ x => x)
    obtain ⟨φ₁, X₁, R₁, v₁⟩ := hp
    split at hm1
    · rw [show cv = .bool _ from v₁]
      refine wpAny_truthy_bool ?_
      rw [if_neg (by simp)]
      exact wpAny_mono (EvE.orB (.cons h2 hr) φ₁ st₁ s₁ v st' R₁ hm1) (fun _ _ x => x.trans X₁) fun _ _ x => x
    · cases hm1
      rw [show cv = .bool _ from v₁]
      refine wpAny_truthy_bool ?_
      rw [if_pos rfl]
      exact ⟨φ₁, X₁, R₁, rfl⟩
    · cases hm1

/-! l or [..]: the first when it holds something -/
def orLM (ma mb : Mo PV) : Mo PV := bindM ma fun v st => match v with
  | .fl (.ref k) => (match st.mem[k]? with
    | some (.list xs) => if xs.length < 2 ^ 20 then (if xs.length = 0 then mb st else some (v, st)) else none
    | _ => none)
  | _ => none
theorem EvE.orL {a b : Expr} {pos : Pos} {ma mb : Mo PV} (ha : EvE C a ma) (hb : EvE C b mb) : EvE C (.BoolOp .Or [a, b] pos) (orLM ma mb) := by
  intro φ st s r st' R hm
  obtain ⟨v, st₁, h1, hq⟩ := bindM_some hm
  clear hm
  refine BoolOp_or (wpAny_mono (ha φ st s v st₁ R h1) (fun cv s₁ hp => ?_) fun _ _ x => x)
  obtain ⟨φ₁, X₁, R₁, v₁⟩ := hp
  split at hq
  · rename_i k
    split at hq
    · rename_i xs hmem
      split at hq
      · rename_i hlt
        obtain ⟨A, hA, rfl⟩ := id v₁
        obtain ⟨items, hl, hr⟩ := R₁.listAt hmem hA
        have hlen := hr.length
        have hsz : items.size = xs.length := by simpa using hlen
        refine wpAny_truthy_list hl.isList (by omega) ?_
        split at hq
        · rename_i h0
          have e : (!items.isEmpty) = false := by
            have : items.size = 0 := by omega
            simp [Array.isEmpty, this]
          rw [e, if_neg (by simp)]
          exact BoolOp_one (wpAny_mono (hb φ₁ st₁ _ r st' (R₁.toks (s₁.toks + 1 + 1)) hq) (fun _ _ x => x.trans X₁) fun _ _ x => x)
        · rename_i h0
          cases hq
          have e : (!items.isEmpty) = true := by
            have : items.size ≠ 0 := by omega
            simp [Array.isEmpty, this]
          rw [e, if_pos rfl]
          exact ⟨φ₁, X₁, R₁.toks _, v₁⟩
      · cases hq
    · cases hq
  · cases hq

/-! the first places of a list that is handed in -/
def upToBM (bs : Addr) (xs : List PV) (n : Nat) (m : Mo PV) : Mo PV := bindM m fun v st => match v with
  | .fl (.obj a) => if a = bs ∧ xs.length < 2 ^ 20 then newL (xs.take n) st else none
  | _ => none
theorem EvE.upToB {bs : Addr} {xs : List PV} (H : BaseList C bs xs) {v : Expr} {n : Nat} {ck} {cp p pos : Pos} {m : Mo PV} (hv : EvE C v m) :
    EvE C (.Subscript v (.Slice none (some (.Constant (.int (n : Int)) ck cp)) none p) pos) (upToBM bs xs n m) := by
  intro φ st s r st' R hm
  obtain ⟨u, st₁, h1, hq⟩ := bindM_some hm
  clear hm
  split at hq
  · rename_i a
    split at hq
    · rename_i hc
      obtain ⟨rfl, hc⟩ := hc
      cases hq
      refine Subscript_ (wpAny_mono (hv φ st s _ st₁ R h1) (fun ca s₁ hp => ?_) fun _ _ x => x)
      obtain ⟨φ₁, X₁, R₁, v₁⟩ := hp
      rw [show ca = .ref a from v₁]
      refine wpAny_Slice ?_
      rw [evalPart_none]
      refine wpAny_pure ?_
      rw [evalPart_some]
      refine wpAny_Constant_int ?_
      refine wpAny_pure ?_
      obtain ⟨items, hl, hr⟩ := H
      have hlen := hr.length
      have hsz : items.size = xs.length := by simpa using hlen
      have hl2 := hl.at fun o e => R₁.keep _ _ e
      have R₂ := R₁.toks (s₁.toks + 1)
      refine tail_any (hl2.push _).typeIs slot_list_getitem.lookup (wpAny_getItem_list_slice (hl2.push _) (Heap.IsSliceOf.new ..) .none (.int _ _) .none (by simp) ?_ (by rw [sizeLine_eq]; omega)) (ops := [_, _]) rfl
      have Rp := R₂.push { cls := .type "slice", data := .fields #[.none, .int (n : Int) s₁.toks, .none] }
      have K0 : Keep C.s₀.heap (s₁.heap.push { cls := .type "slice", data := .fields #[.none, .int (n : Int) s₁.toks, .none] }) := Keep.all fun _ _ e => Heap.get?_push_of_some _ (R₁.keep _ _ e)
      have W := Rp.alloc (o := { cls := .type "list", data := .seq (slicePick items none (some (n : Int)) none) }) (mo := .list (xs.take n)) fun φ' hp => ⟨_, ⟨0, Heap.get?_push_size _ rfl⟩, by
        rw [slicePick_upto']
        exact RVs.take (hr.mono List.nil_prefix (K0.trans (Keep.all fun _ _ e => Heap.get?_push_of_some _ e))) n⟩
      have XX : ExtE C φ₁ s₁.heap φ₁ (s₁.heap.push { cls := .type "slice", data := .fields #[.none, .int (n : Int) s₁.toks, .none] }) := ExtE.all fun _ _ e => Heap.get?_push_of_some _ e
      have esz : (s₁.heap.push { cls := .type "slice", data := .fields #[.none, .int (n : Int) s₁.toks, .none] }).objs.size = s₁.heap.objs.size + 1 := Heap.size_push _ _
      rw [esz] at W
      dsimp only
      rw [esz]
      refine ⟨_, X₁.trans (XX.trans W.2), W.1, s₁.heap.objs.size + 1, ?_, rfl⟩
      rw [← R₁.memlen]; simp
    · cases hq
  · cases hq
end
end Mine

/-! Ref20 -/
namespace Mine

theorem PM.at {zs : List (List Int × Addr × Value)} {xs : List ((Nat × Nat) × Int)} (x : PM zs xs) (p : Nat × Nat) : match xs.lookup p with
    | some v => ∃ b t, atKey zs [(p.1 : Int), (p.2 : Int)] = some (b, .int v t)
    | none => atKey zs [(p.1 : Int), (p.2 : Int)] = none := by
  induction x with
  | nil => rfl
  | @cons zs xs q i b t hr ih =>
    rw [List.lookup_cons]
    by_cases h : p = q
    · subst h
      rw [beq_self_eq_true]
      exact ⟨b, t, by simp [atKey]⟩
    · have hb : (p == q) = false := by simpa using h
      have hk : ¬ [(q.1 : Int), (q.2 : Int)] = [(p.1 : Int), (p.2 : Int)] := fun e => by
        injection e with e1 e2
        injection e2 with e2 _
        exact h (Prod.ext (Int.ofNat.inj e1.symm) (Int.ofNat.inj e2.symm))
      rw [hb]
      have e : atKey (([(q.1 : Int), (q.2 : Int)], b, .int i t) :: zs) [(p.1 : Int), (p.2 : Int)] = atKey zs [(p.1 : Int), (p.2 : Int)] := by
        unfold atKey
        rw [List.find?_cons, decide_eq_false hk]
      rw [e]; exact ih
theorem PM.snoc {zs : List (List Int × Addr × Value)} {xs : List ((Nat × Nat) × Int)} (x : PM zs xs) (p : Nat × Nat) (i : Int) (b : Addr) (t : Tok) : PM (zs ++ [([(p.1 : Int), (p.2 : Int)], b, .int i t)]) (xs ++ [(p, i)]) := by
  induction x with
  | nil => exact .cons p i b t .nil
  | cons q j b' t' _ ih => exact .cons q j b' t' ih
theorem PM.length {zs : List (List Int × Addr × Value)} {xs : List ((Nat × Nat) × Int)} (x : PM zs xs) : zs.length = xs.length := by
  induction x with
  | nil => rfl
  | cons _ _ _ _ _ ih => simp [ih]
theorem dict_notTuple {prog : Program} {w : World} {h : Heap} {a : Addr} {zs} (S : h.DictOfH (tupleKind (intKind prog w)) a zs) (its : Array Value) : ¬ h.IsTuple a its := by
  obtain ⟨o, es, ep, h1, h2, _⟩ := S
  rintro ⟨o', ho, hc, _⟩
  rw [h1] at ho; cases ho
  rw [h2.1] at hc
  exact absurd (Value.type.inj hc) (by decide)

section
variable {C : Cx}

/-! {} -/
def newPM : Mo PV := fun st => some (.fl (.ref st.mem.length), { st with mem := st.mem ++ [.pmap []] })
theorem EvE.dictNew {pos : Pos} : EvE C (.Dict [] [] pos) newPM := by
  intro φ st s v st' R hm
  cases hm
  refine wpAny_Dict_empty ?_
  have hd : ∀ p w, (s.heap.push { cls := .type "dict", data := .dict #[] }).DictOfH (tupleKind (intKind p w)) s.heap.objs.size [] := fun p w => Heap.DictOfH.new _
  have W := R.alloc (o := { cls := .type "dict", data := .dict #[] }) (mo := .pmap []) fun φ' _ => ⟨[], hd, .nil, C.prog, C.w, hd _ _⟩
  refine ⟨_, W.2, W.1, _, ?_, rfl⟩
  rw [← R.memlen]; simp

/-! d[i, j] -/
noncomputable def pmGetF (st : St) : PV → PV → Option PV
  | .fl (.ref k), .tup [.int i, .int j] => if pd (0 ≤ i ∧ 0 ≤ j) = true then (match st.mem[k]? with | some (.pmap xs) => (xs.lookup (i.toNat, j.toNat)).map fun v => .fl (.int v) | _ => none) else none
  | _, _ => none
noncomputable def pmGetM (mv mi : Mo PV) : Mo PV := bindM mv fun a => bindM mi fun b => fun st => (pmGetF st a b).map (·, st)
theorem EvE.pmGet (O : C.Ok) {v i : Expr} {pos} {mv mi : Mo PV} (hv : EvE C v mv) (hi : EvE C i mi) (hs : ∀ o x, subscripted i false o x = operate [o, x] (getItem o x)) : EvE C (.Subscript v i pos) (pmGetM mv mi) := by
  intro φ st s r st' R hm
  obtain ⟨a, st₁, h1, hm1⟩ := bindM_some hm
  obtain ⟨b, st₂, h2, hm2⟩ := bindM_some hm1
  obtain ⟨c, hc, e⟩ := Option.map_eq_some_iff.mp hm2
  cases e
  clear hm hm1 hm2
  refine Subscript_ (ev2 hv hi R h1 h2 fun φ₂ ca cb s₂ X₂ R₂ ra rb => ?_)
  unfold pmGetF at hc
  split at hc
  · rename_i k i j
    split at hc
    · rename_i hij
      obtain ⟨z0, g0⟩ := pd_of hij
      split at hc
      · rename_i xs hmem
        obtain ⟨u, hu, rfl⟩ := Option.map_eq_some_iff.mp hc
        obtain ⟨A, hA, rfl⟩ := ra
        obtain ⟨x, items, rfl, ht, hr⟩ := rb
        obtain ⟨zs, hd, hp, _⟩ := R₂.mem k _ A hmem hA
        obtain ⟨i, rfl⟩ := Int.eq_ofNat_of_zero_le z0
        obtain ⟨j, rfl⟩ := Int.eq_ofNat_of_zero_le g0
        have hk := (RFs.pair ht hr).key (prog := C.prog) (w := C.w)
        have hat := hp.at (i, j)
        have hu' : xs.lookup (i, j) = some u := by simpa using hu
        rw [hu'] at hat
        obtain ⟨b, t, hat⟩ := hat
        have hd' := hd C.prog C.w
        have hu1 : (tupleKind (intKind C.prog C.w)).room C.A.in1 := by show C.A.units + 1 < cLine; have := O.hu; omega
        refine tail_any hd'.typeIs PySem.slot_dict_getitem.lookup (wpAny_getItem_heap hu1 hk hd' hat ?_) (hs _ _)
        exact ⟨φ₂, X₂, R₂.toks _, t, rfl⟩
      · cases hc
    · cases hc
  · cases hc

/-! d[i, j] = v, a new place -/
noncomputable def pmSetF (v : PV) : PV → PV → St → Option St
  | .fl (.ref k), .tup [.int i, .int j], st => if pd (0 ≤ i ∧ 0 ≤ j) = true then (match st.mem[k]?, v with
    | some (.pmap xs), .fl (.int u) => if pd (xs.lookup (i.toNat, j.toNat) = none ∧ xs.length < 2 ^ 20) = true then some (setMem k (.pmap (xs ++ [((i.toNat, j.toNat), u)])) st) else none
    | _, _ => none) else none
  | _, _, _ => none
noncomputable def pmSetM (mo mi : Mo PV) (v : PV) : Mo Unit := bindM mo fun a => bindM mi fun b => fun st => (pmSetF v a b st).map ((), ·)
theorem EvTg.pmSet (O : C.Ok) {o i : Expr} {pos : Pos} {mo mi : Mo PV} (ho : EvE C o mo) (hi : EvE C i mi) : EvTg C (.Subscript o i pos) (pmSetM mo mi) := by
  intro φ st s cv v st' R hv hm
  obtain ⟨a, st₁, h1, hm1⟩ := bindM_some hm
  obtain ⟨b, st₂, h2, hm2⟩ := bindM_some hm1
  obtain ⟨st₃, hc, e⟩ := Option.map_eq_some_iff.mp hm2
  cases e
  clear hm hm1 hm2
  rw [arm_assign_Subscript]
  refine wpAny_bind (wpAny_holding (wpAny_mono (ho φ st s a st₁ R h1) (fun ca s₁ h => ?_) fun _ _ x => x))
  obtain ⟨φ₁, X₁, R₁, v₁⟩ := h
  refine wpAny_bind (wpAny_holding (wpAny_mono (hi φ₁ st₁ s₁ b st₂ R₁ h2) (fun cb s₂ h => ?_) fun _ _ x => x))
  obtain ⟨φ₂, X₂, R₂, v₂⟩ := h
  have v₁' := v₁.mono X₂.pre X₂.tup
  have hv' := hv.mono (X₁.trans X₂).pre (X₁.trans X₂).tup
  unfold pmSetF at hc
  split at hc
  · rename_i k i j
    split at hc
    · rename_i hij
      obtain ⟨z0, g0⟩ := pd_of hij
      split at hc
      · rename_i xs u hmem
        split at hc
        · rename_i hnew
          obtain ⟨hnew, hlen⟩ := pd_of hnew
          cases hc
          obtain ⟨A, hA, rfl⟩ := v₁'
          obtain ⟨x, items, rfl, ht, hr⟩ := v₂
          obtain ⟨tu, rfl⟩ := hv'
          obtain ⟨zs, hd, hp, _⟩ := R₂.mem k _ A hmem hA
          obtain ⟨i, rfl⟩ := Int.eq_ofNat_of_zero_le z0
          obtain ⟨j, rfl⟩ := Int.eq_ofNat_of_zero_le g0
          have hk := (RFs.pair ht hr).key (prog := C.prog) (w := C.w)
          have hnew' : xs.lookup (i, j) = none := by simpa using hnew
          have hat := hp.at (i, j)
          rw [hnew'] at hat
          have hat : atKey zs [(i : Int), (j : Int)] = none := hat
          have hd' := hd C.prog C.w
          have hzl := hp.length
          have hu1 : (tupleKind (intKind C.prog C.w)).room C.A.in1 := by show C.A.units + 1 < cLine; have := O.hu; omega
          refine wpAny_bind (wpAny_standAt (wpAny_bind (wpAny_holding (wpAny_setItem_heap hu1 hk hd' (fun h' hm' hs' => wpAny_release ?_) (by rw [sizeLine_eq]; omega)))))
          have hst : storedH zs [(i : Int), (j : Int)] x (.int u tu) = zs ++ [([(i : Int), (j : Int)], x, .int u tu)] := by
            unfold storedH; rw [hat]; rfl
          rw [hst] at hm'
          have W := R₂.update (tk := s₂.toks + (tupleKind (intKind C.prog C.w)).draws [(i : Int), (j : Int)]) hA hs' (dict_notTuple hd') (mo := .pmap (xs ++ [((i, j), u)])) fun K => ⟨_, fun p w => dictAny hm', hp.snoc (i, j) u x tu, C.prog, C.w, hm'⟩
          exact ⟨φ₂, (X₁.trans X₂).toExt.trans W.2, W.1⟩
        · cases hc
      · cases hc
    · cases hc
  · cases hc

/-! min of three -/
def min3F : List PV → Option PV
  | [.fl (.int a), .fl (.int b), .fl (.int c)] => some (.fl (.int (min (min a b) c)))
  | _ => none
def min3M (ms : List (Mo PV)) : Mo PV := bindM (seqM ms) fun vs => liftO (min3F vs)
theorem EvE.min3 (O : C.Ok) {p pos : Pos} {es : List Expr} {ms : List (Mo PV)} (B : IsBuiltin C "min" (.builtin "min")) (h : EvEs C es ms) (hne : es ≠ []) : EvE C (.Call (.Name "min" p) es [] pos) (min3M ms) := by
  intro φ st s r st' R hm
  obtain ⟨vs, st₁, e1, hm1⟩ := bindM_some hm
  obtain ⟨hc, rfl⟩ := liftO_some hm1
  refine wpAny_Call_NameR (B.eval O R (by decide) ?_)
  refine Calls.callWith_builtin (noStar h pos) (evalArgs_some h hne _ pos (wpAny_mono (evs_spliced h pos R e1) (fun cvs s₁ h => ?_) fun _ _ x => x))
  obtain ⟨φ₁, X₁, R₁, v₁⟩ := h
  unfold min3F at hc
  split at hc
  · rename_i a b c
    cases hc
    match cvs, v₁ with
    | [_, _, _], ⟨⟨t, rfl⟩, ⟨u, rfl⟩, ⟨x, rfl⟩, _⟩ =>
      refine min_three_ints O.hh fun h' tk hk => ⟨φ₁, X₁.trans (ExtE.all hk), R₁.kept hk, ?_⟩
      by_cases h1 : b < a
      · by_cases h2 : c < b
        · rw [if_pos h1, if_pos h2, show min (min a b) c = c by omega]; exact RV.int
        · rw [if_pos h1, if_neg h2, show min (min a b) c = b by omega]; exact RV.int
      · by_cases h2 : c < a
        · rw [if_neg h1, if_pos h2, show min (min a b) c = c by omega]; exact RV.int
        · rw [if_neg h1, if_neg h2, show min (min a b) c = a by omega]; exact RV.int
  · cases hc
end
end Mine

/-! Ref21 -/
namespace Mine
section
variable {C : Cx}

/-! l[i:j] of an own list -/
def slF2 (st : St) : PV → PV → PV → Option (List PV)
  | .fl (.ref k), .fl (.int i), .fl (.int j) => match st.mem[k]? with
    | some (.list xs) => if xs.length ≤ 2 ^ 20 ∧ 0 ≤ i ∧ i ≤ j then some ((xs.drop i.toNat).take (j - i).toNat) else none
    | _ => none
  | _, _, _ => none
def slice2M (ml lo hi : Mo PV) : Mo PV := bindM ml fun a => bindM lo fun l => bindM hi fun h st => match slF2 st a l h with
  | some ys => newL ys st
  | none => none
theorem pick2 (items : Array Value) (a b : Nat) (h : a ≤ b) : slicePick items (some (a : Int)) (some (b : Int)) none = ((items.toList.drop a).take (b - a)).toArray := by
  rw [slicePick_plain]
  simp only [Option.elim, clipAt_nat]
  congr 1
  rcases Nat.le_total a items.size with h1 | h1
  · rw [Nat.min_eq_left h1]
    rcases Nat.le_total b items.size with h2 | h2
    · rw [Nat.min_eq_left h2]
    · rw [Nat.min_eq_right h2, List.take_of_length_le (i := items.size - a) (by simp), List.take_of_length_le (i := b - a) (by simp; omega)]
  · rw [Nat.min_eq_right h1, List.drop_of_length_le (by simp), List.drop_of_length_le (i := a) (by simpa using h1)]; simp
theorem EvE.slice2 {v lo hi : Expr} {p pos : Pos} {ml mlo mhi : Mo PV} (hv : EvE C v ml) (hlo : EvE C lo mlo) (hhi : EvE C hi mhi) : EvE C (.Subscript v (.Slice (some lo) (some hi) none p) pos) (slice2M ml mlo mhi) := by
  intro φ st s r st' R hm
  obtain ⟨a, st₁, h1, hm1⟩ := bindM_some hm
  obtain ⟨l, st₂, h2, hm2⟩ := bindM_some hm1
  obtain ⟨u, st₃, h3, hm3⟩ := bindM_some hm2
  clear hm hm1 hm2
  cases hs : slF2 st₃ a l u with
  | none => simp only [hs] at hm3; cases hm3
  | some ys =>
    simp only [hs] at hm3
    cases hm3
    refine Subscript_ (wpAny_mono (hv φ st s a st₁ R h1) (fun ca s₁ hp => ?_) fun _ _ x => x)
    obtain ⟨φ₁, X₁, R₁, v₁⟩ := hp
    refine wpAny_Slice ?_
    rw [evalPart_some]
    refine wpAny_mono (hlo φ₁ st₁ s₁ l st₂ R₁ h2) (fun cl s₂ hp => ?_) fun _ _ x => x
    obtain ⟨φ₂, X₂, R₂, v₂⟩ := hp
    rw [evalPart_some]
    refine wpAny_mono (hhi φ₂ st₂ s₂ u st₃ R₂ h3) (fun cu s₃ hp => ?_) fun _ _ x => x
    obtain ⟨φ₃, X₃, R₃, v₃⟩ := hp
    rw [evalPart_none]
    refine wpAny_pure ?_
    have v₁' := (v₁.mono X₂.pre X₂.tup).mono X₃.pre X₃.tup
    have v₂' := v₂.mono X₃.pre X₃.tup
    unfold slF2 at hs
    split at hs
    · rename_i k i j
      split at hs
      · rename_i xs hmem
        split at hs
        · rename_i hc
          obtain ⟨c1, c2, c3⟩ := hc
          cases hs
          obtain ⟨A, hA, rfl⟩ := v₁'
          obtain ⟨t1, rfl⟩ := v₂'
          obtain ⟨t2, rfl⟩ := v₃
          obtain ⟨items, hl, hr⟩ := R₃.listAt hmem hA
          have hlen := hr.length
          have hsz : items.size = xs.length := by simpa using hlen
          obtain ⟨i, rfl⟩ := Int.eq_ofNat_of_zero_le c2
          obtain ⟨j, rfl⟩ := Int.eq_ofNat_of_zero_le (Int.le_trans c2 c3)
          refine tail_any (hl.isList.push _).typeIs slot_list_getitem.lookup (wpAny_getItem_list_slice (hl.isList.push _) (Heap.IsSliceOf.new ..) (.int _ _) (.int _ _) .none (by simp) ?_ (by rw [sizeLine_eq]; omega)) (ops := [_, _]) rfl
          have Rp := R₃.push { cls := .type "slice", data := .fields #[.int (i : Int) t1, .int (j : Int) t2, .none] }
          have K1 : Keep s₃.heap (s₃.heap.push { cls := .type "slice", data := .fields #[.int (i : Int) t1, .int (j : Int) t2, .none] }) := Keep.all fun _ _ e => Heap.get?_push_of_some _ e
          have ej : ((j : Int) - (i : Int)).toNat = j - i := by omega
          have W := Rp.alloc (o := { cls := .type "list", data := .seq (slicePick items (some (i : Int)) (some (j : Int)) none) }) (mo := .list ((xs.drop (i : Int).toNat).take ((j : Int) - (i : Int)).toNat)) fun φ' hp => ⟨_, ⟨0, Heap.get?_push_size _ rfl⟩, by
            rw [pick2 items i j (by omega), ej, Int.toNat_natCast]
            exact RVs.take (RVs.drop (hr.mono hp (K1.trans (Keep.all fun _ _ e => Heap.get?_push_of_some _ e))) i) (j - i)⟩
          have XX : ExtE C φ₃ s₃.heap φ₃ (s₃.heap.push { cls := .type "slice", data := .fields #[.int (i : Int) t1, .int (j : Int) t2, .none] }) := ExtE.all fun _ _ e => Heap.get?_push_of_some _ e
          have esz : (s₃.heap.push { cls := .type "slice", data := .fields #[.int (i : Int) t1, .int (j : Int) t2, .none] }).objs.size = s₃.heap.objs.size + 1 := Heap.size_push _ _
          rw [esz] at W
          dsimp only
          rw [esz]
          refine ⟨_, ((X₁.trans X₂).trans X₃).trans (XX.trans W.2), W.1, s₃.heap.objs.size + 1, ?_, rfl⟩
          rw [← R₃.memlen]; simp
        · cases hs
      · cases hs
    · cases hs

/-! a text times a whole number -/
def mulSF : PV → PV → Option PV
  | .fl (.str x), .fl (.int n) => if 1 ≤ n ∧ n ≤ 1000 ∧ x.length ≤ 1000 then some (.fl (.str (if n = 1 ∨ x.length = 0 then x else ⟨(List.replicate n.toNat x.cps).foldl (· ++ ·) #[]⟩))) else none
  | _, _ => none
def mulSM (ml mr : Mo PV) : Mo PV := bindM ml fun a => bindM mr fun b => liftO (mulSF a b)
theorem rep_size : ∀ (n : Nat) (x acc : Array Nat), ((List.replicate n x).foldl (· ++ ·) acc).size = acc.size + n * x.size
  | 0, x, acc => by simp
  | n + 1, x, acc => by rw [List.replicate_succ, List.foldl_cons, rep_size n, Array.size_append, Nat.succ_mul]; omega
theorem EvE.mulS {l r : Expr} {pos} {ml mr : Mo PV} (hl : EvE C l ml) (hr : EvE C r mr) : EvE C (.BinOp l .Mult r pos) (mulSM ml mr) := by
  intro φ st s v st' R hm
  obtain ⟨a, st₁, h1, hm1⟩ := bindM_some hm
  obtain ⟨b, st₂, h2, hm2⟩ := bindM_some hm1
  obtain ⟨hc, rfl⟩ := liftO_some hm2
  refine wpAny_BinOp (ev2 hl hr R h1 h2 fun φ₂ ca cb s₂ X₂ R₂ ra rb => ?_)
  unfold mulSF at hc
  split at hc
  · rename_i x n
    split at hc
    · rename_i hn
      obtain ⟨n1, n2, n3⟩ := hn
      cases hc
      obtain ⟨t, rfl⟩ := ra; obtain ⟨u, rfl⟩ := rb
      have hmul : x.length * n.toNat ≤ 1000000 := by
        have : n.toNat ≤ 1000 := by omega
        exact Nat.mul_le_mul n3 this
      refine PySem.P.mul_str (by simp only [Bool.or_eq_false_iff, decide_eq_false_iff_not]; omega) (fun _ _ => ?_) (fun _ _ => ?_) ?_
      · have h0 : (1000 : Int) ≤ (2 ^ 63 - 1) / n := by
          have h5 : (2 ^ 63 - 1 : Int) / 1000 ≤ (2 ^ 63 - 1) / n := by
            refine Int.le_ediv_of_mul_le (by omega) ?_
            have : (2 ^ 63 - 1 : Int) / 1000 * n ≤ (2 ^ 63 - 1 : Int) / 1000 * 1000 := Int.mul_le_mul_of_nonneg_left n2 (by decide)
            exact Int.le_trans this (by decide)
          exact Int.le_trans (by decide) h5
        omega
      · unfold Builtin.Str.tooLong
        simp only [decide_eq_false_iff_not]
        rw [sizeLine_eq]
        omega
      · rw [if_neg (by omega)]
        by_cases h : n = 1 ∨ x.length = 0
        · have e : (n == 1 || x.length == 0) = true := by simpa using h
          rw [if_pos e, if_pos h]
          exact ⟨φ₂, X₂, R₂, RV.str⟩
        · have e : ¬ (n == 1 || x.length == 0) = true := by simpa using h
          rw [if_neg e, if_neg h]
          refine ⟨?_, φ₂, X₂, R₂.toks _, RV.str⟩
          show Array.size _ ≤ _
          rw [rep_size, sizeLine_eq]
          show 0 + n.toNat * x.length ≤ _
          rw [Nat.mul_comm]; omega
    · cases hc
  · cases hc

/-! for over a tuple that is written out -/
def loopT (f : PV → Mo Unit) (b : Mo Fl) : List FV → Mo Fl
  | [] => fun st => some (.next, st)
  | x :: r => bindM (f (.fl x)) fun _ => bindM b fun fl => match fl with
      | .next => loopT f b r
      | .cont => loopT f b r
      | .brk => fun st => some (.next, st)
      | .ret v => fun st => some (.ret v, st)
def forTupM (m : Mo PV) (f : PV → Mo Unit) (b : Mo Fl) : Mo Fl := bindM m fun v => match v with
  | .tup fs => loopT f b fs
  | _ => fun _ => none
theorem tupIter_notTuple {h : Heap} {I l : Addr} {i : Nat} (hi : h.IsTupleIter I l i) (items : Array Value) : ¬ h.IsTuple I items := by
  rintro ⟨o, ho, hc, _⟩
  obtain ⟨o', ho', hc', _⟩ := hi
  rw [ho'] at ho
  cases ho
  rw [hc] at hc'
  exact absurd (Value.type.inj hc') (by decide)
theorem RFs.dropA {φ : List Addr} : ∀ {vs : List Value} {fs : List FV}, RFs φ vs fs → ∀ n, RFs φ (vs.drop n) (fs.drop n)
  | _, _, x, 0 => x
  | [], [], _, _ + 1 => trivial
  | _ :: _, _ :: _, x, n + 1 => RFs.dropA x.2 n
theorem loopT_ok (O : C.Ok) {t : Expr} {body : List Stmt} {f : PV → Mo Unit} {mb : Mo Fl} (ht : EvTg C t f) (hb : EvB C body mb) {I T : Addr} (htu : ∀ v, letOwnedTupleGo t (.ref I) v = pure ())
    {φ₀ : List Addr} {h₀ : Heap} (hI : h₀.get? I = none) {fl : Fl} {st' : St} {Q : Flow → Shared → Prop} (hQ : ∀ cf s', PostF C φ₀ h₀ st' fl cf s' → Q cf s') {items : Array Value} {fs : List FV}
    {φ st s} (X : Ext C φ₀ h₀ φ s.heap) (R : Rep C φ st s) (S : Side C φ I) (hT : s.heap.IsTuple T items) (hfs : RFs φ items.toList fs) (hit : s.heap.IsTupleIter I T 0) (hm : loopT f mb fs st = some (fl, st')) :
    codeAny C.M C.A (.forLoop t (.ref I) body [] C.env) (fun r s' => match r with | .ok f => Q f s' | .error e => cameBackBy C.M C.A C.env noE e s') s := by
  refine codeAny_forLoop (fun k s' => ∃ φ₁ st₁ i, k = (fs.length - i) + 1 ∧ i ≤ fs.length ∧ Ext C φ₀ h₀ φ₁ s'.heap ∧ Rep C φ₁ st₁ s' ∧ Side C φ₁ I ∧ s'.heap.IsTuple T items ∧ RFs φ₁ items.toList fs ∧ s'.heap.IsTupleIter I T i ∧ loopT f mb (fs.drop i) st₁ = some (fl, st')) ?_ (fs.length + 1)
    ⟨φ, st, 0, rfl, Nat.zero_le _, X, R, S, hT, hfs, hit, hm⟩ htu
  rintro k s' ⟨φ₁, st₁, i, rfl, hi, X₁, R₁, S₁, hT₁, hf₁, hit₁, h₁⟩
  have hlen := hf₁.len
  have hTI : T ≠ I := fun e => by subst e; exact tupIter_notTuple hit₁ _ hT₁
  by_cases hlt : i < fs.length
  · have hg : fs[i]? = some fs[i] := List.getElem?_eq_getElem hlt
    obtain ⟨cv, hcv, hrv⟩ := hf₁.get hg
    have hdrop : fs.drop i = fs[i] :: fs.drop (i + 1) := List.drop_eq_getElem_cons hlt
    rw [hdrop] at h₁
    obtain ⟨_, st₂, e₂, h₁⟩ := bindM_some h₁
    obtain ⟨g, st₃, e₃, h₁⟩ := bindM_some h₁
    refine wpAny_pyNext_tuple_item hit₁ hT₁ (x := cv) (by simpa using hcv) fun h' hit' hs' => ?_
    have hk : ∀ b o, b ≠ I → s'.heap.get? b = some o → h'.get? b = some o := fun b o hb e => hs'.extBut b o hb e
    have W := R₁.beside S₁ (tk := s'.toks) hk (tupIter_notTuple hit₁)
    have X₂ := X₁.beside hI hk
    have hT₂ : h'.IsTuple T items := hT₁.at fun o e => hk T o hTI e
    refine wpAny_mono (ht φ₁ st₁ _ _ (.fl fs[i]) st₂ W.1 hrv e₂) (fun _ s₃ hp => ?_) fun _ _ x => x.elim
    obtain ⟨φ₃, X₃, R₃⟩ := hp
    obtain ⟨oI, hoI, hcI, hdI⟩ := hit'
    have T₃ := S₁.ext X₃ hoI
    refine wpAny_mono (hb φ₃ st₂ s₃ g st₃ R₃ e₃) (fun cf s₄ hp => ?_) fun _ _ x => x.elim
    obtain ⟨φ₄, X₄, R₄, r₄⟩ := hp
    have T₄ := T₃.1.ext X₄ T₃.2
    have X₅ := (X₂.trans X₃).trans X₄
    have it₄ : s₄.heap.IsTupleIter I T (i + 1) := ⟨oI, T₄.2, hcI, hdI⟩
    have hT₄ : s₄.heap.IsTuple T items := X₄.tup _ _ (X₃.tup _ _ hT₂)
    have hf₄ := (hf₁.mono X₃.pre).mono X₄.pre
    cases g with
    | next => cases cf with | next => exact ⟨fs.length - (i + 1) + 1, by omega, φ₄, st₃, i + 1, rfl, hlt, X₅, R₄, T₄.1, hT₄, hf₄, it₄, h₁⟩ | _ => exact r₄.elim
    | cont => cases cf with | cont => exact ⟨fs.length - (i + 1) + 1, by omega, φ₄, st₃, i + 1, rfl, hlt, X₅, R₄, T₄.1, hT₄, hf₄, it₄, h₁⟩ | _ => exact r₄.elim
    | brk => cases h₁; cases cf with | brk => exact hQ _ _ ⟨φ₄, X₅, R₄, trivial⟩ | _ => exact r₄.elim
    | ret v => cases h₁; cases cf with | ret v => exact hQ _ _ ⟨φ₄, X₅, R₄, r₄⟩ | _ => exact r₄.elim
  · have e0 : fs.drop i = [] := List.drop_eq_nil_iff.mpr (by omega)
    rw [e0] at h₁
    cases h₁
    refine wpAny_pyNext_tuple_end O.hh hit₁ hT₁ (by
      apply Array.getElem?_eq_none
      have : items.toList.length = items.size := by simp
      omega) fun h' he' => wpAny_execs_nil (hQ _ _ ?_)
    have hk : ∀ b o, b ≠ I → s'.heap.get? b = some o → h'.get? b = some o := fun b o hb e => he' b o hb e
    have W := R₁.beside S₁ (tk := s'.toks) hk (tupIter_notTuple hit₁)
    exact ⟨φ₁, X₁.beside hI hk, W.1, trivial⟩
theorem EvS.forTup (O : C.Ok) {t e : Expr} {pos : Pos} {body : List Stmt} {m : Mo PV} {f : PV → Mo Unit} {mb : Mo Fl} (he : EvE C e m) (ht : EvTg C t f) (hb : EvB C body mb) (htu : ∀ I v, letOwnedTupleGo t (.ref I) v = pure ())
    (hs : ∀ x, foldedSetIterable e C.env x = pure x) : EvS C (.For t e body [] pos) (forTupM m f mb) := by
  intro φ st s fl st' R hm
  obtain ⟨v, st₁, e1, hm1⟩ := bindM_some hm
  clear hm
  split at hm1
  · rename_i fs
    refine wpAny_For (wpAny_mono (he φ st s _ st₁ R e1) (fun cv s₁ hp => ?_) fun _ _ x => x) hs
    obtain ⟨φ₁, X₁, R₁, v₁⟩ := hp
    obtain ⟨T, items, rfl, hT, hr⟩ := v₁
    refine wpAny_pyIter_tuple hT ?_
    have hI := get?_size s₁.heap
    have hk : ∀ b o, s₁.heap.get? b = some o → (s₁.heap.push { cls := .type "tuple_iterator", data := .fields #[.ref T, .int 0 0] }).get? b = some o := fun b o e => Heap.get?_push_of_some _ e
    refine loopT_ok O ht hb (htu _) hI (fun cf s' hp => hp.trans X₁.toExt) (Ext.all hk) (R₁.kept (tk := s₁.toks) hk) (R₁.side hI) (hT.at fun o e => hk _ _ e) hr ⟨_, Heap.get?_push_size _ rfl, rfl, rfl⟩ hm1
  · cases hm1
end
end Mine

/-! Ref22 -/
namespace Mine
section
variable {C : Cx}

/-! for over range(a, b, c), c = 5 or -1 -/
def rng3 : List PV → Option (Int × Nat × Int)
  | [.fl (.int a), .fl (.int b), .fl (.int c)] => if (c = 5 ∨ c = -1) ∧ a.natAbs ≤ 1000000 ∧ b.natAbs ≤ 1000000 then some (a, (Builtin.Range.rangeSize a b c).toNat, c) else none
  | _ => none
theorem rsize_ok {a b c : Int} (hc : c = 5 ∨ c = -1) (ha : a.natAbs ≤ 1000000) (hb : b.natAbs ≤ 1000000) : 0 ≤ Builtin.Range.rangeSize a b c ∧ Builtin.Range.rangeSize a b c ≤ 2000001 ∧ Builtin.Range.small a b c = true := by
  have h : 0 ≤ Builtin.Range.rangeSize a b c ∧ Builtin.Range.rangeSize a b c ≤ 2000001 := by
    unfold Builtin.Range.rangeSize
    rcases hc with rfl | rfl
    · rw [if_pos (by decide)]; split <;> omega
    · rw [if_neg (by decide), show (-(-1 : Int)) = 1 from rfl, Int.ediv_one]; split <;> omega
  refine ⟨h.1, h.2, ?_⟩
  unfold Builtin.Range.small Builtin.Range.rangeFitsLong
  generalize Builtin.Range.rangeSize a b c = z at *
  rcases hc with rfl | rfl
  · rw [if_pos (by decide)]
    simp only [Bool.and_eq_true, Bool.or_eq_true, decide_eq_true_eq, beq_iff_eq]; omega
  · rw [if_neg (by decide)]
    simp only [Bool.and_eq_true, Bool.or_eq_true, decide_eq_true_eq, beq_iff_eq]; omega
def forRangeSM (ms : List (Mo PV)) (f : PV → Mo Unit) (b : Mo Fl) : Mo Fl := bindM (seqM ms) fun vs => match rng3 vs with
  | some (a, n, c) => loopR f b c n a
  | none => fun _ => none
theorem EvS.forRangeS (O : C.Ok) {t : Expr} {p rpos pos : Pos} {es : List Expr} {ms : List (Mo PV)} {body : List Stmt} {f : PV → Mo Unit} {mb : Mo Fl} (B : IsBuiltin C "range" (.type "range"))
    (h : EvEs C es ms) (hne : es ≠ []) (ht : EvTg C t f) (hb : EvB C body mb) (htu : ∀ I v, letOwnedTupleGo t (.ref I) v = pure ()) (hs : ∀ x, foldedSetIterable (.Call (.Name "range" p) es [] rpos) C.env x = pure x) :
    EvS C (.For t (.Call (.Name "range" p) es [] rpos) body [] pos) (forRangeSM ms f mb) := by
  intro φ st s fl st' R hm
  obtain ⟨vs, st₁, e1, hm1⟩ := bindM_some hm
  clear hm
  cases hr : rng3 vs with
  | none => simp only [hr] at hm1; cases hm1
  | some q =>
    obtain ⟨a, n, c⟩ := q
    simp only [hr] at hm1
    unfold rng3 at hr
    split at hr
    · rename_i a' b' c'
      split at hr
      · rename_i hg
        obtain ⟨g1, g2, g3⟩ := hg
        cases hr
        obtain ⟨z1, z2, z3⟩ := rsize_ok g1 g2 g3
        refine wpAny_For (wpAny_Call_NameR (B.eval O R (by decide) ?_)) hs
        refine PySem.callWith_type (noStar h rpos) (evalArgs_all h hne _ rpos R e1 fun cvs s₁ hp => ?_)
        obtain ⟨φ₁, X₁, R₁, v₁⟩ := hp
        match cvs, v₁ with
        | [_, _, _], ⟨⟨t1, rfl⟩, ⟨t2, rfl⟩, ⟨t3, rfl⟩, _⟩ =>
          refine call_range_3 (by omega) ?_ (Or.inl (PyProof.noPylong_small (by omega)))
          refine wpAny_pyIter_range (IsRange.new ..) z3 ?_
          have en : Builtin.Range.rangeSize a b' c = ((Builtin.Range.rangeSize a b' c).toNat : Int) := by omega
          rw [en]
          have hk : ∀ d o', s₁.heap.get? d = some o' → ((s₁.heap.push { cls := .type "range", data := .fields #[.int a t1, .int b' t2, .int c t3] }).push { cls := .type "range_iterator", data := .fields #[rawInt a, rawInt ((Builtin.Range.rangeSize a b' c).toNat : Int), rawInt c] }).get? d = some o' :=
            fun _ _ e => Heap.get?_push_of_some _ (Heap.get?_push_of_some _ e)
          have hI : s₁.heap.get? (s₁.heap.push { cls := .type "range", data := .fields #[.int a t1, .int b' t2, .int c t3] }).objs.size = none := by
            cases e : s₁.heap.get? (s₁.heap.push { cls := .type "range", data := .fields #[.int a t1, .int b' t2, .int c t3] }).objs.size with
            | none => rfl
            | some o' => exact absurd (Heap.lt_size e) (by rw [Heap.size_push]; exact Nat.not_lt.mpr (Nat.le_succ _))
          exact loopR_ok O ht hb (htu _) hI (fun cf s' hp => hp.trans X₁.toExt) (Ext.all hk) (R₁.kept (tk := s₁.toks) hk) (R₁.side hI) (by show Heap.get? _ _ = _; exact Heap.get?_push_size _ rfl) hm1
      · cases hr
    · cases hr

theorem EvE.boolC {b : Bool} {k pos} : EvE C (.Constant (.bool b) k pos) (cst (.fl (.bool b))) := by
  intro φ st s v st' R hm
  cases hm
  show wpAny C.M C.A (pure (Value.bool b)) _ _ s
  exact wpAny_pure (PostV.pure R RV.bool s.toks)

/-! isinstance -/
def isiBoolM (m : Mo PV) : Mo PV := bindM m fun v st => match v with | .fl (.int _) => some (.fl (.bool false), st) | _ => none
theorem EvE.isiBool (O : C.Ok) {e : Expr} {p np pos : Pos} {m : Mo PV} (B : IsBuiltin C "isinstance" (.builtin "isinstance")) (B2 : IsBuiltin C "bool" (.type "bool")) (h : EvE C e m)
    (hst : starEach [e, .Name "bool" np] C.env = [(false, eval e C.env), (false, eval (.Name "bool" np) C.env)]) : EvE C (.Call (.Name "isinstance" p) [e, .Name "bool" np] [] pos) (isiBoolM m) := by
  intro φ st s v st' R hm
  obtain ⟨u, st₁, h1, hm1⟩ := bindM_some hm
  clear hm
  split at hm1
  · rename_i i
    cases hm1
    refine wpAny_Call_NameR (B.eval O R (by decide) ?_)
    rw [hst]
    refine Calls.callWith_builtin (by rfl) (Calls.evalArgs_plain (Calls.spliced_cons (wpAny_mono (h φ st s _ _ R h1) (fun cv s₁ hp => ?_) fun _ _ x => x)))
    obtain ⟨φ₁, X₁, R₁, t, rfl⟩ := hp
    refine Calls.spliced_cons (B2.eval O R₁ (by decide) (Calls.spliced_nil ?_))
    exact PySem.IsiPair.int_bool ⟨φ₁, X₁, R₁.toks _, rfl⟩
  · cases hm1
/-- an own object asked for a class of the text -/
def isiClsM (cls : List Addr) (m : Mo PV) : Mo PV := bindM m fun v st => match v with
  | .fl (.ref k) => (match st.mem[k]? with
    | some (.inst cl kd) => if cls.contains cl then (match st.mem[kd]? with | some (.adict _) => some (.fl (.bool true), st) | _ => none) else none
    | _ => none)
  | _ => none
theorem EvE.isiCls (O : C.Ok) {x : Str} {D : Addr} {cls : List Addr} {e : Expr} {p np pos : Pos} {m : Mo PV} (B : IsBuiltin C "isinstance" (.builtin "isinstance")) (G : IsGlobal C x (.ref D)) (hd : (x == ("__debug__" : Str)) = false) (h : EvE C e m)
    (hi : ∀ cl ∈ cls, isIn C.K (.ref cl) D = true) (hst : starEach [e, .Name x np] C.env = [(false, eval e C.env), (false, eval (.Name x np) C.env)]) : EvE C (.Call (.Name "isinstance" p) [e, .Name x np] [] pos) (isiClsM cls m) := by
  intro φ st s v st' R hm
  obtain ⟨u, st₁, h1, hm1⟩ := bindM_some hm
  clear hm
  split at hm1
  · rename_i k
    split at hm1
    · rename_i cl kd hk
      split at hm1
      · rename_i hcl
        split at hm1
        · rename_i fs hkd
          cases hm1
          refine wpAny_Call_NameR (B.eval O R (by decide) ?_)
          rw [hst]
          refine Calls.callWith_builtin (by rfl) (Calls.evalArgs_plain (Calls.spliced_cons (wpAny_mono (h φ st s _ _ R h1) (fun cv s₁ hp => ?_) fun _ _ x => x)))
          obtain ⟨φ₁, X₁, R₁, v₁⟩ := hp
          obtain ⟨a, ha, rfl⟩ := v₁
          refine Calls.spliced_cons (G.eval O R₁ hd (Calls.spliced_nil ?_))
          obtain ⟨dx, des, n, g1, I, g3, g4⟩ := R₁.instAt hk ha hkd
          exact isi_call (O.kin.keeps R₁.keep) (fun M => I.type) (hi cl (List.contains_iff_mem.mp hcl)) (fun e => nomatch e) ⟨φ₁, X₁, R₁, rfl⟩
        · cases hm1
      · cases hm1
    · cases hm1
  · cases hm1
end
end Mine

/-! Ref23 -/
namespace Mine

/-! a whole number beside an object that is equal just to itself -/
theorem int_declines_inst (b : Int) (u : Tok) (l : Addr) (o : Obj) (hd : o.data = .plain) :
    Meets (Builtin.«int.__eq__» ⟨[.int b u, .ref l], []⟩) (fun _ R s => s.heap.get? l = some o ∧ R (.ok (.ret .notImplemented)) s) :=
  .of_wp fun prog w A R s h => by
    obtain ⟨hp, g, d, tk, os⟩ := s
    obtain ⟨cls, dd, dat, sl⟩ := o
    obtain ⟨hl, h⟩ := h
    simp only at hd
    subst hd
    wp_walk using wpAny_load hl
    exact ⟨_, rfl, h⟩
theorem objEq_int {A : Around} {E : Value → Shared → Prop} {M : Model} {s : Shared} {x : Addr} {b : Int} {u : Tok} {Q : Fin → Shared → Prop} (hq : Q (.done (.ret .notImplemented)) s) : wpAny M A (Builtin.«object.__eq__» ⟨[.ref x, .int b u], []⟩) Q E s := by
  unfold Builtin.«object.__eq__»
  repeat (first | with_reducible refine wpAny_isSame_plain (by rfl) ?_ | wp_step)
  exact hq
theorem eq_int_object {cl y : Addr} {oy : Obj} {od : Option Obj} {E : Value → Shared → Prop} {s : Shared} {K : Frag} {prog : Program} {w : World} {A : Around} {b : Int} {u : Tok} (hu : A.units < cLine) (X : K.In s.heap) (S : SelfEq K cl)
    (hi : mroIn K cl (.type "int") = some false) (J : W.InstAt s.heap y oy cl od) (hpl : oy.data = .plain) {Q : Value → Shared → Prop} (h : Q (.bool false) s) : wpAny (model prog w) A (compareOp .Eq (.int b u) (.ref y)) Q E s := by
  have sub : Looks (model prog w) s.heap (isInstance (.ref y) (.type "object")) true := J.type.andThen (looks_mroIn X S.obj)
  refine cmp_ofEq ?_
  unfold richCompare
  refine wpAny_holding (wpAny_bind (wpAny_cRoomFor hu ?_))
  have e1 : oneThing? .Eq (.int b u) (.ref y) = none := rfl
  rw [e1]
  dsimp only
  refine wpAny_bind (wpAny_pure (wpAny_bind (J.type.here ?_)))
  rw [if_pos (by simp)]
  refine wpAny_bind ((looks_mroIn X hi).here ?_)
  simp only [Bool.false_eq_true, if_false]
  have eqc : wpAny (model prog w) A (call (.builtin "object.__eq__") [.ref y, .int b u]) (fun v s' => v = .notImplemented ∧ s' = s) E s :=
    wpAny_call (codeAny_call_builtin PySem.F.cmp_object.eq.plain PySem.F.cmpEntry_eq (check_slot PySem.F.cmpKind_eq PySem.F.cmpSplit_eq sub (PySem.F.cmpArgs_eq _ _) (objEq_int ⟨rfl, rfl⟩)))
  have second : wpAny (model prog w) A (tryCompare (.ref y) "__eq__" (.int b u)) (fun r s' => r = none ∧ s' = s) E s :=
    eq_bound X S J (wpAny_mono eqc (fun v s' z => by obtain ⟨rfl, rfl⟩ := z; exact ⟨rfl, rfl⟩) fun _ _ e => e)
  have first : wpAny (model prog w) A (tryCompare (.int b u) "__eq__" (.ref y)) (fun r s' => r = none ∧ s' = s) E s := by
    unfold tryCompare
    refine wpAny_bind (wpAny_callSpecialIfBound?_slot (name := Str.ofString "__eq__") (typeIs_int s b u) PySem.F.slot_int_eq (call_meets PySem.F.slot_int_eq (typeIs_int s b u) PySem.F.entry_int_eq (PySem.F.args_int_eq_2 _ _) (int_declines_inst b u y oy hpl) ⟨J.at_, ?_⟩))
    exact wpAny_pure ⟨rfl, rfl⟩
  refine wpAny_bind (wpAny_mono first (fun r s' z => ?_) fun _ _ e => e)
  obtain ⟨rfl, rfl⟩ := z
  refine wpAny_bind (wpAny_mono second (fun r s' z => ?_) fun _ _ e => e)
  obtain ⟨rfl, rfl⟩ := z
  exact wpAny_bind (wpAny_rule (wpAny_bind (wpAny_isSame_plain (by rfl) (wpAny_pure h))))
end Mine

/-! Ref24 -/
namespace Mine
section
variable {C : Cx}

/-! == of a member and whatever stands in «way» -/
noncomputable def cmpObj2F (objs : List Addr) : PV → PV → Option Bool
  | .fl (.obj a), .fl (.obj b) => if objs.contains a && objs.contains b then some (a == b) else none
  | .fl (.int _), .fl (.obj b) => if objs.contains b then some false else none
  | _, _ => none
noncomputable def cmpObj2M (objs : List Addr) (ml mr : Mo PV) : Mo Bool := bindM ml fun a => bindM mr fun b => liftO (cmpObj2F objs a b)
theorem EvT.cmpObj2 (O : C.Ok) {objs : List Addr} {cl : Addr} (S : SelfEq C.K cl) (hi : mroIn C.K cl (.type "int") = some false) (hob : ∀ a ∈ objs, Member C.K cl a) {l r : Expr} {pos} {ml mr : Mo PV} (hl : EvE C l ml) (hr : EvE C r mr) (hb : behindInMarks .Eq r = false) :
    EvT C (.Compare l [.Eq] [r] pos) (cmpObj2M objs ml mr) := by
  intro φ st s v st' R hm
  obtain ⟨a, st₁, h1, hm⟩ := bindM_some hm
  obtain ⟨b, st₂, h2, hm⟩ := bindM_some hm
  obtain ⟨hc, rfl⟩ := liftO_some hm
  refine wpAny_isTrue_Compare1 (ev2 hl hr R h1 h2 fun φ₂ ca cb s₂ X₂ R₂ ra rb => ?_) hb
  have X := O.kin.keeps R₂.keep
  unfold cmpObj2F at hc
  split at hc
  · rename_i x y _
    split at hc
    · rename_i hin
      cases hc
      obtain ⟨i1, i2⟩ := Bool.and_eq_true_iff.mp hin
      obtain ⟨dx, sl, od, k1, k2⟩ := hob x (List.contains_iff_mem.mp i1)
      obtain ⟨dx', sl', od', k3, k4⟩ := hob y (List.contains_iff_mem.mp i2)
      have ea : ca = .ref x := ra
      have eb : cb = .ref y := rb
      subst ea; subst eb
      refine eq_same_objects (by have := O.hu; omega) X S (InstAt.of_K X k1 k2) (InstAt.of_K X k3 k4) ?_
      exact wpAny_truthy_bool ⟨rfl, φ₂, X₂, R₂⟩
    · cases hc
  · rename_i n y _
    split at hc
    · rename_i hin
      cases hc
      obtain ⟨dx', sl', od', k3, k4⟩ := hob y (List.contains_iff_mem.mp hin)
      obtain ⟨t, rfl⟩ := ra
      have eb : cb = .ref y := rb
      subst eb
      exact eq_int_object (by have := O.hu; omega) X S hi (InstAt.of_K X k3 k4) rfl (wpAny_truthy_bool ⟨rfl, φ₂, X₂, R₂⟩)
    · cases hc
  · cases hc

/-! isinstance of none or of a whole number, by a class of the text -/
def isiNoM (m : Mo PV) : Mo PV := bindM m fun v st => match v with
  | .fl .none => some (.fl (.bool false), st)
  | .fl (.int _) => some (.fl (.bool false), st)
  | _ => none
theorem EvE.isiNo (O : C.Ok) {x : Str} {D : Addr} {e : Expr} {p np pos : Pos} {m : Mo PV} (B : IsBuiltin C "isinstance" (.builtin "isinstance")) (G : IsGlobal C x (.ref D)) (hd : (x == ("__debug__" : Str)) = false) (h : EvE C e m)
    (hi : isNotIn C.K "int" D = true) (hn : isNotIn C.K "NoneType" D = true) (hst : starEach [e, .Name x np] C.env = [(false, eval e C.env), (false, eval (.Name x np) C.env)]) : EvE C (.Call (.Name "isinstance" p) [e, .Name x np] [] pos) (isiNoM m) := by
  intro φ st s v st' R hm
  obtain ⟨u, st₁, h1, hm1⟩ := bindM_some hm
  clear hm
  refine wpAny_Call_NameR (B.eval O R (by decide) ?_)
  rw [hst]
  refine Calls.callWith_builtin (by rfl) (Calls.evalArgs_plain (Calls.spliced_cons (wpAny_mono (h φ st s _ _ R h1) (fun cv s₁ hp => ?_) fun _ _ x => x)))
  obtain ⟨φ₁, X₁, R₁, v₁⟩ := hp
  refine Calls.spliced_cons (G.eval O R₁ hd (Calls.spliced_nil ?_))
  have X := O.kin.keeps R₁.keep
  split at hm1
  · cases hm1
    rw [show cv = .none from v₁]
    exact isn_call (P := fun _ => True) X (fun M => Looks.of_pure rfl) hn (fun e => nomatch e) trivial (fun h1 h2 => none_cls h1 h2) ⟨φ₁, X₁, R₁.toks _, rfl⟩
  · cases hm1
    obtain ⟨t, rfl⟩ := v₁
    exact isn_call (P := fun _ => True) X (fun M => Looks.of_pure rfl) hi (fun e => nomatch e) trivial (fun h1 h2 => int_cls h1 h2) ⟨φ₁, X₁, R₁.toks _, rfl⟩
  · cases hm1

/-! attributes of objects that stand -/
def BaseAttr (K : Frag) (a : Addr) (name : Str) (f : FV) : Prop := ∃ cl dx sl od v, K.lookup a = some ⟨.ref cl, some dx, .plain, sl⟩ ∧ K.lookup dx = some od ∧ findIn K (.ref cl) "__getattribute__" = some (some (.builtin "object.__getattribute__")) ∧
  findObj K cl (some od) name = some (.value v) ∧ handedIn v = true ∧ RF [] v f
def attrObjM (tab : Addr → Option FV) (m : Mo PV) : Mo PV := bindM m fun v st => match v with
  | .fl (.obj a) => (tab a).map fun f => (.fl f, st)
  | _ => none
theorem EvE.attrObj (O : C.Ok) {tab : Addr → Option FV} {name x : Str} {xp pos : Pos} {m : Mo PV} (hm : EvE C (.Name x xp) m) (hc : ∀ a f, tab a = some f → BaseAttr C.K a name f) : EvE C (.Attribute (.Name x xp) name pos) (attrObjM tab m) := by
  intro φ st s r st' R h
  obtain ⟨v, st₁, h1, hq⟩ := bindM_some h
  clear h
  split at hq
  · rename_i a
    obtain ⟨f, hf, e⟩ := Option.map_eq_some_iff.mp hq
    cases e
    obtain ⟨cl, dx, sl, od, u, k1, k2, k3, k4, k5, k6⟩ := hc a f hf
    refine Attribute_name (wpAny_mono (hm φ st s _ _ R h1) (fun cv s₁ hp => ?_) fun _ _ x => x)
    obtain ⟨φ₁, X₁, R₁, v₁⟩ := hp
    rw [show cv = .ref a from v₁]
    have X := O.kin.keeps R₁.keep
    exact get_value X (InstAt.of_K X k1 k2) k3 k4 k5 ⟨φ₁, X₁, R₁.toks _, RF.mono List.nil_prefix k6⟩
  · cases hq
/-- an attribute that a descriptor of the text's own gives: x.name is descr.__get__(x, class) -/
structure DescrAttr (C : Cx) (a : Addr) (name : Str) (g d cl : Addr) (f : FV) (mg : FM) : Prop where
  at_ : ∃ dx sl od, C.K.lookup a = some ⟨.ref cl, some dx, .plain, sl⟩ ∧ C.K.lookup dx = some od ∧ findObj C.K cl (some od) name = some (.bind (.ref g) (.ref d))
  get : findIn C.K (.ref cl) "__getattribute__" = some (some (.builtin "object.__getattribute__"))
  no : findIn C.K (.ref cl) "__getattr__" = some none
  fn : CodeFun C (.ref g) 3 mg
  val : ∀ mem, mg [.fl (.obj d), .fl (.obj a), .fl (.obj cl)] mem = some (.fl f, mem)
  flat : f.noRef = true
def attrDM (a : Addr) (f : FV) (m : Mo PV) : Mo PV := bindM m fun v st => match v with
  | .fl (.obj b) => if b = a then some (.fl f, st) else none
  | _ => none
theorem EvE.attrD (O : C.Ok) {a g d cl : Addr} {f : FV} {mg : FM} {name x : Str} {xp pos : Pos} {m : Mo PV} (hm : EvE C (.Name x xp) m) (D : DescrAttr C a name g d cl f mg) : EvE C (.Attribute (.Name x xp) name pos) (attrDM a f m) := by
  intro φ st s r st' R h
  obtain ⟨v, st₁, h1, hq⟩ := bindM_some h
  clear h
  split at hq
  · rename_i b
    split at hq
    · rename_i e
      subst e
      cases hq
      obtain ⟨dx, sl, od, k1, k2, k3⟩ := D.at_
      refine Attribute_name (wpAny_mono (hm φ st s _ _ R h1) (fun cv s₁ hp => ?_) fun _ _ x => x)
      obtain ⟨φ₁, X₁, R₁, v₁⟩ := hp
      rw [show cv = .ref b from v₁]
      have X := O.kin.keeps R₁.keep
      have run : wpAny C.M C.A.in1 (PySem.call (.ref g) [.ref d, .ref b, .ref cl]) (PostV C φ₁ s₁.heap { st' with mem := st'.mem } (.fl f)) (fun _ _ => False) { s₁ with toks := s₁.toks + 1 } :=
        wpAny_call (codeAny_mono (D.fn C.A.in1 O.hh (Nat.le_succ _) (Nat.le_refl _) φ₁ st' _ [.ref d, .ref b, .ref cl] [.fl (.obj d), .fl (.obj b), .fl (.obj cl)] (.fl f) st'.mem (R₁.toks (s₁.toks + 1)) ⟨rfl, rfl, rfl, trivial⟩ rfl (D.val _)) fun r s' z => by
          rcases r with e | (v | _ | _ | _) <;> first | exact z | exact z.elim)
      refine get_bind X (InstAt.of_K X k1 k2) D.get k3 D.no (wpAny_mono run (fun v s' hp => ?_) fun _ _ x => x.elim)
      obtain ⟨φ', X', R', hv⟩ := hp
      exact handed_on hv.handed ⟨φ', X₁.trans X', R', hv⟩
    · cases hq
  · cases hq

/-! x is None, for an object that stands -/
def isNoneM (m : Mo PV) : Mo Bool := bindM m fun v st => match v with
  | .fl (.obj _) => some (false, st)
  | .fl .none => some (true, st)
  | _ => none
theorem EvT.isNone {l : Expr} {ck} {cp : Pos} {pos} {ml : Mo PV} (hl : EvE C l ml) : EvT C (.Compare l [.Is] [.Constant .none ck cp] pos) (isNoneM ml) := by
  intro φ st s v st' R hm
  obtain ⟨a, st₁, h1, hq⟩ := bindM_some hm
  clear hm
  refine wpAny_isTrue_Compare1 (ev2 hl (EvE.noneC) R h1 rfl fun φ₂ ca cb s₂ X₂ R₂ ra rb => ?_) rfl
  rw [show cb = .none from rb]
  split at hq
  · cases hq
    rw [show ca = .ref _ from ra]
    exact wpAny_pure (wpAny_truthy_bool ⟨rfl, φ₂, X₂, R₂⟩)
  · cases hq
    rw [show ca = .none from ra]
    exact wpAny_pure (wpAny_truthy_bool ⟨rfl, φ₂, X₂, R₂⟩)
  · cases hq
end
end Mine

/-! Ref25 -/
namespace Mine

/-! blocks that raise ValueError -/
abbrev XM := St → Option Unit
def PostX (C : Cx) (φ : List Addr) (h : Heap) (e : Value) (s' : Shared) : Prop :=
  ∃ a vs φ' h0 st', e = .ref a ∧ Heap.MadeExcOf h0 s'.heap a (.type "ValueError") vs ∧ Ext C φ h φ' h0 ∧ Rep C φ' st' { s' with heap := h0 }
theorem PostX.trans {C : Cx} {φ φ₁ : List Addr} {h h₁ : Heap} {e : Value} {s' : Shared} (X : Ext C φ h φ₁ h₁) (x : PostX C φ₁ h₁ e s') : PostX C φ h e s' :=
  let ⟨a, vs, φ', h0, st', e1, e2, e3, e4⟩ := x; ⟨a, vs, φ', h0, st', e1, e2, X.trans e3, e4⟩
def EvXB (C : Cx) (body : List Stmt) (x : XM) : Prop :=
  ∀ φ st s, Rep C φ st s → x st = some () → wpAny C.M C.A (execs body C.env) (fun _ _ => False) (PostX C φ s.heap) s
def EvXS (C : Cx) (b : Stmt) (x : XM) : Prop :=
  ∀ φ st s, Rep C φ st s → x st = some () → wpAny C.M C.A (exec b C.env) (fun _ _ => False) (PostX C φ s.heap) s
def xNo : XM := fun _ => none
def xCons (m : Mo Fl) (x : XM) : XM := fun st => match m st with | some (.next, st') => x st' | _ => none
def xIte (t : Mo Bool) (a b : XM) : XM := fun st => match t st with | some (true, st') => a st' | some (false, st') => b st' | none => none
def xRaise (m : Mo PV) : XM := fun st => (m st).map fun _ => ()
section
variable {C : Cx}
theorem EvXB.no {body : List Stmt} : EvXB C body xNo := fun _ _ _ _ h => nomatch h
theorem EvXB.here {b : Stmt} {rest : List Stmt} {x : XM} (h : EvXS C b x) : EvXB C (b :: rest) x := by
  intro φ st s R hx
  exact wpAny_execs_cons (wpAny_mono (h φ st s R hx) (fun _ _ f => f.elim) fun _ _ p => p)
theorem EvXB.next {b : Stmt} {rest : List Stmt} {m : Mo Fl} {x : XM} (h : EvS C b m) (h2 : EvXB C rest x) : EvXB C (b :: rest) (xCons m x) := by
  intro φ st s R hx
  unfold xCons at hx
  split at hx
  · rename_i st' hm
    refine wpAny_execs_cons (wpAny_mono (h φ st s .next st' R hm) (fun cf s₁ hp => ?_) fun _ _ f => f.elim)
    obtain ⟨φ₁, X₁, R₁, r₁⟩ := hp
    cases cf with
    | next => exact wpAny_mono (h2 φ₁ st' s₁ R₁ hx) (fun _ _ f => f) fun _ _ p => p.trans X₁
    | _ => exact r₁.elim
  · cases hx
theorem EvXS.ite {t : Expr} {a b : List Stmt} {pos mt xa xb} (ht : EvT C t mt) (ha : EvXB C a xa) (hb : EvXB C b xb) : EvXS C (.If t a b pos) (xIte mt xa xb) := by
  intro φ st s R hx
  unfold xIte at hx
  split at hx
  · rename_i st' hm
    refine wpAny_If (wpAny_mono (ht φ st s true st' R hm) (fun r s₁ hp => ?_) fun _ _ f => f.elim)
    obtain ⟨rfl, φ₁, X₁, R₁⟩ := hp
    exact wpAny_mono (ha φ₁ st' s₁ R₁ hx) (fun _ _ f => f) fun _ _ p => p.trans X₁.toExt
  · rename_i st' hm
    refine wpAny_If (wpAny_mono (ht φ st s false st' R hm) (fun r s₁ hp => ?_) fun _ _ f => f.elim)
    obtain ⟨rfl, φ₁, X₁, R₁⟩ := hp
    exact wpAny_mono (hb φ₁ st' s₁ R₁ hx) (fun _ _ f => f) fun _ _ p => p.trans X₁.toExt
  · cases hx
theorem EvXS.raise (O : C.Ok) {e : Expr} {m : Mo PV} {np cpos pos : Pos} (B : IsBuiltin C "ValueError" (.type "ValueError")) (h : EvE C e m) (hst : starEach [e] C.env = [(false, eval e C.env)]) :
    EvXS C (.Raise (some (.Call (.Name "ValueError" np) [e] [] cpos)) none pos) (xRaise m) := by
  intro φ st s R hx
  unfold xRaise at hx
  cases hm : m st with
  | none => rw [hm] at hx; cases hx
  | some q =>
    obtain ⟨v, st'⟩ := q
    refine wpAny_Raise_call PySem.F.excCall_ValueError PySem.F.excRaise_ValueError O.hh (by rw [hst]; rfl) ?_
    have hB : wpAny C.M C.A (eval (.Name "ValueError" np) C.env) (fun v s1 => v = Value.type "ValueError" ∧ s = s1) noE s := B.eval O R (by decide) ⟨rfl, rfl⟩
    refine wpAny_mono hB (fun v s1 hv => ?_) fun _ _ (f : False) => f.elim
    obtain ⟨rfl, rfl⟩ := hv
    refine ⟨rfl, ?_⟩
    rw [hst]
    refine Calls.evalArgs_plain (Calls.spliced_cons (wpAny_mono (h φ st s v st' R hm) (fun cv s₁ hp => ?_) fun _ _ f => f.elim))
    obtain ⟨φ₁, X₁, R₁, v₁⟩ := hp
    refine Calls.spliced_nil ⟨rfl, by show 1 ≤ sizeLine; rw [sizeLine_eq]; omega, fun h' a hm' => ?_⟩
    exact ⟨a, _, φ₁, s₁.heap, st', rfl, hm'.of, X₁.toExt, R₁⟩

/-! f'{..} text' with a small whole number -/
def joinedM (c : Str) (m : Mo PV) : Mo PV := bindM m fun v st => match v with
  | .fl (.int n) => if n.natAbs < 1000 ∧ c.length ≤ 1000 ∧ (Str.empty ++ (toString n : Str)).length ≤ 1000 then some (.fl (.str ((Str.empty ++ (toString n : Str)) ++ c)), st) else none
  | _ => none
theorem EvE.joined {e : Expr} {c : Str} {fp ck} {cp pos : Pos} {m : Mo PV} (h : EvE C e m) : EvE C (.JoinedStr [.FormattedValue e (-1) none fp, .Constant (.str c) ck cp] pos) (joinedM c m) := by
  intro φ st s v st' R hm
  obtain ⟨u, st₁, h1, hq⟩ := bindM_some hm
  clear hm
  split at hq
  · rename_i n
    split at hq
    · rename_i hn
      cases hq
      have hlog : n.natAbs.log2 < 1920 := by
        by_cases h0 : n.natAbs = 0
        · rw [h0]; decide
        · exact (Nat.log2_lt h0).mpr (Nat.lt_of_lt_of_le hn.1 (Nat.le_trans (by decide : 1000 ≤ 2 ^ 10) (Nat.pow_le_pow_right (by decide) (by decide))))
      refine JoinedStr_many (joinParts_cons (FormattedValue_plain (wpAny_mono (h φ st s _ _ R h1) (fun cv s₁ hp => ?_) fun _ _ f => f.elim)))
      obtain ⟨φ₁, X₁, R₁, t, rfl⟩ := hp
      refine formatField_int_small hlog ⟨by rw [sizeLine_eq]; have := hn.2.2; omega, ?_⟩
      refine joinParts_cons ?_
      show wpAny C.M C.A (mkText c) _ _ _
      refine wpAny_mkText ?_
      have hl2 : ((Str.empty ++ (toString n : Str)) ++ c).length ≤ 2000 := by
        have := hn.2.2
        show Array.size _ ≤ _
        rw [show ((Str.empty ++ (toString n : Str)) ++ c).cps = (Str.empty ++ (toString n : Str)).cps ++ c.cps from rfl, Array.size_append]
        have e1 : (Str.empty ++ (toString n : Str)).cps.size ≤ 1000 := this
        have e2 : c.cps.size ≤ 1000 := hn.2.1
        omega
      refine ⟨by rw [sizeLine_eq]; omega, ?_⟩
      exact joinParts_nil ⟨φ₁, X₁, R₁.toks _, RV.str⟩ (by rw [sizeLine_eq]; omega)
    · cases hq
  · cases hq
end
end Mine

/-! Ref26 -/
namespace Mine

/-! values whose making may turn the frame's own record -/
def PostW (C : Cx) (φ : List Addr) (h : Heap) (st : St) (v : PV) : Value → Shared → Prop :=
  fun cv s' => ∃ φ', Ext C φ h φ' s'.heap ∧ Rep C φ' st s' ∧ RV φ' s'.heap cv v
theorem PostW.trans {C : Cx} {φ φ₁ : List Addr} {h h₁ : Heap} {st v cv s'} (X : Ext C φ h φ₁ h₁) (x : PostW C φ₁ h₁ st v cv s') : PostW C φ h st v cv s' :=
  let ⟨φ', Y, R, r⟩ := x; ⟨φ', X.trans Y, R, r⟩
def EvW (C : Cx) (e : Expr) (m : Mo PV) : Prop :=
  ∀ φ st s v st', Rep C φ st s → m st = some (v, st') → wpAny C.M C.A (eval e C.env) (PostW C φ s.heap st' v) noE s
inductive EvWL (C : Cx) : List Expr → List (Mo PV) → Prop
  | nil : EvWL C [] []
  | cons {e es m ms} : EvW C e m → EvWL C es ms → EvWL C (e :: es) (m :: ms)
def FunW (C : Cx) (f : Value) (n : Nat) (m : FM) : Prop :=
  ∀ φ st s cvs vs v mem', Rep C φ st s → RVs φ s.heap cvs vs → vs.length = n → m vs st.mem = some (v, mem') →
    wpAny C.M C.A (call f cvs) (PostW C φ s.heap { st with mem := mem' } v) noE s
section
variable {C : Cx}
theorem EvW.of {e : Expr} {m : Mo PV} (h : EvE C e m) : EvW C e m := fun φ st s v st' R hm => wpAny_mono (h φ st s v st' R hm) (fun _ _ ⟨φ', X, R', r⟩ => ⟨φ', X.toExt, R', r⟩) fun _ _ x => x
theorem EvW.andB {pos} : ∀ {es : List Expr} {ms : List (Mo PV)}, EvWL C es ms → EvW C (.BoolOp .And es pos) (Mine.andB ms)
  | _, _, .nil => fun _ _ _ _ _ _ hm => nomatch hm
  | _, _, .cons h .nil => fun φ st s v st' R hm => by
    obtain ⟨u, st₁, h1, hm1⟩ := bindM_some hm
    clear hm
    refine BoolOp_one ?_
    split at hm1
    · cases hm1; exact h φ st s _ _ R h1
    · cases hm1
  | _, _, .cons (e := e) h (.cons h2 hr) => fun φ st s v st' R hm => by
    obtain ⟨u, st₁, h1, hm1⟩ := bindM_some hm
    clear hm
    refine BoolOp_and (wpAny_mono (h φ st s u st₁ R h1) (fun cv s₁ hp => ?_) fun _ _ x => x)
    obtain ⟨φ₁, X₁, R₁, v₁⟩ := hp
    split at hm1
    · rw [show cv = .bool _ from v₁]
      refine wpAny_truthy_bool ?_
      rw [if_pos rfl]
      exact wpAny_mono (EvW.andB (.cons h2 hr) φ₁ st₁ s₁ v st' R₁ hm1) (fun _ _ x => x.trans X₁) fun _ _ x => x
    · cases hm1
      rw [show cv = .bool _ from v₁]
      refine wpAny_truthy_bool ?_
      rw [if_neg (by simp)]
      exact ⟨φ₁, X₁, R₁, rfl⟩
    · cases hm1
theorem EvW.call (O : C.Ok) {x : Str} {f : Value} (G : IsGlobal C x f) (hd : (x == ("__debug__" : Str)) = false) (hk : keepIn C.K f = true) {n : Nat} {m : FM} (F : FunW C f n m) {es : List Expr} {ms : List (Mo PV)} (h : EvEs C es ms) (hn : es.length = n) {p pos : Pos} :
    EvW C (.Call (.Name x p) es [] pos) (runM [] ms m) := by
  intro φ st s v st' R hm
  refine wpAny_Call_NameR (G.eval O R hd ?_)
  obtain ⟨vs, st₁, e1, hm⟩ := bindM_some hm
  obtain ⟨⟨v', mem'⟩, e2, e⟩ := Option.map_eq_some_iff.mp hm
  cases e
  have hlen := seqM_len e1
  have hlen2 := h.len
  refine callWith_of (P := C.K.In) (by rw [noStar h pos]; rfl) (keeps_K hk) (evalArgs_q h f pos R e1 fun cvs s₁ hp => ?_)
  obtain ⟨φ₁, X₁, R₁, v₁⟩ := hp
  refine ⟨O.kin.keeps R₁.keep, wpAny_mono (F φ₁ st₁ s₁ _ _ v' mem' R₁ (RVs.app (vs := []) (fs := []) trivial v₁) (by simp; omega) e2) (fun _ _ x => x.trans X₁.toExt) fun _ _ x => x⟩
theorem EvS.retW {e : Expr} {pos m} (h : EvW C e m) : EvS C (.Return (some e) pos) (retM m) := by
  intro φ st s f st' R hm
  obtain ⟨v, st₁, e1, hm⟩ := bindM_some hm
  cases hm
  refine wpAny_Return_some (wpAny_mono (h φ st s v st' R e1) (fun cv s₁ hp => ?_) fun _ _ x => x)
  obtain ⟨φ₁, X₁, R₁, v₁⟩ := hp
  exact ⟨φ₁, X₁, R₁, v₁⟩
end

theorem cellsFrom_none : ∀ {names : List (Str × NameKind)} {n : Nat} {acc : List (Str × Addr)}, (∀ x ∈ names, x.2 ≠ .cell) → cellsFrom n names acc = acc
  | [], _, _, _ => rfl
  | (x, k) :: r, n, acc, h => by
    unfold cellsFrom
    have h1 : k ≠ .cell := h (x, k) (.head _)
    rw [if_neg (by simpa using h1)]
    exact cellsFrom_none fun y hy => h y (.tail _ hy)
/-! frames below an error -/
structure FrOK (h : Heap) (env : Env) : Prop where
  kind : env.scope.kind ≠ .module
  at_ : ∃ L o es n, env.frame = some L ∧ h.get? L = some o ∧ o.data = .dict es n
theorem FrOK.keeps {h h' : Heap} {env : Env} (x : FrOK h env) (k : ∀ L, env.frame = some L → ∀ o, h.get? L = some o → h'.get? L = some o) : FrOK h' env :=
  let ⟨L, o, es, n, a, b, c⟩ := x.at_; ⟨x.kind, L, o, es, n, a, k L a o b, c⟩
theorem funFrames_of {h base : Heap} : ∀ {l : List Env}, (∀ env ∈ l, FrOK h env) → (∀ env ∈ l, ∀ L, env.frame = some L → base.get? L = none) → h.FunFrames base l
  | [], _, _ => trivial
  | env :: l, h1, h2 => by
    obtain ⟨k, L, o, es, n, a, b, c⟩ := h1 env (.head _)
    exact ⟨k, ⟨L, o, a, h2 env (.head _) L a, b, fun vs q => by rw [c] at q; cases q⟩, funFrames_of (fun e he => h1 e (.tail _ he)) fun e he => h2 e (.tail _ he)⟩
def framesOf (l : List Env) : List Addr := l.filterMap (·.frame)
theorem mem_framesOf {l : List Env} {env : Env} {L : Addr} (he : env ∈ l) (hf : env.frame = some L) : L ∈ framesOf l := List.mem_filterMap.mpr ⟨env, he, hf⟩
theorem framesOf_mem {l : List Env} {L : Addr} (h : L ∈ framesOf l) : ∃ env ∈ l, env.frame = some L := List.mem_filterMap.mp h

/-- a ValueError on its way, the callee left -/
def Raised (l : List Env) (φ : List Addr) (s : Shared) (e : Value) (s' : Shared) : Prop :=
  ∃ a t B0 h' tk, e = .ref a ∧ s' = { s with heap := h', toks := tk } ∧ Heap.FlyingW B0 l a (.type "ValueError") (.ref t) h' ∧
    (∀ b o, s.heap.get? b = some o → b ∉ φ → b ∉ framesOf l → B0.get? b = some o) ∧ (∀ b o, s.heap.get? b = some o → b ∈ framesOf l → ∃ sl, h'.get? b = some { o with slots := sl })
abbrev XF := List PV → List MO → Option Unit
def CodeX (C : Cx) (f : Value) (n : Nat) (x : XF) : Prop :=
  ∀ B : Around, B.handled = none → B.depth ≤ C.A.depth + 1 → B.units ≤ C.A.units + 1 → ∀ l, B.frames = some l → ∀ φ st s cvs vs, Rep C φ st s → RVs φ s.heap cvs vs → vs.length = n → x vs st.mem = some () →
    (∀ env ∈ l, FrOK s.heap env) → (∀ L ∈ framesOf l, L ∉ φ) → codeAny C.M B (.call f ⟨cvs, []⟩) (fun r s' => match r with | .error e => Raised l φ s e s' | .ok _ => False) s

theorem code_raise {C : Cx} (O : C.Ok) (hd1 : C.A.depth + 10 < recursionLimit) (hu1 : C.A.units + 68 < cLine) {B : Around} (hBh : B.handled = none) (hBd : B.depth ≤ C.A.depth + 1) (hBu : B.units ≤ C.A.units + 1) {a : Addr} {fd : FuncData} {body : List Stmt} (D : DefAt C a fd body)
    {names : List Str} {x : XM}
    (hX : ∀ C' : Cx, C'.Ok → C'.prog = C.prog → C'.w = C.w → C'.names = names → C'.env = callEnvC fd C'.env.locals a → C'.mg = C.mg → C'.mb = C.mb → C'.K = C.K →
      (∀ b o, C.s₀.heap.get? b = some o → C'.s₀.heap.get? b = some o) → C'.A.depth ≤ C.A.depth + 2 → C'.A.units ≤ C.A.units + 4 → EvXB C' body x)
    (hnd : names.Nodup) (hloc : ∀ x ∈ names, fd.scope.names.lookup x = some .local) (hcell : ∀ x ∈ fd.scope.names, x.2 ≠ .cell)
    {vals : List Value} {binds : List (Str × Value)} (hkind : ∀ x ∈ binds, fd.scope.names.lookup x.1 = some .local)
    {φ st s} (R : Rep C φ st s) (hbind : BindsTo s fd ⟨vals, []⟩ binds) {lv : List (Option Value)} {lp : List (Option PV)} (hlv : names.map (fun x => binds.reverse.lookup x) = lv) (hL : Locs φ s.heap lv lp)
    (hm : x ⟨lp, st.mem⟩ = some ()) {l : List Env} (hfr : B.frames = some l) (hl : ∀ env ∈ l, FrOK s.heap env) (hlφ : ∀ L ∈ framesOf l, L ∉ φ) :
    codeAny C.M B (.call (.ref a) ⟨vals, []⟩) (fun r s' => match r with | .error e => Raised l φ s e s' | .ok _ => False) s := by
  obtain ⟨o, ho, hdat⟩ := D.here
  have hcc : cellsFrom (s.heap.objs.size + 1) fd.scope.names [] = fd.closure := by
    rw [D.closed]
    exact cellsFrom_none fun y hy => hcell y hy
  have hce : callEnvC fd s.heap.objs.size a = callEnv fd s.heap.objs.size a := by unfold callEnvC callEnv; rw [hcc]
  refine codeAny_call_def (by omega) (R.keep _ _ ho) hdat (O.nolimit.keeps R.keep) (D.code.keeps R.keep) D.body hbind hcell hkind (fun h₁ hns hk₁ => ?_) D.co D.gen D.kind
  rw [← hce]
  let L' := s.heap.objs.size
  let base := hideAll h₁ (L' :: φ)
  have hbk : ∀ b o, s.heap.get? b = some o → b ∉ φ → base.get? b = some o := fun b o e hb =>
    hideAll_get _ (hk₁ b o e) (fun hm => by
      rcases List.mem_cons.mp hm with e' | hm
      · subst e'; exact absurd (Heap.lt_size e) (Nat.lt_irrefl _)
      · exact hb hm)
  have hs₀φ : ∀ b o, C.s₀.heap.get? b = some o → b ∉ φ := fun b o e hb => by rw [(R.fresh b hb).1] at e; cases e
  have hkb : ∀ b o, C.s₀.heap.get? b = some o → base.get? b = some o := fun b o e => hbk b o (R.keep b o e) (hs₀φ b o e)
  have hφlt : ∀ b ∈ φ, b ≠ L' := fun b hb e => by
    have := (R.side (get?_size s.heap)).out
    have e' : b = s.heap.objs.size := e
    exact this (e' ▸ hb)
  let C' : Cx := { prog := C.prog, w := C.w, A := B.deeper (callEnvC fd s.heap.objs.size a), env := callEnvC fd s.heap.objs.size a, names := names, s₀ := { s with heap := base }, mg := C.mg, mb := C.mb, K := C.K }
  have O' : C'.Ok := by
    refine ⟨hBh, ?_, ?_, D.kind, hnd, hloc, hideAll_none _ (List.mem_cons_self ..), ?_, ?_, O.nolimit.keeps hkb, O.kin.keeps hkb⟩
    · show B.depth + 1 + 8 < recursionLimit; omega
    · show B.units + 3 + 64 < cLine; omega
    · show base.Ns fd.globals C.mg
      rw [D.globals]; exact O.g.keeps hkb
    · show base.Ns fd.builtins C.mb
      rw [D.builtins]; exact O.b.keeps hkb
  have K₁ : Keep s.heap h₁ := Keep.all hk₁
  have R' : Rep C' φ ⟨lp, st.mem⟩ { s with heap := h₁, toks := s.toks + binds.length } := by
    refine ⟨⟨h₁, _, rfl⟩, fun b o e => of_hideAll _ e, ?_, ⟨_, hns, fun k y pv e1 e2 => ?_⟩, R.nd, R.memlen, fun k mo b e1 e2 => ?_, fun b hb => ⟨hideAll_none _ (List.mem_cons_of_mem _ hb), hφlt b hb⟩⟩
    · show lp.length = names.length
      rw [hL.len, ← hlv]; simp
    · obtain ⟨v, hv, hr⟩ := hL.get e2
      refine ⟨v, ?_, hr.mono (pre_refl _) K₁⟩
      rw [← hlv] at hv
      have e1' : names[k]? = some y := e1
      simp only [List.getElem?_map, e1', Option.map_some] at hv
      exact Option.some.inj hv
    · exact (R.mem k mo b e1 e2).mono (pre_refl _) K₁ fun o e => hk₁ b o e
  have E := hX C' O' rfl rfl rfl rfl rfl rfl rfl hkb (by show B.depth + 1 ≤ _; omega) (by show B.units + 3 ≤ _; omega)
  refine wpAny_mono (E φ _ _ R' hm) (fun _ _ f => f.elim) fun e s₂ hp => ?_
  obtain ⟨ea, vs, φ', h0, st', rfl, hmade, X₂, R₂⟩ := hp
  obtain ⟨hq, tk, es⟩ := R₂.same
  have es2 : s₂ = { s with heap := s₂.heap, toks := tk } := by
    have e1 := congrArg Shared.toks es
    cases s₂
    simp only [Shared.mk.injEq] at es ⊢
    exact ⟨trivial, es.2.1, es.2.2.1, es.2.2.2.1, es.2.2.2.2⟩
  let env' := callEnvC fd s.heap.objs.size a
  have keep0 : ∀ b o, s.heap.get? b = some o → b ∉ φ → h0.get? b = some o := fun b o e hb => R₂.keep b o (hbk b o e hb)
  have F0 : ∀ env ∈ (env' :: l), FrOK h0 env := by
    intro env he
    rcases List.mem_cons.mp he with rfl | he
    · obtain ⟨_, ⟨oL, es', ep, q1, q2, _⟩, _⟩ := R₂.loc
      refine ⟨?_, L', oL, es', ep, rfl, q1, q2⟩
      show fd.scope.kind ≠ .module
      rw [D.kind]; decide
    · exact (hl env he).keeps fun L hf o e => keep0 L o e (hlφ L (mem_framesOf he hf))
  refine wpAny_leaves_madeW (base := hideAll h0 (framesOf (env' :: l))) (Around.frames_deeper hfr) rfl (fun b o e => of_hideAll _ e) (funFrames_of F0 fun env he L hf => hideAll_none _ (mem_framesOf he hf)) hmade fun h' t x1 x2 x3 x4 => ?_
  refine ⟨ea, t, _, h', tk, rfl, ?_, x1, fun b o e h1 h2 => hideAll_get _ (keep0 b o e h1) fun hm => ?_, fun b o e h1 => ?_⟩
  · rw [es2]
  · obtain ⟨env, he, hf⟩ := framesOf_mem hm
    rcases List.mem_cons.mp he with rfl | he
    · obtain rfl : L' = b := Option.some.inj hf
      exact absurd (Heap.lt_size e) (Nat.lt_irrefl _)
    · exact h2 (mem_framesOf he hf)
  · obtain ⟨env, he, hf⟩ := framesOf_mem h1
    obtain ⟨_, L, o2, es2, n2, q1, q2, q3⟩ := hl env he
    obtain rfl : L = b := Option.some.inj (q1.symm.trans hf)
    obtain rfl : o2 = o := Option.some.inj (q2.symm.trans e)
    exact x4 _ _ (hmade.keeps _ _ (keep0 _ _ e (hlφ _ h1))) fun vs q => by rw [q3] at q; cases q

theorem under_frames {A : Around} {l : List Env} {f : String} {args : Args} (h : A.frames = some l) : (A.under (.builtin f args)).frames = some l := by
  have e : (A.under (.builtin f args)).frames = pushEnvs (Code.envs (.builtin f args)) A.frames := rfl
  rw [e, h]
  rfl
/-- a class of the text whose making raises -/
theorem make_raise {C : Cx} (O : C.Ok) {cl fI : Addr} {n : Nat} {x : XF} (hm : makesIn C.K cl = true) (hi : findIn C.K (.ref cl) "__init__" = some (some (.ref fI))) (hf : typeIn C.K (.ref fI) = some (.type "function")) (FI : CodeX C (.ref fI) (n + 1) x)
    {l : List Env} (hfr : C.A.frames = some l) {φ : List Addr} {st : St} {s : Shared} {cvs : List Value} {vs : List PV} (R : Rep C φ st s) (r : RVs φ s.heap cvs vs) (hn : vs.length = n)
    (hx : x (.fl (.ref (st.mem.length + 1)) :: vs) ((st.mem ++ [.adict []]) ++ [.inst cl st.mem.length]) = some ()) (hl : ∀ env ∈ l, FrOK s.heap env) (hlφ : ∀ L ∈ framesOf l, L ∉ φ) :
    wpAny C.M C.A (call (.ref cl) cvs) (fun _ _ => False) (Raised l φ s) s := by
  obtain ⟨loc, mem⟩ := st
  obtain ⟨hp₀, g₀, d₀, t₀, os₀⟩ := s
  have X := O.kin.keeps R.keep
  have W1 := R.alloc (o := emptyDict) (mo := .adict []) fun φ' _ => ⟨[], 0, Heap.get?_push_size _ rfl, .nil⟩
  obtain ⟨R1, X1⟩ := W1
  have hlast1 : (φ ++ [hp₀.objs.size])[mem.length]? = some hp₀.objs.size := by rw [← R.memlen]; simp
  have W2 := R1.alloc (o := instObj cl hp₀.objs.size) (mo := .inst cl mem.length) fun φ' hp => ⟨hp₀.objs.size, prefix_get hp hlast1, Heap.get?_push_size _ rfl⟩
  obtain ⟨R2, X2⟩ := W2
  have hsz : (hp₀.push emptyDict).objs.size = hp₀.objs.size + 1 := Heap.size_push _ _
  simp only [hsz] at R2 X2
  have hlast2 : ((φ ++ [hp₀.objs.size]) ++ [hp₀.objs.size + 1])[mem.length + 1]? = some (hp₀.objs.size + 1) := by rw [← R.memlen]; simp
  have XX := X1.trans X2
  have kk : ∀ b o, hp₀.get? b = some o → ((hp₀.push emptyDict).push (instObj cl hp₀.objs.size)).get? b = some o := fun b o e => Heap.get?_push_of_some _ (Heap.get?_push_of_some _ e)
  have nn : ∀ b o, hp₀.get? b = some o → b ∉ φ → b ∉ (φ ++ [hp₀.objs.size]) ++ [hp₀.objs.size + 1] := fun b o e hb hm => by
    have := Heap.lt_size e
    simp only [List.append_assoc, List.mem_append, List.mem_cons, List.not_mem_nil, or_false] at hm
    rcases hm with hm | hm | hm
    · exact hb hm
    · rw [hm] at this; exact absurd this (Nat.lt_irrefl _)
    · rw [hm] at this; exact absurd this (Nat.not_lt_of_ge (Nat.le_succ _))
  refine wpAny_call (make_core (A := C.A) (makes_of X hm) (looks_findIn X hi) (fun self => bind_fn X self hf) (.inl rfl) ?_)
  refine codeAny_mono (FI (C.A.under (.builtin "type.__call__" ⟨.ref cl :: cvs, []⟩)) O.hh (Nat.le_refl _) (Nat.le_refl _) l (under_frames hfr) _ _ _ (.ref (hp₀.objs.size + 1) :: cvs) (.fl (.ref (mem.length + 1)) :: vs) R2 ⟨⟨_, hlast2, rfl⟩, r.mono XX.pre XX.tup⟩ (by simp [hn]) hx
    (fun env he => (hl env he).keeps fun L _ o e => kk L o e) (fun L hL => ?_)) fun r s' z => ?_
  · obtain ⟨env, he, hf⟩ := framesOf_mem hL
    obtain ⟨_, L2, o, _, _, q1, q2, _⟩ := hl env he
    obtain rfl : L2 = L := Option.some.inj (q1.symm.trans hf)
    exact nn _ _ q2 (hlφ _ hL)
  rcases r with e | (u | _ | _ | _) <;> first | exact z.elim | skip
  obtain ⟨a, t, B0, h', tk, e1, e2, e3, e4, e5⟩ := z
  exact ⟨a, t, B0, h', tk, e1, e2, e3, fun b o e h1 h2 => e4 b o (kk b o e) (nn b o e h1) h2, fun b o e h1 => e5 b o (kk b o e) h1⟩
end Mine

/-! BFn2 -/
namespace Mine

def lvI_names : List Str := [Str.ofString "self"]
def lvI_body : List Stmt := clBody PySem.Challenge.pw_fe0312_02 18 0
def lvI_scope : Scope := clScope PySem.Challenge.pw_fe0312_02 18 0
def lvI_params : Arguments := clParams PySem.Challenge.pw_fe0312_02 18 0
noncomputable def lvI_m   : Mo Fl :=
  (blkM [(asg1 (listM []) (setAttrM [770] (getL 0) "_base_char_1_costs"))])
theorem lvI_ok {prog : Program} {w : World} {A : Around} {L gl blt : Addr} {cells : List (Str × Addr)} {qual : Str} {func frame : Option Addr} {code : Value} {s₀ : Shared} {mg mb : Str → Option Value} {K : Frag}  
    {C : Cx} (hC : C = ⟨prog, w, A, ⟨lvI_scope, L, gl, cells, qual, func, code, frame, blt⟩, lvI_names, s₀, mg, mb, K⟩) (O : C.Ok)(st__base_char_1_costs : ∀ cl ∈ ([770] : List Addr), StoreOk C.K cl "_base_char_1_costs") : EvB C lvI_body (lvI_m ) := by
  subst hC
  exact (EvB.cons (EvS.assign (EvE.list EvEs.nil) (EvTg.attr O (EvE.loc O rfl (by decide)) st__base_char_1_costs) rfl rfl rfl)
  EvB.nil)

def lvD_names : List Str := [Str.ofString "self", Str.ofString "string_1", Str.ofString "string_2", Str.ofString "max_distance", Str.ofString "len_1", Str.ofString "len_2", Str.ofString "start"]
def lvD_body : List Stmt := clBody PySem.Challenge.pw_fe0312_02 18 1
def lvD_scope : Scope := clScope PySem.Challenge.pw_fe0312_02 18 1
def lvD_params : Arguments := clParams PySem.Challenge.pw_fe0312_02 18 1
noncomputable def lvD_m (m_ndr : FM) (m_psp : FM) (t__distance_max : Addr → Option (Bool × FM)) (t__distance : Addr → Option (Bool × FM))  : Mo Fl :=
  (blkM [(iteM (orM [(cmpM .Is (getL 1) (cst (.fl .none))), (cmpM .Is (getL 2) (cst (.fl .none)))]) (blkM [(retM (runM [] [(getL 1), (getL 2), (getL 3)] m_ndr))]) (blkM [])),
  (iteM (cmpM .LtE (getL 3) (cst (.fl (.int 0)))) (blkM [(retM (iteM (cmpM .Eq (getL 1) (getL 2)) (cst (.fl (.int 0))) (cst (.fl (.int (-1))))))]) (blkM [])),
  (asg1 (intM (bltM "min" [(binM .Sub (binX .Pow (cst (.fl (.int 2))) (cst (.fl (.int 31)))) (cst (.fl (.int 1)))), (getL 3)])) (setL 3)),
  (iteM (cmpM .Gt (bltM "len" [(getL 1)]) (bltM "len" [(getL 2)])) (blkM [(asgSw (tupM [(getL 1), (getL 2)]) [1, 2])]) (blkM [])),
  (iteM (cmpM .Gt (binM .Sub (bltM "len" [(getL 2)]) (bltM "len" [(getL 1)])) (getL 3)) (blkM [(retM (cst (.fl (.int (-1)))))]) (blkM [])),
  (asg1 (runM [] [(getL 1), (getL 2)] m_psp) (tupTg [4, 5, 6])),
  (iteM (cmpM .Eq (getL 4) (cst (.fl (.int 0)))) (blkM [(retM (iteM (cmpM .LtE (getL 5) (getL 3)) (getL 5) (cst (.fl (.int (-1))))))]) (blkM [])),
  (iteM (cmpM .Gt (getL 5) (bltM "len" [(attrM [770] (getL 0) "_base_char_1_costs")])) (blkM [(asg1 (compM [(getL 5)] (cst (.fl (.int 0)))) (setAttrM [770] (getL 0) "_base_char_1_costs"))]) (blkM [])),
  (iteM (cmpM .Lt (getL 3) (getL 5)) (blkM [(retM (methM t__distance_max (getL 0) "_distance_max" [(getL 1), (getL 2), (getL 4), (getL 5), (getL 6), (getL 3), (attrM [770] (getL 0) "_base_char_1_costs")]))]) (blkM [])),
  (retM (methM t__distance (getL 0) "_distance" [(getL 1), (getL 2), (getL 4), (getL 5), (getL 6), (attrM [770] (getL 0) "_base_char_1_costs")]))])
theorem lvD_ok {prog : Program} {w : World} {A : Around} {L gl blt : Addr} {cells : List (Str × Addr)} {qual : Str} {func frame : Option Addr} {code : Value} {s₀ : Shared} {mg mb : Str → Option Value} {K : Frag} (m_ndr : FM) (m_psp : FM) (t__distance_max : Addr → Option (Bool × FM)) (t__distance : Addr → Option (Bool × FM)) 
    {C : Cx} (hC : C = ⟨prog, w, A, ⟨lvD_scope, L, gl, cells, qual, func, code, frame, blt⟩, lvD_names, s₀, mg, mb, K⟩) (O : C.Ok)(g_null_distance_results : IsGlobal C "null_distance_results" (.ref 28)) (k_ndr : keepIn C.K (.ref 28) = true) (F_ndr : Fun C (.ref 28) 3 m_ndr) (g_prefix_suffix_prep : IsGlobal C "prefix_suffix_prep" (.ref 35)) (k_psp : keepIn C.K (.ref 35) = true) (F_psp : Fun C (.ref 35) 2 m_psp) (at__base_char_1_costs : ∀ cl ∈ ([770] : List Addr), AttrOk C.K cl "_base_char_1_costs") (st__base_char_1_costs : ∀ cl ∈ ([770] : List Addr), StoreOk C.K cl "_base_char_1_costs") (M__distance_max : ∀ cl b m, t__distance_max cl = some (b, m) → MethOk C cl "_distance_max" 7 b m) (M__distance : ∀ cl b m, t__distance cl = some (b, m) → MethOk C cl "_distance" 6 b m) (b_int : IsBuiltin C "int" (.type "int")) (b_min : IsBuiltin C "min" (.builtin "min")) (b_len : IsBuiltin C "len" (.builtin "len")) (b_range : IsBuiltin C "range" (.type "range")) : EvB C lvD_body (lvD_m m_ndr m_psp t__distance_max t__distance) := by
  subst hC
  exact (EvB.cons (EvS.ite (EvT.or (EvTs.cons (EvT.cmp (EvE.loc O rfl (by decide)) EvE.noneC rfl) (EvTs.cons (EvT.cmp (EvE.loc O rfl (by decide)) EvE.noneC rfl) EvTs.nil))) (EvB.cons (EvS.ret (EvE.call O g_null_distance_results (by decide) k_ndr F_ndr (EvEs.cons (EvE.loc O rfl (by decide)) rfl (EvEs.cons (EvE.loc O rfl (by decide)) rfl (EvEs.cons (EvE.loc O rfl (by decide)) rfl EvEs.nil))) rfl))
  EvB.nil) EvB.nil)
  (EvB.cons (EvS.ite (EvT.cmp (EvE.loc O rfl (by decide)) EvE.int rfl) (EvB.cons (EvS.ret (EvE.ifExp (EvT.cmp (EvE.loc O rfl (by decide)) (EvE.loc O rfl (by decide)) rfl) EvE.int EvE.neg))
  EvB.nil) EvB.nil)
  (EvB.cons (EvS.assign (EvE.intCall O b_int (EvE.blt O b_min (by decide) (EvEs.cons (EvE.bin (EvE.binX EvE.int EvE.int) EvE.int) rfl (EvEs.cons (EvE.loc O rfl (by decide)) rfl EvEs.nil)) (List.cons_ne_nil _ _)) rfl) (EvTg.name O rfl) rfl rfl rfl)
  (EvB.cons (EvS.ite (EvT.cmp (EvE.blt O b_len (by decide) (EvEs.cons (EvE.loc O rfl (by decide)) rfl EvEs.nil) (List.cons_ne_nil _ _)) (EvE.blt O b_len (by decide) (EvEs.cons (EvE.loc O rfl (by decide)) rfl EvEs.nil) (List.cons_ne_nil _ _)) rfl) (EvB.cons (EvS.assignSw O (xs := [Str.ofString "string_2", Str.ofString "string_1"]) (ks := [1, 2]) (EvE.tuple (EvEs.cons (EvE.loc O rfl (by decide)) rfl (EvEs.cons (EvE.loc O rfl (by decide)) rfl EvEs.nil))) (sw_hx rfl) rfl rfl rfl)
  EvB.nil) EvB.nil)
  (EvB.cons (EvS.ite (EvT.cmp (EvE.bin (EvE.blt O b_len (by decide) (EvEs.cons (EvE.loc O rfl (by decide)) rfl EvEs.nil) (List.cons_ne_nil _ _)) (EvE.blt O b_len (by decide) (EvEs.cons (EvE.loc O rfl (by decide)) rfl EvEs.nil) (List.cons_ne_nil _ _))) (EvE.loc O rfl (by decide)) rfl) (EvB.cons (EvS.ret EvE.neg)
  EvB.nil) EvB.nil)
  (EvB.cons (EvS.assign (EvE.call O g_prefix_suffix_prep (by decide) k_psp F_psp (EvEs.cons (EvE.loc O rfl (by decide)) rfl (EvEs.cons (EvE.loc O rfl (by decide)) rfl EvEs.nil)) rfl) (EvTg.tuple O (NamesAt.cons rfl (fun _ => rfl) (NamesAt.cons rfl (fun _ => rfl) (NamesAt.cons rfl (fun _ => rfl) NamesAt.nil)))) rfl rfl rfl)
  (EvB.cons (EvS.ite (EvT.cmp (EvE.loc O rfl (by decide)) EvE.int rfl) (EvB.cons (EvS.ret (EvE.ifExp (EvT.cmp (EvE.loc O rfl (by decide)) (EvE.loc O rfl (by decide)) rfl) (EvE.loc O rfl (by decide)) EvE.neg))
  EvB.nil) EvB.nil)
  (EvB.cons (EvS.ite (EvT.cmp (EvE.loc O rfl (by decide)) (EvE.blt O b_len (by decide) (EvEs.cons (EvE.attr O (EvE.loc O rfl (by decide)) at__base_char_1_costs) rfl EvEs.nil) (List.cons_ne_nil _ _)) rfl) (EvB.cons (EvS.assign (EvE.comp O b_range (EvEs.cons (EvE.loc O rfl (by decide)) rfl EvEs.nil) (List.cons_ne_nil _ _) (CompScope.zero rfl rfl) (fun C2 O2 _ _ _ hn2 he2 _ _ hk2 => EvE.int) (fun _ => rfl)) (EvTg.attr O (EvE.loc O rfl (by decide)) st__base_char_1_costs) rfl rfl rfl)
  EvB.nil) EvB.nil)
  (EvB.cons (EvS.ite (EvT.cmp (EvE.loc O rfl (by decide)) (EvE.loc O rfl (by decide)) rfl) (EvB.cons (EvS.ret (EvE.meth O rfl M__distance_max (EvE.loc O rfl (by decide)) (EvEs.cons (EvE.loc O rfl (by decide)) rfl (EvEs.cons (EvE.loc O rfl (by decide)) rfl (EvEs.cons (EvE.loc O rfl (by decide)) rfl (EvEs.cons (EvE.loc O rfl (by decide)) rfl (EvEs.cons (EvE.loc O rfl (by decide)) rfl (EvEs.cons (EvE.loc O rfl (by decide)) rfl (EvEs.cons (EvE.attr O (EvE.loc O rfl (by decide)) at__base_char_1_costs) rfl EvEs.nil))))))) ⟨_, rfl⟩))
  EvB.nil) EvB.nil)
  (EvB.cons (EvS.ret (EvE.meth O rfl M__distance (EvE.loc O rfl (by decide)) (EvEs.cons (EvE.loc O rfl (by decide)) rfl (EvEs.cons (EvE.loc O rfl (by decide)) rfl (EvEs.cons (EvE.loc O rfl (by decide)) rfl (EvEs.cons (EvE.loc O rfl (by decide)) rfl (EvEs.cons (EvE.loc O rfl (by decide)) rfl (EvEs.cons (EvE.attr O (EvE.loc O rfl (by decide)) at__base_char_1_costs) rfl EvEs.nil)))))) ⟨_, rfl⟩))
  EvB.nil))))))))))

def osI_names : List Str := [Str.ofString "self"]
def osI_body : List Stmt := clBody PySem.Challenge.pw_fe0312_02 19 0
def osI_scope : Scope := clScope PySem.Challenge.pw_fe0312_02 19 0
def osI_params : Arguments := clParams PySem.Challenge.pw_fe0312_02 19 0
noncomputable def osI_m   : Mo Fl :=
  (blkM [(asg1 (listM []) (setAttrM [810] (getL 0) "_base_char_1_costs")),
  (asg1 (listM []) (setAttrM [810] (getL 0) "_base_prev_char_1_costs"))])
theorem osI_ok {prog : Program} {w : World} {A : Around} {L gl blt : Addr} {cells : List (Str × Addr)} {qual : Str} {func frame : Option Addr} {code : Value} {s₀ : Shared} {mg mb : Str → Option Value} {K : Frag}  
    {C : Cx} (hC : C = ⟨prog, w, A, ⟨osI_scope, L, gl, cells, qual, func, code, frame, blt⟩, osI_names, s₀, mg, mb, K⟩) (O : C.Ok)(st__base_char_1_costs : ∀ cl ∈ ([810] : List Addr), StoreOk C.K cl "_base_char_1_costs") (st__base_prev_char_1_costs : ∀ cl ∈ ([810] : List Addr), StoreOk C.K cl "_base_prev_char_1_costs") : EvB C osI_body (osI_m ) := by
  subst hC
  exact (EvB.cons (EvS.assign (EvE.list EvEs.nil) (EvTg.attr O (EvE.loc O rfl (by decide)) st__base_char_1_costs) rfl rfl rfl)
  (EvB.cons (EvS.assign (EvE.list EvEs.nil) (EvTg.attr O (EvE.loc O rfl (by decide)) st__base_prev_char_1_costs) rfl rfl rfl)
  EvB.nil))

def osD_names : List Str := [Str.ofString "self", Str.ofString "string_1", Str.ofString "string_2", Str.ofString "max_distance", Str.ofString "len_1", Str.ofString "len_2", Str.ofString "start"]
def osD_body : List Stmt := clBody PySem.Challenge.pw_fe0312_02 19 1
def osD_scope : Scope := clScope PySem.Challenge.pw_fe0312_02 19 1
def osD_params : Arguments := clParams PySem.Challenge.pw_fe0312_02 19 1
noncomputable def osD_m (m_ndr : FM) (m_psp : FM) (t__distance_max : Addr → Option (Bool × FM)) (t__distance : Addr → Option (Bool × FM))  : Mo Fl :=
  (blkM [(iteM (orM [(cmpM .Is (getL 1) (cst (.fl .none))), (cmpM .Is (getL 2) (cst (.fl .none)))]) (blkM [(retM (runM [] [(getL 1), (getL 2), (getL 3)] m_ndr))]) (blkM [])),
  (iteM (cmpM .LtE (getL 3) (cst (.fl (.int 0)))) (blkM [(retM (iteM (cmpM .Eq (getL 1) (getL 2)) (cst (.fl (.int 0))) (cst (.fl (.int (-1))))))]) (blkM [])),
  (asg1 (intM (bltM "min" [(binM .Sub (binX .Pow (cst (.fl (.int 2))) (cst (.fl (.int 31)))) (cst (.fl (.int 1)))), (getL 3)])) (setL 3)),
  (iteM (cmpM .Gt (bltM "len" [(getL 1)]) (bltM "len" [(getL 2)])) (blkM [(asgSw (tupM [(getL 1), (getL 2)]) [1, 2])]) (blkM [])),
  (iteM (cmpM .Gt (binM .Sub (bltM "len" [(getL 2)]) (bltM "len" [(getL 1)])) (getL 3)) (blkM [(retM (cst (.fl (.int (-1)))))]) (blkM [])),
  (asg1 (runM [] [(getL 1), (getL 2)] m_psp) (tupTg [4, 5, 6])),
  (iteM (cmpM .Eq (getL 4) (cst (.fl (.int 0)))) (blkM [(retM (iteM (cmpM .LtE (getL 5) (getL 3)) (getL 5) (cst (.fl (.int (-1))))))]) (blkM [])),
  (iteM (cmpM .Gt (getL 5) (bltM "len" [(attrM [810] (getL 0) "_base_char_1_costs")])) (blkM [(asg1 (compM [(getL 5)] (cst (.fl (.int 0)))) (setAttrM [810] (getL 0) "_base_char_1_costs")),
  (asg1 (compM [(getL 5)] (cst (.fl (.int 0)))) (setAttrM [810] (getL 0) "_base_prev_char_1_costs"))]) (blkM [])),
  (iteM (cmpM .Lt (getL 3) (getL 5)) (blkM [(retM (methM t__distance_max (getL 0) "_distance_max" [(getL 1), (getL 2), (getL 4), (getL 5), (getL 6), (getL 3), (attrM [810] (getL 0) "_base_char_1_costs"), (attrM [810] (getL 0) "_base_prev_char_1_costs")]))]) (blkM [])),
  (retM (methM t__distance (getL 0) "_distance" [(getL 1), (getL 2), (getL 4), (getL 5), (getL 6), (attrM [810] (getL 0) "_base_char_1_costs"), (attrM [810] (getL 0) "_base_prev_char_1_costs")]))])
theorem osD_ok {prog : Program} {w : World} {A : Around} {L gl blt : Addr} {cells : List (Str × Addr)} {qual : Str} {func frame : Option Addr} {code : Value} {s₀ : Shared} {mg mb : Str → Option Value} {K : Frag} (m_ndr : FM) (m_psp : FM) (t__distance_max : Addr → Option (Bool × FM)) (t__distance : Addr → Option (Bool × FM)) 
    {C : Cx} (hC : C = ⟨prog, w, A, ⟨osD_scope, L, gl, cells, qual, func, code, frame, blt⟩, osD_names, s₀, mg, mb, K⟩) (O : C.Ok)(g_null_distance_results : IsGlobal C "null_distance_results" (.ref 28)) (k_ndr : keepIn C.K (.ref 28) = true) (F_ndr : Fun C (.ref 28) 3 m_ndr) (g_prefix_suffix_prep : IsGlobal C "prefix_suffix_prep" (.ref 35)) (k_psp : keepIn C.K (.ref 35) = true) (F_psp : Fun C (.ref 35) 2 m_psp) (at__base_char_1_costs : ∀ cl ∈ ([810] : List Addr), AttrOk C.K cl "_base_char_1_costs") (st__base_char_1_costs : ∀ cl ∈ ([810] : List Addr), StoreOk C.K cl "_base_char_1_costs") (st__base_prev_char_1_costs : ∀ cl ∈ ([810] : List Addr), StoreOk C.K cl "_base_prev_char_1_costs") (at__base_prev_char_1_costs : ∀ cl ∈ ([810] : List Addr), AttrOk C.K cl "_base_prev_char_1_costs") (M__distance_max : ∀ cl b m, t__distance_max cl = some (b, m) → MethOk C cl "_distance_max" 8 b m) (M__distance : ∀ cl b m, t__distance cl = some (b, m) → MethOk C cl "_distance" 7 b m) (b_int : IsBuiltin C "int" (.type "int")) (b_min : IsBuiltin C "min" (.builtin "min")) (b_len : IsBuiltin C "len" (.builtin "len")) (b_range : IsBuiltin C "range" (.type "range")) : EvB C osD_body (osD_m m_ndr m_psp t__distance_max t__distance) := by
  subst hC
  exact (EvB.cons (EvS.ite (EvT.or (EvTs.cons (EvT.cmp (EvE.loc O rfl (by decide)) EvE.noneC rfl) (EvTs.cons (EvT.cmp (EvE.loc O rfl (by decide)) EvE.noneC rfl) EvTs.nil))) (EvB.cons (EvS.ret (EvE.call O g_null_distance_results (by decide) k_ndr F_ndr (EvEs.cons (EvE.loc O rfl (by decide)) rfl (EvEs.cons (EvE.loc O rfl (by decide)) rfl (EvEs.cons (EvE.loc O rfl (by decide)) rfl EvEs.nil))) rfl))
  EvB.nil) EvB.nil)
  (EvB.cons (EvS.ite (EvT.cmp (EvE.loc O rfl (by decide)) EvE.int rfl) (EvB.cons (EvS.ret (EvE.ifExp (EvT.cmp (EvE.loc O rfl (by decide)) (EvE.loc O rfl (by decide)) rfl) EvE.int EvE.neg))
  EvB.nil) EvB.nil)
  (EvB.cons (EvS.assign (EvE.intCall O b_int (EvE.blt O b_min (by decide) (EvEs.cons (EvE.bin (EvE.binX EvE.int EvE.int) EvE.int) rfl (EvEs.cons (EvE.loc O rfl (by decide)) rfl EvEs.nil)) (List.cons_ne_nil _ _)) rfl) (EvTg.name O rfl) rfl rfl rfl)
  (EvB.cons (EvS.ite (EvT.cmp (EvE.blt O b_len (by decide) (EvEs.cons (EvE.loc O rfl (by decide)) rfl EvEs.nil) (List.cons_ne_nil _ _)) (EvE.blt O b_len (by decide) (EvEs.cons (EvE.loc O rfl (by decide)) rfl EvEs.nil) (List.cons_ne_nil _ _)) rfl) (EvB.cons (EvS.assignSw O (xs := [Str.ofString "string_2", Str.ofString "string_1"]) (ks := [1, 2]) (EvE.tuple (EvEs.cons (EvE.loc O rfl (by decide)) rfl (EvEs.cons (EvE.loc O rfl (by decide)) rfl EvEs.nil))) (sw_hx rfl) rfl rfl rfl)
  EvB.nil) EvB.nil)
  (EvB.cons (EvS.ite (EvT.cmp (EvE.bin (EvE.blt O b_len (by decide) (EvEs.cons (EvE.loc O rfl (by decide)) rfl EvEs.nil) (List.cons_ne_nil _ _)) (EvE.blt O b_len (by decide) (EvEs.cons (EvE.loc O rfl (by decide)) rfl EvEs.nil) (List.cons_ne_nil _ _))) (EvE.loc O rfl (by decide)) rfl) (EvB.cons (EvS.ret EvE.neg)
  EvB.nil) EvB.nil)
  (EvB.cons (EvS.assign (EvE.call O g_prefix_suffix_prep (by decide) k_psp F_psp (EvEs.cons (EvE.loc O rfl (by decide)) rfl (EvEs.cons (EvE.loc O rfl (by decide)) rfl EvEs.nil)) rfl) (EvTg.tuple O (NamesAt.cons rfl (fun _ => rfl) (NamesAt.cons rfl (fun _ => rfl) (NamesAt.cons rfl (fun _ => rfl) NamesAt.nil)))) rfl rfl rfl)
  (EvB.cons (EvS.ite (EvT.cmp (EvE.loc O rfl (by decide)) EvE.int rfl) (EvB.cons (EvS.ret (EvE.ifExp (EvT.cmp (EvE.loc O rfl (by decide)) (EvE.loc O rfl (by decide)) rfl) (EvE.loc O rfl (by decide)) EvE.neg))
  EvB.nil) EvB.nil)
  (EvB.cons (EvS.ite (EvT.cmp (EvE.loc O rfl (by decide)) (EvE.blt O b_len (by decide) (EvEs.cons (EvE.attr O (EvE.loc O rfl (by decide)) at__base_char_1_costs) rfl EvEs.nil) (List.cons_ne_nil _ _)) rfl) (EvB.cons (EvS.assign (EvE.comp O b_range (EvEs.cons (EvE.loc O rfl (by decide)) rfl EvEs.nil) (List.cons_ne_nil _ _) (CompScope.zero rfl rfl) (fun C2 O2 _ _ _ hn2 he2 _ _ hk2 => EvE.int) (fun _ => rfl)) (EvTg.attr O (EvE.loc O rfl (by decide)) st__base_char_1_costs) rfl rfl rfl)
  (EvB.cons (EvS.assign (EvE.comp O b_range (EvEs.cons (EvE.loc O rfl (by decide)) rfl EvEs.nil) (List.cons_ne_nil _ _) (CompScope.zero rfl rfl) (fun C2 O2 _ _ _ hn2 he2 _ _ hk2 => EvE.int) (fun _ => rfl)) (EvTg.attr O (EvE.loc O rfl (by decide)) st__base_prev_char_1_costs) rfl rfl rfl)
  EvB.nil)) EvB.nil)
  (EvB.cons (EvS.ite (EvT.cmp (EvE.loc O rfl (by decide)) (EvE.loc O rfl (by decide)) rfl) (EvB.cons (EvS.ret (EvE.meth O rfl M__distance_max (EvE.loc O rfl (by decide)) (EvEs.cons (EvE.loc O rfl (by decide)) rfl (EvEs.cons (EvE.loc O rfl (by decide)) rfl (EvEs.cons (EvE.loc O rfl (by decide)) rfl (EvEs.cons (EvE.loc O rfl (by decide)) rfl (EvEs.cons (EvE.loc O rfl (by decide)) rfl (EvEs.cons (EvE.loc O rfl (by decide)) rfl (EvEs.cons (EvE.attr O (EvE.loc O rfl (by decide)) at__base_char_1_costs) rfl (EvEs.cons (EvE.attr O (EvE.loc O rfl (by decide)) at__base_prev_char_1_costs) rfl EvEs.nil)))))))) ⟨_, rfl⟩))
  EvB.nil) EvB.nil)
  (EvB.cons (EvS.ret (EvE.meth O rfl M__distance (EvE.loc O rfl (by decide)) (EvEs.cons (EvE.loc O rfl (by decide)) rfl (EvEs.cons (EvE.loc O rfl (by decide)) rfl (EvEs.cons (EvE.loc O rfl (by decide)) rfl (EvEs.cons (EvE.loc O rfl (by decide)) rfl (EvEs.cons (EvE.loc O rfl (by decide)) rfl (EvEs.cons (EvE.attr O (EvE.loc O rfl (by decide)) at__base_char_1_costs) rfl (EvEs.cons (EvE.attr O (EvE.loc O rfl (by decide)) at__base_prev_char_1_costs) rfl EvEs.nil))))))) ⟨_, rfl⟩))
  EvB.nil))))))))))

def edI_names : List Str := [Str.ofString "self", Str.ofString "algorithm", Str.ofString "comparer"]
def edI_body : List Stmt := clBody PySem.Challenge.pw_fe0312_02 17 0
def edI_scope : Scope := clScope PySem.Challenge.pw_fe0312_02 17 0
def edI_params : Arguments := clParams PySem.Challenge.pw_fe0312_02 17 0
noncomputable def edI_m (m_Lev : FM) (m_Osa : FM)  : Mo Fl :=
  (blkM [(asg1 (getL 1) (setAttrM [728] (getL 0) "_algorithm")),
  (iteM (cmpObjM [668, 670, 676] (getL 1) (cst (.fl (.obj 668)))) (blkM [(asg1 (runM [] [] m_Lev) (setAttrM [728] (getL 0) "_distance_comparer"))]) (blkM [(iteM (cmpObjM [668, 670, 676] (getL 1) (cst (.fl (.obj 670)))) (blkM [(asg1 (runM [] [] m_Osa) (setAttrM [728] (getL 0) "_distance_comparer"))]) (blkM [(iteM (cmpObjM [668, 670, 676] (getL 1) (cst (.fl (.obj 676)))) (blkM [(iteM (notM (boolM (isiClsM [770, 810] (getL 2)))) (blkM [(fun _ => none)]) (blkM [])),
  (asg1 (getL 2) (setAttrM [728] (getL 0) "_distance_comparer"))]) (blkM [(fun _ => none)]))]))]))])
theorem edI_ok {prog : Program} {w : World} {A : Around} {L gl blt : Addr} {cells : List (Str × Addr)} {qual : Str} {func frame : Option Addr} {code : Value} {s₀ : Shared} {mg mb : Str → Option Value} {K : Frag} (m_Lev : FM) (m_Osa : FM) 
    {C : Cx} (hC : C = ⟨prog, w, A, ⟨edI_scope, L, gl, cells, qual, func, code, frame, blt⟩, edI_names, s₀, mg, mb, K⟩) (O : C.Ok)(st__algorithm : ∀ cl ∈ ([728] : List Addr), StoreOk C.K cl "_algorithm") (g_DistanceAlgorithm : IsGlobal C "DistanceAlgorithm" (.ref 643)) (en_read : readsIn C.K 643 (.ref 454) = true) (en_LEVENSHTEIN : findCls C.K (.ref 643) (.ref 454) "LEVENSHTEIN" = some (.val (.ref 668))) (en_eq : SelfEq C.K 643) (en_mem : ∀ a ∈ ([668, 670, 676] : List Addr), Member C.K 643 a) (g_Levenshtein : IsGlobal C "Levenshtein" (.ref 770)) (k_Lev : keepIn C.K (.ref 770) = true) (F_Lev : Fun C (.ref 770) 0 m_Lev) (st__distance_comparer : ∀ cl ∈ ([728] : List Addr), StoreOk C.K cl "_distance_comparer") (en_DAMERAU_OSA : findCls C.K (.ref 643) (.ref 454) "DAMERAU_OSA" = some (.val (.ref 670))) (g_DamerauOsa : IsGlobal C "DamerauOsa" (.ref 810)) (k_Osa : keepIn C.K (.ref 810) = true) (F_Osa : Fun C (.ref 810) 0 m_Osa) (en_USER_PROVIDED : findCls C.K (.ref 643) (.ref 454) "USER_PROVIDED" = some (.val (.ref 676))) (g_AbstractDistanceComparer : IsGlobal C "AbstractDistanceComparer" (.ref 52)) (is_AbstractDistanceComparer : ∀ cl ∈ ([770, 810] : List Addr), isIn C.K (.ref cl) 52 = true) (b_isinstance : IsBuiltin C "isinstance" (.builtin "isinstance")) : EvB C edI_body (edI_m m_Lev m_Osa) := by
  subst hC
  exact (EvB.cons (EvS.assign (EvE.loc O rfl (by decide)) (EvTg.attr O (EvE.loc O rfl (by decide)) st__algorithm) rfl rfl rfl)
  (EvB.cons (EvS.ite (EvT.cmpObj O en_eq en_mem (EvE.loc O rfl (by decide)) (EvE.clsAttr O g_DistanceAlgorithm (by decide) en_read en_LEVENSHTEIN) rfl) (EvB.cons (EvS.assign (EvE.call O g_Levenshtein (by decide) k_Lev F_Lev EvEs.nil rfl) (EvTg.attr O (EvE.loc O rfl (by decide)) st__distance_comparer) rfl rfl rfl)
  EvB.nil) (EvB.cons (EvS.ite (EvT.cmpObj O en_eq en_mem (EvE.loc O rfl (by decide)) (EvE.clsAttr O g_DistanceAlgorithm (by decide) en_read en_DAMERAU_OSA) rfl) (EvB.cons (EvS.assign (EvE.call O g_DamerauOsa (by decide) k_Osa F_Osa EvEs.nil rfl) (EvTg.attr O (EvE.loc O rfl (by decide)) st__distance_comparer) rfl rfl rfl)
  EvB.nil) (EvB.cons (EvS.ite (EvT.cmpObj O en_eq en_mem (EvE.loc O rfl (by decide)) (EvE.clsAttr O g_DistanceAlgorithm (by decide) en_read en_USER_PROVIDED) rfl) (EvB.cons (EvS.ite (EvT.not (EvT.bool (EvE.isiCls O b_isinstance g_AbstractDistanceComparer (by decide) (EvE.loc O rfl (by decide)) is_AbstractDistanceComparer rfl) (fun _ => rfl))) (EvB.cons EvS.no
  EvB.nil) EvB.nil)
  (EvB.cons (EvS.assign (EvE.loc O rfl (by decide)) (EvTg.attr O (EvE.loc O rfl (by decide)) st__distance_comparer) rfl rfl rfl)
  EvB.nil)) (EvB.cons EvS.no
  EvB.nil))
  EvB.nil))
  EvB.nil))
  EvB.nil))

def edC_names : List Str := [Str.ofString "self", Str.ofString "string_1", Str.ofString "string_2", Str.ofString "max_distance"]
def edC_body : List Stmt := clBody PySem.Challenge.pw_fe0312_02 17 1
def edC_scope : Scope := clScope PySem.Challenge.pw_fe0312_02 17 1
def edC_params : Arguments := clParams PySem.Challenge.pw_fe0312_02 17 1
noncomputable def edC_m (t_distance : Addr → Option (Bool × FM))  : Mo Fl :=
  (blkM [(retM (methM t_distance (attrM [728] (getL 0) "_distance_comparer") "distance" [(getL 1), (getL 2), (getL 3)]))])
theorem edC_ok {prog : Program} {w : World} {A : Around} {L gl blt : Addr} {cells : List (Str × Addr)} {qual : Str} {func frame : Option Addr} {code : Value} {s₀ : Shared} {mg mb : Str → Option Value} {K : Frag} (t_distance : Addr → Option (Bool × FM)) 
    {C : Cx} (hC : C = ⟨prog, w, A, ⟨edC_scope, L, gl, cells, qual, func, code, frame, blt⟩, edC_names, s₀, mg, mb, K⟩) (O : C.Ok)(at__distance_comparer : ∀ cl ∈ ([728] : List Addr), AttrOk C.K cl "_distance_comparer") (M_distance : ∀ cl b m, t_distance cl = some (b, m) → MethOk C cl "distance" 3 b m) : EvB C edC_body (edC_m t_distance) := by
  subst hC
  exact (EvB.cons (EvS.ret (EvE.meth O rfl M_distance (EvE.attr O (EvE.loc O rfl (by decide)) at__distance_comparer) (EvEs.cons (EvE.loc O rfl (by decide)) rfl (EvEs.cons (EvE.loc O rfl (by decide)) rfl (EvEs.cons (EvE.loc O rfl (by decide)) rfl EvEs.nil))) ⟨_, rfl⟩))
  EvB.nil)

end Mine

/-! BFn3 -/
namespace Mine

/-- what the proof uses of the fragment and of the names -/
structure Facts (K : Frag) (mg mb : Str → Option Value) : Prop where
  b_len : mg "len" = none ∧ mb "len" = some (.builtin "len")
  b_range : mg "range" = none ∧ mb "range" = some (.type "range")
  b_min : mg "min" = none ∧ mb "min" = some (.builtin "min")
  b_int : mg "int" = none ∧ mb "int" = some (.type "int")
  b_isinstance : mg "isinstance" = none ∧ mb "isinstance" = some (.builtin "isinstance")
  b_bool : mg "bool" = none ∧ mb "bool" = some (.type "bool")
  g_prefix_suffix_prep : mg "prefix_suffix_prep" = some (.ref 35)
  g_null_distance_results : mg "null_distance_results" = some (.ref 28)
  g_Levenshtein : mg "Levenshtein" = some (.ref 770)
  g_DamerauOsa : mg "DamerauOsa" = some (.ref 810)
  g_EditDistance : mg "EditDistance" = some (.ref 728)
  g_DistanceAlgorithm : mg "DistanceAlgorithm" = some (.ref 643)
  g_AbstractDistanceComparer : mg "AbstractDistanceComparer" = some (.ref 52)
  is_AbstractDistanceComparer : ∀ cl ∈ ([770, 810] : List Addr), isIn K (.ref cl) 52 = true
  f_psp : FnIn K 35 "prefix_suffix_prep" "prefix_suffix_prep" psp_params psp_body psp_scope .none
  f_ndr : FnIn K 28 "null_distance_results" "null_distance_results" ndr_params ndr_body ndr_scope .none
  f_lvd : FnIn K 756 "_distance" "Levenshtein._distance" lvd_params lvd_body lvd_scope .none
  f_lvm : FnIn K 764 "_distance_max" "Levenshtein._distance_max" lvm_params lvm_body lvm_scope .none
  f_osd : FnIn K 796 "_distance" "DamerauOsa._distance" osd_params osd_body osd_scope .none
  f_osm : FnIn K 804 "_distance_max" "DamerauOsa._distance_max" osm_params osm_body osm_scope .none
  f_lvI : FnIn K 746 "__init__" "Levenshtein.__init__" lvI_params lvI_body lvI_scope .none
  f_lvD : FnIn K 751 "distance" "Levenshtein.distance" lvD_params lvD_body lvD_scope .none
  f_osI : FnIn K 786 "__init__" "DamerauOsa.__init__" osI_params osI_body osI_scope .none
  f_osD : FnIn K 791 "distance" "DamerauOsa.distance" osD_params osD_body osD_scope .none
  f_edI : FnIn K 718 "__init__" "EditDistance.__init__" edI_params edI_body edI_scope (.ref 711)
  f_edC : FnIn K 725 "compare" "EditDistance.compare" edC_params edC_body edC_scope .none
  d_edI : ∃ oc od n sl, K.lookup 711 = some ⟨oc, od, .seq #[.none] n, sl⟩
  k_psp : keepIn K (.ref 35) = true
  k_ndr : keepIn K (.ref 28) = true
  at_770_base_char_1_costs : AttrOk K 770 "_base_char_1_costs"
  at_810_base_char_1_costs : AttrOk K 810 "_base_char_1_costs"
  at_810_base_prev_char_1_costs : AttrOk K 810 "_base_prev_char_1_costs"
  at_728_distance_comparer : AttrOk K 728 "_distance_comparer"
  st_770_base_char_1_costs : StoreOk K 770 "_base_char_1_costs"
  st_810_base_char_1_costs : StoreOk K 810 "_base_char_1_costs"
  st_810_base_prev_char_1_costs : StoreOk K 810 "_base_prev_char_1_costs"
  st_728_distance_comparer : StoreOk K 728 "_distance_comparer"
  st_728_algorithm : StoreOk K 728 "_algorithm"
  s_770_distance : StatIn K 770 "_distance" 756
  s_770_distance_max : StatIn K 770 "_distance_max" 764
  s_810_distance : StatIn K 810 "_distance" 796
  s_810_distance_max : StatIn K 810 "_distance_max" 804
  p_770distance : PlainIn K 770 "distance" 751
  p_810distance : PlainIn K 810 "distance" 791
  p_728compare : PlainIn K 728 "compare" 725
  c_770 : ClassIn K 770 746
  c_810 : ClassIn K 810 786
  c_728 : ClassIn K 728 718
  en_read : readsIn K 643 (.ref 454) = true
  en_LEVENSHTEIN : findCls K (.ref 643) (.ref 454) "LEVENSHTEIN" = some (.val (.ref 668))
  en_DAMERAU_OSA : findCls K (.ref 643) (.ref 454) "DAMERAU_OSA" = some (.val (.ref 670))
  en_USER_PROVIDED : findCls K (.ref 643) (.ref 454) "USER_PROVIDED" = some (.val (.ref 676))
  en_eq : SelfEq K 643
  en_mem : ∀ a ∈ ([668, 670, 676] : List Addr), Member K 643 a

theorem Sub.facts {C C' : Cx} {fd a names} (S : Sub C C' fd a names) (FA : Facts C.K C.mg C.mb) : Facts C'.K C'.mg C'.mb := by rw [S.K, S.mg, S.mb]; exact FA

noncomputable def psp_mm (vs : List PV) : Mo Fl := match vs with | [.fl (.str a), .fl (.str _)] => psp_m (a.length + 1) (a.length + 1) | _ => fun _ => none
def psp_lp (vs : List PV) : List (Option PV) := match vs with | [v0, v1] => [some v0, some v1, none, none, none] | _ => []
def psp_cells (vs : List PV) : List (Str × FV) := []
noncomputable def psp_fm : FM := fun vs mem => (psp_mm vs ⟨psp_lp vs, mem⟩).map fun r => (retV r.1, r.2.mem)

theorem psp_fun {C : Cx} (O : C.Ok) (B : Base C) (rm : Room C 0) (FA : Facts C.K C.mg C.mb) : CodeFun C (.ref 35) 2 psp_fm := by
  refine fn_fun O rm B FA.f_psp rfl rfl rfl (names := psp_names) (cells := psp_cells) (m := psp_mm) (lp := psp_lp) (by decide +kernel) (by decide +kernel) ?_ ?_
  · intro vs C' fd S hs hg hb hc
    obtain ⟨gl, cells, qual, func, code, frame, blt, he⟩ := S.form hs
    have hC := Cx.form he S.names
    have O' := S.ok
    have FA' := S.facts FA
    have B' := S.base hg hb
    unfold psp_mm
    split
    · exact psp_ok _ _  hC O' (S.builtin hs (by decide +kernel) FA.b_len)
    · exact EvB.no
  · intro fd e1 e2 e3 e4 φ s cvs vs X r hn
    obtain ⟨name, qn, ps, bd, sc, gl, clo, df, kd, doc, pm, an, cd, ct, bl⟩ := fd
    dsimp only at e1 e2 e3 e4
    subst e1; subst e2; subst e3; subst e4
    obtain ⟨c0, cs0, v0, vs0, rfl, rfl, r0, r, hn⟩ := r.cons_inv hn
    obtain ⟨c1, cs1, v1, vs1, rfl, rfl, r1, r, hn⟩ := r.cons_inv hn
    obtain ⟨rfl, rfl⟩ := r.nil_inv hn
    refine ⟨[("string_1", c0), ("string_2", c1)], BindsTo.of_eq (by rfl), fun n => kindsX (by rfl) (n + 1), ⟨_, rfl, ?_⟩, fun _ _ h => nomatch h⟩
    exact (.cons r0 (.cons r1 (.skip (.skip (.skip .nil)))))

noncomputable def ndr_mm (vs : List PV) : Mo Fl := ndr_m
def ndr_lp (vs : List PV) : List (Option PV) := match vs with | [v0, v1, v2] => [some v0, some v1, some v2] | _ => []
def ndr_cells (vs : List PV) : List (Str × FV) := []
noncomputable def ndr_fm : FM := fun vs mem => (ndr_mm vs ⟨ndr_lp vs, mem⟩).map fun r => (retV r.1, r.2.mem)

theorem ndr_fun {C : Cx} (O : C.Ok) (B : Base C) (rm : Room C 0) (FA : Facts C.K C.mg C.mb) : CodeFun C (.ref 28) 3 ndr_fm := by
  refine fn_fun O rm B FA.f_ndr rfl rfl rfl (names := ndr_names) (cells := ndr_cells) (m := ndr_mm) (lp := ndr_lp) (by decide +kernel) (by decide +kernel) ?_ ?_
  · intro vs C' fd S hs hg hb hc
    obtain ⟨gl, cells, qual, func, code, frame, blt, he⟩ := S.form hs
    have hC := Cx.form he S.names
    have O' := S.ok
    have FA' := S.facts FA
    have B' := S.base hg hb
    exact ndr_ok  hC O' (S.builtin hs (by decide +kernel) FA.b_len)
  · intro fd e1 e2 e3 e4 φ s cvs vs X r hn
    obtain ⟨name, qn, ps, bd, sc, gl, clo, df, kd, doc, pm, an, cd, ct, bl⟩ := fd
    dsimp only at e1 e2 e3 e4
    subst e1; subst e2; subst e3; subst e4
    obtain ⟨c0, cs0, v0, vs0, rfl, rfl, r0, r, hn⟩ := r.cons_inv hn
    obtain ⟨c1, cs1, v1, vs1, rfl, rfl, r1, r, hn⟩ := r.cons_inv hn
    obtain ⟨c2, cs2, v2, vs2, rfl, rfl, r2, r, hn⟩ := r.cons_inv hn
    obtain ⟨rfl, rfl⟩ := r.nil_inv hn
    refine ⟨[("string_1", c0), ("string_2", c1), ("max_distance", c2)], BindsTo.of_eq (by rfl), fun n => kindsX (by rfl) (n + 1), ⟨_, rfl, ?_⟩, fun _ _ h => nomatch h⟩
    exact (.cons r0 (.cons r1 (.cons r2 .nil)))

noncomputable def lvd_mm (vs : List PV) : Mo Fl := lvd_m
def lvd_lp (vs : List PV) : List (Option PV) := match vs with | [v0, v1, v2, v3, v4, v5] => [some v0, some v1, some v2, some v3, some v4, some v5, none, none, none, none, none, none] | _ => []
def lvd_cells (vs : List PV) : List (Str × FV) := []
noncomputable def lvd_fm : FM := fun vs mem => (lvd_mm vs ⟨lvd_lp vs, mem⟩).map fun r => (retV r.1, r.2.mem)

theorem lvd_fun {C : Cx} (O : C.Ok) (B : Base C) (rm : Room C 0) (FA : Facts C.K C.mg C.mb) : CodeFun C (.ref 756) 6 lvd_fm := by
  refine fn_fun O rm B FA.f_lvd rfl rfl rfl (names := lvd_names) (cells := lvd_cells) (m := lvd_mm) (lp := lvd_lp) (by decide +kernel) (by decide +kernel) ?_ ?_
  · intro vs C' fd S hs hg hb hc
    obtain ⟨gl, cells, qual, func, code, frame, blt, he⟩ := S.form hs
    have hC := Cx.form he S.names
    have O' := S.ok
    have FA' := S.facts FA
    have B' := S.base hg hb
    exact lvd_ok  hC O' (S.builtin hs (by decide +kernel) FA.b_range)
  · intro fd e1 e2 e3 e4 φ s cvs vs X r hn
    obtain ⟨name, qn, ps, bd, sc, gl, clo, df, kd, doc, pm, an, cd, ct, bl⟩ := fd
    dsimp only at e1 e2 e3 e4
    subst e1; subst e2; subst e3; subst e4
    obtain ⟨c0, cs0, v0, vs0, rfl, rfl, r0, r, hn⟩ := r.cons_inv hn
    obtain ⟨c1, cs1, v1, vs1, rfl, rfl, r1, r, hn⟩ := r.cons_inv hn
    obtain ⟨c2, cs2, v2, vs2, rfl, rfl, r2, r, hn⟩ := r.cons_inv hn
    obtain ⟨c3, cs3, v3, vs3, rfl, rfl, r3, r, hn⟩ := r.cons_inv hn
    obtain ⟨c4, cs4, v4, vs4, rfl, rfl, r4, r, hn⟩ := r.cons_inv hn
    obtain ⟨c5, cs5, v5, vs5, rfl, rfl, r5, r, hn⟩ := r.cons_inv hn
    obtain ⟨rfl, rfl⟩ := r.nil_inv hn
    refine ⟨[("string_1", c0), ("string_2", c1), ("len_1", c2), ("len_2", c3), ("start", c4), ("char_1_costs", c5)], BindsTo.of_eq (by rfl), fun n => kindsX (by rfl) (n + 1), ⟨_, rfl, ?_⟩, fun _ _ h => nomatch h⟩
    exact (.cons r0 (.cons r1 (.cons r2 (.cons r3 (.cons r4 (.cons r5 (.skip (.skip (.skip (.skip (.skip (.skip .nil))))))))))))

noncomputable def lvm_mm (vs : List PV) : Mo Fl := match argI 5 vs with | some m => lvm_m (.int m) | none => fun _ => none
def lvm_lp (vs : List PV) : List (Option PV) := match vs with | [v0, v1, v2, v3, v4, v5, v6] => [some v0, some v1, some v2, some v3, some v4, some v6, none, none, none, none, none, none, none, none, none, none] | _ => []
def lvm_cells (vs : List PV) : List (Str × FV) := match argI 5 vs with | some m => [("max_distance", .int m)] | none => []
noncomputable def lvm_fm : FM := fun vs mem => (lvm_mm vs ⟨lvm_lp vs, mem⟩).map fun r => (retV r.1, r.2.mem)

theorem lvm_fun {C : Cx} (O : C.Ok) (B : Base C) (rm : Room C 0) (FA : Facts C.K C.mg C.mb) : CodeFun C (.ref 764) 7 lvm_fm := by
  refine fn_fun O rm B FA.f_lvm rfl rfl rfl (names := lvm_names) (cells := lvm_cells) (m := lvm_mm) (lp := lvm_lp) (by decide +kernel) (by decide +kernel) ?_ ?_
  · intro vs C' fd S hs hg hb hc
    obtain ⟨gl, cells, qual, func, code, frame, blt, he⟩ := S.form hs
    have hC := Cx.form he S.names
    have O' := S.ok
    have FA' := S.facts FA
    have B' := S.base hg hb
    unfold lvm_mm
    unfold lvm_cells at hc
    cases hm : argI 5 vs with
    | none => exact EvB.no
    | some m => rw [hm] at hc; exact lvm_ok  (.int m) hC O' (S.builtin hs (by decide +kernel) FA.b_range) (hc _ _ (List.mem_singleton.mpr rfl))
  · intro fd e1 e2 e3 e4 φ s cvs vs X r hn
    obtain ⟨name, qn, ps, bd, sc, gl, clo, df, kd, doc, pm, an, cd, ct, bl⟩ := fd
    dsimp only at e1 e2 e3 e4
    subst e1; subst e2; subst e3; subst e4
    obtain ⟨c0, cs0, v0, vs0, rfl, rfl, r0, r, hn⟩ := r.cons_inv hn
    obtain ⟨c1, cs1, v1, vs1, rfl, rfl, r1, r, hn⟩ := r.cons_inv hn
    obtain ⟨c2, cs2, v2, vs2, rfl, rfl, r2, r, hn⟩ := r.cons_inv hn
    obtain ⟨c3, cs3, v3, vs3, rfl, rfl, r3, r, hn⟩ := r.cons_inv hn
    obtain ⟨c4, cs4, v4, vs4, rfl, rfl, r4, r, hn⟩ := r.cons_inv hn
    obtain ⟨c5, cs5, v5, vs5, rfl, rfl, r5, r, hn⟩ := r.cons_inv hn
    obtain ⟨c6, cs6, v6, vs6, rfl, rfl, r6, r, hn⟩ := r.cons_inv hn
    obtain ⟨rfl, rfl⟩ := r.nil_inv hn
    refine ⟨[("string_1", c0), ("string_2", c1), ("len_1", c2), ("len_2", c3), ("start", c4), ("max_distance", c5), ("char_1_costs", c6)], BindsTo.of_eq (by rfl), fun n => kindsX (by rfl) (n + 1), ⟨_, rfl, ?_⟩, fun x f h => ?_⟩
    · exact (.cons r0 (.cons r1 (.cons r2 (.cons r3 (.cons r4 (.cons r6 (.skip (.skip (.skip (.skip (.skip (.skip (.skip (.skip (.skip (.skip .nil))))))))))))))))
    · unfold lvm_cells at h
      cases hm : argI 5 [v0, v1, v2, v3, v4, v5, v6] with
      | none => rw [hm] at h; nomatch h
      | some m =>
        rw [hm] at h
        cases List.mem_singleton.mp h
        have e := argI_some hm
        have e : v5 = .fl (.int m) := Option.some.inj e
        subst e
        obtain ⟨t, rfl⟩ := r5
        exact ⟨by decide +kernel, fun n => ⟨_, _, rfl, rfl, t, rfl⟩⟩

noncomputable def osd_mm (vs : List PV) : Mo Fl := osd_m
def osd_lp (vs : List PV) : List (Option PV) := match vs with | [v0, v1, v2, v3, v4, v5, v6] => [some v0, some v1, some v2, some v3, some v4, some v5, some v6, none, none, none, none, none, none, none, none, none, none, none] | _ => []
def osd_cells (vs : List PV) : List (Str × FV) := []
noncomputable def osd_fm : FM := fun vs mem => (osd_mm vs ⟨osd_lp vs, mem⟩).map fun r => (retV r.1, r.2.mem)

theorem osd_fun {C : Cx} (O : C.Ok) (B : Base C) (rm : Room C 0) (FA : Facts C.K C.mg C.mb) : CodeFun C (.ref 796) 7 osd_fm := by
  refine fn_fun O rm B FA.f_osd rfl rfl rfl (names := osd_names) (cells := osd_cells) (m := osd_mm) (lp := osd_lp) (by decide +kernel) (by decide +kernel) ?_ ?_
  · intro vs C' fd S hs hg hb hc
    obtain ⟨gl, cells, qual, func, code, frame, blt, he⟩ := S.form hs
    have hC := Cx.form he S.names
    have O' := S.ok
    have FA' := S.facts FA
    have B' := S.base hg hb
    exact osd_ok  hC O' (S.builtin hs (by decide +kernel) FA.b_range)
  · intro fd e1 e2 e3 e4 φ s cvs vs X r hn
    obtain ⟨name, qn, ps, bd, sc, gl, clo, df, kd, doc, pm, an, cd, ct, bl⟩ := fd
    dsimp only at e1 e2 e3 e4
    subst e1; subst e2; subst e3; subst e4
    obtain ⟨c0, cs0, v0, vs0, rfl, rfl, r0, r, hn⟩ := r.cons_inv hn
    obtain ⟨c1, cs1, v1, vs1, rfl, rfl, r1, r, hn⟩ := r.cons_inv hn
    obtain ⟨c2, cs2, v2, vs2, rfl, rfl, r2, r, hn⟩ := r.cons_inv hn
    obtain ⟨c3, cs3, v3, vs3, rfl, rfl, r3, r, hn⟩ := r.cons_inv hn
    obtain ⟨c4, cs4, v4, vs4, rfl, rfl, r4, r, hn⟩ := r.cons_inv hn
    obtain ⟨c5, cs5, v5, vs5, rfl, rfl, r5, r, hn⟩ := r.cons_inv hn
    obtain ⟨c6, cs6, v6, vs6, rfl, rfl, r6, r, hn⟩ := r.cons_inv hn
    obtain ⟨rfl, rfl⟩ := r.nil_inv hn
    refine ⟨[("string_1", c0), ("string_2", c1), ("len_1", c2), ("len_2", c3), ("start", c4), ("char_1_costs", c5), ("prev_char_1_costs", c6)], BindsTo.of_eq (by rfl), fun n => kindsX (by rfl) (n + 1), ⟨_, rfl, ?_⟩, fun _ _ h => nomatch h⟩
    exact (.cons r0 (.cons r1 (.cons r2 (.cons r3 (.cons r4 (.cons r5 (.cons r6 (.skip (.skip (.skip (.skip (.skip (.skip (.skip (.skip (.skip (.skip (.skip .nil))))))))))))))))))

noncomputable def osm_mm (vs : List PV) : Mo Fl := match argI 5 vs with | some m => osm_m (.int m) | none => fun _ => none
def osm_lp (vs : List PV) : List (Option PV) := match vs with | [v0, v1, v2, v3, v4, v5, v6, v7] => [some v0, some v1, some v2, some v3, some v4, some v6, some v7, none, none, none, none, none, none, none, none, none, none, none, none, none, none, none] | _ => []
def osm_cells (vs : List PV) : List (Str × FV) := match argI 5 vs with | some m => [("max_distance", .int m)] | none => []
noncomputable def osm_fm : FM := fun vs mem => (osm_mm vs ⟨osm_lp vs, mem⟩).map fun r => (retV r.1, r.2.mem)

theorem osm_fun {C : Cx} (O : C.Ok) (B : Base C) (rm : Room C 0) (FA : Facts C.K C.mg C.mb) : CodeFun C (.ref 804) 8 osm_fm := by
  refine fn_fun O rm B FA.f_osm rfl rfl rfl (names := osm_names) (cells := osm_cells) (m := osm_mm) (lp := osm_lp) (by decide +kernel) (by decide +kernel) ?_ ?_
  · intro vs C' fd S hs hg hb hc
    obtain ⟨gl, cells, qual, func, code, frame, blt, he⟩ := S.form hs
    have hC := Cx.form he S.names
    have O' := S.ok
    have FA' := S.facts FA
    have B' := S.base hg hb
    unfold osm_mm
    unfold osm_cells at hc
    cases hm : argI 5 vs with
    | none => exact EvB.no
    | some m => rw [hm] at hc; exact osm_ok  (.int m) hC O' (S.builtin hs (by decide +kernel) FA.b_range) (hc _ _ (List.mem_singleton.mpr rfl))
  · intro fd e1 e2 e3 e4 φ s cvs vs X r hn
    obtain ⟨name, qn, ps, bd, sc, gl, clo, df, kd, doc, pm, an, cd, ct, bl⟩ := fd
    dsimp only at e1 e2 e3 e4
    subst e1; subst e2; subst e3; subst e4
    obtain ⟨c0, cs0, v0, vs0, rfl, rfl, r0, r, hn⟩ := r.cons_inv hn
    obtain ⟨c1, cs1, v1, vs1, rfl, rfl, r1, r, hn⟩ := r.cons_inv hn
    obtain ⟨c2, cs2, v2, vs2, rfl, rfl, r2, r, hn⟩ := r.cons_inv hn
    obtain ⟨c3, cs3, v3, vs3, rfl, rfl, r3, r, hn⟩ := r.cons_inv hn
    obtain ⟨c4, cs4, v4, vs4, rfl, rfl, r4, r, hn⟩ := r.cons_inv hn
    obtain ⟨c5, cs5, v5, vs5, rfl, rfl, r5, r, hn⟩ := r.cons_inv hn
    obtain ⟨c6, cs6, v6, vs6, rfl, rfl, r6, r, hn⟩ := r.cons_inv hn
    obtain ⟨c7, cs7, v7, vs7, rfl, rfl, r7, r, hn⟩ := r.cons_inv hn
    obtain ⟨rfl, rfl⟩ := r.nil_inv hn
    refine ⟨[("string_1", c0), ("string_2", c1), ("len_1", c2), ("len_2", c3), ("start", c4), ("max_distance", c5), ("char_1_costs", c6), ("prev_char_1_costs", c7)], BindsTo.of_eq (by rfl), fun n => kindsX (by rfl) (n + 1), ⟨_, rfl, ?_⟩, fun x f h => ?_⟩
    · exact (.cons r0 (.cons r1 (.cons r2 (.cons r3 (.cons r4 (.cons r6 (.cons r7 (.skip (.skip (.skip (.skip (.skip (.skip (.skip (.skip (.skip (.skip (.skip (.skip (.skip (.skip (.skip .nil))))))))))))))))))))))
    · unfold osm_cells at h
      cases hm : argI 5 [v0, v1, v2, v3, v4, v5, v6, v7] with
      | none => rw [hm] at h; nomatch h
      | some m =>
        rw [hm] at h
        cases List.mem_singleton.mp h
        have e := argI_some hm
        have e : v5 = .fl (.int m) := Option.some.inj e
        subst e
        obtain ⟨t, rfl⟩ := r5
        exact ⟨by decide +kernel, fun n => ⟨_, _, rfl, rfl, t, rfl⟩⟩

noncomputable def lvI_mm (vs : List PV) : Mo Fl := lvI_m
def lvI_lp (vs : List PV) : List (Option PV) := match vs with | [v0] => [some v0] | _ => []
def lvI_cells (vs : List PV) : List (Str × FV) := []
noncomputable def lvI_fm : FM := fun vs mem => (lvI_mm vs ⟨lvI_lp vs, mem⟩).map fun r => (retV r.1, r.2.mem)

theorem lvI_fun {C : Cx} (O : C.Ok) (B : Base C) (rm : Room C 0) (FA : Facts C.K C.mg C.mb) : CodeFun C (.ref 746) 1 lvI_fm := by
  refine fn_fun O rm B FA.f_lvI rfl rfl rfl (names := lvI_names) (cells := lvI_cells) (m := lvI_mm) (lp := lvI_lp) (by decide +kernel) (by decide +kernel) ?_ ?_
  · intro vs C' fd S hs hg hb hc
    obtain ⟨gl, cells, qual, func, code, frame, blt, he⟩ := S.form hs
    have hC := Cx.form he S.names
    have O' := S.ok
    have FA' := S.facts FA
    have B' := S.base hg hb
    exact lvI_ok  hC O' (fun cl h => by rw [List.mem_singleton.mp h]; exact FA'.st_770_base_char_1_costs)
  · intro fd e1 e2 e3 e4 φ s cvs vs X r hn
    obtain ⟨name, qn, ps, bd, sc, gl, clo, df, kd, doc, pm, an, cd, ct, bl⟩ := fd
    dsimp only at e1 e2 e3 e4
    subst e1; subst e2; subst e3; subst e4
    obtain ⟨c0, cs0, v0, vs0, rfl, rfl, r0, r, hn⟩ := r.cons_inv hn
    obtain ⟨rfl, rfl⟩ := r.nil_inv hn
    refine ⟨[("self", c0)], BindsTo.of_eq (by rfl), fun n => kindsX (by rfl) (n + 1), ⟨_, rfl, ?_⟩, fun _ _ h => nomatch h⟩
    exact (.cons r0 .nil)

noncomputable def lvD_mm (vs : List PV) : Mo Fl := lvD_m ndr_fm psp_fm (tab1 770 true lvm_fm) (tab1 770 true lvd_fm)
def lvD_lp (vs : List PV) : List (Option PV) := match vs with | [v0, v1, v2, v3] => [some v0, some v1, some v2, some v3, none, none, none] | _ => []
def lvD_cells (vs : List PV) : List (Str × FV) := []
noncomputable def lvD_fm : FM := fun vs mem => (lvD_mm vs ⟨lvD_lp vs, mem⟩).map fun r => (retV r.1, r.2.mem)

theorem lvD_fun {C : Cx} (O : C.Ok) (B : Base C) (rm : Room C 1) (FA : Facts C.K C.mg C.mb) : CodeFun C (.ref 751) 4 lvD_fm := by
  refine fn_fun O rm B FA.f_lvD rfl rfl rfl (names := lvD_names) (cells := lvD_cells) (m := lvD_mm) (lp := lvD_lp) (by decide +kernel) (by decide +kernel) ?_ ?_
  · intro vs C' fd S hs hg hb hc
    obtain ⟨gl, cells, qual, func, code, frame, blt, he⟩ := S.form hs
    have hC := Cx.form he S.names
    have O' := S.ok
    have FA' := S.facts FA
    have B' := S.base hg hb
    have rm' : Room C' 0 := S.room rm
    exact lvD_ok _ _ _ _  hC O' (S.global hs (by decide +kernel) FA.g_null_distance_results) FA'.k_ndr ((ndr_fun O' B' rm' FA').toFun O') (S.global hs (by decide +kernel) FA.g_prefix_suffix_prep) FA'.k_psp ((psp_fun O' B' rm' FA').toFun O') (fun cl h => by rw [List.mem_singleton.mp h]; exact FA'.at_770_base_char_1_costs) (fun cl h => by rw [List.mem_singleton.mp h]; exact FA'.st_770_base_char_1_costs) (tab1_ok (FA'.s_770_distance_max.meth ((lvm_fun O' B' rm' FA').toFun O'))) (tab1_ok (FA'.s_770_distance.meth ((lvd_fun O' B' rm' FA').toFun O'))) (S.builtin hs (by decide +kernel) FA.b_int) (S.builtin hs (by decide +kernel) FA.b_min) (S.builtin hs (by decide +kernel) FA.b_len) (S.builtin hs (by decide +kernel) FA.b_range)
  · intro fd e1 e2 e3 e4 φ s cvs vs X r hn
    obtain ⟨name, qn, ps, bd, sc, gl, clo, df, kd, doc, pm, an, cd, ct, bl⟩ := fd
    dsimp only at e1 e2 e3 e4
    subst e1; subst e2; subst e3; subst e4
    obtain ⟨c0, cs0, v0, vs0, rfl, rfl, r0, r, hn⟩ := r.cons_inv hn
    obtain ⟨c1, cs1, v1, vs1, rfl, rfl, r1, r, hn⟩ := r.cons_inv hn
    obtain ⟨c2, cs2, v2, vs2, rfl, rfl, r2, r, hn⟩ := r.cons_inv hn
    obtain ⟨c3, cs3, v3, vs3, rfl, rfl, r3, r, hn⟩ := r.cons_inv hn
    obtain ⟨rfl, rfl⟩ := r.nil_inv hn
    refine ⟨[("self", c0), ("string_1", c1), ("string_2", c2), ("max_distance", c3)], BindsTo.of_eq (by rfl), fun n => kindsX (by rfl) (n + 1), ⟨_, rfl, ?_⟩, fun _ _ h => nomatch h⟩
    exact (.cons r0 (.cons r1 (.cons r2 (.cons r3 (.skip (.skip (.skip .nil)))))))

noncomputable def osI_mm (vs : List PV) : Mo Fl := osI_m
def osI_lp (vs : List PV) : List (Option PV) := match vs with | [v0] => [some v0] | _ => []
def osI_cells (vs : List PV) : List (Str × FV) := []
noncomputable def osI_fm : FM := fun vs mem => (osI_mm vs ⟨osI_lp vs, mem⟩).map fun r => (retV r.1, r.2.mem)

theorem osI_fun {C : Cx} (O : C.Ok) (B : Base C) (rm : Room C 0) (FA : Facts C.K C.mg C.mb) : CodeFun C (.ref 786) 1 osI_fm := by
  refine fn_fun O rm B FA.f_osI rfl rfl rfl (names := osI_names) (cells := osI_cells) (m := osI_mm) (lp := osI_lp) (by decide +kernel) (by decide +kernel) ?_ ?_
  · intro vs C' fd S hs hg hb hc
    obtain ⟨gl, cells, qual, func, code, frame, blt, he⟩ := S.form hs
    have hC := Cx.form he S.names
    have O' := S.ok
    have FA' := S.facts FA
    have B' := S.base hg hb
    exact osI_ok  hC O' (fun cl h => by rw [List.mem_singleton.mp h]; exact FA'.st_810_base_char_1_costs) (fun cl h => by rw [List.mem_singleton.mp h]; exact FA'.st_810_base_prev_char_1_costs)
  · intro fd e1 e2 e3 e4 φ s cvs vs X r hn
    obtain ⟨name, qn, ps, bd, sc, gl, clo, df, kd, doc, pm, an, cd, ct, bl⟩ := fd
    dsimp only at e1 e2 e3 e4
    subst e1; subst e2; subst e3; subst e4
    obtain ⟨c0, cs0, v0, vs0, rfl, rfl, r0, r, hn⟩ := r.cons_inv hn
    obtain ⟨rfl, rfl⟩ := r.nil_inv hn
    refine ⟨[("self", c0)], BindsTo.of_eq (by rfl), fun n => kindsX (by rfl) (n + 1), ⟨_, rfl, ?_⟩, fun _ _ h => nomatch h⟩
    exact (.cons r0 .nil)

noncomputable def osD_mm (vs : List PV) : Mo Fl := osD_m ndr_fm psp_fm (tab1 810 true osm_fm) (tab1 810 true osd_fm)
def osD_lp (vs : List PV) : List (Option PV) := match vs with | [v0, v1, v2, v3] => [some v0, some v1, some v2, some v3, none, none, none] | _ => []
def osD_cells (vs : List PV) : List (Str × FV) := []
noncomputable def osD_fm : FM := fun vs mem => (osD_mm vs ⟨osD_lp vs, mem⟩).map fun r => (retV r.1, r.2.mem)

theorem osD_fun {C : Cx} (O : C.Ok) (B : Base C) (rm : Room C 1) (FA : Facts C.K C.mg C.mb) : CodeFun C (.ref 791) 4 osD_fm := by
  refine fn_fun O rm B FA.f_osD rfl rfl rfl (names := osD_names) (cells := osD_cells) (m := osD_mm) (lp := osD_lp) (by decide +kernel) (by decide +kernel) ?_ ?_
  · intro vs C' fd S hs hg hb hc
    obtain ⟨gl, cells, qual, func, code, frame, blt, he⟩ := S.form hs
    have hC := Cx.form he S.names
    have O' := S.ok
    have FA' := S.facts FA
    have B' := S.base hg hb
    have rm' : Room C' 0 := S.room rm
    exact osD_ok _ _ _ _  hC O' (S.global hs (by decide +kernel) FA.g_null_distance_results) FA'.k_ndr ((ndr_fun O' B' rm' FA').toFun O') (S.global hs (by decide +kernel) FA.g_prefix_suffix_prep) FA'.k_psp ((psp_fun O' B' rm' FA').toFun O') (fun cl h => by rw [List.mem_singleton.mp h]; exact FA'.at_810_base_char_1_costs) (fun cl h => by rw [List.mem_singleton.mp h]; exact FA'.st_810_base_char_1_costs) (fun cl h => by rw [List.mem_singleton.mp h]; exact FA'.st_810_base_prev_char_1_costs) (fun cl h => by rw [List.mem_singleton.mp h]; exact FA'.at_810_base_prev_char_1_costs) (tab1_ok (FA'.s_810_distance_max.meth ((osm_fun O' B' rm' FA').toFun O'))) (tab1_ok (FA'.s_810_distance.meth ((osd_fun O' B' rm' FA').toFun O'))) (S.builtin hs (by decide +kernel) FA.b_int) (S.builtin hs (by decide +kernel) FA.b_min) (S.builtin hs (by decide +kernel) FA.b_len) (S.builtin hs (by decide +kernel) FA.b_range)
  · intro fd e1 e2 e3 e4 φ s cvs vs X r hn
    obtain ⟨name, qn, ps, bd, sc, gl, clo, df, kd, doc, pm, an, cd, ct, bl⟩ := fd
    dsimp only at e1 e2 e3 e4
    subst e1; subst e2; subst e3; subst e4
    obtain ⟨c0, cs0, v0, vs0, rfl, rfl, r0, r, hn⟩ := r.cons_inv hn
    obtain ⟨c1, cs1, v1, vs1, rfl, rfl, r1, r, hn⟩ := r.cons_inv hn
    obtain ⟨c2, cs2, v2, vs2, rfl, rfl, r2, r, hn⟩ := r.cons_inv hn
    obtain ⟨c3, cs3, v3, vs3, rfl, rfl, r3, r, hn⟩ := r.cons_inv hn
    obtain ⟨rfl, rfl⟩ := r.nil_inv hn
    refine ⟨[("self", c0), ("string_1", c1), ("string_2", c2), ("max_distance", c3)], BindsTo.of_eq (by rfl), fun n => kindsX (by rfl) (n + 1), ⟨_, rfl, ?_⟩, fun _ _ h => nomatch h⟩
    exact (.cons r0 (.cons r1 (.cons r2 (.cons r3 (.skip (.skip (.skip .nil)))))))

noncomputable def edI_mm (vs : List PV) : Mo Fl := edI_m (makeF 770 lvI_fm) (makeF 810 osI_fm)
def edI_lp (vs : List PV) : List (Option PV) := match vs with | [v0, v1] => [some v0, some v1, some (.fl .none)] | _ => []
def edI_cells (vs : List PV) : List (Str × FV) := []
noncomputable def edI_fm : FM := fun vs mem => (edI_mm vs ⟨edI_lp vs, mem⟩).map fun r => (retV r.1, r.2.mem)

theorem edI_fun {C : Cx} (O : C.Ok) (B : Base C) (rm : Room C 1) (FA : Facts C.K C.mg C.mb) : CodeFun C (.ref 718) 2 edI_fm := by
  refine fn_fun O rm B FA.f_edI rfl rfl rfl (names := edI_names) (cells := edI_cells) (m := edI_mm) (lp := edI_lp) (by decide +kernel) (by decide +kernel) ?_ ?_
  · intro vs C' fd S hs hg hb hc
    obtain ⟨gl, cells, qual, func, code, frame, blt, he⟩ := S.form hs
    have hC := Cx.form he S.names
    have O' := S.ok
    have FA' := S.facts FA
    have B' := S.base hg hb
    have rm' : Room C' 0 := S.room rm
    exact edI_ok _ _  hC O' (fun cl h => by rw [List.mem_singleton.mp h]; exact FA'.st_728_algorithm) (S.global hs (by decide +kernel) FA.g_DistanceAlgorithm) FA'.en_read FA'.en_LEVENSHTEIN FA'.en_eq FA'.en_mem (S.global hs (by decide +kernel) FA.g_Levenshtein) FA'.c_770.keep (make_fun O' FA'.c_770.makes FA'.c_770.init FA'.c_770.fn (lvI_fun O' B' rm' FA')) (fun cl h => by rw [List.mem_singleton.mp h]; exact FA'.st_728_distance_comparer) FA'.en_DAMERAU_OSA (S.global hs (by decide +kernel) FA.g_DamerauOsa) FA'.c_810.keep (make_fun O' FA'.c_810.makes FA'.c_810.init FA'.c_810.fn (osI_fun O' B' rm' FA')) FA'.en_USER_PROVIDED (S.global hs (by decide +kernel) FA.g_AbstractDistanceComparer) FA'.is_AbstractDistanceComparer (S.builtin hs (by decide +kernel) FA.b_isinstance)
  · intro fd e1 e2 e3 e4 φ s cvs vs X r hn
    obtain ⟨name, qn, ps, bd, sc, gl, clo, df, kd, doc, pm, an, cd, ct, bl⟩ := fd
    dsimp only at e1 e2 e3 e4
    subst e1; subst e2; subst e3; subst e4
    obtain ⟨c0, cs0, v0, vs0, rfl, rfl, r0, r, hn⟩ := r.cons_inv hn
    obtain ⟨c1, cs1, v1, vs1, rfl, rfl, r1, r, hn⟩ := r.cons_inv hn
    obtain ⟨rfl, rfl⟩ := r.nil_inv hn
    obtain ⟨oc, od, dn, sl, hd⟩ := FA.d_edI
    refine ⟨[("self", c0), ("algorithm", c1), ("comparer", .none)], BindsTo.of_defaults (items := #[.none]) (n := dn) rfl (X _ _ hd) rfl (by rfl) (by rfl), fun n => kindsX (by rfl) (n + 1), ⟨_, rfl, ?_⟩, fun _ _ h => nomatch h⟩
    exact (.cons r0 (.cons r1 (.cons RV.none .nil)))

noncomputable def edJ_mm (vs : List PV) : Mo Fl := edI_m (makeF 770 lvI_fm) (makeF 810 osI_fm)
def edJ_lp (vs : List PV) : List (Option PV) := match vs with | [v0, v1, v2] => [some v0, some v1, some v2] | _ => []
def edJ_cells (vs : List PV) : List (Str × FV) := []
noncomputable def edJ_fm : FM := fun vs mem => (edJ_mm vs ⟨edJ_lp vs, mem⟩).map fun r => (retV r.1, r.2.mem)

theorem edJ_fun {C : Cx} (O : C.Ok) (B : Base C) (rm : Room C 1) (FA : Facts C.K C.mg C.mb) : CodeFun C (.ref 718) 3 edJ_fm := by
  refine fn_fun O rm B FA.f_edI rfl rfl rfl (names := edI_names) (cells := edJ_cells) (m := edJ_mm) (lp := edJ_lp) (by decide +kernel) (by decide +kernel) ?_ ?_
  · intro vs C' fd S hs hg hb hc
    obtain ⟨gl, cells, qual, func, code, frame, blt, he⟩ := S.form hs
    have hC := Cx.form he S.names
    have O' := S.ok
    have FA' := S.facts FA
    have B' := S.base hg hb
    have rm' : Room C' 0 := S.room rm
    exact edI_ok _ _  hC O' (fun cl h => by rw [List.mem_singleton.mp h]; exact FA'.st_728_algorithm) (S.global hs (by decide +kernel) FA.g_DistanceAlgorithm) FA'.en_read FA'.en_LEVENSHTEIN FA'.en_eq FA'.en_mem (S.global hs (by decide +kernel) FA.g_Levenshtein) FA'.c_770.keep (make_fun O' FA'.c_770.makes FA'.c_770.init FA'.c_770.fn (lvI_fun O' B' rm' FA')) (fun cl h => by rw [List.mem_singleton.mp h]; exact FA'.st_728_distance_comparer) FA'.en_DAMERAU_OSA (S.global hs (by decide +kernel) FA.g_DamerauOsa) FA'.c_810.keep (make_fun O' FA'.c_810.makes FA'.c_810.init FA'.c_810.fn (osI_fun O' B' rm' FA')) FA'.en_USER_PROVIDED (S.global hs (by decide +kernel) FA.g_AbstractDistanceComparer) FA'.is_AbstractDistanceComparer (S.builtin hs (by decide +kernel) FA.b_isinstance)
  · intro fd e1 e2 e3 e4 φ s cvs vs X r hn
    obtain ⟨name, qn, ps, bd, sc, gl, clo, df, kd, doc, pm, an, cd, ct, bl⟩ := fd
    dsimp only at e1 e2 e3 e4
    subst e1; subst e2; subst e3; subst e4
    obtain ⟨c0, cs0, v0, vs0, rfl, rfl, r0, r, hn⟩ := r.cons_inv hn
    obtain ⟨c1, cs1, v1, vs1, rfl, rfl, r1, r, hn⟩ := r.cons_inv hn
    obtain ⟨c2, cs2, v2, vs2, rfl, rfl, r2, r, hn⟩ := r.cons_inv hn
    obtain ⟨rfl, rfl⟩ := r.nil_inv hn
    obtain ⟨oc, od, dn, sl, hd⟩ := FA.d_edI
    refine ⟨[("self", c0), ("algorithm", c1), ("comparer", c2)], BindsTo.of_defaults (items := #[.none]) (n := dn) rfl (X _ _ hd) rfl (by rfl) (by rfl), fun n => kindsX (by rfl) (n + 1), ⟨_, rfl, ?_⟩, fun _ _ h => nomatch h⟩
    exact (.cons r0 (.cons r1 (.cons r2 .nil)))

noncomputable def edC_mm (vs : List PV) : Mo Fl := edC_m (tab2 770 810 false lvD_fm osD_fm)
def edC_lp (vs : List PV) : List (Option PV) := match vs with | [v0, v1, v2, v3] => [some v0, some v1, some v2, some v3] | _ => []
def edC_cells (vs : List PV) : List (Str × FV) := []
noncomputable def edC_fm : FM := fun vs mem => (edC_mm vs ⟨edC_lp vs, mem⟩).map fun r => (retV r.1, r.2.mem)

theorem edC_fun {C : Cx} (O : C.Ok) (B : Base C) (rm : Room C 2) (FA : Facts C.K C.mg C.mb) : CodeFun C (.ref 725) 4 edC_fm := by
  refine fn_fun O rm B FA.f_edC rfl rfl rfl (names := edC_names) (cells := edC_cells) (m := edC_mm) (lp := edC_lp) (by decide +kernel) (by decide +kernel) ?_ ?_
  · intro vs C' fd S hs hg hb hc
    obtain ⟨gl, cells, qual, func, code, frame, blt, he⟩ := S.form hs
    have hC := Cx.form he S.names
    have O' := S.ok
    have FA' := S.facts FA
    have B' := S.base hg hb
    have rm' : Room C' 1 := S.room rm
    exact edC_ok _  hC O' (fun cl h => by rw [List.mem_singleton.mp h]; exact FA'.at_728_distance_comparer) (tab2_ok (FA'.p_770distance.meth ((lvD_fun O' B' rm' FA').toFun O')) (FA'.p_810distance.meth ((osD_fun O' B' rm' FA').toFun O')))
  · intro fd e1 e2 e3 e4 φ s cvs vs X r hn
    obtain ⟨name, qn, ps, bd, sc, gl, clo, df, kd, doc, pm, an, cd, ct, bl⟩ := fd
    dsimp only at e1 e2 e3 e4
    subst e1; subst e2; subst e3; subst e4
    obtain ⟨c0, cs0, v0, vs0, rfl, rfl, r0, r, hn⟩ := r.cons_inv hn
    obtain ⟨c1, cs1, v1, vs1, rfl, rfl, r1, r, hn⟩ := r.cons_inv hn
    obtain ⟨c2, cs2, v2, vs2, rfl, rfl, r2, r, hn⟩ := r.cons_inv hn
    obtain ⟨c3, cs3, v3, vs3, rfl, rfl, r3, r, hn⟩ := r.cons_inv hn
    obtain ⟨rfl, rfl⟩ := r.nil_inv hn
    refine ⟨[("self", c0), ("string_1", c1), ("string_2", c2), ("max_distance", c3)], BindsTo.of_eq (by rfl), fun n => kindsX (by rfl) (n + 1), ⟨_, rfl, ?_⟩, fun _ _ h => nomatch h⟩
    exact (.cons r0 (.cons r1 (.cons r2 (.cons r3 .nil))))

end Mine

/-! BEv6 -/
namespace Mine

theorem runM_ap (pf : List PV) (ms : List (Mo PV)) (m : FM) (st : St) : runM pf ms m st = match seqM ms st with | none => none | some (vs, s1) => match m (pf ++ vs) s1.mem with | none => none | some (v, mem') => some (v, ⟨s1.loc, mem'⟩) := by
  unfold runM bindM
  cases seqM ms st with
  | none => rfl
  | some q =>
    dsimp only
    cases m (pf ++ q.1) q.2.mem with
    | none => rfl
    | some r => rfl
theorem attrM_ap (cls : List Addr) (m : Mo PV) (name : Str) (st : St) : attrM cls m name st = match m st with | none => none | some (v, s1) => match attrF cls s1 name v with | none => none | some r => some (r, s1) := by
  unfold attrM bindM
  cases m st with
  | none => rfl
  | some q => dsimp only; cases attrF cls q.2 name q.1 <;> rfl
theorem attr_at {cls : List Addr} {l : List (Option PV)} {mem : List MO} {name : Str} {k kd : Nat} {cl : Addr} {fs : List (Str × FV)} {f : FV} (h1 : mem[k]? = some (.inst cl kd)) (h2 : cls.contains cl = true) (h3 : mem[kd]? = some (.adict fs)) (h4 : fs.lookup name = some f) :
    attrF cls ⟨l, mem⟩ name (.fl (.ref k)) = some (.fl f) := by
  unfold attrF
  simp only [h1, h2, if_true, h3, h4, Option.map_some]
theorem intM_ap (m : Mo PV) (st : St) : intM m st = match m st with | some (.fl (.int i), s1) => some (.fl (.int i), s1) | _ => none := by
  unfold intM bindM
  cases m st with
  | none => rfl
  | some q => obtain ⟨v, s⟩ := q; cases v with | fl f => cases f <;> rfl | tup fs => rfl
theorem binX_ap (op : Operator) (ml mr : Mo PV) (st : St) : binX op ml mr st = match ml st with | none => none | some (a, s1) => match mr s1 with | none => none | some (b, s2) => match binG op a b with | none => none | some c => some (c, s2) := by
  unfold binX bindM liftO
  cases ml st with
  | none => rfl
  | some q =>
    dsimp only
    cases mr q.2 with
    | none => rfl
    | some r => dsimp only; cases binG op q.1 r.1 <;> rfl
theorem setLs_nil_ap (st : St) : setLs [] [] st = some ((), st) := rfl
theorem setLs_cons_ap (k : Nat) (ks : List Nat) (f : FV) (fs : List FV) (l : List (Option PV)) (mem : List MO) : setLs (k :: ks) (f :: fs) ⟨l, mem⟩ = setLs ks fs ⟨l.set k (some (.fl f)), mem⟩ := rfl
theorem tupTg_ap (ks : List Nat) (fs : List FV) (st : St) : tupTg ks (.tup fs) st = setLs ks fs st := rfl
theorem asgSw_ap (m : Mo PV) (ks : List Nat) (st : St) : asgSw m ks st = match m st with | some (.tup fs, s1) => (match setLs ks fs.reverse s1 with | none => none | some (_, s2) => some (.next, s2)) | _ => none := by
  unfold asgSw bindM
  cases m st with
  | none => rfl
  | some q =>
    obtain ⟨v, s⟩ := q
    cases v with
    | fl f => rfl
    | tup fs => dsimp only; cases setLs ks fs.reverse s <;> rfl
theorem setAttrM_ap (cls : List Addr) (mo : Mo PV) (name : Str) (v : PV) (st : St) : setAttrM cls mo name v st = match mo st with | none => none | some (o, s1) => match setAttrF cls name v o s1 with | none => none | some s2 => some ((), s2) := by
  unfold setAttrM bindM
  cases mo st with
  | none => rfl
  | some q => dsimp only; cases setAttrF cls name v q.1 q.2 <;> rfl
theorem setAttr_at {cls : List Addr} {l : List (Option PV)} {mem : List MO} {name : Str} {k kd : Nat} {cl : Addr} {fs : List (Str × FV)} {f : FV} (h1 : mem[k]? = some (.inst cl kd)) (h2 : cls.contains cl = true) (h3 : mem[kd]? = some (.adict fs)) (h4 : fs.length < 100) :
    setAttrF cls name (.fl f) (.fl (.ref k)) ⟨l, mem⟩ = some ⟨l, mem.set kd (.adict (putF name f fs))⟩ := by
  unfold setAttrF
  simp only [h1, h2, if_true, h3, h4]
  rfl
/-- a method of an own instance -/
theorem meth_at {tab : Addr → Option (Bool × FM)} {mo : Mo PV} {name : Str} {ms : List (Mo PV)} {st s1 : St} {k kd : Nat} {cl : Addr} {fs : List (Str × FV)} {b : Bool} {m : FM} (h0 : mo st = some (.fl (.ref k), s1)) (h1 : s1.mem[k]? = some (.inst cl kd)) (h3 : s1.mem[kd]? = some (.adict fs))
    (h4 : fs.lookup name = none) (h5 : tab cl = some (b, m)) : methM tab mo name ms st = runM (if b then [] else [.fl (.ref k)]) ms m s1 := by
  unfold methM bindM
  rw [h0]
  simp only [h1, h3, h4, h5]
  cases b <;> rfl

theorem cmp_is_nn : cmpF .Is (.fl .none) (.fl .none) = some true := rfl
theorem cmp_is_sn (s : Str) : cmpF .Is (.fl (.str s)) (.fl .none) = some false := rfl
theorem cmp_eq_s (a b : Str) : cmpF .Eq (.fl (.str a)) (.fl (.str b)) = some (a == b) := rfl
theorem min_ints (st : St) (a b : Int) : bltF st "min" [.fl (.int a), .fl (.int b)] = some (.fl (.int (min a b))) := rfl

/-! the leaves -/
/-- a lone text's answer -/
def lone (n : Nat) (lim : Int) : Int := if (n : Int) ≤ lim then n else -1
theorem ndr_nn (lim : Int) (mem : List MO) : ndr_fm [.fl .none, .fl .none, .fl (.int lim)] mem = some (.fl (.int 0), mem) := by
  unfold ndr_fm ndr_mm ndr_m ndr_lp
  simp only [getL_ap, setL_ap, cst_ap, binM_ap, cmpM_ap, andM_nil_ap, andM_cons_ap, orM_nil_ap, orM_cons_ap, iteM_ap, asg1_ap, asg2_ap, augM_ap, blkM_nil_ap, blkM_cons_ap, retM_ap, tupM_ap, seqM_nil_ap, seqM_cons_ap, flatL, subM_ap, subF_str, subF_list, setItemM_ap, setItemF_list, bltM_ap, blt_len_s, bin_add, bin_sub, cmp_eq_i, cmp_ne_i, cmp_lt_i, cmp_le_i, cmp_gt_i, cmp_ge_i, cmp_eq_c, cmp_ne_c, pd_True, pd_False, cmp_is_nn, List.getElem?_cons_succ, List.getElem?_cons_zero, if_true, Option.map_some, retV]
theorem ndr_ns (b : Str) (hb : b.length < 2 ^ 61) (lim : Int) (mem : List MO) : ndr_fm [.fl .none, .fl (.str b), .fl (.int lim)] mem = some (.fl (.int (lone b.length lim)), mem) := by
  have h : b.length < 4611686018427387904 := by omega
  unfold ndr_fm ndr_mm ndr_m ndr_lp lone
  by_cases hl : (b.length : Int) ≤ lim
  · simp [getL_ap, setL_ap, cst_ap, binM_ap, cmpM_ap, andM_nil_ap, andM_cons_ap, orM_nil_ap, orM_cons_ap, iteM_ap, asg1_ap, asg2_ap, augM_ap, blkM_nil_ap, blkM_cons_ap, retM_ap, tupM_ap, seqM_nil_ap, seqM_cons_ap, flatL, subM_ap, subF_str, subF_list, setItemM_ap, setItemF_list, bltM_ap, blt_len_s, bin_add, bin_sub, cmp_eq_i, cmp_ne_i, cmp_lt_i, cmp_le_i, cmp_gt_i, cmp_ge_i, cmp_eq_c, cmp_ne_c, pd_True, pd_False, cmp_is_nn, cmp_is_sn, h, hl, retV]
  · simp [getL_ap, setL_ap, cst_ap, binM_ap, cmpM_ap, andM_nil_ap, andM_cons_ap, orM_nil_ap, orM_cons_ap, iteM_ap, asg1_ap, asg2_ap, augM_ap, blkM_nil_ap, blkM_cons_ap, retM_ap, tupM_ap, seqM_nil_ap, seqM_cons_ap, flatL, subM_ap, subF_str, subF_list, setItemM_ap, setItemF_list, bltM_ap, blt_len_s, bin_add, bin_sub, cmp_eq_i, cmp_ne_i, cmp_lt_i, cmp_le_i, cmp_gt_i, cmp_ge_i, cmp_eq_c, cmp_ne_c, pd_True, pd_False, cmp_is_nn, cmp_is_sn, h, hl, retV]
theorem ndr_sn (a : Str) (ha : a.length < 2 ^ 61) (lim : Int) (mem : List MO) : ndr_fm [.fl (.str a), .fl .none, .fl (.int lim)] mem = some (.fl (.int (lone a.length lim)), mem) := by
  have h : a.length < 4611686018427387904 := by omega
  unfold ndr_fm ndr_mm ndr_m ndr_lp lone
  by_cases hl : (a.length : Int) ≤ lim
  · simp [getL_ap, setL_ap, cst_ap, binM_ap, cmpM_ap, andM_nil_ap, andM_cons_ap, orM_nil_ap, orM_cons_ap, iteM_ap, asg1_ap, asg2_ap, augM_ap, blkM_nil_ap, blkM_cons_ap, retM_ap, tupM_ap, seqM_nil_ap, seqM_cons_ap, flatL, subM_ap, subF_str, subF_list, setItemM_ap, setItemF_list, bltM_ap, blt_len_s, bin_add, bin_sub, cmp_eq_i, cmp_ne_i, cmp_lt_i, cmp_le_i, cmp_gt_i, cmp_ge_i, cmp_eq_c, cmp_ne_c, pd_True, pd_False, cmp_is_nn, cmp_is_sn, h, hl, retV]
  · simp [getL_ap, setL_ap, cst_ap, binM_ap, cmpM_ap, andM_nil_ap, andM_cons_ap, orM_nil_ap, orM_cons_ap, iteM_ap, asg1_ap, asg2_ap, augM_ap, blkM_nil_ap, blkM_cons_ap, retM_ap, tupM_ap, seqM_nil_ap, seqM_cons_ap, flatL, subM_ap, subF_str, subF_list, setItemM_ap, setItemF_list, bltM_ap, blt_len_s, bin_add, bin_sub, cmp_eq_i, cmp_ne_i, cmp_lt_i, cmp_le_i, cmp_gt_i, cmp_ge_i, cmp_eq_c, cmp_ne_c, pd_True, pd_False, cmp_is_nn, cmp_is_sn, h, hl, retV]
theorem len_toList (s : Str) : s.length = s.cps.toList.length := by simp [Str.length]
theorem psp_call (s1 s2 : Str) (mem : List MO) (hab : s1.length ≤ s2.length) (hlb : s2.length < 2 ^ 61) :
    ∃ a' b' p q, Trim s1.cps.toList s2.cps.toList a' b' p q ∧ psp_fm [.fl (.str s1), .fl (.str s2)] mem = some (.tup [.int a'.length, .int b'.length, .int p.length], mem) := by
  obtain ⟨a', b', p, q, ht, l, hl⟩ := psp_eval s1 s2 mem s1.cps.toList s2.cps.toList rfl rfl (by rw [← len_toList, ← len_toList]; exact hab) (by rw [← len_toList]; exact hlb)
  refine ⟨a', b', p, q, ht, ?_⟩
  rw [← len_toList s1] at hl
  unfold psp_fm psp_mm psp_lp
  dsimp only
  rw [hl]; rfl
/-- where the trimmed text lies -/
theorem mid_get {s : Str} {p a' q : List Nat} (h : s.cps.toList = p ++ a' ++ q) (j : Nat) (y : Nat) (hy : a'[j]? = some y) : s.cps[p.length + j]? = some y := by
  rw [cps_get, h, List.append_assoc, List.getElem?_append_right (by omega), Nat.add_sub_cancel_left]
  have hj := (List.getElem?_eq_some_iff.mp hy).1
  rw [List.getElem?_append_left hj]; exact hy
theorem lvd_call {s1 s2 : Str} {A B : List Nat} {st : Nat} (hA : ∀ (j : Nat) y, A[j]? = some y → s1.cps[st + j]? = some y) (hB : ∀ (j : Nat) y, B[j]? = some y → s2.cps[st + j]? = some y) (hla : A.length ≤ 1000) (hlen : B.length ≤ 1000) (hst : st ≤ 1000) (hA0 : 0 < A.length) (hB0 : 0 < B.length)
    (v5 : PV) (mem : List MO) : ∃ row, lvd_fm [.fl (.str s1), .fl (.str s2), .fl (.int A.length), .fl (.int B.length), .fl (.int st), v5] mem = some (.fl (.int (dist false A B)), mem ++ [row]) := by
  obtain ⟨l, row, h⟩ := lvd_eval (x5 := some v5) (x6 := none) (x7 := none) (x8 := none) (x9 := none) (x10 := none) (x11 := none) (mem := mem) hA hB hla hlen hst hA0 hB0
  refine ⟨row, ?_⟩
  unfold lvd_fm lvd_mm lvd_lp
  dsimp only
  rw [h]; rfl
theorem lvm_call {s1 s2 : Str} {A B : List Nat} {st m d : Nat} (b : Band A B m d) (hA : ∀ (j : Nat) y, A[j]? = some y → s1.cps[st + j]? = some y) (hB : ∀ (j : Nat) y, B[j]? = some y → s2.cps[st + j]? = some y) (hla : A.length ≤ 1000) (hlen : B.length ≤ 1000) (hst : st ≤ 1000)
    (v5 : PV) (mem : List MO) : ∃ row, lvm_fm [.fl (.str s1), .fl (.str s2), .fl (.int A.length), .fl (.int B.length), .fl (.int st), .fl (.int m), v5] mem = some (.fl (.int (bandR m (dist false A B))), mem ++ [row]) := by
  obtain ⟨l, row, h⟩ := lvm_eval b (x5 := some v5) (x6 := none) (x7 := none) (x8 := none) (x9 := none) (x10 := none) (x11 := none) (x12 := none) (x13 := none) (x14 := none) (x15 := none) (mem := mem) hA hB hla hlen hst
  refine ⟨row, ?_⟩
  unfold lvm_fm lvm_mm lvm_lp argI
  dsimp only [List.getElem?_cons_succ, List.getElem?_cons_zero]
  rw [h]; rfl
theorem osd_call {s1 s2 : Str} {A B : List Nat} {st : Nat} (hA : ∀ (j : Nat) y, A[j]? = some y → s1.cps[st + j]? = some y) (hB : ∀ (j : Nat) y, B[j]? = some y → s2.cps[st + j]? = some y) (hla : A.length ≤ 1000) (hlen : B.length ≤ 1000) (hst : st ≤ 1000) (hA0 : 0 < A.length) (hB0 : 0 < B.length)
    (v5 : PV) {mem : List MO} {kp : Nat} {prow : List PV} (hkp : mem[kp]? = some (.list prow)) (hpl : B.length ≤ prow.length) (hpi : ∀ k : Nat, k < prow.length → ∃ v, prow[k]? = some (.fl (.int v))) :
    ∃ row prow', osd_fm [.fl (.str s1), .fl (.str s2), .fl (.int A.length), .fl (.int B.length), .fl (.int st), v5, .fl (.ref kp)] mem = some (.fl (.int (dist true A B)), mem.set kp (.list prow') ++ [row]) ∧ prow'.length = prow.length ∧ ∀ k : Nat, k < prow'.length → ∃ v, prow'[k]? = some (.fl (.int v)) := by
  obtain ⟨l, row, prow', h, h2, h3⟩ := osd_eval (x5 := some v5) (x7 := none) (x8 := none) (x9 := none) (x10 := none) (x11 := none) (x12 := none) (x13 := none) (x14 := none) (x15 := none) (x16 := none) (x17 := none) hA hB hla hlen hst hA0 hB0 hkp hpl hpi
  refine ⟨row, prow', ?_, h2, h3⟩
  unfold osd_fm osd_mm osd_lp
  dsimp only
  rw [h]; rfl
theorem osm_call {s1 s2 : Str} {A B : List Nat} {st m d : Nat} (b : Band A B m d) (hA : ∀ (j : Nat) y, A[j]? = some y → s1.cps[st + j]? = some y) (hB : ∀ (j : Nat) y, B[j]? = some y → s2.cps[st + j]? = some y) (hla : A.length ≤ 1000) (hlen : B.length ≤ 1000) (hst : st ≤ 1000)
    (v5 : PV) {mem : List MO} {kp : Nat} {prow : List PV} (hkp : mem[kp]? = some (.list prow)) (hpl : B.length ≤ prow.length) (hpi : ∀ k : Nat, k < prow.length → ∃ v, prow[k]? = some (.fl (.int v))) :
    ∃ row prow', osm_fm [.fl (.str s1), .fl (.str s2), .fl (.int A.length), .fl (.int B.length), .fl (.int st), .fl (.int m), v5, .fl (.ref kp)] mem = some (.fl (.int (bandR m (dist true A B))), mem.set kp (.list prow') ++ [row]) ∧ prow'.length = prow.length ∧ ∀ k : Nat, k < prow'.length → ∃ v, prow'[k]? = some (.fl (.int v)) := by
  obtain ⟨l, row, prow', h, h2, h3⟩ := osm_eval b (x5 := some v5) (x7 := none) (x8 := none) (x9 := none) (x10 := none) (x11 := none) (x12 := none) (x13 := none) (x14 := none) (x15 := none) (x16 := none) (x17 := none) (x18 := none) (x19 := none) (x20 := none) (x21 := none) hA hB hla hlen hst hkp hpl hpi
  refine ⟨row, prow', ?_, h2, h3⟩
  unfold osm_fm osm_mm osm_lp argI
  dsimp only [List.getElem?_cons_succ, List.getElem?_cons_zero]
  rw [h]; rfl
end Mine

/-! BEv7 -/
namespace Mine

/-- a Levenshtein comparer in the memory -/
structure CompL (c cd b : Nat) (mem : List MO) : Prop where
  inst : mem[c]? = some (.inst 770 cd)
  dict : mem[cd]? = some (.adict [("_base_char_1_costs", .ref b)])
  base : ∃ bs, mem[b]? = some (.list bs) ∧ bs.length ≤ 1000

theorem CompL.c_ne {c cd b mem} (h : CompL c cd b mem) : c ≠ cd := fun e => by have := h.inst; rw [e, h.dict] at this; cases this
theorem CompL.b_ne {c cd b mem} (h : CompL c cd b mem) : b ≠ cd := fun e => by obtain ⟨bs, h1, _⟩ := h.base; rw [e, h.dict] at h1; cases h1

theorem get_snoc_old {m : List MO} {k : Nat} {x y : MO} (h : m[k]? = some x) : (m ++ [y])[k]? = some x := by
  rw [List.getElem?_append_left (List.getElem?_eq_some_iff.mp h).1]; exact h
theorem CompL.snoc {c cd b mem} (h : CompL c cd b mem) (x : MO) : CompL c cd b (mem ++ [x]) :=
  ⟨get_snoc_old h.inst, get_snoc_old h.dict, let ⟨bs, h1, h2⟩ := h.base; ⟨bs, get_snoc_old h1, h2⟩⟩

/-- what a call leaves of the memory -/
structure Frame (own own' : List Nat) (mem mem' : List MO) : Prop where
  len : mem.length ≤ mem'.length
  keep : ∀ j, j < mem.length → j ∉ own → mem'[j]? = mem[j]?
  own : ∀ j ∈ own', j ∈ own ∨ mem.length ≤ j
theorem Frame.snoc (own : List Nat) (mem : List MO) (x : MO) : Frame own own mem (mem ++ [x]) :=
  ⟨by simp, fun j hj _ => List.getElem?_append_left hj, fun j hj => .inl hj⟩
theorem Frame.refl (own : List Nat) (mem : List MO) : Frame own own mem mem := ⟨Nat.le_refl _, fun _ _ _ => rfl, fun j hj => .inl hj⟩
theorem Frame.trans {o1 o2 o3 : List Nat} {m1 m2 m3 : List MO} (x : Frame o1 o2 m1 m2) (y : Frame o2 o3 m2 m3) : Frame o1 o3 m1 m3 := by
  refine ⟨Nat.le_trans x.len y.len, fun j hj hn => ?_, fun j hj => ?_⟩
  · rw [y.keep j (Nat.lt_of_lt_of_le hj x.len) (fun h => (x.own j h).elim hn (fun h => absurd hj (Nat.not_lt.mpr h)))]
    exact x.keep j hj hn
  · rcases y.own j hj with h | h
    · exact x.own j h
    · exact .inr (Nat.le_trans x.len h)

noncomputable def lvD_s7 : Mo Fl := (iteM (cmpM .Gt (getL 5) (bltM "len" [(attrM [770] (getL 0) "_base_char_1_costs")])) (blkM [(asg1 (compM [(getL 5)] (cst (.fl (.int 0)))) (setAttrM [770] (getL 0) "_base_char_1_costs"))]) (blkM []))
/-- the kept list is made longer -/
theorem lvD_grow {c cd b n : Nat} {mem : List MO} {l1 l2 l3 l4 l6 : Option PV} (h : CompL c cd b mem) (hn : n ≤ 1000) :
    ∃ b' mem', CompL c cd b' mem' ∧ Frame [cd, b] [cd, b'] mem mem' ∧
      lvD_s7 ⟨[sR c, l1, l2, l3, l4, sI n, l6], mem⟩ = some (.next, ⟨[sR c, l1, l2, l3, l4, sI n, l6], mem'⟩) := by
  obtain ⟨bs, h1, h2⟩ := h.base
  have ha := fun l => attr_at (cls := [770]) (l := l) (name := "_base_char_1_costs") h.inst (by decide) h.dict (f := .ref b) rfl
  have hl : ∀ st : St, st.mem = mem → bltF st "len" [.fl (.ref b)] = some (.fl (.int bs.length)) := fun st e => by
    show (match st.mem[b]? with | some (.list xs) => if pd (xs.length < 2 ^ 62) = true then some (PV.fl (.int xs.length)) else none | _ => none) = _
    rw [e, h1]
    show (if pd (bs.length < 2 ^ 62) = true then _ else _) = _
    rw [if_pos (pd_true (by omega))]
  by_cases hg : bs.length < n
  · have hcomp : compL (cst (.fl (.int 0))) n 0 = some ((List.range n).map fun _ => .fl (.int 0)) := by
      rw [compL_all (g := fun _ => .int 0) (fun _ => rfl) n 0 (fun k hk => rfl)]
    have hn1 : n ≤ 1048576 := by omega
    refine ⟨mem.length, (mem ++ [MO.list ((List.range n).map fun _ => .fl (.int 0))]).set cd (.adict [("_base_char_1_costs", .ref mem.length)]), ?_, ?_, ?_⟩
    · have hs := h.snoc (.list ((List.range n).map fun _ => .fl (.int 0)))
      refine ⟨?_, ?_, (List.range n).map fun _ => .fl (.int 0), ?_, by simpa using hn⟩
      · rw [List.getElem?_set_ne (Ne.symm h.c_ne)]; exact hs.inst
      · exact List.getElem?_set_self (List.getElem?_eq_some_iff.mp hs.dict).1
      · have hne : cd ≠ mem.length := Nat.ne_of_lt (List.getElem?_eq_some_iff.mp h.dict).1
        rw [List.getElem?_set_ne hne]; simp
    · refine ⟨by simp, fun j hj hn => ?_, fun j hj => ?_⟩
      · rw [List.getElem?_set_ne (fun e => hn (by rw [e]; exact List.mem_cons_self)), List.getElem?_append_left hj]
      · rcases List.mem_cons.mp hj with rfl | hj
        · exact .inl List.mem_cons_self
        · rw [List.mem_singleton.mp hj]; exact .inr (Nat.le_refl _)
    · have hs := h.snoc (.list ((List.range n).map fun _ => .fl (.int 0)))
      have hset := fun l => setAttr_at (cls := [770]) (l := l) (name := "_base_char_1_costs") (f := .ref mem.length) hs.inst (by decide) hs.dict (by simp)
      have e1 : putF "_base_char_1_costs" (.ref mem.length) [(Str.ofString "_base_char_1_costs", FV.ref b)] = [(Str.ofString "_base_char_1_costs", FV.ref mem.length)] := rfl
      simp only [e1] at hset
      have hg' : (bs.length : Int) < n := by omega
      unfold lvD_s7
      simp [getL_ap, setL_ap, cst_ap, binM_ap, cmpM_ap, andM_nil_ap, andM_cons_ap, orM_nil_ap, orM_cons_ap, iteM_ap, asg1_ap, asg2_ap, augM_ap, blkM_nil_ap, blkM_cons_ap, retM_ap, tupM_ap, seqM_nil_ap, seqM_cons_ap, flatL, subM_ap, subF_str, subF_list, setItemM_ap, setItemF_list, bltM_ap, blt_len_s, bin_add, bin_sub, cmp_eq_i, cmp_ne_i, cmp_lt_i, cmp_le_i, cmp_gt_i, cmp_ge_i, cmp_eq_c, cmp_ne_c, pd_True, pd_False, runM_ap, attrM_ap, intM_ap, binX_ap, asgSw_ap, tupTg_ap, setLs_nil_ap, setLs_cons_ap, setAttrM_ap, cmp_is_nn, cmp_is_sn, min_ints, ha, hl, hg', hg, compM_ap, rng1 n (by omega), hn1, hcomp, newL_ap, hset]
  · refine ⟨b, mem, h, Frame.refl _ _, ?_⟩
    unfold lvD_s7
    simp [getL_ap, setL_ap, cst_ap, binM_ap, cmpM_ap, andM_nil_ap, andM_cons_ap, orM_nil_ap, orM_cons_ap, iteM_ap, asg1_ap, asg2_ap, augM_ap, blkM_nil_ap, blkM_cons_ap, retM_ap, tupM_ap, seqM_nil_ap, seqM_cons_ap, flatL, subM_ap, subF_str, subF_list, setItemM_ap, setItemF_list, bltM_ap, blt_len_s, bin_add, bin_sub, cmp_eq_i, cmp_ne_i, cmp_lt_i, cmp_le_i, cmp_gt_i, cmp_ge_i, cmp_eq_c, cmp_ne_c, pd_True, pd_False, runM_ap, attrM_ap, intM_ap, binX_ap, asgSw_ap, tupTg_ap, setLs_nil_ap, setLs_cons_ap, setAttrM_ap, cmp_is_nn, cmp_is_sn, min_ints, ha, hl, hg]

theorem Trim.lens {a b a' b' p q : List Nat} (h : Trim a b a' b' p q) : a.length = p.length + a'.length + q.length ∧ b.length = p.length + b'.length + q.length := by
  have h1 := congrArg List.length h.left
  have h2 := congrArg List.length h.right
  simp only [List.length_append] at h1 h2
  exact ⟨h1, h2⟩

theorem lvD_rest {c cd b : Nat} {mem : List MO} (h : CompL c cd b mem) {s1 s2 : Str} (hab : s1.length ≤ s2.length) (hlb : s2.length ≤ 1000) (m : Nat) :
    ∃ l b' mem', CompL c cd b' mem' ∧ Frame [cd, b] [cd, b'] mem mem' ∧
      blkM [(iteM (cmpM .Gt (binM .Sub (bltM "len" [(getL 2)]) (bltM "len" [(getL 1)])) (getL 3)) (blkM [(retM (cst (.fl (.int (-1)))))]) (blkM [])), (asg1 (runM [] [(getL 1), (getL 2)] psp_fm) (tupTg [4, 5, 6])), (iteM (cmpM .Eq (getL 4) (cst (.fl (.int 0)))) (blkM [(retM (iteM (cmpM .LtE (getL 5) (getL 3)) (getL 5) (cst (.fl (.int (-1))))))]) (blkM [])), lvD_s7, (iteM (cmpM .Lt (getL 3) (getL 5)) (blkM [(retM (methM (tab1 770 true lvm_fm) (getL 0) "_distance_max" [(getL 1), (getL 2), (getL 4), (getL 5), (getL 6), (getL 3), (attrM [770] (getL 0) "_base_char_1_costs")]))]) (blkM [])), (retM (methM (tab1 770 true lvd_fm) (getL 0) "_distance" [(getL 1), (getL 2), (getL 4), (getL 5), (getL 6), (attrM [770] (getL 0) "_base_char_1_costs")]))] ⟨[sR c, sS s1, sS s2, sI m, none, none, none], mem⟩ = some (.ret (.fl (.int (bandR m (dist false s1.cps.toList s2.cps.toList)))), ⟨l, mem'⟩) := by
  have hl1 : s1.length < 4611686018427387904 := by omega
  have hl2 : s2.length < 4611686018427387904 := by omega
  have hlen := dist_len (sw := false) s1.cps.toList s2.cps.toList
  rw [← len_toList, ← len_toList] at hlen
  by_cases hd : (m : Int) < (s2.length : Int) - s1.length
  · refine ⟨[sR c, sS s1, sS s2, sI m, none, none, none], b, mem, h, Frame.refl _ _, ?_⟩
    have hb : bandR m (dist false s1.cps.toList s2.cps.toList) = -1 := by unfold bandR; rw [if_neg (by omega)]
    rw [hb]
    simp [getL_ap, setL_ap, cst_ap, binM_ap, cmpM_ap, andM_nil_ap, andM_cons_ap, orM_nil_ap, orM_cons_ap, iteM_ap, asg1_ap, asg2_ap, augM_ap, blkM_nil_ap, blkM_cons_ap, retM_ap, tupM_ap, seqM_nil_ap, seqM_cons_ap, flatL, subM_ap, subF_str, subF_list, setItemM_ap, setItemF_list, bltM_ap, blt_len_s, bin_add, bin_sub, cmp_eq_i, cmp_ne_i, cmp_lt_i, cmp_le_i, cmp_gt_i, cmp_ge_i, cmp_eq_c, cmp_ne_c, pd_True, pd_False, runM_ap, attrM_ap, intM_ap, binX_ap, asgSw_ap, tupTg_ap, setLs_nil_ap, setLs_cons_ap, setAttrM_ap, cmp_is_nn, cmp_is_sn, min_ints, hl1, hl2, hd]
  obtain ⟨a', b1, p, q, ht, hp⟩ := psp_call s1 s2 mem hab (by omega)
  have hlens := ht.lens
  rw [← len_toList, ← len_toList] at hlens
  have hdist := ht.dist (sw := false)
  by_cases h0 : a'.length = 0
  · have ha0 : a' = [] := List.length_eq_zero_iff.mp h0
    refine ⟨[sR c, sS s1, sS s2, sI m, sI a'.length, sI b1.length, sI p.length], b, mem, h, Frame.refl _ _, ?_⟩
    have hb : bandR m (dist false s1.cps.toList s2.cps.toList) = if b1.length ≤ m then (b1.length : Int) else -1 := by rw [hdist, ha0, dist_nil_left]; rfl
    rw [hb]
    by_cases hle : b1.length ≤ m
    · simp [getL_ap, setL_ap, cst_ap, binM_ap, cmpM_ap, andM_nil_ap, andM_cons_ap, orM_nil_ap, orM_cons_ap, iteM_ap, asg1_ap, asg2_ap, augM_ap, blkM_nil_ap, blkM_cons_ap, retM_ap, tupM_ap, seqM_nil_ap, seqM_cons_ap, flatL, subM_ap, subF_str, subF_list, setItemM_ap, setItemF_list, bltM_ap, blt_len_s, bin_add, bin_sub, cmp_eq_i, cmp_ne_i, cmp_lt_i, cmp_le_i, cmp_gt_i, cmp_ge_i, cmp_eq_c, cmp_ne_c, pd_True, pd_False, runM_ap, attrM_ap, intM_ap, binX_ap, asgSw_ap, tupTg_ap, setLs_nil_ap, setLs_cons_ap, setAttrM_ap, cmp_is_nn, cmp_is_sn, min_ints, hl1, hl2, hd, hp, h0, hle]
    · simp [getL_ap, setL_ap, cst_ap, binM_ap, cmpM_ap, andM_nil_ap, andM_cons_ap, orM_nil_ap, orM_cons_ap, iteM_ap, asg1_ap, asg2_ap, augM_ap, blkM_nil_ap, blkM_cons_ap, retM_ap, tupM_ap, seqM_nil_ap, seqM_cons_ap, flatL, subM_ap, subF_str, subF_list, setItemM_ap, setItemF_list, bltM_ap, blt_len_s, bin_add, bin_sub, cmp_eq_i, cmp_ne_i, cmp_lt_i, cmp_le_i, cmp_gt_i, cmp_ge_i, cmp_eq_c, cmp_ne_c, pd_True, pd_False, runM_ap, attrM_ap, intM_ap, binX_ap, asgSw_ap, tupTg_ap, setLs_nil_ap, setLs_cons_ap, setAttrM_ap, cmp_is_nn, cmp_is_sn, min_ints, hl1, hl2, hd, hp, h0, hle]
  have ha0 : ¬ ((a'.length : Int) = 0) := by omega
  obtain ⟨b', mem', hC, hF, hg⟩ := lvD_grow (n := b1.length) (l1 := sS s1) (l2 := sS s2) (l3 := sI m) (l4 := sI a'.length) (l6 := sI p.length) h (by omega)
  obtain ⟨bs, hb1, hb2⟩ := hC.base
  have hA : ∀ (j : Nat) y, a'[j]? = some y → s1.cps[p.length + j]? = some y := fun j y => mid_get ht.left j y
  have hB : ∀ (j : Nat) y, b1[j]? = some y → s2.cps[p.length + j]? = some y := fun j y => mid_get ht.right j y
  have ha := fun l => attr_at (cls := [770]) (l := l) (name := "_base_char_1_costs") hC.inst (by decide) hC.dict (f := .ref b') rfl
  have hpos : 0 < a'.length := by omega
  have hle := ht.le
  by_cases hm : m < b1.length
  · have hband : Band a' b1 m (b1.length - a'.length) := by
      refine ⟨by omega, by omega, hm, hpos, ?_⟩
      rcases ht.heads with e | ⟨x, y, a'', b'', e1, e2, e3⟩
      · rw [e] at hpos; simp at hpos
      · exact ⟨x, y, by rw [e1]; rfl, by rw [e2]; rfl, e3⟩
    obtain ⟨row, hr⟩ := lvm_call hband hA hB (by omega) (by omega) (by omega) (.fl (.ref b')) mem'
    refine ⟨[sR c, sS s1, sS s2, sI m, sI a'.length, sI b1.length, sI p.length], b', mem' ++ [row], hC.snoc _, hF.trans (Frame.snoc _ _ _), ?_⟩
    have hmeth := meth_at (tab := tab1 770 true lvm_fm) (mo := getL 0) (name := "_distance_max") (ms := [(getL 1), (getL 2), (getL 4), (getL 5), (getL 6), (getL 3), (attrM [770] (getL 0) "_base_char_1_costs")])
      (st := ⟨[sR c, sS s1, sS s2, sI m, sI a'.length, sI b1.length, sI p.length], mem'⟩) (s1 := ⟨[sR c, sS s1, sS s2, sI m, sI a'.length, sI b1.length, sI p.length], mem'⟩) rfl hC.inst hC.dict rfl rfl
    rw [hdist]
    have hm' : (m : Int) < b1.length := by omega
    simp [getL_ap, setL_ap, cst_ap, binM_ap, cmpM_ap, andM_nil_ap, andM_cons_ap, orM_nil_ap, orM_cons_ap, iteM_ap, asg1_ap, asg2_ap, augM_ap, blkM_nil_ap, blkM_cons_ap, retM_ap, tupM_ap, seqM_nil_ap, seqM_cons_ap, flatL, subM_ap, subF_str, subF_list, setItemM_ap, setItemF_list, bltM_ap, blt_len_s, bin_add, bin_sub, cmp_eq_i, cmp_ne_i, cmp_lt_i, cmp_le_i, cmp_gt_i, cmp_ge_i, cmp_eq_c, cmp_ne_c, pd_True, pd_False, runM_ap, attrM_ap, intM_ap, binX_ap, asgSw_ap, tupTg_ap, setLs_nil_ap, setLs_cons_ap, setAttrM_ap, cmp_is_nn, cmp_is_sn, min_ints, hl1, hl2, hd, hp, h0, ha0, hg, hm, hm', hmeth, ha, hr]
  · obtain ⟨row, hr⟩ := lvd_call hA hB (by omega) (by omega) (by omega) hpos (by omega) (.fl (.ref b')) mem'
    refine ⟨[sR c, sS s1, sS s2, sI m, sI a'.length, sI b1.length, sI p.length], b', mem' ++ [row], hC.snoc _, hF.trans (Frame.snoc _ _ _), ?_⟩
    have hmeth := meth_at (tab := tab1 770 true lvd_fm) (mo := getL 0) (name := "_distance") (ms := [(getL 1), (getL 2), (getL 4), (getL 5), (getL 6), (attrM [770] (getL 0) "_base_char_1_costs")])
      (st := ⟨[sR c, sS s1, sS s2, sI m, sI a'.length, sI b1.length, sI p.length], mem'⟩) (s1 := ⟨[sR c, sS s1, sS s2, sI m, sI a'.length, sI b1.length, sI p.length], mem'⟩) rfl hC.inst hC.dict rfl rfl
    have hmx := dist_max (sw := false) a' b1
    have hb : bandR m (dist false s1.cps.toList s2.cps.toList) = dist false a' b1 := by rw [hdist]; unfold bandR; rw [if_pos (by omega)]
    rw [hb]
    have hm' : ¬ ((m : Int) < b1.length) := by omega
    simp [getL_ap, setL_ap, cst_ap, binM_ap, cmpM_ap, andM_nil_ap, andM_cons_ap, orM_nil_ap, orM_cons_ap, iteM_ap, asg1_ap, asg2_ap, augM_ap, blkM_nil_ap, blkM_cons_ap, retM_ap, tupM_ap, seqM_nil_ap, seqM_cons_ap, flatL, subM_ap, subF_str, subF_list, setItemM_ap, setItemF_list, bltM_ap, blt_len_s, bin_add, bin_sub, cmp_eq_i, cmp_ne_i, cmp_lt_i, cmp_le_i, cmp_gt_i, cmp_ge_i, cmp_eq_c, cmp_ne_c, pd_True, pd_False, runM_ap, attrM_ap, intM_ap, binX_ap, asgSw_ap, tupTg_ap, setLs_nil_ap, setLs_cons_ap, setAttrM_ap, cmp_is_nn, cmp_is_sn, min_ints, hl1, hl2, hd, hp, h0, ha0, hg, hm, hm', hmeth, ha, hr]

theorem pow31 : binG .Pow (.fl (.int 2)) (.fl (.int 31)) = some (.fl (.int 2147483648)) := by
  show (if pd _ = true then some (PV.fl (.int ((2 : Int) ^ (31 : Int).toNat))) else none) = _
  rw [if_pos (pd_true ⟨by decide, by decide, by decide⟩)]
  rfl
theorem blkM_app_next {l r : List (Mo Fl)} : ∀ {st s1 : St}, blkM l st = some (.next, s1) → blkM (l ++ r) st = blkM r s1 := by
  induction l with
  | nil => intro st s1 h; cases h; rfl
  | cons m l ih =>
    intro st s1 h
    rw [List.cons_append, blkM_cons_ap]
    rw [blkM_cons_ap] at h
    cases e : m st with
    | none => rw [e] at h; cases h
    | some q =>
      obtain ⟨f, s2⟩ := q
      rw [e] at h
      cases f with
      | next => exact ih h
      | _ => cases h
theorem blkM_app_ret {l r : List (Mo Fl)} {v : PV} : ∀ {st s1 : St}, blkM l st = some (.ret v, s1) → blkM (l ++ r) st = some (.ret v, s1) := by
  induction l with
  | nil => intro st s1 h; cases h
  | cons m l ih =>
    intro st s1 h
    rw [List.cons_append, blkM_cons_ap]
    rw [blkM_cons_ap] at h
    cases e : m st with
    | none => rw [e] at h; cases h
    | some q =>
      obtain ⟨f, s2⟩ := q
      rw [e] at h
      cases f with
      | next => exact ih h
      | _ => exact h
/-- what two texts ask -/
def ansT (sw : Bool) (a b : List Nat) (lim : Int) : Int := if lim ≤ 0 then (if a = b then 0 else -1) else if (dist sw a b : Int) ≤ lim then dist sw a b else -1
def ans (sw : Bool) : FV → FV → Int → Int
  | .str a, .str b, lim => ansT sw a.cps.toList b.cps.toList lim
  | .none, .none, _ => 0
  | .none, .str b, lim => lone b.length lim
  | .str a, .none, lim => lone a.length lim
  | _, _, _ => 0
/-- a text, or none -/
def TextLe (n : Nat) : FV → Prop
  | .none => True
  | .str a => a.length ≤ n
  | _ => False
theorem str_eq_list (a b : Str) : (a == b) = decide (a.cps.toList = b.cps.toList) := by
  rw [Bool.eq_iff_iff, beq_iff_eq, decide_eq_true_eq]
  constructor
  · intro h; rw [h]
  · intro h
    obtain ⟨a⟩ := a; obtain ⟨b⟩ := b
    have : a = b := by simpa using h
    rw [this]
theorem ansT_band (sw : Bool) (a b : List Nat) (lim : Int) (h : 0 < lim) (hl : dist sw a b ≤ 1000) : bandR (min 2147483647 lim).toNat (dist sw a b) = ansT sw a b lim := by
  unfold bandR ansT
  rw [if_neg (show ¬ lim ≤ 0 by omega)]
  by_cases hd : (dist sw a b : Int) ≤ lim
  · rw [if_pos hd, if_pos (by omega)]
  · rw [if_neg hd, if_neg (by omega)]

theorem lvD_call {c cd b : Nat} {mem : List MO} (h : CompL c cd b mem) {t1 t2 : FV} (h1 : TextLe 1000 t1) (h2 : TextLe 1000 t2) (lim : Int) :
    ∃ b' mem', CompL c cd b' mem' ∧ Frame [cd, b] [cd, b'] mem mem' ∧ lvD_fm [.fl (.ref c), .fl t1, .fl t2, .fl (.int lim)] mem = some (.fl (.int (ans false t1 t2 lim)), mem') := by
  match t1, t2, h1, h2 with
  | .none, .none, _, _ =>
    refine ⟨b, mem, h, Frame.refl _ _, ?_⟩
    have hn := ndr_nn lim mem
    unfold lvD_fm lvD_mm lvD_m lvD_lp ans
    simp [getL_ap, setL_ap, cst_ap, binM_ap, cmpM_ap, andM_nil_ap, andM_cons_ap, orM_nil_ap, orM_cons_ap, iteM_ap, asg1_ap, asg2_ap, augM_ap, blkM_nil_ap, blkM_cons_ap, retM_ap, tupM_ap, seqM_nil_ap, seqM_cons_ap, flatL, subM_ap, subF_str, subF_list, setItemM_ap, setItemF_list, bltM_ap, blt_len_s, bin_add, bin_sub, cmp_eq_i, cmp_ne_i, cmp_lt_i, cmp_le_i, cmp_gt_i, cmp_ge_i, cmp_eq_c, cmp_ne_c, pd_True, pd_False, runM_ap, attrM_ap, intM_ap, binX_ap, asgSw_ap, tupTg_ap, setLs_nil_ap, setLs_cons_ap, setAttrM_ap, cmp_is_nn, cmp_is_sn, min_ints, hn, retV]
  | .none, .str s2, _, h2 =>
    refine ⟨b, mem, h, Frame.refl _ _, ?_⟩
    have h2 : s2.length ≤ 1000 := h2
    have hn := ndr_ns s2 (by omega) lim mem
    unfold lvD_fm lvD_mm lvD_m lvD_lp ans
    simp [getL_ap, setL_ap, cst_ap, binM_ap, cmpM_ap, andM_nil_ap, andM_cons_ap, orM_nil_ap, orM_cons_ap, iteM_ap, asg1_ap, asg2_ap, augM_ap, blkM_nil_ap, blkM_cons_ap, retM_ap, tupM_ap, seqM_nil_ap, seqM_cons_ap, flatL, subM_ap, subF_str, subF_list, setItemM_ap, setItemF_list, bltM_ap, blt_len_s, bin_add, bin_sub, cmp_eq_i, cmp_ne_i, cmp_lt_i, cmp_le_i, cmp_gt_i, cmp_ge_i, cmp_eq_c, cmp_ne_c, pd_True, pd_False, runM_ap, attrM_ap, intM_ap, binX_ap, asgSw_ap, tupTg_ap, setLs_nil_ap, setLs_cons_ap, setAttrM_ap, cmp_is_nn, cmp_is_sn, min_ints, hn, retV]
  | .str s1, .none, h1, _ =>
    refine ⟨b, mem, h, Frame.refl _ _, ?_⟩
    have h1 : s1.length ≤ 1000 := h1
    have hn := ndr_sn s1 (by omega) lim mem
    unfold lvD_fm lvD_mm lvD_m lvD_lp ans
    simp [getL_ap, setL_ap, cst_ap, binM_ap, cmpM_ap, andM_nil_ap, andM_cons_ap, orM_nil_ap, orM_cons_ap, iteM_ap, asg1_ap, asg2_ap, augM_ap, blkM_nil_ap, blkM_cons_ap, retM_ap, tupM_ap, seqM_nil_ap, seqM_cons_ap, flatL, subM_ap, subF_str, subF_list, setItemM_ap, setItemF_list, bltM_ap, blt_len_s, bin_add, bin_sub, cmp_eq_i, cmp_ne_i, cmp_lt_i, cmp_le_i, cmp_gt_i, cmp_ge_i, cmp_eq_c, cmp_ne_c, pd_True, pd_False, runM_ap, attrM_ap, intM_ap, binX_ap, asgSw_ap, tupTg_ap, setLs_nil_ap, setLs_cons_ap, setAttrM_ap, cmp_is_nn, cmp_is_sn, min_ints, hn, retV]
  | .str s1, .str s2, h1, h2 =>
    have h1 : s1.length ≤ 1000 := h1
    have h2 : s2.length ≤ 1000 := h2
    have e1 : s1.length < 4611686018427387904 := by omega
    have e2 : s2.length < 4611686018427387904 := by omega
    have hm : lvD_m ndr_fm psp_fm (tab1 770 true lvm_fm) (tab1 770 true lvd_fm) = blkM ([(iteM (orM [(cmpM .Is (getL 1) (cst (.fl .none))), (cmpM .Is (getL 2) (cst (.fl .none)))]) (blkM [(retM (runM [] [(getL 1), (getL 2), (getL 3)] ndr_fm))]) (blkM [])), (iteM (cmpM .LtE (getL 3) (cst (.fl (.int 0)))) (blkM [(retM (iteM (cmpM .Eq (getL 1) (getL 2)) (cst (.fl (.int 0))) (cst (.fl (.int (-1))))))]) (blkM [])), (asg1 (intM (bltM "min" [(binM .Sub (binX .Pow (cst (.fl (.int 2))) (cst (.fl (.int 31)))) (cst (.fl (.int 1)))), (getL 3)])) (setL 3)), (iteM (cmpM .Gt (bltM "len" [(getL 1)]) (bltM "len" [(getL 2)])) (blkM [(asgSw (tupM [(getL 1), (getL 2)]) [1, 2])]) (blkM []))] ++ [(iteM (cmpM .Gt (binM .Sub (bltM "len" [(getL 2)]) (bltM "len" [(getL 1)])) (getL 3)) (blkM [(retM (cst (.fl (.int (-1)))))]) (blkM [])), (asg1 (runM [] [(getL 1), (getL 2)] psp_fm) (tupTg [4, 5, 6])), (iteM (cmpM .Eq (getL 4) (cst (.fl (.int 0)))) (blkM [(retM (iteM (cmpM .LtE (getL 5) (getL 3)) (getL 5) (cst (.fl (.int (-1))))))]) (blkM [])), lvD_s7, (iteM (cmpM .Lt (getL 3) (getL 5)) (blkM [(retM (methM (tab1 770 true lvm_fm) (getL 0) "_distance_max" [(getL 1), (getL 2), (getL 4), (getL 5), (getL 6), (getL 3), (attrM [770] (getL 0) "_base_char_1_costs")]))]) (blkM [])), (retM (methM (tab1 770 true lvd_fm) (getL 0) "_distance" [(getL 1), (getL 2), (getL 4), (getL 5), (getL 6), (attrM [770] (getL 0) "_base_char_1_costs")]))]) := rfl
    by_cases hl : lim ≤ 0
    · refine ⟨b, mem, h, Frame.refl _ _, ?_⟩
      have hans : ans false (.str s1) (.str s2) lim = if s1.cps.toList = s2.cps.toList then 0 else -1 := by
        show ansT false s1.cps.toList s2.cps.toList lim = _
        unfold ansT; rw [if_pos hl]
      rw [hans]
      unfold lvD_fm lvD_mm lvD_lp
      rw [hm]
      by_cases he : s1.cps.toList = s2.cps.toList
      · have he' : (s1 == s2) = true := by rw [str_eq_list]; exact decide_eq_true he
        rw [if_pos he, blkM_app_ret (v := .fl (.int 0)) (s1 := ⟨[sR c, sS s1, sS s2, sI lim, none, none, none], mem⟩)]
        · rfl
        · simp [getL_ap, setL_ap, cst_ap, binM_ap, cmpM_ap, andM_nil_ap, andM_cons_ap, orM_nil_ap, orM_cons_ap, iteM_ap, asg1_ap, asg2_ap, augM_ap, blkM_nil_ap, blkM_cons_ap, retM_ap, tupM_ap, seqM_nil_ap, seqM_cons_ap, flatL, subM_ap, subF_str, subF_list, setItemM_ap, setItemF_list, bltM_ap, blt_len_s, bin_add, bin_sub, cmp_eq_i, cmp_ne_i, cmp_lt_i, cmp_le_i, cmp_gt_i, cmp_ge_i, cmp_eq_c, cmp_ne_c, pd_True, pd_False, runM_ap, attrM_ap, intM_ap, binX_ap, asgSw_ap, tupTg_ap, setLs_nil_ap, setLs_cons_ap, setAttrM_ap, cmp_is_nn, cmp_is_sn, min_ints, hl, cmp_eq_s, he']
      · have he' : (s1 == s2) = false := by rw [str_eq_list]; exact decide_eq_false he
        rw [if_neg he, blkM_app_ret (v := .fl (.int (-1))) (s1 := ⟨[sR c, sS s1, sS s2, sI lim, none, none, none], mem⟩)]
        · rfl
        · simp [getL_ap, setL_ap, cst_ap, binM_ap, cmpM_ap, andM_nil_ap, andM_cons_ap, orM_nil_ap, orM_cons_ap, iteM_ap, asg1_ap, asg2_ap, augM_ap, blkM_nil_ap, blkM_cons_ap, retM_ap, tupM_ap, seqM_nil_ap, seqM_cons_ap, flatL, subM_ap, subF_str, subF_list, setItemM_ap, setItemF_list, bltM_ap, blt_len_s, bin_add, bin_sub, cmp_eq_i, cmp_ne_i, cmp_lt_i, cmp_le_i, cmp_gt_i, cmp_ge_i, cmp_eq_c, cmp_ne_c, pd_True, pd_False, runM_ap, attrM_ap, intM_ap, binX_ap, asgSw_ap, tupTg_ap, setLs_nil_ap, setLs_cons_ap, setAttrM_ap, cmp_is_nn, cmp_is_sn, min_ints, hl, cmp_eq_s, he']
    · have hml : ((min 2147483647 lim).toNat : Int) = min 2147483647 lim := by omega
      have hmd := dist_max (sw := false) s1.cps.toList s2.cps.toList
      rw [← len_toList, ← len_toList] at hmd
      have hans := ansT_band false s1.cps.toList s2.cps.toList lim (by omega) (by omega)
      have hans' : ans false (.str s1) (.str s2) lim = ansT false s1.cps.toList s2.cps.toList lim := rfl
      rw [hans', ← hans]
      by_cases hsw : (s2.length : Int) < s1.length
      · obtain ⟨l, b', mem', q1, q2, q3⟩ := lvD_rest h (s1 := s2) (s2 := s1) (by omega) h1 (min 2147483647 lim).toNat
        rw [hml, dist_symm] at q3
        refine ⟨b', mem', q1, q2, ?_⟩
        unfold lvD_fm lvD_mm lvD_lp
        rw [hm, blkM_app_next (s1 := ⟨[sR c, sS s2, sS s1, sI (min 2147483647 lim), none, none, none], mem⟩)]
        · rw [q3]; rfl
        · have hsw' : s2.length < s1.length := by omega
          simp [getL_ap, setL_ap, cst_ap, binM_ap, cmpM_ap, andM_nil_ap, andM_cons_ap, orM_nil_ap, orM_cons_ap, iteM_ap, asg1_ap, asg2_ap, augM_ap, blkM_nil_ap, blkM_cons_ap, retM_ap, tupM_ap, seqM_nil_ap, seqM_cons_ap, flatL, subM_ap, subF_str, subF_list, setItemM_ap, setItemF_list, bltM_ap, blt_len_s, bin_add, bin_sub, cmp_eq_i, cmp_ne_i, cmp_lt_i, cmp_le_i, cmp_gt_i, cmp_ge_i, cmp_eq_c, cmp_ne_c, pd_True, pd_False, runM_ap, attrM_ap, intM_ap, binX_ap, asgSw_ap, tupTg_ap, setLs_nil_ap, setLs_cons_ap, setAttrM_ap, cmp_is_nn, cmp_is_sn, min_ints, hl, pow31, hsw, hsw', e1, e2]
      · obtain ⟨l, b', mem', q1, q2, q3⟩ := lvD_rest h (s1 := s1) (s2 := s2) (by omega) h2 (min 2147483647 lim).toNat
        rw [hml] at q3
        refine ⟨b', mem', q1, q2, ?_⟩
        unfold lvD_fm lvD_mm lvD_lp
        rw [hm, blkM_app_next (s1 := ⟨[sR c, sS s1, sS s2, sI (min 2147483647 lim), none, none, none], mem⟩)]
        · rw [q3]; rfl
        · have hsw' : ¬ s2.length < s1.length := by omega
          simp [getL_ap, setL_ap, cst_ap, binM_ap, cmpM_ap, andM_nil_ap, andM_cons_ap, orM_nil_ap, orM_cons_ap, iteM_ap, asg1_ap, asg2_ap, augM_ap, blkM_nil_ap, blkM_cons_ap, retM_ap, tupM_ap, seqM_nil_ap, seqM_cons_ap, flatL, subM_ap, subF_str, subF_list, setItemM_ap, setItemF_list, bltM_ap, blt_len_s, bin_add, bin_sub, cmp_eq_i, cmp_ne_i, cmp_lt_i, cmp_le_i, cmp_gt_i, cmp_ge_i, cmp_eq_c, cmp_ne_c, pd_True, pd_False, runM_ap, attrM_ap, intM_ap, binX_ap, asgSw_ap, tupTg_ap, setLs_nil_ap, setLs_cons_ap, setAttrM_ap, cmp_is_nn, cmp_is_sn, min_ints, hl, pow31, hsw, hsw', e1, e2]
end Mine

/-! BEv8 -/
namespace Mine

abbrev nB : Str := Str.ofString "_base_char_1_costs"
abbrev nP : Str := Str.ofString "_base_prev_char_1_costs"
def Ints (n : Nat) (ps : List PV) : Prop := ∀ k : Nat, k < n → ∃ v, ps[k]? = some (.fl (.int v))
/-- a DamerauOsa comparer in the memory -/
structure CompO (c cd b b2 : Nat) (mem : List MO) : Prop where
  inst : mem[c]? = some (.inst 810 cd)
  dict : mem[cd]? = some (.adict [(nB, .ref b), (nP, .ref b2)])
  ne : b ≠ b2
  base : ∃ bs ps, mem[b]? = some (.list bs) ∧ bs.length ≤ 1000 ∧ mem[b2]? = some (.list ps) ∧ ps.length = bs.length ∧ Ints ps.length ps

theorem CompO.c_ne {c cd b b2 mem} (h : CompO c cd b b2 mem) : c ≠ cd := fun e => by have := h.inst; rw [e, h.dict] at this; cases this
theorem CompO.b_ne {c cd b b2 mem} (h : CompO c cd b b2 mem) : b ≠ cd := fun e => by obtain ⟨bs, ps, h1, _⟩ := h.base; rw [e, h.dict] at h1; cases h1
theorem CompO.p_ne {c cd b b2 mem} (h : CompO c cd b b2 mem) : b2 ≠ cd := fun e => by obtain ⟨bs, ps, _, _, h1, _⟩ := h.base; rw [e, h.dict] at h1; cases h1
theorem CompO.p_nec {c cd b b2 mem} (h : CompO c cd b b2 mem) : b2 ≠ c := fun e => by obtain ⟨bs, ps, _, _, h1, _⟩ := h.base; rw [e, h.inst] at h1; cases h1
theorem CompO.snoc {c cd b b2 mem} (h : CompO c cd b b2 mem) (x : MO) : CompO c cd b b2 (mem ++ [x]) :=
  ⟨get_snoc_old h.inst, get_snoc_old h.dict, h.ne, let ⟨bs, ps, h1, h2, h3, h4, h5⟩ := h.base; ⟨bs, ps, get_snoc_old h1, h2, get_snoc_old h3, h4, h5⟩⟩
theorem CompO.setP {c cd b b2 mem} (h : CompO c cd b b2 mem) {ps ps' : List PV} (hp : mem[b2]? = some (.list ps)) (hl : ps'.length = ps.length) (hi : Ints ps'.length ps') : CompO c cd b b2 (mem.set b2 (.list ps')) := by
  obtain ⟨bs, ps0, h1, h2, h3, h4, h5⟩ := h.base
  rw [hp] at h3; cases h3
  refine ⟨?_, ?_, h.ne, bs, ps', ?_, h2, List.getElem?_set_self (List.getElem?_eq_some_iff.mp hp).1, by omega, hi⟩
  · rw [List.getElem?_set_ne h.p_nec]; exact h.inst
  · rw [List.getElem?_set_ne h.p_ne]; exact h.dict
  · rw [List.getElem?_set_ne (Ne.symm h.ne)]; exact h1
theorem Frame.set {own : List Nat} {mem : List MO} {k : Nat} (h : k ∈ own) (x : MO) : Frame own own mem (mem.set k x) :=
  ⟨by simp, fun j hj hn => List.getElem?_set_ne (fun e => hn (by rw [← e]; exact h)), fun j hj => .inl hj⟩
theorem Frame.into {own own' : List Nat} {mem mem' : List MO} (h : Frame own own' mem mem') : Frame own (own' ++ own) mem mem' :=
  ⟨h.len, h.keep, fun j hj => (List.mem_append.mp hj).elim (h.own j) .inl⟩

noncomputable def osD_s7 : Mo Fl := (iteM (cmpM .Gt (getL 5) (bltM "len" [(attrM [810] (getL 0) "_base_char_1_costs")])) (blkM [(asg1 (compM [(getL 5)] (cst (.fl (.int 0)))) (setAttrM [810] (getL 0) "_base_char_1_costs")),
  (asg1 (compM [(getL 5)] (cst (.fl (.int 0)))) (setAttrM [810] (getL 0) "_base_prev_char_1_costs"))]) (blkM []))
theorem osD_grow {c cd b b2 n : Nat} {mem : List MO} {l1 l2 l3 l4 l6 : Option PV} (h : CompO c cd b b2 mem) (hn : n ≤ 1000) :
    ∃ b' b2' mem', CompO c cd b' b2' mem' ∧ (∃ ps, mem'[b2']? = some (.list ps) ∧ n ≤ ps.length ∧ Ints ps.length ps) ∧ Frame [cd, b, b2] [cd, b', b2'] mem mem' ∧
      osD_s7 ⟨[sR c, l1, l2, l3, l4, sI n, l6], mem⟩ = some (.next, ⟨[sR c, l1, l2, l3, l4, sI n, l6], mem'⟩) := by
  obtain ⟨bs, ps, h1, h2, h3, h4, h5⟩ := h.base
  have ha := fun l => attr_at (cls := [810]) (l := l) (name := nB) h.inst (by decide) h.dict (f := .ref b) rfl
  have hl : ∀ st : St, st.mem = mem → bltF st "len" [.fl (.ref b)] = some (.fl (.int bs.length)) := fun st e => by
    show (match st.mem[b]? with | some (.list xs) => if pd (xs.length < 2 ^ 62) = true then some (PV.fl (.int xs.length)) else none | _ => none) = _
    rw [e, h1]
    show (if pd (bs.length < 2 ^ 62) = true then _ else _) = _
    rw [if_pos (pd_true (by omega))]
  by_cases hg : bs.length < n
  · let zs : List PV := (List.range n).map fun _ => .fl (.int 0)
    have hzl : zs.length = n := by simp [zs]
    have hzi : Ints zs.length zs := fun k hk => ⟨0, by simp only [zs]; rw [List.getElem?_map, List.getElem?_range (by omega)]; rfl⟩
    have hcomp : compL (cst (.fl (.int 0))) n 0 = some zs := by
      rw [compL_all (g := fun _ => .int 0) (fun _ => rfl) n 0 (fun k hk => rfl)]
    have hn1 : n ≤ 1048576 := by omega
    let mem1 : List MO := (mem ++ [MO.list zs]).set cd (.adict [(nB, .ref mem.length), (nP, .ref b2)])
    let mem2 : List MO := (mem1 ++ [MO.list zs]).set cd (.adict [(nB, .ref mem.length), (nP, .ref mem1.length)])
    have hl1 : mem1.length = mem.length + 1 := by simp [mem1]
    have hcd : cd < mem.length := (List.getElem?_eq_some_iff.mp h.dict).1
    have hs := h.snoc (.list zs)
    have i1 : mem1[c]? = some (.inst 810 cd) := by simp only [mem1]; rw [List.getElem?_set_ne (Ne.symm h.c_ne)]; exact hs.inst
    have d1 : mem1[cd]? = some (.adict [(nB, .ref mem.length), (nP, .ref b2)]) := by simp only [mem1]; exact List.getElem?_set_self (List.getElem?_eq_some_iff.mp hs.dict).1
    have b1 : mem1[mem.length]? = some (.list zs) := by simp only [mem1]; rw [List.getElem?_set_ne (Nat.ne_of_lt hcd)]; simp
    refine ⟨mem.length, mem1.length, mem2, ⟨?_, ?_, by omega, zs, zs, ?_, by omega, ?_, rfl, hzi⟩, ⟨zs, ?_, by omega, hzi⟩, ?_, ?_⟩
    · simp only [mem2]; rw [List.getElem?_set_ne (Ne.symm h.c_ne)]; exact get_snoc_old i1
    · simp only [mem2]; exact List.getElem?_set_self (by simp; omega)
    · simp only [mem2]; rw [List.getElem?_set_ne (Nat.ne_of_lt hcd)]; exact get_snoc_old b1
    · simp only [mem2]; rw [List.getElem?_set_ne (by omega)]; simp
    · simp only [mem2]; rw [List.getElem?_set_ne (by omega)]; simp
    · refine ⟨by simp [mem2]; omega, fun j hj hn => ?_, fun j hj => ?_⟩
      · have hne : cd ≠ j := fun e => hn (by rw [← e]; simp)
        simp only [mem2]
        rw [List.getElem?_set_ne hne, List.getElem?_append_left (by omega)]
        simp only [mem1]
        rw [List.getElem?_set_ne hne, List.getElem?_append_left hj]
      · simp at hj
        rcases hj with rfl | rfl | rfl
        · left; simp
        · right; omega
        · right; omega
    · have hset1 := fun l => setAttr_at (cls := [810]) (l := l) (name := nB) (f := .ref mem.length) hs.inst (by decide) hs.dict (by simp)
      have e1 : putF nB (.ref mem.length) [(nB, FV.ref b), (nP, FV.ref b2)] = [(nB, FV.ref mem.length), (nP, FV.ref b2)] := rfl
      simp only [e1] at hset1
      have i1' : (mem1 ++ [MO.list zs])[c]? = some (.inst 810 cd) := get_snoc_old i1
      have d1' : (mem1 ++ [MO.list zs])[cd]? = some (.adict [(nB, .ref mem.length), (nP, .ref b2)]) := get_snoc_old d1
      have hset2 := fun l => setAttr_at (cls := [810]) (l := l) (name := nP) (f := .ref mem1.length) i1' (by decide) d1' (by simp)
      have e2 : putF nP (.ref mem1.length) [(nB, FV.ref mem.length), (nP, FV.ref b2)] = [(nB, FV.ref mem.length), (nP, FV.ref mem1.length)] := rfl
      simp only [e2] at hset2
      have hg' : (bs.length : Int) < n := by omega
      have hm1 : (mem ++ [MO.list zs]).set cd (.adict [(nB, .ref mem.length), (nP, .ref b2)]) = mem1 := rfl
      have hm2 : (mem1 ++ [MO.list zs]).set cd (.adict [(nB, .ref mem.length), (nP, .ref mem1.length)]) = mem2 := rfl
      rw [hm1] at hset1
      rw [hm2] at hset2
      unfold osD_s7
      simp [getL_ap, setL_ap, cst_ap, binM_ap, cmpM_ap, andM_nil_ap, andM_cons_ap, orM_nil_ap, orM_cons_ap, iteM_ap, asg1_ap, asg2_ap, augM_ap, blkM_nil_ap, blkM_cons_ap, retM_ap, tupM_ap, seqM_nil_ap, seqM_cons_ap, flatL, subM_ap, subF_str, subF_list, setItemM_ap, setItemF_list, bltM_ap, blt_len_s, bin_add, bin_sub, cmp_eq_i, cmp_ne_i, cmp_lt_i, cmp_le_i, cmp_gt_i, cmp_ge_i, cmp_eq_c, cmp_ne_c, pd_True, pd_False, runM_ap, attrM_ap, intM_ap, binX_ap, asgSw_ap, tupTg_ap, setLs_nil_ap, setLs_cons_ap, setAttrM_ap, cmp_is_nn, cmp_is_sn, min_ints, ha, hl, hg', hg, compM_ap, rng1 n (by omega), hn1, hcomp, newL_ap, hset1, hset2]
  · refine ⟨b, b2, mem, h, ⟨ps, h3, by omega, h5⟩, Frame.refl _ _, ?_⟩
    unfold osD_s7
    simp [getL_ap, setL_ap, cst_ap, binM_ap, cmpM_ap, andM_nil_ap, andM_cons_ap, orM_nil_ap, orM_cons_ap, iteM_ap, asg1_ap, asg2_ap, augM_ap, blkM_nil_ap, blkM_cons_ap, retM_ap, tupM_ap, seqM_nil_ap, seqM_cons_ap, flatL, subM_ap, subF_str, subF_list, setItemM_ap, setItemF_list, bltM_ap, blt_len_s, bin_add, bin_sub, cmp_eq_i, cmp_ne_i, cmp_lt_i, cmp_le_i, cmp_gt_i, cmp_ge_i, cmp_eq_c, cmp_ne_c, pd_True, pd_False, runM_ap, attrM_ap, intM_ap, binX_ap, asgSw_ap, tupTg_ap, setLs_nil_ap, setLs_cons_ap, setAttrM_ap, cmp_is_nn, cmp_is_sn, min_ints, ha, hl, hg]

theorem osD_rest {c cd b b2 : Nat} {mem : List MO} (h : CompO c cd b b2 mem) {s1 s2 : Str} (hab : s1.length ≤ s2.length) (hlb : s2.length ≤ 1000) (m : Nat) :
    ∃ l b' b2' mem', CompO c cd b' b2' mem' ∧ Frame [cd, b, b2] [cd, b', b2'] mem mem' ∧
      blkM [(iteM (cmpM .Gt (binM .Sub (bltM "len" [(getL 2)]) (bltM "len" [(getL 1)])) (getL 3)) (blkM [(retM (cst (.fl (.int (-1)))))]) (blkM [])), (asg1 (runM [] [(getL 1), (getL 2)] psp_fm) (tupTg [4, 5, 6])), (iteM (cmpM .Eq (getL 4) (cst (.fl (.int 0)))) (blkM [(retM (iteM (cmpM .LtE (getL 5) (getL 3)) (getL 5) (cst (.fl (.int (-1))))))]) (blkM [])), osD_s7, (iteM (cmpM .Lt (getL 3) (getL 5)) (blkM [(retM (methM (tab1 810 true osm_fm) (getL 0) "_distance_max" [(getL 1), (getL 2), (getL 4), (getL 5), (getL 6), (getL 3), (attrM [810] (getL 0) "_base_char_1_costs"), (attrM [810] (getL 0) "_base_prev_char_1_costs")]))]) (blkM [])), (retM (methM (tab1 810 true osd_fm) (getL 0) "_distance" [(getL 1), (getL 2), (getL 4), (getL 5), (getL 6), (attrM [810] (getL 0) "_base_char_1_costs"), (attrM [810] (getL 0) "_base_prev_char_1_costs")]))] ⟨[sR c, sS s1, sS s2, sI m, none, none, none], mem⟩ = some (.ret (.fl (.int (bandR m (dist true s1.cps.toList s2.cps.toList)))), ⟨l, mem'⟩) := by
  have hl1 : s1.length < 4611686018427387904 := by omega
  have hl2 : s2.length < 4611686018427387904 := by omega
  have hlen := dist_len (sw := true) s1.cps.toList s2.cps.toList
  rw [← len_toList, ← len_toList] at hlen
  by_cases hd : (m : Int) < (s2.length : Int) - s1.length
  · refine ⟨[sR c, sS s1, sS s2, sI m, none, none, none], b, b2, mem, h, Frame.refl _ _, ?_⟩
    have hb : bandR m (dist true s1.cps.toList s2.cps.toList) = -1 := by unfold bandR; rw [if_neg (by omega)]
    rw [hb]
    simp [getL_ap, setL_ap, cst_ap, binM_ap, cmpM_ap, andM_nil_ap, andM_cons_ap, orM_nil_ap, orM_cons_ap, iteM_ap, asg1_ap, asg2_ap, augM_ap, blkM_nil_ap, blkM_cons_ap, retM_ap, tupM_ap, seqM_nil_ap, seqM_cons_ap, flatL, subM_ap, subF_str, subF_list, setItemM_ap, setItemF_list, bltM_ap, blt_len_s, bin_add, bin_sub, cmp_eq_i, cmp_ne_i, cmp_lt_i, cmp_le_i, cmp_gt_i, cmp_ge_i, cmp_eq_c, cmp_ne_c, pd_True, pd_False, runM_ap, attrM_ap, intM_ap, binX_ap, asgSw_ap, tupTg_ap, setLs_nil_ap, setLs_cons_ap, setAttrM_ap, cmp_is_nn, cmp_is_sn, min_ints, hl1, hl2, hd]
  obtain ⟨a', b1, p, q, ht, hp⟩ := psp_call s1 s2 mem hab (by omega)
  have hlens := ht.lens
  rw [← len_toList, ← len_toList] at hlens
  have hdist := ht.dist (sw := true)
  by_cases h0 : a'.length = 0
  · have ha0 : a' = [] := List.length_eq_zero_iff.mp h0
    refine ⟨[sR c, sS s1, sS s2, sI m, sI a'.length, sI b1.length, sI p.length], b, b2, mem, h, Frame.refl _ _, ?_⟩
    have hb : bandR m (dist true s1.cps.toList s2.cps.toList) = if b1.length ≤ m then (b1.length : Int) else -1 := by rw [hdist, ha0, dist_nil_left]; rfl
    rw [hb]
    by_cases hle : b1.length ≤ m
    · simp [getL_ap, setL_ap, cst_ap, binM_ap, cmpM_ap, andM_nil_ap, andM_cons_ap, orM_nil_ap, orM_cons_ap, iteM_ap, asg1_ap, asg2_ap, augM_ap, blkM_nil_ap, blkM_cons_ap, retM_ap, tupM_ap, seqM_nil_ap, seqM_cons_ap, flatL, subM_ap, subF_str, subF_list, setItemM_ap, setItemF_list, bltM_ap, blt_len_s, bin_add, bin_sub, cmp_eq_i, cmp_ne_i, cmp_lt_i, cmp_le_i, cmp_gt_i, cmp_ge_i, cmp_eq_c, cmp_ne_c, pd_True, pd_False, runM_ap, attrM_ap, intM_ap, binX_ap, asgSw_ap, tupTg_ap, setLs_nil_ap, setLs_cons_ap, setAttrM_ap, cmp_is_nn, cmp_is_sn, min_ints, hl1, hl2, hd, hp, h0, hle]
    · simp [getL_ap, setL_ap, cst_ap, binM_ap, cmpM_ap, andM_nil_ap, andM_cons_ap, orM_nil_ap, orM_cons_ap, iteM_ap, asg1_ap, asg2_ap, augM_ap, blkM_nil_ap, blkM_cons_ap, retM_ap, tupM_ap, seqM_nil_ap, seqM_cons_ap, flatL, subM_ap, subF_str, subF_list, setItemM_ap, setItemF_list, bltM_ap, blt_len_s, bin_add, bin_sub, cmp_eq_i, cmp_ne_i, cmp_lt_i, cmp_le_i, cmp_gt_i, cmp_ge_i, cmp_eq_c, cmp_ne_c, pd_True, pd_False, runM_ap, attrM_ap, intM_ap, binX_ap, asgSw_ap, tupTg_ap, setLs_nil_ap, setLs_cons_ap, setAttrM_ap, cmp_is_nn, cmp_is_sn, min_ints, hl1, hl2, hd, hp, h0, hle]
  have ha0 : ¬ ((a'.length : Int) = 0) := by omega
  obtain ⟨b', b2', mem', hC, ⟨ps, hps, hpl, hpi⟩, hF, hg⟩ := osD_grow (n := b1.length) (l1 := sS s1) (l2 := sS s2) (l3 := sI m) (l4 := sI a'.length) (l6 := sI p.length) h (by omega)
  have hA : ∀ (j : Nat) y, a'[j]? = some y → s1.cps[p.length + j]? = some y := fun j y => mid_get ht.left j y
  have hB : ∀ (j : Nat) y, b1[j]? = some y → s2.cps[p.length + j]? = some y := fun j y => mid_get ht.right j y
  have ha := fun l => attr_at (cls := [810]) (l := l) (name := nB) hC.inst (by decide) hC.dict (f := .ref b') rfl
  have ha2 := fun l => attr_at (cls := [810]) (l := l) (name := nP) hC.inst (by decide) hC.dict (f := .ref b2') rfl
  have hpos : 0 < a'.length := by omega
  have hle := ht.le
  by_cases hm : m < b1.length
  · have hband : Band a' b1 m (b1.length - a'.length) := by
      refine ⟨by omega, by omega, hm, hpos, ?_⟩
      rcases ht.heads with e | ⟨x, y, a'', b'', e1, e2, e3⟩
      · rw [e] at hpos; simp at hpos
      · exact ⟨x, y, by rw [e1]; rfl, by rw [e2]; rfl, e3⟩
    obtain ⟨row, ps', hr, hr1, hr2⟩ := osm_call hband hA hB (by omega) (by omega) (by omega) (.fl (.ref b')) hps hpl hpi
    refine ⟨[sR c, sS s1, sS s2, sI m, sI a'.length, sI b1.length, sI p.length], b', b2', mem'.set b2' (.list ps') ++ [row], (hC.setP hps hr1 hr2).snoc _, hF.trans ((Frame.set (by simp) _).trans (Frame.snoc _ _ _)), ?_⟩
    have hmeth := meth_at (tab := tab1 810 true osm_fm) (mo := getL 0) (name := "_distance_max") (ms := [(getL 1), (getL 2), (getL 4), (getL 5), (getL 6), (getL 3), (attrM [810] (getL 0) "_base_char_1_costs"), (attrM [810] (getL 0) "_base_prev_char_1_costs")])
      (st := ⟨[sR c, sS s1, sS s2, sI m, sI a'.length, sI b1.length, sI p.length], mem'⟩) (s1 := ⟨[sR c, sS s1, sS s2, sI m, sI a'.length, sI b1.length, sI p.length], mem'⟩) rfl hC.inst hC.dict rfl rfl
    rw [hdist]
    have hm' : (m : Int) < b1.length := by omega
    simp [getL_ap, setL_ap, cst_ap, binM_ap, cmpM_ap, andM_nil_ap, andM_cons_ap, orM_nil_ap, orM_cons_ap, iteM_ap, asg1_ap, asg2_ap, augM_ap, blkM_nil_ap, blkM_cons_ap, retM_ap, tupM_ap, seqM_nil_ap, seqM_cons_ap, flatL, subM_ap, subF_str, subF_list, setItemM_ap, setItemF_list, bltM_ap, blt_len_s, bin_add, bin_sub, cmp_eq_i, cmp_ne_i, cmp_lt_i, cmp_le_i, cmp_gt_i, cmp_ge_i, cmp_eq_c, cmp_ne_c, pd_True, pd_False, runM_ap, attrM_ap, intM_ap, binX_ap, asgSw_ap, tupTg_ap, setLs_nil_ap, setLs_cons_ap, setAttrM_ap, cmp_is_nn, cmp_is_sn, min_ints, hl1, hl2, hd, hp, h0, ha0, hg, hm, hm', hmeth, ha, ha2, hr]
  · obtain ⟨row, ps', hr, hr1, hr2⟩ := osd_call hA hB (by omega) (by omega) (by omega) hpos (by omega) (.fl (.ref b')) hps hpl hpi
    refine ⟨[sR c, sS s1, sS s2, sI m, sI a'.length, sI b1.length, sI p.length], b', b2', mem'.set b2' (.list ps') ++ [row], (hC.setP hps hr1 hr2).snoc _, hF.trans ((Frame.set (by simp) _).trans (Frame.snoc _ _ _)), ?_⟩
    have hmeth := meth_at (tab := tab1 810 true osd_fm) (mo := getL 0) (name := "_distance") (ms := [(getL 1), (getL 2), (getL 4), (getL 5), (getL 6), (attrM [810] (getL 0) "_base_char_1_costs"), (attrM [810] (getL 0) "_base_prev_char_1_costs")])
      (st := ⟨[sR c, sS s1, sS s2, sI m, sI a'.length, sI b1.length, sI p.length], mem'⟩) (s1 := ⟨[sR c, sS s1, sS s2, sI m, sI a'.length, sI b1.length, sI p.length], mem'⟩) rfl hC.inst hC.dict rfl rfl
    have hmx := dist_max (sw := true) a' b1
    have hb : bandR m (dist true s1.cps.toList s2.cps.toList) = dist true a' b1 := by rw [hdist]; unfold bandR; rw [if_pos (by omega)]
    rw [hb]
    have hm' : ¬ ((m : Int) < b1.length) := by omega
    simp [getL_ap, setL_ap, cst_ap, binM_ap, cmpM_ap, andM_nil_ap, andM_cons_ap, orM_nil_ap, orM_cons_ap, iteM_ap, asg1_ap, asg2_ap, augM_ap, blkM_nil_ap, blkM_cons_ap, retM_ap, tupM_ap, seqM_nil_ap, seqM_cons_ap, flatL, subM_ap, subF_str, subF_list, setItemM_ap, setItemF_list, bltM_ap, blt_len_s, bin_add, bin_sub, cmp_eq_i, cmp_ne_i, cmp_lt_i, cmp_le_i, cmp_gt_i, cmp_ge_i, cmp_eq_c, cmp_ne_c, pd_True, pd_False, runM_ap, attrM_ap, intM_ap, binX_ap, asgSw_ap, tupTg_ap, setLs_nil_ap, setLs_cons_ap, setAttrM_ap, cmp_is_nn, cmp_is_sn, min_ints, hl1, hl2, hd, hp, h0, ha0, hg, hm, hm', hmeth, ha, ha2, hr]

theorem osD_call {c cd b b2 : Nat} {mem : List MO} (h : CompO c cd b b2 mem) {t1 t2 : FV} (h1 : TextLe 1000 t1) (h2 : TextLe 1000 t2) (lim : Int) :
    ∃ b' b2' mem', CompO c cd b' b2' mem' ∧ Frame [cd, b, b2] [cd, b', b2'] mem mem' ∧ osD_fm [.fl (.ref c), .fl t1, .fl t2, .fl (.int lim)] mem = some (.fl (.int (ans true t1 t2 lim)), mem') := by
  match t1, t2, h1, h2 with
  | .none, .none, _, _ =>
    refine ⟨b, b2, mem, h, Frame.refl _ _, ?_⟩
    have hn := ndr_nn lim mem
    unfold osD_fm osD_mm osD_m osD_lp ans
    simp [getL_ap, setL_ap, cst_ap, binM_ap, cmpM_ap, andM_nil_ap, andM_cons_ap, orM_nil_ap, orM_cons_ap, iteM_ap, asg1_ap, asg2_ap, augM_ap, blkM_nil_ap, blkM_cons_ap, retM_ap, tupM_ap, seqM_nil_ap, seqM_cons_ap, flatL, subM_ap, subF_str, subF_list, setItemM_ap, setItemF_list, bltM_ap, blt_len_s, bin_add, bin_sub, cmp_eq_i, cmp_ne_i, cmp_lt_i, cmp_le_i, cmp_gt_i, cmp_ge_i, cmp_eq_c, cmp_ne_c, pd_True, pd_False, runM_ap, attrM_ap, intM_ap, binX_ap, asgSw_ap, tupTg_ap, setLs_nil_ap, setLs_cons_ap, setAttrM_ap, cmp_is_nn, cmp_is_sn, min_ints, hn, retV]
  | .none, .str s2, _, h2 =>
    refine ⟨b, b2, mem, h, Frame.refl _ _, ?_⟩
    have h2 : s2.length ≤ 1000 := h2
    have hn := ndr_ns s2 (by omega) lim mem
    unfold osD_fm osD_mm osD_m osD_lp ans
    simp [getL_ap, setL_ap, cst_ap, binM_ap, cmpM_ap, andM_nil_ap, andM_cons_ap, orM_nil_ap, orM_cons_ap, iteM_ap, asg1_ap, asg2_ap, augM_ap, blkM_nil_ap, blkM_cons_ap, retM_ap, tupM_ap, seqM_nil_ap, seqM_cons_ap, flatL, subM_ap, subF_str, subF_list, setItemM_ap, setItemF_list, bltM_ap, blt_len_s, bin_add, bin_sub, cmp_eq_i, cmp_ne_i, cmp_lt_i, cmp_le_i, cmp_gt_i, cmp_ge_i, cmp_eq_c, cmp_ne_c, pd_True, pd_False, runM_ap, attrM_ap, intM_ap, binX_ap, asgSw_ap, tupTg_ap, setLs_nil_ap, setLs_cons_ap, setAttrM_ap, cmp_is_nn, cmp_is_sn, min_ints, hn, retV]
  | .str s1, .none, h1, _ =>
    refine ⟨b, b2, mem, h, Frame.refl _ _, ?_⟩
    have h1 : s1.length ≤ 1000 := h1
    have hn := ndr_sn s1 (by omega) lim mem
    unfold osD_fm osD_mm osD_m osD_lp ans
    simp [getL_ap, setL_ap, cst_ap, binM_ap, cmpM_ap, andM_nil_ap, andM_cons_ap, orM_nil_ap, orM_cons_ap, iteM_ap, asg1_ap, asg2_ap, augM_ap, blkM_nil_ap, blkM_cons_ap, retM_ap, tupM_ap, seqM_nil_ap, seqM_cons_ap, flatL, subM_ap, subF_str, subF_list, setItemM_ap, setItemF_list, bltM_ap, blt_len_s, bin_add, bin_sub, cmp_eq_i, cmp_ne_i, cmp_lt_i, cmp_le_i, cmp_gt_i, cmp_ge_i, cmp_eq_c, cmp_ne_c, pd_True, pd_False, runM_ap, attrM_ap, intM_ap, binX_ap, asgSw_ap, tupTg_ap, setLs_nil_ap, setLs_cons_ap, setAttrM_ap, cmp_is_nn, cmp_is_sn, min_ints, hn, retV]
  | .str s1, .str s2, h1, h2 =>
    have h1 : s1.length ≤ 1000 := h1
    have h2 : s2.length ≤ 1000 := h2
    have e1 : s1.length < 4611686018427387904 := by omega
    have e2 : s2.length < 4611686018427387904 := by omega
    have hm : osD_m ndr_fm psp_fm (tab1 810 true osm_fm) (tab1 810 true osd_fm) = blkM ([(iteM (orM [(cmpM .Is (getL 1) (cst (.fl .none))), (cmpM .Is (getL 2) (cst (.fl .none)))]) (blkM [(retM (runM [] [(getL 1), (getL 2), (getL 3)] ndr_fm))]) (blkM [])), (iteM (cmpM .LtE (getL 3) (cst (.fl (.int 0)))) (blkM [(retM (iteM (cmpM .Eq (getL 1) (getL 2)) (cst (.fl (.int 0))) (cst (.fl (.int (-1))))))]) (blkM [])), (asg1 (intM (bltM "min" [(binM .Sub (binX .Pow (cst (.fl (.int 2))) (cst (.fl (.int 31)))) (cst (.fl (.int 1)))), (getL 3)])) (setL 3)), (iteM (cmpM .Gt (bltM "len" [(getL 1)]) (bltM "len" [(getL 2)])) (blkM [(asgSw (tupM [(getL 1), (getL 2)]) [1, 2])]) (blkM []))] ++ [(iteM (cmpM .Gt (binM .Sub (bltM "len" [(getL 2)]) (bltM "len" [(getL 1)])) (getL 3)) (blkM [(retM (cst (.fl (.int (-1)))))]) (blkM [])), (asg1 (runM [] [(getL 1), (getL 2)] psp_fm) (tupTg [4, 5, 6])), (iteM (cmpM .Eq (getL 4) (cst (.fl (.int 0)))) (blkM [(retM (iteM (cmpM .LtE (getL 5) (getL 3)) (getL 5) (cst (.fl (.int (-1))))))]) (blkM [])), osD_s7, (iteM (cmpM .Lt (getL 3) (getL 5)) (blkM [(retM (methM (tab1 810 true osm_fm) (getL 0) "_distance_max" [(getL 1), (getL 2), (getL 4), (getL 5), (getL 6), (getL 3), (attrM [810] (getL 0) "_base_char_1_costs"), (attrM [810] (getL 0) "_base_prev_char_1_costs")]))]) (blkM [])), (retM (methM (tab1 810 true osd_fm) (getL 0) "_distance" [(getL 1), (getL 2), (getL 4), (getL 5), (getL 6), (attrM [810] (getL 0) "_base_char_1_costs"), (attrM [810] (getL 0) "_base_prev_char_1_costs")]))]) := rfl
    by_cases hl : lim ≤ 0
    · refine ⟨b, b2, mem, h, Frame.refl _ _, ?_⟩
      have hans : ans true (.str s1) (.str s2) lim = if s1.cps.toList = s2.cps.toList then 0 else -1 := by
        show ansT true s1.cps.toList s2.cps.toList lim = _
        unfold ansT; rw [if_pos hl]
      rw [hans]
      unfold osD_fm osD_mm osD_lp
      rw [hm]
      by_cases he : s1.cps.toList = s2.cps.toList
      · have he' : (s1 == s2) = true := by rw [str_eq_list]; exact decide_eq_true he
        rw [if_pos he, blkM_app_ret (v := .fl (.int 0)) (s1 := ⟨[sR c, sS s1, sS s2, sI lim, none, none, none], mem⟩)]
        · rfl
        · simp [getL_ap, setL_ap, cst_ap, binM_ap, cmpM_ap, andM_nil_ap, andM_cons_ap, orM_nil_ap, orM_cons_ap, iteM_ap, asg1_ap, asg2_ap, augM_ap, blkM_nil_ap, blkM_cons_ap, retM_ap, tupM_ap, seqM_nil_ap, seqM_cons_ap, flatL, subM_ap, subF_str, subF_list, setItemM_ap, setItemF_list, bltM_ap, blt_len_s, bin_add, bin_sub, cmp_eq_i, cmp_ne_i, cmp_lt_i, cmp_le_i, cmp_gt_i, cmp_ge_i, cmp_eq_c, cmp_ne_c, pd_True, pd_False, runM_ap, attrM_ap, intM_ap, binX_ap, asgSw_ap, tupTg_ap, setLs_nil_ap, setLs_cons_ap, setAttrM_ap, cmp_is_nn, cmp_is_sn, min_ints, hl, cmp_eq_s, he']
      · have he' : (s1 == s2) = false := by rw [str_eq_list]; exact decide_eq_false he
        rw [if_neg he, blkM_app_ret (v := .fl (.int (-1))) (s1 := ⟨[sR c, sS s1, sS s2, sI lim, none, none, none], mem⟩)]
        · rfl
        · simp [getL_ap, setL_ap, cst_ap, binM_ap, cmpM_ap, andM_nil_ap, andM_cons_ap, orM_nil_ap, orM_cons_ap, iteM_ap, asg1_ap, asg2_ap, augM_ap, blkM_nil_ap, blkM_cons_ap, retM_ap, tupM_ap, seqM_nil_ap, seqM_cons_ap, flatL, subM_ap, subF_str, subF_list, setItemM_ap, setItemF_list, bltM_ap, blt_len_s, bin_add, bin_sub, cmp_eq_i, cmp_ne_i, cmp_lt_i, cmp_le_i, cmp_gt_i, cmp_ge_i, cmp_eq_c, cmp_ne_c, pd_True, pd_False, runM_ap, attrM_ap, intM_ap, binX_ap, asgSw_ap, tupTg_ap, setLs_nil_ap, setLs_cons_ap, setAttrM_ap, cmp_is_nn, cmp_is_sn, min_ints, hl, cmp_eq_s, he']
    · have hml : ((min 2147483647 lim).toNat : Int) = min 2147483647 lim := by omega
      have hmd := dist_max (sw := true) s1.cps.toList s2.cps.toList
      rw [← len_toList, ← len_toList] at hmd
      have hans := ansT_band true s1.cps.toList s2.cps.toList lim (by omega) (by omega)
      have hans' : ans true (.str s1) (.str s2) lim = ansT true s1.cps.toList s2.cps.toList lim := rfl
      rw [hans', ← hans]
      by_cases hsw : (s2.length : Int) < s1.length
      · obtain ⟨l, b', b2', mem', q1, q2, q3⟩ := osD_rest h (s1 := s2) (s2 := s1) (by omega) h1 (min 2147483647 lim).toNat
        rw [hml, dist_symm] at q3
        refine ⟨b', b2', mem', q1, q2, ?_⟩
        unfold osD_fm osD_mm osD_lp
        rw [hm, blkM_app_next (s1 := ⟨[sR c, sS s2, sS s1, sI (min 2147483647 lim), none, none, none], mem⟩)]
        · rw [q3]; rfl
        · have hsw' : s2.length < s1.length := by omega
          simp [getL_ap, setL_ap, cst_ap, binM_ap, cmpM_ap, andM_nil_ap, andM_cons_ap, orM_nil_ap, orM_cons_ap, iteM_ap, asg1_ap, asg2_ap, augM_ap, blkM_nil_ap, blkM_cons_ap, retM_ap, tupM_ap, seqM_nil_ap, seqM_cons_ap, flatL, subM_ap, subF_str, subF_list, setItemM_ap, setItemF_list, bltM_ap, blt_len_s, bin_add, bin_sub, cmp_eq_i, cmp_ne_i, cmp_lt_i, cmp_le_i, cmp_gt_i, cmp_ge_i, cmp_eq_c, cmp_ne_c, pd_True, pd_False, runM_ap, attrM_ap, intM_ap, binX_ap, asgSw_ap, tupTg_ap, setLs_nil_ap, setLs_cons_ap, setAttrM_ap, cmp_is_nn, cmp_is_sn, min_ints, hl, pow31, hsw, hsw', e1, e2]
      · obtain ⟨l, b', b2', mem', q1, q2, q3⟩ := osD_rest h (s1 := s1) (s2 := s2) (by omega) h2 (min 2147483647 lim).toNat
        rw [hml] at q3
        refine ⟨b', b2', mem', q1, q2, ?_⟩
        unfold osD_fm osD_mm osD_lp
        rw [hm, blkM_app_next (s1 := ⟨[sR c, sS s1, sS s2, sI (min 2147483647 lim), none, none, none], mem⟩)]
        · rw [q3]; rfl
        · have hsw' : ¬ s2.length < s1.length := by omega
          simp [getL_ap, setL_ap, cst_ap, binM_ap, cmpM_ap, andM_nil_ap, andM_cons_ap, orM_nil_ap, orM_cons_ap, iteM_ap, asg1_ap, asg2_ap, augM_ap, blkM_nil_ap, blkM_cons_ap, retM_ap, tupM_ap, seqM_nil_ap, seqM_cons_ap, flatL, subM_ap, subF_str, subF_list, setItemM_ap, setItemF_list, bltM_ap, blt_len_s, bin_add, bin_sub, cmp_eq_i, cmp_ne_i, cmp_lt_i, cmp_le_i, cmp_gt_i, cmp_ge_i, cmp_eq_c, cmp_ne_c, pd_True, pd_False, runM_ap, attrM_ap, intM_ap, binX_ap, asgSw_ap, tupTg_ap, setLs_nil_ap, setLs_cons_ap, setAttrM_ap, cmp_is_nn, cmp_is_sn, min_ints, hl, pow31, hsw, hsw', e1, e2]
end Mine

/-! BEv9 -/
namespace Mine

inductive Comp (c : Nat) (mem : List MO) : Bool → List Nat → Prop
  | lev {cd b : Nat} : CompL c cd b mem → Comp c mem false [cd, b]
  | osa {cd b b2 : Nat} : CompO c cd b b2 mem → Comp c mem true [cd, b, b2]
noncomputable def distFM (sw : Bool) : FM := if sw then osD_fm else lvD_fm
def compCl (sw : Bool) : Addr := if sw then 810 else 770
theorem Comp.call {c : Nat} {mem : List MO} {sw : Bool} {own : List Nat} (h : Comp c mem sw own) {t1 t2 : FV} (h1 : TextLe 1000 t1) (h2 : TextLe 1000 t2) (lim : Int) :
    ∃ own' mem', Comp c mem' sw own' ∧ Frame own own' mem mem' ∧ distFM sw [.fl (.ref c), .fl t1, .fl t2, .fl (.int lim)] mem = some (.fl (.int (ans sw t1 t2 lim)), mem') := by
  cases h with
  | lev h => obtain ⟨b', mem', q1, q2, q3⟩ := lvD_call h h1 h2 lim; exact ⟨_, mem', .lev q1, q2, q3⟩
  | osa h => obtain ⟨b', b2', mem', q1, q2, q3⟩ := osD_call h h1 h2 lim; exact ⟨_, mem', .osa q1, q2, q3⟩
theorem Comp.inst {c : Nat} {mem : List MO} {sw : Bool} {own : List Nat} (h : Comp c mem sw own) : ∃ cd fs, mem[c]? = some (.inst (compCl sw) cd) ∧ mem[cd]? = some (.adict fs) ∧ fs.lookup (Str.ofString "distance") = none := by
  cases h with
  | lev h => exact ⟨_, _, h.inst, h.dict, rfl⟩
  | osa h => exact ⟨_, _, h.inst, h.dict, rfl⟩
theorem Comp.own_no {c : Nat} {mem : List MO} {sw : Bool} {own : List Nat} (h : Comp c mem sw own) {j : Nat} (hj : j ∈ own) : ∀ cl kd, mem[j]? ≠ some (.inst cl kd) := by
  cases h with
  | lev h =>
    intro cl kd e
    simp at hj
    rcases hj with rfl | rfl
    · rw [h.dict] at e; cases e
    · obtain ⟨bs, h3, _⟩ := h.base; rw [h3] at e; cases e
  | osa h =>
    intro cl kd e
    simp at hj
    rcases hj with rfl | rfl | rfl
    · rw [h.dict] at e; cases e
    · obtain ⟨bs, ps, h3, _⟩ := h.base; rw [h3] at e; cases e
    · obtain ⟨bs, ps, _, _, h3, _⟩ := h.base; rw [h3] at e; cases e

/-- an EditDistance in the memory -/
structure Meter (sw : Bool) (k : Nat) (own : List Nat) (mem : List MO) : Prop where
  here : ∃ kd c f, mem[k]? = some (.inst 728 kd) ∧ mem[kd]? = some (.adict [(Str.ofString "_algorithm", f), (Str.ofString "_distance_comparer", .ref c)]) ∧ Comp c mem sw own ∧ kd ∉ own

theorem edC_call {sw : Bool} {k : Nat} {own : List Nat} {mem : List MO} (h : Meter sw k own mem) {t1 t2 : FV} (h1 : TextLe 1000 t1) (h2 : TextLe 1000 t2) (lim : Int) :
    ∃ own' mem', Meter sw k own' mem' ∧ Frame own own' mem mem' ∧ edC_fm [.fl (.ref k), .fl t1, .fl t2, .fl (.int lim)] mem = some (.fl (.int (ans sw t1 t2 lim)), mem') := by
  obtain ⟨kd, c, f, q1, q2, q3, q4⟩ := h.here
  obtain ⟨own', mem', r1, r2, r3⟩ := q3.call h1 h2 lim
  obtain ⟨cd, fs, p1, p2, p3⟩ := q3.inst
  have hk : k ∉ own := fun hk => q3.own_no hk _ _ q1
  have hkl : k < mem.length := (List.getElem?_eq_some_iff.mp q1).1
  have hkdl : kd < mem.length := (List.getElem?_eq_some_iff.mp q2).1
  refine ⟨own', mem', ⟨kd, c, f, by rw [r2.keep k hkl hk]; exact q1, by rw [r2.keep kd hkdl q4]; exact q2, r1, fun hm => (r2.own kd hm).elim q4 (fun h => absurd hkdl (Nat.not_lt.mpr h))⟩, r2, ?_⟩
  have ha := fun l => attr_at (cls := [728]) (l := l) (name := "_distance_comparer") q1 (by decide) q2 (f := .ref c) rfl
  have htab : tab2 770 810 false lvD_fm osD_fm (compCl sw) = some (false, distFM sw) := by cases sw <;> rfl
  have hmeth := meth_at (tab := tab2 770 810 false lvD_fm osD_fm) (mo := attrM [728] (getL 0) "_distance_comparer") (name := "distance") (ms := [(getL 1), (getL 2), (getL 3)])
    (st := ⟨[sR k, some (.fl t1), some (.fl t2), sI lim], mem⟩) (s1 := ⟨[sR k, some (.fl t1), some (.fl t2), sI lim], mem⟩) (k := c) (by simp [getL_ap, setL_ap, cst_ap, binM_ap, cmpM_ap, andM_nil_ap, andM_cons_ap, orM_nil_ap, orM_cons_ap, iteM_ap, asg1_ap, asg2_ap, augM_ap, blkM_nil_ap, blkM_cons_ap, retM_ap, tupM_ap, seqM_nil_ap, seqM_cons_ap, flatL, subM_ap, subF_str, subF_list, setItemM_ap, setItemF_list, bltM_ap, blt_len_s, bin_add, bin_sub, cmp_eq_i, cmp_ne_i, cmp_lt_i, cmp_le_i, cmp_gt_i, cmp_ge_i, cmp_eq_c, cmp_ne_c, pd_True, pd_False, runM_ap, attrM_ap, intM_ap, binX_ap, asgSw_ap, tupTg_ap, setLs_nil_ap, setLs_cons_ap, setAttrM_ap, cmp_is_nn, cmp_is_sn, min_ints, ha]) p1 p2 p3 htab
  unfold edC_fm edC_mm edC_m edC_lp
  simp [getL_ap, setL_ap, cst_ap, binM_ap, cmpM_ap, andM_nil_ap, andM_cons_ap, orM_nil_ap, orM_cons_ap, iteM_ap, asg1_ap, asg2_ap, augM_ap, blkM_nil_ap, blkM_cons_ap, retM_ap, tupM_ap, seqM_nil_ap, seqM_cons_ap, flatL, subM_ap, subF_str, subF_list, setItemM_ap, setItemF_list, bltM_ap, blt_len_s, bin_add, bin_sub, cmp_eq_i, cmp_ne_i, cmp_lt_i, cmp_le_i, cmp_gt_i, cmp_ge_i, cmp_eq_c, cmp_ne_c, pd_True, pd_False, runM_ap, attrM_ap, intM_ap, binX_ap, asgSw_ap, tupTg_ap, setLs_nil_ap, setLs_cons_ap, setAttrM_ap, cmp_is_nn, cmp_is_sn, min_ints, hmeth, r3, retV]

theorem Comp.move {c : Nat} {mem mem' : List MO} {sw : Bool} {own : List Nat} (h : Comp c mem sw own) (hm : ∀ j x, mem[j]? = some x → (j ∈ own ∨ ∀ xs, x ≠ .list xs) → mem'[j]? = some x) : Comp c mem' sw own := by
  cases h with
  | lev h =>
    obtain ⟨bs, h1, h2⟩ := h.base
    exact .lev ⟨hm _ _ h.inst (.inr fun xs e => nomatch e), hm _ _ h.dict (.inr fun xs e => nomatch e), bs, hm _ _ h1 (.inl (by simp)), h2⟩
  | osa h =>
    obtain ⟨bs, ps, h1, h2, h3, h4, h5⟩ := h.base
    exact .osa ⟨hm _ _ h.inst (.inr fun xs e => nomatch e), hm _ _ h.dict (.inr fun xs e => nomatch e), h.ne, bs, ps, hm _ _ h1 (.inl (by simp)), h2, hm _ _ h3 (.inl (by simp)), h4, h5⟩
theorem Meter.move {sw : Bool} {k : Nat} {own : List Nat} {mem mem' : List MO} (h : Meter sw k own mem) (hm : ∀ j x, mem[j]? = some x → (j ∈ own ∨ ∀ xs, x ≠ .list xs) → mem'[j]? = some x) : Meter sw k own mem' := by
  obtain ⟨kd, c, f, q1, q2, q3, q4⟩ := h.here
  exact ⟨kd, c, f, hm _ _ q1 (.inr fun xs e => nomatch e), hm _ _ q2 (.inr fun xs e => nomatch e), q3.move hm, q4⟩
theorem Meter.frame {sw : Bool} {k : Nat} {own : List Nat} {mem mem' : List MO} (h : Meter sw k own mem) (F : Frame [] [] mem mem') : Meter sw k own mem' :=
  h.move fun j x e _ => by rw [F.keep j (List.getElem?_eq_some_iff.mp e).1 (fun h => nomatch h)]; exact e
theorem Meter.setL {sw : Bool} {k : Nat} {own : List Nat} {mem : List MO} (h : Meter sw k own mem) {t : Nat} {xs : List PV} (ht : mem[t]? = some (.list xs)) (hn : t ∉ own) (y : MO) : Meter sw k own (mem.set t y) :=
  h.move fun j x e hj => by
    have : t ≠ j := fun e' => by
      subst e'
      rw [ht] at e; cases e
      rcases hj with hj | hj
      · exact hn hj
      · exact hj _ rfl
    rw [List.getElem?_set_ne this]; exact e

/-! making one -/
def memL (mem : List MO) : List MO := mem ++ [.adict [(Str.ofString "_algorithm", .obj 668), (Str.ofString "_distance_comparer", .ref (mem.length + 3))], .inst 728 mem.length, .adict [(nB, .ref (mem.length + 4))], .inst 770 (mem.length + 2), .list []]
def memO2 (mem : List MO) : List MO := mem ++ [.adict [(Str.ofString "_algorithm", .obj 670), (Str.ofString "_distance_comparer", .ref (mem.length + 3))], .inst 728 mem.length, .adict [(nB, .ref (mem.length + 4)), (nP, .ref (mem.length + 5))], .inst 810 (mem.length + 2), .list [], .list []]
theorem listM_nil (l : List (Option PV)) (mem : List MO) : listM [] ⟨l, mem⟩ = some (.fl (.ref mem.length), ⟨l, mem ++ [.list []]⟩) := rfl
theorem lvI_call (mem : List MO) : lvI_fm [.fl (.ref (mem.length + 1))] (mem ++ [.adict [], .inst 770 mem.length]) = some (.fl .none, mem ++ [.adict [(nB, .ref (mem.length + 2))], .inst 770 mem.length, .list []]) := by
  unfold lvI_fm lvI_mm lvI_m lvI_lp
  have i1 : (mem ++ [MO.adict [], .inst 770 mem.length, .list []])[mem.length + 1]? = some (.inst 770 mem.length) := by simp
  have d1 : (mem ++ [MO.adict [], .inst 770 mem.length, .list []])[mem.length]? = some (.adict []) := by simp
  have hset := fun l => setAttr_at (cls := [770]) (l := l) (name := nB) (f := .ref (mem.length + 2)) i1 (by decide) d1 (by simp)
  have e : (mem ++ [MO.adict [], .inst 770 mem.length, .list []]).set mem.length (.adict (putF nB (.ref (mem.length + 2)) [])) = mem ++ [.adict [(nB, .ref (mem.length + 2))], .inst 770 mem.length, .list []] := by
    simp [putF]
  simp only [e] at hset
  simp [getL_ap, setL_ap, cst_ap, binM_ap, cmpM_ap, andM_nil_ap, andM_cons_ap, orM_nil_ap, orM_cons_ap, iteM_ap, asg1_ap, asg2_ap, augM_ap, blkM_nil_ap, blkM_cons_ap, retM_ap, tupM_ap, seqM_nil_ap, seqM_cons_ap, flatL, subM_ap, subF_str, subF_list, setItemM_ap, setItemF_list, bltM_ap, blt_len_s, bin_add, bin_sub, cmp_eq_i, cmp_ne_i, cmp_lt_i, cmp_le_i, cmp_gt_i, cmp_ge_i, cmp_eq_c, cmp_ne_c, pd_True, pd_False, runM_ap, attrM_ap, intM_ap, binX_ap, asgSw_ap, tupTg_ap, setLs_nil_ap, setLs_cons_ap, setAttrM_ap, cmp_is_nn, cmp_is_sn, min_ints, listM_nil, newL_ap, hset, retV]

theorem osI_call (mem : List MO) : osI_fm [.fl (.ref (mem.length + 1))] (mem ++ [.adict [], .inst 810 mem.length]) = some (.fl .none, mem ++ [.adict [(nB, .ref (mem.length + 2)), (nP, .ref (mem.length + 3))], .inst 810 mem.length, .list [], .list []]) := by
  unfold osI_fm osI_mm osI_m osI_lp
  have i1 : (mem ++ [MO.adict [], .inst 810 mem.length, .list []])[mem.length + 1]? = some (.inst 810 mem.length) := by simp
  have d1 : (mem ++ [MO.adict [], .inst 810 mem.length, .list []])[mem.length]? = some (.adict []) := by simp
  have hset := fun l => setAttr_at (cls := [810]) (l := l) (name := nB) (f := .ref (mem.length + 2)) i1 (by decide) d1 (by simp)
  have e : (mem ++ [MO.adict [], .inst 810 mem.length, .list []]).set mem.length (.adict (putF nB (.ref (mem.length + 2)) [])) = mem ++ [.adict [(nB, .ref (mem.length + 2))], .inst 810 mem.length, .list []] := by
    simp [putF]
  simp only [e] at hset
  have i2 : (mem ++ [MO.adict [(nB, .ref (mem.length + 2))], .inst 810 mem.length, .list [], .list []])[mem.length + 1]? = some (.inst 810 mem.length) := by simp
  have d2 : (mem ++ [MO.adict [(nB, .ref (mem.length + 2))], .inst 810 mem.length, .list [], .list []])[mem.length]? = some (.adict [(nB, .ref (mem.length + 2))]) := by simp
  have hset2 := fun l => setAttr_at (cls := [810]) (l := l) (name := nP) (f := .ref (mem.length + 3)) i2 (by decide) d2 (by simp)
  have e2 : (mem ++ [MO.adict [(nB, .ref (mem.length + 2))], .inst 810 mem.length, .list [], .list []]).set mem.length (.adict (putF nP (.ref (mem.length + 3)) [(nB, .ref (mem.length + 2))])) = mem ++ [.adict [(nB, .ref (mem.length + 2)), (nP, .ref (mem.length + 3))], .inst 810 mem.length, .list [], .list []] := by
    have e3 : putF nP (.ref (mem.length + 3)) [(nB, .ref (mem.length + 2))] = [(nB, FV.ref (mem.length + 2)), (nP, .ref (mem.length + 3))] := rfl
    rw [e3]; simp
  simp only [e2] at hset2
  simp [getL_ap, setL_ap, cst_ap, binM_ap, cmpM_ap, andM_nil_ap, andM_cons_ap, orM_nil_ap, orM_cons_ap, iteM_ap, asg1_ap, asg2_ap, augM_ap, blkM_nil_ap, blkM_cons_ap, retM_ap, tupM_ap, seqM_nil_ap, seqM_cons_ap, flatL, subM_ap, subF_str, subF_list, setItemM_ap, setItemF_list, bltM_ap, blt_len_s, bin_add, bin_sub, cmp_eq_i, cmp_ne_i, cmp_lt_i, cmp_le_i, cmp_gt_i, cmp_ge_i, cmp_eq_c, cmp_ne_c, pd_True, pd_False, runM_ap, attrM_ap, intM_ap, binX_ap, asgSw_ap, tupTg_ap, setLs_nil_ap, setLs_cons_ap, setAttrM_ap, cmp_is_nn, cmp_is_sn, min_ints, listM_nil, newL_ap, hset, hset2, retV]

theorem cmpObj_ap (objs : List Addr) (k : Nat) (a b : Addr) (l : List (Option PV)) (mem : List MO) (h : l[k]? = some (some (.fl (.obj a)))) (ha : objs.contains a = true) (hb : objs.contains b = true) : cmpObjM objs (getL k) (cst (.fl (.obj b))) ⟨l, mem⟩ = some (a == b, ⟨l, mem⟩) := by
  unfold cmpObjM bindM getL cst liftO cmpObjF
  simp only [h, ha, hb, Bool.and_true, if_true]

theorem edI_lev (mem : List MO) : edI_fm [.fl (.ref (mem.length + 1)), .fl (.obj 668)] (mem ++ [.adict [], .inst 728 mem.length]) = some (.fl .none, memL mem) := by
  unfold edI_fm edI_mm edI_m edI_lp memL
  have i1 : (mem ++ [MO.adict [], .inst 728 mem.length])[mem.length + 1]? = some (.inst 728 mem.length) := by simp
  have d1 : (mem ++ [MO.adict [], .inst 728 mem.length])[mem.length]? = some (.adict []) := by simp
  have hset := fun l => setAttr_at (cls := [728]) (l := l) (name := Str.ofString "_algorithm") (f := .obj 668) i1 (by decide) d1 (by simp)
  have e : (mem ++ [MO.adict [], .inst 728 mem.length]).set mem.length (.adict (putF (Str.ofString "_algorithm") (.obj 668) [])) = mem ++ [.adict [(Str.ofString "_algorithm", .obj 668)], .inst 728 mem.length] := by
    simp [putF]
  simp only [e] at hset
  have hmk : makeF 770 lvI_fm [] (mem ++ [.adict [(Str.ofString "_algorithm", .obj 668)], .inst 728 mem.length]) = some (.fl (.ref (mem.length + 3)), mem ++ [.adict [(Str.ofString "_algorithm", .obj 668)], .inst 728 mem.length, .adict [(nB, .ref (mem.length + 4))], .inst 770 (mem.length + 2), .list []]) := by
    have h0 := lvI_call (mem ++ [.adict [(Str.ofString "_algorithm", .obj 668)], .inst 728 mem.length])
    simp at h0
    unfold makeF
    simp [h0]
  have i2 : (mem ++ [MO.adict [(Str.ofString "_algorithm", .obj 668)], .inst 728 mem.length, .adict [(nB, .ref (mem.length + 4))], .inst 770 (mem.length + 2), .list []])[mem.length + 1]? = some (.inst 728 mem.length) := by simp
  have d2 : (mem ++ [MO.adict [(Str.ofString "_algorithm", .obj 668)], .inst 728 mem.length, .adict [(nB, .ref (mem.length + 4))], .inst 770 (mem.length + 2), .list []])[mem.length]? = some (.adict [(Str.ofString "_algorithm", .obj 668)]) := by simp
  have hset2 := fun l => setAttr_at (cls := [728]) (l := l) (name := Str.ofString "_distance_comparer") (f := .ref (mem.length + 3)) i2 (by decide) d2 (by simp)
  have e3 : putF (Str.ofString "_distance_comparer") (.ref (mem.length + 3)) [(Str.ofString "_algorithm", .obj 668)] = [(Str.ofString "_algorithm", FV.obj 668), (Str.ofString "_distance_comparer", .ref (mem.length + 3))] := rfl
  simp only [e3] at hset2
  have hc := fun l mem' (h : l[1]? = some (some (PV.fl (.obj 668)))) => cmpObj_ap [668, 670, 676] 1 668 668 l mem' h (by decide) (by decide)
  simp [getL_ap, setL_ap, cst_ap, binM_ap, cmpM_ap, andM_nil_ap, andM_cons_ap, orM_nil_ap, orM_cons_ap, iteM_ap, asg1_ap, asg2_ap, augM_ap, blkM_nil_ap, blkM_cons_ap, retM_ap, tupM_ap, seqM_nil_ap, seqM_cons_ap, flatL, subM_ap, subF_str, subF_list, setItemM_ap, setItemF_list, bltM_ap, blt_len_s, bin_add, bin_sub, cmp_eq_i, cmp_ne_i, cmp_lt_i, cmp_le_i, cmp_gt_i, cmp_ge_i, cmp_eq_c, cmp_ne_c, pd_True, pd_False, runM_ap, attrM_ap, intM_ap, binX_ap, asgSw_ap, tupTg_ap, setLs_nil_ap, setLs_cons_ap, setAttrM_ap, cmp_is_nn, cmp_is_sn, min_ints, hset, hset2, hc, hmk, retV]
theorem edI_osa (mem : List MO) : edI_fm [.fl (.ref (mem.length + 1)), .fl (.obj 670)] (mem ++ [.adict [], .inst 728 mem.length]) = some (.fl .none, memO2 mem) := by
  unfold edI_fm edI_mm edI_m edI_lp memO2
  have i1 : (mem ++ [MO.adict [], .inst 728 mem.length])[mem.length + 1]? = some (.inst 728 mem.length) := by simp
  have d1 : (mem ++ [MO.adict [], .inst 728 mem.length])[mem.length]? = some (.adict []) := by simp
  have hset := fun l => setAttr_at (cls := [728]) (l := l) (name := Str.ofString "_algorithm") (f := .obj 670) i1 (by decide) d1 (by simp)
  have e : (mem ++ [MO.adict [], .inst 728 mem.length]).set mem.length (.adict (putF (Str.ofString "_algorithm") (.obj 670) [])) = mem ++ [.adict [(Str.ofString "_algorithm", .obj 670)], .inst 728 mem.length] := by
    simp [putF]
  simp only [e] at hset
  have hmk : makeF 810 osI_fm [] (mem ++ [.adict [(Str.ofString "_algorithm", .obj 670)], .inst 728 mem.length]) = some (.fl (.ref (mem.length + 3)), mem ++ [.adict [(Str.ofString "_algorithm", .obj 670)], .inst 728 mem.length, .adict [(nB, .ref (mem.length + 4)), (nP, .ref (mem.length + 5))], .inst 810 (mem.length + 2), .list [], .list []]) := by
    have h0 := osI_call (mem ++ [.adict [(Str.ofString "_algorithm", .obj 670)], .inst 728 mem.length])
    simp at h0
    unfold makeF
    simp [h0]
  have i2 : (mem ++ [MO.adict [(Str.ofString "_algorithm", .obj 670)], .inst 728 mem.length, .adict [(nB, .ref (mem.length + 4)), (nP, .ref (mem.length + 5))], .inst 810 (mem.length + 2), .list [], .list []])[mem.length + 1]? = some (.inst 728 mem.length) := by simp
  have d2 : (mem ++ [MO.adict [(Str.ofString "_algorithm", .obj 670)], .inst 728 mem.length, .adict [(nB, .ref (mem.length + 4)), (nP, .ref (mem.length + 5))], .inst 810 (mem.length + 2), .list [], .list []])[mem.length]? = some (.adict [(Str.ofString "_algorithm", .obj 670)]) := by simp
  have hset2 := fun l => setAttr_at (cls := [728]) (l := l) (name := Str.ofString "_distance_comparer") (f := .ref (mem.length + 3)) i2 (by decide) d2 (by simp)
  have e3 : putF (Str.ofString "_distance_comparer") (.ref (mem.length + 3)) [(Str.ofString "_algorithm", .obj 670)] = [(Str.ofString "_algorithm", FV.obj 670), (Str.ofString "_distance_comparer", .ref (mem.length + 3))] := rfl
  simp only [e3] at hset2
  have hc := fun l mem' (h : l[1]? = some (some (PV.fl (.obj 670)))) => cmpObj_ap [668, 670, 676] 1 670 668 l mem' h (by decide) (by decide)
  have hc2 := fun l mem' (h : l[1]? = some (some (PV.fl (.obj 670)))) => cmpObj_ap [668, 670, 676] 1 670 670 l mem' h (by decide) (by decide)
  simp [getL_ap, setL_ap, cst_ap, binM_ap, cmpM_ap, andM_nil_ap, andM_cons_ap, orM_nil_ap, orM_cons_ap, iteM_ap, asg1_ap, asg2_ap, augM_ap, blkM_nil_ap, blkM_cons_ap, retM_ap, tupM_ap, seqM_nil_ap, seqM_cons_ap, flatL, subM_ap, subF_str, subF_list, setItemM_ap, setItemF_list, bltM_ap, blt_len_s, bin_add, bin_sub, cmp_eq_i, cmp_ne_i, cmp_lt_i, cmp_le_i, cmp_gt_i, cmp_ge_i, cmp_eq_c, cmp_ne_c, pd_True, pd_False, runM_ap, attrM_ap, intM_ap, binX_ap, asgSw_ap, tupTg_ap, setLs_nil_ap, setLs_cons_ap, setAttrM_ap, cmp_is_nn, cmp_is_sn, min_ints, hset, hset2, hc, hc2, hmk, retV]

theorem meter_new (sw : Bool) (mem : List MO) : ∃ own mem', makeF 728 edI_fm [.fl (.obj (if sw then 670 else 668))] mem = some (.fl (.ref (mem.length + 1)), mem') ∧ Meter sw (mem.length + 1) own mem' ∧ Frame [] own mem mem' := by
  cases sw with
  | false =>
    refine ⟨[mem.length + 2, mem.length + 4], memL mem, ?_, ⟨mem.length, mem.length + 3, .obj 668, by simp [memL], by simp [memL], .lev (b := mem.length + 4) ⟨by simp [memL], by simp [memL], [], by simp [memL], by simp⟩, by simp⟩, by simp [memL], fun j hj _ => List.getElem?_append_left hj, fun j hj => ?_⟩
    · unfold makeF
      have h0 := edI_lev mem
      simp [h0]
    · simp at hj; right; omega
  | true =>
    refine ⟨[mem.length + 2, mem.length + 4, mem.length + 5], memO2 mem, ?_, ⟨mem.length, mem.length + 3, .obj 670, by simp [memO2], by simp [memO2], .osa (b := mem.length + 4) ⟨by simp [memO2], by simp [memO2], by simp, [], [], by simp [memO2], by simp, by simp [memO2], rfl, fun k hk => absurd hk (Nat.not_lt_zero _)⟩, by simp⟩, by simp [memO2], fun j hj _ => List.getElem?_append_left hj, fun j hj => ?_⟩
    · unfold makeF
      have h0 := edI_osa mem
      simp [h0]
    · simp at hj; right; omega
end Mine

/-! CFn4 -/
namespace Mine

def trn_names : List Str := [Str.ofString "text", Str.ofString "x", Str.ofString "place", Str.ofString "sign", Str.ofString "head", Str.ofString "tail"]
def trn_body : List Stmt := stBody PySem.Challenge.pw_fe0312_02 22
def trn_scope : Scope := stScope PySem.Challenge.pw_fe0312_02 22
def trn_params : Arguments := stParams PySem.Challenge.pw_fe0312_02 22
noncomputable def trn_m   : Mo Fl :=
  (blkM [(asgSw (tupM [(binX .Mod (binX .FloorDiv (getL 1) (cst (.fl (.int 5)))) (binM .Add (bltM "len" [(getL 0)]) (cst (.fl (.int 1))))), (subM (cst (.fl (.str (Str.ofString "ab c")))) (binX .Mod (binX .FloorDiv (getL 1) (cst (.fl (.int 3)))) (cst (.fl (.int 4)))))]) [3, 2]),
  (asgSw (tupM [(sliceSM (getL 0) none (some (getL 2))), (sliceSM (getL 0) (some (getL 2)) none)]) [5, 4]),
  (iteM (cmpM .Eq (binX .Mod (getL 1) (cst (.fl (.int 5)))) (cst (.fl (.int 0)))) (blkM [(retM (sliceSM (addSM (addSM (getL 4) (getL 3)) (getL 5)) none (some (cst (.fl (.int 6))))))]) (blkM [])),
  (iteM (cmpM .Eq (binX .Mod (getL 1) (cst (.fl (.int 5)))) (cst (.fl (.int 1)))) (blkM [(retM (addSM (getL 4) (sliceSM (getL 5) (some (cst (.fl (.int 1)))) none)))]) (blkM [])),
  (iteM (cmpM .Eq (binX .Mod (getL 1) (cst (.fl (.int 5)))) (cst (.fl (.int 2)))) (blkM [(retM (sliceSM (addSM (addSM (getL 4) (getL 3)) (sliceSM (getL 5) (some (cst (.fl (.int 1)))) none)) none (some (cst (.fl (.int 6))))))]) (blkM [])),
  (iteM (cmpM .Eq (binX .Mod (getL 1) (cst (.fl (.int 5)))) (cst (.fl (.int 3)))) (blkM [(retM (addSM (addSM (addSM (getL 4) (sliceSM (getL 5) (some (cst (.fl (.int 1)))) (some (cst (.fl (.int 2)))))) (sliceSM (getL 5) none (some (cst (.fl (.int 1)))))) (sliceSM (getL 5) (some (cst (.fl (.int 2)))) none)))]) (blkM [])),
  (retM (addSM (getL 5) (getL 4)))])
theorem trn_ok {prog : Program} {w : World} {A : Around} {L gl blt : Addr} {cells : List (Str × Addr)} {qual : Str} {func frame : Option Addr} {code : Value} {s₀ : Shared} {mg mb : Str → Option Value} {K : Frag}  
    {C : Cx} (hC : C = ⟨prog, w, A, ⟨trn_scope, L, gl, cells, qual, func, code, frame, blt⟩, trn_names, s₀, mg, mb, K⟩) (O : C.Ok)(tx_signs : IsText C "_law_SIGNS" (Str.ofString "ab c")) (b_len : IsBuiltin C "len" (.builtin "len")) : EvB C trn_body (trn_m ) := by
  subst hC
  exact (EvB.cons (EvS.assignSw O (xs := [Str.ofString "place", Str.ofString "sign"]) (ks := [3, 2]) (EvE.tuple (EvEs.cons (EvE.binX (EvE.binX (EvE.loc O rfl (by decide)) EvE.int) (EvE.bin (EvE.blt O b_len (by decide) (EvEs.cons (EvE.loc O rfl (by decide)) rfl EvEs.nil) (List.cons_ne_nil _ _)) EvE.int)) rfl (EvEs.cons (EvE.sub (EvE.text O tx_signs (by decide)) (EvE.binX (EvE.binX (EvE.loc O rfl (by decide)) EvE.int) EvE.int) (fun _ _ => rfl)) rfl EvEs.nil))) (sw_hx rfl) rfl rfl rfl)
  (EvB.cons (EvS.assignSw O (xs := [Str.ofString "head", Str.ofString "tail"]) (ks := [5, 4]) (EvE.tuple (EvEs.cons (EvE.sliceS (EvE.loc O rfl (by decide)) EvO.none (EvO.some (EvE.loc O rfl (by decide)))) rfl (EvEs.cons (EvE.sliceS (EvE.loc O rfl (by decide)) (EvO.some (EvE.loc O rfl (by decide))) EvO.none) rfl EvEs.nil))) (sw_hx rfl) rfl rfl rfl)
  (EvB.cons (EvS.ite (EvT.cmp (EvE.binX (EvE.loc O rfl (by decide)) EvE.int) EvE.int rfl) (EvB.cons (EvS.ret (EvE.sliceS (EvE.addS (EvE.addS (EvE.loc O rfl (by decide)) (EvE.loc O rfl (by decide))) (EvE.loc O rfl (by decide))) EvO.none (EvO.some EvE.int)))
  EvB.nil) EvB.nil)
  (EvB.cons (EvS.ite (EvT.cmp (EvE.binX (EvE.loc O rfl (by decide)) EvE.int) EvE.int rfl) (EvB.cons (EvS.ret (EvE.addS (EvE.loc O rfl (by decide)) (EvE.sliceS (EvE.loc O rfl (by decide)) (EvO.some EvE.int) EvO.none)))
  EvB.nil) EvB.nil)
  (EvB.cons (EvS.ite (EvT.cmp (EvE.binX (EvE.loc O rfl (by decide)) EvE.int) EvE.int rfl) (EvB.cons (EvS.ret (EvE.sliceS (EvE.addS (EvE.addS (EvE.loc O rfl (by decide)) (EvE.loc O rfl (by decide))) (EvE.sliceS (EvE.loc O rfl (by decide)) (EvO.some EvE.int) EvO.none)) EvO.none (EvO.some EvE.int)))
  EvB.nil) EvB.nil)
  (EvB.cons (EvS.ite (EvT.cmp (EvE.binX (EvE.loc O rfl (by decide)) EvE.int) EvE.int rfl) (EvB.cons (EvS.ret (EvE.addS (EvE.addS (EvE.addS (EvE.loc O rfl (by decide)) (EvE.sliceS (EvE.loc O rfl (by decide)) (EvO.some EvE.int) (EvO.some EvE.int))) (EvE.sliceS (EvE.loc O rfl (by decide)) EvO.none (EvO.some EvE.int))) (EvE.sliceS (EvE.loc O rfl (by decide)) (EvO.some EvE.int) EvO.none)))
  EvB.nil) EvB.nil)
  (EvB.cons (EvS.ret (EvE.addS (EvE.loc O rfl (by decide)) (EvE.loc O rfl (by decide))))
  EvB.nil)))))))

def far_names : List Str := [Str.ofString "one", Str.ofString "two", Str.ofString "swaps", Str.ofString "far", Str.ofString "i", Str.ofString "j", Str.ofString "least"]
def far_body : List Stmt := stBody PySem.Challenge.pw_fe0312_02 23
def far_scope : Scope := stScope PySem.Challenge.pw_fe0312_02 23
def far_params : Arguments := stParams PySem.Challenge.pw_fe0312_02 23
noncomputable def far_m   : Mo Fl :=
  (blkM [(asg1 newPM (setL 3)),
  (forRangeSM [(bltM "len" [(getL 0)]), (cst (.fl (.int (-1)))), (cst (.fl (.int (-1))))] (setL 4) (blkM [(forRangeSM [(bltM "len" [(getL 1)]), (cst (.fl (.int (-1)))), (cst (.fl (.int (-1))))] (setL 5) (blkM [(iteM (orM [(cmpM .Eq (getL 4) (bltM "len" [(getL 0)])), (cmpM .Eq (getL 5) (bltM "len" [(getL 1)]))]) (blkM [(asg1 (binM .Sub (binM .Add (binM .Sub (bltM "len" [(getL 0)]) (getL 4)) (bltM "len" [(getL 1)])) (getL 5)) (pmSetM (getL 3) (tupM [(getL 4), (getL 5)]))),
  (fun st => some (.cont, st))]) (blkM [])),
  (asg1 (min3M [(binM .Add (pmGetM (getL 3) (tupM [(binM .Add (getL 4) (cst (.fl (.int 1)))), (getL 5)])) (cst (.fl (.int 1)))), (binM .Add (pmGetM (getL 3) (tupM [(getL 4), (binM .Add (getL 5) (cst (.fl (.int 1))))])) (cst (.fl (.int 1)))), (binM .Add (pmGetM (getL 3) (tupM [(binM .Add (getL 4) (cst (.fl (.int 1)))), (binM .Add (getL 5) (cst (.fl (.int 1))))])) (iteM (cmpM .Eq (subM (getL 0) (getL 4)) (subM (getL 1) (getL 5))) (cst (.fl (.int 0))) (cst (.fl (.int 1)))))]) (setL 6)),
  (iteM (andM [(boolM (getL 2)), (cmpM .Lt (binM .Add (getL 4) (cst (.fl (.int 1)))) (bltM "len" [(getL 0)])), (cmpM .Lt (binM .Add (getL 5) (cst (.fl (.int 1)))) (bltM "len" [(getL 1)])), (cmpM .Eq (subM (getL 0) (getL 4)) (subM (getL 1) (binM .Add (getL 5) (cst (.fl (.int 1)))))), (cmpM .Eq (subM (getL 0) (binM .Add (getL 4) (cst (.fl (.int 1))))) (subM (getL 1) (getL 5)))]) (blkM [(asg1 (bltM "min" [(getL 6), (binM .Add (pmGetM (getL 3) (tupM [(binM .Add (getL 4) (cst (.fl (.int 2)))), (binM .Add (getL 5) (cst (.fl (.int 2))))])) (cst (.fl (.int 1))))]) (setL 6))]) (blkM [])),
  (asg1 (getL 6) (pmSetM (getL 3) (tupM [(getL 4), (getL 5)])))]))])),
  (retM (pmGetM (getL 3) (tupM [(cst (.fl (.int 0))), (cst (.fl (.int 0)))])))])
theorem far_ok {prog : Program} {w : World} {A : Around} {L gl blt : Addr} {cells : List (Str × Addr)} {qual : Str} {func frame : Option Addr} {code : Value} {s₀ : Shared} {mg mb : Str → Option Value} {K : Frag}  
    {C : Cx} (hC : C = ⟨prog, w, A, ⟨far_scope, L, gl, cells, qual, func, code, frame, blt⟩, far_names, s₀, mg, mb, K⟩) (O : C.Ok) (b_range : IsBuiltin C "range" (.type "range")) (b_len : IsBuiltin C "len" (.builtin "len")) (b_min : IsBuiltin C "min" (.builtin "min")) : EvB C far_body (far_m ) := by
  subst hC
  exact (EvB.cons (EvS.assign EvE.dictNew (EvTg.name O rfl) rfl rfl rfl)
  (EvB.cons (EvS.forRangeS O b_range (EvEs.cons (EvE.blt O b_len (by decide) (EvEs.cons (EvE.loc O rfl (by decide)) rfl EvEs.nil) (List.cons_ne_nil _ _)) rfl (EvEs.cons EvE.neg rfl (EvEs.cons EvE.neg rfl EvEs.nil))) (List.cons_ne_nil _ _) (EvTg.name O rfl) (EvB.cons (EvS.forRangeS O b_range (EvEs.cons (EvE.blt O b_len (by decide) (EvEs.cons (EvE.loc O rfl (by decide)) rfl EvEs.nil) (List.cons_ne_nil _ _)) rfl (EvEs.cons EvE.neg rfl (EvEs.cons EvE.neg rfl EvEs.nil))) (List.cons_ne_nil _ _) (EvTg.name O rfl) (EvB.cons (EvS.ite (EvT.or (EvTs.cons (EvT.cmp (EvE.loc O rfl (by decide)) (EvE.blt O b_len (by decide) (EvEs.cons (EvE.loc O rfl (by decide)) rfl EvEs.nil) (List.cons_ne_nil _ _)) rfl) (EvTs.cons (EvT.cmp (EvE.loc O rfl (by decide)) (EvE.blt O b_len (by decide) (EvEs.cons (EvE.loc O rfl (by decide)) rfl EvEs.nil) (List.cons_ne_nil _ _)) rfl) EvTs.nil))) (EvB.cons (EvS.assign (EvE.bin (EvE.bin (EvE.bin (EvE.blt O b_len (by decide) (EvEs.cons (EvE.loc O rfl (by decide)) rfl EvEs.nil) (List.cons_ne_nil _ _)) (EvE.loc O rfl (by decide))) (EvE.blt O b_len (by decide) (EvEs.cons (EvE.loc O rfl (by decide)) rfl EvEs.nil) (List.cons_ne_nil _ _))) (EvE.loc O rfl (by decide))) (EvTg.pmSet O (EvE.loc O rfl (by decide)) (EvE.tuple (EvEs.cons (EvE.loc O rfl (by decide)) rfl (EvEs.cons (EvE.loc O rfl (by decide)) rfl EvEs.nil)))) rfl rfl rfl)
  (EvB.cons EvS.cont
  EvB.nil)) EvB.nil)
  (EvB.cons (EvS.assign (EvE.min3 O b_min (EvEs.cons (EvE.bin (EvE.pmGet O (EvE.loc O rfl (by decide)) (EvE.tuple (EvEs.cons (EvE.bin (EvE.loc O rfl (by decide)) EvE.int) rfl (EvEs.cons (EvE.loc O rfl (by decide)) rfl EvEs.nil))) (fun _ _ => rfl)) EvE.int) rfl (EvEs.cons (EvE.bin (EvE.pmGet O (EvE.loc O rfl (by decide)) (EvE.tuple (EvEs.cons (EvE.loc O rfl (by decide)) rfl (EvEs.cons (EvE.bin (EvE.loc O rfl (by decide)) EvE.int) rfl EvEs.nil))) (fun _ _ => rfl)) EvE.int) rfl (EvEs.cons (EvE.bin (EvE.pmGet O (EvE.loc O rfl (by decide)) (EvE.tuple (EvEs.cons (EvE.bin (EvE.loc O rfl (by decide)) EvE.int) rfl (EvEs.cons (EvE.bin (EvE.loc O rfl (by decide)) EvE.int) rfl EvEs.nil))) (fun _ _ => rfl)) (EvE.ifExp (EvT.cmp (EvE.sub (EvE.loc O rfl (by decide)) (EvE.loc O rfl (by decide)) (fun _ _ => rfl)) (EvE.sub (EvE.loc O rfl (by decide)) (EvE.loc O rfl (by decide)) (fun _ _ => rfl)) rfl) EvE.int EvE.int)) rfl EvEs.nil))) (List.cons_ne_nil _ _)) (EvTg.name O rfl) rfl rfl rfl)
  (EvB.cons (EvS.ite (EvT.and (EvTs.cons (EvT.bool (EvE.loc O rfl (by decide)) (fun _ => rfl)) (EvTs.cons (EvT.cmp (EvE.bin (EvE.loc O rfl (by decide)) EvE.int) (EvE.blt O b_len (by decide) (EvEs.cons (EvE.loc O rfl (by decide)) rfl EvEs.nil) (List.cons_ne_nil _ _)) rfl) (EvTs.cons (EvT.cmp (EvE.bin (EvE.loc O rfl (by decide)) EvE.int) (EvE.blt O b_len (by decide) (EvEs.cons (EvE.loc O rfl (by decide)) rfl EvEs.nil) (List.cons_ne_nil _ _)) rfl) (EvTs.cons (EvT.cmp (EvE.sub (EvE.loc O rfl (by decide)) (EvE.loc O rfl (by decide)) (fun _ _ => rfl)) (EvE.sub (EvE.loc O rfl (by decide)) (EvE.bin (EvE.loc O rfl (by decide)) EvE.int) (fun _ _ => rfl)) rfl) (EvTs.cons (EvT.cmp (EvE.sub (EvE.loc O rfl (by decide)) (EvE.bin (EvE.loc O rfl (by decide)) EvE.int) (fun _ _ => rfl)) (EvE.sub (EvE.loc O rfl (by decide)) (EvE.loc O rfl (by decide)) (fun _ _ => rfl)) rfl) EvTs.nil)))))) (EvB.cons (EvS.assign (EvE.blt O b_min (by decide) (EvEs.cons (EvE.loc O rfl (by decide)) rfl (EvEs.cons (EvE.bin (EvE.pmGet O (EvE.loc O rfl (by decide)) (EvE.tuple (EvEs.cons (EvE.bin (EvE.loc O rfl (by decide)) EvE.int) rfl (EvEs.cons (EvE.bin (EvE.loc O rfl (by decide)) EvE.int) rfl EvEs.nil))) (fun _ _ => rfl)) EvE.int) rfl EvEs.nil)) (List.cons_ne_nil _ _)) (EvTg.name O rfl) rfl rfl rfl)
  EvB.nil) EvB.nil)
  (EvB.cons (EvS.assign (EvE.loc O rfl (by decide)) (EvTg.pmSet O (EvE.loc O rfl (by decide)) (EvE.tuple (EvEs.cons (EvE.loc O rfl (by decide)) rfl (EvEs.cons (EvE.loc O rfl (by decide)) rfl EvEs.nil)))) rfl rfl rfl)
  EvB.nil)))) (fun _ _ => rfl) (fun _ => rfl))
  EvB.nil) (fun _ _ => rfl) (fun _ => rfl))
  (EvB.cons (EvS.ret (EvE.pmGet O (EvE.loc O rfl (by decide)) (EvE.tuple (EvEs.cons EvE.int rfl (EvEs.cons EvE.int rfl EvEs.nil))) (fun _ _ => rfl)))
  EvB.nil)))

def rfs_names : List Str := [Str.ofString "way", Str.ofString "own"]
def rfs_body : List Stmt := stBody PySem.Challenge.pw_fe0312_02 24
def rfs_scope : Scope := stScope PySem.Challenge.pw_fe0312_02 24
def rfs_params : Arguments := stParams PySem.Challenge.pw_fe0312_02 24

def law_names : List Str := [Str.ofString "script", Str.ofString "rows", Str.ofString "kept", Str.ofString "texts", Str.ofString "k", Str.ofString "group", Str.ofString "two", Str.ofString "x", Str.ofString "one", Str.ofString "which", Str.ofString "far", Str.ofString "bound", Str.ofString "got", Str.ofString "text", Str.ofString "alone", Str.ofString "great"]
def law_body : List Stmt := stBody PySem.Challenge.pw_fe0312_02 25
def law_scope : Scope := stScope PySem.Challenge.pw_fe0312_02 25
def law_params : Arguments := stParams PySem.Challenge.pw_fe0312_02 25
noncomputable def law_m (bs : Addr) (bx : List PV) (m_Lev : FM) (m_Osa : FM) (m_Ed2 : FM) (m_Ed : FM) (m_trn : FM) (m_far : FM) (t_compare : Addr → Option (Bool × FM)) (m_rfs : FM)  : Mo Fl :=
  (blkM [(asg1 (orLM (upToBM bs bx 15 (getL 0)) (listM [(cst (.fl (.int 8)))])) (setL 1)),
  (asg1 (listM [(runM [] [(cst (.fl (.obj 668)))] m_Ed), (runM [] [(cst (.fl (.obj 670)))] m_Ed), (runM [] [(cst (.fl (.obj 676))), (iteM (cmpM .Eq (binX .Mod (subM (getL 1) (cst (.fl (.int 0)))) (cst (.fl (.int 2)))) (cst (.fl (.int 1)))) (runM [] [] m_Lev) (runM [] [] m_Osa))] m_Ed2)]) (setL 2)),
  (asg1 (listM [(cst (.fl (.str (Str.ofString "ab c"))))]) (setL 3)),
  (forRangeSM [(cst (.fl (.int 0))), (bltM "len" [(getL 1)]), (cst (.fl (.int 5)))] (setL 4) (blkM [(asg1 (slice2M (getL 1) (getL 4) (binM .Add (getL 4) (cst (.fl (.int 5))))) (setL 5)),
  (asg1 (lastM (getL 3)) (setL 6)),
  (forListM 1000 (getL 5) (setL 7) (blkM [(asg1 (runM [] [(getL 6), (getL 7)] m_trn) (setL 6))])),
  (asg1 (subM (getL 3) (binX .Mod (binX .FloorDiv (subM (getL 5) (cst (.fl (.int 0)))) (cst (.fl (.int 11)))) (bltM "len" [(getL 3)]))) (setL 8)),
  (appM (getL 3) (getL 6)),
  (iteM (cmpM .Eq (binX .Mod (lastM (getL 5)) (cst (.fl (.int 2)))) (cst (.fl (.int 1)))) (blkM [(asgSw (tupM [(getL 6), (getL 8)]) [6, 8])]) (blkM [])),
  (asg1 (binX .Mod (binM .Add (subM (getL 5) (cst (.fl (.int 0)))) (binX .FloorDiv (getL 4) (cst (.fl (.int 5))))) (cst (.fl (.int 3)))) (setL 9)),
  (asg1 (runM [] [(getL 8), (getL 6), (orB [(ofB (cmpM .Eq (getL 9) (cst (.fl (.int 1))))), (andB [(ofB (cmpM .Eq (getL 9) (cst (.fl (.int 2))))), (ofB (cmpM .Eq (binX .Mod (subM (getL 1) (cst (.fl (.int 0)))) (cst (.fl (.int 2)))) (cst (.fl (.int 0)))))])])] m_far) (setL 10)),
  (forTupM (tupM [(binM .Sub (getL 10) (cst (.fl (.int 1)))), (subTM (tupM [(getL 10), (binM .Add (getL 10) (cst (.fl (.int 1)))), (binX .Pow (cst (.fl (.int 2))) (cst (.fl (.int 31))))]) (binX .Mod (lastM (getL 5)) (cst (.fl (.int 3))))), (binM .Sub (binX .Mod (binX .FloorDiv (subM (getL 5) (cst (.fl (.int 0)))) (cst (.fl (.int 3)))) (cst (.fl (.int 9)))) (cst (.fl (.int 2))))]) (setL 11) (blkM [(asg1 (methM t_compare (subM (getL 2) (getL 9)) "compare" [(getL 8), (getL 6), (getL 11)]) (setL 12)),
  (iteM (orM [(boolM (isiBoolM (getL 12))), (cmpM .NotEq (getL 12) (iteM (orM [(cmpM .LtE (getL 10) (getL 11)), (cmpM .Eq (getL 10) (cst (.fl (.int 0))))]) (getL 10) (cst (.fl (.int (-1))))))]) (blkM [(retM (cst (.fl (.bool false))))]) (blkM []))]))])),
  (asgSw (tupM [(lastM (getL 3)), (binX .Mod (subM (getL 1) (cst (.fl (.int 0)))) (cst (.fl (.int 9))))]) [11, 13]),
  (asg1 (iteM (cmpM .LtE (bltM "len" [(getL 13)]) (getL 11)) (bltM "len" [(getL 13)]) (cst (.fl (.int (-1))))) (setL 14)),
  (forListM 1000 (getL 2) (setL 8) (blkM [(iteM (orM [(cmpM .NotEq (methM t_compare (getL 8) "compare" [(cst (.fl .none)), (getL 13), (getL 11)]) (getL 14)), (cmpM .NotEq (methM t_compare (getL 8) "compare" [(getL 13), (cst (.fl .none)), (getL 11)]) (getL 14)), (cmpM .NotEq (methM t_compare (getL 8) "compare" [(cst (.fl .none)), (cst (.fl .none)), (getL 11)]) (cst (.fl (.int 0))))]) (blkM [(retM (cst (.fl (.bool false))))]) (blkM []))])),
  (asg1 (subTM (tupM [(cst (.fl (.int 8))), (cst (.fl (.int 9))), (binX .Pow (cst (.fl (.int 2))) (cst (.fl (.int 31))))]) (binX .Mod (subM (getL 1) (cst (.fl (.int 0)))) (cst (.fl (.int 3))))) (setL 15)),
  (retM (andB [(ofB (cmpM .Eq (methM t_compare (subM (getL 2) (binX .Mod (binX .FloorDiv (subM (getL 1) (cst (.fl (.int 0)))) (cst (.fl (.int 3)))) (cst (.fl (.int 3))))) "compare" [(sliceSM (mulSM (getL 13) (cst (.fl (.int 3)))) none (some (cst (.fl (.int 9))))), (mulSM (cst (.fl (.str (Str.ofString "d")))) (cst (.fl (.int 9)))), (getL 15)]) (iteM (cmpM .Gt (getL 15) (cst (.fl (.int 8)))) (cst (.fl (.int 9))) (cst (.fl (.int (-1))))))), (runM [] [(cst (.fl (.obj 676))), (cst (.fl .none))] m_rfs), (runM [] [(subM (getL 1) (cst (.fl (.int 0)))), (cst (.fl .none))] m_rfs), (runM [] [(cst (.fl (.obj 676))), (subM (getL 1) (cst (.fl (.int 0))))] m_rfs)]))])
theorem law_ok {prog : Program} {w : World} {A : Around} {L gl blt : Addr} {cells : List (Str × Addr)} {qual : Str} {func frame : Option Addr} {code : Value} {s₀ : Shared} {mg mb : Str → Option Value} {K : Frag} (bs : Addr) (bx : List PV) (m_Lev : FM) (m_Osa : FM) (m_Ed2 : FM) (m_Ed : FM) (m_trn : FM) (m_far : FM) (t_compare : Addr → Option (Bool × FM)) (m_rfs : FM) 
    {C : Cx} (hC : C = ⟨prog, w, A, ⟨law_scope, L, gl, cells, qual, func, code, frame, blt⟩, law_names, s₀, mg, mb, K⟩) (O : C.Ok)(h_base : BaseList C bs bx) (g_Levenshtein : IsGlobal C "Levenshtein" (.ref 770)) (k_Lev : keepIn C.K (.ref 770) = true) (F_Lev : Fun C (.ref 770) 0 m_Lev) (g_DamerauOsa : IsGlobal C "DamerauOsa" (.ref 810)) (k_Osa : keepIn C.K (.ref 810) = true) (F_Osa : Fun C (.ref 810) 0 m_Osa) (g_DistanceAlgorithm : IsGlobal C "DistanceAlgorithm" (.ref 643)) (en_read : readsIn C.K 643 (.ref 454) = true) (en_USER_PROVIDED : findCls C.K (.ref 643) (.ref 454) "USER_PROVIDED" = some (.val (.ref 676))) (g_EditDistance : IsGlobal C "EditDistance" (.ref 728)) (k_Ed : keepIn C.K (.ref 728) = true) (F_Ed2 : Fun C (.ref 728) 2 m_Ed2) (en_DAMERAU_OSA : findCls C.K (.ref 643) (.ref 454) "DAMERAU_OSA" = some (.val (.ref 670))) (F_Ed : Fun C (.ref 728) 1 m_Ed) (en_LEVENSHTEIN : findCls C.K (.ref 643) (.ref 454) "LEVENSHTEIN" = some (.val (.ref 668))) (g__law_turned : IsGlobal C "_law_turned" (.ref 819)) (k_trn : keepIn C.K (.ref 819) = true) (F_trn : Fun C (.ref 819) 2 m_trn) (g__law_far : IsGlobal C "_law_far" (.ref 826)) (k_far : keepIn C.K (.ref 826) = true) (F_far : Fun C (.ref 826) 3 m_far) (M_compare : ∀ cl b m, t_compare cl = some (b, m) → MethOk C cl "compare" 3 b m) (g__law_refused : IsGlobal C "_law_refused" (.ref 833)) (k_rfs : keepIn C.K (.ref 833) = true) (F_rfs : FunW C (.ref 833) 2 m_rfs) (b_range : IsBuiltin C "range" (.type "range")) (b_len : IsBuiltin C "len" (.builtin "len")) (b_isinstance : IsBuiltin C "isinstance" (.builtin "isinstance")) (b_bool : IsBuiltin C "bool" (.type "bool")) : EvB C law_body (law_m bs bx m_Lev m_Osa m_Ed2 m_Ed m_trn m_far t_compare m_rfs) := by
  subst hC
  exact (EvB.cons (EvS.assign (EvE.orL (EvE.upToB (n := 15) h_base (EvE.loc O rfl (by decide))) (EvE.list (EvEs.cons EvE.int rfl EvEs.nil))) (EvTg.name O rfl) rfl rfl rfl)
  (EvB.cons (EvS.assign (EvE.list (EvEs.cons (EvE.call O g_EditDistance (by decide) k_Ed F_Ed (EvEs.cons (EvE.clsAttr O g_DistanceAlgorithm (by decide) en_read en_LEVENSHTEIN) rfl EvEs.nil) rfl) rfl (EvEs.cons (EvE.call O g_EditDistance (by decide) k_Ed F_Ed (EvEs.cons (EvE.clsAttr O g_DistanceAlgorithm (by decide) en_read en_DAMERAU_OSA) rfl EvEs.nil) rfl) rfl (EvEs.cons (EvE.call O g_EditDistance (by decide) k_Ed F_Ed2 (EvEs.cons (EvE.clsAttr O g_DistanceAlgorithm (by decide) en_read en_USER_PROVIDED) rfl (EvEs.cons (EvE.ifExp (EvT.cmp (EvE.binX (EvE.sub (EvE.loc O rfl (by decide)) EvE.int (fun _ _ => rfl)) EvE.int) EvE.int rfl) (EvE.call O g_Levenshtein (by decide) k_Lev F_Lev EvEs.nil rfl) (EvE.call O g_DamerauOsa (by decide) k_Osa F_Osa EvEs.nil rfl)) rfl EvEs.nil)) rfl) rfl EvEs.nil)))) (EvTg.name O rfl) rfl rfl rfl)
  (EvB.cons (EvS.assign (EvE.list (EvEs.cons EvE.str rfl EvEs.nil)) (EvTg.name O rfl) rfl rfl rfl)
  (EvB.cons (EvS.forRangeS O b_range (EvEs.cons EvE.int rfl (EvEs.cons (EvE.blt O b_len (by decide) (EvEs.cons (EvE.loc O rfl (by decide)) rfl EvEs.nil) (List.cons_ne_nil _ _)) rfl (EvEs.cons EvE.int rfl EvEs.nil))) (List.cons_ne_nil _ _) (EvTg.name O rfl) (EvB.cons (EvS.assign (EvE.slice2 (EvE.loc O rfl (by decide)) (EvE.loc O rfl (by decide)) (EvE.bin (EvE.loc O rfl (by decide)) EvE.int)) (EvTg.name O rfl) rfl rfl rfl)
  (EvB.cons (EvS.assign (EvE.last (EvE.loc O rfl (by decide)) (fun _ _ => rfl)) (EvTg.name O rfl) rfl rfl rfl)
  (EvB.cons (EvS.forList O 1000 (EvE.loc O rfl (by decide)) (EvTg.name O rfl) (EvB.cons (EvS.assign (EvE.call O g__law_turned (by decide) k_trn F_trn (EvEs.cons (EvE.loc O rfl (by decide)) rfl (EvEs.cons (EvE.loc O rfl (by decide)) rfl EvEs.nil)) rfl) (EvTg.name O rfl) rfl rfl rfl)
  EvB.nil) (fun _ => GoOk.name) (fun _ => rfl))
  (EvB.cons (EvS.assign (EvE.sub (EvE.loc O rfl (by decide)) (EvE.binX (EvE.binX (EvE.sub (EvE.loc O rfl (by decide)) EvE.int (fun _ _ => rfl)) EvE.int) (EvE.blt O b_len (by decide) (EvEs.cons (EvE.loc O rfl (by decide)) rfl EvEs.nil) (List.cons_ne_nil _ _))) (fun _ _ => rfl)) (EvTg.name O rfl) rfl rfl rfl)
  (EvB.cons (EvS.append (EvE.loc O rfl (by decide)) (EvE.loc O rfl (by decide)) rfl rfl rfl rfl)
  (EvB.cons (EvS.ite (EvT.cmp (EvE.binX (EvE.last (EvE.loc O rfl (by decide)) (fun _ _ => rfl)) EvE.int) EvE.int rfl) (EvB.cons (EvS.assignSw O (xs := [Str.ofString "one", Str.ofString "two"]) (ks := [6, 8]) (EvE.tuple (EvEs.cons (EvE.loc O rfl (by decide)) rfl (EvEs.cons (EvE.loc O rfl (by decide)) rfl EvEs.nil))) (sw_hx rfl) rfl rfl rfl)
  EvB.nil) EvB.nil)
  (EvB.cons (EvS.assign (EvE.binX (EvE.bin (EvE.sub (EvE.loc O rfl (by decide)) EvE.int (fun _ _ => rfl)) (EvE.binX (EvE.loc O rfl (by decide)) EvE.int)) EvE.int) (EvTg.name O rfl) rfl rfl rfl)
  (EvB.cons (EvS.assign (EvE.call O g__law_far (by decide) k_far F_far (EvEs.cons (EvE.loc O rfl (by decide)) rfl (EvEs.cons (EvE.loc O rfl (by decide)) rfl (EvEs.cons (EvE.orB (EvL.cons (EvE.cmp (EvE.loc O rfl (by decide)) EvE.int rfl) (EvL.cons (EvE.andB (EvL.cons (EvE.cmp (EvE.loc O rfl (by decide)) EvE.int rfl) (EvL.cons (EvE.cmp (EvE.binX (EvE.sub (EvE.loc O rfl (by decide)) EvE.int (fun _ _ => rfl)) EvE.int) EvE.int rfl) EvL.nil))) EvL.nil))) rfl EvEs.nil))) rfl) (EvTg.name O rfl) rfl rfl rfl)
  (EvB.cons (EvS.forTup O (EvE.tuple (EvEs.cons (EvE.bin (EvE.loc O rfl (by decide)) EvE.int) rfl (EvEs.cons (EvE.subT (EvE.tuple (EvEs.cons (EvE.loc O rfl (by decide)) rfl (EvEs.cons (EvE.bin (EvE.loc O rfl (by decide)) EvE.int) rfl (EvEs.cons (EvE.binX EvE.int EvE.int) rfl EvEs.nil)))) (EvE.binX (EvE.last (EvE.loc O rfl (by decide)) (fun _ _ => rfl)) EvE.int) (fun _ _ => rfl)) rfl (EvEs.cons (EvE.bin (EvE.binX (EvE.binX (EvE.sub (EvE.loc O rfl (by decide)) EvE.int (fun _ _ => rfl)) EvE.int) EvE.int) EvE.int) rfl EvEs.nil)))) (EvTg.name O rfl) (EvB.cons (EvS.assign (EvE.meth O rfl M_compare (EvE.sub (EvE.loc O rfl (by decide)) (EvE.loc O rfl (by decide)) (fun _ _ => rfl)) (EvEs.cons (EvE.loc O rfl (by decide)) rfl (EvEs.cons (EvE.loc O rfl (by decide)) rfl (EvEs.cons (EvE.loc O rfl (by decide)) rfl EvEs.nil))) ⟨_, rfl⟩) (EvTg.name O rfl) rfl rfl rfl)
  (EvB.cons (EvS.ite (EvT.or (EvTs.cons (EvT.bool (EvE.isiBool O b_isinstance b_bool (EvE.loc O rfl (by decide)) rfl) (fun _ => rfl)) (EvTs.cons (EvT.cmp (EvE.loc O rfl (by decide)) (EvE.ifExp (EvT.or (EvTs.cons (EvT.cmp (EvE.loc O rfl (by decide)) (EvE.loc O rfl (by decide)) rfl) (EvTs.cons (EvT.cmp (EvE.loc O rfl (by decide)) EvE.int rfl) EvTs.nil))) (EvE.loc O rfl (by decide)) EvE.neg) rfl) EvTs.nil))) (EvB.cons (EvS.ret EvE.boolC)
  EvB.nil) EvB.nil)
  EvB.nil)) (fun _ _ => rfl) (fun _ => rfl))
  EvB.nil))))))))) (fun _ _ => rfl) (fun _ => rfl))
  (EvB.cons (EvS.assignSw O (xs := [Str.ofString "text", Str.ofString "bound"]) (ks := [11, 13]) (EvE.tuple (EvEs.cons (EvE.last (EvE.loc O rfl (by decide)) (fun _ _ => rfl)) rfl (EvEs.cons (EvE.binX (EvE.sub (EvE.loc O rfl (by decide)) EvE.int (fun _ _ => rfl)) EvE.int) rfl EvEs.nil))) (sw_hx rfl) rfl rfl rfl)
  (EvB.cons (EvS.assign (EvE.ifExp (EvT.cmp (EvE.blt O b_len (by decide) (EvEs.cons (EvE.loc O rfl (by decide)) rfl EvEs.nil) (List.cons_ne_nil _ _)) (EvE.loc O rfl (by decide)) rfl) (EvE.blt O b_len (by decide) (EvEs.cons (EvE.loc O rfl (by decide)) rfl EvEs.nil) (List.cons_ne_nil _ _)) EvE.neg) (EvTg.name O rfl) rfl rfl rfl)
  (EvB.cons (EvS.forList O 1000 (EvE.loc O rfl (by decide)) (EvTg.name O rfl) (EvB.cons (EvS.ite (EvT.or (EvTs.cons (EvT.cmp (EvE.meth O rfl M_compare (EvE.loc O rfl (by decide)) (EvEs.cons EvE.noneC rfl (EvEs.cons (EvE.loc O rfl (by decide)) rfl (EvEs.cons (EvE.loc O rfl (by decide)) rfl EvEs.nil))) ⟨_, rfl⟩) (EvE.loc O rfl (by decide)) rfl) (EvTs.cons (EvT.cmp (EvE.meth O rfl M_compare (EvE.loc O rfl (by decide)) (EvEs.cons (EvE.loc O rfl (by decide)) rfl (EvEs.cons EvE.noneC rfl (EvEs.cons (EvE.loc O rfl (by decide)) rfl EvEs.nil))) ⟨_, rfl⟩) (EvE.loc O rfl (by decide)) rfl) (EvTs.cons (EvT.cmp (EvE.meth O rfl M_compare (EvE.loc O rfl (by decide)) (EvEs.cons EvE.noneC rfl (EvEs.cons EvE.noneC rfl (EvEs.cons (EvE.loc O rfl (by decide)) rfl EvEs.nil))) ⟨_, rfl⟩) EvE.int rfl) EvTs.nil)))) (EvB.cons (EvS.ret EvE.boolC)
  EvB.nil) EvB.nil)
  EvB.nil) (fun _ => GoOk.name) (fun _ => rfl))
  (EvB.cons (EvS.assign (EvE.subT (EvE.tuple (EvEs.cons EvE.int rfl (EvEs.cons EvE.int rfl (EvEs.cons (EvE.binX EvE.int EvE.int) rfl EvEs.nil)))) (EvE.binX (EvE.sub (EvE.loc O rfl (by decide)) EvE.int (fun _ _ => rfl)) EvE.int) (fun _ _ => rfl)) (EvTg.name O rfl) rfl rfl rfl)
  (EvB.cons (EvS.retW (EvW.andB (EvWL.cons (EvW.of (EvE.cmp (EvE.meth O rfl M_compare (EvE.sub (EvE.loc O rfl (by decide)) (EvE.binX (EvE.binX (EvE.sub (EvE.loc O rfl (by decide)) EvE.int (fun _ _ => rfl)) EvE.int) EvE.int) (fun _ _ => rfl)) (EvEs.cons (EvE.sliceS (EvE.mulS (EvE.loc O rfl (by decide)) EvE.int) EvO.none (EvO.some EvE.int)) rfl (EvEs.cons (EvE.mulS EvE.str EvE.int) rfl (EvEs.cons (EvE.loc O rfl (by decide)) rfl EvEs.nil))) ⟨_, rfl⟩) (EvE.ifExp (EvT.cmp (EvE.loc O rfl (by decide)) EvE.int rfl) EvE.int EvE.neg) rfl)) (EvWL.cons (EvW.call O g__law_refused (by decide) k_rfs F_rfs (EvEs.cons (EvE.clsAttr O g_DistanceAlgorithm (by decide) en_read en_USER_PROVIDED) rfl (EvEs.cons EvE.noneC rfl EvEs.nil)) rfl) (EvWL.cons (EvW.call O g__law_refused (by decide) k_rfs F_rfs (EvEs.cons (EvE.sub (EvE.loc O rfl (by decide)) EvE.int (fun _ _ => rfl)) rfl (EvEs.cons EvE.noneC rfl EvEs.nil)) rfl) (EvWL.cons (EvW.call O g__law_refused (by decide) k_rfs F_rfs (EvEs.cons (EvE.clsAttr O g_DistanceAlgorithm (by decide) en_read en_USER_PROVIDED) rfl (EvEs.cons (EvE.sub (EvE.loc O rfl (by decide)) EvE.int (fun _ _ => rfl)) rfl EvEs.nil)) rfl) EvWL.nil))))))
  EvB.nil)))))))))

end Mine

/-! CFn5 -/
namespace Mine

structure Facts2 (K : Frag) (mg mb : Str → Option Value) : Prop where
  tx_signs : ∃ t, mg "_law_SIGNS" = some (.str (Str.ofString "ab c") t)
  g__law_turned : mg "_law_turned" = some (.ref 819)
  f_trn : FnIn K 819 "_law_turned" "_law_turned" trn_params trn_body trn_scope .none
  k_trn : keepIn K (.ref 819) = true
  g__law_far : mg "_law_far" = some (.ref 826)
  f_far : FnIn K 826 "_law_far" "_law_far" far_params far_body far_scope .none
  k_far : keepIn K (.ref 826) = true
  g__law_refused : mg "_law_refused" = some (.ref 833)
  f_rfs : FnIn K 833 "_law_refused" "_law_refused" rfs_params rfs_body rfs_scope .none
  k_rfs : keepIn K (.ref 833) = true

theorem Sub.facts2 {C C' : Cx} {fd a names} (S : Sub C C' fd a names) (FA : Facts2 C.K C.mg C.mb) : Facts2 C'.K C'.mg C'.mb := by rw [S.K, S.mg, S.mb]; exact FA

theorem const_hB {C : Cx} {a : Addr} {names : List Str} {cells : List PV → List (Str × FV)} {scope : Scope} {body : List Stmt} {m : Mo Fl} (h : ∀ C : Cx, EvB C body m) : ∀ (vs : List PV) C' fd, Sub C C' fd a names → fd.scope = scope → fd.globals = mainGlobals → fd.builtins = builtinsNs → (∀ x f, (x, f) ∈ cells vs → IsCellVar C' x f) → EvB C' body m := fun _ C' _ _ _ _ _ _ => h C'

noncomputable def trn_mm (vs : List PV) : Mo Fl := trn_m
def trn_lp (vs : List PV) : List (Option PV) := match vs with | [v0, v1] => [some v0, some v1, none, none, none, none] | _ => []
def trn_cells (vs : List PV) : List (Str × FV) := []
noncomputable def trn_fm : FM := fun vs mem => (trn_mm vs ⟨trn_lp vs, mem⟩).map fun r => (retV r.1, r.2.mem)

theorem trn_fun {C : Cx} (O : C.Ok) (B : Base C) (rm : Room C 0) (FA : Facts C.K C.mg C.mb) (FB : Facts2 C.K C.mg C.mb) : CodeFun C (.ref 819) 2 trn_fm := by
  refine fn_fun O rm B FB.f_trn rfl rfl rfl (names := trn_names) (cells := trn_cells) (m := trn_mm) (lp := trn_lp) (by decide +kernel) (by decide +kernel) ?_ ?_
  · intro vs C' fd S hs hg hb hc
    obtain ⟨gl, cells, qual, func, code, frame, blt, he⟩ := S.form hs
    have hC := Cx.form he S.names
    have O' := S.ok
    have FA' := S.facts FA
    have B' := S.base hg hb
    exact trn_ok  hC O' ⟨by rw [S.env]; show fd.scope.names.lookup _ = _; rw [hs]; decide +kernel, by rw [S.mg]; exact FB.tx_signs⟩ (S.builtin hs (by decide +kernel) FA.b_len)
  · intro fd e1 e2 e3 e4 φ s cvs vs X r hn
    obtain ⟨name, qn, ps, bd, sc, gl, clo, df, kd, doc, pm, an, cd, ct, bl⟩ := fd
    dsimp only at e1 e2 e3 e4
    subst e1; subst e2; subst e3; subst e4
    obtain ⟨c0, cs0, v0, vs0, rfl, rfl, r0, r, hn⟩ := r.cons_inv hn
    obtain ⟨c1, cs1, v1, vs1, rfl, rfl, r1, r, hn⟩ := r.cons_inv hn
    obtain ⟨rfl, rfl⟩ := r.nil_inv hn
    refine ⟨[("text", c0), ("x", c1)], BindsTo.of_eq (by rfl), fun n => kindsX (by rfl) (n + 1), ⟨_, rfl, ?_⟩, fun _ _ h => nomatch h⟩
    exact (.cons r0 (.cons r1 (.skip (.skip (.skip (.skip .nil))))))

noncomputable def far_mm (vs : List PV) : Mo Fl := far_m
def far_lp (vs : List PV) : List (Option PV) := match vs with | [v0, v1, v2] => [some v0, some v1, some v2, none, none, none, none] | _ => []
def far_cells (vs : List PV) : List (Str × FV) := []
noncomputable def far_fm : FM := fun vs mem => (far_mm vs ⟨far_lp vs, mem⟩).map fun r => (retV r.1, r.2.mem)

theorem far_fun {C : Cx} (O : C.Ok) (B : Base C) (rm : Room C 0) (FA : Facts C.K C.mg C.mb) (FB : Facts2 C.K C.mg C.mb) : CodeFun C (.ref 826) 3 far_fm := by
  refine fn_fun O rm B FB.f_far rfl rfl rfl (names := far_names) (cells := far_cells) (m := far_mm) (lp := far_lp) (by decide +kernel) (by decide +kernel) ?_ ?_
  · intro vs C' fd S hs hg hb hc
    obtain ⟨gl, cells, qual, func, code, frame, blt, he⟩ := S.form hs
    have hC := Cx.form he S.names
    have O' := S.ok
    have FA' := S.facts FA
    have B' := S.base hg hb
    exact far_ok  hC O' (S.builtin hs (by decide +kernel) FA.b_range) (S.builtin hs (by decide +kernel) FA.b_len) (S.builtin hs (by decide +kernel) FA.b_min)
  · intro fd e1 e2 e3 e4 φ s cvs vs X r hn
    obtain ⟨name, qn, ps, bd, sc, gl, clo, df, kd, doc, pm, an, cd, ct, bl⟩ := fd
    dsimp only at e1 e2 e3 e4
    subst e1; subst e2; subst e3; subst e4
    obtain ⟨c0, cs0, v0, vs0, rfl, rfl, r0, r, hn⟩ := r.cons_inv hn
    obtain ⟨c1, cs1, v1, vs1, rfl, rfl, r1, r, hn⟩ := r.cons_inv hn
    obtain ⟨c2, cs2, v2, vs2, rfl, rfl, r2, r, hn⟩ := r.cons_inv hn
    obtain ⟨rfl, rfl⟩ := r.nil_inv hn
    refine ⟨[("one", c0), ("two", c1), ("swaps", c2)], BindsTo.of_eq (by rfl), fun n => kindsX (by rfl) (n + 1), ⟨_, rfl, ?_⟩, fun _ _ h => nomatch h⟩
    exact (.cons r0 (.cons r1 (.cons r2 (.skip (.skip (.skip (.skip .nil)))))))

end Mine

/-! CEf -/
namespace Mine

/-! a member's value, by the text's own descriptor -/
def efg_names : List Str := [Str.ofString "self", Str.ofString "instance", Str.ofString "ownerclass"]
def efg_body : List Stmt := clBody PySem.Challenge.pw_fe0312_02 11 1
def efg_scope : Scope := clScope PySem.Challenge.pw_fe0312_02 11 1
def efg_params : Arguments := clParams PySem.Challenge.pw_fe0312_02 11 1
def efN (a : Addr) : Option FV := if a = 613 then some (.str (Str.ofString "value")) else none
def efV (a : Addr) : Option FV := if a = 676 then some (.int 4) else none
noncomputable def efg_m : Mo Fl :=
  blkM [(iteM (isNoneM (getL 1)) (blkM [(fun _ => none)]) (blkM [])), (iteM (cmpM .Eq (attrObjM efN (getL 0)) (cst (.fl (.str (Str.ofString "name"))))) (blkM [(fun _ => none)]) (blkM [])), (retM (attrObjM efV (getL 1)))]
theorem efg_ok {prog : Program} {w : World} {A : Around} {L gl blt : Addr} {cells : List (Str × Addr)} {qual : Str} {func frame : Option Addr} {code : Value} {s₀ : Shared} {mg mb : Str → Option Value} {K : Frag}
    {C : Cx} (hC : C = ⟨prog, w, A, ⟨efg_scope, L, gl, cells, qual, func, code, frame, blt⟩, efg_names, s₀, mg, mb, K⟩) (O : C.Ok)
    (hN : BaseAttr C.K 613 "name" (.str (Str.ofString "value"))) (hV : BaseAttr C.K 676 "_value_" (.int 4)) : EvB C efg_body efg_m := by
  subst hC
  have h1 : ∀ a f, efN a = some f → BaseAttr K a "name" f := fun a f h => by
    unfold efN at h
    split at h
    · rename_i e; cases h; subst e; exact hN
    · cases h
  have h2 : ∀ a f, efV a = some f → BaseAttr K a "_value_" f := fun a f h => by
    unfold efV at h
    split at h
    · rename_i e; cases h; subst e; exact hV
    · cases h
  exact EvB.cons (EvS.ite (EvT.isNone (EvE.loc O rfl (by decide))) (EvB.cons EvS.no EvB.nil) EvB.nil)
    (EvB.cons (EvS.ite (EvT.cmp (EvE.attrObj O (EvE.loc O rfl (by decide)) h1) EvE.str rfl) (EvB.cons EvS.no EvB.nil) EvB.nil)
    (EvB.cons (EvS.ret (EvE.attrObj O (EvE.loc O rfl (by decide)) h2)) EvB.nil))

structure Facts3 (K : Frag) (mg mb : Str → Option Value) : Prop where
  b_ValueError : mg "ValueError" = none ∧ mb "ValueError" = some (.type "ValueError")
  f_efg : FnIn K 479 "__get__" "_EnumField.__get__" efg_params efg_body efg_scope (.ref 472)
  d_efg : ∃ oc od n sl, K.lookup 472 = some ⟨oc, od, .seq #[.none] n, sl⟩
  an : BaseAttr K 613 "name" (.str (Str.ofString "value"))
  av : BaseAttr K 676 "_value_" (.int 4)
  dv : ∃ dx sl od, K.lookup 676 = some ⟨.ref 643, some dx, .plain, sl⟩ ∧ K.lookup dx = some od ∧ findObj K 643 (some od) "value" = some (.bind (.ref 479) (.ref 613))
  dg : findIn K (.ref 643) "__getattribute__" = some (some (.builtin "object.__getattribute__"))
  dn : findIn K (.ref 643) "__getattr__" = some none
  mi : mroIn K 643 (.type "int") = some false
  nI : isNotIn K "int" 52 = true
  nN : isNotIn K "NoneType" 52 = true

noncomputable def efg_mm (vs : List PV) : Mo Fl := efg_m
def efg_lp (vs : List PV) : List (Option PV) := match vs with | [v0, v1, v2] => [some v0, some v1, some v2] | _ => []
def efg_cells (vs : List PV) : List (Str × FV) := []
noncomputable def efg_fm : FM := fun vs mem => (efg_mm vs ⟨efg_lp vs, mem⟩).map fun r => (retV r.1, r.2.mem)
theorem efg_fun {C : Cx} (O : C.Ok) (B : Base C) (rm : Room C 0) (FC : Facts3 C.K C.mg C.mb) : CodeFun C (.ref 479) 3 efg_fm := by
  refine fn_fun O rm B FC.f_efg rfl rfl rfl (names := efg_names) (cells := efg_cells) (m := efg_mm) (lp := efg_lp) (by decide +kernel) (by decide +kernel) ?_ ?_
  · intro vs C' fd S hs hg hb hc
    obtain ⟨gl, cells, qual, func, code, frame, blt, he⟩ := S.form hs
    have hC := Cx.form he S.names
    exact efg_ok hC S.ok (by rw [S.K]; exact FC.an) (by rw [S.K]; exact FC.av)
  · intro fd e1 e2 e3 e4 φ s cvs vs X r hn
    obtain ⟨name, qn, ps, bd, sc, gl, clo, df, kd, doc, pm, an, cd, ct, bl⟩ := fd
    dsimp only at e1 e2 e3 e4
    subst e1; subst e2; subst e3; subst e4
    obtain ⟨c0, cs0, v0, vs0, rfl, rfl, r0, r, hn⟩ := r.cons_inv hn
    obtain ⟨c1, cs1, v1, vs1, rfl, rfl, r1, r, hn⟩ := r.cons_inv hn
    obtain ⟨c2, cs2, v2, vs2, rfl, rfl, r2, r, hn⟩ := r.cons_inv hn
    obtain ⟨rfl, rfl⟩ := r.nil_inv hn
    obtain ⟨oc, od, dn, sl, hd⟩ := FC.d_efg
    refine ⟨[("self", c0), ("instance", c1), ("ownerclass", c2)], BindsTo.of_defaults (items := #[.none]) (n := dn) rfl (X _ _ hd) rfl (by rfl) (by rfl), fun n => kindsX (by rfl) (n + 1), ⟨_, rfl, ?_⟩, fun _ _ h => nomatch h⟩
    exact (.cons r0 (.cons r1 (.cons r2 .nil)))
theorem efg_val (mem : List MO) : efg_fm [.fl (.obj 613), .fl (.obj 676), .fl (.obj 643)] mem = some (.fl (.int 4), mem) := by rfl
theorem efg_descr {C : Cx} (O : C.Ok) (B : Base C) (rm : Room C 0) (FC : Facts3 C.K C.mg C.mb) : DescrAttr C 676 "value" 479 613 643 (.int 4) efg_fm :=
  ⟨FC.dv, FC.dg, FC.dn, efg_fun O B rm FC, efg_val, rfl⟩

/-! the making that is refused -/
noncomputable def edX_x : XM :=
  xCons (asg1 (getL 1) (setAttrM [728] (getL 0) "_algorithm")) (xIte (cmpObj2M [668, 670, 676] (getL 1) (cst (.fl (.obj 668)))) xNo (xIte (cmpObj2M [668, 670, 676] (getL 1) (cst (.fl (.obj 670)))) xNo
    (xIte (cmpObj2M [668, 670, 676] (getL 1) (cst (.fl (.obj 676)))) (xIte (notM (boolM (isiNoM (getL 2)))) (xRaise (joinedM (Str.ofString " selected but no comparer passed in.") (attrDM 676 (.int 4) (getL 1)))) xNo)
      (xRaise (cst (.fl (.str (Str.ofString "unknown distance algorithm"))))))))
theorem edX_ok {prog : Program} {w : World} {A : Around} {L gl blt : Addr} {cells : List (Str × Addr)} {qual : Str} {func frame : Option Addr} {code : Value} {s₀ : Shared} {mg mb : Str → Option Value} {K : Frag}
    {C : Cx} (hC : C = ⟨prog, w, A, ⟨edI_scope, L, gl, cells, qual, func, code, frame, blt⟩, edI_names, s₀, mg, mb, K⟩) (O : C.Ok) (st__algorithm : ∀ cl ∈ ([728] : List Addr), StoreOk C.K cl "_algorithm") (g_DistanceAlgorithm : IsGlobal C "DistanceAlgorithm" (.ref 643)) (en_read : readsIn C.K 643 (.ref 454) = true) (en_LEVENSHTEIN : findCls C.K (.ref 643) (.ref 454) "LEVENSHTEIN" = some (.val (.ref 668))) (en_eq : SelfEq C.K 643) (en_mem : ∀ a ∈ ([668, 670, 676] : List Addr), Member C.K 643 a)
    (en_DAMERAU_OSA : findCls C.K (.ref 643) (.ref 454) "DAMERAU_OSA" = some (.val (.ref 670))) (en_USER_PROVIDED : findCls C.K (.ref 643) (.ref 454) "USER_PROVIDED" = some (.val (.ref 676))) (g_AbstractDistanceComparer : IsGlobal C "AbstractDistanceComparer" (.ref 52))
    (b_isinstance : IsBuiltin C "isinstance" (.builtin "isinstance")) (b_ValueError : IsBuiltin C "ValueError" (.type "ValueError")) (mi : mroIn C.K 643 (.type "int") = some false) (nI : isNotIn C.K "int" 52 = true) (nN : isNotIn C.K "NoneType" 52 = true)
    (D : DescrAttr C 676 "value" 479 613 643 (.int 4) efg_fm) : EvXB C edI_body edX_x := by
  subst hC
  exact EvXB.next (EvS.assign (EvE.loc O rfl (by decide)) (EvTg.attr O (EvE.loc O rfl (by decide)) st__algorithm) rfl rfl rfl)
    (EvXB.here (EvXS.ite (EvT.cmpObj2 O en_eq mi en_mem (EvE.loc O rfl (by decide)) (EvE.clsAttr O g_DistanceAlgorithm (by decide) en_read en_LEVENSHTEIN) rfl) EvXB.no
    (EvXB.here (EvXS.ite (EvT.cmpObj2 O en_eq mi en_mem (EvE.loc O rfl (by decide)) (EvE.clsAttr O g_DistanceAlgorithm (by decide) en_read en_DAMERAU_OSA) rfl) EvXB.no
    (EvXB.here (EvXS.ite (EvT.cmpObj2 O en_eq mi en_mem (EvE.loc O rfl (by decide)) (EvE.clsAttr O g_DistanceAlgorithm (by decide) en_read en_USER_PROVIDED) rfl)
      (EvXB.here (EvXS.ite (EvT.not (EvT.bool (EvE.isiNo O b_isinstance g_AbstractDistanceComparer (by decide) (EvE.loc O rfl (by decide)) nI nN rfl) (fun _ => rfl))) (EvXB.here (EvXS.raise O b_ValueError (EvE.joined (EvE.attrD O (EvE.loc O rfl (by decide)) D)) rfl)) EvXB.no))
      (EvXB.here (EvXS.raise O b_ValueError EvE.str rfl))))))))
noncomputable def edX_f : XF := fun vs mem => edX_x ⟨edJ_lp vs, mem⟩
theorem kinds_of {sc : List (Str × NameKind)} {binds : List (Str × Value)} (h : (binds.map (·.1)).all (fun x => sc.lookup x == some .local) = true) : ∀ x ∈ binds, sc.lookup x.1 = some .local :=
  fun x hx => by have := List.all_eq_true.mp h x.1 (List.mem_map_of_mem hx); simpa using this
theorem edX_fun {C : Cx} (O : C.Ok) (B : Base C) (rm : Room C 1) (FA : Facts C.K C.mg C.mb) (FC : Facts3 C.K C.mg C.mb) : CodeX C (.ref 718) 3 edX_f := by
  intro Bd h1 h2 h3 l hfr φ st s cvs vs R r hn hx hl hlφ
  obtain ⟨oc, od, kV, doc, pm, an, cdv, ct, osl, hlk, hc⟩ := FA.f_edI
  have D : DefAt C 718 (fnOf "__init__" "EditDistance.__init__" edI_params edI_body edI_scope (.ref 711) kV doc pm an cdv ct) edI_body := ⟨⟨_, O.kin _ _ hlk, rfl⟩, codeRec_of O.kin hc, rfl, rfl, B.g.symm, B.b.symm, rfl, rfl, rfl⟩
  obtain ⟨c0, cs0, v0, vs0, rfl, rfl, r0, r, hn⟩ := r.cons_inv hn
  obtain ⟨c1, cs1, v1, vs1, rfl, rfl, r1, r, hn⟩ := r.cons_inv hn
  obtain ⟨c2, cs2, v2, vs2, rfl, rfl, r2, r, hn⟩ := r.cons_inv hn
  obtain ⟨rfl, rfl⟩ := r.nil_inv hn
  obtain ⟨oc', od', dn, sl', hd⟩ := FA.d_edI
  refine code_raise O (by have := rm.d; omega) (by have := rm.u; omega) h1 h2 h3 D (names := edI_names) (x := edX_x) (binds := [("self", c0), ("algorithm", c1), ("comparer", c2)]) (fun C' O' q1 q2 q3 q4 q5 q6 q7 q8 q9 q10 => ?_) (by decide +kernel) (show ∀ x ∈ edI_names, edI_scope.names.lookup x = some .local by decide +kernel) (show ∀ x ∈ edI_scope.names, x.2 ≠ .cell by decide +kernel)
    (kinds_of (by rfl)) R (BindsTo.of_defaults (items := #[.none]) (n := dn) rfl ((O.kin.keeps R.keep) _ _ hd) rfl (by rfl) (by rfl)) rfl (.cons r0 (.cons r1 (.cons r2 .nil))) hx hfr hl hlφ
  have S : Sub C C' (fnOf "__init__" "EditDistance.__init__" edI_params edI_body edI_scope (.ref 711) kV doc pm an cdv ct) 718 edI_names := ⟨O', q1, q2, q3, q4, q5, q6, q7, q8, q9, q10⟩
  obtain ⟨gl, cells, qual, func, code, frame, blt, he⟩ := S.form rfl
  have hC := Cx.form he S.names
  have FA' := S.facts FA
  have FC' : Facts3 C'.K C'.mg C'.mb := by rw [S.K, S.mg, S.mb]; exact FC
  have B' := S.base rfl rfl
  have rm' : Room C' 0 := S.room rm
  exact edX_ok hC O' (fun cl h => by rw [List.mem_singleton.mp h]; exact FA'.st_728_algorithm) (S.global (scope := edI_scope) rfl (by decide +kernel) FA.g_DistanceAlgorithm) FA'.en_read FA'.en_LEVENSHTEIN FA'.en_eq FA'.en_mem FA'.en_DAMERAU_OSA FA'.en_USER_PROVIDED
    (S.global (scope := edI_scope) rfl (by decide +kernel) FA.g_AbstractDistanceComparer) (S.builtin (scope := edI_scope) rfl (by decide +kernel) FA.b_isinstance) (S.builtin (scope := edI_scope) rfl (by decide +kernel) FC.b_ValueError) FC'.mi FC'.nI FC'.nN (efg_descr O' B' rm' FC')
theorem edX_none : edX_f [.fl (.ref 1), .fl (.obj 676), .fl .none] [.adict [], .inst 728 0] = some () := by rfl
theorem edX_int (n : Int) : edX_f [.fl (.ref 1), .fl (.obj 676), .fl (.int n)] [.adict [], .inst 728 0] = some () := by rfl
theorem edX_way (n : Int) : edX_f [.fl (.ref 1), .fl (.int n), .fl .none] [.adict [], .inst 728 0] = some () := by rfl
end Mine

/-! CRf -/
namespace Mine

theorem Rep.turned {C : Cx} {φ : List Addr} {st : St} {s : Shared} (R : Rep C φ st s) (hL : C.s₀.heap.get? C.env.locals = none) {h' : Heap} {tk : Nat} (hk : ∀ b o, s.heap.get? b = some o → b ≠ C.env.locals → h'.get? b = some o) (hn : ∀ m, s.heap.Ns C.env.locals m → h'.Ns C.env.locals m) :
    Rep C φ st { s with heap := h', toks := tk } ∧ Ext C φ s.heap φ h' := by
  have K : Keep s.heap h' := by
    obtain ⟨m, ⟨oL, es, ep, q1, q2, _⟩, _⟩ := R.loc
    refine Keep.but (· = C.env.locals) (fun b o hb e => hk b o e hb) fun b items hb x => ?_
    subst hb
    obtain ⟨o, e1, _, n, e2⟩ := x
    rw [q1] at e1
    cases e1
    rw [q2] at e2
    cases e2
  have hkk : ∀ b o, C.s₀.heap.get? b = some o → h'.get? b = some o := fun b o e => hk b o (R.keep b o e) fun q => by
    subst q
    rw [hL] at e
    cases e
  refine ⟨⟨let ⟨_, _, e⟩ := R.same; ⟨h', tk, by rw [e]⟩, hkk, R.len, ?_, R.nd, R.memlen, fun k mo b e1 e2 => ?_, R.fresh⟩, ⟨List.prefix_rfl, K, fun b o _ h2 e => hk b o e h2, fun _ a b => absurd a b⟩⟩
  · obtain ⟨m, hns, hm⟩ := R.loc
    exact ⟨m, hn m hns, fun k x pv e1 e2 => let ⟨v, e, r⟩ := hm k x pv e1 e2; ⟨v, e, r.mono (pre_refl _) K⟩⟩
  · exact (R.mem k mo b e1 e2).mono (pre_refl _) K fun o e => hk b o e (R.fresh b (List.mem_of_getElem? e2)).2

theorem rfs_shape : ∃ (p1 p2 p3 p4 p5 p6 p7 p8 p9 p10 p11 p12 : Pos) (k1 k2 : Nat), rfs_body =
    [.Try [.Expr (.Call (.Name "EditDistance" p1) [.Name "way" p2, .Name "own" p3] [] p4) p5] [.ExceptHandler (some (.Name "ValueError" p6)) none [.Return (some (.Constant (.bool true) k1 p7)) p8] p9] [] [] p10, .Return (some (.Constant (.bool false) k2 p12)) p11] := ⟨_, _, _, _, _, _, _, _, _, _, _, _, _, _, rfl⟩

theorem rfs_core {C : Cx} (O : C.Ok) (B : Base C) (rm : Room C 2) (FA : Facts C.K C.mg C.mb) (FB : Facts2 C.K C.mg C.mb) (FC : Facts3 C.K C.mg C.mb) (hfr : C.A.frames = some [C.env]) (hfe : C.env.frame = some C.env.locals)
    {φ : List Addr} {st : St} {s : Shared} (R : Rep C φ st s) {c1 c2 : Value} {v1 v2 : PV} (r1 : ∀ h, RV [] h c1 v1) (r2 : ∀ h, RV [] h c2 v2) (hx : edX_f [.fl (.ref 1), v1, v2] [.adict [], .inst 728 0] = some ()) :
    wpAny C.M C.A (PySem.call (.ref 833) [c1, c2]) (PostW C φ s.heap st (.fl (.bool true))) noE s := by
  obtain ⟨oc, od, kV, doc, pm, an, cdv, ct, osl, hlk, hc⟩ := FB.f_rfs
  have X := O.kin.keeps R.keep
  refine wpAny_call (codeAny_call_def (fd := fnOf "_law_refused" "_law_refused" rfs_params rfs_body rfs_scope .none kV doc pm an cdv ct) (body := rfs_body) (binds := [("way", c1), ("own", c2)]) (by have := rm.d; omega) (X _ _ hlk) rfl (O.nolimit.keeps R.keep) (codeRec_of X hc) rfl
    (BindsTo.of_eq (by rfl)) (show ∀ x ∈ rfs_scope.names, x.2 ≠ .cell by decide +kernel) (kinds_of (by rfl)) (fun h₁ hns hk₁ => ?_))
  let fd := fnOf "_law_refused" "_law_refused" rfs_params rfs_body rfs_scope .none kV doc pm an cdv ct
  let L1 := s.heap.objs.size
  let env1 := callEnv fd L1 833
  let base := h₁.hide L1
  have hne : ∀ b o, s.heap.get? b = some o → b ≠ L1 := fun b o e q => by
    subst q
    exact absurd (Heap.lt_size e) (Nat.lt_irrefl _)
  have hbk : ∀ b o, s.heap.get? b = some o → base.get? b = some o := fun b o e => hide_get (hk₁ b o e) (hne b o e)
  have hkb : ∀ b o, C.s₀.heap.get? b = some o → base.get? b = some o := fun b o e => hbk b o (R.keep b o e)
  let C1 : Cx := { prog := C.prog, w := C.w, A := C.A.deeper env1, env := env1, names := rfs_names, s₀ := { s with heap := base }, mg := C.mg, mb := C.mb, K := C.K }
  have O1 : C1.Ok := by
    refine ⟨O.hh, ?_, ?_, rfl, ?_, ?_, Heap.hide_self _ _, ?_, ?_, O.nolimit.keeps hkb, O.kin.keeps hkb⟩
    · show C.A.depth + 1 + 8 < recursionLimit; have := rm.d; omega
    · show C.A.units + 3 + 64 < cLine; have := rm.u; omega
    · show rfs_names.Nodup; decide +kernel
    · show ∀ x ∈ rfs_names, rfs_scope.names.lookup x = some .local; decide +kernel
    · show base.Ns mainGlobals C.mg
      rw [← B.g]; exact O.g.keeps hkb
    · show base.Ns builtinsNs C.mb
      rw [← B.b]; exact O.b.keeps hkb
  have rm1 : Room C1 1 := ⟨by show C.A.depth + 1 + 10 + 2 * 1 < recursionLimit; have := rm.d; omega, by show C.A.units + 3 + 68 + 4 * 1 < cLine; have := rm.u; omega⟩
  have B1 : Base C1 := ⟨rfl, rfl⟩
  let s1 : Shared := { s with heap := h₁, toks := s.toks + [(("way" : Str), c1), ("own", c2)].length }
  have R1 : Rep C1 [] ⟨[some v1, some v2], []⟩ s1 := by
    refine ⟨⟨h₁, _, rfl⟩, fun b o e => Heap.of_hide e, rfl, ⟨_, hns, fun k x pv e1 e2 => ?_⟩, List.nodup_nil, rfl, fun k mo b e1 _ => by simp at e1, fun b hb => nomatch hb⟩
    match k, e1, e2 with
    | 0, e1, e2 => cases e1; cases e2; exact ⟨c1, rfl, r1 _⟩
    | 1, e1, e2 => cases e1; cases e2; exact ⟨c2, rfl, r2 _⟩
    | k + 2, e1, e2 => simp at e2
  have hfr1 : C1.A.frames = some [C1.env, C.env] := Around.frames_deeper hfr
  have G : IsGlobal C1 "EditDistance" (.ref 728) := ⟨by show rfs_scope.names.lookup _ = _; decide +kernel, FA.g_EditDistance⟩
  have hlS : ∀ h : Heap, (∀ b o, h₁.get? b = some o → h.get? b = some o) → ∀ env ∈ [C1.env, C.env], FrOK h env := by
    intro h hk env he
    rcases List.mem_cons.mp he with rfl | he
    · obtain ⟨oL, es, ep, q1, q2, _⟩ := hns
      exact ⟨by show ScopeKind.function ≠ .module; decide, L1, oL, es, ep, rfl, hk _ _ q1, q2⟩
    · rw [List.mem_singleton.mp he]
      obtain ⟨_, ⟨oL, es, ep, q1, q2, _⟩, _⟩ := R.loc
      exact ⟨by rw [O.hk]; decide, C.env.locals, oL, es, ep, hfe, hk _ _ (hk₁ _ _ q1), q2⟩
  have hcall : ∀ {p1 p2 p3 p4 : Pos}, wpAny C1.M C1.A (eval (.Call (.Name "EditDistance" p1) [.Name "way" p2, .Name "own" p3] [] p4) C1.env) (fun _ _ => False) (Raised [C1.env, C.env] [] s1) s1 := by
    intro p1 p2 p3 p4
    have hargs : EvEs C1 [.Name "way" p2, .Name "own" p3] [getL 0, getL 1] := EvEs.cons (EvE.loc O1 rfl (by decide)) rfl (EvEs.cons (EvE.loc O1 rfl (by decide)) rfl EvEs.nil)
    have hstep : wpAny C1.M C1.A (callWith p4 (.ref 728) [] (backTo p4 (starEach [.Name "way" p2, .Name "own" p3] C1.env)) []) (fun _ _ => False) (Raised [C1.env, C.env] [] s1) s1 := by
      refine callWith_of (P := C1.K.In) (by rw [noStar hargs p4]; rfl) (keeps_K FA.c_728.keep) (wpAny_mono (evalArgs_q hargs (.ref 728) p4 R1 (show seqM [getL 0, getL 1] _ = some ([v1, v2], _) from rfl) (Q := fun a s' => ∃ cvs, a = ⟨cvs, []⟩ ∧ PostVs C1 [] s1.heap _ [v1, v2] cvs s') fun cvs s₂ hp => ⟨cvs, rfl, hp⟩) (fun a s₂ hp => ?_) fun _ _ (f : False) => f.elim)
      obtain ⟨cvs, rfl, φ₁, X₁, R₂, rv⟩ := hp
      have hφ : φ₁ = [] := List.length_eq_zero_iff.mp R₂.memlen
      subst hφ
      have hk2 : ∀ b o, h₁.get? b = some o → s₂.heap.get? b = some o := fun b o e => by
        by_cases hb : b = L1
        · subst hb; exact X₁.loc o e
        · exact X₁.kept b o (List.not_mem_nil) hb e
      refine ⟨O1.kin.keeps R₂.keep, ?_⟩
      refine wpAny_mono (make_raise O1 (n := 2) FA.c_728.makes FA.c_728.init FA.c_728.fn (edX_fun O1 B1 rm1 FA FC) hfr1 R₂ rv rfl hx (hlS _ hk2) (fun _ _ => List.not_mem_nil)) (fun _ _ f => f) fun e s' hR => ?_
      obtain ⟨a, t, B0, h', tk, e1, e2, e3, e4, e5⟩ := hR
      obtain ⟨h2, tk2, e6⟩ := R₂.same
      refine ⟨a, t, B0, h', tk, e1, ?_, e3, fun b o e => e4 b o (hk2 b o e), fun b o e => e5 b o (hk2 b o e)⟩
      rw [e2, e6]
    exact wpAny_Call_NameR (wpAny_mono (G.eval O1 R1 (by decide) (Q := fun f s' => f = .ref 728 ∧ s1 = s') ⟨rfl, rfl⟩) (fun f s' h => by obtain ⟨rfl, rfl⟩ := h; exact hstep) fun _ _ (f : False) => f.elim)
  obtain ⟨p1, p2, p3, p4, p5, p6, p7, p8, p9, p10, p11, p12, k1, k2, hsh⟩ := rfs_shape
  have main : wpAny C1.M C1.A (execs rfs_body C1.env) (fun f s' => f = .ret (.bool true) ∧ PostW C φ s.heap st (.fl (.bool true)) (.bool true) s') (fun _ _ => False) s1 := by
    rw [hsh]
    refine wpAny_execs_cons (wpAny_Try_except (wpAny_execs_cons (wpAny_Expr_any (wpAny_mono hcall (fun _ _ f => f.elim) fun e s' hR => ?_))))
    obtain ⟨a, t, B0, h', tk, rfl, rfl, hfl, hk0, hsl⟩ := hR
    refine wpAny_looks_onW (Around.frames_deeper hfr) rfl hfl fun h₄ hheld₄ hsm₄ => ?_
    refine wpAny_landsW hheld₄ fun h₅ hheld hsm₅ => ?_
    obtain ⟨ob, hob, hobc⟩ := hheld.there
    have hB0 : ∀ b o, s.heap.get? b = some o → b ≠ C.env.locals → B0.get? b = some o := fun b o e hb => hk0 b o (hk₁ b o e) List.not_mem_nil fun hm => by
      obtain ⟨env, he, hf⟩ := framesOf_mem hm
      rcases List.mem_cons.mp he with rfl | he
      · exact hne b o e (Option.some.inj hf).symm
      · rw [List.mem_singleton.mp he, hfe] at hf
        exact hb (Option.some.inj hf).symm
    have hB00 : ∀ b o, C.s₀.heap.get? b = some o → h₅.get? b = some o := fun b o e => hheld.1 b o (hB0 b o (R.keep b o e) fun q => by
      subst q
      rw [O.hL] at e
      cases e)
    refine wpAny_handleBy_builtin (X := "ValueError") (T := "ValueError") (b := true) PySem.F.isExc_ValueError PySem.F.notTuple_ValueError (by rfl) ?_
    refine Calls.Name_function_global rfl (show rfs_scope.names.lookup ("ValueError" : Str) = some .globalImplicit by decide +kernel) (Calls.loadGlobal_builtin (mg := C.mg) (mb := C.mb) (v := .type "ValueError") ?_ FC.b_ValueError.1 ?_ FC.b_ValueError.2 ⟨rfl, ⟨ob, hob, hobc⟩, ?_⟩) (by decide)
    · show h₅.Ns mainGlobals C.mg
      rw [← B.g]; exact O.g.keeps hB00
    · show h₅.Ns builtinsNs C.mb
      rw [← B.b]; exact O.b.keeps hB00
    · rw [if_pos rfl]
      refine lands_againW hheld fun h₆ hfl₆ hsm₆ => ?_
      refine wpAny_passesOwnAt PassesOwnAt.never ?_
      refine wpAny_execs_cons (wpAny_Return_some (wpAny_pure ⟨rfl, ?_⟩))
      have Z := R.turned O.hL (h' := h₆) (tk := tk) (fun b o e hb => hfl₆.1 b o (hB0 b o e hb)) fun m hm => by
        obtain ⟨oL, es, ep, q1, q2, q3⟩ := hm
        obtain ⟨sl, q4⟩ := hsl _ _ (hk₁ _ _ q1) (mem_framesOf (List.mem_cons_of_mem _ (List.mem_singleton.mpr rfl)) hfe)
        have Y : h'.Ns C.env.locals m := ⟨_, es, ep, q4, q2, q3⟩
        exact hsm₆.ns (hsm₅.ns (hsm₄.ns Y))
      exact ⟨φ, Z.2, Z.1, rfl⟩
  refine wpAny_mono main (fun f s' hp => ?_) fun _ _ f => f.elim
  obtain ⟨rfl, hp⟩ := hp
  exact hp

noncomputable def rfs_fm : FM := fun vs mem => match vs with
  | [.fl (.obj a), .fl .none] => if a = 676 then some (.fl (.bool true), mem) else none
  | [.fl (.int _), .fl .none] => some (.fl (.bool true), mem)
  | [.fl (.obj a), .fl (.int _)] => if a = 676 then some (.fl (.bool true), mem) else none
  | _ => none
theorem rfs_fun {C : Cx} (O : C.Ok) (B : Base C) (rm : Room C 2) (FA : Facts C.K C.mg C.mb) (FB : Facts2 C.K C.mg C.mb) (FC : Facts3 C.K C.mg C.mb) (hfr : C.A.frames = some [C.env]) (hfe : C.env.frame = some C.env.locals) : FunW C (.ref 833) 2 rfs_fm := by
  intro φ st s cvs vs v mem' R r hn hm
  unfold rfs_fm at hm
  split at hm
  · rename_i a
    split at hm
    · rename_i e
      subst e
      cases hm
      obtain ⟨c1, cs1, v1, vs1, rfl, e1, r1, r, hn⟩ := r.cons_inv hn
      cases e1
      obtain ⟨c2, cs2, v2, vs2, rfl, e2, r2, r, hn⟩ := r.cons_inv hn
      cases e2
      obtain ⟨rfl, _⟩ := r.nil_inv hn
      exact rfs_core O B rm FA FB FC hfr hfe R (v1 := (.fl (.obj 676))) (v2 := (.fl .none)) (fun _ => r1) (fun _ => r2) edX_none
    · cases hm
  · rename_i n
    cases hm
    obtain ⟨c1, cs1, v1, vs1, rfl, e1, r1, r, hn⟩ := r.cons_inv hn
    cases e1
    obtain ⟨c2, cs2, v2, vs2, rfl, e2, r2, r, hn⟩ := r.cons_inv hn
    cases e2
    obtain ⟨rfl, _⟩ := r.nil_inv hn
    exact rfs_core O B rm FA FB FC hfr hfe R (v1 := (.fl (.int n))) (v2 := (.fl .none)) (fun _ => r1) (fun _ => r2) (edX_way n)
  · rename_i a n
    split at hm
    · rename_i e
      subst e
      cases hm
      obtain ⟨c1, cs1, v1, vs1, rfl, e1, r1, r, hn⟩ := r.cons_inv hn
      cases e1
      obtain ⟨c2, cs2, v2, vs2, rfl, e2, r2, r, hn⟩ := r.cons_inv hn
      cases e2
      obtain ⟨rfl, _⟩ := r.nil_inv hn
      exact rfs_core O B rm FA FB FC hfr hfe R (v1 := (.fl (.obj 676))) (v2 := (.fl (.int n))) (fun _ => r1) (fun _ => r2) (edX_int n)
    · cases hm
  · cases hm
end Mine

/-! CEv10 -/
namespace Mine

/-! evaluations that leave the state -/
def mkS (l : List Nat) : Str := ⟨l.toArray⟩
theorem mkS_of (s : Str) : mkS s.cps.toList = s := by cases s; simp [mkS]
theorem mkS_len (l : List Nat) : (mkS l).length = l.length := by simp [mkS, Str.length]
theorem mkS_app (l r : List Nat) : mkS l ++ mkS r = mkS (l ++ r) := by
  show (⟨(mkS l).cps ++ (mkS r).cps⟩ : Str) = _
  simp [mkS]
theorem mkS_list (l : List Nat) : (mkS l).cps.toList = l := by simp [mkS]
theorem sliceIdx_clip (a b len : Nat) : Builtin.Str.strSliceIndices (some (a : Int)) (some (b : Int)) 1 len = Builtin.Str.strSliceIndices (some ((min a len : Nat) : Int)) (some ((min b len : Nat) : Int)) 1 len := by
  have a1 : ¬ (a : Int) < 0 := by omega
  have a2 : ¬ (b : Int) < 0 := by omega
  have a3 : ¬ ((min a len : Nat) : Int) < 0 := by omega
  have a4 : ¬ ((min b len : Nat) : Int) < 0 := by omega
  have e1 : max (0 : Int) (min (a : Int) (len : Int)) = max (0 : Int) (min ((min a len : Nat) : Int) (len : Int)) := by omega
  have e2 : max (0 : Int) (min (b : Int) (len : Int)) = max (0 : Int) (min ((min b len : Nat) : Int) (len : Int)) := by omega
  unfold Builtin.Str.strSliceIndices
  simp only [a1, a2, a3, a4, if_false, e1, e2, (by decide : (1 : Int) > 0), if_true]
theorem sliceT (l : List Nat) {a b : Nat} (h : a ≤ b) : StrLaws.sliceText (mkS l) (some (a : Int)) (some (b : Int)) = mkS ((l.drop a).take (b - a)) := by
  have e : StrLaws.sliceText (mkS l) (some (a : Int)) (some (b : Int)) = StrLaws.sliceText (mkS l) (some ((min a l.length : Nat) : Int)) (some ((min b l.length : Nat) : Int)) := by
    unfold StrLaws.sliceText
    rw [mkS_len, sliceIdx_clip]
  rw [e, StrLaws.sliceText_nat _ (by omega) (by rw [mkS_len]; omega), mkS_list]
  show mkS _ = mkS _
  congr 1
  rcases Nat.le_total a l.length with h1 | h1
  · rw [Nat.min_eq_left h1]
    rcases Nat.le_total b l.length with h2 | h2
    · rw [Nat.min_eq_left h2]
    · rw [Nat.min_eq_right h2, List.take_of_length_le (by simp), List.take_of_length_le (by simp; omega)]
  · rw [Nat.min_eq_right h1, List.drop_of_length_le (Nat.le_refl _), List.drop_of_length_le h1]; simp
theorem sliceT_lo (l : List Nat) (a : Nat) : StrLaws.sliceText (mkS l) (some (a : Int)) none = mkS (l.drop a) := by
  have e : StrLaws.sliceText (mkS l) (some (a : Int)) none = StrLaws.sliceText (mkS l) (some (a : Int)) (some ((max a l.length : Nat) : Int)) := by
    unfold StrLaws.sliceText
    rw [mkS_len, StrLaws.sliceIdx_none_hi, sliceIdx_clip a l.length, sliceIdx_clip a (max a l.length)]
    have : min l.length l.length = min (max a l.length) l.length := by omega
    rw [this]
  rw [e, sliceT l (by omega), List.take_of_length_le (by simp; omega)]
theorem sliceT_hi (l : List Nat) (b : Nat) : StrLaws.sliceText (mkS l) none (some (b : Int)) = mkS (l.take b) := by
  have e : StrLaws.sliceText (mkS l) none (some (b : Int)) = StrLaws.sliceText (mkS l) (some ((0 : Nat) : Int)) (some (b : Int)) := by
    unfold StrLaws.sliceText
    rw [StrLaws.sliceIdx_none_lo]
    rfl
  rw [e, sliceT l (Nat.zero_le _)]
  simp

def Pu (m : Mo PV) (st : St) (v : PV) : Prop := m st = some (v, st)
def PuT (m : Mo Bool) (st : St) (b : Bool) : Prop := m st = some (b, st)
abbrev iP (n : Int) : PV := .fl (.int n)
abbrev sP (l : List Nat) : PV := .fl (.str (mkS l))
theorem bin_mod (x y : Int) (h : y ≠ 0) : binG .Mod (.fl (.int x)) (.fl (.int y)) = some (.fl (.int (x.fmod y))) := by
  unfold binG; simp only [pd_true h, if_true]
theorem bin_fdiv (x y : Int) (h : y ≠ 0) (h2 : y.natAbs < 1073741824) : binG .FloorDiv (.fl (.int x)) (.fl (.int y)) = some (.fl (.int (x.fdiv y))) := by
  unfold binG
  have hp : pd (y ≠ 0 ∧ y.natAbs < 1073741824) = true := pd_true ⟨h, h2⟩
  simp only [hp, if_true]
theorem fmod_range (x : Int) {y : Int} (h : 0 < y) : 0 ≤ x.fmod y ∧ x.fmod y < y := by
  rw [Int.fmod_eq_emod_of_nonneg x (by omega)]
  exact ⟨Int.emod_nonneg x (by omega), Int.emod_lt_of_pos x h⟩
theorem fmod_nat (x : Int) {n : Nat} (h : 0 < n) : ∃ k : Nat, k < n ∧ x.fmod (n : Int) = (k : Int) := by
  obtain ⟨h0, h1⟩ := fmod_range x (show (0 : Int) < (n : Int) by omega)
  obtain ⟨k, hk⟩ := Int.eq_ofNat_of_zero_le h0
  exact ⟨k, by omega, hk⟩
section
variable {st : St} {a b m j i : Mo PV} {x y : Int} {l r : List Nat} {n : Nat} {v w : PV}
theorem Pu.loc {k : Nat} {ls : List (Option PV)} {mem : List MO} (h : ls[k]? = some (some v)) : Pu (getL k) ⟨ls, mem⟩ v := by unfold Pu; rw [getL_ap, h]
theorem Pu.c (v : PV) (st : St) : Pu (cst v) st v := rfl
theorem Pu.add (h1 : Pu a st (iP x)) (h2 : Pu b st (iP y)) : Pu (binM .Add a b) st (iP (x + y)) := by unfold Pu at *; simp only [binM_ap, h1, h2, bin_add]
theorem Pu.sub (h1 : Pu a st (iP x)) (h2 : Pu b st (iP y)) : Pu (binM .Sub a b) st (iP (x - y)) := by unfold Pu at *; simp only [binM_ap, h1, h2, bin_sub]
theorem Pu.mod (h1 : Pu a st (iP x)) (h2 : Pu b st (iP y)) (h : y ≠ 0) : Pu (binX .Mod a b) st (iP (x.fmod y)) := by unfold Pu at *; simp only [binX_ap, h1, h2, bin_mod x y h]
theorem Pu.fdiv (h1 : Pu a st (iP x)) (h2 : Pu b st (iP y)) (h : y ≠ 0) (h3 : y.natAbs < 1073741824) : Pu (binX .FloorDiv a b) st (iP (x.fdiv y)) := by unfold Pu at *; simp only [binX_ap, h1, h2, bin_fdiv x y h h3]
theorem Pu.cast {v w : PV} (h : Pu m st v) (e : v = w) : Pu m st w := e ▸ h
theorem Pu.len (h : Pu m st (sP l)) (hl : l.length < 4611686018427387904) : Pu (bltM "len" [m]) st (iP l.length) := by
  unfold Pu at *
  have hp : pd (l.length < 4611686018427387904) = true := pd_true hl
  simp only [bltM_ap, seqM_cons_ap, seqM_nil_ap, h, blt_len_s, mkS_len, hp, if_true]
theorem Pu.addS (h1 : Pu a st (sP l)) (h2 : Pu b st (sP r)) (h : l.length + r.length < 1048576) : Pu (addSM a b) st (sP (l ++ r)) := by
  unfold Pu at *
  unfold addSM liftO
  simp only [bindM_ap, h1, h2]
  have e : addSF (sP l) (sP r) = some (sP (l ++ r)) := by
    unfold addSF
    dsimp only
    rw [if_pos (by rw [mkS_len, mkS_len]; omega), mkS_app]
  simp only [e]
theorem slS_ap (ms : Mo PV) (lo hi : Option (Mo PV)) (st : St) : sliceSM ms lo hi st = match ms st with | none => none | some (a, s1) => match optM lo s1 with | none => none | some (x, s2) => match optM hi s2 with | none => none | some (y, s3) => (slSF a x y).map (·, s3) := by
  unfold sliceSM liftO
  rw [bindM_ap]
  cases ms st with
  | none => rfl
  | some q =>
    dsimp only
    rw [bindM_ap]
    cases optM lo q.2 with
    | none => rfl
    | some q2 =>
      dsimp only
      rw [bindM_ap]
      cases optM hi q2.2 with
      | none => rfl
      | some q3 => dsimp only; cases slSF q.1 q2.1 q3.1 <;> rfl
theorem Pu.slTo (h : Pu m st (sP l)) (hj : Pu j st (iP (n : Int))) (hl : l.length ≤ 1048576) : Pu (sliceSM m none (some j)) st (sP (l.take n)) := by
  unfold Pu at *
  rw [slS_ap]
  simp only [h, optM, bindM_ap, hj]
  unfold slSF optI
  dsimp only
  rw [if_pos (by rw [mkS_len]; exact hl)]
  rw [sliceT_hi]; rfl
theorem Pu.slFrom (h : Pu m st (sP l)) (hj : Pu j st (iP (n : Int))) (hl : l.length ≤ 1048576) : Pu (sliceSM m (some j) none) st (sP (l.drop n)) := by
  unfold Pu at *
  rw [slS_ap]
  simp only [h, optM, bindM_ap, hj]
  unfold slSF optI
  dsimp only
  rw [if_pos (by rw [mkS_len]; exact hl)]
  rw [sliceT_lo]; rfl
theorem Pu.slMid {p q : Nat} (h : Pu m st (sP l)) (hi : Pu i st (iP (p : Int))) (hj : Pu j st (iP (q : Int))) (hl : l.length ≤ 1048576) (hpq : p ≤ q) : Pu (sliceSM m (some i) (some j)) st (sP ((l.drop p).take (q - p))) := by
  unfold Pu at *
  rw [slS_ap]
  simp only [h, optM, bindM_ap, hj, hi]
  unfold slSF optI
  dsimp only
  rw [if_pos (by rw [mkS_len]; exact hl)]
  rw [sliceT _ hpq]; rfl
theorem Pu.sign {c : Nat} (h : Pu m st (sP l)) (hi : Pu i st (iP (n : Int))) (hc : l[n]? = some c) (hn : n < 4611686018427387904) : Pu (subM m i) st (sP [c]) := by
  unfold Pu at *
  obtain ⟨ls, mem⟩ := st
  have hp : pd (0 ≤ (n : Int) ∧ (n : Int) < 4611686018427387904) = true := pd_true (by omega)
  have hg : (mkS l).cps[n]? = some c := by rw [cps_get, mkS_list]; exact hc
  rw [subM_ap, h]
  dsimp only
  rw [hi]
  dsimp only
  rw [subF_str, hp]
  simp only [if_true, Int.toNat_natCast, hg]
  rfl
theorem Pu.item {k : Nat} {xs : List PV} (h : Pu m st (.fl (.ref k))) (hi : Pu i st (iP (n : Int))) (hk : st.mem[k]? = some (.list xs)) (hc : xs[n]? = some v) (hn : n < 4611686018427387904) : Pu (subM m i) st v := by
  unfold Pu at *
  obtain ⟨ls, mem⟩ := st
  have hp : pd (0 ≤ (n : Int) ∧ (n : Int) < 4611686018427387904) = true := pd_true (by omega)
  have hk : mem[k]? = some (.list xs) := hk
  rw [subM_ap, h]
  dsimp only
  rw [hi]
  dsimp only
  rw [subF_list, hp]
  simp only [if_true, hk, Int.toNat_natCast, hc]
theorem PuT.eqI (h1 : Pu a st (iP x)) (h2 : Pu b st (iP y)) : PuT (cmpM .Eq a b) st (decide (x = y)) := by unfold Pu PuT at *; simp only [cmpM_ap, h1, h2, cmp_eq_i]
theorem PuT.neI (h1 : Pu a st (iP x)) (h2 : Pu b st (iP y)) : PuT (cmpM .NotEq a b) st (decide (¬ x = y)) := by unfold Pu PuT at *; simp only [cmpM_ap, h1, h2, cmp_ne_i]
theorem PuT.ltI (h1 : Pu a st (iP x)) (h2 : Pu b st (iP y)) : PuT (cmpM .Lt a b) st (decide (x < y)) := by unfold Pu PuT at *; simp only [cmpM_ap, h1, h2, cmp_lt_i, pd_dec]
theorem PuT.leI (h1 : Pu a st (iP x)) (h2 : Pu b st (iP y)) : PuT (cmpM .LtE a b) st (decide (x ≤ y)) := by unfold Pu PuT at *; simp only [cmpM_ap, h1, h2, cmp_le_i, pd_dec]
theorem PuT.gtI (h1 : Pu a st (iP x)) (h2 : Pu b st (iP y)) : PuT (cmpM .Gt a b) st (decide (x > y)) := by unfold Pu PuT at *; simp only [cmpM_ap, h1, h2, cmp_gt_i, pd_dec]
theorem PuT.eqC {c d : Nat} (h1 : Pu a st (sP [c])) (h2 : Pu b st (sP [d])) : PuT (cmpM .Eq a b) st (decide (c = d)) := by
  unfold Pu PuT at *
  have e := cmp_eq_c c d
  simp only [cmpM_ap, h1, h2]
  exact congrArg (fun o : Option Bool => match o with | none => none | some c => some (c, st)) e
theorem PuT.nil_and : PuT (andM []) st true := rfl
theorem PuT.nil_or : PuT (orM []) st false := rfl
theorem PuT.and {t : Mo Bool} {ts : List (Mo Bool)} {p q : Bool} (h1 : PuT t st p) (h2 : p = true → PuT (andM ts) st q) : PuT (andM (t :: ts)) st (p && q) := by
  unfold PuT at *
  rw [andM_cons_ap, h1]
  cases p with
  | false => rfl
  | true => exact h2 rfl
theorem PuT.or {t : Mo Bool} {ts : List (Mo Bool)} {p q : Bool} (h1 : PuT t st p) (h2 : p = false → PuT (orM ts) st q) : PuT (orM (t :: ts)) st (p || q) := by
  unfold PuT at *
  rw [orM_cons_ap, h1]
  cases p with
  | true => rfl
  | false => exact h2 rfl
theorem Pu.ite {t : Mo Bool} {c : Bool} (ht : PuT t st c) (h1 : c = true → Pu a st v) (h2 : c = false → Pu b st w) : Pu (iteM t a b) st (if c = true then v else w) := by
  unfold Pu PuT at *
  rw [iteM_ap, ht]
  cases c with
  | true => exact h1 rfl
  | false => exact h2 rfl
theorem PuT.ite_t {α : Type} {t : Mo Bool} (ht : PuT t st true) (p q : Mo α) : iteM t p q st = p st := by
  unfold PuT at ht; rw [iteM_ap, ht]; rfl
theorem PuT.ite_f {α : Type} {t : Mo Bool} (ht : PuT t st false) (p q : Mo α) : iteM t p q st = q st := by
  unfold PuT at ht; rw [iteM_ap, ht]; rfl
theorem PuT.skip {t : Mo Bool} (ht : PuT t st false) (p : Mo Fl) : iteM t p (blkM []) st = some (.next, st) := ht.ite_f _ _
theorem PuT.cast {t : Mo Bool} {p q : Bool} (h : PuT t st p) (e : p = q) : PuT t st q := e ▸ h
theorem blk_next {m : Mo Fl} {ms : List (Mo Fl)} {s1 : St} (h : m st = some (.next, s1)) : blkM (m :: ms) st = blkM ms s1 := by rw [blkM_cons_ap, h]
theorem blk_ret {m : Mo Fl} {ms : List (Mo Fl)} {s1 : St} (h : m st = some (.ret v, s1)) : blkM (m :: ms) st = some (.ret v, s1) := by rw [blkM_cons_ap, h]
theorem Pu.asg {k : Nat} {ls : List (Option PV)} {mem : List MO} (h : Pu m ⟨ls, mem⟩ v) : asg1 m (setL k) ⟨ls, mem⟩ = some (.next, ⟨ls.set k (some v), mem⟩) := by
  unfold Pu at h; rw [asg1_ap, h]; rfl
theorem Pu.ret (h : Pu m st v) : retM m st = some (.ret v, st) := by unfold Pu at h; rw [retM_ap, h]
theorem Pu.asgSw {f g : FV} {k1 k2 : Nat} {ls : List (Option PV)} {mem : List MO} (h1 : Pu a ⟨ls, mem⟩ (.fl f)) (h2 : Pu b ⟨ls, mem⟩ (.fl g)) : asgSw (tupM [a, b]) [k2, k1] ⟨ls, mem⟩ = some (.next, ⟨(ls.set k2 (some (.fl g))).set k1 (some (.fl f)), mem⟩) := by
  unfold Pu at h1 h2
  rw [asgSw_ap, tupM_ap]
  simp only [seqM_cons_ap, seqM_nil_ap, h1, h2]
  rfl
theorem Pu.tup2 {f g : FV} (h1 : Pu a st (.fl f)) (h2 : Pu b st (.fl g)) : Pu (tupM [a, b]) st (.tup [f, g]) := by
  unfold Pu at *
  rw [tupM_ap]
  simp only [seqM_cons_ap, seqM_nil_ap, h1, h2]
  rfl
end
end Mine

/-! CEv11 -/
namespace Mine

def GoodL (l : List Nat) : Prop := l.length ≤ 6 ∧ 100 ∉ l
theorem nd_app {l r : List Nat} (h1 : 100 ∉ l) (h2 : 100 ∉ r) : 100 ∉ l ++ r := fun h => (List.mem_append.mp h).elim h1 h2
theorem nd_take {l : List Nat} (h1 : 100 ∉ l) (n : Nat) : 100 ∉ l.take n := fun h => h1 (List.mem_of_mem_take h)
theorem nd_drop {l : List Nat} (h1 : 100 ∉ l) (n : Nat) : 100 ∉ l.drop n := fun h => h1 (List.mem_of_mem_drop h)
def abc : List Nat := [97, 98, 32, 99]
theorem abc_is : (Str.ofString "ab c") = mkS abc := by decide +kernel
theorem trn_call {t : List Nat} (ht : GoodL t) (x : Int) (mem : List MO) : ∃ t', GoodL t' ∧ trn_fm [sP t, iP x] mem = some (sP t', mem) := by
  obtain ⟨hl, hd⟩ := ht
  obtain ⟨p, hp1, hp2⟩ := fmod_nat (x.fdiv 5) (n := t.length + 1) (by omega)
  obtain ⟨c, hc1, hc2⟩ := fmod_nat (x.fdiv 3) (n := 4) (by omega)
  obtain ⟨q, hq1, hq2⟩ := fmod_nat x (n := 5) (by omega)
  have hp2 : (x.fdiv 5).fmod ((t.length : Int) + 1) = (p : Int) := hp2
  have hc2 : (x.fdiv 3).fmod 4 = (c : Int) := hc2
  have hq2 : x.fmod 5 = (q : Int) := hq2
  have hsg : ∃ g, abc[c]? = some g ∧ g ≠ 100 := by
    have : c = 0 ∨ c = 1 ∨ c = 2 ∨ c = 3 := by omega
    rcases this with rfl | rfl | rfl | rfl <;> exact ⟨_, rfl, by decide⟩
  obtain ⟨g, hg, hg100⟩ := hsg
  have ndg : 100 ∉ [g] := fun h => hg100 (List.mem_singleton.mp h).symm
  let S0 : List (Option PV) := [some (sP t), some (iP x), none, none, none, none]
  let S1 : List (Option PV) := [some (sP t), some (iP x), some (iP p), some (sP [g]), none, none]
  let S2 : List (Option PV) := [some (sP t), some (iP x), some (iP p), some (sP [g]), some (sP (t.take p)), some (sP (t.drop p))]
  have e1 : asgSw (tupM [(binX .Mod (binX .FloorDiv (getL 1) (cst (.fl (.int 5)))) (binM .Add (bltM "len" [(getL 0)]) (cst (.fl (.int 1))))), (subM (cst (.fl (.str (Str.ofString "ab c")))) (binX .Mod (binX .FloorDiv (getL 1) (cst (.fl (.int 3)))) (cst (.fl (.int 4)))))]) [3, 2] ⟨S0, mem⟩ = some (.next, ⟨S1, mem⟩) := by
    have a1 : Pu (binX .Mod (binX .FloorDiv (getL 1) (cst (.fl (.int 5)))) (binM .Add (bltM "len" [(getL 0)]) (cst (.fl (.int 1))))) ⟨S0, mem⟩ (iP p) :=
      (Pu.mod (Pu.fdiv (Pu.loc rfl) (Pu.c _ _) (by decide) (by decide)) (Pu.add (Pu.len (Pu.loc rfl) (by omega)) (Pu.c _ _)) (by omega)).cast (by rw [hp2])
    have a2 : Pu (subM (cst (.fl (.str (Str.ofString "ab c")))) (binX .Mod (binX .FloorDiv (getL 1) (cst (.fl (.int 3)))) (cst (.fl (.int 4))))) ⟨S0, mem⟩ (sP [g]) := by
      rw [abc_is]
      exact Pu.sign (Pu.c _ _) ((Pu.mod (Pu.fdiv (Pu.loc rfl) (Pu.c _ _) (by decide) (by decide)) (Pu.c _ _) (by decide)).cast (by rw [hc2])) hg (by omega)
    exact Pu.asgSw a1 a2
  have e2 : asgSw (tupM [(sliceSM (getL 0) none (some (getL 2))), (sliceSM (getL 0) (some (getL 2)) none)]) [5, 4] ⟨S1, mem⟩ = some (.next, ⟨S2, mem⟩) :=
    Pu.asgSw (Pu.slTo (n := p) (l := t) (Pu.loc rfl) (Pu.loc rfl) (by omega)) (Pu.slFrom (n := p) (l := t) (Pu.loc rfl) (Pu.loc rfl) (by omega))
  have tst : ∀ k : Int, PuT (cmpM .Eq (binX .Mod (getL 1) (cst (.fl (.int 5)))) (cst (.fl (.int k)))) ⟨S2, mem⟩ (decide ((q : Int) = k)) := fun k =>
    (PuT.eqI (Pu.mod (Pu.loc rfl) (Pu.c _ _) (by decide)) (Pu.c _ _)).cast (by rw [hq2])
  have h4 : Pu (getL 4) ⟨S2, mem⟩ (sP (t.take p)) := Pu.loc rfl
  have h5 : Pu (getL 5) ⟨S2, mem⟩ (sP (t.drop p)) := Pu.loc rfl
  have h3 : Pu (getL 3) ⟨S2, mem⟩ (sP [g]) := Pu.loc rfl
  have l4 : (t.take p).length = p := by simp; omega
  have l5 : (t.drop p).length = t.length - p := by simp
  have n4 := nd_take hd p
  have n5 := nd_drop hd p
  have main : ∃ t', GoodL t' ∧ trn_m ⟨S0, mem⟩ = some (.ret (sP t'), ⟨S2, mem⟩) := by
    unfold trn_m
    rw [blk_next e1, blk_next e2]
    by_cases c0 : q = 0
    · have r := Pu.slTo (n := 6) (Pu.addS (Pu.addS h4 h3 (by simp; omega)) h5 (by simp; omega)) (Pu.c (iP ((6 : Nat) : Int)) _) (by simp; omega)
      refine ⟨_, ⟨by simp; omega, nd_take (nd_app (nd_app n4 ndg) n5) 6⟩, ?_⟩
      exact blk_ret ((((tst 0).cast (decide_eq_true (by omega))).ite_t _ _).trans (blk_ret r.ret))
    rw [blk_next (((tst 0).cast (decide_eq_false (by omega))).skip _)]
    by_cases c1 : q = 1
    · have r := Pu.addS h4 (Pu.slFrom (n := 1) h5 (Pu.c (iP ((1 : Nat) : Int)) _) (by omega)) (by simp; omega)
      refine ⟨t.take p ++ (t.drop p).drop 1, ⟨by simp; omega, nd_app n4 (nd_drop n5 1)⟩, ?_⟩
      exact blk_ret ((((tst 1).cast (decide_eq_true (by omega))).ite_t _ _).trans (blk_ret r.ret))
    rw [blk_next (((tst 1).cast (decide_eq_false (by omega))).skip _)]
    by_cases c2 : q = 2
    · have r := Pu.slTo (n := 6) (Pu.addS (Pu.addS h4 h3 (by simp; omega)) (Pu.slFrom (n := 1) h5 (Pu.c (iP ((1 : Nat) : Int)) _) (by omega)) (by simp; omega)) (Pu.c (iP ((6 : Nat) : Int)) _) (by simp; omega)
      refine ⟨_, ⟨by simp; omega, nd_take (nd_app (nd_app n4 ndg) (nd_drop n5 1)) 6⟩, ?_⟩
      exact blk_ret ((((tst 2).cast (decide_eq_true (by omega))).ite_t _ _).trans (blk_ret r.ret))
    rw [blk_next (((tst 2).cast (decide_eq_false (by omega))).skip _)]
    by_cases c3 : q = 3
    · have r := Pu.addS (Pu.addS (Pu.addS h4 (Pu.slMid (p := 1) (q := 2) h5 (Pu.c (iP ((1 : Nat) : Int)) _) (Pu.c (iP ((2 : Nat) : Int)) _) (by omega) (by omega)) (by simp; omega)) (Pu.slTo (n := 1) h5 (Pu.c (iP ((1 : Nat) : Int)) _) (by omega)) (by simp; omega))
        (Pu.slFrom (n := 2) h5 (Pu.c (iP ((2 : Nat) : Int)) _) (by omega)) (by simp; omega)
      refine ⟨_, ⟨by simp; omega, nd_app (nd_app (nd_app n4 (nd_take (nd_drop n5 1) (2 - 1))) (nd_take n5 1)) (nd_drop n5 2)⟩, ?_⟩
      exact blk_ret ((((tst 3).cast (decide_eq_true (by omega))).ite_t _ _).trans (blk_ret r.ret))
    rw [blk_next (((tst 3).cast (decide_eq_false (by omega))).skip _)]
    have r := Pu.addS h5 h4 (by simp; omega)
    exact ⟨_, ⟨by simp; omega, nd_app n5 n4⟩, blk_ret r.ret⟩
  obtain ⟨t', g1, g2⟩ := main
  refine ⟨t', g1, ?_⟩
  unfold trn_fm trn_mm trn_lp
  show Option.map _ (trn_m ⟨S0, mem⟩) = _
  rw [g2]
  rfl
end Mine

/-! CEv12 -/
namespace Mine

section
variable {sw : Bool} {a b : List Nat} {i j : Nat}
def Turn (sw : Bool) (a b : List Nat) (i j : Nat) : Prop := sw = true ∧ i + 1 < a.length ∧ j + 1 < b.length ∧ a[i]? = b[j + 1]? ∧ a[i + 1]? = b[j]?
def base3 (sw : Bool) (a b : List Nat) (i j : Nat) : Nat := min (min (R sw a b (i + 1) j + 1) (R sw a b i (j + 1) + 1)) (R sw a b (i + 1) (j + 1) + (if a[i]? = b[j]? then 0 else 1))
theorem R_base (hi : i < a.length) (hj : j < b.length) (ht : ¬ Turn sw a b i j) : R sw a b i j = base3 sw a b i j := by
  have d1 := R_del (sw := sw) (b := b) (j := j) hi
  have d2 := R_ins (sw := sw) (a := a) (i := i) hj
  have d3 := R_sub (sw := sw) hi hj
  have g1 := List.getElem?_eq_getElem hi
  have g2 := List.getElem?_eq_getElem hj
  unfold base3
  by_cases h : a[i]? = b[j]?
  · rw [if_pos h]
    have e := R_trim (sw := sw) g1 (h ▸ g1)
    omega
  · rw [if_neg h]
    have hd : Apart a b i j := fun x y h1 h2 h3 => h (by rw [h1, h2, h3])
    have hne : R sw a b i j ≠ 0 := fun h0 => by have := R_ends (sw := sw) (by omega) (by omega) hd h0; omega
    obtain ⟨d, r, m, h1, h2, h3, h4⟩ := R_best (sw := sw) (by omega) (by omega) hd hne
    by_cases c2 : d = 2
    · obtain ⟨s1, rfl, s2, s3⟩ := h4 c2
      subst c2
      exact absurd ⟨s1, by omega, by omega, s2, s3⟩ ht
    · have : (d, r) = (1, 0) ∨ (d, r) = (0, 1) ∨ (d, r) = (1, 1) := by
        unfold steps at m
        split at m
        · simp only [List.mem_cons, List.not_mem_nil, or_false] at m
          rcases m with m | m | m | m
          · exact .inl m
          · exact .inr (.inl m)
          · exact .inr (.inr m)
          · exact absurd (congrArg Prod.fst m) c2
        · simpa using m
      rcases this with e | e | e <;> (cases e; (try simp only [Nat.add_zero] at h3); omega)
theorem R_turn (hi : i < a.length) (hj : j < b.length) (ht : Turn sw a b i j) : R sw a b i j = min (base3 sw a b i j) (R sw a b (i + 2) (j + 2) + 1) := by
  have d1 := R_del (sw := sw) (b := b) (j := j) hi
  have d2 := R_ins (sw := sw) (a := a) (i := i) hj
  have d3 := R_sub (sw := sw) hi hj
  have g1 := List.getElem?_eq_getElem hi
  have g2 := List.getElem?_eq_getElem hj
  obtain ⟨t1, t2, t3, t4, t5⟩ := ht
  have d4 := R_swap (sw := sw) t1 g1 (t5.trans g2) g2 (t4.symm.trans g1)
  unfold base3
  by_cases h : a[i]? = b[j]?
  · rw [if_pos h]
    have e := R_trim (sw := sw) g1 (h ▸ g1)
    omega
  · rw [if_neg h]
    have hd : Apart a b i j := fun x y h1 h2 h3 => h (by rw [h1, h2, h3])
    have hne : R sw a b i j ≠ 0 := fun h0 => by have := R_ends (sw := sw) (by omega) (by omega) hd h0; omega
    obtain ⟨d, r, m, h1, h2, h3, h4⟩ := R_best (sw := sw) (by omega) (by omega) hd hne
    have : (d, r) = (1, 0) ∨ (d, r) = (0, 1) ∨ (d, r) = (1, 1) ∨ (d, r) = (2, 2) := by
      unfold steps at m
      rw [if_pos t1] at m
      simpa using m
    rcases this with e | e | e | e <;> (cases e; (try simp only [Nat.add_zero] at h3); omega)
theorem R_end1 : R sw a b a.length j = b.length - j := by
  show dist sw (a.drop a.length) (b.drop j) = _
  rw [List.drop_length, dist_nil_left, List.length_drop]
theorem R_end2 : R sw a b i b.length = a.length - i := by
  show dist sw (a.drop i) (b.drop b.length) = _
  rw [List.drop_length, dist_nil_right, List.length_drop]

/-- the table, row i filled from j on, all rows behind -/
structure Tab (sw : Bool) (a b : List Nat) (i j : Nat) (xs : List ((Nat × Nat) × Int)) : Prop where
  has : ∀ p q, p ≤ a.length → q ≤ b.length → (i < p ∨ (i = p ∧ j ≤ q)) → xs.lookup (p, q) = some ((R sw a b p q : Nat) : Int)
  no : ∀ p q, (p < i ∨ (p = i ∧ q < j)) → xs.lookup (p, q) = none
  len : xs.length + i * (b.length + 1) + j ≤ (a.length + 1) * (b.length + 1)
theorem lookup_app {α β : Type} [BEq α] (l r : List (α × β)) (x : α) : (l ++ r).lookup x = match l.lookup x with | some v => some v | none => r.lookup x := by
  induction l with
  | nil => rfl
  | cons p l ih =>
    rw [List.cons_append, List.lookup_cons, List.lookup_cons]
    cases x == p.1 with
    | true => rfl
    | false => exact ih
theorem Tab.put {xs : List ((Nat × Nat) × Int)} (T : Tab sw a b i (j + 1) xs) : Tab sw a b i j (xs ++ [((i, j), ((R sw a b i j : Nat) : Int))]) := by
  refine ⟨fun p q h1 h2 h3 => ?_, fun p q h => ?_, by have := T.len; simp; omega⟩
  · rw [lookup_app]
    by_cases h : i < p ∨ (i = p ∧ j + 1 ≤ q)
    · rw [T.has p q h1 h2 h]
    · have e1 : p = i := by omega
      have e2 : q = j := by omega
      subst e1; subst e2
      rw [T.no p q (by omega)]
      simp
  · rw [lookup_app, T.no p q (by omega)]
    have : ((p, q) == (i, j)) = false := by
      simp only [beq_eq_false_iff_ne, ne_eq, Prod.mk.injEq]
      omega
    rw [List.lookup_cons, this]
    rfl
theorem Tab.row {xs : List ((Nat × Nat) × Int)} (T : Tab sw a b (i + 1) 0 xs) : Tab sw a b i (b.length + 1) xs := by
  refine ⟨fun p q h1 h2 h3 => T.has p q h1 h2 (by omega), fun p q h => T.no p q (by omega), ?_⟩
  have := T.len
  rw [Nat.add_mul] at this
  omega
theorem Tab.start : Tab sw a b a.length (b.length + 1) [] := by
  refine ⟨fun p q h1 h2 h3 => by omega, fun p q h => rfl, ?_⟩
  rw [Nat.add_mul]
  simp
end

noncomputable def far_cell : Mo Fl := (blkM [(iteM (orM [(cmpM .Eq (getL 4) (bltM "len" [(getL 0)])), (cmpM .Eq (getL 5) (bltM "len" [(getL 1)]))]) (blkM [(asg1 (binM .Sub (binM .Add (binM .Sub (bltM "len" [(getL 0)]) (getL 4)) (bltM "len" [(getL 1)])) (getL 5)) (pmSetM (getL 3) (tupM [(getL 4), (getL 5)]))),
  (fun st => some (.cont, st))]) (blkM [])),
  (asg1 (min3M [(binM .Add (pmGetM (getL 3) (tupM [(binM .Add (getL 4) (cst (.fl (.int 1)))), (getL 5)])) (cst (.fl (.int 1)))), (binM .Add (pmGetM (getL 3) (tupM [(getL 4), (binM .Add (getL 5) (cst (.fl (.int 1))))])) (cst (.fl (.int 1)))), (binM .Add (pmGetM (getL 3) (tupM [(binM .Add (getL 4) (cst (.fl (.int 1)))), (binM .Add (getL 5) (cst (.fl (.int 1))))])) (iteM (cmpM .Eq (subM (getL 0) (getL 4)) (subM (getL 1) (getL 5))) (cst (.fl (.int 0))) (cst (.fl (.int 1)))))]) (setL 6)),
  (iteM (andM [(boolM (getL 2)), (cmpM .Lt (binM .Add (getL 4) (cst (.fl (.int 1)))) (bltM "len" [(getL 0)])), (cmpM .Lt (binM .Add (getL 5) (cst (.fl (.int 1)))) (bltM "len" [(getL 1)])), (cmpM .Eq (subM (getL 0) (getL 4)) (subM (getL 1) (binM .Add (getL 5) (cst (.fl (.int 1)))))), (cmpM .Eq (subM (getL 0) (binM .Add (getL 4) (cst (.fl (.int 1))))) (subM (getL 1) (getL 5)))]) (blkM [(asg1 (bltM "min" [(getL 6), (binM .Add (pmGetM (getL 3) (tupM [(binM .Add (getL 4) (cst (.fl (.int 2)))), (binM .Add (getL 5) (cst (.fl (.int 2))))])) (cst (.fl (.int 1))))]) (setL 6))]) (blkM [])),
  (asg1 (getL 6) (pmSetM (getL 3) (tupM [(getL 4), (getL 5)])))])
noncomputable def far_row : Mo Fl := blkM [forRangeSM [(bltM "len" [(getL 1)]), (cst (.fl (.int (-1)))), (cst (.fl (.int (-1))))] (setL 5) far_cell]
theorem far_m_eq : far_m = blkM [(asg1 newPM (setL 3)), (forRangeSM [(bltM "len" [(getL 0)]), (cst (.fl (.int (-1)))), (cst (.fl (.int (-1))))] (setL 4) far_row), (retM (pmGetM (getL 3) (tupM [(cst (.fl (.int 0))), (cst (.fl (.int 0)))])))] := rfl

section
variable {st : St} {m n : Mo PV} {k i j : Nat} {x y z : Int}
theorem Pu.pm {xs : List ((Nat × Nat) × Int)} (h1 : Pu m st (.fl (.ref k))) (h2 : Pu n st (.tup [.int (i : Int), .int (j : Int)])) (hk : st.mem[k]? = some (.pmap xs)) (hl : xs.lookup (i, j) = some x) : Pu (pmGetM m n) st (iP x) := by
  unfold Pu at *
  unfold pmGetM
  rw [bindM_ap, h1]
  dsimp only
  rw [bindM_ap, h2]
  dsimp only
  unfold pmGetF
  have hp : pd (0 ≤ (i : Int) ∧ 0 ≤ (j : Int)) = true := pd_true (by omega)
  simp only [hp, if_true, hk, Int.toNat_natCast, hl, Option.map_some]
theorem Pu.pmSet {xs : List ((Nat × Nat) × Int)} {v : Mo PV} (hv : Pu v st (iP x)) (h1 : Pu m st (.fl (.ref k))) (h2 : Pu n st (.tup [.int (i : Int), .int (j : Int)])) (hk : st.mem[k]? = some (.pmap xs)) (hl : xs.lookup (i, j) = none) (hs : xs.length < 1048576) :
    asg1 v (pmSetM m n) st = some (.next, ⟨st.loc, st.mem.set k (.pmap (xs ++ [((i, j), x)]))⟩) := by
  unfold Pu at *
  rw [asg1_ap, hv]
  dsimp only
  unfold pmSetM
  rw [bindM_ap, h1]
  dsimp only
  rw [bindM_ap, h2]
  dsimp only
  unfold pmSetF
  have hp : pd (0 ≤ (i : Int) ∧ 0 ≤ (j : Int)) = true := pd_true (by omega)
  have hp2 : pd (xs.lookup (i, j) = none ∧ xs.length < 2 ^ 20) = true := pd_true ⟨hl, by omega⟩
  simp only [hp, if_true, hk, Int.toNat_natCast, hp2, Option.map_some, setMem]
theorem Pu.min3 {p q r : Mo PV} (h1 : Pu p st (iP x)) (h2 : Pu q st (iP y)) (h3 : Pu r st (iP z)) : Pu (min3M [p, q, r]) st (iP (min (min x y) z)) := by
  unfold Pu at *
  unfold min3M liftO
  rw [bindM_ap]
  simp only [seqM_cons_ap, seqM_nil_ap, h1, h2, h3]
  rfl
theorem Pu.min2 {p q : Mo PV} (h1 : Pu p st (iP x)) (h2 : Pu q st (iP y)) : Pu (bltM "min" [p, q]) st (iP (min x y)) := by
  unfold Pu at *
  simp only [bltM_ap, seqM_cons_ap, seqM_nil_ap, h1, h2, min_ints]
theorem PuT.bool {c : Bool} (h : Pu m st (.fl (.bool c))) : PuT (boolM m) st c := by
  unfold Pu PuT at *
  unfold boolM
  rw [bindM_ap, h]
end
end Mine

/-! CEv13 -/
namespace Mine

theorem PuT.eqAt {st : St} {ma mb mi mj : Mo PV} {a b : List Nat} {i j : Nat} (ha : Pu ma st (sP a)) (hb : Pu mb st (sP b)) (hi : Pu mi st (iP (i : Int))) (hj : Pu mj st (iP (j : Int))) (h1 : i < a.length) (h2 : j < b.length) (hla : a.length ≤ 1000) (hlb : b.length ≤ 1000) :
    PuT (cmpM .Eq (subM ma mi) (subM mb mj)) st (decide (a[i]? = b[j]?)) := by
  have g1 := List.getElem?_eq_getElem h1
  have g2 := List.getElem?_eq_getElem h2
  refine (PuT.eqC (Pu.sign ha hi g1 (by omega)) (Pu.sign hb hj g2 (by omega))).cast ?_
  rw [g1, g2]
  simp

section
variable {sw : Bool} {a b : List Nat} (hla : a.length ≤ 1000) (hlb : b.length ≤ 1000)
include hla hlb
def farL (sw : Bool) (a b : List Nat) (k i j : Nat) (x6 : Option PV) : List (Option PV) := [some (sP a), some (sP b), some (.fl (.bool sw)), some (.fl (.ref k)), some (iP (i : Int)), some (iP (j : Int)), x6]
theorem far_cell_at {i j k : Nat} (hi : i ≤ a.length) (hj : j ≤ b.length) {xs : List ((Nat × Nat) × Int)} (T : Tab sw a b i (j + 1) xs) {mem : List MO} (hk : mem[k]? = some (.pmap xs)) (x6 : Option PV) :
    ∃ fl y6, (fl = .next ∨ fl = .cont) ∧ far_cell ⟨farL sw a b k i j x6, mem⟩ = some (fl, ⟨farL sw a b k i j y6, mem.set k (.pmap (xs ++ [((i, j), ((R sw a b i j : Nat) : Int))]))⟩) := by
  have hno : xs.lookup (i, j) = none := T.no i j (by omega)
  have hlen : xs.length < 1048576 := by
    have h1 := T.len
    have : (a.length + 1) * (b.length + 1) ≤ 1001 * 1001 := Nat.mul_le_mul (by omega) (by omega)
    omega
  have P0 : ∀ x6, Pu (getL 0) ⟨farL sw a b k i j x6, mem⟩ (sP a) := fun _ => Pu.loc rfl
  have P1 : ∀ x6, Pu (getL 1) ⟨farL sw a b k i j x6, mem⟩ (sP b) := fun _ => Pu.loc rfl
  have P2 : ∀ x6, Pu (getL 2) ⟨farL sw a b k i j x6, mem⟩ (.fl (.bool sw)) := fun _ => Pu.loc rfl
  have P3 : ∀ x6, Pu (getL 3) ⟨farL sw a b k i j x6, mem⟩ (.fl (.ref k)) := fun _ => Pu.loc rfl
  have P4 : ∀ x6, Pu (getL 4) ⟨farL sw a b k i j x6, mem⟩ (iP (i : Int)) := fun _ => Pu.loc rfl
  have P5 : ∀ x6, Pu (getL 5) ⟨farL sw a b k i j x6, mem⟩ (iP (j : Int)) := fun _ => Pu.loc rfl
  have P6 : ∀ v, Pu (getL 6) ⟨farL sw a b k i j (some v), mem⟩ v := fun _ => Pu.loc rfl
  have P4n : ∀ x6 (n : Nat), Pu (binM .Add (getL 4) (cst (.fl (.int (n : Int))))) ⟨farL sw a b k i j x6, mem⟩ (iP ((i + n : Nat) : Int)) := fun x6 n => (Pu.add (P4 x6) (Pu.c _ _)).cast (by rw [Int.natCast_add])
  have P5n : ∀ x6 (n : Nat), Pu (binM .Add (getL 5) (cst (.fl (.int (n : Int))))) ⟨farL sw a b k i j x6, mem⟩ (iP ((j + n : Nat) : Int)) := fun x6 n => (Pu.add (P5 x6) (Pu.c _ _)).cast (by rw [Int.natCast_add])
  have L0 : ∀ x6, Pu (bltM "len" [getL 0]) ⟨farL sw a b k i j x6, mem⟩ (iP (a.length : Int)) := fun x6 => Pu.len (P0 x6) (by omega)
  have L1 : ∀ x6, Pu (bltM "len" [getL 1]) ⟨farL sw a b k i j x6, mem⟩ (iP (b.length : Int)) := fun x6 => Pu.len (P1 x6) (by omega)
  have hedge : PuT (orM [(cmpM .Eq (getL 4) (bltM "len" [(getL 0)])), (cmpM .Eq (getL 5) (bltM "len" [(getL 1)]))]) ⟨farL sw a b k i j x6, mem⟩ (decide ((i : Int) = (a.length : Int)) || (decide ((j : Int) = (b.length : Int)) || false)) :=
    PuT.or (PuT.eqI (P4 _) (L0 _)) fun _ => PuT.or (PuT.eqI (P5 _) (L1 _)) fun _ => PuT.nil_or
  unfold far_cell
  by_cases he : i = a.length ∨ j = b.length
  · have hv : (a.length : Int) - (i : Int) + (b.length : Int) - (j : Int) = ((R sw a b i j : Nat) : Int) := by
      rcases he with e | e
      · subst e; rw [R_end1]; omega
      · subst e; rw [R_end2]; omega
    have s1 := Pu.pmSet ((Pu.sub (Pu.add (Pu.sub (L0 x6) (P4 x6)) (L1 x6)) (P5 x6)).cast (by rw [hv])) (P3 x6) (Pu.tup2 (P4 x6) (P5 x6)) hk hno hlen
    refine ⟨.cont, x6, .inr rfl, ?_⟩
    have ht : (decide ((i : Int) = (a.length : Int)) || (decide ((j : Int) = (b.length : Int)) || false)) = true := by
      rcases he with e | e <;> simp [e]
    rw [blkM_cons_ap, (hedge.cast ht).ite_t, blk_next s1]
    rfl
  · have ht : (decide ((i : Int) = (a.length : Int)) || (decide ((j : Int) = (b.length : Int)) || false)) = false := by
      have h1 : ¬ (i : Int) = (a.length : Int) := by omega
      have h2 : ¬ (j : Int) = (b.length : Int) := by omega
      rw [decide_eq_false h1, decide_eq_false h2]; rfl
    have hi' : i < a.length := by omega
    have hj' : j < b.length := by omega
    have v1 : ∀ x6, Pu (binM .Add (pmGetM (getL 3) (tupM [(binM .Add (getL 4) (cst (.fl (.int 1)))), (getL 5)])) (cst (.fl (.int 1)))) ⟨farL sw a b k i j x6, mem⟩ (iP ((R sw a b (i + 1) j : Nat) + 1)) := fun x6 =>
      Pu.add (Pu.pm (P3 x6) (Pu.tup2 (P4n x6 1) (P5 x6)) hk (T.has (i + 1) j (by omega) (by omega) (by omega))) (Pu.c _ _)
    have v2 : ∀ x6, Pu (binM .Add (pmGetM (getL 3) (tupM [(getL 4), (binM .Add (getL 5) (cst (.fl (.int 1))))])) (cst (.fl (.int 1)))) ⟨farL sw a b k i j x6, mem⟩ (iP ((R sw a b i (j + 1) : Nat) + 1)) := fun x6 =>
      Pu.add (Pu.pm (P3 x6) (Pu.tup2 (P4 x6) (P5n x6 1)) hk (T.has i (j + 1) (by omega) (by omega) (by omega))) (Pu.c _ _)
    have v3 : ∀ x6, Pu (binM .Add (pmGetM (getL 3) (tupM [(binM .Add (getL 4) (cst (.fl (.int 1)))), (binM .Add (getL 5) (cst (.fl (.int 1))))])) (iteM (cmpM .Eq (subM (getL 0) (getL 4)) (subM (getL 1) (getL 5))) (cst (.fl (.int 0))) (cst (.fl (.int 1))))) ⟨farL sw a b k i j x6, mem⟩
        (iP ((R sw a b (i + 1) (j + 1) : Nat) + ((if a[i]? = b[j]? then 0 else 1 : Nat) : Int))) := fun x6 =>
      Pu.add (Pu.pm (P3 x6) (Pu.tup2 (P4n x6 1) (P5n x6 1)) hk (T.has (i + 1) (j + 1) (by omega) (by omega) (by omega)))
        ((Pu.ite (PuT.eqAt (P0 x6) (P1 x6) (P4 x6) (P5 x6) hi' hj' hla hlb) (fun _ => Pu.c (iP 0) _) (fun _ => Pu.c (iP 1) _)).cast (by by_cases h : a[i]? = b[j]? <;> simp [h]))
    have hb3 : min (min ((R sw a b (i + 1) j : Nat) + 1 : Int) ((R sw a b i (j + 1) : Nat) + 1)) ((R sw a b (i + 1) (j + 1) : Nat) + ((if a[i]? = b[j]? then 0 else 1 : Nat) : Int)) = ((base3 sw a b i j : Nat) : Int) := by
      unfold base3
      generalize (if a[i]? = b[j]? then 0 else 1 : Nat) = z
      omega
    have s1 := ((Pu.min3 (v1 x6) (v2 x6) (v3 x6)).cast (by rw [hb3])).asg (k := 6)
    have hturn : PuT (andM [(boolM (getL 2)), (cmpM .Lt (binM .Add (getL 4) (cst (.fl (.int 1)))) (bltM "len" [(getL 0)])), (cmpM .Lt (binM .Add (getL 5) (cst (.fl (.int 1)))) (bltM "len" [(getL 1)])), (cmpM .Eq (subM (getL 0) (getL 4)) (subM (getL 1) (binM .Add (getL 5) (cst (.fl (.int 1)))))), (cmpM .Eq (subM (getL 0) (binM .Add (getL 4) (cst (.fl (.int 1))))) (subM (getL 1) (getL 5)))])
        ⟨farL sw a b k i j (some (iP ((base3 sw a b i j : Nat) : Int))), mem⟩ (sw && (decide (((i + 1 : Nat) : Int) < (a.length : Int)) && (decide (((j + 1 : Nat) : Int) < (b.length : Int)) && (decide (a[i]? = b[j + 1]?) && (decide (a[i + 1]? = b[j]?) && true))))) :=
      PuT.and (PuT.bool (P2 _)) fun _ => PuT.and (PuT.ltI (P4n _ 1) (L0 _)) fun h1 => PuT.and (PuT.ltI (P5n _ 1) (L1 _)) fun h2 =>
        PuT.and (PuT.eqAt (P0 _) (P1 _) (P4 _) (P5n _ 1) hi' (by have := of_decide_eq_true h2; omega) hla hlb) fun _ => PuT.and (PuT.eqAt (P0 _) (P1 _) (P4n _ 1) (P5 _) (by have := of_decide_eq_true h1; omega) hj' hla hlb) fun _ => PuT.nil_and
    have hS : farL sw a b k i j (some (iP ((base3 sw a b i j : Nat) : Int))) = (farL sw a b k i j x6).set 6 (some (iP ((base3 sw a b i j : Nat) : Int))) := rfl
    rw [blk_next ((hedge.cast ht).skip _), blk_next s1, ← hS]
    by_cases hT : Turn sw a b i j
    · have hb : (sw && (decide (((i + 1 : Nat) : Int) < (a.length : Int)) && (decide (((j + 1 : Nat) : Int) < (b.length : Int)) && (decide (a[i]? = b[j + 1]?) && (decide (a[i + 1]? = b[j]?) && true))))) = true := by
        obtain ⟨t1, t2, t3, t4, t5⟩ := hT
        have t2' : ((i + 1 : Nat) : Int) < (a.length : Int) := by omega
        have t3' : ((j + 1 : Nat) : Int) < (b.length : Int) := by omega
        rw [t1, decide_eq_true t2', decide_eq_true t3', decide_eq_true t4, decide_eq_true t5]; rfl
      have hr := R_turn hi' hj' hT
      obtain ⟨t1, t2, t3, t4, t5⟩ := hT
      have v4 : Pu (bltM "min" [(getL 6), (binM .Add (pmGetM (getL 3) (tupM [(binM .Add (getL 4) (cst (.fl (.int 2)))), (binM .Add (getL 5) (cst (.fl (.int 2))))])) (cst (.fl (.int 1))))]) ⟨farL sw a b k i j (some (iP ((base3 sw a b i j : Nat) : Int))), mem⟩ (iP ((R sw a b i j : Nat) : Int)) :=
        (Pu.min2 (P6 _) (Pu.add (Pu.pm (P3 _) (Pu.tup2 (P4n _ 2) (P5n _ 2)) hk (T.has (i + 2) (j + 2) (by omega) (by omega) (by omega))) (Pu.c _ _))).cast (by
          show iP _ = iP _
          congr 2
          omega)
      have s2 := v4.asg (k := 6)
      have hS2 : (farL sw a b k i j (some (iP ((base3 sw a b i j : Nat) : Int)))).set 6 (some (iP ((R sw a b i j : Nat) : Int))) = farL sw a b k i j (some (iP ((R sw a b i j : Nat) : Int))) := rfl
      rw [hS2] at s2
      have s3 := Pu.pmSet (P6 (iP ((R sw a b i j : Nat) : Int))) (P3 _) (Pu.tup2 (P4 _) (P5 _)) hk hno hlen
      refine ⟨.next, some (iP ((R sw a b i j : Nat) : Int)), .inl rfl, ?_⟩
      rw [blk_next (((hturn.cast hb).ite_t _ _).trans (by rw [blk_next s2]; rfl)), blk_next s3]
      rfl
    · have hb : (sw && (decide (((i + 1 : Nat) : Int) < (a.length : Int)) && (decide (((j + 1 : Nat) : Int) < (b.length : Int)) && (decide (a[i]? = b[j + 1]?) && (decide (a[i + 1]? = b[j]?) && true))))) = false := by
        rw [Bool.eq_false_iff]
        intro h
        simp only [Bool.and_eq_true, decide_eq_true_eq] at h
        exact hT ⟨h.1, by omega, by omega, h.2.2.2.1, h.2.2.2.2.1⟩
      have hr := R_base hi' hj' hT
      have s3 := Pu.pmSet ((P6 (iP ((base3 sw a b i j : Nat) : Int))).cast (by rw [← hr])) (P3 _) (Pu.tup2 (P4 _) (P5 _)) hk hno hlen
      refine ⟨.next, some (iP ((base3 sw a b i j : Nat) : Int)), .inl rfl, ?_⟩
      rw [blk_next ((hturn.cast hb).skip _), blk_next s3]
      rfl

theorem far_inner {i k : Nat} (hi : i ≤ a.length) : ∀ (j : Nat) (xs : List ((Nat × Nat) × Int)) (mem : List MO) (x5 x6 : Option PV), j ≤ b.length → Tab sw a b i (j + 1) xs → mem[k]? = some (.pmap xs) →
    ∃ xs' y5 y6, Tab sw a b i 0 xs' ∧ loopR (setL 5) far_cell (-1) (j + 1) (j : Int) ⟨[some (sP a), some (sP b), some (.fl (.bool sw)), some (.fl (.ref k)), some (iP (i : Int)), x5, x6], mem⟩ =
      some (.next, ⟨[some (sP a), some (sP b), some (.fl (.bool sw)), some (.fl (.ref k)), some (iP (i : Int)), y5, y6], mem.set k (.pmap xs')⟩)
  | j, xs, mem, x5, x6, hj, T, hk => by
    obtain ⟨fl, y6, hfl, hrun⟩ := far_cell_at hla hlb hi hj T hk x6
    have hkl := (List.getElem?_eq_some_iff.mp hk).1
    have hstep : loopR (setL 5) far_cell (-1) (j + 1) (j : Int) ⟨[some (sP a), some (sP b), some (.fl (.bool sw)), some (.fl (.ref k)), some (iP (i : Int)), x5, x6], mem⟩ = loopR (setL 5) far_cell (-1) j ((j : Int) + -1) ⟨farL sw a b k i j y6, mem.set k (.pmap (xs ++ [((i, j), ((R sw a b i j : Nat) : Int))]))⟩ := by
      rw [loopR_succ_ap, setL_ap]
      dsimp only [List.set_cons_succ, List.set_cons_zero]
      have hrun' : far_cell ⟨[some (sP a), some (sP b), some (.fl (.bool sw)), some (.fl (.ref k)), some (iP (i : Int)), some (.fl (.int (j : Int))), x6], mem⟩ = _ := hrun
      rw [hrun']
      rcases hfl with rfl | rfl <;> rfl
    match j, hj, T.put, hstep with
    | 0, hj, T', hstep => exact ⟨_, _, y6, T', hstep⟩
    | j + 1, hj, T', hstep =>
      obtain ⟨xs', y5, y6', q1, q2⟩ := far_inner hi j _ _ (some (iP ((j + 1 : Nat) : Int))) y6 (by omega) T' (List.getElem?_set_self hkl)
      refine ⟨xs', y5, y6', q1, hstep.trans ?_⟩
      have e : (((j + 1 : Nat) : Int) + -1) = (j : Int) := by omega
      rw [e]
      refine Eq.trans q2 ?_
      rw [List.set_set]
end
end Mine

/-! CEv14 -/
namespace Mine

theorem rng3_down {n : Nat} (h : n ≤ 1000000) : rng3 [iP (n : Int), iP (-1), iP (-1)] = some ((n : Int), n + 1, -1) := by
  unfold rng3
  dsimp only
  rw [if_pos ⟨.inr rfl, by omega, by decide⟩]
  have e : Builtin.Range.rangeSize (n : Int) (-1) (-1) = ((n + 1 : Nat) : Int) := by
    unfold Builtin.Range.rangeSize
    rw [if_neg (by decide), show (-(-1 : Int)) = 1 from rfl, Int.ediv_one]
    split <;> omega
  rw [e, Int.toNat_natCast]
theorem rangeS_at {ms : List (Mo PV)} {f : PV → Mo Unit} {b : Mo Fl} {st st' : St} {vs : List PV} {a c : Int} {n : Nat} (h1 : seqM ms st = some (vs, st')) (h2 : rng3 vs = some (a, n, c)) : forRangeSM ms f b st = loopR f b c n a st' := by
  unfold forRangeSM
  rw [bindM_ap, h1]
  simp only [h2]
theorem Pu.seq3 {a b c : Mo PV} {st : St} {x y z : PV} (h1 : Pu a st x) (h2 : Pu b st y) (h3 : Pu c st z) : seqM [a, b, c] st = some ([x, y, z], st) := by
  unfold Pu at *
  simp only [seqM_cons_ap, seqM_nil_ap, h1, h2, h3]
section
variable {sw : Bool} {a b : List Nat} (hla : a.length ≤ 1000) (hlb : b.length ≤ 1000)
include hla hlb
theorem far_outer {k : Nat} : ∀ (i : Nat) (xs : List ((Nat × Nat) × Int)) (mem : List MO) (x4 x5 x6 : Option PV), i ≤ a.length → Tab sw a b i (b.length + 1) xs → mem[k]? = some (.pmap xs) →
    ∃ xs' y4 y5 y6, Tab sw a b 0 0 xs' ∧ loopR (setL 4) far_row (-1) (i + 1) (i : Int) ⟨[some (sP a), some (sP b), some (.fl (.bool sw)), some (.fl (.ref k)), x4, x5, x6], mem⟩ =
      some (.next, ⟨[some (sP a), some (sP b), some (.fl (.bool sw)), some (.fl (.ref k)), y4, y5, y6], mem.set k (.pmap xs')⟩)
  | i, xs, mem, x4, x5, x6, hi, T, hk => by
    obtain ⟨xs1, y5, y6, T1, hrun⟩ := far_inner hla hlb hi b.length xs mem x5 x6 (Nat.le_refl _) T hk
    have hkl := (List.getElem?_eq_some_iff.mp hk).1
    have hstep : loopR (setL 4) far_row (-1) (i + 1) (i : Int) ⟨[some (sP a), some (sP b), some (.fl (.bool sw)), some (.fl (.ref k)), x4, x5, x6], mem⟩ =
        loopR (setL 4) far_row (-1) i ((i : Int) + -1) ⟨[some (sP a), some (sP b), some (.fl (.bool sw)), some (.fl (.ref k)), some (iP (i : Int)), y5, y6], mem.set k (.pmap xs1)⟩ := by
      rw [loopR_succ_ap, setL_ap]
      dsimp only [List.set_cons_succ, List.set_cons_zero]
      have hr : far_row ⟨[some (sP a), some (sP b), some (.fl (.bool sw)), some (.fl (.ref k)), some (iP (i : Int)), x5, x6], mem⟩ = some (.next, ⟨[some (sP a), some (sP b), some (.fl (.bool sw)), some (.fl (.ref k)), some (iP (i : Int)), y5, y6], mem.set k (.pmap xs1)⟩) := by
        unfold far_row
        have hb : Pu (bltM "len" [getL 1]) ⟨[some (sP a), some (sP b), some (.fl (.bool sw)), some (.fl (.ref k)), some (iP (i : Int)), x5, x6], mem⟩ (iP (b.length : Int)) := Pu.len (Pu.loc rfl) (by omega)
        rw [blk_next ((rangeS_at (Pu.seq3 hb (Pu.c (iP (-1)) _) (Pu.c (iP (-1)) _)) (rng3_down (by omega))).trans hrun)]
        rfl
      rw [hr]
    match i, hi, T1, hstep with
    | 0, hi, T1, hstep => exact ⟨_, _, _, _, T1, hstep⟩
    | i + 1, hi, T1, hstep =>
      obtain ⟨xs', y4, y5', y6', q1, q2⟩ := far_outer i _ _ (some (iP ((i + 1 : Nat) : Int))) y5 y6 (by omega) T1.row (List.getElem?_set_self hkl)
      refine ⟨xs', y4, y5', y6', q1, hstep.trans ?_⟩
      have e : (((i + 1 : Nat) : Int) + -1) = (i : Int) := by omega
      rw [e]
      refine Eq.trans q2 ?_
      rw [List.set_set]
theorem far_call (mem : List MO) : ∃ x, far_fm [sP a, sP b, .fl (.bool sw)] mem = some (iP (dist sw a b : Nat), mem ++ [x]) := by
  have hk : (mem ++ [MO.pmap []])[mem.length]? = some (.pmap []) := by simp
  obtain ⟨xs', y4, y5, y6, T, hrun⟩ := far_outer hla hlb (sw := sw) (k := mem.length) a.length [] (mem ++ [.pmap []]) none none none (Nat.le_refl _) Tab.start hk
  have hset : (mem ++ [MO.pmap []]).set mem.length (.pmap xs') = mem ++ [.pmap xs'] := by simp
  rw [hset] at hrun
  refine ⟨.pmap xs', ?_⟩
  have hm : far_m ⟨[some (sP a), some (sP b), some (.fl (.bool sw)), none, none, none, none], mem⟩ = some (.ret (iP (dist sw a b : Nat)), ⟨[some (sP a), some (sP b), some (.fl (.bool sw)), some (.fl (.ref mem.length)), y4, y5, y6], mem ++ [.pmap xs']⟩) := by
    rw [far_m_eq]
    have s1 : asg1 newPM (setL 3) ⟨[some (sP a), some (sP b), some (.fl (.bool sw)), none, none, none, none], mem⟩ = some (.next, ⟨[some (sP a), some (sP b), some (.fl (.bool sw)), some (.fl (.ref mem.length)), none, none, none], mem ++ [.pmap []]⟩) := rfl
    have hb : Pu (bltM "len" [getL 0]) ⟨[some (sP a), some (sP b), some (.fl (.bool sw)), some (.fl (.ref mem.length)), none, none, none], mem ++ [.pmap []]⟩ (iP (a.length : Int)) := Pu.len (Pu.loc rfl) (by omega)
    rw [blk_next s1, blk_next ((rangeS_at (Pu.seq3 hb (Pu.c (iP (-1)) _) (Pu.c (iP (-1)) _)) (rng3_down (by omega))).trans hrun)]
    have hg : Pu (pmGetM (getL 3) (tupM [(cst (.fl (.int 0))), (cst (.fl (.int 0)))])) ⟨[some (sP a), some (sP b), some (.fl (.bool sw)), some (.fl (.ref mem.length)), y4, y5, y6], mem ++ [.pmap xs']⟩ (iP (dist sw a b : Nat)) :=
      Pu.pm (k := mem.length) (i := 0) (j := 0) (xs := xs') (Pu.loc rfl) (Pu.tup2 (Pu.c _ _) (Pu.c _ _)) (by simp) (T.has 0 0 (by omega) (by omega) (by omega))
    exact blk_ret hg.ret
  unfold far_fm far_mm far_lp
  show Option.map _ (far_m _) = _
  rw [hm]
  rfl
end

/-! nine signs that the other text hasn't -/
theorem Ed.absent {sw : Bool} {c : Nat} {a b : List Nat} {n : Nat} (h : Ed sw a b n) : c ∉ a → b.count c ≤ n := by
  induction h with
  | nil => intro _; simp
  | del _ ih => intro hc; have := ih fun h => hc (.tail _ h); omega
  | @ins y a b n _ ih => intro hc; have := ih hc; have := List.count_cons (a := c) (b := y) (l := b); split at this <;> omega
  | @keep x a b n _ ih =>
    intro hc
    have h1 := ih fun h => hc (.tail _ h)
    have h2 : x ≠ c := fun e => hc (e ▸ .head _)
    rw [List.count_cons_of_ne (by simpa using h2)]; exact h1
  | @sub x y a b n _ ih => intro hc; have := ih fun h => hc (.tail _ h); have := List.count_cons (a := c) (b := y) (l := b); split at this <;> omega
  | @swap x y a b n _ _ ih =>
    intro hc
    have h1 := ih fun h => hc (.tail _ (.tail _ h))
    have h2 : x ≠ c := fun e => hc (e ▸ .head _)
    have h3 : y ≠ c := fun e => hc (e ▸ .tail _ (.head _))
    rw [List.count_cons_of_ne (by simpa using h3), List.count_cons_of_ne (by simpa using h2)]; omega
theorem dist_nine {sw : Bool} {l : List Nat} (h1 : l.length ≤ 9) (h2 : 100 ∉ l) : dist sw l (List.replicate 9 100) = 9 := by
  have e1 := (dist_ed (sw := sw) l (List.replicate 9 100)).absent h2
  have e2 := dist_max (sw := sw) l (List.replicate 9 100)
  rw [List.count_replicate_self] at e1
  rw [List.length_replicate] at e2
  omega
end Mine

/-! CEv15 -/
namespace Mine

theorem Comp.own_lt {c : Nat} {mem : List MO} {sw : Bool} {own : List Nat} (h : Comp c mem sw own) {j : Nat} (hj : j ∈ own) : j < mem.length := by
  cases h with
  | lev h =>
    obtain ⟨bs, h3, _⟩ := h.base
    simp at hj
    rcases hj with rfl | rfl
    · exact (List.getElem?_eq_some_iff.mp h.dict).1
    · exact (List.getElem?_eq_some_iff.mp h3).1
  | osa h =>
    obtain ⟨bs, ps, h3, _, h4, _⟩ := h.base
    simp at hj
    rcases hj with rfl | rfl | rfl
    · exact (List.getElem?_eq_some_iff.mp h.dict).1
    · exact (List.getElem?_eq_some_iff.mp h3).1
    · exact (List.getElem?_eq_some_iff.mp h4).1
theorem Comp.move2 {c : Nat} {mem mem' : List MO} {sw : Bool} {own : List Nat} (h : Comp c mem sw own) (hm : ∀ j x, mem[j]? = some x → (j = c ∨ j ∈ own) → mem'[j]? = some x) : Comp c mem' sw own := by
  cases h with
  | lev h =>
    obtain ⟨bs, h1, h2⟩ := h.base
    exact .lev ⟨hm _ _ h.inst (.inl rfl), hm _ _ h.dict (.inr (by simp)), bs, hm _ _ h1 (.inr (by simp)), h2⟩
  | osa h =>
    obtain ⟨bs, ps, h1, h2, h3, h4, h5⟩ := h.base
    exact .osa ⟨hm _ _ h.inst (.inl rfl), hm _ _ h.dict (.inr (by simp)), h.ne, bs, ps, hm _ _ h1 (.inr (by simp)), h2, hm _ _ h3 (.inr (by simp)), h4, h5⟩

/-- an EditDistance with the places that stand (fix) and those that turn (own) -/
structure One (sw : Bool) (k : Nat) (fix own : List Nat) (mem : List MO) : Prop where
  here : ∃ kd c f, mem[k]? = some (.inst 728 kd) ∧ mem[kd]? = some (.adict [(Str.ofString "_algorithm", f), (Str.ofString "_distance_comparer", .ref c)]) ∧ Comp c mem sw own ∧ kd ∉ own ∧ k ∈ fix ∧ kd ∈ fix ∧ c ∈ fix
  lt : ∀ j ∈ fix, j < mem.length
theorem One.meter {sw k fix own mem} (h : One sw k fix own mem) : Meter sw k own mem := let ⟨kd, c, f, a, b, d, e, _⟩ := h.here; ⟨kd, c, f, a, b, d, e⟩
theorem One.own_lt {sw k fix own mem} (h : One sw k fix own mem) {j : Nat} (hj : j ∈ fix ++ own) : j < mem.length := by
  obtain ⟨kd, c, f, a, b, d, e, _⟩ := h.here
  rcases List.mem_append.mp hj with hj | hj
  · exact h.lt j hj
  · exact d.own_lt hj
theorem One.move {sw k fix own mem} {mem' : List MO} (h : One sw k fix own mem) (hm : ∀ j x, mem[j]? = some x → j ∈ fix ++ own → mem'[j]? = some x) (hl : mem.length ≤ mem'.length) : One sw k fix own mem' := by
  obtain ⟨kd, c, f, a, b, d, e, f1, f2, f3⟩ := h.here
  have m : ∀ {j}, j ∈ fix → j ∈ fix ++ own := fun h => List.mem_append.mpr (.inl h)
  exact ⟨⟨kd, c, f, hm _ _ a (m f1), hm _ _ b (m f2), d.move2 fun j x e hj => hm j x e (hj.elim (fun h => h ▸ m f3) fun h => List.mem_append.mpr (.inr h)), e, f1, f2, f3⟩, fun j hj => Nat.lt_of_lt_of_le (h.lt j hj) hl⟩
theorem One.call {sw k fix own mem} (h : One sw k fix own mem) {t1 t2 : FV} (h1 : TextLe 1000 t1) (h2 : TextLe 1000 t2) (lim : Int) :
    ∃ own' mem', One sw k fix own' mem' ∧ Frame own own' mem mem' ∧ edC_fm [.fl (.ref k), .fl t1, .fl t2, .fl (.int lim)] mem = some (.fl (.int (ans sw t1 t2 lim)), mem') := by
  obtain ⟨own', mem', q1, q2, q3⟩ := edC_call h.meter h1 h2 lim
  obtain ⟨kd, c, f, a, b, d, e, f1, f2, f3⟩ := h.here
  obtain ⟨kd', c', f', a', b', d', e'⟩ := q1.here
  have hk : k ∉ own := fun hk => d.own_no hk _ _ a
  rw [q2.keep k (List.getElem?_eq_some_iff.mp a).1 hk, a] at a'
  cases a'
  rw [q2.keep kd (List.getElem?_eq_some_iff.mp b).1 e, b] at b'
  cases b'
  refine ⟨own', mem', ⟨⟨kd, c, f, ?_, ?_, d', e', f1, f2, f3⟩, fun j hj => Nat.lt_of_lt_of_le (h.lt j hj) q2.len⟩, q2, q3⟩
  · rw [q2.keep k (List.getElem?_eq_some_iff.mp a).1 hk]; exact a
  · rw [q2.keep kd (List.getElem?_eq_some_iff.mp b).1 e]; exact b

theorem one_lev (mem : List MO) : makeF 728 edI_fm [.fl (.obj 668)] mem = some (.fl (.ref (mem.length + 1)), memL mem) ∧ One false (mem.length + 1) [mem.length, mem.length + 1, mem.length + 3] [mem.length + 2, mem.length + 4] (memL mem) := by
  refine ⟨?_, ⟨mem.length, mem.length + 3, .obj 668, by simp [memL], by simp [memL], .lev (b := mem.length + 4) ⟨by simp [memL], by simp [memL], [], by simp [memL], by simp⟩, by simp, by simp, by simp, by simp⟩, fun j hj => ?_⟩
  · unfold makeF
    have h0 := edI_lev mem
    simp [h0]
  · simp only [List.mem_cons, List.not_mem_nil, or_false] at hj; simp only [memL, List.length_append, List.length_cons, List.length_nil]; omega
theorem one_osa (mem : List MO) : makeF 728 edI_fm [.fl (.obj 670)] mem = some (.fl (.ref (mem.length + 1)), memO2 mem) ∧ One true (mem.length + 1) [mem.length, mem.length + 1, mem.length + 3] [mem.length + 2, mem.length + 4, mem.length + 5] (memO2 mem) := by
  refine ⟨?_, ⟨mem.length, mem.length + 3, .obj 670, by simp [memO2], by simp [memO2], .osa (b := mem.length + 4) ⟨by simp [memO2], by simp [memO2], by simp, [], [], by simp [memO2], by simp, by simp [memO2], rfl, fun k hk => absurd hk (Nat.not_lt_zero _)⟩, by simp, by simp, by simp, by simp⟩, fun j hj => ?_⟩
  · unfold makeF
    have h0 := edI_osa mem
    simp [h0]
  · simp only [List.mem_cons, List.not_mem_nil, or_false] at hj; simp only [memO2, List.length_append, List.length_cons, List.length_nil]; omega
/-- a comparer of either kind, made -/
noncomputable def mkComp (sw : Bool) : FM := if sw then makeF 810 osI_fm else makeF 770 lvI_fm
def compN (sw : Bool) : Nat := if sw then 4 else 3
def compOwn (sw : Bool) (n : Nat) : List Nat := if sw then [n, n + 2, n + 3] else [n, n + 2]
theorem comp_new (sw : Bool) (mem : List MO) : ∃ xs : List MO, xs.length = compN sw ∧ mkComp sw [] mem = some (.fl (.ref (mem.length + 1)), mem ++ xs) ∧ Comp (mem.length + 1) (mem ++ xs) sw (compOwn sw mem.length) := by
  cases sw with
  | false =>
    refine ⟨[.adict [(nB, .ref (mem.length + 2))], .inst 770 mem.length, .list []], rfl, ?_, .lev ⟨by simp, by simp, [], by simp, by simp⟩⟩
    have h0 := lvI_call mem
    unfold mkComp makeF
    simp [h0]
  | true =>
    refine ⟨[.adict [(nB, .ref (mem.length + 2)), (nP, .ref (mem.length + 3))], .inst 810 mem.length, .list [], .list []], rfl, ?_, .osa ⟨by simp, by simp, by simp, [], [], by simp, by simp, by simp, rfl, fun k hk => absurd hk (Nat.not_lt_zero _)⟩⟩
    have h0 := osI_call mem
    unfold mkComp makeF
    simp [h0]

theorem isiCls_ap {l : List (Option PV)} {mem : List MO} {c cd : Nat} {cl : Addr} {k : Nat} (h : l[k]? = some (some (.fl (.ref c)))) (hi : mem[c]? = some (.inst cl cd)) {fs : List (Str × FV)} (hd : mem[cd]? = some (.adict fs)) (hc : cl = 770 ∨ cl = 810) : isiClsM [770, 810] (getL k) ⟨l, mem⟩ = some (.fl (.bool true), ⟨l, mem⟩) := by
  unfold isiClsM
  rw [bindM_ap, getL_ap, h]
  simp only [hi, hd]
  rcases hc with rfl | rfl <;> rfl
theorem edJ_call {c cd : Nat} {cl : Addr} (mem : List MO) (hi : mem[c]? = some (.inst cl cd)) {fs : List (Str × FV)} (hd : mem[cd]? = some (.adict fs)) (hc : cl = 770 ∨ cl = 810) :
    edJ_fm [.fl (.ref (mem.length + 1)), .fl (.obj 676), .fl (.ref c)] (mem ++ [.adict [], .inst 728 mem.length]) = some (.fl .none, mem ++ [.adict [(Str.ofString "_algorithm", .obj 676), (Str.ofString "_distance_comparer", .ref c)], .inst 728 mem.length]) := by
  have hcl := (List.getElem?_eq_some_iff.mp hi).1
  have i1 : (mem ++ [MO.adict [], .inst 728 mem.length])[mem.length + 1]? = some (.inst 728 mem.length) := by simp
  have d1 : (mem ++ [MO.adict [], .inst 728 mem.length])[mem.length]? = some (.adict []) := by simp
  have hset := setAttr_at (cls := [728]) (l := [some (.fl (.ref (mem.length + 1))), some (.fl (.obj 676)), some (.fl (.ref c))]) (name := Str.ofString "_algorithm") (f := .obj 676) i1 (by decide) d1 (by simp)
  have e : (mem ++ [MO.adict [], .inst 728 mem.length]).set mem.length (.adict (putF (Str.ofString "_algorithm") (.obj 676) [])) = mem ++ [.adict [(Str.ofString "_algorithm", .obj 676)], .inst 728 mem.length] := by
    simp [putF]
  rw [e] at hset
  have i2 : (mem ++ [MO.adict [(Str.ofString "_algorithm", .obj 676)], .inst 728 mem.length])[mem.length + 1]? = some (.inst 728 mem.length) := by simp
  have d2 : (mem ++ [MO.adict [(Str.ofString "_algorithm", .obj 676)], .inst 728 mem.length])[mem.length]? = some (.adict [(Str.ofString "_algorithm", .obj 676)]) := by simp
  have hset2 := setAttr_at (cls := [728]) (l := [some (.fl (.ref (mem.length + 1))), some (.fl (.obj 676)), some (.fl (.ref c))]) (name := Str.ofString "_distance_comparer") (f := .ref c) i2 (by decide) d2 (by simp)
  have e3 : (mem ++ [MO.adict [(Str.ofString "_algorithm", .obj 676)], .inst 728 mem.length]).set mem.length (.adict (putF (Str.ofString "_distance_comparer") (.ref c) [(Str.ofString "_algorithm", .obj 676)])) = mem ++ [.adict [(Str.ofString "_algorithm", .obj 676), (Str.ofString "_distance_comparer", .ref c)], .inst 728 mem.length] := by
    have e4 : putF (Str.ofString "_distance_comparer") (.ref c) [(Str.ofString "_algorithm", .obj 676)] = [(Str.ofString "_algorithm", FV.obj 676), (Str.ofString "_distance_comparer", .ref c)] := rfl
    rw [e4]; simp
  rw [e3] at hset2
  let ls : List (Option PV) := [some (.fl (.ref (mem.length + 1))), some (.fl (.obj 676)), some (.fl (.ref c))]
  let m1 := mem ++ [MO.adict [(Str.ofString "_algorithm", .obj 676)], .inst 728 mem.length]
  let m2 := mem ++ [MO.adict [(Str.ofString "_algorithm", .obj 676), (Str.ofString "_distance_comparer", .ref c)], .inst 728 mem.length]
  have hi1 : m1[c]? = some (.inst cl cd) := by show (mem ++ _)[c]? = _; rw [List.getElem?_append_left hcl]; exact hi
  have hd1 : m1[cd]? = some (.adict fs) := by show (mem ++ _)[cd]? = _; rw [List.getElem?_append_left (List.getElem?_eq_some_iff.mp hd).1]; exact hd
  have s1 : asg1 (getL 1) (setAttrM [728] (getL 0) "_algorithm") ⟨ls, mem ++ [.adict [], .inst 728 mem.length]⟩ = some (.next, ⟨ls, m1⟩) := by
    rw [asg1_ap, getL_ap]
    show (match setAttrM [728] (getL 0) "_algorithm" (.fl (.obj 676)) _ with | none => none | some (_, s2) => some (Fl.next, s2)) = _
    rw [setAttrM_ap, getL_ap]
    show (match (match setAttrF [728] "_algorithm" (.fl (.obj 676)) (.fl (.ref (mem.length + 1))) _ with | none => none | some s3 => some ((), s3)) with | none => none | some (_, s2) => some (Fl.next, s2)) = _
    rw [hset]
  have t1 : PuT (cmpObjM [668, 670, 676] (getL 1) (cst (.fl (.obj 668)))) ⟨ls, m1⟩ false := cmpObj_ap [668, 670, 676] 1 676 668 ls m1 rfl (by decide) (by decide)
  have t2 : PuT (cmpObjM [668, 670, 676] (getL 1) (cst (.fl (.obj 670)))) ⟨ls, m1⟩ false := cmpObj_ap [668, 670, 676] 1 676 670 ls m1 rfl (by decide) (by decide)
  have t3 : PuT (cmpObjM [668, 670, 676] (getL 1) (cst (.fl (.obj 676)))) ⟨ls, m1⟩ true := cmpObj_ap [668, 670, 676] 1 676 676 ls m1 rfl (by decide) (by decide)
  have t4 : PuT (notM (boolM (isiClsM [770, 810] (getL 2)))) ⟨ls, m1⟩ false := by
    have h0 : PuT (boolM (isiClsM [770, 810] (getL 2))) ⟨ls, m1⟩ true := PuT.bool (isiCls_ap rfl hi1 hd1 hc)
    unfold PuT at *
    unfold notM
    rw [bindM_ap, h0]
    rfl
  have s2 : asg1 (getL 2) (setAttrM [728] (getL 0) "_distance_comparer") ⟨ls, m1⟩ = some (.next, ⟨ls, m2⟩) := by
    rw [asg1_ap, getL_ap]
    show (match setAttrM [728] (getL 0) "_distance_comparer" (.fl (.ref c)) _ with | none => none | some (_, s2) => some (Fl.next, s2)) = _
    rw [setAttrM_ap, getL_ap]
    show (match (match setAttrF [728] "_distance_comparer" (.fl (.ref c)) (.fl (.ref (mem.length + 1))) _ with | none => none | some s3 => some ((), s3)) with | none => none | some (_, s2) => some (Fl.next, s2)) = _
    rw [hset2]
  have main : edI_m (makeF 770 lvI_fm) (makeF 810 osI_fm) ⟨ls, mem ++ [.adict [], .inst 728 mem.length]⟩ = some (.next, ⟨ls, m2⟩) := by
    unfold edI_m
    rw [blk_next s1]
    refine (blkM_cons_ap _ _ _).trans ?_
    rw [t1.ite_f]
    have : blkM [iteM (cmpObjM [668, 670, 676] (getL 1) (cst (.fl (.obj 670)))) (blkM [(asg1 (runM [] [] (makeF 810 osI_fm)) (setAttrM [728] (getL 0) "_distance_comparer"))]) (blkM [(iteM (cmpObjM [668, 670, 676] (getL 1) (cst (.fl (.obj 676)))) (blkM [(iteM (notM (boolM (isiClsM [770, 810] (getL 2)))) (blkM [(fun _ => none)]) (blkM [])),
        (asg1 (getL 2) (setAttrM [728] (getL 0) "_distance_comparer"))]) (blkM [(fun _ => none)]))])] ⟨ls, m1⟩ = some (.next, ⟨ls, m2⟩) := by
      refine (blk_next ((t2.ite_f _ _).trans ((blk_next ((t3.ite_t _ _).trans ((blk_next (t4.skip _)).trans ((blk_next s2).trans rfl)))).trans rfl))).trans rfl
    rw [this]
    rfl
  unfold edJ_fm edJ_mm edJ_lp
  show Option.map _ (edI_m (makeF 770 lvI_fm) (makeF 810 osI_fm) ⟨ls, _⟩) = _
  rw [main]
  rfl
theorem one_user {sw : Bool} {c : Nat} {own : List Nat} (mem : List MO) (h : Comp c mem sw own) : ∃ xs : List MO, xs.length = 2 ∧ makeF 728 edJ_fm [.fl (.obj 676), .fl (.ref c)] mem = some (.fl (.ref (mem.length + 1)), mem ++ xs) ∧ One sw (mem.length + 1) [mem.length, mem.length + 1, c] own (mem ++ xs) := by
  obtain ⟨cd, fs, q1, q2, q3⟩ := h.inst
  have hcl := (List.getElem?_eq_some_iff.mp q1).1
  have h0 := edJ_call mem q1 q2 (by cases sw; exact .inl rfl; exact .inr rfl)
  refine ⟨[.adict [(Str.ofString "_algorithm", .obj 676), (Str.ofString "_distance_comparer", .ref c)], .inst 728 mem.length], rfl, ?_, ⟨mem.length, c, .obj 676, by simp, by simp, h.move2 fun j x e hj => ?_, fun hm => ?_, by simp, by simp, by simp⟩, fun j hj => ?_⟩
  · unfold makeF
    simp [h0]
  · rw [List.getElem?_append_left (List.getElem?_eq_some_iff.mp e).1]; exact e
  · exact Nat.lt_irrefl _ (h.own_lt hm)
  · simp only [List.mem_cons, List.not_mem_nil, or_false] at hj; simp only [List.length_append, List.length_cons, List.length_nil]; omega
end Mine

/-! CEv16 -/
namespace Mine

/-- three comparers, kept apart; Z: places that they don't touch -/
structure Inv (sws : Nat → Bool) (ks : Nat → Nat) (fx ow : Nat → List Nat) (Z : List Nat) (mem : List MO) : Prop where
  one : ∀ i, i < 3 → One (sws i) (ks i) (fx i) (ow i) mem
  dis : ∀ i j, i < 3 → j < 3 → i ≠ j → ∀ a ∈ ow i, a ∉ fx j ++ ow j
  zz : ∀ z ∈ Z, z < mem.length ∧ ∀ i, i < 3 → z ∉ fx i ++ ow i
def InvE (sws : Nat → Bool) (ks : Nat → Nat) (Z : List Nat) (mem : List MO) : Prop := ∃ fx ow, Inv sws ks fx ow Z mem
theorem InvE.call {sws ks Z mem} (h : InvE sws ks Z mem) {i : Nat} (hi : i < 3) {t1 t2 : FV} (h1 : TextLe 1000 t1) (h2 : TextLe 1000 t2) (lim : Int) :
    ∃ mem', InvE sws ks Z mem' ∧ (∀ z ∈ Z, mem'[z]? = mem[z]?) ∧ mem.length ≤ mem'.length ∧ edC_fm [.fl (.ref (ks i)), .fl t1, .fl t2, .fl (.int lim)] mem = some (.fl (.int (ans (sws i) t1 t2 lim)), mem') := by
  obtain ⟨fx, ow, I⟩ := h
  obtain ⟨own', mem', q1, q2, q3⟩ := (I.one i hi).call h1 h2 lim
  have lt : ∀ j, j < 3 → ∀ a ∈ fx j ++ ow j, a < mem.length := fun j hj a ha => (I.one j hj).own_lt ha
  refine ⟨mem', ⟨fx, fun n => if n = i then own' else ow n, fun j hj => ?_, fun p q hp hq hpq a ha => ?_, fun z hz => ?_⟩, fun z hz => q2.keep z (I.zz z hz).1 fun hm => (I.zz z hz).2 i hi (List.mem_append.mpr (.inr hm)), q2.len, q3⟩
  · by_cases e : j = i
    · subst e; rw [if_pos rfl]; exact q1
    · rw [if_neg e]
      refine (I.one j hj).move (fun k x ek hk => ?_) q2.len
      rw [q2.keep k (List.getElem?_eq_some_iff.mp ek).1 fun hm => I.dis i j hi hj (Ne.symm e) k hm hk]; exact ek
  · by_cases e : p = i
    · subst e
      rw [if_neg (Ne.symm hpq)]
      rw [if_pos rfl] at ha
      rcases q2.own a ha with h | h
      · exact I.dis p q hp hq hpq a h
      · exact fun hm => absurd (lt q hq a hm) (Nat.not_lt.mpr h)
    · rw [if_neg e] at ha
      by_cases e2 : q = i
      · subst e2
        rw [if_pos rfl]
        intro hm
        rcases List.mem_append.mp hm with hm | hm
        · exact I.dis p q hp hq hpq a ha (List.mem_append.mpr (.inl hm))
        · rcases q2.own a hm with h | h
          · exact I.dis p q hp hq hpq a ha (List.mem_append.mpr (.inr h))
          · exact absurd (lt p hp a (List.mem_append.mpr (.inr ha))) (Nat.not_lt.mpr h)
      · rw [if_neg e2]; exact I.dis p q hp hq hpq a ha
  · refine ⟨Nat.lt_of_lt_of_le (I.zz z hz).1 q2.len, fun j hj => ?_⟩
    by_cases e : j = i
    · subst e
      rw [if_pos rfl]
      intro hm
      rcases List.mem_append.mp hm with hm | hm
      · exact (I.zz z hz).2 j hj (List.mem_append.mpr (.inl hm))
      · rcases q2.own z hm with h | h
        · exact (I.zz z hz).2 j hj (List.mem_append.mpr (.inr h))
        · exact absurd (I.zz z hz).1 (Nat.not_lt.mpr h)
    · rw [if_neg e]; exact (I.zz z hz).2 j hj
theorem InvE.grow {sws ks Z mem} (h : InvE sws ks Z mem) (xs : List MO) : InvE sws ks Z (mem ++ xs) := by
  obtain ⟨fx, ow, I⟩ := h
  have k : ∀ j x, mem[j]? = some x → (mem ++ xs)[j]? = some x := fun j x e => by rw [List.getElem?_append_left (List.getElem?_eq_some_iff.mp e).1]; exact e
  exact ⟨fx, ow, fun i hi => (I.one i hi).move (fun j x e _ => k j x e) (by simp), I.dis, fun z hz => ⟨by have := (I.zz z hz).1; simp; omega, (I.zz z hz).2⟩⟩
theorem InvE.new {sws ks Z mem} (h : InvE sws ks Z mem) (x : MO) : InvE sws ks (mem.length :: Z) (mem ++ [x]) := by
  obtain ⟨fx, ow, I⟩ := h
  obtain ⟨fx', ow', I'⟩ := InvE.grow ⟨fx, ow, I⟩ [x]
  have k : ∀ j x', mem[j]? = some x' → (mem ++ [x])[j]? = some x' := fun j x' e => by rw [List.getElem?_append_left (List.getElem?_eq_some_iff.mp e).1]; exact e
  refine ⟨fx, ow, fun i hi => (I.one i hi).move (fun j x e _ => k j x e) (by simp), I.dis, fun z hz => ?_⟩
  rcases List.mem_cons.mp hz with rfl | hz
  · exact ⟨by simp, fun i hi hm => Nat.lt_irrefl _ ((I.one i hi).own_lt hm)⟩
  · exact ⟨by have := (I.zz z hz).1; simp; omega, (I.zz z hz).2⟩
theorem InvE.sub {sws ks Z Z' mem} (h : InvE sws ks Z mem) (hz : ∀ z ∈ Z', z ∈ Z) : InvE sws ks Z' mem := by
  obtain ⟨fx, ow, I⟩ := h
  exact ⟨fx, ow, I.one, I.dis, fun z h => I.zz z (hz z h)⟩
theorem InvE.set {sws ks Z mem} (h : InvE sws ks Z mem) {z : Nat} (hz : z ∈ Z) (y : MO) : InvE sws ks Z (mem.set z y) := by
  obtain ⟨fx, ow, I⟩ := h
  refine ⟨fx, ow, fun i hi => (I.one i hi).move (fun j x e hj => ?_) (by simp), I.dis, fun z' hz' => ⟨by simpa using (I.zz z' hz').1, (I.zz z' hz').2⟩⟩
  rw [List.getElem?_set_ne (fun e' : z = j => (I.zz z hz).2 i hi (by rw [e']; exact hj))]; exact e
theorem InvE.inst {sws ks Z mem} (h : InvE sws ks Z mem) {i : Nat} (hi : i < 3) : ∃ kd fs, mem[ks i]? = some (.inst 728 kd) ∧ mem[kd]? = some (.adict fs) ∧ fs.lookup (Str.ofString "compare") = none := by
  obtain ⟨fx, ow, I⟩ := h
  obtain ⟨kd, c, f, a, b, _⟩ := (I.one i hi).here
  exact ⟨kd, _, a, b, rfl⟩

def intsP (ns : List Int) : List PV := ns.map fun i => .fl (.int i)
theorem ints_get (ns : List Int) (i : Nat) : (intsP ns)[i]? = (ns[i]?).map fun i => .fl (.int i) := by simp [intsP]
theorem listM_ap (ms : List (Mo PV)) (st : St) : listM ms st = match seqM ms st with | none => none | some (vs, s1) => if vs.length ≤ 100 then newL vs s1 else none := by
  unfold listM bindM
  cases seqM ms st with
  | none => rfl
  | some q =>
    dsimp only
    split <;> rfl
def swsOf (r0 : Int) (i : Nat) : Bool := if i = 0 then false else if i = 1 then true else decide (r0.fmod 2 = 0)
noncomputable def kept_m : Mo PV := (listM [(runM [] [(cst (.fl (.obj 668)))] (makeF 728 edI_fm)), (runM [] [(cst (.fl (.obj 670)))] (makeF 728 edI_fm)), (runM [] [(cst (.fl (.obj 676))), (iteM (cmpM .Eq (binX .Mod (subM (getL 1) (cst (.fl (.int 0)))) (cst (.fl (.int 2)))) (cst (.fl (.int 1)))) (runM [] [] (makeF 770 lvI_fm)) (runM [] [] (makeF 810 osI_fm)))] (makeF 728 edJ_fm))])
theorem kept_at {l : List (Option PV)} {mem : List MO} {kr : Nat} {rs : List Int} {r0 : Int} (hl1 : l[1]? = some (some (.fl (.ref kr)))) (hk : mem[kr]? = some (.list (intsP rs))) (h0 : rs[0]? = some r0) :
    ∃ (ks : Nat → Nat) (mem' : List MO), InvE (swsOf r0) ks (List.range mem.length) mem' ∧ (∀ (j : Nat) (x : MO), mem[j]? = some x → mem'[j]? = some x) ∧ kept_m ⟨l, mem⟩ = some (.fl (.ref mem'.length), ⟨l, mem' ++ [.list [.fl (.ref (ks 0)), .fl (.ref (ks 1)), .fl (.ref (ks 2))]]⟩) := by
  obtain ⟨a1, a2⟩ := one_lev mem
  obtain ⟨b1, b2⟩ := one_osa (memL mem)
  have hm1 : (memL mem).length = mem.length + 5 := by simp [memL]
  have hm2 : (memO2 (memL mem)).length = mem.length + 11 := by simp [memO2, memL]
  let sw := decide (r0.fmod 2 = 0)
  obtain ⟨xs, c0, c1, c2⟩ := comp_new sw (memO2 (memL mem))
  obtain ⟨ys, d0, d1, d2⟩ := one_user _ c2
  have p1 : ∀ j x, mem[j]? = some x → (memL mem)[j]? = some x := fun j x e => by unfold memL; rw [List.getElem?_append_left (List.getElem?_eq_some_iff.mp e).1]; exact e
  have p2 : ∀ j x, (memL mem)[j]? = some x → (memO2 (memL mem))[j]? = some x := fun j x e => by unfold memO2; rw [List.getElem?_append_left (List.getElem?_eq_some_iff.mp e).1]; exact e
  have p3 : ∀ j x, (memO2 (memL mem))[j]? = some x → ((memO2 (memL mem) ++ xs) ++ ys)[j]? = some x := fun j x e => by
    rw [List.append_assoc, List.getElem?_append_left (List.getElem?_eq_some_iff.mp e).1]; exact e
  have hm3 : (memO2 (memL mem) ++ xs).length = mem.length + 11 + compN sw := by rw [List.length_append, hm2, c0]
  have hm4 : ((memO2 (memL mem) ++ xs) ++ ys).length = mem.length + 13 + compN sw := by rw [List.length_append, hm3, d0]; omega
  have hcn : compN sw = 3 ∨ compN sw = 4 := by cases sw; exact .inl rfl; exact .inr rfl
  rw [hm1] at b1 b2
  rw [hm2] at c1 c2 d1 d2
  rw [hm3] at d1 d2
  let ks : Nat → Nat := fun i => if i = 0 then mem.length + 1 else if i = 1 then mem.length + 5 + 1 else mem.length + 11 + compN sw + 1
  let fx : Nat → List Nat := fun i => if i = 0 then [mem.length, mem.length + 1, mem.length + 3] else if i = 1 then [mem.length + 5, mem.length + 5 + 1, mem.length + 5 + 3] else [mem.length + 11 + compN sw, mem.length + 11 + compN sw + 1, mem.length + 11 + 1]
  let ow : Nat → List Nat := fun i => if i = 0 then [mem.length + 2, mem.length + 4] else if i = 1 then [mem.length + 5 + 2, mem.length + 5 + 4, mem.length + 5 + 5] else compOwn sw (mem.length + 11)
  let lo : Nat → Nat := fun i => if i = 0 then mem.length else if i = 1 then mem.length + 5 else if i = 2 then mem.length + 11 else mem.length + 100
  have hiv : ∀ i, i < 3 → ∀ a ∈ fx i ++ ow i, lo i ≤ a ∧ a < lo (i + 1) := by
    intro i hi a ha
    have : i = 0 ∨ i = 1 ∨ i = 2 := by omega
    rcases this with rfl | rfl | rfl
    · have ha : a ∈ [mem.length, mem.length + 1, mem.length + 3] ++ [mem.length + 2, mem.length + 4] := ha
      simp only [List.cons_append, List.nil_append, List.mem_cons, List.not_mem_nil, or_false] at ha
      show mem.length ≤ a ∧ a < mem.length + 5
      omega
    · have ha : a ∈ [mem.length + 5, mem.length + 5 + 1, mem.length + 5 + 3] ++ [mem.length + 5 + 2, mem.length + 5 + 4, mem.length + 5 + 5] := ha
      simp only [List.cons_append, List.nil_append, List.mem_cons, List.not_mem_nil, or_false] at ha
      show mem.length + 5 ≤ a ∧ a < mem.length + 11
      omega
    · have ha : a ∈ [mem.length + 11 + compN sw, mem.length + 11 + compN sw + 1, mem.length + 11 + 1] ++ compOwn sw (mem.length + 11) := ha
      have hco : ∀ a ∈ compOwn sw (mem.length + 11), mem.length + 11 ≤ a ∧ a < mem.length + 15 := fun a ha => by
        unfold compOwn at ha
        split at ha <;> simp only [List.mem_cons, List.not_mem_nil, or_false] at ha <;> omega
      show mem.length + 11 ≤ a ∧ a < mem.length + 100
      rcases List.mem_append.mp ha with ha | ha
      · simp only [List.mem_cons, List.not_mem_nil, or_false] at ha
        omega
      · have := hco a ha; omega
  have hlo : lo 0 = mem.length ∧ lo 1 = mem.length + 5 ∧ lo 2 = mem.length + 11 ∧ lo 3 = mem.length + 100 := ⟨rfl, rfl, rfl, rfl⟩
  have I : Inv (swsOf r0) ks fx ow (List.range mem.length) ((memO2 (memL mem) ++ xs) ++ ys) := by
    refine ⟨fun i hi => ?_, fun i j hi hj hij a ha hm => ?_, fun z hz => ?_⟩
    · have : i = 0 ∨ i = 1 ∨ i = 2 := by omega
      rcases this with rfl | rfl | rfl
      · exact a2.move (fun j x e _ => p3 j x (p2 j x e)) (by rw [hm4, hm1]; omega)
      · exact b2.move (fun j x e _ => p3 j x e) (by rw [hm4, hm2]; omega)
      · exact d2
    · have h1 := hiv i hi a (List.mem_append.mpr (.inr ha))
      have h2 := hiv j hj a hm
      have e1 : i = 0 ∨ i = 1 ∨ i = 2 := by omega
      have e2 : j = 0 ∨ j = 1 ∨ j = 2 := by omega
      rcases e1 with rfl | rfl | rfl <;> rcases e2 with rfl | rfl | rfl <;> simp only [hlo, Nat.reduceAdd] at h1 h2 <;> omega
    · have hz : z < mem.length := List.mem_range.mp hz
      refine ⟨by rw [hm4]; omega, fun i hi hm => ?_⟩
      have h1 := hiv i hi z hm
      have e1 : i = 0 ∨ i = 1 ∨ i = 2 := by omega
      rcases e1 with rfl | rfl | rfl <;> simp only [hlo, Nat.reduceAdd] at h1 <;> omega
  refine ⟨ks, _, ⟨fx, ow, I⟩, fun j x e => p3 j x (p2 j x (p1 j x e)), ?_⟩
  have hkr : (memO2 (memL mem))[kr]? = some (.list (intsP rs)) := p2 _ _ (p1 _ _ hk)
  have hsub : Pu (subM (getL 1) (cst (.fl (.int 0)))) ⟨l, memO2 (memL mem)⟩ (iP r0) := Pu.item (n := 0) (k := kr) (xs := intsP rs) (Pu.loc hl1) (Pu.c _ _) hkr (by rw [ints_get, h0]; rfl) (by omega)
  have htest := PuT.eqI (Pu.mod hsub (Pu.c (iP 2) _) (by decide)) (Pu.c (iP 1) _)
  have hcomp : iteM (cmpM .Eq (binX .Mod (subM (getL 1) (cst (.fl (.int 0)))) (cst (.fl (.int 2)))) (cst (.fl (.int 1)))) (runM [] [] (makeF 770 lvI_fm)) (runM [] [] (makeF 810 osI_fm)) ⟨l, memO2 (memL mem)⟩ = some (.fl (.ref (mem.length + 11 + 1)), ⟨l, memO2 (memL mem) ++ xs⟩) := by
    obtain ⟨q, hq1, hq2⟩ := fmod_nat r0 (n := 2) (by omega)
    have hq2 : r0.fmod 2 = (q : Int) := hq2
    by_cases h : r0.fmod 2 = 1
    · rw [(htest.cast (decide_eq_true h)).ite_t, runM_ap, seqM_nil_ap]
      have hs : sw = false := decide_eq_false (by rw [h]; decide)
      rw [hs] at c1
      have c1 : makeF 770 lvI_fm [] (memO2 (memL mem)) = _ := c1
      dsimp only
      rw [List.nil_append, c1]
    · rw [(htest.cast (decide_eq_false h)).ite_f, runM_ap, seqM_nil_ap]
      have hs : sw = true := decide_eq_true (by omega)
      rw [hs] at c1
      have c1 : makeF 810 osI_fm [] (memO2 (memL mem)) = _ := c1
      dsimp only
      rw [List.nil_append, c1]
  have hrun : ∀ {m : FM} {ms : List (Mo PV)} {st s1 : St} {vs : List PV} {v : PV} {m' : List MO}, seqM ms st = some (vs, s1) → m vs s1.mem = some (v, m') → runM [] ms m st = some (v, ⟨s1.loc, m'⟩) := fun h1 h2 => by
    rw [runM_ap, h1]
    dsimp only
    rw [List.nil_append, h2]
  have r1 := hrun (st := ⟨l, mem⟩) (ms := [(cst (.fl (.obj 668)))]) (m := makeF 728 edI_fm) rfl a1
  have r2 := hrun (st := ⟨l, memL mem⟩) (ms := [(cst (.fl (.obj 670)))]) (m := makeF 728 edI_fm) rfl b1
  have r3 := hrun (st := ⟨l, memO2 (memL mem)⟩) (ms := [(cst (.fl (.obj 676))), (iteM (cmpM .Eq (binX .Mod (subM (getL 1) (cst (.fl (.int 0)))) (cst (.fl (.int 2)))) (cst (.fl (.int 1)))) (runM [] [] (makeF 770 lvI_fm)) (runM [] [] (makeF 810 osI_fm)))]) (m := makeF 728 edJ_fm)
    (vs := [.fl (.obj 676), .fl (.ref (mem.length + 11 + 1))]) (s1 := ⟨l, memO2 (memL mem) ++ xs⟩) (by
      rw [seqM_cons_ap, cst_ap]
      dsimp only
      rw [seqM_cons_ap, hcomp]
      rfl) d1
  unfold kept_m
  rw [listM_ap, seqM_cons_ap, r1]
  dsimp only
  rw [seqM_cons_ap, r2]
  dsimp only
  rw [seqM_cons_ap, r3]
  dsimp only
  rw [seqM_nil_ap]
  rfl
end Mine

/-! CEv17 -/
namespace Mine

theorem loopL_cons_ap {k : Nat} {f : PV → Mo Unit} {b : Mo Fl} {n i : Nat} {st : St} {ys : List PV} {v : PV} (hk : st.mem[k]? = some (.list ys)) (hv : ys[i]? = some v) : loopL k f b (n + 1) i st = match f v st with
    | none => none
    | some (_, s1) => match b s1 with
      | none => none
      | some (.next, s2) => loopL k f b n (i + 1) s2
      | some (.cont, s2) => loopL k f b n (i + 1) s2
      | some (.brk, s2) => some (.next, s2)
      | some (.ret v, s2) => some (.ret v, s2) := by
  rw [loopL]
  simp only [hk, hv]
  unfold bindM
  cases f v st with
  | none => rfl
  | some q =>
    dsimp only
    cases b q.2 with
    | none => rfl
    | some r => obtain ⟨g, s'⟩ := r; cases g <;> rfl
theorem loopL_end_ap {k : Nat} {f : PV → Mo Unit} {b : Mo Fl} {n i : Nat} {st : St} {ys : List PV} (hk : st.mem[k]? = some (.list ys)) (hv : ys[i]? = none) : loopL k f b (n + 1) i st = some (.next, st) := by
  rw [loopL]
  simp only [hk, hv]
theorem forListM_ap {fuel : Nat} {m : Mo PV} {f : PV → Mo Unit} {b : Mo Fl} {st st' : St} {k : Nat} {ys : List PV} (hm : m st = some (.fl (.ref k), st')) (hk : st'.mem[k]? = some (.list ys)) : forListM fuel m f b st = loopL k f b fuel 0 st' := by
  unfold forListM bindM
  simp only [hm, hk]
theorem appM_ap (ml me : Mo PV) (st : St) : appM ml me st = match ml st with | none => none | some (a, s1) => if isL a s1 = true then (match me s1 with | none => none | some (b, s2) => appF a b s2) else none := by
  unfold appM bindM
  cases ml st with
  | none => rfl
  | some q =>
    dsimp only
    split
    · cases me q.2 <;> rfl
    · rfl
theorem isL_at {l : List (Option PV)} {mem : List MO} {k : Nat} {xs : List PV} (h : mem[k]? = some (.list xs)) : isL (.fl (.ref k)) ⟨l, mem⟩ = true := by
  unfold isL; simp only [h]
theorem appF_at {l : List (Option PV)} {mem : List MO} {k : Nat} {xs : List PV} {v : PV} (h : mem[k]? = some (.list xs)) (hl : xs.length < 1048576) : appF (.fl (.ref k)) v ⟨l, mem⟩ = some (.next, ⟨l, mem.set k (.list (xs ++ [v]))⟩) := by
  unfold appF
  simp only [h]
  rw [if_pos (by simpa using hl)]
  rfl
section
variable {st : St} {a b c m i : Mo PV} {k n : Nat} {xs : List PV} {v w : PV}
theorem Pu.app {l : List (Option PV)} {mem : List MO} (h1 : Pu a ⟨l, mem⟩ (.fl (.ref k))) (h2 : Pu b ⟨l, mem⟩ v) (hk : mem[k]? = some (.list xs)) (hl : xs.length < 1048576) : appM a b ⟨l, mem⟩ = some (.next, ⟨l, mem.set k (.list (xs ++ [v]))⟩) := by
  unfold Pu at *
  rw [appM_ap, h1]
  dsimp only
  rw [if_pos (isL_at hk), h2]
  exact appF_at hk hl
theorem Pu.lenL (h : Pu m st (.fl (.ref k))) (hk : st.mem[k]? = some (.list xs)) (hl : xs.length < 4611686018427387904) : Pu (bltM "len" [m]) st (iP xs.length) := by
  unfold Pu at *
  have hp : pd (xs.length < 2 ^ 62) = true := pd_true (by simpa using hl)
  have e : bltF st "len" [.fl (.ref k)] = some (iP xs.length) := by
    unfold bltF
    simp only [hk]
    first | rw [if_pos hp] | rw [if_pos (by simpa using hl)]
  simp only [bltM_ap, seqM_cons_ap, seqM_nil_ap, h, e]
theorem Pu.last (h : Pu m st (.fl (.ref k))) (hk : st.mem[k]? = some (.list xs)) (hl : xs.length < 1048576) (hv : xs[xs.length - 1]? = some v) : Pu (lastM m) st v := by
  unfold Pu at *
  unfold lastM
  rw [bindM_ap, h]
  unfold lastF
  simp only [hk]
  rw [if_pos (by simpa using hl), hv]
  rfl
theorem Pu.ofB {t : Mo Bool} {p : Bool} (h : PuT t st p) : Pu (ofB t) st (.fl (.bool p)) := by
  unfold Pu PuT at *
  unfold Mine.ofB
  rw [bindM_ap, h]
  rfl
theorem Pu.orB2 {p q : Bool} (h1 : Pu a st (.fl (.bool p))) (h2 : p = false → Pu b st (.fl (.bool q))) : Pu (orB [a, b]) st (.fl (.bool (p || q))) := by
  unfold Pu at *
  unfold orB
  rw [bindM_ap, h1]
  cases p with
  | true => rfl
  | false =>
    dsimp only
    unfold orB
    rw [bindM_ap, h2 rfl]
    rfl
theorem Pu.andB2 {p q : Bool} (h1 : Pu a st (.fl (.bool p))) (h2 : p = true → Pu b st (.fl (.bool q))) : Pu (andB [a, b]) st (.fl (.bool (p && q))) := by
  unfold Pu at *
  unfold andB
  rw [bindM_ap, h1]
  cases p with
  | false => rfl
  | true =>
    dsimp only
    unfold andB
    rw [bindM_ap, h2 rfl]
    rfl
theorem Pu.tup3 {f g h : FV} (h1 : Pu a st (.fl f)) (h2 : Pu b st (.fl g)) (h3 : Pu c st (.fl h)) : Pu (tupM [a, b, c]) st (.tup [f, g, h]) := by
  unfold Pu at *
  rw [tupM_ap]
  simp only [seqM_cons_ap, seqM_nil_ap, h1, h2, h3]
  rfl
theorem subT_bound {n : Nat} (h : n < 3) : 0 ≤ (n : Int) ∧ (n : Int) < 2 ^ 20 := by
  have : n = 0 ∨ n = 1 ∨ n = 2 := by omega
  rcases this with rfl | rfl | rfl <;> decide
theorem subTF_eq (fs : List FV) (i : Int) : subTF (.tup fs) (.fl (.int i)) = if 0 ≤ i ∧ i < 2 ^ 20 then (fs[i.toNat]?).map PV.fl else none := by
  rw [subTF]
theorem bin2_at (F : PV → PV → Option PV) {ml mr : Mo PV} {st s1 s2 : St} {a b c : PV} (h1 : ml st = some (a, s1)) (h2 : mr s1 = some (b, s2)) (h3 : F a b = some c) : bindM ml (fun a => bindM mr fun b => liftO (F a b)) st = some (c, s2) := by
  rw [bindM_ap, h1]
  dsimp only
  rw [bindM_ap, h2]
  dsimp only
  rw [h3]
  rfl
theorem subT_e {fs : List FV} {f : FV} {n : Nat} (hf : fs[n]? = some f) (hn : n < 3) : subTF (.tup fs) (.fl (.int (n : Int))) = some (.fl f) := by
  have := subTF_eq fs (n : Int)
  have h2 : (fs[(n : Int).toNat]?).map PV.fl = some (.fl f) := by rw [Int.toNat_natCast, hf]; rfl
  exact this.trans ((if_pos (subT_bound hn)).trans h2)
theorem Pu.subT {fs : List FV} {f : FV} (h1 : Pu m st (.tup fs)) (h2 : Pu i st (iP (n : Int))) (hf : fs[n]? = some f) (hn : n < 3) : Pu (subTM m i) st (.fl f) :=
  bin2_at subTF h1 h2 (subT_e hf hn)
theorem Pu.pow31 (st : St) : Pu (binX .Pow (cst (.fl (.int 2))) (cst (.fl (.int 31)))) st (iP 2147483648) := by
  unfold Pu
  rw [binX_ap, cst_ap]
  dsimp only
  rw [cst_ap]
  dsimp only
  rw [Mine.pow31]
theorem Pu.run1 {ms : List (Mo PV)} {f : FM} {vs : List PV} {mem' : List MO} (h : seqM ms st = some (vs, st)) (hf : f vs st.mem = some (v, mem')) : runM [] ms f st = some (v, ⟨st.loc, mem'⟩) := by
  rw [runM_ap, h]
  dsimp only
  rw [List.nil_append, hf]
theorem Pu.seq2 {x y : PV} (h1 : Pu a st x) (h2 : Pu b st y) : seqM [a, b] st = some ([x, y], st) := by
  unfold Pu at *
  simp only [seqM_cons_ap, seqM_nil_ap, h1, h2]
end

/-! each group turns the text -/
noncomputable def turnB : Mo Fl := (blkM [(asg1 (runM [] [(getL 6), (getL 7)] trn_fm) (setL 6))])
theorem turn_loop {g : List Int} {kg : Nat} {mem : List MO} (hk : mem[kg]? = some (.list (intsP g))) {l0 l1 l2 l3 l4 l5 l8 l9 l10 l11 l12 l13 l14 l15 : Option PV} : ∀ (l : List Int) (n idx : Nat) (t : List Nat) (x7 : Option PV), g.drop idx = l → l.length < n → GoodL t →
    ∃ t' y7, GoodL t' ∧ loopL kg (setL 7) turnB n idx ⟨[l0, l1, l2, l3, l4, l5, some (sP t), x7, l8, l9, l10, l11, l12, l13, l14, l15], mem⟩ = some (.next, ⟨[l0, l1, l2, l3, l4, l5, some (sP t'), y7, l8, l9, l10, l11, l12, l13, l14, l15], mem⟩)
  | [], n, idx, t, x7, hd, hn, ht => by
    obtain ⟨n, rfl⟩ : ∃ q, n = q + 1 := ⟨n - 1, by simp at hn; omega⟩
    refine ⟨t, x7, ht, ?_⟩
    have : g[idx]? = none := List.getElem?_eq_none (List.drop_eq_nil_iff.mp hd)
    exact loopL_end_ap (ys := intsP g) hk (by rw [ints_get, this]; rfl)
  | x :: l, n, idx, t, x7, hd, hn, ht => by
    obtain ⟨n, rfl⟩ : ∃ q, n = q + 1 := ⟨n - 1, by simp at hn; omega⟩
    have hg : g[idx]? = some x := by
      have := congrArg (fun l => l[0]?) hd
      simpa using this
    have hd' : g.drop (idx + 1) = l := by
      have := congrArg List.tail hd
      simpa [List.tail_drop] using this
    obtain ⟨t1, ht1, hrun⟩ := trn_call ht x mem
    obtain ⟨t', y7, ht', hrest⟩ := turn_loop hk l n (idx + 1) t1 (some (iP x)) hd' (by simp at hn; omega) ht1 (l0 := l0) (l1 := l1) (l2 := l2) (l3 := l3) (l4 := l4) (l5 := l5) (l8 := l8) (l9 := l9) (l10 := l10) (l11 := l11) (l12 := l12) (l13 := l13) (l14 := l14) (l15 := l15)
    refine ⟨t', y7, ht', ?_⟩
    rw [loopL_cons_ap (ys := intsP g) (v := iP x) hk (by rw [ints_get, hg]; rfl), setL_ap]
    dsimp only [List.set_cons_succ, List.set_cons_zero]
    have hs : turnB ⟨[l0, l1, l2, l3, l4, l5, some (sP t), some (iP x), l8, l9, l10, l11, l12, l13, l14, l15], mem⟩ = some (.next, ⟨[l0, l1, l2, l3, l4, l5, some (sP t1), some (iP x), l8, l9, l10, l11, l12, l13, l14, l15], mem⟩) := by
      unfold turnB
      have h1 : Pu (runM [] [(getL 6), (getL 7)] trn_fm) ⟨[l0, l1, l2, l3, l4, l5, some (sP t), some (iP x), l8, l9, l10, l11, l12, l13, l14, l15], mem⟩ (sP t1) := Pu.run1 (Pu.seq2 (Pu.loc rfl) (Pu.loc rfl)) hrun
      rw [blk_next h1.asg]
      rfl
    rw [hs]
    exact hrest
end Mine

/-! CEv18 -/
namespace Mine

theorem asgS {m : Mo PV} {k : Nat} {st s1 : St} {v : PV} (h : m st = some (v, s1)) : asg1 m (setL k) st = some (.next, ⟨s1.loc.set k (some v), s1.mem⟩) := by
  rw [asg1_ap, h]; rfl
theorem slF2_at {l : List (Option PV)} {mem : List MO} {k : Nat} {xs : List PV} (hk : mem[k]? = some (.list xs)) (hl : xs.length ≤ 1048576) {i j : Nat} (hij : i ≤ j) : slF2 ⟨l, mem⟩ (.fl (.ref k)) (iP (i : Int)) (iP (j : Int)) = some ((xs.drop i).take (j - i)) := by
  unfold slF2
  simp only [hk]
  rw [if_pos ⟨by omega, by omega, by omega⟩, Int.toNat_natCast]
  have : ((j : Int) - (i : Int)).toNat = j - i := by omega
  rw [this]
theorem slice2_at {ml lo hi : Mo PV} {l : List (Option PV)} {mem : List MO} {k : Nat} {xs : List PV} {i j : Nat} (h1 : Pu ml ⟨l, mem⟩ (.fl (.ref k))) (h2 : Pu lo ⟨l, mem⟩ (iP (i : Int))) (h3 : Pu hi ⟨l, mem⟩ (iP (j : Int))) (hk : mem[k]? = some (.list xs)) (hl : xs.length ≤ 1048576) (hij : i ≤ j) :
    slice2M ml lo hi ⟨l, mem⟩ = some (.fl (.ref mem.length), ⟨l, mem ++ [.list ((xs.drop i).take (j - i))]⟩) := by
  unfold Pu at *
  have e := slF2_at (l := l) hk hl hij
  unfold slice2M
  rw [bindM_ap, h1]
  dsimp only
  rw [bindM_ap, h2]
  dsimp only
  rw [bindM_ap, h3]
  dsimp only
  rw [e]
  rfl
theorem loopT_cons {f : PV → Mo Unit} {b : Mo Fl} {x : FV} {r : List FV} {st s1 s2 : St} (h1 : f (.fl x) st = some ((), s1)) (h2 : b s1 = some (.next, s2)) : loopT f b (x :: r) st = loopT f b r s2 := by
  rw [loopT, bindM_ap, h1]
  dsimp only
  rw [bindM_ap, h2]
theorem forTup_at {m : Mo PV} {f : PV → Mo Unit} {b : Mo Fl} {st : St} {fs : List FV} (h : Pu m st (.tup fs)) : forTupM m f b st = loopT f b fs st := by
  unfold Pu at h
  unfold forTupM
  rw [bindM_ap, h]
theorem isiBool_at {m : Mo PV} {st : St} {n : Int} (h : Pu m st (iP n)) : Pu (isiBoolM m) st (.fl (.bool false)) := by
  unfold Pu at *
  unfold isiBoolM
  rw [bindM_ap, h]

theorem ansT_eq (sw : Bool) (a b : List Nat) (lim : Int) : ansT sw a b lim = if ((dist sw a b : Nat) : Int) ≤ lim ∨ ((dist sw a b : Nat) : Int) = 0 then ((dist sw a b : Nat) : Int) else -1 := by
  have hz := dist_zero (sw := sw) (a := a) (b := b)
  unfold ansT
  by_cases h : lim ≤ 0
  · rw [if_pos h]
    by_cases e : a = b
    · rw [if_pos e, if_pos (.inr (by rw [hz.mpr e]; rfl)), hz.mpr e]; rfl
    · rw [if_neg e, if_neg (by
        have : dist sw a b ≠ 0 := fun h0 => e (hz.mp h0)
        omega)]
  · rw [if_neg h]
    by_cases c : ((dist sw a b : Nat) : Int) ≤ lim
    · rw [if_pos c, if_pos (.inl c)]
    · rw [if_neg c, if_neg (by omega)]

noncomputable abbrev cmpTab : Addr → Option (Bool × FM) := tab1 728 false edC_fm
/-- a comparison, in a state of the law -/
theorem meth_cmp {sws : Nat → Bool} {ks : Nat → Nat} {Z : List Nat} {l : List (Option PV)} {mem : List MO} (I : InvE sws ks Z mem) {i : Nat} (hi : i < 3) {mo ma mb mc : Mo PV} (h0 : Pu mo ⟨l, mem⟩ (.fl (.ref (ks i)))) {t1 t2 : FV} (ht1 : TextLe 1000 t1) (ht2 : TextLe 1000 t2) {lim : Int}
    (h1 : Pu ma ⟨l, mem⟩ (.fl t1)) (h2 : Pu mb ⟨l, mem⟩ (.fl t2)) (h3 : Pu mc ⟨l, mem⟩ (iP lim)) :
    ∃ mem', InvE sws ks Z mem' ∧ (∀ z ∈ Z, mem'[z]? = mem[z]?) ∧ mem.length ≤ mem'.length ∧ methM cmpTab mo "compare" [ma, mb, mc] ⟨l, mem⟩ = some (iP (ans (sws i) t1 t2 lim), ⟨l, mem'⟩) := by
  obtain ⟨mem', q1, q2, q3, q4⟩ := I.call hi ht1 ht2 lim
  obtain ⟨kd, fs, p1, p2, p3⟩ := I.inst hi
  refine ⟨mem', q1, q2, q3, ?_⟩
  rw [meth_at (tab := cmpTab) (b := false) (m := edC_fm) h0 p1 p2 p3 rfl]
  unfold Pu at h1 h2 h3
  rw [runM_ap]
  simp only [seqM_cons_ap, seqM_nil_ap, h1, h2, h3]
  have : (if false = true then [] else [PV.fl (.ref (ks i))]) ++ [.fl t1, .fl t2, iP lim] = [.fl (.ref (ks i)), .fl t1, .fl t2, iP lim] := rfl
  rw [this, q4]

theorem textLe_mk {l : List Nat} (h : l.length ≤ 1000) : TextLe 1000 (.str (mkS l)) := by
  show (mkS l).length ≤ 1000
  rw [mkS_len]; exact h
theorem ans_mk (sw : Bool) (a b : List Nat) (lim : Int) : ans sw (.str (mkS a)) (.str (mkS b)) lim = ansT sw a b lim := by
  show ansT sw (mkS a).cps.toList (mkS b).cps.toList lim = _
  rw [mkS_list, mkS_list]

noncomputable def cmpB : Mo Fl := (blkM [(asg1 (methM cmpTab (subM (getL 2) (getL 9)) "compare" [(getL 8), (getL 6), (getL 11)]) (setL 12)),
  (iteM (orM [(boolM (isiBoolM (getL 12))), (cmpM .NotEq (getL 12) (iteM (orM [(cmpM .LtE (getL 10) (getL 11)), (cmpM .Eq (getL 10) (cst (.fl (.int 0))))]) (getL 10) (cst (.fl (.int (-1))))))]) (blkM [(retM (cst (.fl (.bool false))))]) (blkM []))])
theorem cmpB_at {sws : Nat → Bool} {ks : Nat → Nat} {Z : List Nat} {kk : Nat} {mem : List MO} (I : InvE sws ks Z mem) (hkk : mem[kk]? = some (.list [.fl (.ref (ks 0)), .fl (.ref (ks 1)), .fl (.ref (ks 2))])) {one two : List Nat} (h1 : one.length ≤ 1000) (h2 : two.length ≤ 1000) {w : Nat} (hw : w < 3) (b : Int)
    {l0 l1 l3 l4 l5 l7 l12 l13 l14 l15 : Option PV} :
    ∃ mem' y12, InvE sws ks Z mem' ∧ (∀ z ∈ Z, mem'[z]? = mem[z]?) ∧ mem.length ≤ mem'.length ∧ cmpB ⟨[l0, l1, some (.fl (.ref kk)), l3, l4, l5, some (sP two), l7, some (sP one), some (iP (w : Int)), some (iP ((dist (sws w) one two : Nat) : Int)), some (iP b), l12, l13, l14, l15], mem⟩ =
      some (.next, ⟨[l0, l1, some (.fl (.ref kk)), l3, l4, l5, some (sP two), l7, some (sP one), some (iP (w : Int)), some (iP ((dist (sws w) one two : Nat) : Int)), some (iP b), y12, l13, l14, l15], mem'⟩) := by
  have hget : ([.fl (.ref (ks 0)), .fl (.ref (ks 1)), .fl (.ref (ks 2))] : List PV)[w]? = some (.fl (.ref (ks w))) := by
    have : w = 0 ∨ w = 1 ∨ w = 2 := by omega
    rcases this with rfl | rfl | rfl <;> rfl
  let d := ((dist (sws w) one two : Nat) : Int)
  obtain ⟨mem', q1, q2, q3, q4⟩ := meth_cmp (l := [l0, l1, some (.fl (.ref kk)), l3, l4, l5, some (sP two), l7, some (sP one), some (iP (w : Int)), some (iP d), some (iP b), l12, l13, l14, l15]) I hw (mo := subM (getL 2) (getL 9)) (ma := getL 8) (mb := getL 6) (mc := getL 11)
    (Pu.item (n := w) (Pu.loc rfl) (Pu.loc rfl) hkk hget (by omega)) (textLe_mk h1) (textLe_mk h2) (lim := b) (Pu.loc rfl) (Pu.loc rfl) (Pu.loc rfl)
  rw [ans_mk] at q4
  let v := ansT (sws w) one two b
  refine ⟨mem', some (iP v), q1, q2, q3, ?_⟩
  unfold cmpB
  rw [blk_next (asgS q4)]
  show blkM _ ⟨[l0, l1, some (.fl (.ref kk)), l3, l4, l5, some (sP two), l7, some (sP one), some (iP (w : Int)), some (iP d), some (iP b), some (iP v), l13, l14, l15], mem'⟩ = _
  have hx : Pu (iteM (orM [(cmpM .LtE (getL 10) (getL 11)), (cmpM .Eq (getL 10) (cst (.fl (.int 0))))]) (getL 10) (cst (.fl (.int (-1))))) ⟨[l0, l1, some (.fl (.ref kk)), l3, l4, l5, some (sP two), l7, some (sP one), some (iP (w : Int)), some (iP d), some (iP b), some (iP v), l13, l14, l15], mem'⟩ (iP v) :=
    (Pu.ite (PuT.or (PuT.leI (Pu.loc rfl) (Pu.loc rfl)) fun _ => PuT.or (PuT.eqI (Pu.loc rfl) (Pu.c (iP 0) _)) fun _ => PuT.nil_or) (v := iP d) (w := iP (-1)) (fun _ => Pu.loc rfl) (fun _ => Pu.c _ _)).cast (by
      show (if (decide (d ≤ b) || (decide (d = 0) || false)) = true then iP d else iP (-1)) = iP v
      have e := ansT_eq (sws w) one two b
      show _ = iP (ansT (sws w) one two b)
      rw [e]
      by_cases c : d ≤ b ∨ d = 0
      · rw [if_pos (by rcases c with c | c <;> simp [c]), if_pos c]
      · have c1 : ¬ d ≤ b := fun h => c (.inl h)
        have c2 : ¬ d = 0 := fun h => c (.inr h)
        rw [if_neg (by rw [decide_eq_false c1, decide_eq_false c2]; simp), if_neg c])
  have ht : PuT (orM [(boolM (isiBoolM (getL 12))), (cmpM .NotEq (getL 12) (iteM (orM [(cmpM .LtE (getL 10) (getL 11)), (cmpM .Eq (getL 10) (cst (.fl (.int 0))))]) (getL 10) (cst (.fl (.int (-1))))))]) ⟨[l0, l1, some (.fl (.ref kk)), l3, l4, l5, some (sP two), l7, some (sP one), some (iP (w : Int)), some (iP d), some (iP b), some (iP v), l13, l14, l15], mem'⟩ (false || (decide (¬ v = v) || false)) :=
    PuT.or (PuT.bool (isiBool_at (Pu.loc (v := iP v) rfl))) fun _ => PuT.or (PuT.neI (Pu.loc rfl) hx) fun _ => PuT.nil_or
  rw [blk_next ((ht.cast (by simp)).skip _)]
  rfl
end Mine

/-! CEv19 -/
namespace Mine

structure RdI (r0 : Int) (rs : List Int) (ks : Nat → Nat) (kr kk kt : Nat) (T : List (List Nat)) (mem : List MO) : Prop where
  rows : mem[kr]? = some (.list (intsP rs))
  kept : mem[kk]? = some (.list [.fl (.ref (ks 0)), .fl (.ref (ks 1)), .fl (.ref (ks 2))])
  texts : mem[kt]? = some (.list (T.map fun t => sP t))
  good : ∀ t ∈ T, GoodL t
  ne : 0 < T.length
  inv : InvE (swsOf r0) ks [kr, kk, kt] mem
  apart : kt ≠ kr ∧ kt ≠ kk
theorem RdI.grow {r0 rs ks kr kk kt T mem} (h : RdI r0 rs ks kr kk kt T mem) (xs : List MO) : RdI r0 rs ks kr kk kt T (mem ++ xs) := by
  have g : ∀ (j : Nat) x, mem[j]? = some x → (mem ++ xs)[j]? = some x := fun j x e => by rw [List.getElem?_append_left (List.getElem?_eq_some_iff.mp e).1]; exact e
  exact ⟨g _ _ h.rows, g _ _ h.kept, g _ _ h.texts, h.good, h.ne, h.inv.grow xs, h.apart⟩
theorem RdI.put {r0 rs ks kr kk kt T mem} (h : RdI r0 rs ks kr kk kt T mem) {t : List Nat} (ht : GoodL t) : RdI r0 rs ks kr kk kt (T ++ [t]) (mem.set kt (.list ((T.map fun t => sP t) ++ [sP t]))) := by
  have lt := (List.getElem?_eq_some_iff.mp h.texts).1
  refine ⟨by rw [List.getElem?_set_ne h.apart.1]; exact h.rows, by rw [List.getElem?_set_ne h.apart.2]; exact h.kept, by rw [List.getElem?_set_self lt]; simp, fun t' h' => ?_, by simp, h.inv.set (by simp) _, h.apart⟩
  rcases List.mem_append.mp h' with h' | h'
  · exact h.good t' h'
  · rw [List.mem_singleton.mp h']; exact ht
theorem RdI.after {r0 rs ks kr kk kt T mem mem'} (h : RdI r0 rs ks kr kk kt T mem) (hi : InvE (swsOf r0) ks [kr, kk, kt] mem') (hz : ∀ z ∈ [kr, kk, kt], mem'[z]? = mem[z]?) : RdI r0 rs ks kr kk kt T mem' :=
  ⟨by rw [hz kr (by simp)]; exact h.rows, by rw [hz kk (by simp)]; exact h.kept, by rw [hz kt (by simp)]; exact h.texts, h.good, h.ne, hi, h.apart⟩

noncomputable def rm5 : Mo Fl := (asg1 (slice2M (getL 1) (getL 4) (binM .Add (getL 4) (cst (.fl (.int 5))))) (setL 5))
noncomputable def rm8 : Mo Fl := (asg1 (subM (getL 3) (binX .Mod (binX .FloorDiv (subM (getL 5) (cst (.fl (.int 0)))) (cst (.fl (.int 11)))) (bltM "len" [(getL 3)]))) (setL 8))
noncomputable def rm10 : Mo Fl := (iteM (cmpM .Eq (binX .Mod (lastM (getL 5)) (cst (.fl (.int 2)))) (cst (.fl (.int 1)))) (blkM [(asgSw (tupM [(getL 6), (getL 8)]) [6, 8])]) (blkM []))
noncomputable def rm11 : Mo Fl := (asg1 (binX .Mod (binM .Add (subM (getL 5) (cst (.fl (.int 0)))) (binX .FloorDiv (getL 4) (cst (.fl (.int 5))))) (cst (.fl (.int 3)))) (setL 9))
noncomputable def rm12 : Mo Fl := (asg1 (runM [] [(getL 8), (getL 6), (orB [(ofB (cmpM .Eq (getL 9) (cst (.fl (.int 1))))), (andB [(ofB (cmpM .Eq (getL 9) (cst (.fl (.int 2))))), (ofB (cmpM .Eq (binX .Mod (subM (getL 1) (cst (.fl (.int 0)))) (cst (.fl (.int 2)))) (cst (.fl (.int 0)))))])])] far_fm) (setL 10))
noncomputable def rm13 : Mo Fl := (forTupM (tupM [(binM .Sub (getL 10) (cst (.fl (.int 1)))), (subTM (tupM [(getL 10), (binM .Add (getL 10) (cst (.fl (.int 1)))), (binX .Pow (cst (.fl (.int 2))) (cst (.fl (.int 31))))]) (binX .Mod (lastM (getL 5)) (cst (.fl (.int 3))))), (binM .Sub (binX .Mod (binX .FloorDiv (subM (getL 5) (cst (.fl (.int 0)))) (cst (.fl (.int 3)))) (cst (.fl (.int 9)))) (cst (.fl (.int 2))))]) (setL 11) cmpB)
noncomputable def round2 : Mo Fl := blkM [rm5, (asg1 (lastM (getL 3)) (setL 6)), (forListM 1000 (getL 5) (setL 7) turnB), rm8, (appM (getL 3) (getL 6)), rm10, rm11, rm12, rm13]

theorem round2_at {r0 : Int} {rs : List Int} {ks : Nat → Nat} {kr kk kt : Nat} {T : List (List Nat)} {mem : List MO} (h : RdI r0 rs ks kr kk kt T mem) (hr0 : rs[0]? = some r0) (hrl : rs.length ≤ 15) (hT : T.length ≤ 100) {k : Nat} (hk : k < rs.length) {l0 l5 l6 l7 l8 l9 l10 l11 l12 l13 l14 l15 : Option PV} :
    ∃ T' mem' y5 y6 y7 y8 y9 y10 y11 y12, RdI r0 rs ks kr kk kt T' mem' ∧ T'.length = T.length + 1 ∧
      round2 ⟨[l0, some (.fl (.ref kr)), some (.fl (.ref kk)), some (.fl (.ref kt)), some (iP (k : Int)), l5, l6, l7, l8, l9, l10, l11, l12, l13, l14, l15], mem⟩ =
        some (.next, ⟨[l0, some (.fl (.ref kr)), some (.fl (.ref kk)), some (.fl (.ref kt)), some (iP (k : Int)), y5, y6, y7, y8, y9, y10, y11, y12, l13, l14, l15], mem'⟩) := by
  -- the group
  let g := (rs.drop k).take 5
  have hgl : 0 < g.length ∧ g.length ≤ 5 := by simp only [g, List.length_take, List.length_drop]; omega
  have hgi : ((intsP rs).drop k).take 5 = intsP g := by simp only [g, intsP, List.map_take, List.map_drop]
  have g0 : g[0]? = some (g[0]'hgl.1) := List.getElem?_eq_getElem _
  generalize g[0]'hgl.1 = v0 at g0
  have gL : g[g.length - 1]? = some (g[g.length - 1]'(by omega)) := List.getElem?_eq_getElem _
  generalize g[g.length - 1]'(by omega) = vL at gL
  let kg := mem.length
  let m1 := mem ++ [MO.list (intsP g)]
  have hkg : m1[kg]? = some (.list (intsP g)) := by simp [m1, kg]
  have h1 : RdI r0 rs ks kr kk kt T m1 := h.grow _
  have s5 : rm5 ⟨[l0, some (.fl (.ref kr)), some (.fl (.ref kk)), some (.fl (.ref kt)), some (iP (k : Int)), l5, l6, l7, l8, l9, l10, l11, l12, l13, l14, l15], mem⟩ = some (.next, ⟨[l0, some (.fl (.ref kr)), some (.fl (.ref kk)), some (.fl (.ref kt)), some (iP (k : Int)), some (.fl (.ref kg)), l6, l7, l8, l9, l10, l11, l12, l13, l14, l15], m1⟩) := by
    have e := slice2_at (ml := getL 1) (lo := getL 4) (hi := binM .Add (getL 4) (cst (.fl (.int 5)))) (l := [l0, some (.fl (.ref kr)), some (.fl (.ref kk)), some (.fl (.ref kt)), some (iP (k : Int)), l5, l6, l7, l8, l9, l10, l11, l12, l13, l14, l15]) (mem := mem) (i := k) (j := k + 5)
      (Pu.loc rfl) (Pu.loc rfl) ((Pu.add (Pu.loc rfl) (Pu.c (iP 5) _)).cast (by rw [Int.natCast_add]; rfl)) h.rows (by simp [intsP]; omega) (by omega)
    rw [show k + 5 - k = 5 by omega, hgi] at e
    unfold rm5
    rw [asgS e]
    rfl
  -- the text before
  obtain ⟨tl, htl⟩ : ∃ tl, T[T.length - 1]? = some tl := ⟨_, List.getElem?_eq_getElem (by have := h.ne; omega)⟩
  have gtl : GoodL tl := h.good tl (List.mem_of_getElem? htl)
  have s6 : asg1 (lastM (getL 3)) (setL 6) ⟨[l0, some (.fl (.ref kr)), some (.fl (.ref kk)), some (.fl (.ref kt)), some (iP (k : Int)), some (.fl (.ref kg)), l6, l7, l8, l9, l10, l11, l12, l13, l14, l15], m1⟩ = some (.next, ⟨[l0, some (.fl (.ref kr)), some (.fl (.ref kk)), some (.fl (.ref kt)), some (iP (k : Int)), some (.fl (.ref kg)), some (sP tl), l7, l8, l9, l10, l11, l12, l13, l14, l15], m1⟩) :=
    (Pu.last (k := kt) (xs := T.map fun t => sP t) (v := sP tl) (Pu.loc rfl) h1.texts (by simp; omega) (by simp [htl])).asg
  obtain ⟨t', y7, gt', s7⟩ := turn_loop hkg (l0 := l0) (l1 := some (.fl (.ref kr))) (l2 := some (.fl (.ref kk))) (l3 := some (.fl (.ref kt))) (l4 := some (iP (k : Int))) (l5 := some (.fl (.ref kg))) (l8 := l8) (l9 := l9) (l10 := l10) (l11 := l11) (l12 := l12) (l13 := l13) (l14 := l14) (l15 := l15) g 1000 0 tl l7 (by simp) (by omega) gtl
  have s7 := (forListM_ap (f := setL 7) (b := turnB) (fuel := 1000) (m := getL 5) (st := ⟨[l0, some (.fl (.ref kr)), some (.fl (.ref kk)), some (.fl (.ref kt)), some (iP (k : Int)), some (.fl (.ref kg)), some (sP tl), l7, l8, l9, l10, l11, l12, l13, l14, l15], m1⟩) rfl hkg).trans s7
  -- the text beside
  obtain ⟨q, hq1, hq2⟩ := fmod_nat (v0.fdiv 11) h.ne
  obtain ⟨o, ho⟩ : ∃ o, T[q]? = some o := ⟨_, List.getElem?_eq_getElem hq1⟩
  have go : GoodL o := h.good o (List.mem_of_getElem? ho)
  have pg0 : ∀ {ls : List (Option PV)} {m : List MO}, ls[5]? = some (some (.fl (.ref kg))) → m[kg]? = some (.list (intsP g)) → Pu (subM (getL 5) (cst (.fl (.int 0)))) ⟨ls, m⟩ (iP v0) := fun a b =>
    Pu.item (n := 0) (Pu.loc a) (Pu.c _ _) b (by rw [ints_get, g0]; rfl) (by omega)
  have pgL : ∀ {ls : List (Option PV)} {m : List MO}, ls[5]? = some (some (.fl (.ref kg))) → m[kg]? = some (.list (intsP g)) → Pu (lastM (getL 5)) ⟨ls, m⟩ (iP vL) := fun a b =>
    Pu.last (Pu.loc a) b (by simp [intsP]; omega) (by simp only [intsP, List.length_map]; have := ints_get g (g.length - 1); unfold intsP at this; rw [this, gL]; rfl)
  have s8 : rm8 ⟨[l0, some (.fl (.ref kr)), some (.fl (.ref kk)), some (.fl (.ref kt)), some (iP (k : Int)), some (.fl (.ref kg)), some (sP t'), y7, l8, l9, l10, l11, l12, l13, l14, l15], m1⟩ = some (.next, ⟨[l0, some (.fl (.ref kr)), some (.fl (.ref kk)), some (.fl (.ref kt)), some (iP (k : Int)), some (.fl (.ref kg)), some (sP t'), y7, some (sP o), l9, l10, l11, l12, l13, l14, l15], m1⟩) :=
    (Pu.item (n := q) (k := kt) (xs := T.map fun t => sP t) (v := sP o) (Pu.loc rfl) ((Pu.mod (Pu.fdiv (pg0 rfl hkg) (Pu.c (iP 11) _) (by decide) (by decide)) (Pu.lenL (k := kt) (xs := T.map fun t => sP t) (Pu.loc rfl) h1.texts (by rw [List.length_map]; omega)) (by have := h.ne; rw [List.length_map]; omega)).cast (by
      rw [List.length_map, hq2])) h1.texts (by simp [ho]) (by omega)).asg
  let m2 := m1.set kt (.list ((T.map fun t => sP t) ++ [sP t']))
  have h2 : RdI r0 rs ks kr kk kt (T ++ [t']) m2 := h1.put gt'
  have hkl : kt < mem.length := (List.getElem?_eq_some_iff.mp h.texts).1
  have hkg2 : m2[kg]? = some (.list (intsP g)) := by
    show (m1.set kt _)[kg]? = _
    rw [List.getElem?_set_ne (by simp only [kg]; omega)]; exact hkg
  have s9 : appM (getL 3) (getL 6) ⟨[l0, some (.fl (.ref kr)), some (.fl (.ref kk)), some (.fl (.ref kt)), some (iP (k : Int)), some (.fl (.ref kg)), some (sP t'), y7, some (sP o), l9, l10, l11, l12, l13, l14, l15], m1⟩ = some (.next, ⟨[l0, some (.fl (.ref kr)), some (.fl (.ref kk)), some (.fl (.ref kt)), some (iP (k : Int)), some (.fl (.ref kg)), some (sP t'), y7, some (sP o), l9, l10, l11, l12, l13, l14, l15], m2⟩) :=
    Pu.app (Pu.loc rfl) (Pu.loc rfl) h1.texts (by simp; omega)
  -- turned about
  obtain ⟨one, two, gone, gtwo, s10⟩ : ∃ one two, GoodL one ∧ GoodL two ∧ rm10 ⟨[l0, some (.fl (.ref kr)), some (.fl (.ref kk)), some (.fl (.ref kt)), some (iP (k : Int)), some (.fl (.ref kg)), some (sP t'), y7, some (sP o), l9, l10, l11, l12, l13, l14, l15], m2⟩ = some (.next, ⟨[l0, some (.fl (.ref kr)), some (.fl (.ref kk)), some (.fl (.ref kt)), some (iP (k : Int)), some (.fl (.ref kg)), some (sP two), y7, some (sP one), l9, l10, l11, l12, l13, l14, l15], m2⟩) := by
    have ht := PuT.eqI (Pu.mod (pgL (ls := [l0, some (.fl (.ref kr)), some (.fl (.ref kk)), some (.fl (.ref kt)), some (iP (k : Int)), some (.fl (.ref kg)), some (sP t'), y7, some (sP o), l9, l10, l11, l12, l13, l14, l15]) rfl hkg2) (Pu.c (iP 2) _) (by decide)) (Pu.c (iP 1) _)
    by_cases c : vL.fmod 2 = 1
    · refine ⟨t', o, gt', go, ?_⟩
      unfold rm10
      rw [(ht.cast (decide_eq_true c)).ite_t]
      exact blk_next (Pu.asgSw (f := .str (mkS t')) (g := .str (mkS o)) (Pu.loc rfl) (Pu.loc rfl))
    · exact ⟨o, t', go, gt', (ht.cast (decide_eq_false c)).skip _⟩
  obtain ⟨w, hw1, hw2⟩ := fmod_nat (v0 + (k : Int).fdiv 5) (n := 3) (by omega)
  have hw2 : (v0 + (k : Int).fdiv 5).fmod 3 = (w : Int) := hw2
  have s11 : rm11 ⟨[l0, some (.fl (.ref kr)), some (.fl (.ref kk)), some (.fl (.ref kt)), some (iP (k : Int)), some (.fl (.ref kg)), some (sP two), y7, some (sP one), l9, l10, l11, l12, l13, l14, l15], m2⟩ = some (.next, ⟨[l0, some (.fl (.ref kr)), some (.fl (.ref kk)), some (.fl (.ref kt)), some (iP (k : Int)), some (.fl (.ref kg)), some (sP two), y7, some (sP one), some (iP (w : Int)), l10, l11, l12, l13, l14, l15], m2⟩) :=
    ((Pu.mod (Pu.add (pg0 rfl hkg2) (Pu.fdiv (Pu.loc rfl) (Pu.c (iP 5) _) (by decide) (by decide))) (Pu.c (iP 3) _) (by decide)).cast (by rw [hw2])).asg
  -- the distance by the table
  have hsw : (decide ((w : Int) = 1) || (decide ((w : Int) = 2) && decide (r0.fmod 2 = 0))) = swsOf r0 w := by
    have : w = 0 ∨ w = 1 ∨ w = 2 := by omega
    rcases this with rfl | rfl | rfl <;> simp [swsOf]
  obtain ⟨x, hx⟩ := far_call (sw := swsOf r0 w) (a := one) (b := two) (by have := gone.1; omega) (by have := gtwo.1; omega) m2
  let m3 := m2 ++ [x]
  have h3 : RdI r0 rs ks kr kk kt (T ++ [t']) m3 := h2.grow _
  have hkg3 : m3[kg]? = some (.list (intsP g)) := by show (m2 ++ [x])[kg]? = _; rw [List.getElem?_append_left (List.getElem?_eq_some_iff.mp hkg2).1]; exact hkg2
  let d := ((dist (swsOf r0 w) one two : Nat) : Int)
  have s12 : rm12 ⟨[l0, some (.fl (.ref kr)), some (.fl (.ref kk)), some (.fl (.ref kt)), some (iP (k : Int)), some (.fl (.ref kg)), some (sP two), y7, some (sP one), some (iP (w : Int)), l10, l11, l12, l13, l14, l15], m2⟩ = some (.next, ⟨[l0, some (.fl (.ref kr)), some (.fl (.ref kk)), some (.fl (.ref kt)), some (iP (k : Int)), some (.fl (.ref kg)), some (sP two), y7, some (sP one), some (iP (w : Int)), some (iP d), l11, l12, l13, l14, l15], m3⟩) := by
    have hb : Pu (orB [(ofB (cmpM .Eq (getL 9) (cst (.fl (.int 1))))), (andB [(ofB (cmpM .Eq (getL 9) (cst (.fl (.int 2))))), (ofB (cmpM .Eq (binX .Mod (subM (getL 1) (cst (.fl (.int 0)))) (cst (.fl (.int 2)))) (cst (.fl (.int 0)))))])]) ⟨[l0, some (.fl (.ref kr)), some (.fl (.ref kk)), some (.fl (.ref kt)), some (iP (k : Int)), some (.fl (.ref kg)), some (sP two), y7, some (sP one), some (iP (w : Int)), l10, l11, l12, l13, l14, l15], m2⟩ (.fl (.bool (swsOf r0 w))) :=
      (Pu.orB2 (Pu.ofB (PuT.eqI (Pu.loc rfl) (Pu.c (iP 1) _))) fun _ => Pu.andB2 (Pu.ofB (PuT.eqI (Pu.loc rfl) (Pu.c (iP 2) _))) fun _ => Pu.ofB (PuT.eqI (Pu.mod (Pu.item (n := 0) (k := kr) (xs := intsP rs) (Pu.loc rfl) (Pu.c _ _) h2.rows (by rw [ints_get, hr0]; rfl) (by omega)) (Pu.c (iP 2) _) (by decide)) (Pu.c (iP 0) _))).cast (by rw [hsw])
    have e : runM [] [(getL 8), (getL 6), (orB [(ofB (cmpM .Eq (getL 9) (cst (.fl (.int 1))))), (andB [(ofB (cmpM .Eq (getL 9) (cst (.fl (.int 2))))), (ofB (cmpM .Eq (binX .Mod (subM (getL 1) (cst (.fl (.int 0)))) (cst (.fl (.int 2)))) (cst (.fl (.int 0)))))])])] far_fm ⟨[l0, some (.fl (.ref kr)), some (.fl (.ref kk)), some (.fl (.ref kt)), some (iP (k : Int)), some (.fl (.ref kg)), some (sP two), y7, some (sP one), some (iP (w : Int)), l10, l11, l12, l13, l14, l15], m2⟩ = some (iP d, ⟨_, m3⟩) :=
      Pu.run1 (Pu.seq3 (Pu.loc (v := sP one) rfl) (Pu.loc (v := sP two) rfl) hb) hx
    unfold rm12
    rw [asgS e]
    rfl
  -- three bounds
  obtain ⟨p, hp1, hp2⟩ := fmod_nat vL (n := 3) (by omega)
  have hp2 : vL.fmod 3 = (p : Int) := hp2
  obtain ⟨b2, hb2⟩ : ∃ b2 : Int, ([.int d, .int (d + 1), .int 2147483648] : List FV)[p]? = some (.int b2) := by
    have : p = 0 ∨ p = 1 ∨ p = 2 := by omega
    rcases this with rfl | rfl | rfl <;> exact ⟨_, rfl⟩
  have htup : Pu (tupM [(binM .Sub (getL 10) (cst (.fl (.int 1)))), (subTM (tupM [(getL 10), (binM .Add (getL 10) (cst (.fl (.int 1)))), (binX .Pow (cst (.fl (.int 2))) (cst (.fl (.int 31))))]) (binX .Mod (lastM (getL 5)) (cst (.fl (.int 3))))), (binM .Sub (binX .Mod (binX .FloorDiv (subM (getL 5) (cst (.fl (.int 0)))) (cst (.fl (.int 3)))) (cst (.fl (.int 9)))) (cst (.fl (.int 2))))])
      ⟨[l0, some (.fl (.ref kr)), some (.fl (.ref kk)), some (.fl (.ref kt)), some (iP (k : Int)), some (.fl (.ref kg)), some (sP two), y7, some (sP one), some (iP (w : Int)), some (iP d), l11, l12, l13, l14, l15], m3⟩ (.tup [.int (d - 1), .int b2, .int ((v0.fdiv 3).fmod 9 - 2)]) :=
    Pu.tup3 (Pu.sub (Pu.loc rfl) (Pu.c (iP 1) _)) (Pu.subT (n := p) (Pu.tup3 (f := .int d) (g := .int (d + 1)) (h := .int 2147483648) (Pu.loc rfl) (Pu.add (Pu.loc rfl) (Pu.c (iP 1) _)) (Pu.pow31 _)) ((Pu.mod (pgL rfl hkg3) (Pu.c (iP 3) _) (by decide)).cast (by rw [hp2])) hb2 (by omega))
      (Pu.sub (Pu.mod (Pu.fdiv (pg0 rfl hkg3) (Pu.c (iP 3) _) (by decide) (by decide)) (Pu.c (iP 9) _) (by decide)) (Pu.c (iP 2) _))
  have step : ∀ (b : Int) (m : List MO) (x11 x12 : Option PV), RdI r0 rs ks kr kk kt (T ++ [t']) m → ∃ m' y12, RdI r0 rs ks kr kk kt (T ++ [t']) m' ∧ ∀ r : List FV, loopT (setL 11) cmpB (.int b :: r) ⟨[l0, some (.fl (.ref kr)), some (.fl (.ref kk)), some (.fl (.ref kt)), some (iP (k : Int)), some (.fl (.ref kg)), some (sP two), y7, some (sP one), some (iP (w : Int)), some (iP d), x11, x12, l13, l14, l15], m⟩ =
      loopT (setL 11) cmpB r ⟨[l0, some (.fl (.ref kr)), some (.fl (.ref kk)), some (.fl (.ref kt)), some (iP (k : Int)), some (.fl (.ref kg)), some (sP two), y7, some (sP one), some (iP (w : Int)), some (iP d), some (iP b), y12, l13, l14, l15], m'⟩ := fun b m x11 x12 hm => by
    obtain ⟨m', y12, a1, a2, a3, a4⟩ := cmpB_at hm.inv hm.kept (one := one) (two := two) (by have := gone.1; omega) (by have := gtwo.1; omega) hw1 b (l0 := l0) (l1 := some (.fl (.ref kr))) (l3 := some (.fl (.ref kt))) (l4 := some (iP (k : Int))) (l5 := some (.fl (.ref kg))) (l7 := y7) (l12 := x12) (l13 := l13) (l14 := l14) (l15 := l15)
    exact ⟨m', y12, hm.after a1 a2, fun r => loopT_cons rfl a4⟩
  obtain ⟨n1, z1, k1, e1⟩ := step (d - 1) m3 l11 l12 h3
  obtain ⟨n2, z2, k2, e2⟩ := step b2 n1 (some (iP (d - 1))) z1 k1
  obtain ⟨n3, z3, k3, e3⟩ := step ((v0.fdiv 3).fmod 9 - 2) n2 (some (iP b2)) z2 k2
  have s13 : rm13 ⟨[l0, some (.fl (.ref kr)), some (.fl (.ref kk)), some (.fl (.ref kt)), some (iP (k : Int)), some (.fl (.ref kg)), some (sP two), y7, some (sP one), some (iP (w : Int)), some (iP d), l11, l12, l13, l14, l15], m3⟩ = some (.next, ⟨[l0, some (.fl (.ref kr)), some (.fl (.ref kk)), some (.fl (.ref kt)), some (iP (k : Int)), some (.fl (.ref kg)), some (sP two), y7, some (sP one), some (iP (w : Int)), some (iP d), some (iP ((v0.fdiv 3).fmod 9 - 2)), z3, l13, l14, l15], n3⟩) := by
    unfold rm13
    rw [forTup_at htup, e1, e2, e3]
    rfl
  refine ⟨T ++ [t'], n3, some (.fl (.ref kg)), some (sP two), y7, some (sP one), some (iP (w : Int)), some (iP d), some (iP ((v0.fdiv 3).fmod 9 - 2)), z3, k3, by simp, ?_⟩
  unfold round2
  rw [blk_next s5, blk_next s6, blk_next s7, blk_next s8, blk_next s9, blk_next s10, blk_next s11, blk_next s12, blk_next s13]
  rfl
end Mine

/-! CEv20 -/
namespace Mine

theorem rounds2_at {r0 : Int} {rs : List Int} {ks : Nat → Nat} {kr kk kt : Nat} (hr0 : rs[0]? = some r0) (hrl : rs.length ≤ 15) {l0 l13 l14 l15 : Option PV} : ∀ (n k : Nat) (T : List (List Nat)) (mem : List MO) (l4 l5 l6 l7 l8 l9 l10 l11 l12 : Option PV), RdI r0 rs ks kr kk kt T mem → T.length + n ≤ 100 → (n = 0 ∨ k + 5 * n < rs.length + 5) →
    ∃ T' mem' y4 y5 y6 y7 y8 y9 y10 y11 y12, RdI r0 rs ks kr kk kt T' mem' ∧ T'.length ≤ 100 ∧
      loopR (setL 4) round2 5 n (k : Int) ⟨[l0, some (.fl (.ref kr)), some (.fl (.ref kk)), some (.fl (.ref kt)), l4, l5, l6, l7, l8, l9, l10, l11, l12, l13, l14, l15], mem⟩ =
        some (.next, ⟨[l0, some (.fl (.ref kr)), some (.fl (.ref kk)), some (.fl (.ref kt)), y4, y5, y6, y7, y8, y9, y10, y11, y12, l13, l14, l15], mem'⟩)
  | 0, k, T, mem, l4, l5, l6, l7, l8, l9, l10, l11, l12, h, hT, hk => ⟨T, mem, l4, l5, l6, l7, l8, l9, l10, l11, l12, h, by omega, loopR_zero_ap _ _ _ _ _⟩
  | n + 1, k, T, mem, l4, l5, l6, l7, l8, l9, l10, l11, l12, h, hT, hk => by
    obtain ⟨T1, m1, y5, y6, y7, y8, y9, y10, y11, y12, q1, q2, q3⟩ := round2_at h hr0 hrl (by omega) (k := k) (by omega) (l0 := l0) (l5 := l5) (l6 := l6) (l7 := l7) (l8 := l8) (l9 := l9) (l10 := l10) (l11 := l11) (l12 := l12) (l13 := l13) (l14 := l14) (l15 := l15)
    obtain ⟨T', m', z4, z5, z6, z7, z8, z9, z10, z11, z12, r1, r2, r3⟩ := rounds2_at hr0 hrl (l0 := l0) (l13 := l13) (l14 := l14) (l15 := l15) n (k + 5) T1 m1 (some (iP (k : Int))) y5 y6 y7 y8 y9 y10 y11 y12 q1 (by omega) (by omega)
    refine ⟨T', m', z4, z5, z6, z7, z8, z9, z10, z11, z12, r1, r2, ?_⟩
    rw [loopR_succ_ap, setL_ap]
    dsimp only [List.set_cons_succ, List.set_cons_zero]
    have q3' : round2 ⟨[l0, some (.fl (.ref kr)), some (.fl (.ref kk)), some (.fl (.ref kt)), some (.fl (.int (k : Int))), l5, l6, l7, l8, l9, l10, l11, l12, l13, l14, l15], mem⟩ = _ := q3
    rw [q3']
    have e : (k : Int) + 5 = ((k + 5 : Nat) : Int) := by omega
    dsimp only
    rw [e]
    exact r3
theorem rng3_up {n : Nat} (h : n ≤ 1000) (h1 : 0 < n) : ∃ c : Nat, rng3 [iP 0, iP (n : Int), iP 5] = some (0, c, 5) ∧ 5 * c < n + 5 ∧ c ≤ n := by
  have e : Builtin.Range.rangeSize 0 (n : Int) 5 = (((n - 1) / 5 + 1 : Nat) : Int) := by
    unfold Builtin.Range.rangeSize
    rw [if_pos (by decide)]
    split <;> omega
  refine ⟨(n - 1) / 5 + 1, ?_, by omega, by omega⟩
  unfold rng3
  dsimp only
  rw [if_pos ⟨.inl rfl, by decide, by omega⟩, e, Int.toNat_natCast]

/-! the rows -/
theorem rows_at (bs : Addr) (ns : List Int) (h : ns.length ≤ 63) (l : List (Option PV)) (hl : l[0]? = some (some (.fl (.obj bs)))) :
    ∃ (rs : List Int) (kr : Nat) (mem : List MO) (r0 : Int), rs[0]? = some r0 ∧ 0 < rs.length ∧ rs.length ≤ 15 ∧ mem[kr]? = some (.list (intsP rs)) ∧ orLM (upToBM bs (intsP ns) 15 (getL 0)) (listM [(cst (.fl (.int 8)))]) ⟨l, []⟩ = some (.fl (.ref kr), ⟨l, mem⟩) := by
  have hu : upToBM bs (intsP ns) 15 (getL 0) ⟨l, []⟩ = some (.fl (.ref 0), ⟨l, [.list ((intsP ns).take 15)]⟩) := by
    unfold upToBM
    rw [bindM_ap, getL_ap, hl]
    dsimp only
    rw [if_pos ⟨rfl, by simp [intsP]; omega⟩]
    rfl
  have ho : orLM (upToBM bs (intsP ns) 15 (getL 0)) (listM [(cst (.fl (.int 8)))]) ⟨l, []⟩ = if ((intsP ns).take 15).length < 2 ^ 20 then (if ((intsP ns).take 15).length = 0 then listM [(cst (.fl (.int 8)))] ⟨l, [.list ((intsP ns).take 15)]⟩ else some (.fl (.ref 0), ⟨l, [.list ((intsP ns).take 15)]⟩)) else none := by
    unfold orLM
    rw [bindM_ap, hu]
    rfl
  rw [if_pos (by rw [List.length_take]; omega)] at ho
  cases ns with
  | nil =>
    refine ⟨[8], 1, [.list [], .list [iP 8]], 8, rfl, by decide, by decide, rfl, ?_⟩
    rw [ho]
    rfl
  | cons x ns =>
    have e : (intsP (x :: ns)).take 15 = intsP ((x :: ns).take 15) := by simp only [intsP, List.map_take]
    refine ⟨(x :: ns).take 15, 0, [.list (intsP ((x :: ns).take 15))], x, rfl, by simp, by simp; omega, rfl, ?_⟩
    rw [ho, e, if_neg (by simp [intsP])]

/-! None beside a text -/
theorem neS {ml mr : Mo PV} {st s1 : St} {a b : Int} (h1 : ml st = some (iP a, s1)) (h2 : Pu mr s1 (iP b)) : cmpM .NotEq ml mr st = some (decide (¬ a = b), s1) := by
  unfold Pu at h2
  rw [cmpM_ap, h1]
  dsimp only
  rw [h2]
  dsimp only
  rw [cmp_ne_i]
theorem eqS {ml mr : Mo PV} {st s1 : St} {a b : Int} (h1 : ml st = some (iP a, s1)) (h2 : Pu mr s1 (iP b)) : cmpM .Eq ml mr st = some (decide (a = b), s1) := by
  unfold Pu at h2
  rw [cmpM_ap, h1]
  dsimp only
  rw [h2]
  dsimp only
  rw [cmp_eq_i]
theorem neSame {ml mr : Mo PV} {st s1 : St} {a : Int} (h1 : ml st = some (iP a, s1)) (h2 : Pu mr s1 (iP a)) : cmpM .NotEq ml mr st = some (false, s1) := by
  rw [neS h1 h2]; simp
theorem orS {m : Mo Bool} {ms : List (Mo Bool)} {st s1 : St} (h : m st = some (false, s1)) : orM (m :: ms) st = orM ms s1 := by rw [orM_cons_ap, h]
noncomputable def loneB : Mo Fl := (blkM [(iteM (orM [(cmpM .NotEq (methM cmpTab (getL 8) "compare" [(cst (.fl .none)), (getL 13), (getL 11)]) (getL 14)), (cmpM .NotEq (methM cmpTab (getL 8) "compare" [(getL 13), (cst (.fl .none)), (getL 11)]) (getL 14)), (cmpM .NotEq (methM cmpTab (getL 8) "compare" [(cst (.fl .none)), (cst (.fl .none)), (getL 11)]) (cst (.fl (.int 0))))]) (blkM [(retM (cst (.fl (.bool false))))]) (blkM []))])
theorem loneB_at {r0 : Int} {rs : List Int} {ks : Nat → Nat} {kr kk kt : Nat} {T : List (List Nat)} {mem : List MO} (h : RdI r0 rs ks kr kk kt T mem) {i : Nat} (hi : i < 3) {t : List Nat} (ht : GoodL t) {b : Int} {l0 l1 l2 l3 l4 l5 l6 l7 l9 l10 l12 l15 : Option PV} :
    ∃ mem', RdI r0 rs ks kr kk kt T mem' ∧ loneB ⟨[l0, l1, l2, l3, l4, l5, l6, l7, some (.fl (.ref (ks i))), l9, l10, some (iP b), l12, some (sP t), some (iP (lone t.length b)), l15], mem⟩ =
      some (.next, ⟨[l0, l1, l2, l3, l4, l5, l6, l7, some (.fl (.ref (ks i))), l9, l10, some (iP b), l12, some (sP t), some (iP (lone t.length b)), l15], mem'⟩) := by
  let ls : List (Option PV) := [l0, l1, l2, l3, l4, l5, l6, l7, some (.fl (.ref (ks i))), l9, l10, some (iP b), l12, some (sP t), some (iP (lone t.length b)), l15]
  have htl : TextLe 1000 (.str (mkS t)) := textLe_mk (by have := ht.1; omega)
  obtain ⟨m1, a1, a2, a3, a4⟩ := meth_cmp (l := ls) h.inv hi (mo := getL 8) (ma := cst (.fl .none)) (mb := getL 13) (mc := getL 11) (Pu.loc rfl) (t1 := .none) trivial htl (lim := b) (Pu.c _ _) (Pu.loc rfl) (Pu.loc rfl)
  have h1 := h.after a1 a2
  obtain ⟨m2, b1, b2, b3, b4⟩ := meth_cmp (l := ls) h1.inv hi (mo := getL 8) (ma := getL 13) (mb := cst (.fl .none)) (mc := getL 11) (Pu.loc rfl) htl (t2 := .none) trivial (lim := b) (Pu.loc rfl) (Pu.c _ _) (Pu.loc rfl)
  have h2 := h1.after b1 b2
  obtain ⟨m3, c1, c2, c3, c4⟩ := meth_cmp (l := ls) h2.inv hi (mo := getL 8) (ma := cst (.fl .none)) (mb := cst (.fl .none)) (mc := getL 11) (Pu.loc rfl) (t1 := .none) trivial (t2 := .none) trivial (lim := b) (Pu.c _ _) (Pu.c _ _) (Pu.loc rfl)
  have e1 : ans (swsOf r0 i) .none (.str (mkS t)) b = lone t.length b := by show lone (mkS t).length b = _; rw [mkS_len]
  have e2 : ans (swsOf r0 i) (.str (mkS t)) .none b = lone t.length b := by show lone (mkS t).length b = _; rw [mkS_len]
  have e3 : ans (swsOf r0 i) .none .none b = 0 := rfl
  rw [e1] at a4
  rw [e2] at b4
  rw [e3] at c4
  refine ⟨m3, h2.after c1 c2, ?_⟩
  have ht : orM [(cmpM .NotEq (methM cmpTab (getL 8) "compare" [(cst (.fl .none)), (getL 13), (getL 11)]) (getL 14)), (cmpM .NotEq (methM cmpTab (getL 8) "compare" [(getL 13), (cst (.fl .none)), (getL 11)]) (getL 14)), (cmpM .NotEq (methM cmpTab (getL 8) "compare" [(cst (.fl .none)), (cst (.fl .none)), (getL 11)]) (cst (.fl (.int 0))))] ⟨ls, mem⟩ = some (false, ⟨ls, m3⟩) := by
    rw [orS (neSame a4 (Pu.loc rfl)), orS (neSame b4 (Pu.loc rfl)), orS (neSame c4 (Pu.c (iP 0) _))]
    rfl
  unfold loneB
  show blkM _ ⟨ls, mem⟩ = _
  rw [blkM_cons_ap, iteM_ap, ht]
  rfl
theorem lones_at {r0 : Int} {rs : List Int} {ks : Nat → Nat} {kr kk kt : Nat} {T : List (List Nat)} {t : List Nat} (ht : GoodL t) {b : Int} {l0 l1 l2 l3 l4 l5 l6 l7 l9 l10 l12 l15 : Option PV} : ∀ (d i n : Nat) (mem : List MO) (l8 : Option PV), i + d = 3 → d < n → RdI r0 rs ks kr kk kt T mem →
    ∃ mem' y8, RdI r0 rs ks kr kk kt T mem' ∧ loopL kk (setL 8) loneB n i ⟨[l0, l1, l2, l3, l4, l5, l6, l7, l8, l9, l10, some (iP b), l12, some (sP t), some (iP (lone t.length b)), l15], mem⟩ =
      some (.next, ⟨[l0, l1, l2, l3, l4, l5, l6, l7, y8, l9, l10, some (iP b), l12, some (sP t), some (iP (lone t.length b)), l15], mem'⟩)
  | 0, i, n, mem, l8, hd, hn, h => by
    obtain ⟨n, rfl⟩ : ∃ q, n = q + 1 := ⟨n - 1, by omega⟩
    obtain rfl : i = 3 := by omega
    exact ⟨mem, l8, h, loopL_end_ap h.kept rfl⟩
  | d + 1, i, n, mem, l8, hd, hn, h => by
    obtain ⟨n, rfl⟩ : ∃ q, n = q + 1 := ⟨n - 1, by omega⟩
    have hi : i < 3 := by omega
    obtain ⟨m1, q1, q2⟩ := loneB_at h hi ht (b := b) (l0 := l0) (l1 := l1) (l2 := l2) (l3 := l3) (l4 := l4) (l5 := l5) (l6 := l6) (l7 := l7) (l9 := l9) (l10 := l10) (l12 := l12) (l15 := l15)
    obtain ⟨m2, y8, r1, r2⟩ := lones_at ht (l0 := l0) (l1 := l1) (l2 := l2) (l3 := l3) (l4 := l4) (l5 := l5) (l6 := l6) (l7 := l7) (l9 := l9) (l10 := l10) (l12 := l12) (l15 := l15) d (i + 1) n m1 (some (.fl (.ref (ks i)))) (by omega) (by omega) q1
    refine ⟨m2, y8, r1, ?_⟩
    have hget : ([.fl (.ref (ks 0)), .fl (.ref (ks 1)), .fl (.ref (ks 2))] : List PV)[i]? = some (.fl (.ref (ks i))) := by
      have : i = 0 ∨ i = 1 ∨ i = 2 := by omega
      rcases this with rfl | rfl | rfl <;> rfl
    rw [loopL_cons_ap h.kept hget, setL_ap]
    dsimp only [List.set_cons_succ, List.set_cons_zero]
    rw [q2]
    exact r2
end Mine

/-! CEv21 -/
namespace Mine

theorem mul_three {l : List Nat} (h : l.length ≤ 1000) : mulSF (sP l) (iP 3) = some (sP (l ++ l ++ l)) := by
  unfold mulSF
  dsimp only
  rw [if_pos ⟨by decide, by decide, by rw [mkS_len]; exact h⟩]
  by_cases h0 : l.length = 0
  · have : l = [] := List.length_eq_zero_iff.mp h0
    subst this
    rfl
  · rw [if_neg (by rw [mkS_len]; omega)]
    have e : ((List.replicate (3 : Int).toNat (mkS l).cps).foldl (· ++ ·) #[]) = (l ++ l ++ l).toArray := by
      show (((#[] ++ (mkS l).cps) ++ (mkS l).cps) ++ (mkS l).cps) = _
      simp [mkS]
    rw [e]
    rfl
theorem mul_d : mulSF (.fl (.str (Str.ofString "d"))) (iP 9) = some (sP (List.replicate 9 100)) := by
  unfold mulSF
  dsimp only
  rw [if_pos ⟨by decide, by decide, by decide +kernel⟩, if_neg (by decide +kernel)]
  have e : ((List.replicate (9 : Int).toNat (Str.ofString "d").cps).foldl (· ++ ·) #[]) = (List.replicate 9 100).toArray := by decide +kernel
  rw [e]
  rfl
theorem Pu.mulS {a b : Mo PV} {st : St} {x y z : PV} (h1 : Pu a st x) (h2 : Pu b st y) (h3 : mulSF x y = some z) : Pu (mulSM a b) st z := bin2_at mulSF h1 h2 h3
theorem andS {m m2 : Mo PV} {r : List (Mo PV)} {st s1 : St} (h : m st = some (.fl (.bool true), s1)) : andB (m :: m2 :: r) st = andB (m2 :: r) s1 := by
  rw [andB, bindM_ap, h]
theorem andE {m : Mo PV} {st s1 : St} (h : m st = some (.fl (.bool true), s1)) : andB [m] st = some (.fl (.bool true), s1) := by
  rw [andB, bindM_ap, h]
theorem ofBS {m : Mo Bool} {st s1 : St} {b : Bool} (h : m st = some (b, s1)) : ofB m st = some (.fl (.bool b), s1) := by
  unfold ofB
  rw [bindM_ap, h]
  rfl
noncomputable def lastRet : Mo PV := (andB [(ofB (cmpM .Eq (methM cmpTab (subM (getL 2) (binX .Mod (binX .FloorDiv (subM (getL 1) (cst (.fl (.int 0)))) (cst (.fl (.int 3)))) (cst (.fl (.int 3))))) "compare" [(sliceSM (mulSM (getL 13) (cst (.fl (.int 3)))) none (some (cst (.fl (.int 9))))), (mulSM (cst (.fl (.str (Str.ofString "d")))) (cst (.fl (.int 9)))), (getL 15)]) (iteM (cmpM .Gt (getL 15) (cst (.fl (.int 8)))) (cst (.fl (.int 9))) (cst (.fl (.int (-1))))))), (runM [] [(cst (.fl (.obj 676))), (cst (.fl .none))] rfs_fm), (runM [] [(subM (getL 1) (cst (.fl (.int 0)))), (cst (.fl .none))] rfs_fm), (runM [] [(cst (.fl (.obj 676))), (subM (getL 1) (cst (.fl (.int 0))))] rfs_fm)])
theorem lastRet_at {r0 : Int} {rs : List Int} {ks : Nat → Nat} {kr kk kt : Nat} {T : List (List Nat)} {mem : List MO} (h : RdI r0 rs ks kr kk kt T mem) (hr0 : rs[0]? = some r0) {t : List Nat} (ht : GoodL t) {great : Int} {l0 l3 l4 l5 l6 l7 l8 l9 l10 l11 l12 l14 : Option PV} :
    ∃ st', lastRet ⟨[l0, some (.fl (.ref kr)), some (.fl (.ref kk)), l3, l4, l5, l6, l7, l8, l9, l10, l11, l12, some (sP t), l14, some (iP great)], mem⟩ = some (.fl (.bool true), st') := by
  let ls : List (Option PV) := [l0, some (.fl (.ref kr)), some (.fl (.ref kk)), l3, l4, l5, l6, l7, l8, l9, l10, l11, l12, some (sP t), l14, some (iP great)]
  have pr : ∀ {m : List MO}, m[kr]? = some (.list (intsP rs)) → Pu (subM (getL 1) (cst (.fl (.int 0)))) ⟨ls, m⟩ (iP r0) := fun hm =>
    Pu.item (n := 0) (k := kr) (xs := intsP rs) (Pu.loc rfl) (Pu.c _ _) hm (by rw [ints_get, hr0]; rfl) (by omega)
  obtain ⟨w, hw1, hw2⟩ := fmod_nat (r0.fdiv 3) (n := 3) (by omega)
  have hw2 : (r0.fdiv 3).fmod 3 = (w : Int) := hw2
  have hget : ([.fl (.ref (ks 0)), .fl (.ref (ks 1)), .fl (.ref (ks 2))] : List PV)[w]? = some (.fl (.ref (ks w))) := by
    have : w = 0 ∨ w = 1 ∨ w = 2 := by omega
    rcases this with rfl | rfl | rfl <;> rfl
  have po : Pu (subM (getL 2) (binX .Mod (binX .FloorDiv (subM (getL 1) (cst (.fl (.int 0)))) (cst (.fl (.int 3)))) (cst (.fl (.int 3))))) ⟨ls, mem⟩ (.fl (.ref (ks w))) :=
    Pu.item (n := w) (Pu.loc rfl) ((Pu.mod (Pu.fdiv (pr h.rows) (Pu.c (iP 3) _) (by decide) (by decide)) (Pu.c (iP 3) _) (by decide)).cast (by rw [hw2])) h.kept hget (by omega)
  have pa : Pu (sliceSM (mulSM (getL 13) (cst (.fl (.int 3)))) none (some (cst (.fl (.int 9))))) ⟨ls, mem⟩ (sP ((t ++ t ++ t).take 9)) :=
    Pu.slTo (n := 9) (Pu.mulS (Pu.loc rfl) (Pu.c (iP 3) _) (mul_three (by have := ht.1; omega))) (Pu.c (iP ((9 : Nat) : Int)) _) (by have := ht.1; simp; omega)
  have pb : Pu (mulSM (cst (.fl (.str (Str.ofString "d")))) (cst (.fl (.int 9)))) ⟨ls, mem⟩ (sP (List.replicate 9 100)) := Pu.mulS (Pu.c _ _) (Pu.c _ _) mul_d
  have hl9 : ((t ++ t ++ t).take 9).length ≤ 9 := by rw [List.length_take]; omega
  obtain ⟨m1, a1, a2, a3, a4⟩ := meth_cmp (l := ls) h.inv hw1 po (mc := getL 15) (textLe_mk (l := (t ++ t ++ t).take 9) (by omega)) (textLe_mk (l := List.replicate 9 100) (by simp)) (lim := great) pa pb (Pu.loc rfl)
  have h1 := h.after a1 a2
  have hd : dist (swsOf r0 w) ((t ++ t ++ t).take 9) (List.replicate 9 100) = 9 := dist_nine hl9 (nd_take (nd_app (nd_app ht.2 ht.2) ht.2) 9)
  rw [ans_mk, ansT_eq, hd] at a4
  have hx : Pu (iteM (cmpM .Gt (getL 15) (cst (.fl (.int 8)))) (cst (.fl (.int 9))) (cst (.fl (.int (-1))))) ⟨ls, m1⟩ (iP (if ((9 : Nat) : Int) ≤ great ∨ ((9 : Nat) : Int) = 0 then ((9 : Nat) : Int) else -1)) :=
    (Pu.ite (PuT.gtI (Pu.loc rfl) (Pu.c (iP 8) _)) (fun _ => Pu.c (iP 9) _) (fun _ => Pu.c (iP (-1)) _)).cast (by
      by_cases c : great > 8
      · rw [if_pos (decide_eq_true c), if_pos (.inl (by omega))]; rfl
      · rw [if_neg (by rw [decide_eq_false c]; simp), if_neg (by omega)])
  have s1 := ofBS ((eqS a4 hx).trans (by rw [decide_eq_true rfl]))
  have f1 : runM [] [(cst (.fl (.obj 676))), (cst (.fl .none))] rfs_fm ⟨ls, m1⟩ = some (.fl (.bool true), ⟨ls, m1⟩) := Pu.run1 (Pu.seq2 (Pu.c _ _) (Pu.c _ _)) rfl
  have f2 : runM [] [(subM (getL 1) (cst (.fl (.int 0)))), (cst (.fl .none))] rfs_fm ⟨ls, m1⟩ = some (.fl (.bool true), ⟨ls, m1⟩) := Pu.run1 (Pu.seq2 (pr h1.rows) (Pu.c _ _)) rfl
  have f3 : runM [] [(cst (.fl (.obj 676))), (subM (getL 1) (cst (.fl (.int 0))))] rfs_fm ⟨ls, m1⟩ = some (.fl (.bool true), ⟨ls, m1⟩) := Pu.run1 (Pu.seq2 (Pu.c _ _) (pr h1.rows)) rfl
  refine ⟨⟨ls, m1⟩, ?_⟩
  unfold lastRet
  show andB _ ⟨ls, mem⟩ = _
  rw [andS s1, andS f1, andS f2, andE f3]

noncomputable def lm13 : Mo Fl := (asgSw (tupM [(lastM (getL 3)), (binX .Mod (subM (getL 1) (cst (.fl (.int 0)))) (cst (.fl (.int 9))))]) [11, 13])
noncomputable def lm14 : Mo Fl := (asg1 (iteM (cmpM .LtE (bltM "len" [(getL 13)]) (getL 11)) (bltM "len" [(getL 13)]) (cst (.fl (.int (-1))))) (setL 14))
noncomputable def lm16 : Mo Fl := (asg1 (subTM (tupM [(cst (.fl (.int 8))), (cst (.fl (.int 9))), (binX .Pow (cst (.fl (.int 2))) (cst (.fl (.int 31))))]) (binX .Mod (subM (getL 1) (cst (.fl (.int 0)))) (cst (.fl (.int 3))))) (setL 15))
theorem law_m_eq2 (bs : Addr) (bx : List PV) : law_m bs bx (makeF 770 lvI_fm) (makeF 810 osI_fm) (makeF 728 edJ_fm) (makeF 728 edI_fm) trn_fm far_fm cmpTab rfs_fm =
    blkM [(asg1 (orLM (upToBM bs bx 15 (getL 0)) (listM [(cst (.fl (.int 8)))])) (setL 1)), (asg1 kept_m (setL 2)), (asg1 (listM [(cst (.fl (.str (Str.ofString "ab c"))))]) (setL 3)),
      (forRangeSM [(cst (.fl (.int 0))), (bltM "len" [(getL 1)]), (cst (.fl (.int 5)))] (setL 4) round2), lm13, lm14, (forListM 1000 (getL 2) (setL 8) loneB), lm16, (retM lastRet)] := rfl

theorem law_run2 (bs : Addr) (ns : List Int) (h : ns.length ≤ 63) : ∃ st', law_m bs (intsP ns) (makeF 770 lvI_fm) (makeF 810 osI_fm) (makeF 728 edJ_fm) (makeF 728 edI_fm) trn_fm far_fm cmpTab rfs_fm
    ⟨[some (.fl (.obj bs)), none, none, none, none, none, none, none, none, none, none, none, none, none, none, none], []⟩ = some (.ret (.fl (.bool true)), st') := by
  rw [law_m_eq2]
  obtain ⟨rs, kr, m0, r0, hr0, hrs, hrl, hrow, s1⟩ := rows_at bs ns h [some (.fl (.obj bs)), none, none, none, none, none, none, none, none, none, none, none, none, none, none, none] rfl
  obtain ⟨ks, m1, I1, k1, s2⟩ := kept_at (l := [some (.fl (.obj bs)), some (.fl (.ref kr)), none, none, none, none, none, none, none, none, none, none, none, none, none, none]) (kr := kr) (rs := rs) (r0 := r0) rfl hrow hr0
  have hkr : kr < m0.length := (List.getElem?_eq_some_iff.mp hrow).1
  have hm01 : kr < m1.length := (List.getElem?_eq_some_iff.mp (k1 _ _ hrow)).1
  let m2 := m1 ++ [MO.list [.fl (.ref (ks 0)), .fl (.ref (ks 1)), .fl (.ref (ks 2))]]
  have I2 : InvE (swsOf r0) ks [m1.length, kr] m2 := (I1.sub (Z' := [kr]) fun z hz => by rw [List.mem_singleton.mp hz]; exact List.mem_range.mpr hkr).new _
  let m3 := m2 ++ [MO.list [sP abc]]
  have hm2 : m2.length = m1.length + 1 := by simp [m2]
  have I3 : InvE (swsOf r0) ks [kr, m1.length, m1.length + 1] m3 := (I2.new _).sub fun z hz => by
    rw [hm2]
    simp only [List.mem_cons, List.not_mem_nil, or_false] at hz ⊢
    omega
  have habc : GoodL abc := by unfold GoodL; decide
  have R3 : RdI r0 rs ks kr m1.length (m1.length + 1) [abc] m3 := by
    refine ⟨?_, by simp [m3, m2], by simp [m3, m2], fun t ht => by rw [List.mem_singleton.mp ht]; exact habc, by simp, I3, by omega, by omega⟩
    show (m2 ++ _)[kr]? = _
    rw [List.getElem?_append_left (by omega)]
    show (m1 ++ _)[kr]? = _
    rw [List.getElem?_append_left hm01]
    exact k1 _ _ hrow
  have s3 : listM [(cst (.fl (.str (Str.ofString "ab c"))))] ⟨[some (.fl (.obj bs)), some (.fl (.ref kr)), some (.fl (.ref m1.length)), none, none, none, none, none, none, none, none, none, none, none, none, none], m2⟩ = some (.fl (.ref (m1.length + 1)), ⟨[some (.fl (.obj bs)), some (.fl (.ref kr)), some (.fl (.ref m1.length)), none, none, none, none, none, none, none, none, none, none, none, none, none], m3⟩) := by
    rw [abc_is, listM_ap, seqM_cons_ap, cst_ap]
    dsimp only
    rw [seqM_nil_ap]
    dsimp only
    rw [if_pos (by simp), newL_ap, hm2]
  obtain ⟨c, c1, c2, c3⟩ := rng3_up (n := rs.length) (by omega) hrs
  obtain ⟨T, m4, y4, y5, y6, y7, y8, y9, y10, y11, y12, R4, hT, s4⟩ := rounds2_at hr0 hrl (l0 := some (.fl (.obj bs))) (l13 := none) (l14 := none) (l15 := none) c 0 [abc] m3 none none none none none none none none none R3 (by simp; omega) (by omega)
  have s4' : forRangeSM [(cst (.fl (.int 0))), (bltM "len" [(getL 1)]), (cst (.fl (.int 5)))] (setL 4) round2 ⟨[some (.fl (.obj bs)), some (.fl (.ref kr)), some (.fl (.ref m1.length)), some (.fl (.ref (m1.length + 1))), none, none, none, none, none, none, none, none, none, none, none, none], m3⟩ = _ :=
    (rangeS_at (Pu.seq3 (Pu.c (iP 0) _) ((Pu.lenL (k := kr) (xs := intsP rs) (Pu.loc rfl) R3.rows (by simp [intsP]; omega)).cast (by simp [intsP] : iP ((intsP rs).length : Nat) = iP (rs.length : Nat))) (Pu.c (iP 5) _)) c1).trans s4
  obtain ⟨t, ht⟩ : ∃ t, T[T.length - 1]? = some t := ⟨_, List.getElem?_eq_getElem (by have := R4.ne; omega)⟩
  have gt : GoodL t := R4.good t (List.mem_of_getElem? ht)
  let b := r0.fmod 9
  have s5 : lm13 ⟨[some (.fl (.obj bs)), some (.fl (.ref kr)), some (.fl (.ref m1.length)), some (.fl (.ref (m1.length + 1))), y4, y5, y6, y7, y8, y9, y10, y11, y12, none, none, none], m4⟩ = some (.next, ⟨[some (.fl (.obj bs)), some (.fl (.ref kr)), some (.fl (.ref m1.length)), some (.fl (.ref (m1.length + 1))), y4, y5, y6, y7, y8, y9, y10, some (iP b), y12, some (sP t), none, none], m4⟩) :=
    Pu.asgSw (f := .str (mkS t)) (g := .int b) (Pu.last (k := m1.length + 1) (xs := T.map fun t => sP t) (Pu.loc rfl) R4.texts (by simp; omega) (by simp [ht])) (Pu.mod (Pu.item (n := 0) (k := kr) (xs := intsP rs) (Pu.loc rfl) (Pu.c _ _) R4.rows (by rw [ints_get, hr0]; rfl) (by omega)) (Pu.c (iP 9) _) (by decide))
  have s6 : lm14 ⟨[some (.fl (.obj bs)), some (.fl (.ref kr)), some (.fl (.ref m1.length)), some (.fl (.ref (m1.length + 1))), y4, y5, y6, y7, y8, y9, y10, some (iP b), y12, some (sP t), none, none], m4⟩ = some (.next, ⟨[some (.fl (.obj bs)), some (.fl (.ref kr)), some (.fl (.ref m1.length)), some (.fl (.ref (m1.length + 1))), y4, y5, y6, y7, y8, y9, y10, some (iP b), y12, some (sP t), some (iP (lone t.length b)), none], m4⟩) :=
    ((Pu.ite (PuT.leI (Pu.len (Pu.loc rfl) (by have := gt.1; omega)) (Pu.loc rfl)) (fun _ => Pu.len (Pu.loc rfl) (by have := gt.1; omega)) (fun _ => Pu.c (iP (-1)) _)).cast (by
      unfold lone
      by_cases c : (t.length : Int) ≤ b
      · rw [if_pos (decide_eq_true c), if_pos c]
      · rw [if_neg (by rw [decide_eq_false c]; simp), if_neg c])).asg
  obtain ⟨m5, z8, R5, s7⟩ := lones_at (kr := kr) (kt := m1.length + 1) (T := T) gt (b := b) (l0 := some (.fl (.obj bs))) (l1 := some (.fl (.ref kr))) (l2 := some (.fl (.ref m1.length))) (l3 := some (.fl (.ref (m1.length + 1)))) (l4 := y4) (l5 := y5) (l6 := y6) (l7 := y7) (l9 := y9) (l10 := y10) (l12 := y12) (l15 := none) 3 0 1000 m4 y8 rfl (by omega) R4
  have s7' := (forListM_ap (fuel := 1000) (m := getL 2) (f := setL 8) (b := loneB) (st := ⟨[some (.fl (.obj bs)), some (.fl (.ref kr)), some (.fl (.ref m1.length)), some (.fl (.ref (m1.length + 1))), y4, y5, y6, y7, y8, y9, y10, some (iP b), y12, some (sP t), some (iP (lone t.length b)), none], m4⟩) rfl R4.kept).trans s7
  obtain ⟨p, hp1, hp2⟩ := fmod_nat r0 (n := 3) (by omega)
  have hp2 : r0.fmod 3 = (p : Int) := hp2
  obtain ⟨great, hg⟩ : ∃ g : Int, ([.int 8, .int 9, .int 2147483648] : List FV)[p]? = some (.int g) := by
    have : p = 0 ∨ p = 1 ∨ p = 2 := by omega
    rcases this with rfl | rfl | rfl <;> exact ⟨_, rfl⟩
  have s8 : lm16 ⟨[some (.fl (.obj bs)), some (.fl (.ref kr)), some (.fl (.ref m1.length)), some (.fl (.ref (m1.length + 1))), y4, y5, y6, y7, z8, y9, y10, some (iP b), y12, some (sP t), some (iP (lone t.length b)), none], m5⟩ = some (.next, ⟨[some (.fl (.obj bs)), some (.fl (.ref kr)), some (.fl (.ref m1.length)), some (.fl (.ref (m1.length + 1))), y4, y5, y6, y7, z8, y9, y10, some (iP b), y12, some (sP t), some (iP (lone t.length b)), some (iP great)], m5⟩) :=
    (Pu.subT (n := p) (Pu.tup3 (f := .int 8) (g := .int 9) (h := .int 2147483648) (Pu.c _ _) (Pu.c _ _) (Pu.pow31 _)) ((Pu.mod (Pu.item (n := 0) (k := kr) (xs := intsP rs) (Pu.loc rfl) (Pu.c _ _) R5.rows (by rw [ints_get, hr0]; rfl) (by omega)) (Pu.c (iP 3) _) (by decide)).cast (by rw [hp2])) hg hp1).asg
  obtain ⟨st', s9⟩ := lastRet_at R5 hr0 gt (great := great) (l0 := some (.fl (.obj bs))) (l3 := some (.fl (.ref (m1.length + 1)))) (l4 := y4) (l5 := y5) (l6 := y6) (l7 := y7) (l8 := z8) (l9 := y9) (l10 := y10) (l11 := some (iP b)) (l12 := y12) (l14 := some (iP (lone t.length b)))
  refine ⟨st', ?_⟩
  rw [blk_next (asgS s1)]
  dsimp only [List.set_cons_succ, List.set_cons_zero]
  rw [blk_next (asgS s2)]
  dsimp only [List.set_cons_succ, List.set_cons_zero]
  rw [blk_next (asgS s3)]
  dsimp only [List.set_cons_succ, List.set_cons_zero]
  rw [blk_next s4', blk_next s5, blk_next s6, blk_next s7', blk_next s8]
  have s9' : retM lastRet ⟨[some (.fl (.obj bs)), some (.fl (.ref kr)), some (.fl (.ref m1.length)), some (.fl (.ref (m1.length + 1))), y4, y5, y6, y7, z8, y9, y10, some (iP b), y12, some (sP t), some (iP (lone t.length b)), some (iP great)], m5⟩ = some (.ret (.fl (.bool true)), st') := by
    rw [retM_ap, s9]
  exact blk_ret s9'
end Mine

/-! CW0 -/
namespace Mine

theorem RVs.ints {φ : List Addr} {h : Heap} {vs : List Value} {ns : List Int} (x : IntsAre vs ns) : RVs φ h vs (intsP ns) := by
  induction x with
  | nil => exact trivial
  | cons n t _ ih => exact ⟨⟨t, rfl⟩, ih⟩

/-- the law's block, in the claim's own call -/
theorem finish {prog : Program} {w : World} {s₁ : Shared} {mg mb : Str → Option Value} {h₁ : Heap} {a fa : Addr} {vs : List Value} {ns : List Int} {Q : Flow → Shared → Prop} {E : Value → Shared → Prop} {cV : Value} {tk : Nat} {K : Frag}
    {p : Program} {loose : List Str} {mean : ExcName → Option Value}
    (KX : K.In s₁.heap) (T : Top p loose mean mg mb s₁.heap) (FA₀ : s₁.heap.Ns mainGlobals mg → (∀ x : Str, x ≠ "__name__" → mb x = bootBuiltins x) → Facts K mg mb) (FB₀ : s₁.heap.Ns mainGlobals mg → (∀ x : Str, x ≠ "__name__" → mb x = bootBuiltins x) → Facts2 K mg mb) (FC₀ : s₁.heap.Ns mainGlobals mg → (∀ x : Str, x ≠ "__name__" → mb x = bootBuiltins x) → Facts3 K mg mb) (hL : s₁.heap.IsList a vs.toArray) (hI : IntsAre vs ns) (hn : ns.length ≤ 63)
    (F : Fr s₁.heap s₁.heap.objs.size h₁ (fun x => List.lookup x [(Str.ofString "script", Value.ref a)].reverse))
    (hQ : ∀ h' tk', (∀ b o, s₁.heap.get? b = some o → h'.get? b = some o) → Q (.ret (.bool true)) { s₁ with heap := h', toks := tk' }) :
    wpAny (model prog w) (callerA.deeper (envOf (Str.ofString "law") law_scope s₁.heap.objs.size fa cV)) (execs law_body (envOf (Str.ofString "law") law_scope s₁.heap.objs.size fa cV)) Q E { s₁ with heap := h₁, toks := tk } := by
  have hg := T.g
  have hb := T.b
  have hnl := T.nolimit
  have FA := FA₀ hg T.builtins
  have FB := FB₀ hg T.builtins
  have FC := FC₀ hg T.builtins
  let L := s₁.heap.objs.size
  let C : Cx := ⟨prog, w, callerA.deeper (envOf (Str.ofString "law") law_scope L fa cV), ⟨law_scope, L, mainGlobals, [], Str.ofString "law" ++ ".<locals>.", some fa, cV, some L, builtinsNs⟩, law_names, { s₁ with heap := h₁.hide L, toks := tk }, mg, mb, K⟩
  have hkeep : ∀ b o, s₁.heap.get? b = some o → (h₁.hide L).get? b = some o := fun b o e => hide_get (F.keep b o e) (fun hb => by
    have := Heap.lt_size e
    have hb' : b = s₁.heap.objs.size := hb
    rw [hb'] at this
    exact Nat.lt_irrefl _ this)
  have O : C.Ok := by
    refine ⟨rfl, ?_, ?_, rfl, ?_, ?_, Heap.hide_self _ _, hg.keeps hkeep, hb.keeps hkeep, hnl.keeps hkeep, KX.keeps hkeep⟩
    · show callerA.depth + 1 + 8 < recursionLimit; decide +kernel
    · show callerA.units + 3 + 64 < cLine; decide +kernel
    · show law_names.Nodup; decide +kernel
    · show ∀ x ∈ law_names, law_scope.names.lookup x = some .local; decide +kernel
  have rm2 : Room C 2 := ⟨by show callerA.depth + 1 + 10 + 2 * 2 < recursionLimit; decide +kernel, by show callerA.units + 3 + 68 + 4 * 2 < cLine; decide +kernel⟩
  have rm1 : Room C 1 := ⟨by show callerA.depth + 1 + 10 + 2 * 1 < recursionLimit; decide +kernel, by show callerA.units + 3 + 68 + 4 * 1 < cLine; decide +kernel⟩
  have rm0 : Room C 0 := ⟨by show callerA.depth + 1 + 10 + 2 * 0 < recursionLimit; decide +kernel, by show callerA.units + 3 + 68 + 4 * 0 < cLine; decide +kernel⟩
  have B : Base C := ⟨rfl, rfl⟩
  have FA' : Facts C.K C.mg C.mb := FA
  have FB' : Facts2 C.K C.mg C.mb := FB
  have FC' : Facts3 C.K C.mg C.mb := FC
  have hfr : C.A.frames = some [C.env] := Around.frames_deeper (A := callerA) (outer := []) rfl
  have hfe : C.env.frame = some C.env.locals := rfl
  have G : ∀ {x : Str} {v : Value}, law_scope.names.lookup x = some .globalImplicit → mg x = some v → IsGlobal C x v := fun h1 h2 => ⟨h1, h2⟩
  have BI : ∀ {x : Str} {v : Value}, law_scope.names.lookup x = some .globalImplicit → (mg x = none ∧ mb x = some v) → IsBuiltin C x v := fun h1 h2 => ⟨h1, h2.1, h2.2⟩
  have hbase : BaseList C a (intsP ns) := ⟨vs.toArray, hL.at fun o e => hkeep _ _ e, by simpa using RVs.ints hI⟩
  have FLev : Fun C (.ref 770) 0 (makeF 770 lvI_fm) := make_fun O FA'.c_770.makes FA'.c_770.init FA'.c_770.fn (lvI_fun O B rm0 FA')
  have FOsa : Fun C (.ref 810) 0 (makeF 810 osI_fm) := make_fun O FA'.c_810.makes FA'.c_810.init FA'.c_810.fn (osI_fun O B rm0 FA')
  have FEd2 : Fun C (.ref 728) 2 (makeF 728 edJ_fm) := make_fun O FA'.c_728.makes FA'.c_728.init FA'.c_728.fn (edJ_fun O B rm1 FA')
  have FEd : Fun C (.ref 728) 1 (makeF 728 edI_fm) := make_fun O FA'.c_728.makes FA'.c_728.init FA'.c_728.fn (edI_fun O B rm1 FA')
  have hE : EvB C law_body (law_m a (intsP ns) (makeF 770 lvI_fm) (makeF 810 osI_fm) (makeF 728 edJ_fm) (makeF 728 edI_fm) trn_fm far_fm cmpTab rfs_fm) :=
    law_ok a (intsP ns) (makeF 770 lvI_fm) (makeF 810 osI_fm) (makeF 728 edJ_fm) (makeF 728 edI_fm) trn_fm far_fm cmpTab rfs_fm rfl O hbase (G (by decide +kernel) FA.g_Levenshtein) FA'.c_770.keep FLev (G (by decide +kernel) FA.g_DamerauOsa) FA'.c_810.keep FOsa
      (G (by decide +kernel) FA.g_DistanceAlgorithm) FA'.en_read FA'.en_USER_PROVIDED (G (by decide +kernel) FA.g_EditDistance) FA'.c_728.keep FEd2 FA'.en_DAMERAU_OSA FEd FA'.en_LEVENSHTEIN
      (G (by decide +kernel) FB.g__law_turned) FB'.k_trn ((trn_fun O B rm0 FA' FB').toFun O) (G (by decide +kernel) FB.g__law_far) FB'.k_far ((far_fun O B rm0 FA' FB').toFun O) (tab1_ok (FA'.p_728compare.meth ((edC_fun O B rm2 FA').toFun O)))
      (G (by decide +kernel) FB.g__law_refused) FB'.k_rfs (rfs_fun O B rm2 FA' FB' FC' hfr hfe) (BI (by decide +kernel) FA.b_range) (BI (by decide +kernel) FA.b_len) (BI (by decide +kernel) FA.b_isinstance) (BI (by decide +kernel) FA.b_bool)
  obtain ⟨st', hrun⟩ := law_run2 a ns hn
  have R : Rep C [] ⟨[some (.fl (.obj a)), none, none, none, none, none, none, none, none, none, none, none, none, none, none, none], []⟩ { s₁ with heap := h₁, toks := tk } := by
    refine ⟨⟨h₁, tk, rfl⟩, fun b o e => Heap.of_hide e, rfl, ⟨_, F.ns, fun k x pv e1 e2 => ?_⟩, List.nodup_nil, rfl, fun k mo b e1 _ => by simp at e1, fun b hb => nomatch hb⟩
    cases k with
    | zero =>
      cases e1; cases e2
      exact ⟨.ref a, rfl, rfl⟩
    | succ k =>
      exfalso
      have e3 : (List.replicate 15 (none : Option PV))[k]? = some (some pv) := e2
      rw [List.getElem?_replicate] at e3
      split at e3 <;> cases e3
  refine wpAny_mono (hE [] _ _ _ st' R hrun) (fun cf s' hp => ?_) fun _ _ x => x.elim
  obtain ⟨φ', X, R', r⟩ := hp
  cases cf with
  | ret cv =>
    have e : cv = .bool true := r
    subst e
    obtain ⟨h', tk', e⟩ := R'.same
    rw [e]
    refine hQ h' tk' fun b o eb => ?_
    have := R'.keep b o (hkeep b o eb)
    rw [e] at this
    exact this
  | next => exact r.elim
  | brk => exact r.elim
  | cont => exact r.elim
end Mine

set_option maxHeartbeats 8000000
def Mine.whole.tw17539506272589963904 : Unit := ()
def Mine.whole.tw1595266613990791968 : Unit := ()
def Mine.whole.tw14077511737940356868 : Unit := ()
def Mine.whole.tw4574024839461005797 : Unit := ()
def Mine.whole.tw4673376579767346117 : Unit := ()
def Mine.whole.tw5188410291124859014 : Unit := ()
def Mine.whole.tw7454228879825610984 : Unit := ()
def Mine.whole.tw17596370416120920393 : Unit := ()
def Mine.whole.tw17692944630003236201 : Unit := ()
def Mine.whole.tw15527283080489156553 : Unit := ()
def Mine.whole.tw15789179799144179146 : Unit := ()
def Mine.whole.tw15160392744949094922 : Unit := ()
def Mine.whole.tw12677480792143014219 : Unit := ()
def Mine.whole.tw11800030525031035052 : Unit := ()
def Mine.whole.tw1046734783493696877 : Unit := ()
def Mine.whole.tw17588736524896412303 : Unit := ()
def Mine.whole.tw15478968923516660784 : Unit := ()
def Mine.whole.tw18298321117603788048 : Unit := ()
def Mine.whole.tw16900847829343485777 : Unit := ()
def Mine.whole.tw6087658500267479762 : Unit := ()
def Mine.whole.tw16149128351891192788 : Unit := ()
def Mine.whole.tw16637351698155146357 : Unit := ()
def Mine.whole.tw16070639945219363894 : Unit := ()
def Mine.whole.tw18130683496511052823 : Unit := ()
def Mine.whole.tw1020384101444375575 : Unit := ()
def Mine.whole.tw2680952665620796087 : Unit := ()
def Mine.whole.tw6019919074733517208 : Unit := ()
def Mine.whole.tw11384259339768038936 : Unit := ()
def Mine.whole.tw16272103526611014681 : Unit := ()
def Mine.whole.tw10940641284315833627 : Unit := ()
def Mine.whole.tw10144505478992762587 : Unit := ()
def Mine.whole.tw2937210683488691390 : Unit := ()
set_option Elab.async true in
theorem Mine.whole : PySem.Challenge.rw_fe0312_02.Holds := by
  w_on; o_law; k_head; (case hw => w_witness2); w_strict (
  k_go0
  refine Mine.finish (K := ?K) (by assumption) (by assumption) ?FA ?FB ?FC (by assumption) (by assumption) ?hn (by assumption) ?hQ
  case FA =>
    intro G H
    exact ⟨⟨mg_none_of (by assumption) G (by kernel_rfl), (H _ (by decide)).trans (by kernel_rfl)⟩,
      ⟨mg_none_of (by assumption) G (by kernel_rfl), (H _ (by decide)).trans (by kernel_rfl)⟩,
      ⟨mg_none_of (by assumption) G (by kernel_rfl), (H _ (by decide)).trans (by kernel_rfl)⟩,
      ⟨mg_none_of (by assumption) G (by kernel_rfl), (H _ (by decide)).trans (by kernel_rfl)⟩,
      ⟨mg_none_of (by assumption) G (by kernel_rfl), (H _ (by decide)).trans (by kernel_rfl)⟩,
      ⟨mg_none_of (by assumption) G (by kernel_rfl), (H _ (by decide)).trans (by kernel_rfl)⟩,
      mg_of (by assumption) G (by kernel_rfl),
      mg_of (by assumption) G (by kernel_rfl),
      mg_of (by assumption) G (by kernel_rfl),
      mg_of (by assumption) G (by kernel_rfl),
      mg_of (by assumption) G (by kernel_rfl),
      mg_of (by assumption) G (by kernel_rfl),
      mg_of (by assumption) G (by kernel_rfl),
      fun cl h => by simp only [List.mem_cons, List.not_mem_nil, or_false] at h; rcases h with rfl | rfl <;> kernel_rfl,
      ⟨_, _, _, _, _, _, _, _, _, by rfl, by kernel_rfl⟩,
      ⟨_, _, _, _, _, _, _, _, _, by rfl, by kernel_rfl⟩,
      ⟨_, _, _, _, _, _, _, _, _, by rfl, by kernel_rfl⟩,
      ⟨_, _, _, _, _, _, _, _, _, by rfl, by kernel_rfl⟩,
      ⟨_, _, _, _, _, _, _, _, _, by rfl, by kernel_rfl⟩,
      ⟨_, _, _, _, _, _, _, _, _, by rfl, by kernel_rfl⟩,
      ⟨_, _, _, _, _, _, _, _, _, by rfl, by kernel_rfl⟩,
      ⟨_, _, _, _, _, _, _, _, _, by rfl, by kernel_rfl⟩,
      ⟨_, _, _, _, _, _, _, _, _, by rfl, by kernel_rfl⟩,
      ⟨_, _, _, _, _, _, _, _, _, by rfl, by kernel_rfl⟩,
      ⟨_, _, _, _, _, _, _, _, _, by rfl, by kernel_rfl⟩,
      ⟨_, _, _, _, _, _, _, _, _, by rfl, by kernel_rfl⟩,
      ⟨_, _, _, _, by rfl⟩,
      by kernel_rfl,
      by kernel_rfl,
      ⟨by kernel_rfl, by kernel_rfl, _, by rfl, by kernel_rfl⟩,
      ⟨by kernel_rfl, by kernel_rfl, _, by rfl, by kernel_rfl⟩,
      ⟨by kernel_rfl, by kernel_rfl, _, by rfl, by kernel_rfl⟩,
      ⟨by kernel_rfl, by kernel_rfl, _, by rfl, by kernel_rfl⟩,
      ⟨by kernel_rfl, by kernel_rfl, by kernel_rfl, by kernel_rfl⟩,
      ⟨by kernel_rfl, by kernel_rfl, by kernel_rfl, by kernel_rfl⟩,
      ⟨by kernel_rfl, by kernel_rfl, by kernel_rfl, by kernel_rfl⟩,
      ⟨by kernel_rfl, by kernel_rfl, by kernel_rfl, by kernel_rfl⟩,
      ⟨by kernel_rfl, by kernel_rfl, by kernel_rfl, by kernel_rfl⟩,
      ⟨by kernel_rfl, by kernel_rfl, ⟨_, _, by rfl, by kernel_rfl, by kernel_rfl, by kernel_rfl, by rfl⟩, by kernel_rfl, by decide +kernel⟩,
      ⟨by kernel_rfl, by kernel_rfl, ⟨_, _, by rfl, by kernel_rfl, by kernel_rfl, by kernel_rfl, by rfl⟩, by kernel_rfl, by decide +kernel⟩,
      ⟨by kernel_rfl, by kernel_rfl, ⟨_, _, by rfl, by kernel_rfl, by kernel_rfl, by kernel_rfl, by rfl⟩, by kernel_rfl, by decide +kernel⟩,
      ⟨by kernel_rfl, by kernel_rfl, ⟨_, _, by rfl, by kernel_rfl, by kernel_rfl, by kernel_rfl, by rfl⟩, by kernel_rfl, by decide +kernel⟩,
      ⟨by kernel_rfl, by kernel_rfl, by kernel_rfl, by kernel_rfl, by kernel_rfl⟩,
      ⟨by kernel_rfl, by kernel_rfl, by kernel_rfl, by kernel_rfl, by kernel_rfl⟩,
      ⟨by kernel_rfl, by kernel_rfl, by kernel_rfl, by kernel_rfl, by kernel_rfl⟩,
      ⟨by kernel_rfl, by kernel_rfl, by kernel_rfl, by kernel_rfl⟩,
      ⟨by kernel_rfl, by kernel_rfl, by kernel_rfl, by kernel_rfl⟩,
      ⟨by kernel_rfl, by kernel_rfl, by kernel_rfl, by kernel_rfl⟩,
      by kernel_rfl,
      by kernel_rfl,
      by kernel_rfl,
      by kernel_rfl,
      ⟨by kernel_rfl, by kernel_rfl⟩,
      fun a ha => by simp only [List.mem_cons, List.not_mem_nil, or_false] at ha; rcases ha with rfl | rfl | rfl <;> exact ⟨_, _, _, by rfl, by rfl⟩⟩
  case FB =>
    intro G H
    exact ⟨⟨_, mg_of (by assumption) G (by rfl)⟩,
      mg_of (by assumption) G (by kernel_rfl),
      ⟨_, _, _, _, _, _, _, _, _, by rfl, by kernel_rfl⟩,
      by kernel_rfl,
      mg_of (by assumption) G (by kernel_rfl),
      ⟨_, _, _, _, _, _, _, _, _, by rfl, by kernel_rfl⟩,
      by kernel_rfl,
      mg_of (by assumption) G (by kernel_rfl),
      ⟨_, _, _, _, _, _, _, _, _, by rfl, by kernel_rfl⟩,
      by kernel_rfl⟩
  case FC =>
    intro G H
    exact ⟨⟨mg_none_of (by assumption) G (by kernel_rfl), (H _ (by decide)).trans (by kernel_rfl)⟩,
      ⟨_, _, _, _, _, _, _, _, _, by rfl, by kernel_rfl⟩,
      ⟨_, _, _, _, by rfl⟩,
      ⟨_, _, _, _, _, by rfl, by rfl, by kernel_rfl, by rfl, by kernel_rfl, ⟨_, by rfl⟩⟩,
      ⟨_, _, _, _, _, by rfl, by rfl, by kernel_rfl, by rfl, by kernel_rfl, ⟨_, by rfl⟩⟩,
      ⟨_, _, _, by rfl, by rfl, by kernel_rfl⟩,
      by kernel_rfl,
      by kernel_rfl,
      by kernel_rfl,
      by kernel_rfl,
      by kernel_rfl⟩
  case hn => omega
  case hQ =>
    intro h' tk' hk
    exact ⟨.inl ⟨.bool true, .bool true, [], rfl, fun cls => by rfl, .bool true, by wrow_post, fun _ => ⟨List.nodup_nil, fun a ha => nomatch ha⟩⟩, hk, rfl, by assumption⟩)

theorem PySem.Challenge.cw_fe0312_02_holds : PySem.Challenge.rw_fe0312_02.Holds :=
  Mine.whole
