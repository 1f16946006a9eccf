import PyProof.Rows.All
import Wide.All
import OpenK.AllK
import Wide.FinOn
import Lean
import PySem.Challenge.RW_fe0312_01

set_option Elab.async false
set_option maxRecDepth 100000
set_option maxHeartbeats 1000000
set_option linter.unusedSimpArgs false
set_option linter.unusedVariables false

/-! Math1 -/
namespace Mine

/-- edit scripts: a sign put in, left out, turned, kept; with sw two neighbours swapped -/
inductive Ed (sw : Bool) : List Nat → List Nat → Nat → Prop
  | nil : Ed sw [] [] 0
  | del {x a b n} : Ed sw a b n → Ed sw (x :: a) b (n + 1)
  | ins {y a b n} : Ed sw a b n → Ed sw a (y :: b) (n + 1)
  | keep {x a b n} : Ed sw a b n → Ed sw (x :: a) (x :: b) n
  | sub {x y a b n} : Ed sw a b n → Ed sw (x :: a) (y :: b) (n + 1)
  | swap {x y a b n} : sw = true → Ed sw a b n → Ed sw (x :: y :: a) (y :: x :: b) (n + 1)

theorem Ed.dels {sw : Bool} : ∀ a : List Nat, Ed sw a [] a.length
  | [] => .nil
  | _ :: a => .del (Ed.dels a)
theorem Ed.inss {sw : Bool} : ∀ b : List Nat, Ed sw [] b b.length
  | [] => .nil
  | _ :: b => .ins (Ed.inss b)
theorem Ed.refl {sw : Bool} : ∀ a : List Nat, Ed sw a a 0
  | [] => .nil
  | _ :: a => .keep (Ed.refl a)
theorem Ed.append {sw : Bool} {a b a' b' : List Nat} {n m : Nat} (x : Ed sw a b n) (y : Ed sw a' b' m) : Ed sw (a ++ a') (b ++ b') (n + m) := by
  induction x with
  | nil => simpa using y
  | del _ ih => rw [Nat.add_right_comm]; exact .del ih
  | ins _ ih => rw [Nat.add_right_comm]; exact .ins ih
  | keep _ ih => exact .keep ih
  | sub _ ih => rw [Nat.add_right_comm]; exact .sub ih
  | swap h _ ih => rw [Nat.add_right_comm]; exact .swap h ih
theorem Ed.reverse {sw : Bool} {a b : List Nat} {n : Nat} (x : Ed sw a b n) : Ed sw a.reverse b.reverse n := by
  induction x with
  | nil => exact .nil
  | @del x a b n _ ih => have := ih.append (Ed.del (x := x) .nil); simpa using this
  | @ins y a b n _ ih => have := ih.append (Ed.ins (y := y) .nil); simpa using this
  | @keep x a b n _ ih => have := ih.append (Ed.keep (x := x) .nil); simpa using this
  | @sub x y a b n _ ih => have := ih.append (Ed.sub (x := x) (y := y) .nil); simpa using this
  | @swap x y a b n h _ ih => have := ih.append (Ed.swap (x := y) (y := x) h .nil); simpa using this
theorem Ed.symm {sw : Bool} {a b : List Nat} {n : Nat} (x : Ed sw a b n) : Ed sw b a n := by
  induction x with
  | nil => exact .nil
  | del _ ih => exact .ins ih
  | ins _ ih => exact .del ih
  | keep _ ih => exact .keep ih
  | sub _ ih => exact .sub ih
  | swap h _ ih => exact .swap h ih
/-- a sign less on the left: one edit more at most -/
theorem Ed.dropL {sw : Bool} {x : Nat} {a b : List Nat} {n : Nat} (h : Ed sw (x :: a) b n) : ∃ m, m ≤ n + 1 ∧ Ed sw a b m := by
  generalize hc : x :: a = c at h
  induction h generalizing x a with
  | nil => cases hc
  | @del x' a' b n h ih => cases hc; exact ⟨n, by omega, h⟩
  | @ins y a' b n h ih => obtain ⟨m, hm, h'⟩ := ih hc; exact ⟨m + 1, by omega, .ins h'⟩
  | @keep x' a' b n h ih => cases hc; exact ⟨n + 1, by omega, .ins h⟩
  | @sub x' y a' b n h ih => cases hc; exact ⟨n + 1, by omega, .ins h⟩
  | @swap x' y a' b n hs h ih => cases hc; exact ⟨n + 1, by omega, .keep (.ins h)⟩
theorem Ed.dropR {sw : Bool} {y : Nat} {a b : List Nat} {n : Nat} (h : Ed sw a (y :: b) n) : ∃ m, m ≤ n + 1 ∧ Ed sw a b m :=
  let ⟨m, hm, h'⟩ := h.symm.dropL; ⟨m, hm, h'.symm⟩
/-- equal heads: they may be kept -/
theorem Ed.trim {sw : Bool} {x : Nat} {a b : List Nat} {n : Nat} (h : Ed sw (x :: a) (x :: b) n) : ∃ m, m ≤ n ∧ Ed sw a b m := by
  cases h with
  | del h => exact h.dropR
  | ins h => exact h.dropL
  | keep h => exact ⟨_, Nat.le_refl _, h⟩
  | sub h => exact ⟨_, Nat.le_succ _, h⟩
  | swap hs h => exact ⟨_, Nat.le_refl _, .sub h⟩
/-- diagonals rise -/
theorem Ed.diag {sw : Bool} {x y : Nat} {a b : List Nat} {n : Nat} (h : Ed sw (x :: a) (y :: b) n) : ∃ m, m ≤ n ∧ Ed sw a b m := by
  cases h with
  | del h => exact h.dropR
  | ins h => exact h.dropL
  | keep h => exact ⟨_, Nat.le_refl _, h⟩
  | sub h => exact ⟨_, Nat.le_succ _, h⟩
  | swap hs h => exact ⟨_, Nat.le_refl _, .sub h⟩
/-- the difference of lengths is a bound -/
theorem Ed.len {sw : Bool} {a b : List Nat} {n : Nat} (h : Ed sw a b n) : a.length ≤ b.length + n ∧ b.length ≤ a.length + n := by
  induction h <;> simp only [List.length_cons, List.length_nil] at * <;> omega
theorem Ed.zero {sw : Bool} {a b : List Nat} (h : Ed sw a b 0) : a = b := by
  generalize hn : 0 = n at h
  induction h with
  | nil => rfl
  | keep _ ih => rw [ih hn]
  | _ => omega

/-- the table's value, from the lists' heads -/
def dist (sw : Bool) : List Nat → List Nat → Nat
  | [], b => b.length
  | x :: a, [] => (x :: a).length
  | x :: a, y :: b =>
    let d := dist sw a b
    if x = y then d else
      let m := min d (min (dist sw (x :: a) b) (dist sw a (y :: b))) + 1
      match a, b with
      | p :: a', q :: b' => if sw && x == q && p == y then min m (dist sw a' b' + 1) else m
      | _, _ => m
termination_by a b => a.length + b.length

theorem dist_nil_left {sw : Bool} (b : List Nat) : dist sw [] b = b.length := by unfold dist; rfl
theorem dist_nil_right {sw : Bool} (a : List Nat) : dist sw a [] = a.length := by cases a <;> (unfold dist; rfl)
theorem dist_eq {sw : Bool} (x : Nat) (a b : List Nat) : dist sw (x :: a) (x :: b) = dist sw a b := by rw [dist.eq_def]; simp
/-- the swap's value, if there is one -/
def swapTo (sw : Bool) (x y : Nat) : List Nat → List Nat → Option (List Nat × List Nat)
  | p :: a, q :: b => if sw && x == q && p == y then some (a, b) else none
  | _, _ => none
theorem dist_ne {sw : Bool} {x y : Nat} (h : x ≠ y) (a b : List Nat) : dist sw (x :: a) (y :: b) =
    match swapTo sw x y a b with
    | some (a', b') => min (min (dist sw a b) (min (dist sw (x :: a) b) (dist sw a (y :: b))) + 1) (dist sw a' b' + 1)
    | none => min (dist sw a b) (min (dist sw (x :: a) b) (dist sw a (y :: b))) + 1 := by
  rw [dist.eq_def]
  simp only [h, if_false]
  cases a with
  | nil => rfl
  | cons p a =>
    cases b with
    | nil => rfl
    | cons q b =>
      simp only [swapTo]
      split <;> rfl
theorem swapTo_some {sw : Bool} {x y : Nat} {a b a' b' : List Nat} (h : swapTo sw x y a b = some (a', b')) : sw = true ∧ a = y :: a' ∧ b = x :: b' := by
  unfold swapTo at h
  split at h
  · split at h
    · rename_i hc
      simp only [Bool.and_eq_true, beq_iff_eq] at hc
      obtain ⟨⟨h1, h2⟩, h3⟩ := hc
      cases h
      exact ⟨h1, by rw [h3], by rw [h2]⟩
    · cases h
  · cases h

theorem dist_sound (sw : Bool) : ∀ (k : Nat) (a b : List Nat), a.length + b.length ≤ k → Ed sw a b (dist sw a b) := by
  intro k
  induction k with
  | zero =>
    intro a b h
    match a, b with
    | [], [] => rw [dist_nil_left]; exact .nil
    | _ :: _, _ => simp at h
    | [], _ :: _ => simp at h
  | succ k ih =>
    intro a b h
    match a, b with
    | [], b => rw [dist_nil_left]; exact .inss b
    | a, [] => rw [dist_nil_right]; exact .dels a
    | x :: a, y :: b =>
      simp only [List.length_cons] at h
      have h1 := ih a b (by omega)
      have h2 := ih (x :: a) b (by simp only [List.length_cons]; omega)
      have h3 := ih a (y :: b) (by simp only [List.length_cons]; omega)
      by_cases hxy : x = y
      · subst hxy; rw [dist_eq]; exact .keep h1
      · have base : Ed sw (x :: a) (y :: b) (min (dist sw a b) (min (dist sw (x :: a) b) (dist sw a (y :: b))) + 1) := by
          rcases Nat.le_total (dist sw a b) (min (dist sw (x :: a) b) (dist sw a (y :: b))) with q | q
          · rw [Nat.min_eq_left q]; exact .sub h1
          · rw [Nat.min_eq_right q]
            rcases Nat.le_total (dist sw (x :: a) b) (dist sw a (y :: b)) with q | q
            · rw [Nat.min_eq_left q]; exact .ins h2
            · rw [Nat.min_eq_right q]; exact .del h3
        rw [dist_ne hxy]
        split
        · rename_i a' b' hs
          obtain ⟨hsw, rfl, rfl⟩ := swapTo_some hs
          simp only [List.length_cons] at h
          have h4 := ih a' b' (by omega)
          rcases Nat.le_total (min (dist sw (y :: a') (x :: b')) (min (dist sw (x :: y :: a') (x :: b')) (dist sw (y :: a') (y :: x :: b'))) + 1) (dist sw a' b' + 1) with q | q
          · rw [Nat.min_eq_left q]; exact base
          · rw [Nat.min_eq_right q]; exact .swap hsw h4
        · exact base

theorem dist_le {sw : Bool} {a b : List Nat} {n : Nat} (h : Ed sw a b n) : dist sw a b ≤ n := by
  suffices ∀ k n a b, n + a.length + b.length ≤ k → Ed sw a b n → dist sw a b ≤ n from this _ n a b (Nat.le_refl _) h
  intro k
  induction k with
  | zero =>
    intro n a b hk h
    cases h with
    | nil => rw [dist_nil_left]; exact Nat.le_refl _
    | _ => simp at hk
  | succ k ih =>
    intro n a b hk h
    have key : ∀ {x y : Nat} {a b : List Nat} {n : Nat}, n + (x :: a).length + (y :: b).length ≤ k + 1 → Ed sw (x :: a) (y :: b) n → x = y → dist sw (x :: a) (y :: b) ≤ n := by
      intro x y a b n hk h e
      subst e
      obtain ⟨m, hm, h'⟩ := h.trim
      rw [dist_eq]
      simp only [List.length_cons] at hk
      exact Nat.le_trans (ih m a b (by omega) h') hm
    have low : ∀ {x y : Nat} {a b : List Nat}, x ≠ y → dist sw (x :: a) (y :: b) ≤ min (dist sw a b) (min (dist sw (x :: a) b) (dist sw a (y :: b))) + 1 := by
      intro x y a b hxy
      rw [dist_ne hxy]
      split
      · exact Nat.min_le_left _ _
      · exact Nat.le_refl _
    cases h with
    | nil => rw [dist_nil_left]; exact Nat.le_refl _
    | @del x a b n h =>
      cases b with
      | nil => rw [dist_nil_right]; have := h.len; simp only [List.length_cons, List.length_nil] at *; omega
      | cons y b =>
        by_cases hxy : x = y
        · exact key hk (.del h) hxy
        · have := ih n a (y :: b) (by simp only [List.length_cons] at *; omega) h
          refine Nat.le_trans (low hxy) (Nat.succ_le_succ (Nat.le_trans (Nat.min_le_right _ _) (Nat.le_trans (Nat.min_le_right _ _) this)))
    | @ins y a b n h =>
      cases a with
      | nil => rw [dist_nil_left]; have := h.len; simp only [List.length_cons, List.length_nil] at *; omega
      | cons x a =>
        by_cases hxy : x = y
        · exact key hk (.ins h) hxy
        · have := ih n (x :: a) b (by simp only [List.length_cons] at *; omega) h
          refine Nat.le_trans (low hxy) (Nat.succ_le_succ (Nat.le_trans (Nat.min_le_right _ _) (Nat.le_trans (Nat.min_le_left _ _) this)))
    | @keep x a b n h =>
      rw [dist_eq]
      exact ih n a b (by simp only [List.length_cons] at *; omega) h
    | @sub x y a b n h =>
      by_cases hxy : x = y
      · exact key hk (.sub h) hxy
      · have := ih n a b (by simp only [List.length_cons] at *; omega) h
        exact Nat.le_trans (low hxy) (Nat.succ_le_succ (Nat.le_trans (Nat.min_le_left _ _) this))
    | @swap x y a b n hs h =>
      by_cases hxy : x = y
      · exact key hk (.swap hs h) hxy
      · have := ih n a b (by simp only [List.length_cons] at *; omega) h
        rw [dist_ne hxy]
        have : swapTo sw x y (y :: a) (x :: b) = some (a, b) := by simp [swapTo, hs]
        rw [this]
        exact Nat.le_trans (Nat.min_le_right _ _) (by omega)

theorem dist_ed {sw : Bool} (a b : List Nat) : Ed sw a b (dist sw a b) := dist_sound sw _ a b (Nat.le_refl _)
theorem dist_symm {sw : Bool} (a b : List Nat) : dist sw a b = dist sw b a := Nat.le_antisymm (dist_le (dist_ed b a).symm) (dist_le (dist_ed a b).symm)
theorem dist_reverse {sw : Bool} (a b : List Nat) : dist sw a.reverse b.reverse = dist sw a b := by
  refine Nat.le_antisymm (dist_le (dist_ed a b).reverse) ?_
  have := dist_le (dist_ed (sw := sw) a.reverse b.reverse).reverse
  simpa using this
theorem dist_trimL {sw : Bool} (p a b : List Nat) : dist sw (p ++ a) (p ++ b) = dist sw a b := by
  induction p with
  | nil => rfl
  | cons x p ih => rw [List.cons_append, List.cons_append, dist_eq, ih]
theorem dist_trimR {sw : Bool} (q a b : List Nat) : dist sw (a ++ q) (b ++ q) = dist sw a b := by
  rw [← dist_reverse, List.reverse_append, List.reverse_append, dist_trimL, dist_reverse]
theorem dist_len {sw : Bool} (a b : List Nat) : a.length ≤ b.length + dist sw a b ∧ b.length ≤ a.length + dist sw a b := (dist_ed a b).len
theorem dist_zero {sw : Bool} {a b : List Nat} : dist sw a b = 0 ↔ a = b :=
  ⟨fun h => by have := dist_ed (sw := sw) a b; rw [h] at this; exact this.zero, fun h => by subst h; exact Nat.le_zero.mp (dist_le (Ed.refl a))⟩
theorem dist_max {sw : Bool} (a b : List Nat) : dist sw a b ≤ max a.length b.length := by
  suffices ∃ n, n ≤ max a.length b.length ∧ Ed sw a b n from let ⟨n, h1, h2⟩ := this; Nat.le_trans (dist_le h2) h1
  induction a generalizing b with
  | nil => exact ⟨b.length, by simp, .inss b⟩
  | cons x a ih =>
    cases b with
    | nil => exact ⟨(x :: a).length, by simp, .dels _⟩
    | cons y b =>
      obtain ⟨n, h1, h2⟩ := ih b
      exact ⟨n + 1, by simp only [List.length_cons]; omega, .sub h2⟩
theorem dist_diag {sw : Bool} (x y : Nat) (a b : List Nat) : dist sw a b ≤ dist sw (x :: a) (y :: b) := by
  obtain ⟨m, h1, h2⟩ := (dist_ed (sw := sw) (x :: a) (y :: b)).diag
  exact Nat.le_trans (dist_le h2) h1
theorem dist_diags {sw : Bool} : ∀ (p q a b : List Nat), p.length = q.length → dist sw a b ≤ dist sw (p ++ a) (q ++ b)
  | [], [], _, _, _ => Nat.le_refl _
  | x :: p, y :: q, a, b, h => Nat.le_trans (dist_diags p q a b (by simpa using h)) (dist_diag x y _ _)
  | [], _ :: _, _, _, h => by cases h
  | _ :: _, [], _, _, h => by cases h
end Mine

/-! Math2 -/
namespace Mine

/-- the prefixes' distance -/
def P (sw : Bool) (A B : List Nat) (i j : Nat) : Nat := dist sw (A.take i).reverse (B.take j).reverse

section
variable {sw : Bool} {A B : List Nat}
theorem take_succ_rev {L : List Nat} {i x : Nat} (h : L[i]? = some x) : (L.take (i + 1)).reverse = x :: (L.take i).reverse := by
  rw [List.take_add_one, h]; simp
theorem P_whole : P sw A B A.length B.length = dist sw A B := by simp [P, dist_reverse]
theorem P_left (j : Nat) (h : j ≤ B.length) : P sw A B 0 j = j := by simp [P, dist_nil_left, h]
theorem P_top (i : Nat) (h : i ≤ A.length) : P sw A B i 0 = i := by simp [P, dist_nil_right, h]
theorem P_eq {i j x y : Nat} (hx : A[i]? = some x) (hy : B[j]? = some y) (h : x = y) : P sw A B (i + 1) (j + 1) = P sw A B i j := by
  unfold P
  rw [take_succ_rev hx, take_succ_rev hy, h, dist_eq]
/-- a swap ends here -/
def Sw (sw : Bool) (A B : List Nat) (i j x y : Nat) : Prop := sw = true ∧ 0 < i ∧ 0 < j ∧ A[i - 1]? = some y ∧ B[j - 1]? = some x
theorem swapTo_take {i j x y : Nat} (hi : i ≤ A.length) (hj : j ≤ B.length) (h : Sw sw A B i j x y) : swapTo sw x y (A.take i).reverse (B.take j).reverse = some ((A.take (i - 1)).reverse, (B.take (j - 1)).reverse) := by
  obtain ⟨h1, h2, h3, h4, h5⟩ := h
  obtain ⟨i, rfl⟩ : ∃ k, i = k + 1 := ⟨i - 1, by omega⟩
  obtain ⟨j, rfl⟩ : ∃ k, j = k + 1 := ⟨j - 1, by omega⟩
  simp only [Nat.add_sub_cancel] at h4 h5
  rw [take_succ_rev h4, take_succ_rev h5]
  simp [swapTo, h1]
theorem swapTo_none {i j x y : Nat} (hi : i ≤ A.length) (hj : j ≤ B.length) (h : ¬ Sw sw A B i j x y) : swapTo sw x y (A.take i).reverse (B.take j).reverse = none := by
  cases hs : swapTo sw x y (A.take i).reverse (B.take j).reverse with
  | none => rfl
  | some r =>
    obtain ⟨a', b'⟩ := r
    obtain ⟨h1, h2, h3⟩ := swapTo_some hs
    exfalso
    apply h
    have hi0 : 0 < i := by
      cases i with
      | zero => simp at h2
      | succ i => omega
    have hj0 : 0 < j := by
      cases j with
      | zero => simp at h3
      | succ j => omega
    obtain ⟨i, rfl⟩ : ∃ k, i = k + 1 := ⟨i - 1, by omega⟩
    obtain ⟨j, rfl⟩ : ∃ k, j = k + 1 := ⟨j - 1, by omega⟩
    have gx : A[i]? = some (A[i]'(by omega)) := List.getElem?_eq_getElem _
    have gy : B[j]? = some (B[j]'(by omega)) := List.getElem?_eq_getElem _
    rw [take_succ_rev gx] at h2
    rw [take_succ_rev gy] at h3
    refine ⟨h1, hi0, hj0, ?_, ?_⟩
    · show A[i]? = some y
      rw [gx, (List.cons.inj h2).1]
    · show B[j]? = some x
      rw [gy, (List.cons.inj h3).1]
theorem P_ne {i j x y : Nat} (hx : A[i]? = some x) (hy : B[j]? = some y) (h : x ≠ y) (hs : ¬ Sw sw A B i j x y) :
    P sw A B (i + 1) (j + 1) = min (P sw A B i j) (min (P sw A B (i + 1) j) (P sw A B i (j + 1))) + 1 := by
  have hi : i ≤ A.length := Nat.le_of_lt (List.getElem?_eq_some_iff.mp hx).1
  have hj : j ≤ B.length := Nat.le_of_lt (List.getElem?_eq_some_iff.mp hy).1
  unfold P
  rw [take_succ_rev hx, take_succ_rev hy, dist_ne h, swapTo_none hi hj hs]
theorem P_sw {i j x y : Nat} (hx : A[i]? = some x) (hy : B[j]? = some y) (h : x ≠ y) (hs : Sw sw A B i j x y) :
    P sw A B (i + 1) (j + 1) = min (min (P sw A B i j) (min (P sw A B (i + 1) j) (P sw A B i (j + 1))) + 1) (P sw A B (i - 1) (j - 1) + 1) := by
  have hi : i ≤ A.length := Nat.le_of_lt (List.getElem?_eq_some_iff.mp hx).1
  have hj : j ≤ B.length := Nat.le_of_lt (List.getElem?_eq_some_iff.mp hy).1
  unfold P
  rw [take_succ_rev hx, take_succ_rev hy, dist_ne h, swapTo_take hi hj hs]
theorem P_len (i j : Nat) (hi : i ≤ A.length) (hj : j ≤ B.length) : i ≤ j + P sw A B i j ∧ j ≤ i + P sw A B i j := by
  have := dist_len (sw := sw) (A.take i).reverse (B.take j).reverse
  simp only [List.length_reverse, List.length_take, Nat.min_eq_left hi, Nat.min_eq_left hj] at this
  exact this
/-- a path from (i, j) on the diagonal to the corner only rises -/
theorem P_diag (i j : Nat) (h : A.length - i = B.length - j) : P sw A B i j ≤ dist sw A B := by
  have e1 : A.reverse = (A.drop i).reverse ++ (A.take i).reverse := by rw [← List.reverse_append, List.take_append_drop]
  have e2 : B.reverse = (B.drop j).reverse ++ (B.take j).reverse := by rw [← List.reverse_append, List.take_append_drop]
  rw [← dist_reverse, e1, e2]
  exact dist_diags _ _ _ _ (by simp [h])
theorem P_pos {i j : Nat} {x y : Nat} (hx : A[0]? = some x) (hy : B[0]? = some y) (h : x ≠ y) (hi : 0 < i) (hj : 0 < j) : 0 < P sw A B i j := by
  rcases Nat.eq_zero_or_pos (P sw A B i j) with e | e
  · exfalso
    have h0 : A.take i = B.take j := by
      have := dist_zero.mp e
      simpa using this
    have h1 : (A.take i)[0]? = (B.take j)[0]? := by rw [h0]
    rw [List.getElem?_take, List.getElem?_take, if_pos hi, if_pos hj, hx, hy] at h1
    exact h (Option.some.inj h1)
  · exact e

/-- the least that is still to come on the way to the corner; d: what B is longer -/
def pot (d i j : Nat) : Nat := (j + 0 - (i + d)) + (i + d - j)
/-- a cell that may stand for P i j, as far as m asks -/
def Cell (sw : Bool) (A B : List Nat) (m d i j : Nat) (v : Int) : Prop := 0 ≤ v ∧ ∀ k : Nat, k + pot d i j ≤ m → (v ≤ (k : Int) ↔ P sw A B i j ≤ k)
theorem Cell.exact {m d i j : Nat} {v : Int} (h : v = (P sw A B i j : Nat)) : Cell sw A B m d i j v := by
  subst h; exact ⟨by omega, fun k _ => by omega⟩
theorem Cell.far {m d i j : Nat} {v : Int} (h1 : (m : Int) < v + pot d i j) (h0 : 0 ≤ v) (h2 : m < P sw A B i j + pot d i j) : Cell sw A B m d i j v :=
  ⟨h0, fun k hk => by omega⟩

theorem Cell.eq {m d i j x y : Nat} {l : Int} (hx : A[i]? = some x) (hy : B[j]? = some y) (h : x = y) (hl : Cell sw A B m d i j l) : Cell sw A B m d (i + 1) (j + 1) l := by
  refine ⟨hl.1, fun k hk => ?_⟩
  rw [P_eq hx hy h]
  exact hl.2 k (by unfold pot at *; omega)
theorem Cell.ne {m d i j x y : Nat} {l a o : Int} (hx : A[i]? = some x) (hy : B[j]? = some y) (h : x ≠ y) (hs : ¬ Sw sw A B i j x y) (hl : Cell sw A B m d i j l) (ha : Cell sw A B m d (i + 1) j a) (ho : Cell sw A B m d i (j + 1) o) :
    Cell sw A B m d (i + 1) (j + 1) (min l (min a o) + 1) := by
  refine ⟨by have := hl.1; have := ha.1; have := ho.1; omega, fun k hk => ?_⟩
  rw [P_ne hx hy h hs]
  cases k with
  | zero => have := hl.1; have := ha.1; have := ho.1; omega
  | succ k =>
    have e1 := hl.2 k (by unfold pot at *; omega)
    have e2 := ha.2 k (by unfold pot at *; omega)
    have e3 := ho.2 k (by unfold pot at *; omega)
    omega
theorem Cell.swp {m d i j x y : Nat} {l a o t : Int} (hx : A[i]? = some x) (hy : B[j]? = some y) (h : x ≠ y) (hs : Sw sw A B i j x y) (hl : Cell sw A B m d i j l) (ha : Cell sw A B m d (i + 1) j a) (ho : Cell sw A B m d i (j + 1) o)
    (ht : Cell sw A B m d (i - 1) (j - 1) t) : Cell sw A B m d (i + 1) (j + 1) (min (min l (min a o) + 1) (t + 1)) := by
  refine ⟨by have := hl.1; have := ha.1; have := ho.1; have := ht.1; omega, fun k hk => ?_⟩
  rw [P_sw hx hy h hs]
  have hi := hs.2.1
  have hj := hs.2.2.1
  cases k with
  | zero => have := hl.1; have := ha.1; have := ho.1; have := ht.1; omega
  | succ k =>
    have e1 := hl.2 k (by unfold pot at *; omega)
    have e2 := ha.2 k (by unfold pot at *; omega)
    have e3 := ho.2 k (by unfold pot at *; omega)
    have e4 := ht.2 k (by unfold pot at *; omega)
    omega
/-- at the band's left end: the cell above is not asked, a stray 1 does no harm -/
theorem Cell.ne0 {m d i j x y : Nat} {l o : Int} (hx : A[i]? = some x) (hy : B[j]? = some y) (h : x ≠ y) (hj : j = 0) (hl : Cell sw A B m d i j l) (ho : Cell sw A B m d i (j + 1) o) :
    Cell sw A B m d (i + 1) (j + 1) (min l o + 1) := by
  subst hj
  have hi : i < A.length := (List.getElem?_eq_some_iff.mp hx).1
  refine ⟨by have := hl.1; have := ho.1; omega, fun k hk => ?_⟩
  rw [P_ne hx hy h (fun hs => absurd hs.2.2.1 (Nat.lt_irrefl _)), P_top (sw := sw) (B := B) (i + 1) hi, P_top (sw := sw) (B := B) i (Nat.le_of_lt hi)]
  cases k with
  | zero => have := hl.1; have := ho.1; omega
  | succ k =>
    have e1 := hl.2 k (by unfold pot at *; omega)
    have e3 := ho.2 k (by unfold pot at *; omega)
    rw [P_top (sw := sw) (B := B) i (Nat.le_of_lt hi)] at e1
    omega
theorem Cell.edge {m d i j : Nat} {v : Int} (hv : 1 ≤ v) (hP : 0 < P sw A B i j) (hm : m ≤ pot d i j) : Cell sw A B m d i j v :=
  ⟨by omega, fun k hk => by omega⟩
end
end Mine

/-! Math3 -/
namespace Mine

/-- the rest's distance -/
def R (sw : Bool) (a b : List Nat) (i j : Nat) : Nat := dist sw (a.drop i) (b.drop j)
section
variable {sw : Bool} {a b : List Nat} {i j : Nat}
theorem drop_cons {l : List Nat} {i x : Nat} (h : l[i]? = some x) : l.drop i = x :: l.drop (i + 1) := by
  obtain ⟨h1, h2⟩ := List.getElem?_eq_some_iff.mp h
  rw [List.drop_eq_getElem_cons h1, h2]
theorem R_zero : R sw a b 0 0 = dist sw a b := rfl
theorem R_trim {x : Nat} (h1 : a[i]? = some x) (h2 : b[j]? = some x) : R sw a b i j = R sw a b (i + 1) (j + 1) := by
  unfold R; rw [drop_cons h1, drop_cons h2, dist_eq]
theorem R_del (h : i < a.length) : R sw a b i j ≤ R sw a b (i + 1) j + 1 := by
  unfold R; rw [drop_cons (List.getElem?_eq_getElem h)]; exact dist_le (.del (dist_ed _ _))
theorem R_ins (h : j < b.length) : R sw a b i j ≤ R sw a b i (j + 1) + 1 := by
  unfold R; rw [drop_cons (List.getElem?_eq_getElem h)]; exact dist_le (.ins (dist_ed _ _))
theorem R_sub (h : i < a.length) (h' : j < b.length) : R sw a b i j ≤ R sw a b (i + 1) (j + 1) + 1 := by
  unfold R; rw [drop_cons (List.getElem?_eq_getElem h), drop_cons (List.getElem?_eq_getElem h')]; exact dist_le (.sub (dist_ed _ _))
theorem R_swap {x y : Nat} (hs : sw = true) (h1 : a[i]? = some x) (h2 : a[i + 1]? = some y) (h3 : b[j]? = some y) (h4 : b[j + 1]? = some x) : R sw a b i j ≤ R sw a b (i + 2) (j + 2) + 1 := by
  unfold R; rw [drop_cons h1, drop_cons h2, drop_cons h3, drop_cons h4]; exact dist_le (.swap hs (dist_ed _ _))
theorem R_len : a.length - i ≤ (b.length - j) + R sw a b i j ∧ b.length - j ≤ (a.length - i) + R sw a b i j := by
  have := dist_len (sw := sw) (a.drop i) (b.drop j)
  simp only [List.length_drop] at this
  exact this
/-- the law's steps -/
def steps (sw : Bool) : List (Nat × Nat) := if sw then [(1, 0), (0, 1), (1, 1), (2, 2)] else [(1, 0), (0, 1), (1, 1)]
theorem steps_mem : (1, 0) ∈ steps sw ∧ (0, 1) ∈ steps sw ∧ (1, 1) ∈ steps sw := by cases sw <;> simp [steps]
/-- no equal heads stand here -/
def Apart (a b : List Nat) (i j : Nat) : Prop := ∀ x y, a[i]? = some x → b[j]? = some y → x ≠ y
theorem R_ends (hi : i ≤ a.length) (hj : j ≤ b.length) (hd : Apart a b i j) (h : R sw a b i j = 0) : i = a.length ∧ j = b.length := by
  have e : a.drop i = b.drop j := dist_zero.mp h
  have hl := congrArg List.length e
  simp only [List.length_drop] at hl
  by_cases h1 : i < a.length
  · have h2 : j < b.length := by omega
    exfalso
    rw [drop_cons (List.getElem?_eq_getElem h1), drop_cons (List.getElem?_eq_getElem h2)] at e
    exact hd _ _ (List.getElem?_eq_getElem h1) (List.getElem?_eq_getElem h2) (List.cons.inj e).1
  · omega
theorem R_best (hi : i ≤ a.length) (hj : j ≤ b.length) (hd : Apart a b i j) (h : R sw a b i j ≠ 0) :
    ∃ d r, (d, r) ∈ steps sw ∧ i + d ≤ a.length ∧ j + r ≤ b.length ∧ R sw a b (i + d) (j + r) + 1 = R sw a b i j ∧ (d = 2 → sw = true ∧ r = 2 ∧ a[i]? = b[j + 1]? ∧ a[i + 1]? = b[j]?) := by
  obtain ⟨m1, m2, m3⟩ := steps_mem (sw := sw)
  by_cases h1 : i < a.length
  · by_cases h2 : j < b.length
    · have g1 := List.getElem?_eq_getElem h1
      have g2 := List.getElem?_eq_getElem h2
      have hne := hd _ _ g1 g2
      have e := dist_ne (sw := sw) hne (a.drop (i + 1)) (b.drop (j + 1))
      rw [← drop_cons g1, ← drop_cons g2] at e
      have e0 : R sw a b i j = dist sw (a.drop i) (b.drop j) := rfl
      have e1 : R sw a b (i + 1) (j + 1) = dist sw (a.drop (i + 1)) (b.drop (j + 1)) := rfl
      have e2 : R sw a b (i + 1) j = dist sw (a.drop (i + 1)) (b.drop j) := rfl
      have e3 : R sw a b i (j + 1) = dist sw (a.drop i) (b.drop (j + 1)) := rfl
      have three : R sw a b i j = min (R sw a b (i + 1) (j + 1)) (min (R sw a b i (j + 1)) (R sw a b (i + 1) j)) + 1 → ∃ d r, (d, r) ∈ steps sw ∧ i + d ≤ a.length ∧ j + r ≤ b.length ∧ R sw a b (i + d) (j + r) + 1 = R sw a b i j ∧ (d = 2 → sw = true ∧ r = 2 ∧ a[i]? = b[j + 1]? ∧ a[i + 1]? = b[j]?) := fun hm => by
        by_cases c1 : R sw a b (i + 1) (j + 1) + 1 = R sw a b i j
        · exact ⟨1, 1, m3, h1, h2, c1, fun h => absurd h (by omega)⟩
        · by_cases c2 : R sw a b (i + 1) j + 1 = R sw a b i j
          · exact ⟨1, 0, m1, h1, hj, c2, fun h => absurd h (by omega)⟩
          · exact ⟨0, 1, m2, hi, h2, by show R sw a b i (j + 1) + 1 = _; omega, fun h => absurd h (by omega)⟩
      cases hs : swapTo sw a[i] b[j] (a.drop (i + 1)) (b.drop (j + 1)) with
      | none =>
        rw [hs] at e
        exact three (by rw [e0, e1, e2, e3]; exact e)
      | some q =>
        obtain ⟨a', b'⟩ := q
        rw [hs] at e
        obtain ⟨s1, s2, s3⟩ := swapTo_some hs
        have g3 : a[i + 1]? = some b[j] := by
          have := congrArg (fun l => l[0]?) s2
          simpa [List.getElem?_drop] using this
        have g4 : b[j + 1]? = some a[i] := by
          have := congrArg (fun l => l[0]?) s3
          simpa [List.getElem?_drop] using this
        have s2' := drop_cons g3
        have s3' := drop_cons g4
        rw [s2'] at s2
        rw [s3'] at s3
        have ea := (List.cons.inj s2).2
        have eb := (List.cons.inj s3).2
        have e4 : R sw a b (i + 2) (j + 2) = dist sw a' b' := by rw [← ea, ← eb]; rfl
        have hle := R_swap s1 g1 g3 g2 g4
        by_cases c : R sw a b (i + 2) (j + 2) + 1 = R sw a b i j
        · have l1 := (List.getElem?_eq_some_iff.mp g3).1
          have l2 := (List.getElem?_eq_some_iff.mp g4).1
          exact ⟨2, 2, by rw [s1]; simp [steps], l1, l2, c, fun _ => ⟨s1, rfl, by rw [g1, g4], by rw [g3, g2]⟩⟩
        · refine three ?_
          have e' : dist sw (a.drop i) (b.drop j) = min (min (dist sw (a.drop (i + 1)) (b.drop (j + 1))) (min (dist sw (a.drop i) (b.drop (j + 1))) (dist sw (a.drop (i + 1)) (b.drop j))) + 1) (dist sw a' b' + 1) := e
          omega
    · have ej : j = b.length := by omega
      subst ej
      have e1 : R sw a b i b.length = a.length - i := by unfold R; rw [List.drop_length, dist_nil_right]; simp
      have e2 : R sw a b (i + 1) b.length = a.length - (i + 1) := by unfold R; rw [List.drop_length, dist_nil_right]; simp
      exact ⟨1, 0, m1, h1, Nat.le_refl _, by show R sw a b (i + 1) b.length + 1 = _; omega, fun h => absurd h (by omega)⟩
  · have ei : i = a.length := by omega
    subst ei
    have e1 : R sw a b a.length j = b.length - j := by unfold R; rw [List.drop_length, dist_nil_left]; simp
    have e2 : R sw a b a.length (j + 1) = b.length - (j + 1) := by unfold R; rw [List.drop_length, dist_nil_left]; simp
    have h2 : j < b.length := by omega
    exact ⟨0, 1, m2, Nat.le_refl _, h2, by show R sw a b a.length (j + 1) + 1 = _; omega, fun h => absurd h (by omega)⟩
/-- each of the law's steps is an edit -/
theorem R_step {d r : Nat} (hm : (d, r) ∈ steps sw) (h1 : i + d ≤ a.length) (h2 : j + r ≤ b.length) (h3 : d = 2 → a[i]? = b[j + 1]? ∧ a[i + 1]? = b[j]?) : R sw a b i j ≤ R sw a b (i + d) (j + r) + 1 := by
  have hc : (d = 1 ∧ r = 0) ∨ (d = 0 ∧ r = 1) ∨ (d = 1 ∧ r = 1) ∨ (sw = true ∧ d = 2 ∧ r = 2) := by
    cases sw with
    | false => simp [steps] at hm; omega
    | true => simp [steps] at hm; rcases hm with h | h | h | h <;> simp [h]
  rcases hc with ⟨rfl, rfl⟩ | ⟨rfl, rfl⟩ | ⟨rfl, rfl⟩ | ⟨hs, rfl, rfl⟩
  · exact R_del h1
  · exact R_ins h2
  · exact R_sub h1 h2
  · obtain ⟨q1, q2⟩ := h3 rfl
    have g1 := List.getElem?_eq_getElem (show i < a.length by omega)
    have g2 := List.getElem?_eq_getElem (show i + 1 < a.length by omega)
    exact R_swap hs g1 g2 (by rw [← q2, g2]) (by rw [← q1, g1])
end
end Mine

/-! Math4 -/
namespace Mine

/-! the law's layers -/
abbrev Pt := Nat × Nat
def stepF (a b : List Nat) (m done i j : Nat) (SF : List Pt × List Pt) (q : Pt) : List Pt × List Pt :=
  if a.length - i < q.1 ∨ b.length - j < q.2 ∨ (i + q.1, j + q.2) ∈ SF.1 then SF
  else if (m : Int) - done ≤ (((a.length - i : Nat) : Int) - q.1 - ((b.length - j : Nat) : Int) + q.2).natAbs then SF
  else if q.1 = 2 ∧ (a[i]? ≠ b[j + 1]? ∨ a[i + 1]? ≠ b[j]?) then SF
  else ((i + q.1, j + q.2) :: SF.1, SF.2 ++ [(i + q.1, j + q.2)])
def trim (a b : List Nat) : Nat → Nat → Nat → Pt
  | 0, i, j => (i, j)
  | n + 1, i, j => match a[i]?, b[j]? with
    | some x, some y => if x = y then trim a b n (i + 1) (j + 1) else (i, j)
    | _, _ => (i, j)
def spotF (a b : List Nat) (st : List Pt) (m done : Nat) (SF : List Pt × List Pt) (p : Pt) : Option (List Pt × List Pt) :=
  if (trim a b 9 p.1 p.2).1 = a.length ∧ (trim a b 9 p.1 p.2).2 = b.length then none else some (st.foldl (stepF a b m done (trim a b 9 p.1 p.2).1 (trim a b 9 p.1 p.2).2) SF)
def layerF (a b : List Nat) (st : List Pt) (m done : Nat) : List Pt → List Pt × List Pt → Option (List Pt × List Pt)
  | [], SF => some SF
  | p :: E, SF => match spotF a b st m done SF p with
    | none => none
    | some SF' => layerF a b st m done E SF'
def bfs (a b : List Nat) (st : List Pt) (m : Nat) : Nat → Nat → List Pt → List Pt → Int
  | 0, _, _, _ => -1
  | n + 1, done, E, S => match layerF a b st m done E (S, []) with
    | none => done
    | some SF => bfs a b st m n (done + 1) SF.2 SF.1

section
variable {sw : Bool} {a b : List Nat} {D m done : Nat}
theorem trim_ok : ∀ (n i j : Nat), i ≤ a.length → j ≤ b.length → (trim a b n i j).1 ≤ a.length ∧ (trim a b n i j).2 ≤ b.length ∧ R sw a b (trim a b n i j).1 (trim a b n i j).2 = R sw a b i j ∧ (a.length < n + i → Apart a b (trim a b n i j).1 (trim a b n i j).2)
  | 0, i, j, h1, h2 => ⟨h1, h2, rfl, fun h => absurd h (by omega)⟩
  | n + 1, i, j, h1, h2 => by
    unfold trim
    split
    · rename_i x y hx hy
      have l1 := (List.getElem?_eq_some_iff.mp hx).1
      have l2 := (List.getElem?_eq_some_iff.mp hy).1
      split
      · rename_i e
        subst e
        obtain ⟨q1, q2, q3, q4⟩ := trim_ok n (i + 1) (j + 1) l1 l2
        exact ⟨q1, q2, q3.trans (R_trim hx hy).symm, fun h => q4 (by omega)⟩
      · rename_i e
        exact ⟨h1, h2, rfl, fun _ x' y' g1 g2 => by rw [hx] at g1; rw [hy] at g2; cases g1; cases g2; exact e⟩
    · rename_i hno
      exact ⟨h1, h2, rfl, fun _ x' y' g1 g2 => absurd g2 (hno x' y' g1)⟩

/-- while a layer is worked -/
structure LI (sw : Bool) (a b : List Nat) (D done : Nat) (SF : List Pt × List Pt) : Prop where
  dom : ∀ q ∈ SF.1, q.1 ≤ a.length ∧ q.2 ≤ b.length
  nd : SF.1.Nodup
  fs : ∀ q ∈ SF.2, q ∈ SF.1
  len : SF.2.length ≤ SF.1.length
  snd : ∀ q ∈ SF.2, D ≤ done + 1 + R sw a b q.1 q.2
  old : ∀ q ∈ SF.1, q ∈ SF.2 ∨ D ≤ done + R sw a b q.1 q.2

theorem stepF_ok {i j : Nat} (hi : i ≤ a.length) (hj : j ≤ b.length) (hD : D ≤ done + R sw a b i j) {SF : List Pt × List Pt} (L : LI sw a b D done SF) {q : Pt} (hq : q ∈ steps sw) :
    LI sw a b D done (stepF a b m done i j SF q) ∧ ∀ p ∈ SF.2, p ∈ (stepF a b m done i j SF q).2 := by
  unfold stepF
  split
  · exact ⟨L, fun _ h => h⟩
  · rename_i h1
    split
    · exact ⟨L, fun _ h => h⟩
    · split
      · exact ⟨L, fun _ h => h⟩
      · rename_i h3
        have g1 : ¬ a.length - i < q.1 := fun h => h1 (.inl h)
        have g2 : ¬ b.length - j < q.2 := fun h => h1 (.inr (.inl h))
        have g3 : (i + q.1, j + q.2) ∉ SF.1 := fun h => h1 (.inr (.inr h))
        have g4 : q.1 = 2 → a[i]? = b[j + 1]? ∧ a[i + 1]? = b[j]? := fun h => by
          constructor
          · exact Classical.byContradiction fun c => h3 ⟨h, .inl c⟩
          · exact Classical.byContradiction fun c => h3 ⟨h, .inr c⟩
        have hs := R_step (sw := sw) (a := a) (b := b) (i := i) (j := j) (d := q.1) (r := q.2) hq (by omega) (by omega) g4
        refine ⟨⟨fun p hp => ?_, List.nodup_cons.mpr ⟨g3, L.nd⟩, fun p hp => ?_, by simp; exact L.len, fun p hp => ?_, fun p hp => ?_⟩, fun p hp => List.mem_append_left _ hp⟩
        · rcases List.mem_cons.mp hp with rfl | hp
          · exact ⟨by dsimp only; omega, by dsimp only; omega⟩
          · exact L.dom p hp
        · rcases List.mem_append.mp hp with hp | hp
          · exact .tail _ (L.fs p hp)
          · rw [List.mem_singleton.mp hp]; exact .head _
        · rcases List.mem_append.mp hp with hp | hp
          · exact L.snd p hp
          · rw [List.mem_singleton.mp hp]; dsimp only; omega
        · rcases List.mem_cons.mp hp with rfl | hp
          · exact .inl (List.mem_append_right _ (.head _))
          · rcases L.old p hp with h | h
            · exact .inl (List.mem_append_left _ h)
            · exact .inr h
theorem stepF_best {i j : Nat} (hi : i ≤ a.length) (hj : j ≤ b.length) (hDm : D ≤ m) {SF : List Pt × List Pt} (L : LI sw a b D done SF) {q : Pt}
    (h1 : i + q.1 ≤ a.length) (h2 : j + q.2 ≤ b.length) (h3 : done + R sw a b (i + q.1) (j + q.2) + 1 = D) (h4 : q.1 = 2 → a[i]? = b[j + 1]? ∧ a[i + 1]? = b[j]?) :
    (i + q.1, j + q.2) ∈ (stepF a b m done i j SF q).2 := by
  unfold stepF
  by_cases hS : (i + q.1, j + q.2) ∈ SF.1
  · rw [if_pos (.inr (.inr hS))]
    rcases L.old _ hS with h | h
    · exact h
    · dsimp only at h; omega
  · rw [if_neg (by rintro (h | h | h); omega; omega; exact hS h)]
    have hl := R_len (sw := sw) (a := a) (b := b) (i := i + q.1) (j := j + q.2)
    rw [if_neg (by omega), if_neg (by
      rintro ⟨h5, h6 | h6⟩
      · exact h6 (h4 h5).1
      · exact h6 (h4 h5).2)]
    exact List.mem_append_right _ (.head _)
theorem fold_ok {i j : Nat} (hi : i ≤ a.length) (hj : j ≤ b.length) (hD : D ≤ done + R sw a b i j) : ∀ (l : List Pt) {SF : List Pt × List Pt}, LI sw a b D done SF → (∀ q ∈ l, q ∈ steps sw) →
    LI sw a b D done (l.foldl (stepF a b m done i j) SF) ∧ (∀ p ∈ SF.2, p ∈ (l.foldl (stepF a b m done i j) SF).2)
  | [], _, L, _ => ⟨L, fun _ h => h⟩
  | q :: l, SF, L, hl => by
    obtain ⟨g1, g2⟩ := stepF_ok (m := m) hi hj hD L (hl q (.head _))
    obtain ⟨g3, g4⟩ := fold_ok hi hj hD l g1 fun p hp => hl p (.tail _ hp)
    exact ⟨g3, fun p hp => g4 p (g2 p hp)⟩
theorem fold_best {i j : Nat} (hi : i ≤ a.length) (hj : j ≤ b.length) (hD : D ≤ done + R sw a b i j) (hDm : D ≤ m) {q : Pt} (h1 : i + q.1 ≤ a.length) (h2 : j + q.2 ≤ b.length) (h3 : done + R sw a b (i + q.1) (j + q.2) + 1 = D)
    (h4 : q.1 = 2 → a[i]? = b[j + 1]? ∧ a[i + 1]? = b[j]?) : ∀ (l : List Pt) {SF : List Pt × List Pt}, LI sw a b D done SF → (∀ q ∈ l, q ∈ steps sw) → q ∈ l → (i + q.1, j + q.2) ∈ (l.foldl (stepF a b m done i j) SF).2
  | [], _, _, _, h => nomatch h
  | q' :: l, SF, L, hl, hq => by
    obtain ⟨g1, g2⟩ := stepF_ok (m := m) hi hj hD L (hl q' (.head _))
    rcases List.mem_cons.mp hq with rfl | hq
    · exact (fold_ok hi hj hD l g1 fun p hp => hl p (.tail _ hp)).2 _ (stepF_best hi hj hDm L h1 h2 h3 h4)
    · exact fold_best hi hj hD hDm h1 h2 h3 h4 l g1 (fun p hp => hl p (.tail _ hp)) hq

/-- a layer: it ends at the grid's end, or all goes on -/
theorem layer_ok (ha : a.length ≤ 5) (hdone : done ≤ D) : ∀ (E : List Pt) {SF : List Pt × List Pt}, LI sw a b D done SF → (∀ p ∈ E, p.1 ≤ a.length ∧ p.2 ≤ b.length ∧ D ≤ done + R sw a b p.1 p.2) →
    match layerF a b (steps sw) m done E SF with
    | none => D = done
    | some SF' => LI sw a b D done SF' ∧ (∀ p ∈ SF.2, p ∈ SF'.2) ∧ (D ≤ m → (∃ p ∈ E, done + R sw a b p.1 p.2 = D) → done < D ∧ ∃ q ∈ SF'.2, done + 1 + R sw a b q.1 q.2 = D)
  | [], SF, L, _ => ⟨L, fun _ h => h, fun _ h => let ⟨_, h, _⟩ := h; nomatch h⟩
  | p :: E, SF, L, hE => by
    unfold layerF spotF
    obtain ⟨e1, e2, e3⟩ := hE p (.head _)
    obtain ⟨t1, t2, t3, t4'⟩ := trim_ok (sw := sw) (a := a) (b := b) 9 p.1 p.2 e1 e2
    have t4 := t4' (by omega)
    clear t4'
    generalize trim a b 9 p.1 p.2 = t at *
    by_cases hend : t.1 = a.length ∧ t.2 = b.length
    · rw [if_pos hend]
      dsimp only
      have : R sw a b t.1 t.2 = 0 := by
        unfold R; rw [hend.1, hend.2, List.drop_length, List.drop_length, dist_nil_left]; rfl
      omega
    · rw [if_neg hend]
      dsimp only
      obtain ⟨g1, g2⟩ := fold_ok (m := m) t1 t2 (by omega) (steps sw) L fun _ h => h
      have ih := layer_ok ha hdone E g1 fun q hq => hE q (.tail _ hq)
      have hR : R sw a b t.1 t.2 ≠ 0 := fun h => hend (R_ends t1 t2 t4 h)
      generalize hSF : (steps sw).foldl (stepF a b m done t.1 t.2) SF = SF1 at g1 g2 ih
      split
      · rename_i h; rw [h] at ih; exact ih
      · rename_i SF' h
        rw [h] at ih
        obtain ⟨i1, i2, i3⟩ := ih
        refine ⟨i1, fun q hq => i2 q (g2 q hq), fun hDm hex => ?_⟩
        obtain ⟨q, hq, hqe⟩ := hex
        rcases List.mem_cons.mp hq with rfl | hq
        · obtain ⟨d, r, s1, s2, s3, s4, s5⟩ := R_best (sw := sw) t1 t2 t4 hR
          have hb := fold_best (m := m) (SF := SF) t1 t2 (by omega) hDm (q := (d, r)) s2 s3 (by dsimp only; omega) (fun h => ⟨(s5 h).2.2.1, (s5 h).2.2.2⟩) (steps sw) L (fun _ h => h) s1
          rw [hSF] at hb
          exact ⟨by omega, _, i2 _ hb, by dsimp only; omega⟩
        · exact i3 hDm ⟨q, hq, hqe⟩

theorem bfs_ok (ha : a.length ≤ 5) (hD : D = dist sw a b) : ∀ (n done : Nat) (E S : List Pt), n + done = m + 1 → done ≤ D → (∀ p ∈ E, p.1 ≤ a.length ∧ p.2 ≤ b.length ∧ D ≤ done + R sw a b p.1 p.2) →
    (∀ q ∈ S, q.1 ≤ a.length ∧ q.2 ≤ b.length ∧ D ≤ done + R sw a b q.1 q.2) → S.Nodup → (D ≤ m → ∃ p ∈ E, done + R sw a b p.1 p.2 = D) → bfs a b (steps sw) m n done E S = if D ≤ m then (D : Int) else -1
  | 0, done, E, S, h1, h2, _, _, _, _ => by
    unfold bfs; rw [if_neg (by omega)]
  | n + 1, done, E, S, h1, h2, h3, h4, h5, h6 => by
    unfold bfs
    have L : LI sw a b D done (S, []) := ⟨fun q hq => ⟨(h4 q hq).1, (h4 q hq).2.1⟩, h5, fun _ h => (nomatch h), Nat.zero_le _, fun _ h => (nomatch h), fun q hq => .inr (h4 q hq).2.2⟩
    have ih := layer_ok (m := m) ha h2 E L h3
    split
    · rename_i h
      rw [h] at ih
      have ih : D = done := ih
      rw [if_pos (by omega), ih]
    · rename_i SF h
      rw [h] at ih
      obtain ⟨i1, i2, i3⟩ := ih
      refine bfs_ok ha hD n (done + 1) SF.2 SF.1 (by omega) ?_ (fun p hp => ?_) (fun q hq => ?_) i1.nd (fun hDm => ?_)
      · by_cases hDm : D ≤ m
        · exact (i3 hDm (h6 hDm)).1
        · omega
      · exact ⟨(i1.dom p (i1.fs p hp)).1, (i1.dom p (i1.fs p hp)).2, i1.snd p hp⟩
      · refine ⟨(i1.dom q hq).1, (i1.dom q hq).2, ?_⟩
        rcases i1.old q hq with h | h
        · exact i1.snd q h
        · omega
      · obtain ⟨_, q, q1, q2⟩ := i3 hDm (h6 hDm)
        exact ⟨q, q1, q2⟩
theorem bfs_whole (ha : a.length ≤ 5) (m : Nat) : bfs a b (steps sw) m (m + 1) 0 [(0, 0)] [] = if dist sw a b ≤ m then (dist sw a b : Int) else -1 := by
  refine bfs_ok (D := dist sw a b) ha rfl (m + 1) 0 _ _ rfl (Nat.zero_le _) (fun p hp => ?_) (fun q hq => nomatch hq) List.nodup_nil fun _ => ⟨(0, 0), .head _, ?_⟩
  · rw [List.mem_singleton.mp hp]; exact ⟨Nat.zero_le _, Nat.zero_le _, by rw [R_zero]; omega⟩
  · rw [R_zero]; omega
end
end Mine

open PySem PySem.W PyProof.Rows

/-! Set1 -/
namespace Mine
open SetTable

/-! a set's table, without the program -/
def Srt (xs : Array Nat) : Prop := ∀ i k, i < k → k < xs.size → xs.getD i 0 < xs.getD k 0

theorem below_go (xs : Array Nat) (j : Nat) : ∀ (fuel lo hi : Nat), lo ≤ hi → hi ≤ xs.size → hi - lo ≤ fuel → Srt xs → (∀ i, i < lo → xs.getD i 0 < j) → (∀ i, hi ≤ i → i < xs.size → j ≤ xs.getD i 0) →
    lo ≤ below.go xs j fuel lo hi ∧ below.go xs j fuel lo hi ≤ hi ∧ (∀ i, i < below.go xs j fuel lo hi → xs.getD i 0 < j) ∧ (∀ i, below.go xs j fuel lo hi ≤ i → i < xs.size → j ≤ xs.getD i 0) := by
  intro fuel
  induction fuel with
  | zero =>
    intro lo hi h1 h2 h3 _ h5 h6
    have e : hi = lo := by omega
    subst e
    exact ⟨Nat.le_refl _, Nat.le_refl _, h5, h6⟩
  | succ fuel ih =>
    intro lo hi h1 h2 h3 h4 h5 h6
    unfold below.go
    by_cases hlt : lo < hi
    · rw [if_pos hlt]
      dsimp only
      have hmid : xs.getD ((lo + hi) / 2) j = xs.getD ((lo + hi) / 2) 0 := by
        rw [Array.getD_eq_getD_getElem?, Array.getD_eq_getD_getElem?, Array.getElem?_eq_getElem (show (lo + hi) / 2 < xs.size by omega)]; rfl
      rw [hmid]
      by_cases hm : xs.getD ((lo + hi) / 2) 0 < j
      · rw [if_pos hm]
        obtain ⟨a, b, c, d⟩ := ih ((lo + hi) / 2 + 1) hi (by omega) h2 (by omega) h4 (fun i hi' => by
          by_cases e : i = (lo + hi) / 2
          · rw [e]; exact hm
          · have := h4 i ((lo + hi) / 2) (by omega) (by omega); omega) h6
        exact ⟨by omega, b, c, d⟩
      · rw [if_neg hm]
        obtain ⟨a, b, c, d⟩ := ih lo ((lo + hi) / 2) (by omega) (by omega) (by omega) h4 h5 (fun i hi' hs => by
          by_cases e : i = (lo + hi) / 2
          · rw [e]; omega
          · have := h4 ((lo + hi) / 2) i (by omega) hs; omega)
        exact ⟨a, by omega, c, d⟩
    · rw [if_neg hlt]
      have e : hi = lo := by omega
      subst e
      exact ⟨Nat.le_refl _, Nat.le_refl _, h5, h6⟩
theorem below_spec {xs : Array Nat} (h : Srt xs) (j : Nat) : below xs j ≤ xs.size ∧ (∀ i, i < below xs j → xs.getD i 0 < j) ∧ (∀ i, below xs j ≤ i → i < xs.size → j ≤ xs.getD i 0) := by
  have := below_go xs j xs.size 0 xs.size (Nat.zero_le _) (Nat.le_refl _) (by omega) h (fun i hi => absurd hi (Nat.not_lt_zero _)) (fun i h1 h2 => absurd h2 (Nat.not_lt.mpr h1))
  exact ⟨this.2.1, this.2.2⟩

theorem getD_of {xs : Array Nat} {i j : Nat} (h : xs[i]? = some j) : i < xs.size ∧ xs.getD i 0 = j := by
  obtain ⟨h1, h2⟩ := Array.getElem?_eq_some_iff.mp h
  exact ⟨h1, by rw [Array.getD_eq_getD_getElem?, h]; rfl⟩
theorem of_getD {xs : Array Nat} {i j : Nat} (h : i < xs.size) (e : xs.getD i 0 = j) : xs[i]? = some j := by
  rw [Array.getElem?_eq_getElem h]
  rw [Array.getD_eq_getD_getElem?, Array.getElem?_eq_getElem h] at e
  exact congrArg some e

/-- a table without dummies, sorted -/
structure Plain (t : SetTable) : Prop where
  srt : Srt t.place
  nod : t.dummies = #[]
theorem slot_live {t : SetTable} (P : Plain t) {i j : Nat} (h : t.place[i]? = some j) : t.slot j = .live i := by
  obtain ⟨h1, h2⟩ := getD_of h
  obtain ⟨b1, b2, b3⟩ := below_spec P.srt j
  have e : below t.place j = i := by
    by_cases c : below t.place j ≤ i
    · by_cases c2 : below t.place j = i
      · exact c2
      · have := b3 (below t.place j) (Nat.le_refl _) (by omega)
        have := P.srt (below t.place j) i (by omega) h1
        omega
    · have := b2 i (by omega); omega
  unfold SetTable.slot
  simp only [e, h, beq_self_eq_true, if_true]
theorem slot_empty {t : SetTable} (P : Plain t) {j : Nat} (h : ∀ i : Nat, t.place[i]? ≠ some j) : t.slot j = .empty := by
  unfold SetTable.slot
  have h1 : (t.place[below t.place j]? == some j) = false := by
    rw [← Bool.not_eq_true, beq_iff_eq]; exact h _
  have h2 : has t.dummies j = false := by rw [P.nod]; rfl
  simp only [h1, h2, Bool.false_eq_true, if_false]
/-- what lies at a slot -/
def view (t : SetTable) (es : Array (Int × Value)) (j : Nat) : Option (Int × Value) := match t.slot j with | .live i => es[i]? | _ => none
theorem slot_cases {t : SetTable} (P : Plain t) (j : Nat) : (∃ i : Nat, t.place[i]? = some j ∧ t.slot j = .live i) ∨ ((∀ i : Nat, t.place[i]? ≠ some j) ∧ t.slot j = .empty) := by
  by_cases h : ∃ i : Nat, t.place[i]? = some j
  · obtain ⟨i, hi⟩ := h; exact .inl ⟨i, hi, slot_live P hi⟩
  · exact .inr ⟨fun i hi => h ⟨i, hi⟩, slot_empty P fun i hi => h ⟨i, hi⟩⟩

/-! the runs of the search -/
def runAt (mask : Nat) (h : Int) : Nat → Nat × Nat
  | 0 => (bits h % (mask + 1), bits h)
  | r + 1 => leap mask (runAt mask h r).1 (runAt mask h r).2
/-- the starts of the runs, as one number -/
def cover (mask : Nat) : Nat → Nat → Nat → Nat → Nat
  | 0, _, _, acc => acc
  | n + 1, i, p, acc => cover mask n (leap mask i p).1 (leap mask i p).2 (acc ||| (1 <<< i))
def covers (mask : Nat) (h : Int) : Bool := cover mask (turns mask) (bits h % (mask + 1)) (bits h) 0 == 2 ^ (mask + 1) - 1
theorem cover_bit (mask : Nat) (h : Int) (j : Nat) : ∀ (n r acc : Nat), (cover mask n (runAt mask h r).1 (runAt mask h r).2 acc).testBit j = true → acc.testBit j = true ∨ ∃ q, r ≤ q ∧ q < r + n ∧ (runAt mask h q).1 = j := by
  intro n
  induction n with
  | zero => intro r acc hb; exact .inl hb
  | succ n ih =>
    intro r acc hb
    rcases ih (r + 1) _ hb with h1 | ⟨q, q1, q2, q3⟩
    · rw [Nat.testBit_or] at h1
      rcases Bool.or_eq_true_iff.mp h1 with h2 | h2
      · exact .inl h2
      · right
        refine ⟨r, Nat.le_refl _, by omega, ?_⟩
        rw [Nat.one_shiftLeft, Nat.testBit_two_pow] at h2
        simpa using h2
    · exact .inr ⟨q, by omega, by omega, q3⟩
theorem covers_run {mask : Nat} {h : Int} (hc : covers mask h = true) {j : Nat} (hj : j ≤ mask) : ∃ r, r < turns mask ∧ (runAt mask h r).1 = j := by
  unfold covers at hc
  have e := beq_iff_eq.mp hc
  have hb : (cover mask (turns mask) (runAt mask h 0).1 (runAt mask h 0).2 0).testBit j = true := by
    show (cover mask (turns mask) (bits h % (mask + 1)) (bits h) 0).testBit j = true
    rw [e, Nat.testBit_two_pow_sub_one]
    simpa using Nat.lt_succ_of_le hj
  rcases cover_bit mask h j (turns mask) 0 0 hb with h1 | ⟨q, _, q2, q3⟩
  · simp at h1
  · exact ⟨q, by omega, q3⟩
end Mine

/-! Set2 -/
namespace Mine
open SetTable

theorem least {p : Nat → Prop} : ∀ n, p n → ∃ m, m ≤ n ∧ p m ∧ ∀ q, q < m → ¬ p q := by
  intro n
  induction n using Nat.strongRecOn with
  | ind n ih =>
    intro hn
    by_cases h : ∃ q, q < n ∧ p q
    · obtain ⟨q, h1, h2⟩ := h
      obtain ⟨m, a, b, c⟩ := ih q h1 h2
      exact ⟨m, by omega, b, c⟩
    · exact ⟨n, Nat.le_refl _, hn, fun q hq hp => h ⟨q, hq, hp⟩⟩
/-- how far a run goes -/
def rlen (mask : Nat) (h : Int) (r : Nat) : Nat := runEnd mask (runAt mask h r).1 - (runAt mask h r).1
/-- the k-th slot of the r-th run -/
def spot (mask : Nat) (h : Int) (r k : Nat) : Nat := (runAt mask h r).1 + k
def prb (mask : Nat) (h : Int) (r k : Nat) : Probe := { j := spot mask h r k, more := rlen mask h r - k, i := (runAt mask h r).1, perturb := (runAt mask h r).2, dummy := none }
theorem rlen_le (mask : Nat) (h : Int) (r : Nat) : rlen mask h r ≤ 9 := by unfold rlen runEnd; split <;> omega
theorem runEnd_le (mask i : Nat) (hi : i ≤ mask) : runEnd mask i ≤ mask := by unfold runEnd; split <;> omega
theorem runEnd_ge (mask i : Nat) : i ≤ runEnd mask i := by unfold runEnd; split <;> omega
theorem runAt_le (mask : Nat) (h : Int) (r : Nat) : (runAt mask h r).1 ≤ mask := by
  cases r with
  | zero => exact Nat.le_of_lt_succ (Nat.mod_lt _ (Nat.succ_pos _))
  | succ r => exact Nat.le_of_lt_succ (Nat.mod_lt _ (Nat.succ_pos _))
theorem spot_le {mask : Nat} {h : Int} {r k : Nat} (hk : k ≤ rlen mask h r) : spot mask h r k ≤ mask := by
  have h1 := runEnd_le mask _ (runAt_le mask h r)
  have h2 := runEnd_ge mask (runAt mask h r).1
  unfold spot; unfold rlen at hk; omega

theorem adv_in {t : SetTable} {h : Int} {r k : Nat} (hk : k < rlen t.mask h r) : t.advance (prb t.mask h r k) = prb t.mask h r (k + 1) := by
  unfold advance prb
  rw [if_pos (show rlen t.mask h r - k > 0 by omega)]
  dsimp only
  rw [show spot t.mask h r k + 1 = spot t.mask h r (k + 1) by unfold spot; omega, show rlen t.mask h r - k - 1 = rlen t.mask h r - (k + 1) by omega]
theorem adv_end {t : SetTable} {h : Int} {r : Nat} : t.advance (prb t.mask h r (rlen t.mask h r)) = prb t.mask h (r + 1) 0 := by
  unfold advance prb
  rw [if_neg (show ¬ rlen t.mask h r - rlen t.mask h r > 0 by omega)]
  rfl

section
variable {t : SetTable} {at_ : Nat → Int} {h : Int}
/-- the search goes past this slot -/
def Pass (t : SetTable) (at_ : Nat → Int) (h : Int) (r k : Nat) : Prop := ∃ i, t.slot (spot t.mask h r k) = .live i ∧ (at_ i == h) = false
theorem go_pass {r k : Nat} {fuel : Nat} (p : Pass t at_ h r k) : probe.go t at_ h (fuel + 1) (prb t.mask h r k) = probe.go t at_ h fuel (t.advance (prb t.mask h r k)) := by
  obtain ⟨i, h1, h2⟩ := p
  rw [probe.go]
  have e : (prb t.mask h r k).j = spot t.mask h r k := rfl
  rw [e, h1]
  dsimp only
  rw [h2]
  rfl
theorem go_run {r : Nat} : ∀ (k : Nat) (fuel : Nat), k ≤ rlen t.mask h r → (∀ q, q < k → Pass t at_ h r q) → probe.go t at_ h (fuel + k) (prb t.mask h r 0) = probe.go t at_ h fuel (prb t.mask h r k) := by
  intro k
  induction k with
  | zero => intro fuel _ _; rfl
  | succ k ih =>
    intro fuel hk hp
    rw [show fuel + (k + 1) = (fuel + 1) + k by omega, ih (fuel + 1) (by omega) (fun q hq => hp q (by omega)), go_pass (hp k (by omega)), adv_in (by omega)]
theorem go_runs : ∀ (r : Nat) (fuel : Nat), 10 * r ≤ fuel → (∀ q, q < r → ∀ k, k ≤ rlen t.mask h q → Pass t at_ h q k) → ∃ f', fuel - 10 * r ≤ f' ∧ probe.go t at_ h fuel (prb t.mask h 0 0) = probe.go t at_ h f' (prb t.mask h r 0) := by
  intro r
  induction r with
  | zero => intro fuel _ _; exact ⟨fuel, by omega, rfl⟩
  | succ r ih =>
    intro fuel hf hp
    obtain ⟨f', h1, h2⟩ := ih fuel (by omega) (fun q hq => hp q (by omega))
    have hl := rlen_le t.mask h r
    obtain ⟨g, rfl⟩ : ∃ g, f' = (g + 1) + rlen t.mask h r := ⟨f' - (rlen t.mask h r + 1), by omega⟩
    refine ⟨g, by omega, ?_⟩
    rw [h2, go_run (rlen t.mask h r) _ (Nat.le_refl _) (fun q hq => hp r (by omega) q (by omega)), go_pass (hp r (by omega) _ (Nat.le_refl _)), adv_end]
/-- the search stops first here -/
structure First (t : SetTable) (at_ : Nat → Int) (h : Int) (r k : Nat) : Prop where
  rt : r < turns t.mask
  kr : k ≤ rlen t.mask h r
  runs : ∀ q, q < r → ∀ k, k ≤ rlen t.mask h q → Pass t at_ h q k
  run : ∀ q, q < k → Pass t at_ h r q
theorem start_prb : t.probeStart h = prb t.mask h 0 0 := by
  unfold probeStart prb
  rfl
theorem First.empty {r k : Nat} (F : First t at_ h r k) (he : t.slot (spot t.mask h r k) = .empty) : t.probe at_ h (t.probeStart h) = some (.empty (spot t.mask h r k) none) := by
  have hl := rlen_le t.mask h r
  have hk := F.kr
  have hrt := F.rt
  obtain ⟨f', h1, h2⟩ := go_runs r (10 * turns t.mask) (by omega) F.runs
  unfold probe
  rw [start_prb, h2]
  have e : f' = (f' - k - 1 + 1) + k := by omega
  rw [e, go_run k _ F.kr F.run, probe.go]
  have ej : (prb t.mask h r k).j = spot t.mask h r k := rfl
  rw [ej, he]
  rfl
theorem First.live {r k i : Nat} (F : First t at_ h r k) (he : t.slot (spot t.mask h r k) = .live i) (hh : (at_ i == h) = true) : ∃ nx, t.probe at_ h (t.probeStart h) = some (.candidate (spot t.mask h r k) i nx) := by
  have hl := rlen_le t.mask h r
  have hk := F.kr
  have hrt := F.rt
  obtain ⟨f', h1, h2⟩ := go_runs r (10 * turns t.mask) (by omega) F.runs
  unfold probe
  rw [start_prb, h2]
  have e : f' = (f' - k - 1 + 1) + k := by omega
  rw [e, go_run k _ F.kr F.run, probe.go]
  have ej : (prb t.mask h r k).j = spot t.mask h r k := rfl
  rw [ej, he]
  dsimp only
  rw [hh]
  exact ⟨_, rfl⟩
theorem first_of {r k : Nat} (hr : r < turns t.mask) (hk : k ≤ rlen t.mask h r) (hn : ¬ Pass t at_ h r k) : ∃ r' k', First t at_ h r' k' ∧ ¬ Pass t at_ h r' k' ∧ (r' < r ∨ (r' = r ∧ k' ≤ k)) := by
  obtain ⟨r', h1, h2, hmin⟩ := least (p := fun r => ∃ k, k ≤ rlen t.mask h r ∧ ¬ Pass t at_ h r k) r ⟨k, hk, hn⟩
  obtain ⟨kk, hk1, hk2⟩ := h2
  obtain ⟨k', q1, q2, qmin⟩ := least (p := fun k => ¬ Pass t at_ h r' k) kk hk2
  refine ⟨r', k', ⟨by omega, by omega, fun q hq k0 hk0 => Classical.byContradiction fun c => hmin q hq ⟨k0, hk0, c⟩, fun q hq => Classical.byContradiction fun c => qmin q hq c⟩, q2, ?_⟩
  by_cases e : r' = r
  · right
    refine ⟨e, ?_⟩
    subst e
    exact Classical.byContradiction fun c => qmin k (by omega) hn
  · left; omega
end
end Mine

/-! Set3 -/
namespace Mine
open SetTable

theorem free_slot {xs : Array Nat} (S : Srt xs) {m : Nat} (hsz : xs.size ≤ m) : ∃ j, j ≤ m ∧ ∀ i : Nat, xs[i]? ≠ some j := by
  refine Classical.byContradiction fun c => ?_
  have all : ∀ j, j ≤ m → ∃ i : Nat, xs[i]? = some j := fun j hj => Classical.byContradiction fun h => c ⟨j, hj, fun i hi => h ⟨i, hi⟩⟩
  have key : ∀ j, j ≤ m → ∃ i : Nat, j ≤ i ∧ xs[i]? = some j := by
    intro j
    induction j with
    | zero => intro hj; obtain ⟨i, hi⟩ := all 0 hj; exact ⟨i, Nat.zero_le _, hi⟩
    | succ j ih =>
      intro hj
      obtain ⟨i, h1, h2⟩ := ih (by omega)
      obtain ⟨i', h3⟩ := all (j + 1) hj
      obtain ⟨s1, g1⟩ := getD_of h2
      obtain ⟨s2, g2⟩ := getD_of h3
      refine ⟨i', ?_, h3⟩
      refine Classical.byContradiction fun hn => ?_
      by_cases e : i' = i
      · rw [e] at g2; omega
      · have := S i' i (by omega) s1; omega
  obtain ⟨i, h1, h2⟩ := key m (Nat.le_refl _)
  have := (getD_of h2).1
  omega

/-- a table that fits its entries, each within reach of its own search -/
structure TabOk (t : SetTable) (es : Array (Int × Value)) : Prop where
  plain : Plain t
  size : t.place.size = es.size
  le : ∀ (i : Nat) j, t.place[i]? = some j → j ≤ t.mask
  room : es.size ≤ t.mask
  uniq : ∀ (i i' : Nat) e e', es[i]? = some e → es[i']? = some e' → e.1 = e'.1 → i = i'
  reach : ∀ (i : Nat) e, es[i]? = some e → ∃ r k, r < turns t.mask ∧ k ≤ rlen t.mask e.1 r ∧ t.place[i]? = some (spot t.mask e.1 r k) ∧
    (∀ q, q < r → ∀ k', k' ≤ rlen t.mask e.1 q → t.slot (spot t.mask e.1 q k') ≠ .empty) ∧ (∀ k', k' < k → t.slot (spot t.mask e.1 r k') ≠ .empty)

section
variable {t : SetTable} {es : Array (Int × Value)} {at_ : Nat → Int} {h : Int}
theorem TabOk.entry (T : TabOk t es) {i j : Nat} (hp : t.place[i]? = some j) : ∃ e, es[i]? = some e := by
  have h1 := (getD_of hp).1
  exact ⟨_, Array.getElem?_eq_getElem (by rw [← T.size]; exact h1)⟩
/-- an entry is found -/
theorem TabOk.find_in (T : TabOk t es) (ha : ∀ (i : Nat) e, es[i]? = some e → at_ i = e.1) {i : Nat} {e : Int × Value} (he : es[i]? = some e) :
    ∃ j nx, t.probe at_ e.1 (t.probeStart e.1) = some (.candidate j i nx) ∧ t.slot j = .live i := by
  obtain ⟨r, k, hr, hk, hp, h1, h2⟩ := T.reach i e he
  have hl := slot_live T.plain hp
  have hai : (at_ i == e.1) = true := by rw [ha i e he]; exact beq_self_eq_true _
  have hn : ¬ Pass t at_ e.1 r k := by
    rintro ⟨i', a, b⟩
    rw [hl] at a; cases a
    rw [hai] at b; cases b
  obtain ⟨r', k', F, hn', hlt⟩ := first_of hr hk hn
  rcases slot_cases T.plain (spot t.mask e.1 r' k') with ⟨i', p1, p2⟩ | ⟨_, p2⟩
  · obtain ⟨e', he'⟩ := T.entry p1
    have hh : (at_ i' == e.1) = true := Classical.byContradiction fun c => hn' ⟨i', p2, by simpa using c⟩
    have hee : e'.1 = e.1 := by rw [← ha i' e' he']; exact beq_iff_eq.mp hh
    have hii := T.uniq i' i e' e he' he hee
    subst hii
    obtain ⟨nx, hx⟩ := F.live p2 hh
    exact ⟨_, nx, hx, p2⟩
  · exfalso
    rcases hlt with h3 | ⟨h3, h4⟩
    · exact h1 r' h3 k' F.kr p2
    · subst h3
      by_cases h5 : k' = k
      · subst h5; rw [hl] at p2; cases p2
      · exact h2 k' (by omega) p2
/-- a key that isn't there: the search ends at an empty slot -/
theorem TabOk.find_out (T : TabOk t es) (ha : ∀ (i : Nat) e, es[i]? = some e → at_ i = e.1) (hc : covers t.mask h = true) (hno : ∀ (i : Nat) e, es[i]? = some e → e.1 ≠ h) :
    ∃ r k, First t at_ h r k ∧ t.slot (spot t.mask h r k) = .empty ∧ t.probe at_ h (t.probeStart h) = some (.empty (spot t.mask h r k) none) := by
  obtain ⟨j, hj, hfree⟩ := free_slot T.plain.srt (m := t.mask) (by rw [T.size]; exact T.room)
  obtain ⟨r, hr, hrj⟩ := covers_run hc hj
  have hs : spot t.mask h r 0 = j := by unfold spot; omega
  have hn : ¬ Pass t at_ h r 0 := by
    rintro ⟨i, a, _⟩
    rw [hs, slot_empty T.plain hfree] at a; cases a
  obtain ⟨r', k', F, hn', _⟩ := first_of hr (Nat.zero_le _) hn
  rcases slot_cases T.plain (spot t.mask h r' k') with ⟨i', p1, p2⟩ | ⟨_, p2⟩
  · exfalso
    obtain ⟨e', he'⟩ := T.entry p1
    have hh : (at_ i' == h) = true := Classical.byContradiction fun c => hn' ⟨i', p2, by simpa using c⟩
    exact hno i' e' he' (by rw [← ha i' e' he']; exact beq_iff_eq.mp hh)
  · exact ⟨r', k', F, p2, F.empty p2⟩
end

theorem insertAt_list {α : Type} (xs : Array α) (p : Nat) (x : α) : (insertAt xs p x).toList = xs.toList.take p ++ x :: xs.toList.drop p := by
  unfold insertAt
  simp
  exact List.take_of_length_le (by simp)
theorem insertAt_get {α : Type} (xs : Array α) {p : Nat} (hp : p ≤ xs.size) (x : α) (i : Nat) : (insertAt xs p x)[i]? = if i < p then xs[i]? else if i = p then some x else xs[i - 1]? := by
  rw [← Array.getElem?_toList, insertAt_list]
  have hl : (xs.toList.take p).length = p := by simp [hp]
  by_cases h1 : i < p
  · rw [if_pos h1, List.getElem?_append_left (by omega), List.getElem?_take, if_pos h1]; simp
  · rw [if_neg h1, List.getElem?_append_right (by omega), hl]
    by_cases h2 : i = p
    · rw [if_pos h2, h2]; simp
    · rw [if_neg h2]
      obtain ⟨q, hq⟩ : ∃ q, i - p = q + 1 := ⟨i - p - 1, by omega⟩
      rw [hq, List.getElem?_cons_succ, List.getElem?_drop]
      rw [show p + q = i - 1 by omega]; simp
end Mine

/-! Set4 -/
namespace Mine
open SetTable

theorem insertAt_size {α : Type} (xs : Array α) (p : Nat) (hp : p ≤ xs.size) (x : α) : (insertAt xs p x).size = xs.size + 1 := by
  rw [← Array.length_toList, insertAt_list]
  simp; omega
theorem insertAt_getD (xs : Array Nat) {p : Nat} (hp : p ≤ xs.size) (x : Nat) (i : Nat) : (insertAt xs p x).getD i 0 = if i < p then xs.getD i 0 else if i = p then x else xs.getD (i - 1) 0 := by
  simp only [Array.getD_eq_getD_getElem?, insertAt_get xs hp]
  split
  · rfl
  · split <;> rfl
/-- where an old place has gone -/
theorem insertAt_old {α : Type} (xs : Array α) {p : Nat} (hp : p ≤ xs.size) (x : α) {i : Nat} {y : α} (h : xs[i]? = some y) : (insertAt xs p x)[if i < p then i else i + 1]? = some y := by
  rw [insertAt_get xs hp]
  by_cases c : i < p
  · rw [if_pos c, if_pos c]; exact h
  · rw [if_neg c, if_neg (by omega), if_neg (by omega)]; exact h
/-- what lies there now was there, or is the new one -/
theorem insertAt_was {α : Type} (xs : Array α) {p : Nat} (hp : p ≤ xs.size) (x : α) {i : Nat} {y : α} (h : (insertAt xs p x)[i]? = some y) : (i = p ∧ y = x) ∨ ∃ i', xs[i']? = some y ∧ i = if i' < p then i' else i' + 1 := by
  rw [insertAt_get xs hp] at h
  by_cases c : i < p
  · rw [if_pos c] at h; exact .inr ⟨i, h, by rw [if_pos c]⟩
  · rw [if_neg c] at h
    by_cases c2 : i = p
    · rw [if_pos c2] at h; exact .inl ⟨c2, (Option.some.inj h).symm⟩
    · rw [if_neg c2] at h; exact .inr ⟨i - 1, h, by rw [if_neg (by omega)]; omega⟩

section
variable {t : SetTable} {es : Array (Int × Value)} {at_ : Nat → Int} {h : Int}
theorem put_eq (P : Plain t) (j : Nat) : t.put j = ({ t with place := insertAt t.place (below t.place j) j, dummies := #[] }, below t.place j) := by
  unfold SetTable.put
  have h2 : has (#[] : Array Nat) j = false := rfl
  simp only [P.nod, h2, Bool.false_eq_true, if_false]

theorem TabOk.put (T : TabOk t es) (hno : ∀ (i : Nat) e, es[i]? = some e → e.1 ≠ h) {r k : Nat} (F : First t at_ h r k) (hs : t.slot (spot t.mask h r k) = .empty) (x : Value) (hroom : es.size + 1 ≤ t.mask) :
    TabOk (t.put (spot t.mask h r k)).1 (insertAt es (t.put (spot t.mask h r k)).2 (h, x)) ∧ (t.put (spot t.mask h r k)).1.mask = t.mask := by
  have P := T.plain
  rw [put_eq P]
  dsimp only
  generalize hj : spot t.mask h r k = j at hs
  obtain ⟨b1, b2, b3⟩ := below_spec P.srt j
  generalize hp : below t.place j = p at b1 b2 b3
  have hnot : ∀ i : Nat, t.place[i]? ≠ some j := fun i hi => by rw [slot_live P hi] at hs; cases hs
  have hpe : p ≤ es.size := by rw [← T.size]; exact b1
  let t' : SetTable := { t with place := insertAt t.place p j, dummies := #[] }
  have P' : Plain t' := by
    refine ⟨fun i i' h1 h2 => ?_, rfl⟩
    have h2 : i' < t.place.size + 1 := by rw [← insertAt_size t.place p b1 j]; exact h2
    show (insertAt t.place p j).getD i 0 < (insertAt t.place p j).getD i' 0
    rw [insertAt_getD _ b1, insertAt_getD _ b1]
    have lo : ∀ q, q < p → t.place.getD q 0 < j := b2
    have hi : ∀ q, p ≤ q → q < t.place.size → j < t.place.getD q 0 := fun q q1 q2 => by
      have := b3 q q1 q2
      have hne : t.place.getD q 0 ≠ j := fun e => hnot q (of_getD q2 e)
      omega
    by_cases c1 : i < p
    · rw [if_pos c1]
      by_cases c2 : i' < p
      · rw [if_pos c2]; exact P.srt i i' h1 (by omega)
      · rw [if_neg c2]
        by_cases c3 : i' = p
        · rw [if_pos c3]; exact lo i c1
        · rw [if_neg c3]
          have := lo i c1
          have := hi (i' - 1) (by omega) (by omega)
          omega
    · rw [if_neg c1, if_neg (show ¬ i' < p by omega), if_neg (show ¬ i' = p by omega)]
      by_cases c3 : i = p
      · rw [if_pos c3]; exact hi (i' - 1) (by omega) (by omega)
      · rw [if_neg c3]; exact P.srt (i - 1) (i' - 1) (by omega) (by omega)
  have keep : ∀ q, t.slot q ≠ .empty → t'.slot q ≠ .empty := fun q hq => by
    rcases slot_cases P q with ⟨i, p1, p2⟩ | ⟨_, p2⟩
    · have := insertAt_old t.place b1 j p1
      rw [slot_live (t := t') P' this]
      exact fun e => nomatch e
    · exact absurd p2 hq
  have pass : ∀ {r k}, Pass t at_ h r k → t'.slot (spot t.mask h r k) ≠ .empty := fun hps => keep _ (by obtain ⟨i, a, _⟩ := hps; rw [a]; exact fun e => nomatch e)
  refine ⟨⟨P', ?_, ?_, ?_, ?_, ?_⟩, rfl⟩
  · rw [insertAt_size _ _ b1, insertAt_size _ _ hpe, T.size]
  · intro i q hq
    rcases insertAt_was _ b1 _ hq with ⟨_, rfl⟩ | ⟨i', h1, _⟩
    · rw [← hj]; exact spot_le F.kr
    · exact T.le i' q h1
  · rw [insertAt_size _ _ hpe]; exact hroom
  · intro i i' e e' h1 h2 h3
    rcases insertAt_was _ hpe _ h1 with ⟨a1, a2⟩ | ⟨i1, a1, a2⟩
    · rcases insertAt_was _ hpe _ h2 with ⟨c1, c2⟩ | ⟨i2, c1, c2⟩
      · rw [a1, c1]
      · exact absurd (by rw [← h3, a2]) (hno i2 e' c1)
    · rcases insertAt_was _ hpe _ h2 with ⟨c1, c2⟩ | ⟨i2, c1, c2⟩
      · exact absurd (by rw [h3, c2]) (hno i1 e a1)
      · have := T.uniq i1 i2 e e' a1 c1 h3
        subst this
        rw [a2, c2]
  · intro i e h1
    rcases insertAt_was _ hpe _ h1 with ⟨a1, a2⟩ | ⟨i1, a1, a2⟩
    · subst a2
      refine ⟨r, k, F.rt, F.kr, ?_, fun q hq k' hk' => pass (F.runs q hq k' hk'), fun k' hk' => pass (F.run k' hk')⟩
      show (insertAt t.place p j)[i]? = some (spot t.mask h r k)
      rw [insertAt_get _ b1, a1, if_neg (Nat.lt_irrefl _), if_pos rfl, hj]
    · obtain ⟨r1, k1, g1, g2, g3, g4, g5⟩ := T.reach i1 e a1
      refine ⟨r1, k1, g1, g2, ?_, fun q hq k' hk' => keep _ (g4 q hq k' hk'), fun k' hk' => keep _ (g5 k' hk')⟩
      show (insertAt t.place p j)[i]? = some (spot t.mask e.1 r1 k1)
      rw [a2]
      exact insertAt_old t.place b1 j g3
end
end Mine

/-! Set5 -/
namespace Mine
open SetTable

/-! a table laid anew -/
def Free (owner : Array (Option Nat)) (j : Nat) : Prop := owner[j]? = some none
/-- what the owners are after the first n hashes -/
structure Own (mask : Nat) (H : Nat → Int) (n : Nat) (owner : Array (Option Nat)) : Prop where
  size : owner.size = mask + 1
  lt : ∀ (j : Nat) k, owner[j]? = some (some k) → k < n
  one : ∀ (j j' : Nat) k, owner[j]? = some (some k) → owner[j']? = some (some k) → j = j'
  has : ∀ k, k < n → ∃ j : Nat, owner[j]? = some (some k)
  reach : ∀ (j : Nat) k, owner[j]? = some (some k) → ∃ r q, r < turns mask ∧ q ≤ rlen mask (H k) r ∧ spot mask (H k) r q = j ∧
    (∀ r', r' < r → ∀ q', q' ≤ rlen mask (H k) r' → ¬ Free owner (spot mask (H k) r' q')) ∧ (∀ q', q' < q → ¬ Free owner (spot mask (H k) r q'))

theorem free_some {mask : Nat} {h : Int} {owner : Array (Option Nat)} (hsz : owner.size = mask + 1) : ∀ (fuel r j : Nat), layClean.free mask owner fuel (runAt mask h r).1 (runAt mask h r).2 = some j →
    ∃ r' q, r ≤ r' ∧ r' < r + fuel ∧ q ≤ rlen mask h r' ∧ spot mask h r' q = j ∧ Free owner j ∧ (∀ p, r ≤ p → p < r' → ∀ q', q' ≤ rlen mask h p → ¬ Free owner (spot mask h p q')) ∧ (∀ q', q' < q → ¬ Free owner (spot mask h r' q')) := by
  intro fuel
  induction fuel with
  | zero => intro r j e; unfold layClean.free at e; cases e
  | succ fuel ih =>
    intro r j e
    unfold layClean.free at e
    have nf : ∀ k, (owner.getD ((runAt mask h r).1 + k) (some 0)).isNone = false → ¬ Free owner (spot mask h r k) := fun k hk hf => by
      have hf' : owner[(runAt mask h r).1 + k]? = some none := hf
      rw [Array.getD_eq_getD_getElem?, hf'] at hk
      cases hk
    have rl := runEnd_ge mask (runAt mask h r).1
    cases hf : (List.range (runEnd mask (runAt mask h r).1 + 1 - (runAt mask h r).1)).find? fun k => (owner.getD ((runAt mask h r).1 + k) (some 0)).isNone with
    | some k =>
      rw [hf] at e
      cases e
      obtain ⟨h1, h2, h3⟩ := List.find?_range_eq_some.mp hf
      have hk : k < runEnd mask (runAt mask h r).1 + 1 - (runAt mask h r).1 := by simpa using h2
      have hk2 : k ≤ rlen mask h r := by unfold rlen; omega
      have hle := spot_le hk2
      have hfree : Free owner (spot mask h r k) := by
        unfold Free
        have hlt : spot mask h r k < owner.size := by omega
        have e2 : owner[spot mask h r k]? = some owner[spot mask h r k] := Array.getElem?_eq_getElem hlt
        have h1' : (owner.getD (spot mask h r k) (some 0)).isNone = true := h1
        rw [Array.getD_eq_getD_getElem?, e2] at h1'
        rw [e2]
        exact congrArg some (Option.isNone_iff_eq_none.mp h1')
      exact ⟨r, k, Nat.le_refl _, by omega, hk2, rfl, hfree, fun p a b => absurd a (by omega), fun q' hq => nf q' (by simpa using h3 q' hq)⟩
    | none =>
      rw [hf] at e
      have hall : ∀ k, k ≤ rlen mask h r → ¬ Free owner (spot mask h r k) := fun k hk => nf k (by
        have := List.find?_eq_none.mp hf k (by unfold rlen at hk; simp; omega)
        simpa only [Bool.not_eq_true] using this)
      obtain ⟨r', q, a1, a2, a3, a4, a5, a6, a7⟩ := ih (r + 1) j e
      refine ⟨r', q, by omega, by omega, a3, a4, a5, fun p p1 p2 => ?_, a7⟩
      by_cases c : p = r
      · rw [c]; exact hall
      · exact a6 p (by omega) p2
theorem free_none {mask : Nat} {h : Int} {owner : Array (Option Nat)} : ∀ (fuel r : Nat), layClean.free mask owner fuel (runAt mask h r).1 (runAt mask h r).2 = none → ∀ p, r ≤ p → p < r + fuel → ¬ Free owner (runAt mask h p).1 := by
  intro fuel
  induction fuel with
  | zero => intro r _ p h1 h2; omega
  | succ fuel ih =>
    intro r e p h1 h2
    unfold layClean.free at e
    have rl := runEnd_ge mask (runAt mask h r).1
    cases hf : (List.range (runEnd mask (runAt mask h r).1 + 1 - (runAt mask h r).1)).find? fun k => (owner.getD ((runAt mask h r).1 + k) (some 0)).isNone with
    | some k => rw [hf] at e; cases e
    | none =>
      rw [hf] at e
      by_cases c : p = r
      · subst c
        intro hfree
        have := List.find?_eq_none.mp hf 0 (by simp; omega)
        have hfree' : owner[(runAt mask h p).1]? = some none := hfree
        rw [Nat.add_zero, Array.getD_eq_getD_getElem?, hfree'] at this
        exact this rfl
      · exact ih (r + 1) e p (by omega) (by omega)

theorem pigeon : ∀ (n m : Nat) (f : Nat → Nat), (∀ i, i < m → f i < n) → (∀ i j, i < m → j < m → f i = f j → i = j) → m ≤ n := by
  intro n
  induction n with
  | zero =>
    intro m f h1 _
    cases m with
    | zero => exact Nat.le_refl _
    | succ m => exact absurd (h1 0 (by omega)) (by omega)
  | succ n ih =>
    intro m f h1 h2
    by_cases c : ∃ i, i < m ∧ f i = n
    · obtain ⟨i0, a1, a2⟩ := c
      have key : ∀ i, i < m - 1 → (if i < i0 then i else i + 1) < m := fun i hi => by split <;> omega
      have := ih (m - 1) (fun i => f (if i < i0 then i else i + 1)) (fun i hi => by
        have b1 := h1 _ (key i hi)
        have b2 : f (if i < i0 then i else i + 1) ≠ n := fun e => by
          have := h2 _ _ (key i hi) a1 (e.trans a2.symm)
          split at this <;> omega
        omega) (fun i j hi hj e => by
        have := h2 _ _ (key i hi) (key j hj) e
        split at this <;> split at this <;> omega)
      omega
    · have := ih m f (fun i hi => by
        have b1 := h1 i hi
        have b2 : f i ≠ n := fun e => c ⟨i, hi, e⟩
        omega) h2
      omega

theorem Own.free {mask : Nat} {H : Nat → Int} {n : Nat} {owner : Array (Option Nat)} (O : Own mask H n owner) (hn : n ≤ mask) : ∃ j, j ≤ mask ∧ Free owner j := by
  refine Classical.byContradiction fun c => ?_
  have all : ∀ j, j ≤ mask → ∃ k, owner[j]? = some (some k) := fun j hj => by
    have hlt : j < owner.size := by rw [O.size]; omega
    cases e : owner[j] with
    | none => exact absurd ⟨j, hj, by unfold Free; rw [Array.getElem?_eq_getElem hlt, e]⟩ c
    | some k => exact ⟨k, by rw [Array.getElem?_eq_getElem hlt, e]⟩
  let f : Nat → Nat := fun j => match owner[j]? with | some (some k) => k | _ => 0
  have fe : ∀ j k, owner[j]? = some (some k) → f j = k := fun j k e => by show (match owner[j]? with | some (some k) => k | _ => 0) = k; rw [e]
  have := pigeon n (mask + 1) f (fun i hi => by
    obtain ⟨k, hk⟩ := all i (by omega)
    rw [fe i k hk]; exact O.lt i k hk) (fun i j hi hj e => by
    obtain ⟨k, hk⟩ := all i (by omega)
    obtain ⟨k', hk'⟩ := all j (by omega)
    rw [fe i k hk, fe j k' hk'] at e
    subst e
    exact O.one i j k hk hk')
  omega
theorem Own.zero (mask : Nat) (H : Nat → Int) : Own mask H 0 (Array.replicate (mask + 1) none) := by
  have no : ∀ (j : Nat) k, (Array.replicate (mask + 1) (none : Option Nat))[j]? ≠ some (some k) := fun j k e => by
    rw [Array.getElem?_replicate] at e
    split at e <;> simp at e
  exact ⟨by simp, fun j k e => absurd e (no j k), fun j j' k e => absurd e (no j k), fun k hk => absurd hk (Nat.not_lt_zero _), fun j k e => absurd e (no j k)⟩
theorem Own.step {mask : Nat} {H : Nat → Int} {n : Nat} {owner : Array (Option Nat)} (O : Own mask H n owner) (hn : n ≤ mask) (hc : covers mask (H n) = true) :
    ∃ j, layClean.free mask owner (turns mask) (bits (H n) % (mask + 1)) (bits (H n)) = some j ∧ Own mask H (n + 1) (owner.setIfInBounds j (some n)) := by
  cases e : layClean.free mask owner (turns mask) (bits (H n) % (mask + 1)) (bits (H n)) with
  | none =>
    exfalso
    obtain ⟨j, hj, hf⟩ := O.free hn
    obtain ⟨r, hr, hrj⟩ := covers_run hc hj
    exact free_none (h := H n) (turns mask) 0 e r (Nat.zero_le _) (by omega) (by rw [hrj]; exact hf)
  | some j =>
    refine ⟨j, rfl, ?_⟩
    obtain ⟨r, q, _, a2, a3, a4, a5, a6, a7⟩ := free_some (h := H n) O.size (turns mask) 0 j e
    have hjs : j < owner.size := (Array.getElem?_eq_some_iff.mp a5).1
    have get : ∀ i : Nat, (owner.setIfInBounds j (some n))[i]? = if i = j then some (some n) else owner[i]? := fun i => by
      rw [Array.getElem?_setIfInBounds]
      by_cases c : j = i
      · subst c; rw [if_pos rfl, if_pos hjs, if_pos rfl]
      · rw [if_neg c, if_neg (fun h => c h.symm)]
    have nf : ∀ i, ¬ Free owner i → ¬ Free (owner.setIfInBounds j (some n)) i := fun i hi hf => by
      unfold Free at hf
      rw [get] at hf
      by_cases c : i = j
      · rw [if_pos c] at hf; simp at hf
      · rw [if_neg c] at hf; exact hi hf
    refine ⟨by simpa using O.size, fun i k h => ?_, fun i i' k h h' => ?_, fun k hk => ?_, fun i k h => ?_⟩
    · rw [get] at h
      by_cases c : i = j
      · rw [if_pos c] at h; cases h; omega
      · rw [if_neg c] at h; have := O.lt i k h; omega
    · rw [get] at h h'
      by_cases c : i = j
      · rw [if_pos c] at h
        cases h
        by_cases c' : i' = j
        · rw [c, c']
        · rw [if_neg c'] at h'; exact absurd (O.lt i' _ h') (Nat.lt_irrefl _)
      · rw [if_neg c] at h
        by_cases c' : i' = j
        · rw [if_pos c'] at h'; cases h'; exact absurd (O.lt i _ h) (Nat.lt_irrefl _)
        · rw [if_neg c'] at h'; exact O.one i i' k h h'
    · by_cases c : k = n
      · exact ⟨j, by rw [get, if_pos rfl, c]⟩
      · obtain ⟨i, hi⟩ := O.has k (by omega)
        refine ⟨i, ?_⟩
        rw [get, if_neg]
        · exact hi
        · intro h; rw [h] at hi; unfold Free at a5; rw [a5] at hi; simp at hi
    · rw [get] at h
      by_cases c : i = j
      · rw [if_pos c] at h
        cases h
        exact ⟨r, q, by omega, a3, by rw [a4, c], fun r' hr q' hq' => nf _ (a6 r' (Nat.zero_le _) hr q' hq'), fun q' hq' => nf _ (a7 q' hq')⟩
      · rw [if_neg c] at h
        obtain ⟨r1, q1, g1, g2, g3, g4, g5⟩ := O.reach i k h
        exact ⟨r1, q1, g1, g2, g3, fun r' hr q' hq' => nf _ (g4 r' hr q' hq'), fun q' hq' => nf _ (g5 q' hq')⟩
end Mine

/-! Set6 -/
namespace Mine
open SetTable

theorem lay_fold {mask : Nat} {H : Nat → Int} : ∀ (l : List Int) (n : Nat) (owner : Array (Option Nat)), Own mask H n owner → (∀ (i : Nat) h, l[i]? = some h → H (n + i) = h ∧ covers mask h = true) → n + l.length ≤ mask →
    ∃ owner', l.foldl (fun (acc : Option (Array (Option Nat) × Nat)) h => do
      let (owner, k) ← acc
      let j ← layClean.free mask owner (turns mask) (bits h % (mask + 1)) (bits h)
      pure (owner.setIfInBounds j (some k), k + 1)) (some (owner, n)) = some (owner', n + l.length) ∧ Own mask H (n + l.length) owner' := by
  intro l
  induction l with
  | nil => intro n owner O _ _; exact ⟨owner, rfl, O⟩
  | cons h l ih =>
    intro n owner O hH hl
    have h0 := hH 0 h rfl
    rw [Nat.add_zero] at h0
    have hl' : n + (l.length + 1) ≤ mask := hl
    obtain ⟨j, e, O'⟩ := O.step (by omega) (by rw [h0.1]; exact h0.2)
    rw [h0.1] at e
    obtain ⟨owner', e1, e2⟩ := ih (n + 1) _ O' (fun i h' hi => by
      have := hH (i + 1) h' (by simpa using hi)
      rw [show n + 1 + i = n + (i + 1) by omega]; exact this) (by omega)
    refine ⟨owner', ?_, ?_⟩
    · rw [List.foldl_cons]
      have e3 : (do
        let (owner, k) ← some (owner, n)
        let j ← layClean.free mask owner (turns mask) (bits h % (mask + 1)) (bits h)
        pure (owner.setIfInBounds j (some k), k + 1)) = some (owner.setIfInBounds j (some n), n + 1) := by
        show (layClean.free mask owner (turns mask) (bits h % (mask + 1)) (bits h) >>= fun j => pure (owner.setIfInBounds j (some n), n + 1)) = _
        rw [e]; rfl
      rw [e3, e1]
      rw [List.length_cons, show n + 1 + l.length = n + (l.length + 1) by omega]
    · rw [List.length_cons, show n + (l.length + 1) = n + 1 + l.length by omega]; exact e2
theorem layClean_ok {mask : Nat} {H : Nat → Int} {hashes : Array Int} (hH : ∀ (i : Nat) h, hashes[i]? = some h → H i = h ∧ covers mask h = true) (hl : hashes.size ≤ mask) :
    ∃ owner, layClean mask hashes = some owner ∧ Own mask H hashes.size owner := by
  obtain ⟨owner', e1, e2⟩ := lay_fold (mask := mask) (H := H) hashes.toList 0 _ (Own.zero mask H) (fun i h hi => by rw [Nat.zero_add]; exact hH i h (by simpa using hi)) (by simpa using hl)
  rw [Nat.zero_add, Array.length_toList] at e1 e2
  refine ⟨owner', ?_, e2⟩
  unfold layClean
  rw [← Array.foldl_toList, e1]
  rfl

/-- the pairs slot, entry in the slots' order -/
def pairsOf (mask : Nat) (owner : Array (Option Nat)) : List (Nat × Nat) := (List.range (mask + 1)).filterMap fun j => (owner.getD j none).map (j, ·)
theorem pairs_mem {mask : Nat} {owner : Array (Option Nat)} (hsz : owner.size = mask + 1) {j k : Nat} : (j, k) ∈ pairsOf mask owner ↔ owner[j]? = some (some k) := by
  unfold pairsOf
  rw [List.mem_filterMap]
  constructor
  · rintro ⟨j', h1, h2⟩
    obtain ⟨k', h3, h4⟩ := Option.map_eq_some_iff.mp h2
    cases h4
    rw [Array.getD_eq_getD_getElem?] at h3
    cases e : owner[j]? with
    | none => rw [e] at h3; cases h3
    | some o => rw [e] at h3; rw [show o = some k from h3]
  · intro h
    have hlt := (Array.getElem?_eq_some_iff.mp h).1
    exact ⟨j, List.mem_range.mpr (by omega), by rw [Array.getD_eq_getD_getElem?, h]; rfl⟩
theorem pairs_sorted (mask : Nat) (owner : Array (Option Nat)) : (pairsOf mask owner).Pairwise fun a b => a.1 < b.1 := by
  unfold pairsOf
  refine List.Pairwise.filterMap _ ?_ List.pairwise_lt_range
  intro a a' hlt b hb b' hb'
  obtain ⟨k, _, h2⟩ := Option.map_eq_some_iff.mp hb
  obtain ⟨k', _, h4⟩ := Option.map_eq_some_iff.mp hb'
  subst h2; subst h4
  exact hlt
end Mine

/-! Set7 -/
namespace Mine
open SetTable

theorem pairs_inj {mask : Nat} {owner : Array (Option Nat)} {i i' : Nat} {p p' : Nat × Nat} (h : (pairsOf mask owner)[i]? = some p) (h' : (pairsOf mask owner)[i']? = some p') (e : p.1 = p'.1) : i = i' := by
  have S := List.pairwise_iff_getElem.mp (pairs_sorted mask owner)
  obtain ⟨a1, a2⟩ := List.getElem?_eq_some_iff.mp h
  obtain ⟨b1, b2⟩ := List.getElem?_eq_some_iff.mp h'
  refine Classical.byContradiction fun c => ?_
  by_cases lt : i < i'
  · have := S i i' a1 b1 lt; rw [a2, b2] at this; omega
  · have := S i' i b1 a1 (by omega); rw [a2, b2] at this; omega
theorem pairs_length {mask n : Nat} {H : Nat → Int} {owner : Array (Option Nat)} (O : Own mask H n owner) : (pairsOf mask owner).length = n := by
  have at_ : ∀ (i : Nat) p, (pairsOf mask owner)[i]? = some p → owner[p.1]? = some (some p.2) := fun i p h => (pairs_mem O.size).mp (List.mem_of_getElem? h)
  apply Nat.le_antisymm
  · let f : Nat → Nat := fun i => match (pairsOf mask owner)[i]? with | some p => p.2 | none => 0
    have fe : ∀ i p, (pairsOf mask owner)[i]? = some p → f i = p.2 := fun i p e => by show (match (pairsOf mask owner)[i]? with | some p => p.2 | none => 0) = _; rw [e]
    refine pigeon n _ f (fun i hi => ?_) (fun i i' hi hi' e => ?_)
    · have h := List.getElem?_eq_getElem hi
      rw [fe i _ h]; exact O.lt _ _ (at_ i _ h)
    · have h := List.getElem?_eq_getElem hi
      have h' := List.getElem?_eq_getElem hi'
      rw [fe i _ h, fe i' _ h'] at e
      have g := at_ i _ h
      have g' := at_ i' _ h'
      rw [← e] at g'
      exact pairs_inj h h' (O.one _ _ _ g g')
  · have ex : ∀ k, k < n → ∃ i : Nat, ∃ j, (pairsOf mask owner)[i]? = some (j, k) := fun k hk => by
      obtain ⟨j, hj⟩ := O.has k hk
      obtain ⟨i, hi, e⟩ := List.getElem_of_mem ((pairs_mem O.size).mpr hj)
      exact ⟨i, j, by rw [List.getElem?_eq_getElem hi, e]⟩
    classical
    let g : Nat → Nat := fun k => if hk : k < n then (ex k hk).choose else 0
    have ge : ∀ k, k < n → ∃ j, (pairsOf mask owner)[g k]? = some (j, k) := fun k hk => by
      have e : g k = (ex k hk).choose := dif_pos hk
      rw [e]; exact (ex k hk).choose_spec
    refine pigeon _ n g (fun k hk => ?_) (fun k k' hk hk' e => ?_)
    · obtain ⟨j, h⟩ := ge k hk
      exact (List.getElem?_eq_some_iff.mp h).1
    · obtain ⟨j, h⟩ := ge k hk
      obtain ⟨j', h'⟩ := ge k' hk'
      rw [e, h'] at h
      cases h; rfl

theorem filterMap_get {α β : Type} {f : α → Option β} : ∀ {l : List α}, (∀ x ∈ l, (f x).isSome = true) → ∀ i : Nat, (l.filterMap f)[i]? = l[i]?.bind f
  | [], _, i => by simp
  | x :: l, h, i => by
    obtain ⟨y, hy⟩ := Option.isSome_iff_exists.mp (h x (.head _))
    rw [List.filterMap_cons_some hy]
    cases i with
    | zero => simp [hy]
    | succ i => simpa using filterMap_get (fun z hz => h z (.tail _ hz)) i

theorem relaid_ok {t : SetTable} {es : Array (Int × Value)} (T : TabOk t es) {wanted m : Nat} (hm : sizeAbove wanted - 1 = m) (hroom : es.size ≤ m) (hc : ∀ (i : Nat) e, es[i]? = some e → covers m e.1 = true) :
    ∃ t' order, t.relaid (es.map (·.1)) wanted = some (t', order) ∧ t'.mask = m ∧ t'.led = t.led ∧ (order.filterMap (es[·]?)).size = es.size ∧ TabOk t' (order.filterMap (es[·]?)) ∧
      ∀ e, (∃ i : Nat, (order.filterMap (es[·]?))[i]? = some e) ↔ ∃ i : Nat, es[i]? = some e := by
  let H : Nat → Int := fun k => ((es[k]?).map (·.1)).getD 0
  obtain ⟨owner, e1, O⟩ := layClean_ok (mask := m) (H := H) (hashes := es.map (·.1)) (fun i h hi => by
    rw [Array.getElem?_map] at hi
    obtain ⟨e, h1, h2⟩ := Option.map_eq_some_iff.mp hi
    subst h2
    exact ⟨by show ((es[i]?).map (·.1)).getD 0 = _; rw [h1]; rfl, hc i e h1⟩) (by simpa using hroom)
  rw [Array.size_map] at O
  let L := pairsOf m owner
  have hL : L.length = es.size := pairs_length O
  have at_ : ∀ (i : Nat) p, L[i]? = some p → owner[p.1]? = some (some p.2) := fun i p h => (pairs_mem O.size).mp (List.mem_of_getElem? h)
  let t' : SetTable := { mask := m, place := (L.map (·.1)).toArray, dummies := #[], finger := t.finger, led := t.led, moves := t.movedTo m, plain := t.plain }
  have hrel : t.relaid (es.map (·.1)) wanted = some (t', (L.map (·.2)).toArray) := by
    unfold relaid laid
    rw [hm, e1]
    rfl
  have some_ : ∀ k ∈ L.map (·.2), (es[k]?).isSome = true := fun k hk => by
    obtain ⟨p, h1, h2⟩ := List.mem_map.mp hk
    subst h2
    have := O.lt _ _ ((pairs_mem O.size).mp h1)
    rw [Array.getElem?_eq_getElem this]; rfl
  have get : ∀ i : Nat, (((L.map (·.2)).toArray).filterMap (es[·]?))[i]? = (L[i]?).bind fun p => es[p.2]? := fun i => by
    rw [← Array.getElem?_toList, Array.toList_filterMap, filterMap_get some_ i, List.getElem?_map]
    cases L[i]? <;> rfl
  have pl : ∀ i : Nat, t'.place[i]? = (L[i]?).map (·.1) := fun i => by
    show ((L.map (·.1)).toArray)[i]? = _
    rw [List.getElem?_toArray, List.getElem?_map]
  have hsz : (((L.map (·.2)).toArray).filterMap (es[·]?)).size = es.size := by
    have hlen : ∀ {l : List Nat}, (∀ k ∈ l, (es[k]?).isSome = true) → (l.filterMap (es[·]?)).length = l.length := fun {l} => by
      induction l with
      | nil => intro _; rfl
      | cons x l ih =>
        intro h
        obtain ⟨y, hy⟩ := Option.isSome_iff_exists.mp (h x (.head _))
        rw [List.filterMap_cons_some hy, List.length_cons, List.length_cons, ih fun z hz => h z (.tail _ hz)]
    rw [← Array.length_toList, Array.toList_filterMap, hlen some_]
    simpa using hL
  have P' : Plain t' := by
    refine ⟨fun i k h1 h2 => ?_, rfl⟩
    have h2 : k < L.length := by simpa [t'] using h2
    have S := List.pairwise_iff_getElem.mp (pairs_sorted m owner) i k (by show i < L.length; omega) h2 h1
    have g : ∀ q (hq : q < L.length), t'.place.getD q 0 = L[q].1 := fun q hq => by
      rw [Array.getD_eq_getD_getElem?, pl q, List.getElem?_eq_getElem hq]; rfl
    rw [g i (by omega), g k h2]
    exact S
  have nonfree : ∀ {j}, j ≤ m → ¬ Free owner j → t'.slot j ≠ .empty := fun {j} hj hn => by
    have hlt : j < owner.size := by rw [O.size]; omega
    cases e : owner[j] with
    | none => exact absurd (by unfold Free; rw [Array.getElem?_eq_getElem hlt, e]) hn
    | some k =>
      have hmem := (pairs_mem O.size).mpr (show owner[j]? = some (some k) by rw [Array.getElem?_eq_getElem hlt, e])
      obtain ⟨i, hi, e2⟩ := List.getElem_of_mem hmem
      rw [slot_live P' (i := i) (by rw [pl i]; show ((pairsOf m owner)[i]?).map (·.1) = some j; rw [List.getElem?_eq_getElem hi, e2]; rfl)]
      exact fun e => nomatch e
  have ent : ∀ (i : Nat) e, (((L.map (·.2)).toArray).filterMap (es[·]?))[i]? = some e → ∃ j k, L[i]? = some (j, k) ∧ es[k]? = some e ∧ H k = e.1 := fun i e h => by
    rw [get i] at h
    obtain ⟨⟨j, k⟩, h1, h2⟩ := Option.bind_eq_some_iff.mp h
    exact ⟨j, k, h1, h2, by show ((es[k]?).map (·.1)).getD 0 = _; rw [show es[k]? = some e from h2]; rfl⟩
  refine ⟨t', (L.map (·.2)).toArray, hrel, rfl, rfl, hsz, ⟨P', ?_, ?_, ?_, ?_, ?_⟩, fun e => ⟨?_, ?_⟩⟩
  · rw [hsz]; simpa [t'] using hL
  · intro i j h
    rw [pl i] at h
    obtain ⟨p, h1, h2⟩ := Option.map_eq_some_iff.mp h
    subst h2
    have := (Array.getElem?_eq_some_iff.mp (at_ i p h1)).1
    rw [O.size] at this
    exact Nat.le_of_lt_succ this
  · rw [hsz]; exact hroom
  · intro i i' e e' h h' hh
    obtain ⟨j, k, h1, h2, _⟩ := ent i e h
    obtain ⟨j', k', h1', h2', _⟩ := ent i' e' h'
    have := T.uniq k k' e e' h2 h2' hh
    subst this
    exact pairs_inj h1 h1' (O.one j j' k (at_ i _ h1) (at_ i' _ h1'))
  · intro i e h
    obtain ⟨j, k, h1, h2, h3⟩ := ent i e h
    obtain ⟨r, q, g1, g2, g3, g4, g5⟩ := O.reach j k (at_ i _ h1)
    rw [h3] at g2 g3 g4 g5
    refine ⟨r, q, g1, g2, by rw [pl i, h1]; show some j = _; rw [← g3], fun r' hr q' hq' => nonfree (spot_le hq') (g4 r' hr q' hq'), fun q' hq' => nonfree (spot_le (show q' ≤ rlen m e.1 r by omega)) (g5 q' hq')⟩
  · rintro ⟨i, h⟩
    obtain ⟨j, k, _, h2, _⟩ := ent i e h
    exact ⟨k, h2⟩
  · rintro ⟨k, h⟩
    obtain ⟨j, hj⟩ := O.has k (Array.getElem?_eq_some_iff.mp h).1
    obtain ⟨i, hi, e2⟩ := List.getElem_of_mem ((pairs_mem O.size).mpr hj)
    exact ⟨i, by rw [get i]; show ((pairsOf m owner)[i]?).bind _ = _; rw [List.getElem?_eq_getElem hi, e2]; exact h⟩
end Mine

/-! Set8 -/
namespace Mine
open SetTable

/-- the hash of a pair of whole numbers -/
def ph (i j : Nat) : Int := reduceHash (Builtin.Tuple.tupleHashOf ([(i : Int), (j : Int)].map hashInt))
theorem ph_key (prog : Program) (w : World) (i j : Nat) : tupleKeyHash (intKind prog w) [(i : Int), (j : Int)] = ph i j := rfl
theorem ph_cov : ∀ i, i < 6 → ∀ j, j < 6 → covers 7 (ph i j) = true ∧ covers 31 (ph i j) = true ∧ covers 127 (ph i j) = true := by
  decide +kernel
theorem ph_inj36 : ∀ n, n < 36 → ∀ m, m < 36 → ph (n / 6) (n % 6) = ph (m / 6) (m % 6) → n = m := by
  decide +kernel
theorem ph_inj {i j i' j' : Nat} (hi : i < 6) (hj : j < 6) (hi' : i' < 6) (hj' : j' < 6) (h : ph i j = ph i' j') : i = i' ∧ j = j' := by
  have e := ph_inj36 (6 * i + j) (by omega) (6 * i' + j') (by omega) (by
    rw [show (6 * i + j) / 6 = i by omega, show (6 * i + j) % 6 = j by omega, show (6 * i' + j') / 6 = i' by omega, show (6 * i' + j') % 6 = j' by omega]; exact h)
  omega
end Mine

/-! Set9 -/
namespace Mine
open SetTable

section
variable {prog : Program} {w : World} {A : Around} {E : Value → Shared → Prop} {s : Shared} {K : Type} [DecidableEq K] {knd : KeyKind prog w K}

theorem ofClass_byValue (n : Nat) {v : Value} (h : carriedByValue v = true) : ofAClassStatement n v = pure false := by
  cases v with
  | ref a => simp [carriedByValue] at h
  | _ => unfold ofAClassStatement; rfl
theorem ofClass_tuple {ks : List K} {a : Addr} (n : Nat) (hk : IsTupleKey knd s.heap ks a) {Q : Bool → Shared → Prop} (h : Q false s) : wpAny (model prog w) A (ofAClassStatement (n + 1) (.ref a)) Q E s := by
  have hT := hk.typeIs
  obtain ⟨o, items, m, ho, hcl, hd, hi⟩ := hk
  unfold ofAClassStatement
  refine wpAny_bind (wpAny_typeOf hT ?_)
  dsimp only
  rw [if_pos (by decide)]
  refine wpAny_bind (wpAny_pure ?_)
  simp only [Bool.not_true, Bool.false_eq_true, if_false]
  refine wpAny_bind (wpAny_seqItems ho hd ?_)
  dsimp only
  refine wpAny_bind ?_
  show wpAny _ _ (forIn items _ _) _ _ s
  rw [← Array.forIn_toList]
  refine wpAny_forIn_list _ (fun rest r s' => r.1 = none ∧ s' = s ∧ ∀ v ∈ rest, carriedByValue v = true) _ ?_ ?_ _ _ ⟨rfl, rfl, hi.byValue⟩
  · rintro v rest r s' ⟨hr, rfl, hall⟩
    rw [ofClass_byValue _ (hall v List.mem_cons_self)]
    refine wpAny_bind (wpAny_pure ?_)
    simp only [Bool.false_eq_true, if_false]
    exact wpAny_pure ⟨rfl, rfl, fun u hu' => hall u (List.mem_cons_of_mem _ hu')⟩
  · rintro ⟨r1, r2⟩ s' ⟨hr, rfl, _⟩
    simp only at hr
    subst hr
    exact wpAny_pure h
/-- nobody sees the search among tuples of plain values -/
theorem notSeen {ks : List K} {a : Addr} (hk : IsTupleKey knd s.heap ks a) : ∀ {stored : List Value}, (∀ y ∈ stored, ∃ b ks', y = .ref b ∧ IsTupleKey knd s.heap ks' b) → ∀ {Q : Bool → Shared → Prop}, Q false s → wpAny (model prog w) A (searchCouldBeSeen (.ref a) stored) Q E s := by
  intro stored hst Q h
  unfold searchCouldBeSeen
  refine wpAny_bind ?_
  show wpAny _ _ (forIn stored _ _) _ _ s
  refine wpAny_forIn_list _ (fun rest r s' => r.1 = none ∧ s' = s ∧ ∀ y ∈ rest, ∃ b ks', y = .ref b ∧ IsTupleKey knd s.heap ks' b) _ ?_ ?_ _ _ ⟨rfl, rfl, hst⟩
  · rintro v rest r s' ⟨hr, rfl, hall⟩
    obtain ⟨b, ks', rfl, hb⟩ := hall v List.mem_cons_self
    have fin : ∀ u ∈ rest, ∃ b ks', u = .ref b ∧ IsTupleKey knd s'.heap ks' b := fun u hu' => hall u (List.mem_cons_of_mem _ hu')
    dsimp only
    split
    · exact wpAny_pure ⟨rfl, rfl, fin⟩
    · refine wpAny_bind (wpAny_eqIsQuiet_tuple hk ?_)
      simp only [Bool.not_true, Bool.false_eq_true, if_false]
      refine wpAny_bind (wpAny_eqIsQuiet_tuple hb ?_)
      simp only [Bool.not_true, Bool.false_eq_true, if_false]
      refine wpAny_bind (ofClass_tuple 7 hk ?_)
      simp only [Bool.false_eq_true, if_false]
      refine wpAny_bind (ofClass_tuple 7 hb ?_)
      simp only [Bool.false_eq_true, if_false]
      exact wpAny_pure ⟨rfl, rfl, fin⟩
  · rintro ⟨r1, r2⟩ s' ⟨hr, rfl, _⟩
    simp only at hr
    subst hr
    exact wpAny_pure h
end
end Mine

/-! Set10 -/
namespace Mine
open SetTable

/-- a set of pairs 0..5 in the heap -/
structure PSet (prog : Program) (w : World) (h : Heap) (a : Addr) (xs : List (Nat × Nat)) (o : Obj) (es : Array (Int × Value)) (ep : Nat) (t : SetTable) : Prop where
  here : h.get? a = some o
  exact : o.ExactSet
  data : o.data = .set es ep t
  tab : TabOk t es
  mask : t.mask = 7 ∨ t.mask = 31 ∨ t.mask = 127
  few : es.size * 5 < t.mask * 3
  ent : ∀ (i : Nat) e, es[i]? = some e → ∃ p ∈ xs, ∃ b, e = (ph p.1 p.2, .ref b) ∧ IsTupleKey (intKind prog w) h [(p.1 : Int), (p.2 : Int)] b
  has : ∀ p ∈ xs, ∃ (i : Nat) (e : Int × Value), es[i]? = some e ∧ e.1 = ph p.1 p.2
  dom : ∀ p ∈ xs, p.1 < 6 ∧ p.2 < 6

section
variable {prog : Program} {w : World} {A : Around} {E : Value → Shared → Prop} {s : Shared} {a : Addr} {xs : List (Nat × Nat)} {o : Obj} {es : Array (Int × Value)} {ep : Nat} {t : SetTable}

theorem PSet.fits {h : Heap} (S : PSet prog w h a xs o es ep t) : t.fits es.size = true := by
  unfold SetTable.fits SetTable.fill
  have h1 := S.tab.size
  have h2 := S.tab.room
  have h3 : t.dummies = #[] := S.tab.plain.nod
  rw [h3]
  simp only [Bool.and_eq_true, beq_iff_eq, decide_eq_true_eq, List.size_toArray, List.length_nil, Nat.add_zero]
  omega
theorem PSet.cov {h : Heap} (S : PSet prog w h a xs o es ep t) {i j : Nat} (hi : i < 6) (hj : j < 6) : covers t.mask (ph i j) = true := by
  obtain ⟨c1, c2, c3⟩ := ph_cov i hi j hj
  rcases S.mask with e | e | e <;> rw [e] <;> assumption
theorem PSet.noWay {h : Heap} (S : PSet prog w h a xs o es ep t) : t.gaveWay = false := by
  unfold SetTable.gaveWay
  rcases S.mask with e | e | e <;> rw [e] <;> rfl

theorem search_in {adding : Bool} {i j : Nat} {x : Addr} (hu : A.units < cLine) (hk : IsTupleKey (intKind prog w) s.heap [(i : Int), (j : Int)] x) (S : PSet prog w s.heap a xs o es ep t) (hp : (i, j) ∈ xs) {Q : SetFound → Shared → Prop}
    (h : ∀ r : Option Nat, (adding = false → r.isSome = true) → Q (.there r) s) : wpAny (model prog w) A (setSearch a (.ref x) (ph i j) adding) Q E s := by
  obtain ⟨q, e, he, heh⟩ := S.has _ hp
  obtain ⟨jj, nx, hpr, hsl⟩ := S.tab.find_in (at_ := fun i => (es[i]?.map (·.1)).getD 0) (fun i e he => by show ((es[i]?).map (·.1)).getD 0 = _; rw [he]; rfl) he
  rw [heh] at hpr
  dsimp only at hpr
  obtain ⟨p, hpx, b, eb, hb⟩ := S.ent q e he
  have hd := S.dom p hpx
  have hd' := S.dom _ hp
  have hij : p.1 = i ∧ p.2 = j := by
    have : ph p.1 p.2 = ph i j := by rw [← heh, eb]
    exact ph_inj hd.1 hd.2 hd'.1 hd'.2 this
  unfold setSearch
  rw [show (100000 : Nat) = 99999 + 1 by rfl]
  unfold setSearchFrom
  refine wpAny_bind (wpAny_setState_of S.here S.data S.fits ?_)
  dsimp only
  rw [S.noWay]
  simp only [Bool.false_eq_true, if_false, Option.getD_none]
  split
  · rename_i met heq
    have hmet := (show some _ = some met from hpr.symm.trans heq)
    cases hmet
    dsimp only
    have he' : es[q]? = some (ph i j, .ref b) := by rw [he, eb, hij.1, hij.2]
    have hb' : IsTupleKey (intKind prog w) s.heap [(i : Int), (j : Int)] b := by rw [← hij.1, ← hij.2]; exact hb
    cases hled : t.led
    · simp only [Bool.not_false, if_true]
      refine wpAny_bind (notSeen hk (fun y hy => ?_) ?_)
      · obtain ⟨e', h1, h2⟩ := List.mem_map.mp hy
        have h3 := (Array.mem_filter.mp (Array.mem_toList_iff.mp h1)).1
        obtain ⟨q', h4, h5⟩ := Array.getElem_of_mem h3
        obtain ⟨p', _, b', eb', hb2⟩ := S.ent q' e' (by rw [Array.getElem?_eq_getElem h4, h5])
        exact ⟨b', _, by rw [← h2, eb'], hb2⟩
      simp only [Bool.false_eq_true, if_false]
      rw [he']
      dsimp only
      refine wpAny_bind (wpAny_holding (wpAny_eqBool_tuple hu hb' hk ?_))
      rw [show decide ([(i : Int), (j : Int)] = [(i : Int), (j : Int)]) = true by simp]
      refine wpAny_bind (wpAny_setState_of S.here S.data S.fits ?_)
      dsimp only
      cases adding
      · simp only [Bool.false_and, Bool.false_eq_true, if_false]
        have hsm : t.sameMemory t.moves t.mask = some true := by unfold SetTable.sameMemory; simp
        rw [hsm]
        dsimp only
        rw [if_pos rfl, hsl]
        dsimp only
        rw [he']
        dsimp only
        refine wpAny_bind (wpAny_isSame_ref_self ?_)
        refine wpAny_bind (wpAny_pure ?_)
        simp only [if_true]
        exact wpAny_pure (h _ fun _ => rfl)
      · simp only [Bool.and_self, if_true]
        exact wpAny_pure (h _ fun e => by cases e)
    · simp only [Bool.not_true, Bool.false_eq_true, if_false]
      rw [he']
      dsimp only
      refine wpAny_bind (wpAny_holding (wpAny_eqBool_tuple hu hb' hk ?_))
      rw [show decide ([(i : Int), (j : Int)] = [(i : Int), (j : Int)]) = true by simp]
      refine wpAny_bind (wpAny_setState_of S.here S.data S.fits ?_)
      dsimp only
      cases adding
      · simp only [Bool.false_and, Bool.false_eq_true, if_false]
        have hsm : t.sameMemory t.moves t.mask = some true := by unfold SetTable.sameMemory; simp
        rw [hsm]
        dsimp only
        rw [if_pos rfl, hsl]
        dsimp only
        rw [he']
        dsimp only
        refine wpAny_bind (wpAny_isSame_ref_self ?_)
        refine wpAny_bind (wpAny_pure ?_)
        simp only [if_true]
        exact wpAny_pure (h _ fun _ => rfl)
      · simp only [Bool.and_self, if_true]
        exact wpAny_pure (h _ fun e => by cases e)
  · rename_i heq
    exact absurd hpr (heq _)

theorem PSet.out {h : Heap} (S : PSet prog w h a xs o es ep t) {i j : Nat} (hi : i < 6) (hj : j < 6) (hn : (i, j) ∉ xs) : ∀ (q : Nat) e, es[q]? = some e → e.1 ≠ ph i j := fun q e he hc => by
  obtain ⟨p, hpx, b, eb, _⟩ := S.ent q e he
  have hd := S.dom p hpx
  have := ph_inj hd.1 hd.2 hi hj (by rw [← hc, eb])
  exact hn (by rw [← this.1, ← this.2]; exact hpx)
theorem search_out {adding : Bool} {i j : Nat} {x : Addr} (hi : i < 6) (hj : j < 6) (S : PSet prog w s.heap a xs o es ep t) (hn : (i, j) ∉ xs) {Q : SetFound → Shared → Prop}
    (h : ∀ r k, First t (fun i => (es[i]?.map (·.1)).getD 0) (ph i j) r k → t.slot (spot t.mask (ph i j) r k) = .empty → Q (.free (spot t.mask (ph i j) r k) false) s) :
    wpAny (model prog w) A (setSearch a (.ref x) (ph i j) adding) Q E s := by
  obtain ⟨r, k, F, he, hpr⟩ := S.tab.find_out (at_ := fun i => (es[i]?.map (·.1)).getD 0) (fun i e he => by show ((es[i]?).map (·.1)).getD 0 = _; rw [he]; rfl) (S.cov hi hj) (S.out hi hj hn)
  unfold setSearch
  rw [show (100000 : Nat) = 99999 + 1 by rfl]
  unfold setSearchFrom
  refine wpAny_bind (wpAny_setState_of S.here S.data S.fits ?_)
  dsimp only
  rw [S.noWay]
  simp only [Bool.false_eq_true, if_false, Option.getD_none]
  split
  · rename_i met heq
    have hmet := (show some _ = some met from hpr.symm.trans heq)
    cases hmet
    exact wpAny_pure (h r k F he)
  · rename_i heq
    exact absurd hpr (heq _)
end
end Mine

/-! Set11 -/
namespace Mine
open SetTable
section
variable {prog : Program} {w : World} {A : Around} {E : Value → Shared → Prop} {s : Shared} {a : Addr} {xs : List (Nat × Nat)} {o : Obj} {es : Array (Int × Value)} {ep : Nat} {t : SetTable}

theorem PSet.typeIs (S : PSet prog w s.heap a xs o es ep t) : s.TypeIs (.ref a) "set" := ⟨o, S.here, S.exact.1⟩
theorem byScan_ref (x : Addr) (es : Array (Int × Value)) : byScan (.ref x) es = false := rfl
theorem find_pset {i j : Nat} {x : Addr} (hu : A.units < cLine) (hi : i < 6) (hj : j < 6) (hk : IsTupleKey (intKind prog w) s.heap [(i : Int), (j : Int)] x) (S : PSet prog w s.heap a xs o es ep t) {Q : Option Nat → Shared → Prop}
    (h : ∀ r : Option Nat, r.isSome = decide ((i, j) ∈ xs) → Q r s) : wpAny (model prog w) A (setFind a (.ref x) (ph i j)) Q E s := by
  unfold setFind
  rw [show (100000 : Nat) = 99999 + 1 by rfl]
  unfold setFindIn
  refine wpAny_bind (wpAny_setState_of S.here S.data S.fits ?_)
  dsimp only
  rw [byScan_ref]
  simp only [Bool.false_eq_true, if_false]
  by_cases hp : (i, j) ∈ xs
  · refine wpAny_bind (search_in hu hk S hp fun r hr => ?_)
    exact wpAny_pure (h r (by rw [hr rfl]; simp [hp]))
  · refine wpAny_bind (search_out hi hj S hp fun r k F he => ?_)
    exact wpAny_pure (h none (by simp [hp]))
/-- the search that a set of pairs runs for «in» -/
theorem has_body {i j : Nat} {x : Addr} {B : Around} (hu : B.units < cLine) (hi : i < 6) (hj : j < 6) (hk : IsTupleKey (intKind prog w) s.heap [(i : Int), (j : Int)] x) (S : PSet prog w s.heap a xs o es ep t) :
    wpAny (model prog w) B (Builtin.«frozenset.__contains__» ⟨[.ref a, .ref x], []⟩) (fun fin s' => fin = .done (.ret (.bool (decide ((i, j) ∈ xs)))) ∧ ∃ tk, s' = { s with toks := tk }) E s := by
  have found : ∀ E' : Value → Shared → Prop, wpAny (model prog w) B (setFind a (.ref x) (ph i j)) (fun r s' => r.isSome = decide ((i, j) ∈ xs) ∧ s' = { s with toks := s.toks + 3 }) E' { s with toks := s.toks + 3 } := fun _ =>
    find_pset (s := { s with toks := s.toks + 3 }) hu hi hj hk S fun r hr => ⟨hr, rfl⟩
  unfold Builtin.«frozenset.__contains__» Builtin.Frozenset.oneOther Builtin.Frozenset.addrOf Builtin.Frozenset.withSetAsKey setContains
  simp only [List.isEmpty_nil, bind_assoc]
  refine wpAny_bind (wpAny_pure ?_)
  refine wpAny_bind (wpAny_pure (wpAny_bind (wpAny_tryCatch (wpAny_holding (wpAny_bind (wpAny_pyHash_tuple (knd := intKind prog w) hu hk ?_))))))
  rw [ph_key]
  refine wpAny_bind (wpAny_mono (found fun _ _ => False) (fun r s' h => wpAny_pure ?_) fun _ _ e => e.elim)
  obtain ⟨hr, rfl⟩ := h
  show wpAny _ _ (ret (Value.bool r.isSome)) _ _ _
  rw [hr]
  exact wpAny_pure ⟨rfl, _, rfl⟩
theorem in_pset {i j : Nat} {x : Addr} {Q : Value → Shared → Prop} (hu : A.units + 1 < cLine) (hi : i < 6) (hj : j < 6) (hk : IsTupleKey (intKind prog w) s.heap [(i : Int), (j : Int)] x) (S : PSet prog w s.heap a xs o es ep t)
    (h : ∀ tk, Q (.bool (decide ((i, j) ∈ xs))) { s with toks := tk }) : wpAny (model prog w) A (compareOp .In (.ref x) (.ref a)) Q E s := by
  have T := S.typeIs
  have run : wpAny (model prog w) A (call (.builtin "set.__contains__") [.ref a, .ref x]) (fun v s' => v = .bool (decide ((i, j) ∈ xs)) ∧ ∃ tk, s' = { s with toks := tk }) E s :=
    wpAny_call_entry F.slot_set_contains T entry_set_contains (wpAny_mono (has_body (B := A.in1) hu hi hj hk S) (fun _ _ z => ⟨_, z.1, rfl, z.2⟩) fun _ _ e => e) (F.args_set_contains_2 _ _)
  show wpAny _ _ (do return .bool (← contains (.ref a) (.ref x))) Q E s
  refine wpAny_bind ?_
  unfold contains
  refine wpAny_holding (wpAny_bind (wpAny_specialOf T F.slot_set_contains.lookup ?_))
  show wpAny _ _ (if (some (Value.builtin "set.__contains__") == some Value.none) = true then _ else _) _ E s
  rw [beq_builtin_none, if_neg Bool.false_ne_true]
  refine wpAny_bind (wpAny_callSpecialUnlessNone?_slot (name := Str.ofString "__contains__") T F.slot_set_contains (wpAny_mono run (fun v s' z => ?_) fun _ _ e => e))
  obtain ⟨rfl, tk, rfl⟩ := z
  exact wpAny_truthy_bool (wpAny_pure (h tk))
end
end Mine

/-! Set12 -/
namespace Mine
open SetTable
section
variable {prog : Program} {w : World} {A : Around} {E : Value → Shared → Prop} {s : Shared} {a : Addr} {xs : List (Nat × Nat)} {o : Obj} {es : Array (Int × Value)} {ep : Nat} {t : SetTable}

theorem hashByValue_int (n : Nat) (i : Int) (tk : Tok) : hashByValue n (.int i tk) = pure true := by cases n <;> rfl
theorem hashByValue_pair {x : Addr} {ks : List Int} (hk : IsTupleKey (intKind prog w) s.heap ks x) {Q : Bool → Shared → Prop} (h : Q true s) : wpAny (model prog w) A (hashByValue 8 (.ref x)) Q E s := by
  have hT := hk.typeIs
  obtain ⟨o, items, m, ho, hcl, hd, hi⟩ := hk
  have hints : ∀ {ks : List Int} {vs : List Value}, ItemsAre (intKind prog w) ks vs → ∀ v ∈ vs, ∃ i tk, v = .int i tk := fun x => by
    induction x with
    | nil => intro v hv; nomatch hv
    | cons hkv _ ih =>
      intro v hv
      rcases List.mem_cons.mp hv with rfl | hv
      · obtain ⟨t, e⟩ := Value.isInt_shape hkv; exact ⟨_, t, e⟩
      · exact ih v hv
  unfold hashByValue
  refine wpAny_bind (wpAny_specialOf hT F.slot_tuple_hash.lookup ?_)
  dsimp only
  refine wpAny_bind (wpAny_seqItems ho hd ?_)
  refine wpAny_bind ?_
  show wpAny _ _ (forIn items _ _) _ _ s
  rw [← Array.forIn_toList]
  refine wpAny_forIn_list _ (fun rest r s' => r.1 = none ∧ s' = s ∧ ∀ v ∈ rest, ∃ i tk, v = .int i tk) _ ?_ ?_ _ _ ⟨rfl, rfl, hints hi⟩
  · rintro v rest r s' ⟨hr, rfl, hall⟩
    obtain ⟨i, tk, rfl⟩ := hall v List.mem_cons_self
    rw [hashByValue_int]
    refine wpAny_bind (wpAny_pure ?_)
    simp only [Bool.not_true, Bool.false_eq_true, if_false]
    exact wpAny_pure ⟨rfl, rfl, fun u hu' => hall u (List.mem_cons_of_mem _ hu')⟩
  · rintro ⟨r1, r2⟩ s' ⟨hr, rfl, _⟩
    simp only at hr
    subst hr
    exact wpAny_pure h

theorem PSet.count {h : Heap} (S : PSet prog w h a xs o es ep t) : es.size ≤ 36 := by
  have ex : ∀ q, q < es.size → ∃ n, n < 36 ∧ ∀ e, es[q]? = some e → e.1 = ph (n / 6) (n % 6) := fun q hq => by
    have he : es[q]? = some es[q] := Array.getElem?_eq_getElem hq
    obtain ⟨p, hp, b, eb, _⟩ := S.ent q _ he
    have hd := S.dom p hp
    refine ⟨6 * p.1 + p.2, by omega, fun e h2 => ?_⟩
    rw [he] at h2; cases h2
    rw [show (6 * p.1 + p.2) / 6 = p.1 by omega, show (6 * p.1 + p.2) % 6 = p.2 by omega, eb]
  classical
  let f : Nat → Nat := fun q => if hq : q < es.size then (ex q hq).choose else 0
  have fe : ∀ q (hq : q < es.size), f q < 36 ∧ ∀ e, es[q]? = some e → e.1 = ph (f q / 6) (f q % 6) := fun q hq => by
    have e : f q = (ex q hq).choose := dif_pos hq
    rw [e]; exact (ex q hq).choose_spec
  refine pigeon 36 es.size f (fun q hq => (fe q hq).1) (fun q q' hq hq' e => ?_)
  have h1 := Array.getElem?_eq_getElem hq
  have h2 := Array.getElem?_eq_getElem hq'
  refine S.tab.uniq q q' _ _ h1 h2 ?_
  rw [(fe q hq).2 _ h1, (fe q' hq').2 _ h2, e]
end
end Mine

/-! Set13 -/
namespace Mine
open SetTable
section
variable {prog : Program} {w : World} {A : Around} {E : Value → Shared → Prop} {s : Shared} {a : Addr} {xs : List (Nat × Nat)} {o : Obj} {es : Array (Int × Value)} {ep : Nat} {t : SetTable}

theorem TabOk.congr {t t' : SetTable} (T : TabOk t es) (h1 : t'.mask = t.mask) (h2 : t'.place = t.place) (h3 : t'.dummies = t.dummies) : TabOk t' es := by
  have hs : ∀ j, t'.slot j = t.slot j := fun j => by unfold SetTable.slot; rw [h2, h3]
  refine ⟨⟨by rw [h2]; exact T.plain.srt, by rw [h3]; exact T.plain.nod⟩, by rw [h2]; exact T.size, fun i j h => by rw [h1]; exact T.le i j (by rw [← h2]; exact h), by rw [h1]; exact T.room, T.uniq, fun i e he => ?_⟩
  obtain ⟨r, k, g1, g2, g3, g4, g5⟩ := T.reach i e he
  rw [h1, h2]
  exact ⟨r, k, g1, g2, g3, fun q hq k' hk' => by rw [hs]; exact g4 q hq k' hk', fun k' hk' => by rw [hs]; exact g5 k' hk'⟩

/-- the entries and the table after one more pair: what add is to leave -/
structure Added (prog : Program) (w : World) (h : Heap) (xs : List (Nat × Nat)) (es : Array (Int × Value)) (t : SetTable) : Prop where
  tab : TabOk t es
  mask : t.mask = 7 ∨ t.mask = 31 ∨ t.mask = 127
  ent : ∀ (i : Nat) e, es[i]? = some e → ∃ p ∈ xs, ∃ b, e = (ph p.1 p.2, .ref b) ∧ IsTupleKey (intKind prog w) h [(p.1 : Int), (p.2 : Int)] b
  has : ∀ p ∈ xs, ∃ (i : Nat) (e : Int × Value), es[i]? = some e ∧ e.1 = ph p.1 p.2
  dom : ∀ p ∈ xs, p.1 < 6 ∧ p.2 < 6

theorem PSet.added {h : Heap} (S : PSet prog w h a xs o es ep t) {i j : Nat} {x : Addr} (hi : i < 6) (hj : j < 6) (hn : (i, j) ∉ xs) (hk : IsTupleKey (intKind prog w) h [(i : Int), (j : Int)] x) {at_ : Nat → Int} {r k : Nat}
    (F : First t at_ (ph i j) r k) (he : t.slot (spot t.mask (ph i j) r k) = .empty) :
    Added prog w h ((i, j) :: xs) (insertAt es (t.put (spot t.mask (ph i j) r k)).2 (ph i j, .ref x)) (t.put (spot t.mask (ph i j) r k)).1 ∧ (insertAt es (t.put (spot t.mask (ph i j) r k)).2 (ph i j, .ref x)).size = es.size + 1 ∧
      (t.put (spot t.mask (ph i j) r k)).1.mask = t.mask := by
  have hroom : es.size + 1 ≤ t.mask := by
    have := S.few
    rcases S.mask with e | e | e <;> omega
  have hp := S.tab.put (S.out hi hj hn) F he (.ref x) hroom
  have hpe : (t.put (spot t.mask (ph i j) r k)).2 ≤ es.size := by
    rw [put_eq S.tab.plain]
    have := (below_spec S.tab.plain.srt (spot t.mask (ph i j) r k)).1
    rw [← S.tab.size]; exact this
  refine ⟨⟨hp.1, by rw [hp.2]; exact S.mask, fun q e hq => ?_, fun p hp' => ?_, fun p hp' => ?_⟩, insertAt_size _ _ hpe _, hp.2⟩
  · rcases insertAt_was _ hpe _ hq with ⟨_, rfl⟩ | ⟨q', h1, _⟩
    · exact ⟨(i, j), .head _, x, rfl, hk⟩
    · obtain ⟨p, g1, g2⟩ := S.ent q' e h1
      exact ⟨p, .tail _ g1, g2⟩
  · rcases List.mem_cons.mp hp' with rfl | hp'
    · exact ⟨_, _, by rw [insertAt_get _ hpe, if_neg (Nat.lt_irrefl _), if_pos rfl], rfl⟩
    · obtain ⟨q, e, h1, h2⟩ := S.has p hp'
      exact ⟨_, e, insertAt_old _ hpe _ h1, h2⟩
  · rcases List.mem_cons.mp hp' with rfl | hp'
    · exact ⟨hi, hj⟩
    · exact S.dom p hp'
end
end Mine

/-! Set14 -/
namespace Mine
open SetTable
section
variable {prog : Program} {w : World} {xs : List (Nat × Nat)} {es : Array (Int × Value)} {t : SetTable}

theorem Added.cov {h : Heap} (D : Added prog w h xs es t) {m : Nat} (hm : m = 7 ∨ m = 31 ∨ m = 127) : ∀ (i : Nat) e, es[i]? = some e → covers m e.1 = true := fun i e he => by
  obtain ⟨p, hp, b, eb, _⟩ := D.ent i e he
  have hd := D.dom p hp
  obtain ⟨c1, c2, c3⟩ := ph_cov p.1 hd.1 p.2 hd.2
  rw [eb]
  rcases hm with e | e | e <;> rw [e] <;> assumption
theorem Added.relay {h : Heap} (D : Added prog w h xs es t) {m : Nat} (hm : m = 31 ∨ m = 127) (hw : sizeAbove (grown es.size) - 1 = m) (hroom : es.size ≤ m) :
    ∃ t' order, t.relaid (es.map (·.1)) (grown es.size) = some (t', order) ∧ t'.mask = m ∧ (order.filterMap (es[·]?)).size = es.size ∧ Added prog w h xs (order.filterMap (es[·]?)) t' := by
  obtain ⟨t', order, h1, h2, _, h4, h5, h6⟩ := relaid_ok D.tab hw hroom (D.cov (by rcases hm with e | e <;> rw [e] <;> simp))
  refine ⟨t', order, h1, h2, h4, ⟨h5, by rw [h2]; rcases hm with e | e <;> simp [e], fun i e he => ?_, fun p hp => ?_, D.dom⟩⟩
  · obtain ⟨q, hq⟩ := (h6 e).mp ⟨i, he⟩
    exact D.ent q e hq
  · obtain ⟨q, e, g1, g2⟩ := D.has p hp
    obtain ⟨q', hq'⟩ := (h6 e).mpr ⟨q, g1⟩
    exact ⟨q', e, hq', g2⟩
end
end Mine

/-! Set15 -/
namespace Mine
open SetTable
section
variable {prog : Program} {w : World} {A : Around} {E : Value → Shared → Prop} {s : Shared} {a : Addr} {xs : List (Nat × Nat)} {o : Obj} {es : Array (Int × Value)} {ep : Nat} {t : SetTable}

theorem store_pset {h : Heap} (ho : h.get? a = some o) (hex : o.ExactSet) (hd : o.data = .set es ep t) {es' : Array (Int × Value)} {t' : SetTable} :
    (h.update a (Obj.putSet es' t')).get? a = some { o with data := .set es' (ep + 1) t' } := by
  have := Heap.get?_update_self (Obj.putSet es' t') ho (by rw [putSet_of es' t' hd]; rfl)
  rw [putSet_of es' t' hd] at this; exact this
theorem tuple_same {h h' : Heap} {ks : List Int} {b : Addr} (hs : Heap.SameBut a h h') (ho : h.get? a = some o) (hex : o.ExactSet) (hk : IsTupleKey (intKind prog w) h ks b) : IsTupleKey (intKind prog w) h' ks b := by
  obtain ⟨ob, items, n, h1, h2, h3, h4⟩ := hk
  have hne : b ≠ a := fun e => by
    subst e
    rw [ho] at h1; cases h1
    rw [hex.1] at h2
    exact absurd (Value.type.inj h2) (by decide)
  exact ⟨ob, items, n, (hs.2 b hne).trans h1, h2, h3, h4⟩
theorem Added.same {h h' : Heap} (hs : Heap.SameBut a h h') (ho : h.get? a = some o) (hex : o.ExactSet) (D : Added prog w h xs es t) : Added prog w h' xs es t :=
  ⟨D.tab, D.mask, fun i e he => let ⟨p, g1, b, g2, g3⟩ := D.ent i e he; ⟨p, g1, b, g2, tuple_same hs ho hex g3⟩, D.has, D.dom⟩
theorem Added.pset {h : Heap} (D : Added prog w h xs es t) (ho : h.get? a = some o) (hex : o.ExactSet) (hd : o.data = .set es ep t) (hf : es.size * 5 < t.mask * 3) : PSet prog w h a xs o es ep t :=
  ⟨ho, hex, hd, D.tab, D.mask, hf, D.ent, D.has, D.dom⟩
end
end Mine

/-! Set16 -/
namespace Mine
open SetTable
section
variable {prog : Program} {w : World} {A : Around} {E : Value → Shared → Prop} {s : Shared} {a : Addr} {xs : List (Nat × Nat)} {o : Obj} {es : Array (Int × Value)} {ep : Nat} {t : SetTable}

theorem addHashed_new {i j : Nat} {x : Addr} (hi : i < 6) (hj : j < 6) (hk : IsTupleKey (intKind prog w) s.heap [(i : Int), (j : Int)] x) (S : PSet prog w s.heap a xs o es ep t) (hn : (i, j) ∉ xs) {Q : Bool → Shared → Prop}
    (h : ∀ h' o' es' ep' t', Heap.SameBut a s.heap h' → PSet prog w h' a ((i, j) :: xs) o' es' ep' t' → Q true { s with heap := h' }) :
    wpAny (model prog w) A (setAddHashed a (.ref x) (ph i j)) Q E s := by
  unfold setAddHashed
  refine wpAny_holding ?_
  rw [show (100000 : Nat) = 99999 + 1 by rfl]
  unfold setAddHashedIn
  refine wpAny_bind (wpAny_setState_of S.here S.data S.fits ?_)
  dsimp only
  rw [byScan_ref]
  simp only [Bool.false_eq_true, if_false]
  refine wpAny_bind (search_out hi hj S hn fun r k F he => ?_)
  dsimp only
  refine wpAny_bind (wpAny_setState_of S.here S.data S.fits ?_)
  dsimp only
  obtain ⟨D, hsz, hmask⟩ := S.added hi hj hn hk F he
  have hcount := S.count
  have hfew := S.few
  generalize insertAt es (t.put (spot t.mask (ph i j) r k)).snd (ph i j, Value.ref x) = es1 at D hsz
  generalize (t.put (spot t.mask (ph i j) r k)).fst = t1 at D hmask
  have tail : wpAny (model prog w) A (do
      storeSet a es1 t1
      if (!false && t1.tooFull) = true then do
        setRelay a (grown (es.size + 1))
        pure true
      else pure true) Q E s := by
    refine wpAny_bind (wpAny_storeSet_of S.here S.data ?_ (by rw [sizeLine_eq]; omega))
    have ho1 := store_pset (es' := es1) (t' := t1) S.here S.exact S.data
    have hsb := Heap.SameBut.update s.heap a (Obj.putSet es1 t1)
    have D1 := D.same hsb S.here S.exact
    by_cases hfull : t1.tooFull = true
    · rw [if_pos (by rw [hfull]; rfl)]
      have hful : t1.mask * 3 ≤ es1.size * 5 := by
        unfold SetTable.tooFull SetTable.fill at hfull
        have e1 := D.tab.size
        have e2 : t1.dummies = #[] := D.tab.plain.nod
        rw [e2] at hfull
        simp at hfull
        omega
      have hm : ∃ m, (m = 31 ∨ m = 127) ∧ sizeAbove (grown es1.size) - 1 = m ∧ es1.size ≤ m ∧ es1.size * 5 < m * 3 ∧ sizeAbove (grown es1.size) ≤ 128 := by
        rcases S.mask with e | e | e
        · have h5 : es1.size = 5 := by omega
          rw [h5]; exact ⟨31, .inl rfl, rfl, by omega, by omega, by decide⟩
        · have h5 : es1.size = 19 := by omega
          rw [h5]; exact ⟨127, .inr rfl, rfl, by omega, by omega, by decide⟩
        · omega
      obtain ⟨m, m1, m2, m3, m4, m5⟩ := hm
      obtain ⟨t2, order, r1, r2, r3, D2⟩ := D1.relay m1 m2 m3
      have hf1 : t1.fits es1.size = true := by
        unfold SetTable.fits SetTable.fill
        have q1 := D.tab.size
        have q2 := D.tab.room
        have q3 : t1.dummies = #[] := D.tab.plain.nod
        rw [q3]
        simp only [Bool.and_eq_true, beq_iff_eq, decide_eq_true_eq, List.size_toArray, List.length_nil, Nat.add_zero]
        omega
      rw [← hsz]
      refine wpAny_bind ?_
      unfold setRelay
      refine wpAny_bind (wpAny_setState_of ho1 rfl hf1 ?_)
      dsimp only
      rw [if_neg (by rw [sizeLine_eq]; omega), r1]
      refine wpAny_bind ?_
      show wpAny _ _ (do
        if (order.filterMap (es1[·]?)).size != es1.size then unsupported "internal:set-table-lost-an-element"
        pure (order.filterMap (es1[·]?), t2)) _ _ _
      rw [r3]
      simp only [bne_self_eq_false, Bool.false_eq_true, if_false]
      refine wpAny_pure ?_
      dsimp only
      refine wpAny_storeSet_of ho1 rfl ?_ (by rw [r3, sizeLine_eq]; omega)
      have ho2 := store_pset (es' := order.filterMap (es1[·]?)) (t' := t2) ho1 S.exact rfl
      have hsb2 := Heap.SameBut.update (s.heap.update a (Obj.putSet es1 t1)) a (Obj.putSet (order.filterMap (es1[·]?)) t2)
      have D3 := D2.same hsb2 ho1 S.exact
      exact wpAny_pure (h _ _ _ _ _ (hsb.trans hsb2) (D3.pset ho2 S.exact rfl (by rw [r2, r3]; exact m4)))
    · rw [if_neg (by simpa using hfull)]
      have hfew1 : es1.size * 5 < t1.mask * 3 := by
        unfold SetTable.tooFull SetTable.fill at hfull
        have e1 := D.tab.size
        have e2 : t1.dummies = #[] := D.tab.plain.nod
        rw [e2] at hfull
        simp at hfull
        omega
      exact wpAny_pure (h _ _ _ _ _ hsb (D1.pset ho1 S.exact rfl hfew1))
  split
  · refine wpAny_bind (hashByValue_pair hk ?_)
    simp only [if_true]
    exact tail
  · refine wpAny_bind (wpAny_pure ?_)
    simp only [if_true]
    exact tail
end
end Mine

/-! Set17 -/
namespace Mine
open SetTable
section
variable {prog : Program} {w : World} {A : Around} {E : Value → Shared → Prop} {s : Shared} {a : Addr} {xs : List (Nat × Nat)} {o : Obj} {es : Array (Int × Value)} {ep : Nat} {t : SetTable}

theorem addHashed_old {i j : Nat} {x : Addr} (hu : A.units < cLine) (hk : IsTupleKey (intKind prog w) s.heap [(i : Int), (j : Int)] x) (S : PSet prog w s.heap a xs o es ep t) (hp : (i, j) ∈ xs) {Q : Bool → Shared → Prop}
    (h : Q false s) : wpAny (model prog w) A (setAddHashed a (.ref x) (ph i j)) Q E s := by
  unfold setAddHashed
  refine wpAny_holding ?_
  rw [show (100000 : Nat) = 99999 + 1 by rfl]
  unfold setAddHashedIn
  refine wpAny_bind (wpAny_setState_of S.here S.data S.fits ?_)
  dsimp only
  rw [byScan_ref]
  simp only [Bool.false_eq_true, if_false]
  exact wpAny_bind (search_in hu hk S hp fun r _ => wpAny_pure h)

theorem addTo_pset {i j : Nat} {x : Addr} {Q : Value → Shared → Prop} (hu : A.units + 1 < cLine) (hi : i < 6) (hj : j < 6) (hk : IsTupleKey (intKind prog w) s.heap [(i : Int), (j : Int)] x) (S : PSet prog w s.heap a xs o es ep t) (hn : (i, j) ∉ xs)
    (h : ∀ h' o' es' ep' t' tk, Heap.SameBut a s.heap h' → PSet prog w h' a ((i, j) :: xs) o' es' ep' t' → Q .none { s with heap := h', toks := tk }) :
    wpAny (model prog w) A (call (.builtin "set.add") [.ref a, .ref x]) Q E s := by
  have body : wpAny (model prog w) A.in1 (Builtin.«set.add» ⟨[.ref a, .ref x], []⟩) (fun fin s' => fin = .done (.ret .none) ∧ Q .none s') E s := by
    unfold Builtin.«set.add» Builtin.Frozenset.oneOther Builtin.Frozenset.addrOf setAdd
    simp only [List.isEmpty_nil, bind_assoc]
    refine wpAny_bind (wpAny_pure ?_)
    refine wpAny_bind (wpAny_pure (wpAny_bind (wpAny_holding (wpAny_bind (wpAny_pyHash_tuple (knd := intKind prog w) hu hk ?_)))))
    rw [ph_key]
    exact addHashed_new (s := { s with toks := s.toks + 3 }) hi hj hk S hn fun h' o' es' ep' t' hsb S' => wpAny_pure ⟨rfl, h h' o' es' ep' t' _ hsb S'⟩
  exact wpAny_call_entry F.slot_set_add S.typeIs F.entry_set_add (wpAny_mono body (fun _ _ z => ⟨_, z.1, z.2⟩) fun _ _ e => e) (F.args_set_add_2 _ _)
end
end Mine

/-! Ref1 -/
namespace Mine

/-- a test that no evaluation opens -/
noncomputable def pd (p : Prop) : Bool := @decide p (Classical.propDecidable p)
theorem pd_dec (p : Prop) [Decidable p] : pd p = decide p := by unfold pd; congr
theorem pd_True : pd True = true := by unfold pd; simp
theorem pd_False : pd False = false := by unfold pd; simp
theorem pd_of {p : Prop} (h : pd p = true) : p := by unfold pd at h; simpa using h
theorem pd_true {p : Prop} (h : p) : pd p = true := by unfold pd; simpa using h
theorem pd_false {p : Prop} (h : ¬ p) : pd p = false := by unfold pd; simpa using h

/-- flat abstract values -/
inductive FV where
  | none | bool (b : Bool) | int (i : Int) | str (s : Str) | ref (k : Nat)
  | obj (a : Addr)
inductive PV where
  | fl (f : FV) | tup (fs : List FV)
inductive MO where
  | list (xs : List PV)
  | inst (cl : Addr) (kd : Nat)
  | adict (es : List (Str × FV))
  | pset (xs : List (Nat × Nat))
structure St where
  loc : List (Option PV)
  mem : List MO

def RF (φ : List Addr) (v : Value) : FV → Prop
  | .none => v = .none
  | .bool b => v = .bool b
  | .int i => ∃ t, v = .int i t
  | .str s => ∃ t, v = .str s t
  | .ref k => ∃ a, φ[k]? = some a ∧ v = .ref a
  | .obj a => v = .ref a
def RFs (φ : List Addr) : List Value → List FV → Prop
  | [], [] => True
  | v :: vs, f :: fs => RF φ v f ∧ RFs φ vs fs
  | _, _ => False
def RV (φ : List Addr) (h : Heap) (v : Value) : PV → Prop
  | .fl f => RF φ v f
  | .tup fs => ∃ a items, v = .ref a ∧ h.IsTuple a items ∧ RFs φ items.toList fs
def RVs (φ : List Addr) (h : Heap) : List Value → List PV → Prop
  | [], [] => True
  | v :: vs, f :: fs => RV φ h v f ∧ RVs φ h vs fs
  | _, _ => False

def Keep (h h' : Heap) : Prop := ∀ a items, h.IsTuple a items → h'.IsTuple a items
theorem Keep.refl (h : Heap) : Keep h h := fun _ _ x => x
theorem Keep.trans {h h' h'' : Heap} (x : Keep h h') (y : Keep h' h'') : Keep h h'' := fun a i z => y a i (x a i z)
theorem Keep.all {h h' : Heap} (hk : ∀ b o, h.get? b = some o → h'.get? b = some o) : Keep h h' := fun _ _ x => x.at fun o e => hk _ o e
theorem Keep.but {h h' : Heap} (P : Addr → Prop) (hk : ∀ b o, ¬ P b → h.get? b = some o → h'.get? b = some o) (hn : ∀ b items, P b → ¬ h.IsTuple b items) : Keep h h' :=
  fun a items x => x.at fun o e => hk a o (fun p => hn a items p x) e

theorem prefix_get {φ φ' : List Addr} (hp : φ <+: φ') {k : Nat} {a : Addr} (e : φ[k]? = some a) : φ'[k]? = some a := by
  obtain ⟨t, rfl⟩ := hp
  rw [List.getElem?_append_left (by exact (List.getElem?_eq_some_iff.mp e).1)]
  exact e

theorem RF.mono {φ φ' : List Addr} (hp : φ <+: φ') {v : Value} {f : FV} (x : RF φ v f) : RF φ' v f := by
  cases f with
  | ref k => obtain ⟨a, e, rfl⟩ := x; exact ⟨a, prefix_get hp e, rfl⟩
  | _ => exact x
theorem RFs.mono {φ φ' : List Addr} (hp : φ <+: φ') : ∀ {vs : List Value} {fs : List FV}, RFs φ vs fs → RFs φ' vs fs
  | [], [], _ => trivial
  | _ :: _, _ :: _, x => ⟨x.1.mono hp, RFs.mono hp x.2⟩
theorem RV.mono {φ φ' : List Addr} {h h' : Heap} (hp : φ <+: φ') (hk : Keep h h') {v : Value} {p : PV} (x : RV φ h v p) : RV φ' h' v p := by
  cases p with
  | fl f => exact RF.mono (f := f) hp x
  | tup fs => obtain ⟨a, items, rfl, ht, hr⟩ := x; exact ⟨a, items, rfl, hk _ _ ht, hr.mono hp⟩
theorem RVs.mono {φ φ' : List Addr} {h h' : Heap} (hp : φ <+: φ') (hk : Keep h h') : ∀ {vs : List Value} {fs : List PV}, RVs φ h vs fs → RVs φ' h' vs fs
  | [], [], _ => trivial
  | _ :: _, _ :: _, x => ⟨x.1.mono hp hk, RVs.mono hp hk x.2⟩
theorem RVs.length {φ : List Addr} {h : Heap} : ∀ {vs : List Value} {fs : List PV}, RVs φ h vs fs → vs.length = fs.length
  | [], [], _ => rfl
  | _ :: _, _ :: _, x => congrArg (· + 1) (RVs.length x.2)
theorem RVs.get {φ : List Addr} {h : Heap} : ∀ {vs : List Value} {fs : List PV}, RVs φ h vs fs → ∀ {i : Nat} {p : PV}, fs[i]? = some p → ∃ v, vs[i]? = some v ∧ RV φ h v p
  | v :: _, _ :: _, x, 0, p, e => ⟨v, rfl, by cases e; exact x.1⟩
  | _ :: vs, _ :: fs, x, i + 1, p, e => RVs.get (vs := vs) (fs := fs) x.2 (by simpa using e)
  | [], [], _, i, p, e => by simp at e
theorem RVs.set {φ : List Addr} {h : Heap} : ∀ {vs : List Value} {fs : List PV}, RVs φ h vs fs → ∀ (i : Nat) {v : Value} {p : PV}, RV φ h v p → RVs φ h (vs.set i v) (fs.set i p)
  | [], [], _, _, _, _, _ => trivial
  | _ :: _, _ :: _, x, 0, _, _, y => ⟨y, x.2⟩
  | _ :: _, _ :: _, x, i + 1, _, _, y => ⟨x.1, RVs.set x.2 i y⟩
theorem RVs.snoc {φ : List Addr} {h : Heap} : ∀ {vs : List Value} {fs : List PV}, RVs φ h vs fs → ∀ {v : Value} {p : PV}, RV φ h v p → RVs φ h (vs ++ [v]) (fs ++ [p])
  | [], [], _, _, _, y => ⟨y, trivial⟩
  | _ :: _, _ :: _, x, _, _, y => ⟨x.1, RVs.snoc x.2 y⟩

/-- an attribute table's entries -/
inductive Ents (φ : List Addr) : List DictEntry → List (Str × FV) → Prop
  | nil : Ents φ [] []
  | cons {e : DictEntry} {es n f fs tk} : e.key = .str n tk → RF φ e.val f → Ents φ es fs → Ents φ (e :: es) ((n, f) :: fs)
theorem Ents.mono {φ φ' : List Addr} (hp : φ <+: φ') {es fs} (x : Ents φ es fs) : Ents φ' es fs := by
  induction x with
  | nil => exact .nil
  | cons hk hv _ ih => exact .cons hk (hv.mono hp) ih

/-- a tuple of two whole numbers -/
def TupI (h : Heap) (i j : Nat) (b : Addr) : Prop := ∃ items t u, h.IsTuple b items ∧ items.toList = [.int (i : Int) t, .int (j : Int) u]
/-- a set of pairs 0..5, without the program -/
structure PS (h : Heap) (a : Addr) (xs : List (Nat × Nat)) (o : Obj) (es : Array (Int × Value)) (ep : Nat) (t : SetTable) : Prop where
  here : h.get? a = some o
  exact : o.ExactSet
  data : o.data = .set es ep t
  tab : TabOk t es
  mask : t.mask = 7 ∨ t.mask = 31 ∨ t.mask = 127
  few : es.size * 5 < t.mask * 3
  ent : ∀ (i : Nat) e, es[i]? = some e → ∃ p ∈ xs, ∃ b, e = (ph p.1 p.2, .ref b) ∧ TupI h p.1 p.2 b
  has : ∀ p ∈ xs, ∃ (i : Nat) (e : Int × Value), es[i]? = some e ∧ e.1 = ph p.1 p.2
  dom : ∀ p ∈ xs, p.1 < 6 ∧ p.2 < 6

def MOAt (φ : List Addr) (h : Heap) (a : Addr) : MO → Prop
  | .list xs => ∃ items, h.PlainList a items ∧ RVs φ h items.toList xs
  | .inst cl kd => ∃ dx, φ[kd]? = some dx ∧ h.get? a = some ⟨.ref cl, some dx, .plain, #[]⟩
  | .adict fs => ∃ es n, h.get? a = some (dictOf es n) ∧ Ents φ es fs
  | .pset xs => ∃ o es ep t, PS h a xs o es ep t

/-- what all own objects have in common -/
theorem MOAt.get {φ : List Addr} {h : Heap} {a : Addr} {mo : MO} (x : MOAt φ h a mo) : ∃ o, h.get? a = some o ∧ (∀ v, o.data ≠ .cell v) ∧ (∀ items, ¬ h.IsTuple a items) := by
  cases mo with
  | list xs =>
    obtain ⟨items, ⟨n, h1⟩, _⟩ := x
    refine ⟨_, h1, fun v e => (nomatch e), fun its => ?_⟩
    rintro ⟨o, ho, hc, _⟩
    rw [h1] at ho; cases ho
    exact absurd (Value.type.inj hc) (by decide)
  | inst cl kd =>
    obtain ⟨dx, _, h1⟩ := x
    refine ⟨_, h1, fun v e => (nomatch e), fun its => ?_⟩
    rintro ⟨o, ho, hc, _⟩
    rw [h1] at ho; cases ho
    cases hc
  | adict fs =>
    obtain ⟨es, n, h1, _⟩ := x
    refine ⟨_, h1, fun v e => (nomatch e), fun its => ?_⟩
    rintro ⟨o, ho, hc, _⟩
    rw [h1] at ho; cases ho
    exact absurd (Value.type.inj hc) (by decide)
  | pset xs =>
    obtain ⟨o, es, ep, t, S⟩ := x
    refine ⟨_, S.here, fun v e => (by rw [S.data] at e; nomatch e), fun its => ?_⟩
    rintro ⟨o', ho, hc, _⟩
    rw [S.here] at ho; cases ho
    rw [S.exact.1] at hc
    exact absurd (Value.type.inj hc) (by decide)

structure Cx where
  prog : Program
  w : World
  A : Around
  env : Env
  names : List Str
  s₀ : Shared
  mg : Str → Option Value
  mb : Str → Option Value
  K : Frag

structure Cx.Ok (C : Cx) : Prop where
  hh : C.A.handled = none
  hd : C.A.depth + 8 < recursionLimit
  hu : C.A.units + 64 < cLine
  hk : C.env.scope.kind = .function
  nodup : C.names.Nodup
  hloc : ∀ x ∈ C.names, C.env.kindOf x = some .local
  hL : C.s₀.heap.get? C.env.locals = none
  g : C.s₀.heap.Ns C.env.globals C.mg
  b : C.s₀.heap.Ns C.env.builtins C.mb
  nolimit : C.s₀.heap.NoLimit
  kin : C.K.In C.s₀.heap

structure Rep (C : Cx) (φ : List Addr) (st : St) (s : Shared) : Prop where
  same : ∃ h tk, s = { C.s₀ with heap := h, toks := tk }
  keep : ∀ b o, C.s₀.heap.get? b = some o → s.heap.get? b = some o
  len : st.loc.length = C.names.length
  loc : ∃ m, s.heap.Ns C.env.locals m ∧ ∀ (k : Nat) x pv, C.names[k]? = some x → st.loc[k]? = some (some pv) → ∃ v, m x = some v ∧ RV φ s.heap v pv
  nd : φ.Nodup
  memlen : φ.length = st.mem.length
  mem : ∀ (k : Nat) mo a, st.mem[k]? = some mo → φ[k]? = some a → MOAt φ s.heap a mo
  fresh : ∀ a ∈ φ, C.s₀.heap.get? a = none ∧ a ≠ C.env.locals

/-- how a heap grows: the own objects (φ) and the locals turn, all else stands -/
structure Ext (C : Cx) (φ : List Addr) (h : Heap) (φ' : List Addr) (h' : Heap) : Prop where
  pre : φ <+: φ'
  tup : Keep h h'
  kept : ∀ b o, b ∉ φ → b ≠ C.env.locals → h.get? b = some o → h'.get? b = some o
  new : ∀ a, a ∈ φ' → a ∉ φ → h.get? a = none ∧ a ≠ C.env.locals
theorem Ext.refl {C : Cx} (φ : List Addr) (h : Heap) : Ext C φ h φ h := ⟨List.prefix_rfl, Keep.refl _, fun _ _ _ _ e => e, fun _ a b => absurd a b⟩
theorem Ext.trans {C : Cx} {φ φ₁ φ₂ : List Addr} {h h₁ h₂ : Heap} (x : Ext C φ h φ₁ h₁) (y : Ext C φ₁ h₁ φ₂ h₂) : Ext C φ h φ₂ h₂ := by
  refine ⟨x.pre.trans y.pre, x.tup.trans y.tup, fun b o h1 h2 e => y.kept b o (fun hb => ?_) h2 (x.kept b o h1 h2 e), fun a h1 h2 => ?_⟩
  · rw [(x.new b hb h1).1] at e; cases e
  · by_cases h3 : a ∈ φ₁
    · exact x.new a h3 h2
    · have := y.new a h1 h3
      refine ⟨?_, this.2⟩
      cases e : h.get? a with
      | none => rfl
      | some o => have := x.kept a o h2 this.2 e; rw [(y.new a h1 h3).1] at this; cases this
theorem Ext.all {C : Cx} {φ : List Addr} {h h' : Heap} (hk : ∀ b o, h.get? b = some o → h'.get? b = some o) : Ext C φ h φ h' := ⟨List.prefix_rfl, Keep.all hk, fun b o _ _ e => hk b o e, fun _ a b => absurd a b⟩

/-- .. and the locals stand too: an expression -/
structure ExtE (C : Cx) (φ : List Addr) (h : Heap) (φ' : List Addr) (h' : Heap) : Prop extends Ext C φ h φ' h' where
  loc : ∀ o, h.get? C.env.locals = some o → h'.get? C.env.locals = some o
theorem ExtE.refl {C : Cx} (φ : List Addr) (h : Heap) : ExtE C φ h φ h := ⟨Ext.refl _ _, fun _ e => e⟩
theorem ExtE.trans {C : Cx} {φ φ₁ φ₂ : List Addr} {h h₁ h₂ : Heap} (x : ExtE C φ h φ₁ h₁) (y : ExtE C φ₁ h₁ φ₂ h₂) : ExtE C φ h φ₂ h₂ := ⟨x.toExt.trans y.toExt, fun o e => y.loc o (x.loc o e)⟩
theorem ExtE.all {C : Cx} {φ : List Addr} {h h' : Heap} (hk : ∀ b o, h.get? b = some o → h'.get? b = some o) : ExtE C φ h φ h' := ⟨Ext.all hk, fun o e => hk _ o e⟩

abbrev Cx.M (C : Cx) : Model := model C.prog C.w
abbrev noE : Value → Shared → Prop := fun _ _ => False

/-- what an evaluation hands on -/
def PostV (C : Cx) (φ : List Addr) (h : Heap) (st : St) (v : PV) : Value → Shared → Prop :=
  fun cv s' => ∃ φ', ExtE C φ h φ' s'.heap ∧ Rep C φ' st s' ∧ RV φ' s'.heap cv v
def PostB (C : Cx) (φ : List Addr) (h : Heap) (st : St) (v : Bool) : Bool → Shared → Prop :=
  fun cv s' => cv = v ∧ ∃ φ', ExtE C φ h φ' s'.heap ∧ Rep C φ' st s'
def PostU (C : Cx) (φ : List Addr) (h : Heap) (st : St) : Unit → Shared → Prop :=
  fun _ s' => ∃ φ', Ext C φ h φ' s'.heap ∧ Rep C φ' st s'
inductive Fl where
  | next | brk | cont | ret (v : PV)
def RFl (φ : List Addr) (h : Heap) : Flow → Fl → Prop
  | .next, .next => True
  | .brk, .brk => True
  | .cont, .cont => True
  | .ret v, .ret p => RV φ h v p
  | _, _ => False
def PostF (C : Cx) (φ : List Addr) (h : Heap) (st : St) (f : Fl) : Flow → Shared → Prop :=
  fun cf s' => ∃ φ', Ext C φ h φ' s'.heap ∧ Rep C φ' st s' ∧ RFl φ' s'.heap cf f

abbrev Mo (α : Type) := St → Option (α × St)

def EvE (C : Cx) (e : Expr) (m : Mo PV) : Prop :=
  ∀ φ st s v st', Rep C φ st s → m st = some (v, st') → wpAny C.M C.A (eval e C.env) (PostV C φ s.heap st' v) noE s
def EvT (C : Cx) (e : Expr) (m : Mo Bool) : Prop :=
  ∀ φ st s v st', Rep C φ st s → m st = some (v, st') → wpAny C.M C.A (isTrue e C.env (eval e C.env)) (PostB C φ s.heap st' v) noE s
def EvS (C : Cx) (x : Stmt) (m : Mo Fl) : Prop :=
  ∀ φ st s f st', Rep C φ st s → m st = some (f, st') → wpAny C.M C.A (exec x C.env) (PostF C φ s.heap st' f) noE s
def EvB (C : Cx) (x : List Stmt) (m : Mo Fl) : Prop :=
  ∀ φ st s f st', Rep C φ st s → m st = some (f, st') → wpAny C.M C.A (execs x C.env) (PostF C φ s.heap st' f) noE s

theorem pre_refl (φ : List Addr) : φ <+: φ := List.prefix_rfl

/-! heap steps that keep a representation -/
theorem Rep.toks {C : Cx} {φ : List Addr} {st : St} {s : Shared} (R : Rep C φ st s) (t : Nat) : Rep C φ st { s with toks := t } :=
  ⟨let ⟨h, _, e⟩ := R.same; ⟨h, t, by rw [e]⟩, R.keep, R.len, R.loc, R.nd, R.memlen, R.mem, R.fresh⟩

theorem MOAt.mono {φ φ' : List Addr} {h h' : Heap} {a : Addr} {mo : MO} (hp : φ <+: φ') (hk : Keep h h') (ha : ∀ o, h.get? a = some o → h'.get? a = some o) (x : MOAt φ h a mo) : MOAt φ' h' a mo := by
  cases mo with
  | list xs => obtain ⟨items, h1, h2⟩ := x; exact ⟨items, h1.at ha, h2.mono hp hk⟩
  | inst cl kd => obtain ⟨dx, h1, h2⟩ := x; exact ⟨dx, prefix_get hp h1, ha _ h2⟩
  | adict fs => obtain ⟨es, n, h1, h2⟩ := x; exact ⟨es, n, ha _ h1, h2.mono hp⟩
  | pset xs =>
    obtain ⟨o, es, ep, t, S⟩ := x
    exact ⟨o, es, ep, t, ha _ S.here, S.exact, S.data, S.tab, S.mask, S.few, fun i e he => let ⟨p, g1, b, g2, its, t, u, g3, g4⟩ := S.ent i e he; ⟨p, g1, b, g2, its, t, u, hk _ _ g3, g4⟩, S.has, S.dom⟩

/-- all that stood stands -/
theorem Rep.kept {C : Cx} {φ : List Addr} {st : St} {s : Shared} (R : Rep C φ st s) {h' : Heap} {tk : Nat} (hk : ∀ b o, s.heap.get? b = some o → h'.get? b = some o) :
    Rep C φ st { s with heap := h', toks := tk } := by
  have K : Keep s.heap h' := Keep.all hk
  refine ⟨let ⟨_, _, e⟩ := R.same; ⟨h', tk, by rw [e]⟩, fun b o e => hk b o (R.keep b o e), R.len, ?_, R.nd, R.memlen, ?_, R.fresh⟩
  · obtain ⟨m, hn, hm⟩ := R.loc
    exact ⟨m, hn.keeps hk, fun k x pv e1 e2 => let ⟨v, e, r⟩ := hm k x pv e1 e2; ⟨v, e, r.mono (pre_refl _) K⟩⟩
  · exact fun k mo a e1 e2 => (R.mem k mo a e1 e2).mono (pre_refl _) K fun o e => hk a o e

theorem ns_notTuple {h : Heap} {a : Addr} {m : Str → Option Value} {items : Array Value} (hn : h.Ns a m) : ¬ h.IsTuple a items := by
  rintro ⟨o, ho, _, n, hd⟩
  obtain ⟨o', es, ep, ho', hd', _⟩ := hn
  rw [ho] at ho'; cases ho'
  rw [hd] at hd'; cases hd'
theorem list_notTuple {h : Heap} {a : Addr} {xs items : Array Value} (hn : h.IsList a xs) : ¬ h.IsTuple a items := by
  rintro ⟨o, ho, hc, _⟩
  obtain ⟨o', ho', hc', _⟩ := hn
  rw [ho] at ho'; cases ho'
  rw [hc] at hc'; exact absurd (Value.type.inj hc') (by decide)

theorem Rep.memAddr {C : Cx} {φ : List Addr} {st : St} {s : Shared} (R : Rep C φ st s) {k : Nat} {a : Addr} (e : φ[k]? = some a) : ∃ mo, st.mem[k]? = some mo := by
  have hk := (List.getElem?_eq_some_iff.mp e).1
  exact ⟨st.mem[k]'(R.memlen ▸ hk), List.getElem?_eq_getElem _⟩

/-- a local is stored -/
theorem Rep.store {C : Cx} {φ : List Addr} {st : St} {s : Shared} (O : C.Ok) (R : Rep C φ st s) {k : Nat} {x : Str} {v : Value} {p : PV} (hx : C.names[k]? = some x) (hv : RV φ s.heap v p)
    {h' : Heap} {tk : Nat} {m : Str → Option Value} (hn : s.heap.Ns C.env.locals m) (hm : ∀ (k : Nat) x pv, C.names[k]? = some x → st.loc[k]? = some (some pv) → ∃ v, m x = some v ∧ RV φ s.heap v pv)
    (hn' : h'.Ns C.env.locals fun y => if y = x then some v else m y) (hs : Heap.SameBut C.env.locals s.heap h') :
    Rep C φ { st with loc := st.loc.set k (some p) } { s with heap := h', toks := tk } ∧ Ext C φ s.heap φ h' := by
  have hk : ∀ b o, b ≠ C.env.locals → s.heap.get? b = some o → h'.get? b = some o := fun b o hb e => hs.extBut b o hb e
  have K : Keep s.heap h' := Keep.but (· = C.env.locals) hk (fun b items hb ht => by subst hb; exact ns_notTuple hn ht)
  refine ⟨⟨let ⟨_, _, e⟩ := R.same; ⟨h', tk, by rw [e]⟩, fun b o e => hk b o (fun hb => by subst hb; rw [O.hL] at e; cases e) (R.keep b o e), by simpa using R.len, ?_, R.nd, R.memlen, ?_, R.fresh⟩, List.prefix_rfl, K, fun b o _ h2 e => hk b o h2 e, fun _ a b => absurd a b⟩
  · refine ⟨_, hn', fun k' x' pv e1 e2 => ?_⟩
    by_cases hkk : k' = k
    · subst hkk
      rw [hx] at e1; cases e1
      have hlt : k' < st.loc.length := by rw [R.len]; exact (List.getElem?_eq_some_iff.mp hx).1
      rw [List.getElem?_set_self hlt] at e2
      cases e2
      exact ⟨v, by simp, hv.mono (pre_refl _) K⟩
    · rw [List.getElem?_set_ne (fun e => hkk e.symm)] at e2
      have hne : x' ≠ x := fun e => by
        subst e
        obtain ⟨l1, g1⟩ := List.getElem?_eq_some_iff.mp e1
        obtain ⟨l2, g2⟩ := List.getElem?_eq_some_iff.mp hx
        exact hkk ((List.getElem_inj O.nodup).mp (g1.trans g2.symm))
      obtain ⟨u, e, r⟩ := hm k' x' pv e1 e2
      exact ⟨u, by simp [hne, e], r.mono (pre_refl _) K⟩
  · exact fun k' mo a e1 e2 => (R.mem k' mo a e1 e2).mono (pre_refl _) K fun o e => hk a o ((R.fresh a (List.mem_of_getElem? e2)).2) e

end Mine

/-! Ref2 -/
namespace Mine

def cst (v : PV) : Mo PV := fun st => some (v, st)
def getL (k : Nat) : Mo PV := fun st => match st.loc[k]? with | some (some v) => some (v, st) | _ => none
def bindM {α β : Type} (m : Mo α) (f : α → Mo β) : Mo β := fun st => match m st with | none => none | some (a, st') => f a st'
def liftO {α : Type} (o : Option α) : Mo α := fun st => match o with | none => none | some a => some (a, st)
theorem bindM_some {α β : Type} {m : Mo α} {f : α → Mo β} {st : St} {r : β × St} (h : bindM m f st = some r) : ∃ a st', m st = some (a, st') ∧ f a st' = some r := by
  unfold bindM at h
  cases e : m st with
  | none => rw [e] at h; cases h
  | some q => rw [e] at h; exact ⟨q.1, q.2, rfl, h⟩
theorem liftO_some {α : Type} {o : Option α} {st : St} {a : α} {st' : St} (h : liftO o st = some (a, st')) : o = some a ∧ st' = st := by
  unfold liftO at h
  cases o with
  | none => cases h
  | some b => cases h; exact ⟨rfl, rfl⟩

/-- post conditions in sequence -/
theorem PostV.trans {C : Cx} {φ φ₁ : List Addr} {h h₁ : Heap} {st : St} {v : PV} {cv : Value} {s : Shared} (X : ExtE C φ h φ₁ h₁) (x : PostV C φ₁ h₁ st v cv s) : PostV C φ h st v cv s :=
  let ⟨φ', a, b⟩ := x; ⟨φ', X.trans a, b⟩
theorem PostB.trans {C : Cx} {φ φ₁ : List Addr} {h h₁ : Heap} {st : St} {v cv : Bool} {s : Shared} (X : ExtE C φ h φ₁ h₁) (x : PostB C φ₁ h₁ st v cv s) : PostB C φ h st v cv s :=
  let ⟨e, φ', a, b⟩ := x; ⟨e, φ', X.trans a, b⟩
theorem PostF.trans {C : Cx} {φ φ₁ : List Addr} {h h₁ : Heap} {st : St} {v : Fl} {cv : Flow} {s : Shared} (X : Ext C φ h φ₁ h₁) (x : PostF C φ₁ h₁ st v cv s) : PostF C φ h st v cv s :=
  let ⟨φ', a, b⟩ := x; ⟨φ', X.trans a, b⟩
theorem PostU.trans {C : Cx} {φ φ₁ : List Addr} {h h₁ : Heap} {st : St} {u : Unit} {s : Shared} (X : Ext C φ h φ₁ h₁) (x : PostU C φ₁ h₁ st u s) : PostU C φ h st u s :=
  let ⟨φ', a, b⟩ := x; ⟨φ', X.trans a, b⟩

/-- a value, nothing but tokens turned -/
theorem PostV.pure {C : Cx} {φ : List Addr} {st : St} {v : PV} {cv : Value} {s : Shared} (R : Rep C φ st s) (hv : RV φ s.heap cv v) (t : Nat) : PostV C φ s.heap st v cv { s with toks := t } :=
  ⟨φ, ExtE.refl _ _, R.toks t, hv⟩

theorem RV.int {φ : List Addr} {h : Heap} {i : Int} {t : Tok} : RV φ h (.int i t) (.fl (.int i)) := ⟨t, rfl⟩
theorem RV.str {φ : List Addr} {h : Heap} {i : Str} {t : Tok} : RV φ h (.str i t) (.fl (.str i)) := ⟨t, rfl⟩
theorem RV.none {φ : List Addr} {h : Heap} : RV φ h .none (.fl .none) := rfl
theorem RV.bool {φ : List Addr} {h : Heap} {b : Bool} : RV φ h (.bool b) (.fl (.bool b)) := rfl
section
variable {C : Cx}

theorem EvE.mk {e : Expr} {m m' : Mo PV} (h : EvE C e m) (em : m = m') : EvE C e m' := em ▸ h

theorem EvE.loc (O : C.Ok) {x : Str} {pos : Pos} {k : Nat} (hx : C.names[k]? = some x) (hd : (x == ("__debug__" : Str)) = false) : EvE C (.Name x pos) (getL k) := by
  intro φ st s v st' R hm
  unfold getL at hm
  split at hm
  · rename_i v' e
    cases hm
    obtain ⟨m, hn, hm⟩ := R.loc
    obtain ⟨u, hu, hr⟩ := hm k x v hx e
    refine wpAny_Name (wpAny_loadName_local O.hk (O.hloc x (List.mem_of_getElem? hx)) hn hu ?_) hd
    exact PostV.pure R hr s.toks
  · cases hm

theorem EvE.int {i : Int} {k pos} : EvE C (.Constant (.int i) k pos) (cst (.fl (.int i))) := by
  intro φ st s v st' R hm
  cases hm
  exact wpAny_Constant_int (PostV.pure R RV.int _)
theorem EvE.noneC {k pos} : EvE C (.Constant .none k pos) (cst (.fl .none)) := by
  intro φ st s v st' R hm
  cases hm
  show wpAny C.M C.A (pure Value.none) _ _ s
  exact wpAny_pure (PostV.pure R RV.none s.toks)
theorem EvE.str {x : Str} {k pos} : EvE C (.Constant (.str x) k pos) (cst (.fl (.str x))) := by
  intro φ st s v st' R hm
  cases hm
  show wpAny C.M C.A (mkText x) _ _ s
  exact wpAny_mkText (PostV.pure R RV.str _)

/-- two values -/
theorem ev2 {l r : Expr} {ml mr : Mo PV} (hl : EvE C l ml) (hr : EvE C r mr) {φ st s} (R : Rep C φ st s) {a b : PV} {st₁ st₂ : St} (h1 : ml st = some (a, st₁)) (h2 : mr st₁ = some (b, st₂))
    {Q : Value → Value → Shared → Prop}
    (k : ∀ φ₂ ca cb s₂, ExtE C φ s.heap φ₂ s₂.heap → Rep C φ₂ st₂ s₂ → RV φ₂ s₂.heap ca a → RV φ₂ s₂.heap cb b → Q ca cb s₂) :
    wpAny C.M C.A (eval l C.env) (fun ca s₁ => wpAny C.M C.A (eval r C.env) (fun cb s₂ => Q ca cb s₂) noE s₁) noE s := by
  refine wpAny_mono (hl φ st s a st₁ R h1) (fun ca s₁ h => ?_) fun _ _ x => x
  obtain ⟨φ₁, X₁, R₁, v₁⟩ := h
  refine wpAny_mono (hr φ₁ st₁ s₁ b st₂ R₁ h2) (fun cb s₂ h => ?_) fun _ _ x => x
  obtain ⟨φ₂, X₂, R₂, v₂⟩ := h
  exact k φ₂ ca cb s₂ (X₁.trans X₂) R₂ (v₁.mono X₂.pre X₂.tup) v₂

def binF : Operator → PV → PV → Option PV
  | .Add, .fl (.int a), .fl (.int b) => some (.fl (.int (a + b)))
  | .Sub, .fl (.int a), .fl (.int b) => some (.fl (.int (a - b)))
  | _, _, _ => none
def binM (op : Operator) (ml mr : Mo PV) : Mo PV := bindM ml fun a => bindM mr fun b => liftO (binF op a b)

theorem binF_ok {op : Operator} {a b c : PV} (hc : binF op a b = some c) {φ : List Addr} {st : St} {s : Shared} (R : Rep C φ st s) {ca cb : Value} (ra : RV φ s.heap ca a) (rb : RV φ s.heap cb b) :
    wpAny C.M C.A (binaryOp op ca cb) (PostV C φ s.heap st c) noE s := by
  unfold binF at hc
  split at hc
  · cases hc; obtain ⟨t, rfl⟩ := ra; obtain ⟨u, rfl⟩ := rb; exact add_int (PostV.pure R RV.int _)
  · cases hc; obtain ⟨t, rfl⟩ := ra; obtain ⟨u, rfl⟩ := rb; exact sub_int (PostV.pure R RV.int _)
  · cases hc

theorem EvE.bin {l r : Expr} {op pos} {ml mr : Mo PV} (hl : EvE C l ml) (hr : EvE C r mr) : EvE C (.BinOp l op r pos) (binM op ml mr) := by
  intro φ st s v st' R hm
  obtain ⟨a, st₁, h1, hm⟩ := bindM_some hm
  obtain ⟨b, st₂, h2, hm⟩ := bindM_some hm
  obtain ⟨hc, rfl⟩ := liftO_some hm
  refine wpAny_BinOp (ev2 hl hr R h1 h2 fun φ₂ ca cb s₂ X₂ R₂ ra rb => ?_)
  exact wpAny_mono (binF_ok hc R₂ ra rb) (fun _ _ x => x.trans X₂) fun _ _ x => x

noncomputable def cmpF : CmpOp → PV → PV → Option Bool
  | .Eq, .fl (.int a), .fl (.int b) => some (a == b)
  | .NotEq, .fl (.int a), .fl (.int b) => some (a != b)
  | .Lt, .fl (.int a), .fl (.int b) => some (pd (a < b))
  | .LtE, .fl (.int a), .fl (.int b) => some (pd (a ≤ b))
  | .Gt, .fl (.int a), .fl (.int b) => some (pd (a > b))
  | .GtE, .fl (.int a), .fl (.int b) => some (pd (a ≥ b))
  | .Eq, .fl (.str a), .fl (.str b) => some (a == b)
  | .NotEq, .fl (.str a), .fl (.str b) => some (a != b)
  | .Is, .fl .none, .fl .none => some true
  | .Is, .fl (.str _), .fl .none => some false
  | _, _, _ => none

theorem cmpF_ok {op : CmpOp} {a b : PV} {c : Bool} (hc : cmpF op a b = some c) {φ : List Addr} {s : Shared} {ca cb : Value} (ra : RV φ s.heap ca a) (rb : RV φ s.heap cb b) {Q : Value → Shared → Prop} (h : Q (.bool c) s) :
    wpAny C.M C.A (compareOp op ca cb) Q noE s := by
  unfold cmpF at hc
  split at hc <;> cases hc
  · obtain ⟨t, rfl⟩ := ra; obtain ⟨u, rfl⟩ := rb; exact eq_int h
  · obtain ⟨t, rfl⟩ := ra; obtain ⟨u, rfl⟩ := rb; exact ne_int h
  · obtain ⟨t, rfl⟩ := ra; obtain ⟨u, rfl⟩ := rb; rw [pd_dec] at h; exact lt_int h
  · obtain ⟨t, rfl⟩ := ra; obtain ⟨u, rfl⟩ := rb; rw [pd_dec] at h; exact le_int h
  · obtain ⟨t, rfl⟩ := ra; obtain ⟨u, rfl⟩ := rb; rw [pd_dec] at h; exact gt_int h
  · obtain ⟨t, rfl⟩ := ra; obtain ⟨u, rfl⟩ := rb; rw [pd_dec] at h; exact ge_int h
  · obtain ⟨t, rfl⟩ := ra; obtain ⟨u, rfl⟩ := rb; exact eq_str h
  · obtain ⟨t, rfl⟩ := ra; obtain ⟨u, rfl⟩ := rb; exact ne_str h
  · cases ra; cases rb; exact wpAny_pure h
  · obtain ⟨t, rfl⟩ := ra; cases rb; exact wpAny_pure h

noncomputable def cmpM (op : CmpOp) (ml mr : Mo PV) : Mo Bool := bindM ml fun a => bindM mr fun b => liftO (cmpF op a b)
def ofB (m : Mo Bool) : Mo PV := bindM m fun b => cst (.fl (.bool b))

theorem EvE.cmp {l r : Expr} {op pos} {ml mr : Mo PV} (hl : EvE C l ml) (hr : EvE C r mr) (hb : behindInMarks op r = false) : EvE C (.Compare l [op] [r] pos) (ofB (cmpM op ml mr)) := by
  intro φ st s v st' R hm
  obtain ⟨c, st₃, hm, e⟩ := bindM_some hm
  cases e
  obtain ⟨a, st₁, h1, hm⟩ := bindM_some hm
  obtain ⟨b, st₂, h2, hm⟩ := bindM_some hm
  obtain ⟨hc, rfl⟩ := liftO_some hm
  refine wpAny_Compare1 (ev2 hl hr R h1 h2 fun φ₂ ca cb s₂ X₂ R₂ ra rb => ?_) hb
  exact cmpF_ok hc ra rb ⟨φ₂, X₂, R₂, rfl⟩

theorem EvT.cmp {l r : Expr} {op pos} {ml mr : Mo PV} (hl : EvE C l ml) (hr : EvE C r mr) (hb : behindInMarks op r = false) : EvT C (.Compare l [op] [r] pos) (cmpM op ml mr) := by
  intro φ st s v st' R hm
  obtain ⟨a, st₁, h1, hm⟩ := bindM_some hm
  obtain ⟨b, st₂, h2, hm⟩ := bindM_some hm
  obtain ⟨hc, rfl⟩ := liftO_some hm
  refine wpAny_isTrue_Compare1 (ev2 hl hr R h1 h2 fun φ₂ ca cb s₂ X₂ R₂ ra rb => ?_) hb
  exact cmpF_ok hc ra rb (wpAny_truthy_bool ⟨rfl, φ₂, X₂, R₂⟩)

/-! and, or as tests -/
def andM : List (Mo Bool) → Mo Bool
  | [] => fun st => some (true, st)
  | m :: r => bindM m fun b => if b then andM r else fun st => some (false, st)
def orM : List (Mo Bool) → Mo Bool
  | [] => fun st => some (false, st)
  | m :: r => bindM m fun b => if b then fun st => some (true, st) else orM r

inductive EvTs (C : Cx) : List Expr → List (Mo Bool) → Prop
  | nil : EvTs C [] []
  | cons {e es m ms} : EvT C e m → EvTs C es ms → EvTs C (e :: es) (m :: ms)

theorem allTrue_and {es : List Expr} {ms : List (Mo Bool)} (h : EvTs C es ms) : ∀ {φ st s v st'}, Rep C φ st s → andM ms st = some (v, st') → wpAny C.M C.A (allTrue .And es C.env) (PostB C φ s.heap st' v) noE s := by
  induction h with
  | nil => intro φ st s v st' R hm; cases hm; exact wpAny_pure ⟨rfl, φ, ExtE.refl _ _, R⟩
  | @cons e es m ms h1 h2 ih =>
    intro φ st s v st' R hm
    obtain ⟨b, st₁, e1, hm⟩ := bindM_some hm
    show wpAny C.M C.A (isTrue e C.env (eval e C.env) >>= fun r => match BoolOp.And, r with | .And, false => pure false | .Or, true => pure true | _, _ => allTrue .And es C.env) _ _ s
    refine wpAny_bind (wpAny_mono (h1 φ st s b st₁ R e1) (fun r s₁ hr => ?_) fun _ _ x => x)
    obtain ⟨rfl, φ₁, X₁, R₁⟩ := hr
    cases r with
    | false => cases hm; exact wpAny_pure ⟨rfl, φ₁, X₁, R₁⟩
    | true => exact wpAny_mono (ih R₁ hm) (fun _ _ x => x.trans X₁) fun _ _ x => x
theorem allTrue_or {es : List Expr} {ms : List (Mo Bool)} (h : EvTs C es ms) : ∀ {φ st s v st'}, Rep C φ st s → orM ms st = some (v, st') → wpAny C.M C.A (allTrue .Or es C.env) (PostB C φ s.heap st' v) noE s := by
  induction h with
  | nil => intro φ st s v st' R hm; cases hm; exact wpAny_pure ⟨rfl, φ, ExtE.refl _ _, R⟩
  | @cons e es m ms h1 h2 ih =>
    intro φ st s v st' R hm
    obtain ⟨b, st₁, e1, hm⟩ := bindM_some hm
    show wpAny C.M C.A (isTrue e C.env (eval e C.env) >>= fun r => match BoolOp.Or, r with | .And, false => pure false | .Or, true => pure true | _, _ => allTrue .Or es C.env) _ _ s
    refine wpAny_bind (wpAny_mono (h1 φ st s b st₁ R e1) (fun r s₁ hr => ?_) fun _ _ x => x)
    obtain ⟨rfl, φ₁, X₁, R₁⟩ := hr
    cases r with
    | true => cases hm; exact wpAny_pure ⟨rfl, φ₁, X₁, R₁⟩
    | false => exact wpAny_mono (ih R₁ hm) (fun _ _ x => x.trans X₁) fun _ _ x => x
theorem EvT.and {es pos ms} (h : EvTs C es ms) : EvT C (.BoolOp .And es pos) (andM ms) := fun _ _ _ _ _ R hm => allTrue_and h R hm
theorem EvT.or {es pos ms} (h : EvTs C es ms) : EvT C (.BoolOp .Or es pos) (orM ms) := fun _ _ _ _ _ R hm => allTrue_or h R hm

def iteM {α : Type} (t : Mo Bool) (a b : Mo α) : Mo α := bindM t fun c => if c then a else b
theorem EvE.ifExp {t a b : Expr} {pos mt ma mb} (ht : EvT C t mt) (ha : EvE C a ma) (hb : EvE C b mb) : EvE C (.IfExp t a b pos) (iteM mt ma mb) := by
  intro φ st s v st' R hm
  obtain ⟨c, st₁, e1, hm⟩ := bindM_some hm
  show wpAny C.M C.A (isTrue t C.env (eval t C.env) >>= fun c => if c then eval a C.env else eval b C.env) _ _ s
  refine wpAny_bind (wpAny_mono (ht φ st s c st₁ R e1) (fun r s₁ hr => ?_) fun _ _ x => x)
  obtain ⟨rfl, φ₁, X₁, R₁⟩ := hr
  cases r with
  | true => exact wpAny_mono (ha _ _ _ _ _ R₁ hm) (fun _ _ x => x.trans X₁) fun _ _ x => x
  | false => exact wpAny_mono (hb _ _ _ _ _ R₁ hm) (fun _ _ x => x.trans X₁) fun _ _ x => x

theorem EvE.neg {i : Int} {k p pos} : EvE C (.UnaryOp .USub (.Constant (.int i) k p) pos) (cst (.fl (.int (-i)))) := by
  intro φ st s v st' R hm
  cases hm
  show wpAny C.M C.A (eval (.Constant (.int i) k p) C.env >>= fun v => (do standAt pos; holding [v] (unaryOp .USub v))) _ _ s
  refine wpAny_bind (wpAny_Constant_int (wpAny_bind (wpAny_standAt (wpAny_holding (neg_int ?_)))))
  exact (PostV.pure R RV.int _)
end
end Mine

/-! Ref3 -/
namespace Mine
section
variable {C : Cx}

/-! subscripts -/
noncomputable def subF (st : St) : PV → PV → Option PV
  | .fl (.str s), .fl (.int i) => if pd (0 ≤ i ∧ i < 2 ^ 62) = true then (s.cps[i.toNat]?).map fun c => .fl (.str ⟨#[c]⟩) else none
  | .fl (.ref k), .fl (.int i) => if pd (0 ≤ i ∧ i < 2 ^ 62) = true then (match st.mem[k]? with | some (.list xs) => xs[i.toNat]? | _ => none) else none
  | _, _ => none
noncomputable def subM (mv mi : Mo PV) : Mo PV := bindM mv fun a => bindM mi fun b => fun st => (subF st a b).map (·, st)

theorem Rep.listAt {φ : List Addr} {st : St} {s : Shared} (R : Rep C φ st s) {k : Nat} {a : Addr} {xs : List PV} (hm : st.mem[k]? = some (.list xs)) (ha : φ[k]? = some a) :
    ∃ items, s.heap.PlainList a items ∧ RVs φ s.heap items.toList xs := R.mem k _ a hm ha

theorem EvE.sub {v i : Expr} {pos} {mv mi : Mo PV} (hv : EvE C v mv) (hi : EvE C i mi) (hs : ∀ o x, subscripted i false o x = operate [o, x] (getItem o x)) : EvE C (.Subscript v i pos) (subM mv mi) := by
  intro φ st s r st' R hm
  obtain ⟨a, st₁, h1, hm⟩ := bindM_some hm
  obtain ⟨b, st₂, h2, hm⟩ := bindM_some hm
  obtain ⟨c, hc, e⟩ := Option.map_eq_some_iff.mp hm
  cases e
  refine Subscript_ (ev2 hv hi R h1 h2 fun φ₂ ca cb s₂ X₂ R₂ ra rb => ?_)
  unfold subF at hc
  split at hc
  · obtain ⟨t, rfl⟩ := ra; obtain ⟨u, rfl⟩ := rb
    rename_i x j _
    split at hc
    · rename_i hj
      have hj := pd_of hj
      obtain ⟨c, hcc, e⟩ := Option.map_eq_some_iff.mp hc
      cases e
      refine tail_any (typeIs_str s₂ x t) F.slot_str_getitem.lookup (P.getItem_str (c := c) ?_ ?_ ?_) (hs _ _)
      · simp only [Bool.or_eq_false_iff, decide_eq_false_iff_not]; omega
      · have hl : j.toNat < x.length := (Array.getElem?_eq_some_iff.mp hcc).1
        have : seqIndex? j x.length = some j.toNat := by
          unfold seqIndex?
          have h1 : ¬ j < 0 := by omega
          have h3 : j < (x.length : Int) := by omega
          simp [h1, hj.1, h3]
        rw [this]; exact hcc
      · exact ⟨φ₂, X₂, R₂.toks _, RV.str⟩
    · cases hc
  · obtain ⟨A, hA, rfl⟩ := ra; obtain ⟨u, rfl⟩ := rb
    rename_i k j _
    split at hc
    · rename_i hj
      have hj := pd_of hj
      split at hc
      · rename_i xs hmem
        obtain ⟨items, hl, hr⟩ := R₂.listAt hmem hA
        obtain ⟨cv, hcv, hrv⟩ := hr.get hc
        refine tail_any hl.isList.typeIs slot_list_getitem.lookup (wpAny_getItem_list hl.isList hj.1 (by omega) (x := cv) (by simpa using hcv) ?_) (hs _ _)
        exact ⟨φ₂, X₂, R₂, hrv⟩
      · cases hc
    · cases hc
  · cases hc

/-! several values -/
inductive EvEs (C : Cx) : List Expr → List (Mo PV) → Prop
  | nil : EvEs C [] []
  | cons {e es m ms} : EvE C e m → (starEach (e :: es) C.env = (false, eval e C.env) :: starEach es C.env) → EvEs C es ms → EvEs C (e :: es) (m :: ms)
def seqM : List (Mo PV) → Mo (List PV)
  | [] => fun st => some ([], st)
  | m :: ms => bindM m fun v => bindM (seqM ms) fun vs => fun st => some (v :: vs, st)
def PostVs (C : Cx) (φ : List Addr) (h : Heap) (st : St) (v : List PV) : List Value → Shared → Prop :=
  fun cv s' => ∃ φ', ExtE C φ h φ' s'.heap ∧ Rep C φ' st s' ∧ RVs φ' s'.heap cv v
theorem evs_spliced {es : List Expr} {ms : List (Mo PV)} (h : EvEs C es ms) (pos : Pos) : ∀ {φ st s vs st'}, Rep C φ st s → seqM ms st = some (vs, st') →
    wpAny C.M C.A (spliced (backTo pos (starEach es C.env))) (PostVs C φ s.heap st' vs) noE s := by
  induction h with
  | nil => intro φ st s vs st' R hm; cases hm; exact wpAny_pure ⟨φ, ExtE.refl _ _, R, trivial⟩
  | @cons e es m ms h1 hs h2 ih =>
    intro φ st s vs st' R hm
    obtain ⟨v, st₁, e1, hm⟩ := bindM_some hm
    obtain ⟨vs', st₂, e2, hm⟩ := bindM_some hm
    cases hm
    rw [hs]
    refine Calls.spliced_cons (wpAny_mono (h1 φ st s v st₁ R e1) (fun cv s₁ h => ?_) fun _ _ x => x)
    obtain ⟨φ₁, X₁, R₁, v₁⟩ := h
    refine wpAny_mono (ih R₁ e2) (fun cvs s₂ h => ?_) fun _ _ x => x
    obtain ⟨φ₂, X₂, R₂, v₂⟩ := h
    exact ⟨φ₂, X₁.trans X₂, R₂, v₁.mono X₂.pre X₂.tup, v₂⟩

def flatL : List PV → Option (List FV)
  | [] => some []
  | .fl f :: r => (flatL r).map (f :: ·)
  | .tup _ :: _ => none
theorem flatL_ok {φ : List Addr} {h : Heap} : ∀ {cvs : List Value} {vs : List PV} {fs : List FV}, RVs φ h cvs vs → flatL vs = some fs → RFs φ cvs fs
  | [], [], _, _, e => by cases e; exact trivial
  | _ :: _, .fl f :: r, fs, x, e => by
    obtain ⟨fs', e', rfl⟩ := Option.map_eq_some_iff.mp e
    exact ⟨x.1, flatL_ok x.2 e'⟩
  | _ :: _, .tup _ :: _, _, _, e => by cases e

theorem Rep.push {φ : List Addr} {st : St} {s : Shared} (R : Rep C φ st s) (o : Obj) : Rep C φ st { s with heap := s.heap.push o } :=
  R.kept (tk := s.toks) fun _ _ e => Heap.get?_push_of_some _ e

def tupM (ms : List (Mo PV)) : Mo PV := bindM (seqM ms) fun vs => liftO (if vs.length ≤ 100 then (flatL vs).map .tup else none)
theorem EvE.tuple {es : List Expr} {k pos ms} (h : EvEs C es ms) : EvE C (.Tuple es k pos) (tupM ms) := by
  intro φ st s r st' R hm
  obtain ⟨vs, st₁, e1, hm⟩ := bindM_some hm
  obtain ⟨e, rfl⟩ := liftO_some hm
  split at e
  · rename_i hl
    obtain ⟨fs, hf, rfl⟩ := Option.map_eq_some_iff.mp e
    refine Tuple_ (wpAny_mono (evs_spliced h pos R e1) (fun cvs s₁ h => ?_) fun _ _ x => x)
    obtain ⟨φ₁, X₁, R₁, v₁⟩ := h
    have hlen := v₁.length
    unfold newTuple
    refine wpAny_newObj_type ?_ (by show cvs.toArray.size ≤ sizeLine; rw [List.size_toArray, sizeLine_eq]; omega)
    refine ⟨φ₁, X₁.trans (ExtE.all fun _ _ e => Heap.get?_push_of_some _ e), R₁.push _, _, cvs.toArray, rfl, ⟨_, Heap.get?_push_size _ rfl, rfl, 0, rfl⟩, ?_⟩
    simpa using flatL_ok v₁ hf
  · cases e

/-- a new object of the abstract memory -/
theorem Rep.alloc {φ : List Addr} {st : St} {s : Shared} (R : Rep C φ st s) {o : Obj} {mo : MO}
    (hmo : ∀ φ', φ <+: φ' → MOAt φ' (s.heap.push o) s.heap.objs.size mo) :
    Rep C (φ ++ [s.heap.objs.size]) { st with mem := st.mem ++ [mo] } { s with heap := s.heap.push o } ∧ ExtE C φ s.heap (φ ++ [s.heap.objs.size]) (s.heap.push o) := by
  have hp : φ <+: φ ++ [s.heap.objs.size] := List.prefix_append ..
  have K : Keep s.heap (s.heap.push o) := Keep.all fun _ _ e => Heap.get?_push_of_some _ e
  have hlt : ∀ a ∈ φ, a < s.heap.objs.size := fun a ha => by
    obtain ⟨k, hk, e⟩ := List.getElem_of_mem ha
    have e' : φ[k]? = some a := by rw [List.getElem?_eq_getElem hk, e]
    obtain ⟨mo, hmo⟩ := R.memAddr e'
    obtain ⟨o, ho, _⟩ := (R.mem k mo a hmo e').get
    exact Heap.lt_size ho
  have hL : C.env.locals < s.heap.objs.size := by obtain ⟨m, hn, _⟩ := R.loc; exact hn.lt
  have X : ExtE C φ s.heap (φ ++ [s.heap.objs.size]) (s.heap.push o) := by
    refine ⟨⟨hp, K, fun b o _ _ e => Heap.get?_push_of_some _ e, fun a h1 h2 => ?_⟩, fun o e => Heap.get?_push_of_some _ e⟩
    rcases List.mem_append.mp h1 with h1 | h1
    · exact absurd h1 h2
    · rw [List.mem_singleton.mp h1]
      refine ⟨?_, Ne.symm (Nat.ne_of_lt hL)⟩
      cases e : s.heap.get? s.heap.objs.size with
      | none => rfl
      | some o' => exact absurd (Heap.lt_size e) (Nat.lt_irrefl _)
  refine ⟨⟨let ⟨_, tk, e⟩ := R.same; ⟨_, tk, by rw [e]⟩, fun b o e => Heap.get?_push_of_some _ (R.keep b o e), R.len, ?_, ?_, by simp [R.memlen], ?_, ?_⟩, X⟩
  · obtain ⟨m, hn, hm⟩ := R.loc
    exact ⟨m, hn.push _, fun k x pv e1 e2 => let ⟨v, e, r⟩ := hm k x pv e1 e2; ⟨v, e, r.mono hp K⟩⟩
  · refine List.nodup_append.mpr ⟨R.nd, by simp, fun a ha b hb => ?_⟩
    rw [List.mem_singleton.mp hb]
    exact Nat.ne_of_lt (hlt a ha)
  · intro k mo' a e1 e2
    by_cases hk : k < φ.length
    · rw [List.getElem?_append_left hk] at e2
      rw [List.getElem?_append_left (by rw [← R.memlen]; exact hk)] at e1
      exact (R.mem k mo' a e1 e2).mono hp K fun o e => Heap.get?_push_of_some _ e
    · have hk2 : k = φ.length := by
        have := (List.getElem?_eq_some_iff.mp e2).1
        simp at this; omega
      subst hk2
      rw [List.getElem?_append_right (Nat.le_refl _)] at e2
      rw [R.memlen, List.getElem?_append_right (Nat.le_refl _)] at e1
      simp at e1 e2
      subst e1; subst e2
      exact hmo _ hp
  · intro a ha
    rcases List.mem_append.mp ha with ha | ha
    · exact R.fresh a ha
    · rw [List.mem_singleton.mp ha]
      refine ⟨?_, Ne.symm (Nat.ne_of_lt hL)⟩
      cases e : C.s₀.heap.get? s.heap.objs.size with
      | none => rfl
      | some o' => exact absurd (Heap.lt_size (R.keep _ _ e)) (Nat.lt_irrefl _)

def newL (vs : List PV) : Mo PV := fun st => some (.fl (.ref st.mem.length), { st with mem := st.mem ++ [.list vs] })
def listM (ms : List (Mo PV)) : Mo PV := bindM (seqM ms) fun vs => if vs.length ≤ 100 then newL vs else fun _ => none
theorem EvE.list {es : List Expr} {pos ms} (h : EvEs C es ms) : EvE C (.List es pos) (listM ms) := by
  intro φ st s r st' R hm
  obtain ⟨vs, st₁, e1, hm⟩ := bindM_some hm
  split at hm
  · rename_i hl
    cases hm
    refine List_ (wpAny_mono (evs_spliced h pos R e1) (fun cvs s₁ h => ?_) fun _ _ x => x)
    obtain ⟨φ₁, X₁, R₁, v₁⟩ := h
    have hlen := v₁.length
    unfold newList
    refine wpAny_newObj_type ?_ (by show cvs.toArray.size ≤ sizeLine; rw [List.size_toArray, sizeLine_eq]; omega)
    have K : Keep s₁.heap (s₁.heap.push { cls := .type "list", data := .seq cvs.toArray }) := Keep.all fun _ _ e => Heap.get?_push_of_some _ e
    have W := R₁.alloc (o := { cls := .type "list", data := .seq cvs.toArray }) (mo := .list vs) fun φ' hp => ⟨cvs.toArray, ⟨0, Heap.get?_push_size _ rfl⟩, by simpa using v₁.mono hp K⟩
    refine ⟨φ₁ ++ [s₁.heap.objs.size], X₁.trans W.2, W.1, _, ?_, rfl⟩
    rw [← R₁.memlen]; simp
  · cases hm

/-! calls of built-in functions -/
theorem abs_e (a : Int) : (if a < 0 then -a else a) = (a.natAbs : Int) := by split <;> omega
theorem RV_min {φ : List Addr} {h : Heap} {a b : Int} {t u : Tok} : RV φ h (if b < a then .int b u else .int a t) (.fl (.int (min a b))) := by
  by_cases hba : b < a
  · have e : min a b = b := by omega
    rw [if_pos hba, e]; exact RV.int
  · have e : min a b = a := by omega
    rw [if_neg hba, e]; exact RV.int
noncomputable def bltF (st : St) : String → List PV → Option PV
  | "len", [.fl (.str x)] => if pd (x.length < 2 ^ 62) = true then some (.fl (.int x.length)) else none
  | "len", [.fl (.ref k)] => (match st.mem[k]? with | some (.list xs) => if pd (xs.length < 2 ^ 62) = true then some (.fl (.int xs.length)) else none | _ => none)
  | "abs", [.fl (.int a)] => some (.fl (.int a.natAbs))
  | "min", [.fl (.int a), .fl (.int b)] => some (.fl (.int (min a b)))
  | _, _ => none
theorem bltF_ok (O : C.Ok) {id : String} {vs : List PV} {c : PV} {st : St} (hc : bltF st id vs = some c) {φ : List Addr} {s : Shared} (R : Rep C φ st s) {cvs : List Value} (r : RVs φ s.heap cvs vs) :
    wpAny C.M C.A (call (.builtin id) cvs) (PostV C φ s.heap st c) noE s := by
  unfold bltF at hc
  split at hc
  · match cvs, r with
    | [_], ⟨⟨t, rfl⟩, _⟩ =>
      split at hc
      · rename_i hx
        have hx := pd_of hx
        cases hc
        exact P.len_str (by omega) (PostV.pure R RV.int _)
      · cases hc
  · match cvs, r with
    | [_], ⟨⟨a, ha, rfl⟩, _⟩ =>
      split at hc
      · rename_i xs hmem
        split at hc
        · rename_i hx
          have hx := pd_of hx
          cases hc
          obtain ⟨items, hl, hr⟩ := R.listAt hmem ha
          have hlen := hr.length
          have hsz : items.size = xs.length := by simpa using hlen
          refine Calls.call_len_list hl.isList (by omega) ?_
          rw [hsz]; exact PostV.pure R RV.int _
        · cases hc
      · cases hc
  · match cvs, r with
    | [_], ⟨⟨t, rfl⟩, _⟩ =>
      cases hc
      refine call_abs_int fun u tk => ?_
      rw [abs_e]; exact PostV.pure R RV.int _
  · match cvs, r with
    | [_, _], ⟨⟨t, rfl⟩, ⟨u, rfl⟩, _⟩ =>
      cases hc
      exact min_two_ints O.hh fun h' tk hk => ⟨φ, ExtE.all hk, R.kept hk, RV_min⟩
  · cases hc

noncomputable def bltM (id : String) (ms : List (Mo PV)) : Mo PV := bindM (seqM ms) fun vs => fun st => (bltF st id vs).map (·, st)

/-- a name of the built-ins -/
structure IsBuiltin (C : Cx) (x : Str) (v : Value) : Prop where
  kind : C.env.kindOf x = some .globalImplicit
  miss : C.mg x = none
  has : C.mb x = some v
structure IsGlobal (C : Cx) (x : Str) (v : Value) : Prop where
  kind : C.env.kindOf x = some .globalImplicit
  has : C.mg x = some v
theorem IsBuiltin.eval (O : C.Ok) {x : Str} {v : Value} (B : IsBuiltin C x v) {pos : Pos} {φ st s} (R : Rep C φ st s) (hd : (x == ("__debug__" : Str)) = false) {Q : Value → Shared → Prop} (h : Q v s) :
    wpAny C.M C.A (eval (.Name x pos) C.env) Q noE s :=
  Calls.Name_function_global O.hk B.kind (Calls.loadGlobal_builtin (O.g.keeps R.keep) B.miss (O.b.keeps R.keep) B.has h) hd
theorem IsGlobal.eval (O : C.Ok) {x : Str} {v : Value} (B : IsGlobal C x v) {pos : Pos} {φ st s} (R : Rep C φ st s) (hd : (x == ("__debug__" : Str)) = false) {Q : Value → Shared → Prop} (h : Q v s) :
    wpAny C.M C.A (eval (.Name x pos) C.env) Q noE s :=
  Calls.Name_function_global O.hk B.kind (Calls.loadGlobal_global (O.g.keeps R.keep) B.has h) hd

theorem noStar {es : List Expr} {ms : List (Mo PV)} (h : EvEs C es ms) (pos : Pos) : (backTo pos (starEach es C.env)).any (·.1) = false := by
  induction h with
  | nil => rfl
  | cons _ hs _ ih => rw [hs]; exact ih

theorem evalArgs_some {es : List Expr} {ms : List (Mo PV)} (h : EvEs C es ms) (hne : es ≠ []) (f : Value) (pos : Pos) {Q : Args → Shared → Prop} {s : Shared}
    (k : wpAny C.M C.A (spliced (backTo pos (starEach es C.env))) (fun vs s' => Q ⟨vs, []⟩ s') noE s) : wpAny C.M C.A (evalArgs f true (backTo pos (starEach es C.env)) []) Q noE s := by
  cases h with
  | nil => exact absurd rfl hne
  | cons _ hs _ => rw [hs] at k ⊢; exact Calls.evalArgs_plain k

theorem EvE.blt (O : C.Ok) {x : Str} {id : String} {p pos : Pos} {es : List Expr} {ms : List (Mo PV)} (B : IsBuiltin C x (.builtin id)) (hd : (x == ("__debug__" : Str)) = false) (h : EvEs C es ms) (hne : es ≠ []) :
    EvE C (.Call (.Name x p) es [] pos) (bltM id ms) := by
  intro φ st s r st' R hm
  obtain ⟨vs, st₁, e1, hm⟩ := bindM_some hm
  obtain ⟨c, hc, e⟩ := Option.map_eq_some_iff.mp hm
  cases e
  refine wpAny_Call_NameR (B.eval O R hd ?_)
  refine Calls.callWith_builtin (noStar h pos) (evalArgs_some h hne _ pos (wpAny_mono (evs_spliced h pos R e1) (fun cvs s₁ h => ?_) fun _ _ x => x))
  obtain ⟨φ₁, X₁, R₁, v₁⟩ := h
  exact wpAny_mono (bltF_ok O hc R₁ v₁) (fun _ _ x => x.trans X₁) fun _ _ x => x
end
end Mine

/-! Ref4 -/
namespace Mine
section
variable {C : Cx}

theorem Cx.Ok.pl (O : C.Ok) : (C.env.scope.kind == ScopeKind.class || C.env.scope.kind == ScopeKind.module && C.env.locals != C.env.globals) = false := by rw [O.hk]; rfl

/-! stores -/
def setL (k : Nat) (v : PV) : Mo Unit := fun st => some ((), { st with loc := st.loc.set k (some v) })
theorem store_ok (O : C.Ok) {k : Nat} {x : Str} (hx : C.names[k]? = some x) {φ : List Addr} {st : St} {s : Shared} (R : Rep C φ st s) {cv : Value} {v : PV} (hv : RV φ s.heap cv v) :
    wpAny C.M C.A (storeName C.env x cv) (PostU C φ s.heap { st with loc := st.loc.set k (some v) }) noE s := by
  obtain ⟨m, hn, hm⟩ := R.loc
  refine wpAny_storeName_local (O.hloc x (List.mem_of_getElem? hx)) hn (fun h' hn' hs => ?_) O.pl
  have W := R.store O (tk := s.toks + 1) hx hv hn hm hn' hs
  exact ⟨φ, W.2, W.1⟩

def EvTg (C : Cx) (t : Expr) (f : PV → Mo Unit) : Prop :=
  ∀ φ st s cv v st', Rep C φ st s → RV φ s.heap cv v → f v st = some ((), st') → wpAny C.M C.A (assign t C.env cv) (PostU C φ s.heap st') noE s
theorem EvTg.name (O : C.Ok) {x : Str} {pos : Pos} {k : Nat} (hx : C.names[k]? = some x) : EvTg C (.Name x pos) (setL k) := by
  intro φ st s cv v st' R hv hm
  cases hm
  exact wpAny_assign_Name (store_ok O hx R hv)

def setMem (k : Nat) (mo : MO) (st : St) : St := { st with mem := st.mem.set k mo }
/-- an own object turns -/
theorem Rep.update {φ : List Addr} {st : St} {s : Shared} (R : Rep C φ st s) {k : Nat} {a : Addr} {mo : MO} (ha : φ[k]? = some a) {h' : Heap} {tk : Nat} (hs : Heap.SameBut a s.heap h')
    (hnt : ∀ items, ¬ s.heap.IsTuple a items) (hmo : Keep s.heap h' → MOAt φ h' a mo) : Rep C φ (setMem k mo st) { s with heap := h', toks := tk } ∧ Ext C φ s.heap φ h' := by
  have hf := R.fresh a (List.mem_of_getElem? ha)
  have hk : ∀ b o, b ≠ a → s.heap.get? b = some o → h'.get? b = some o := fun b o hb e => hs.extBut b o hb e
  have K : Keep s.heap h' := Keep.but (· = a) hk (fun b items hb => by subst hb; exact hnt items)
  refine ⟨⟨let ⟨_, _, e⟩ := R.same; ⟨h', tk, by rw [e]⟩, fun b o e => hk b o (fun hb => by subst hb; rw [hf.1] at e; cases e) (R.keep b o e), R.len, ?_, R.nd, by simp [setMem, R.memlen], ?_, R.fresh⟩,
    List.prefix_rfl, K, fun b o h1 _ e => hk b o (fun hb => h1 (by subst hb; exact List.mem_of_getElem? ha)) e, fun _ x y => absurd x y⟩
  · obtain ⟨m, hn, hm⟩ := R.loc
    exact ⟨m, hn.sameBut hs (Ne.symm hf.2), fun k x pv e1 e2 => let ⟨v, e, r⟩ := hm k x pv e1 e2; ⟨v, e, r.mono (pre_refl _) K⟩⟩
  · intro k' mo' a' e1 e2
    by_cases hkk : k' = k
    · subst hkk
      rw [ha] at e2; cases e2
      have hlt : k' < st.mem.length := by rw [← R.memlen]; exact (List.getElem?_eq_some_iff.mp ha).1
      simp only [setMem, List.getElem?_set_self hlt] at e1
      cases e1
      exact hmo K
    · simp only [setMem] at e1
      rw [List.getElem?_set_ne (fun e => hkk e.symm)] at e1
      have hne : a' ≠ a := fun e => by
        subst e
        obtain ⟨l1, g1⟩ := List.getElem?_eq_some_iff.mp e2
        obtain ⟨l2, g2⟩ := List.getElem?_eq_some_iff.mp ha
        exact hkk ((List.getElem_inj R.nd).mp (g1.trans g2.symm))
      exact (R.mem k' mo' a' e1 e2).mono (pre_refl _) K fun o e => hk a' o hne e

noncomputable def setItemF (v : PV) : PV → PV → St → Option St
  | .fl (.ref k), .fl (.int i), st => if pd (0 ≤ i ∧ i < 2 ^ 62) = true then (match st.mem[k]? with | some (.list xs) => if i < xs.length then some (setMem k (.list (xs.set i.toNat v)) st) else none | _ => none) else none
  | _, _, _ => none
noncomputable def setItemM (mo mi : Mo PV) (v : PV) : Mo Unit := bindM mo fun a => bindM mi fun b => fun st => (setItemF v a b st).map ((), ·)

/-- one place of a plain list is written: the list stays plain -/
theorem setItem_plain {prog : Program} {w : World} {A : Around} {E : Value → Shared → Prop} {s : Shared} {l : Addr} {items : Array Value} {k : Int} {t : Tok} {v : Value} {Q : Unit → Shared → Prop} (hl : s.heap.PlainList l items)
    (h0 : 0 ≤ k) (hfit : k < 2 ^ 62) (hn : k < items.size)
    (hQ : ∀ h', h'.PlainList l (items.setIfInBounds k.toNat v) → Heap.SameBut l s.heap h' → Q () { s with heap := h' }) :
    wpAny (model prog w) A (setItem (.ref l) (.int k t) v) Q E s := by
  have T : s.TypeIs (.ref l) "list" := hl.isList.typeIs
  have fits := fitsIndex_of h0 (show k < 2 ^ 63 by omega)
  obtain ⟨n, ho⟩ := hl
  -- what the heap holds afterwards, for the place as a natural number
  have after : ∀ j : Nat, (s.heap.update l (Obj.mapSeq (·.setIfInBounds j v))).get? l = some { cls := .type "list", data := .seq (items.setIfInBounds j v) n } := fun j => by
    have e : Obj.mapSeq (·.setIfInBounds j v) { cls := .type "list", data := .seq items n } = { cls := .type "list", data := .seq (items.setIfInBounds j v) n } := by simp [Obj.mapSeq]
    rw [Heap.get?_update_self _ ho (by rw [e]; rfl), e]
  have done : ∀ j : Nat, k.toNat = j → Q () { s with heap := s.heap.update l (Obj.mapSeq (·.setIfInBounds j v)) } := fun j e => hQ _ ⟨n, by rw [e]; exact after j⟩ (Heap.SameBut.update ..)
  unfold setItem
  refine wpAny_holding (wpAny_bind (wpAny_sequenceKey T (by decide) (wpAny_bind (wpAny_callSpecial?_slot (name := Str.ofString "__setitem__") T slot_list_setitem
    (wpAny_call_entry slot_list_setitem T entry_list_setitem ?_ (args_list_setitem _ _ _))))))
  show wpAny _ _ (Builtin.List.listSubscript? (.int k t) >>= _) _ _ s
  refine wpAny_bind (wpAny_listSubscript_int fits ?_)
  clear fits hfit
  obtain ⟨j, rfl⟩ := Int.eq_ofNat_of_zero_le h0
  have within : j < items.size := by omega
  show wpAny _ _ ((seqItemAt l j >>= fun r => pure (r.map (j, ·))) >>= _) _ _ s
  refine wpAny_bind (wpAny_bind (wpAny_seqItemAt ho rfl (wpAny_pure ?_)))
  rw [show items[j]? = some items[j] from Array.getElem?_eq_getElem within]
  show wpAny _ _ (setSeqItemAt l j v >>= _) _ _ s
  refine wpAny_bind (wpAny_setSeqItemAt ho rfl ?_)
  have fin := done j rfl
  first
    | exact wpAny_pure ⟨.none, rfl, wpAny_pure fin⟩
    | exact wpAny_bind (wpAny_pure (wpAny_pure ⟨.none, rfl, wpAny_pure fin⟩))

theorem wpAny_release {M : Model} {A : Around} {E : Value → Shared → Prop} {s : Shared} {vs keep : List Value} {Q : Unit → Shared → Prop} (h : Q () s) : wpAny M A (release vs keep) Q E s :=
  fun Γ p _ => by rw [Sem.wp_release]; exact h

theorem EvTg.sub {o i : Expr} {pos : Pos} {mo mi : Mo PV} (ho : EvE C o mo) (hi : EvE C i mi) : EvTg C (.Subscript o i pos) (setItemM mo mi) := by
  intro φ st s cv v st' R hv hm
  obtain ⟨a, st₁, h1, hm⟩ := bindM_some hm
  obtain ⟨b, st₂, h2, hm⟩ := bindM_some hm
  obtain ⟨st₃, hc, e⟩ := Option.map_eq_some_iff.mp hm
  cases e
  rw [arm_assign_Subscript]
  refine wpAny_bind (wpAny_holding (wpAny_mono (ho φ st s a st₁ R h1) (fun ca s₁ h => ?_) fun _ _ x => x))
  obtain ⟨φ₁, X₁, R₁, v₁⟩ := h
  refine wpAny_bind (wpAny_holding (wpAny_mono (hi φ₁ st₁ s₁ b st₂ R₁ h2) (fun cb s₂ h => ?_) fun _ _ x => x))
  obtain ⟨φ₂, X₂, R₂, v₂⟩ := h
  have v₁' := v₁.mono X₂.pre X₂.tup
  have hv' := hv.mono (X₁.trans X₂).pre (X₁.trans X₂).tup
  unfold setItemF at hc
  split at hc
  · obtain ⟨A, hA, rfl⟩ := v₁'; obtain ⟨u, rfl⟩ := v₂
    split at hc
    · rename_i hj
      have hj := pd_of hj
      split at hc
      · rename_i xs hmem
        split at hc
        · rename_i hlt
          cases hc
          obtain ⟨items, hl, hr⟩ := R₂.listAt hmem hA
          have hlen := hr.length
          have hsz : items.size = xs.length := by simpa using hlen
          refine wpAny_bind (wpAny_standAt (wpAny_bind (wpAny_holding (setItem_plain hl hj.1 hj.2 (by omega) fun h' hl' hs' => wpAny_release ?_))))
          have W := R₂.update (tk := s₂.toks) hA hs' (fun items => list_notTuple hl.isList) (mo := .list (xs.set _ v)) fun K => ⟨_, hl', by
            rw [Array.toList_setIfInBounds]
            exact (hr.mono (pre_refl _) K).set _ (hv'.mono (pre_refl _) K)⟩
          exact ⟨φ₂, (X₁.trans X₂).toExt.trans W.2, W.1⟩
        · cases hc
      · cases hc
    · cases hc
  · cases hc

/-! assignments -/
def asg1 (m : Mo PV) (f : PV → Mo Unit) : Mo Fl := bindM m fun v => bindM (f v) fun _ st => some (.next, st)
def asg2 (m : Mo PV) (f g : PV → Mo Unit) : Mo Fl := bindM m fun v => bindM (f v) fun _ => bindM (g v) fun _ st => some (.next, st)

theorem assignOne {t value : Expr} {pos : Pos} {Q : Flow → Shared → Prop} {E : Value → Shared → Prop} {s : Shared} {M : Model} {A : Around} {env : Env}
    (h : wpAny M A (eval value env) (fun v s₁ => wpAny M A (assign t env v) (fun _ => Q .next) E s₁) E s)
    (hs : swapsWithSole [t] value pos.line env = pure false) (hw : swappedStores [t] value env = pure none)
    (ht : (assignEach [t] env).map (·.2) = [assign t env]) : wpAny M A (exec (.Assign [t] value pos) env) Q E s := by
  rw [exec_Assign]
  refine wpAny_bind (wpAny_standAt ?_)
  rw [hs]
  refine wpAny_bind (wpAny_pure ?_)
  rw [if_neg (by decide)]
  refine wpAny_bind (wpAny_mono h (fun v s₁ h₁ => ?_) fun _ _ x => x)
  rw [hw]
  refine wpAny_bind (wpAny_pure ?_)
  rw [ht]
  show wpAny M A (do assignAll v [assign t env]; pure .next) Q E s₁
  exact wpAny_bind (wpAny_mono h₁ (fun _ _ x => wpAny_pure x) fun _ _ x => x)

theorem EvS.assign {t value : Expr} {pos : Pos} {m : Mo PV} {f : PV → Mo Unit} (hm : EvE C value m) (ht : EvTg C t f) (hs : swapsWithSole [t] value pos.line C.env = pure false)
    (hw : swappedStores [t] value C.env = pure none) (hte : (assignEach [t] C.env).map (·.2) = [assign t C.env]) : EvS C (.Assign [t] value pos) (asg1 m f) := by
  intro φ st s fl st' R h
  obtain ⟨v, st₁, h1, h⟩ := bindM_some h
  obtain ⟨_, st₂, h2, h⟩ := bindM_some h
  cases h
  refine assignOne (wpAny_mono (hm φ st s v st₁ R h1) (fun cv s₁ h => ?_) fun _ _ x => x) hs hw hte
  obtain ⟨φ₁, X₁, R₁, v₁⟩ := h
  refine wpAny_mono (ht φ₁ st₁ s₁ cv v _ R₁ v₁ h2) (fun _ s₂ h => ?_) fun _ _ x => x
  obtain ⟨φ₂, X₂, R₂⟩ := h
  exact ⟨φ₂, X₁.toExt.trans X₂, R₂, trivial⟩

theorem EvS.assign2 {t₁ t₂ value : Expr} {pos : Pos} {m : Mo PV} {f g : PV → Mo Unit} (hm : EvE C value m) (ht₁ : EvTg C t₁ f) (ht₂ : EvTg C t₂ g)
    (hte : (assignEach [t₁, t₂] C.env).map (·.2) = [PySem.assign t₁ C.env, PySem.assign t₂ C.env]) (hw : swappedStores [t₁, t₂] value C.env = pure none) : EvS C (.Assign [t₁, t₂] value pos) (asg2 m f g) := by
  intro φ st s fl st' R h
  obtain ⟨v, st₁, h1, h⟩ := bindM_some h
  obtain ⟨_, st₂, h2, h⟩ := bindM_some h
  obtain ⟨_, st₃, h3, h⟩ := bindM_some h
  cases h
  refine wpAny_Assign_two (wpAny_mono (hm φ st s v st₁ R h1) (fun cv s₁ h => ?_) fun _ _ x => x) hte hw
  obtain ⟨φ₁, X₁, R₁, v₁⟩ := h
  refine wpAny_mono (ht₁ φ₁ st₁ s₁ cv v st₂ R₁ v₁ h2) (fun _ s₂ h => ?_) fun _ _ x => x
  obtain ⟨φ₂, X₂, R₂⟩ := h
  refine wpAny_mono (ht₂ φ₂ st₂ s₂ cv v _ R₂ (v₁.mono X₂.pre X₂.tup) h3) (fun _ s₃ h => ?_) fun _ _ x => x
  obtain ⟨φ₃, X₃, R₃⟩ := h
  exact ⟨φ₃, (X₁.toExt.trans X₂).trans X₃, R₃, trivial⟩

/-! a tuple's places onto names -/
def setLs : List Nat → List FV → Mo Unit
  | [], [] => fun st => some ((), st)
  | k :: ks, f :: fs => bindM (setL k (.fl f)) fun _ => setLs ks fs
  | _, _ => fun _ => none
def tupTg (ks : List Nat) : PV → Mo Unit
  | .tup fs => setLs ks fs
  | _ => fun _ => none
/-- targets that are names -/
inductive NamesAt (C : Cx) : List Expr → List Nat → Prop
  | nil : NamesAt C [] []
  | cons {x p es k ks} : C.names[k]? = some x → (∀ r, assignEach (.Name x p :: r) C.env = (false, assign (.Name x p) C.env) :: assignEach r C.env) → NamesAt C es ks → NamesAt C (.Name x p :: es) (k :: ks)
theorem NamesAt.shape {es : List Expr} {ks : List Nat} (h : NamesAt C es ks) : (assignEach es C.env).length = ks.length ∧ (assignEach es C.env).findIdx? (·.1) = none := by
  induction h with
  | nil => exact ⟨rfl, rfl⟩
  | cons _ hs _ ih => rw [hs]; exact ⟨by simp [ih.1], by rw [List.findIdx?_cons]; simp [ih.2]⟩
theorem setLs_len : ∀ {ks : List Nat} {fs : List FV} {st : St} {r : Unit × St}, setLs ks fs st = some r → ks.length = fs.length
  | [], [], _, _, _ => rfl
  | _ :: _, _ :: _, _, _, h => by obtain ⟨_, _, _, h⟩ := bindM_some h; simp [setLs_len h]
  | [], _ :: _, _, _, h => by cases h
  | _ :: _, [], _, _, h => by cases h
theorem RFs.len {φ : List Addr} : ∀ {vs : List Value} {fs : List FV}, RFs φ vs fs → vs.length = fs.length
  | [], [], _ => rfl
  | _ :: _, _ :: _, x => congrArg (· + 1) (RFs.len x.2)
theorem inOrder_ok (O : C.Ok) {es : List Expr} {ks : List Nat} (h : NamesAt C es ks) : ∀ {φ st s cvs fs st'}, Rep C φ st s → RFs φ cvs fs → setLs ks fs st = some ((), st') →
    wpAny C.M C.A (assignInOrder ((assignEach es C.env).map (·.2)) cvs) (PostU C φ s.heap st') noE s := by
  induction h with
  | nil =>
    intro φ st s cvs fs st' R r hm
    cases fs with
    | nil => cases hm; match cvs, r with | [], _ => exact wpAny_pure ⟨φ, Ext.refl _ _, R⟩
    | cons => cases hm
  | @cons x p es k ks hx hs _ ih =>
    intro φ st s cvs fs st' R r hm
    cases fs with
    | nil => cases hm
    | cons f fs =>
      match cvs, r with
      | cv :: cvs, r =>
        obtain ⟨_, st₁, h1, hm⟩ := bindM_some hm
        rw [hs]
        show wpAny C.M C.A (holding cvs (assign (.Name x p) C.env cv) >>= fun _ => assignInOrder ((assignEach es C.env).map (·.2)) cvs) _ _ s
        refine wpAny_bind (wpAny_holding (wpAny_mono (EvTg.name O hx φ st s cv (.fl f) st₁ R r.1 h1) (fun _ s₁ h => ?_) fun _ _ x => x))
        obtain ⟨φ₁, X₁, R₁⟩ := h
        exact wpAny_mono (ih R₁ (r.2.mono X₁.pre) hm) (fun _ _ x => x.trans X₁) fun _ _ x => x

theorem EvTg.tuple (O : C.Ok) {es : List Expr} {x1 pos ks} (h : NamesAt C es ks) : EvTg C (.Tuple es x1 pos) (tupTg ks) := by
  intro φ st s cv v st' R hv hm
  cases v with
  | fl f => cases hm
  | tup fs =>
    obtain ⟨a, items, rfl, ht, hr⟩ := hv
    have hl := setLs_len hm
    have hl2 := hr.len
    refine wpAny_assign_Tuple O.hh ht (by rw [h.shape.1]; simpa [hl] using hl2.symm) h.shape.2 fun h' hx => ?_
    have hk : ∀ b o, s.heap.get? b = some o → h'.get? b = some o := fun b o e => hx b o (Nat.ne_of_lt (Heap.lt_size e)) e
    exact wpAny_mono (inOrder_ok O h (R.kept (tk := s.toks) hk) hr hm) (fun _ _ x => x.trans (Ext.all hk)) fun _ _ x => x

/-! swapped stores: a tuple of values onto names, the stores from behind -/
theorem inOrderN_ok (O : C.Ok) : ∀ {xs : List Str} {ks : List Nat} {φ st s cvs fs st'}, (∀ (i : Nat) k x, ks[i]? = some k → xs[i]? = some x → C.names[k]? = some x) → xs.length = ks.length → Rep C φ st s → RFs φ cvs fs → setLs ks fs st = some ((), st') →
    wpAny C.M C.A (assignInOrder (xs.map fun n => bindName C.env n) cvs) (PostU C φ s.heap st') noE s
  | [], [], φ, st, s, cvs, fs, st', _, _, R, r, hm => by
    cases fs with
    | nil => cases hm; match cvs, r with | [], _ => exact wpAny_pure ⟨φ, Ext.refl _ _, R⟩
    | cons => cases hm
  | x :: xs, k :: ks, φ, st, s, cvs, fs, st', hx, hl, R, r, hm => by
    cases fs with
    | nil => cases hm
    | cons f fs =>
      match cvs, r with
      | cv :: cvs, r =>
        obtain ⟨_, st₁, h1, hm⟩ := bindM_some hm
        show wpAny C.M C.A (holding cvs (bindName C.env x cv) >>= fun _ => assignInOrder (xs.map fun n => bindName C.env n) cvs) _ _ s
        cases h1
        refine wpAny_bind (wpAny_holding (wpAny_bindName (wpAny_mono (store_ok O (hx 0 k x rfl rfl) R (v := .fl f) r.1) (fun _ s₁ h => ?_) fun _ _ x => x)))
        obtain ⟨φ₁, X₁, R₁⟩ := h
        exact wpAny_mono (inOrderN_ok O (fun i k x e1 e2 => hx (i + 1) k x e1 e2) (by simpa using hl) R₁ (r.2.mono X₁.pre) hm) (fun _ _ x => x.trans X₁) fun _ _ x => x
  | [], _ :: _, _, _, _, _, _, _, _, hl, _, _, _ => by cases hl
  | _ :: _, [], _, _, _, _, _, _, _, hl, _, _, _ => by cases hl
theorem RFs.append {φ : List Addr} : ∀ {vs : List Value} {fs : List FV} {us : List Value} {gs : List FV}, RFs φ vs fs → RFs φ us gs → RFs φ (vs ++ us) (fs ++ gs)
  | [], [], _, _, _, y => y
  | _ :: _, _ :: _, _, _, x, y => ⟨x.1, RFs.append x.2 y⟩
theorem RFs.reverse {φ : List Addr} : ∀ {vs : List Value} {fs : List FV}, RFs φ vs fs → RFs φ vs.reverse fs.reverse
  | [], [], _ => trivial
  | v :: vs, f :: fs, x => by rw [List.reverse_cons, List.reverse_cons]; exact RFs.append (RFs.reverse x.2) ⟨x.1, trivial⟩

def asgSw (m : Mo PV) (ks : List Nat) : Mo Fl := bindM m fun v => match v with
  | .tup fs => bindM (setLs ks fs.reverse) fun _ st => some (.next, st)
  | _ => fun _ => none
theorem EvS.assignSw (O : C.Ok) {elts : List Expr} {k tpos value pos} {xs : List Str} {ks : List Nat} {m : Mo PV} (hm : EvE C value m) (hx : ∀ (i : Nat) k x, ks[i]? = some k → xs.reverse[i]? = some x → C.names[k]? = some x) (hl : xs.length = ks.length)
    (hs : swapsWithSole [.Tuple elts k tpos] value pos.line C.env = pure false) (hw : swappedStores [.Tuple elts k tpos] value C.env = pure (some xs)) :
    EvS C (.Assign [.Tuple elts k tpos] value pos) (asgSw m ks) := by
  intro φ st s fl st' R h
  obtain ⟨v, st₁, h1, h⟩ := bindM_some h
  cases v with
  | fl f => cases h
  | tup fs =>
    obtain ⟨_, st₂, h2, h⟩ := bindM_some h
    cases h
    refine Assign_Tuple_swapped (wpAny_mono (hm φ st s _ st₁ R h1) (fun cv s₁ h => ?_) fun _ _ x => x) hs hw
    obtain ⟨φ₁, X₁, R₁, v₁⟩ := h
    obtain ⟨a, items, rfl, ht, hr⟩ := v₁
    have e1 := setLs_len h2
    have e2 := hr.len
    have hn : xs.length = items.size := by simp at e1 e2; omega
    rw [hn]
    refine wpAny_unpackItems_tuple O.hh ht fun h' hx' => ?_
    have hk : ∀ b o, s₁.heap.get? b = some o → h'.get? b = some o := fun b o e => hx' b o (Nat.ne_of_lt (Heap.lt_size e)) e
    refine wpAny_mono (inOrderN_ok O hx (by simpa using hl) (R₁.kept (tk := s₁.toks) hk) hr.reverse h2) (fun _ s₂ h => ?_) fun _ _ x => x
    obtain ⟨φ₂, X₂, R₂⟩ := h
    exact ⟨φ₂, (X₁.toExt.trans (Ext.all hk)).trans X₂, R₂, trivial⟩

/-! x op= e -/
def augM (op : Operator) (k : Nat) (m : Mo PV) : Mo Fl := bindM (getL k) fun a => bindM m fun b => bindM (liftO (binF op a b)) fun c => bindM (setL k c) fun _ st => some (.next, st)
theorem augF_ok {op : Operator} {a b c : PV} (hc : binF op a b = some c) {φ : List Addr} {st : St} {s : Shared} (R : Rep C φ st s) {ca cb : Value} (ra : RV φ s.heap ca a) (rb : RV φ s.heap cb b) :
    wpAny C.M C.A (inplaceOp op ca cb) (PostV C φ s.heap st c) noE s := by
  unfold binF at hc
  split at hc
  · cases hc; obtain ⟨t, rfl⟩ := ra; obtain ⟨u, rfl⟩ := rb; exact PyProof.Rows.iadd_int (PostV.pure R RV.int _)
  · cases hc; obtain ⟨t, rfl⟩ := ra; obtain ⟨u, rfl⟩ := rb; exact PyProof.Rows.isub_int (PostV.pure R RV.int _)
  · cases hc
theorem EvS.aug (O : C.Ok) {x : Str} {pos' op value pos} {k : Nat} {m : Mo PV} (hx : C.names[k]? = some x) (hv : EvE C value m) : EvS C (.AugAssign (.Name x pos') op value pos) (augM op k m) := by
  intro φ st s fl st' R h
  obtain ⟨a, st₁, h1, h⟩ := bindM_some h
  obtain ⟨b, st₂, h2, h⟩ := bindM_some h
  obtain ⟨c, st₃, h3, h⟩ := bindM_some h
  obtain ⟨_, st₄, h4, h⟩ := bindM_some h
  cases h
  obtain ⟨hc, e3⟩ := liftO_some h3
  unfold setL at h4
  cases h4
  subst e3
  unfold getL at h1
  split at h1
  · rename_i v' e
    cases h1
    obtain ⟨m, hn, hm⟩ := R.loc
    obtain ⟨u, hu, hr⟩ := hm k x a hx e
    refine wpAny_AugAssign_Name (wpAny_loadName_local O.hk (O.hloc x (List.mem_of_getElem? hx)) hn hu ?_)
    refine wpAny_mono (hv φ st s b _ R h2) (fun cb s₁ h => ?_) fun _ _ x => x
    obtain ⟨φ₁, X₁, R₁, v₁⟩ := h
    refine wpAny_mono (augF_ok hc R₁ (hr.mono X₁.pre X₁.tup) v₁) (fun cc s₂ h => ?_) fun _ _ x => x
    obtain ⟨φ₂, X₂, R₂, v₂⟩ := h
    refine wpAny_mono (store_ok O hx R₂ v₂) (fun _ s₃ h => ?_) fun _ _ x => x
    obtain ⟨φ₃, X₃, R₃⟩ := h
    exact ⟨φ₃, (X₁.trans X₂).toExt.trans X₃, R₃, trivial⟩
  · cases h1

/-! blocks, if, return -/
def blkM : List (Mo Fl) → Mo Fl
  | [] => fun st => some (.next, st)
  | m :: ms => bindM m fun f => match f with
    | .next => blkM ms
    | f => fun st => some (f, st)
theorem EvB.nil : EvB C [] (blkM []) := by
  intro φ st s f st' R h
  cases h
  exact wpAny_execs_nil ⟨φ, Ext.refl _ _, R, trivial⟩
theorem EvB.cons {x : Stmt} {xs : List Stmt} {m : Mo Fl} {ms : List (Mo Fl)} (h1 : EvS C x m) (h2 : EvB C xs (blkM ms)) : EvB C (x :: xs) (blkM (m :: ms)) := by
  intro φ st s f st' R h
  obtain ⟨g, st₁, e1, h⟩ := bindM_some h
  refine wpAny_execs_cons (wpAny_mono (h1 φ st s g st₁ R e1) (fun cf s₁ hp => ?_) fun _ _ x => x)
  obtain ⟨φ₁, X₁, R₁, r₁⟩ := hp
  cases g with
  | next =>
    cases cf with
    | next => exact wpAny_mono (h2 φ₁ st₁ s₁ f st' R₁ h) (fun _ _ x => x.trans X₁) fun _ _ x => x
    | _ => exact r₁.elim
  | brk => cases h; cases cf with | brk => exact ⟨φ₁, X₁, R₁, r₁⟩ | _ => exact r₁.elim
  | cont => cases h; cases cf with | cont => exact ⟨φ₁, X₁, R₁, r₁⟩ | _ => exact r₁.elim
  | ret v => cases h; cases cf with | ret v => exact ⟨φ₁, X₁, R₁, r₁⟩ | _ => exact r₁.elim

theorem EvS.ite {t : Expr} {a b : List Stmt} {pos mt ma mb} (ht : EvT C t mt) (ha : EvB C a ma) (hb : EvB C b mb) : EvS C (.If t a b pos) (iteM mt ma mb) := by
  intro φ st s f st' R h
  obtain ⟨c, st₁, e1, h⟩ := bindM_some h
  refine wpAny_If (wpAny_mono (ht φ st s c st₁ R e1) (fun r s₁ hr => ?_) fun _ _ x => x)
  obtain ⟨rfl, φ₁, X₁, R₁⟩ := hr
  cases r with
  | true => exact wpAny_mono (ha _ _ _ _ _ R₁ h) (fun _ _ x => x.trans X₁.toExt) fun _ _ x => x
  | false => exact wpAny_mono (hb _ _ _ _ _ R₁ h) (fun _ _ x => x.trans X₁.toExt) fun _ _ x => x

def retM (m : Mo PV) : Mo Fl := bindM m fun v st => some (.ret v, st)
theorem EvS.ret {e : Expr} {pos m} (h : EvE C e m) : EvS C (.Return (some e) pos) (retM m) := by
  intro φ st s f st' R hm
  obtain ⟨v, st₁, e1, hm⟩ := bindM_some hm
  cases hm
  refine wpAny_Return_some (wpAny_mono (h φ st s v st' R e1) (fun cv s₁ hp => ?_) fun _ _ x => x)
  obtain ⟨φ₁, X₁, R₁, v₁⟩ := hp
  exact ⟨φ₁, X₁.toExt, R₁, v₁⟩
theorem EvS.cont {pos} : EvS C (.Continue pos) (fun st => some (.cont, st)) := by
  intro φ st s f st' R hm
  cases hm
  exact wpAny_Continue ⟨φ, Ext.refl _ _, R, trivial⟩
end
end Mine

/-! Ref5 -/
namespace Mine
section
variable {C : Cx}

/-! while -/
def whileM : Nat → Mo Bool → Mo Fl → Mo Fl
  | 0, _, _ => fun _ => none
  | n + 1, t, b => bindM t fun c => if c then bindM b fun f => match f with
      | .next => whileM n t b
      | .cont => whileM n t b
      | .brk => fun st => some (.next, st)
      | .ret v => fun st => some (.ret v, st)
    else fun st => some (.next, st)

theorem EvS.while {t : Expr} {body : List Stmt} {pos mt mb} (n : Nat) (ht : EvT C t mt) (hb : EvB C body mb) : EvS C (.While t body [] pos) (whileM n mt mb) := by
  intro φ st s f st' R h
  refine wpAny_While (codeAny_whileLoop (fun k s' => ∃ φ₁ st₁, Ext C φ s.heap φ₁ s'.heap ∧ Rep C φ₁ st₁ s' ∧ whileM k mt mb st₁ = some (f, st')) ?_ n ⟨φ, st, Ext.refl _ _, R, h⟩)
  rintro k s' ⟨φ₁, st₁, X₁, R₁, h₁⟩
  cases k with
  | zero => cases h₁
  | succ k =>
    obtain ⟨c, st₂, e₂, h₁⟩ := bindM_some h₁
    refine wpAny_mono (ht φ₁ st₁ s' c st₂ R₁ e₂) (fun b s₂ hp => ?_) fun _ _ x => x.elim
    obtain ⟨rfl, φ₂, X₂, R₂⟩ := hp
    cases b with
    | true =>
      simp only [if_true] at h₁ ⊢
      obtain ⟨g, st₃, e₃, h₁⟩ := bindM_some h₁
      refine wpAny_mono (hb φ₂ st₂ s₂ g st₃ R₂ e₃) (fun cf s₃ hp => ?_) fun _ _ x => x.elim
      obtain ⟨φ₃, X₃, R₃, r₃⟩ := hp
      have X := X₁.trans (X₂.toExt.trans X₃)
      cases g with
      | next => cases cf with | next => exact ⟨k, Nat.lt_succ_self _, φ₃, st₃, X, R₃, h₁⟩ | _ => exact r₃.elim
      | cont => cases cf with | cont => exact ⟨k, Nat.lt_succ_self _, φ₃, st₃, X, R₃, h₁⟩ | _ => exact r₃.elim
      | brk => cases h₁; cases cf with | brk => exact ⟨φ₃, X, R₃, trivial⟩ | _ => exact r₃.elim
      | ret v => cases h₁; cases cf with | ret v => exact ⟨φ₃, X, R₃, r₃⟩ | _ => exact r₃.elim
    | false =>
      simp only [Bool.false_eq_true, if_false] at h₁ ⊢
      cases h₁
      exact wpAny_execs_nil ⟨φ₂, X₁.trans X₂.toExt, R₂, trivial⟩

/-! an object beside (an iterator) turns -/
structure Side (C : Cx) (φ : List Addr) (I : Addr) : Prop where
  out : I ∉ φ
  ne : I ≠ C.env.locals
  fresh : C.s₀.heap.get? I = none

theorem Rep.beside {φ : List Addr} {st : St} {s : Shared} (R : Rep C φ st s) {I : Addr} (S : Side C φ I) {h' : Heap} {tk : Nat} (hk : ∀ b o, b ≠ I → s.heap.get? b = some o → h'.get? b = some o)
    (hnt : ∀ items, ¬ s.heap.IsTuple I items) : Rep C φ st { s with heap := h', toks := tk } ∧ Keep s.heap h' := by
  have K : Keep s.heap h' := Keep.but (· = I) hk (fun b items hb => by subst hb; exact hnt items)
  refine ⟨⟨let ⟨_, _, e⟩ := R.same; ⟨h', tk, by rw [e]⟩, fun b o e => hk b o (fun hb => by subst hb; rw [S.fresh] at e; cases e) (R.keep b o e), R.len, ?_, R.nd, R.memlen, ?_, R.fresh⟩, K⟩
  · obtain ⟨m, hn, hm⟩ := R.loc
    exact ⟨m, hn.at' fun o e => hk _ o (Ne.symm S.ne) e, fun k x pv e1 e2 => let ⟨v, e, r⟩ := hm k x pv e1 e2; ⟨v, e, r.mono (pre_refl _) K⟩⟩
  · exact fun k mo a e1 e2 => (R.mem k mo a e1 e2).mono (pre_refl _) K fun o e => hk a o (fun hb => S.out (by subst hb; exact List.mem_of_getElem? e2)) e

theorem Ext.beside {φ φ₁ : List Addr} {h h₁ h' : Heap} (X : Ext C φ h φ₁ h₁) {I : Addr} (hI : h.get? I = none) (hk : ∀ b o, b ≠ I → h₁.get? b = some o → h'.get? b = some o) : Ext C φ h φ₁ h' := by
  refine ⟨X.pre, fun a items x => ?_, fun b o h1 h2 e => hk b o (fun hb => by subst hb; rw [hI] at e; cases e) (X.kept b o h1 h2 e), X.new⟩
  have hne : a ≠ I := fun e => by subst e; obtain ⟨o, ho, _⟩ := x; rw [hI] at ho; cases ho
  exact (X.tup a items x).at fun o e => hk a o hne e

theorem Side.ext {φ φ₁ : List Addr} {h h₁ : Heap} {I : Addr} (S : Side C φ I) (X : Ext C φ h φ₁ h₁) {o : Obj} (ho : h.get? I = some o) : Side C φ₁ I ∧ h₁.get? I = some o := by
  refine ⟨⟨fun hm => ?_, S.ne, S.fresh⟩, X.kept I o S.out S.ne ho⟩
  rw [(X.new I hm S.out).1] at ho; cases ho

/-! for over a range -/
def loopR (f : PV → Mo Unit) (b : Mo Fl) (c : Int) : Nat → Int → Mo Fl
  | 0, _ => fun st => some (.next, st)
  | n + 1, i => bindM (f (.fl (.int i))) fun _ => bindM b fun fl => match fl with
      | .next => loopR f b c n (i + c)
      | .cont => loopR f b c n (i + c)
      | .brk => fun st => some (.next, st)
      | .ret v => fun st => some (.ret v, st)

theorem rangeIter_notTuple {h : Heap} {I : Addr} {x l c : Int} (hi : IsRangeIter h I x l c) (items : Array Value) : ¬ h.IsTuple I items := by
  rintro ⟨o, ho, hc, _⟩
  have hi' : h.get? I = some _ := hi
  rw [hi'] at ho
  cases ho
  exact absurd (Value.type.inj hc) (by decide)

theorem loopR_ok (O : C.Ok) {t : Expr} {body : List Stmt} {f : PV → Mo Unit} {mb : Mo Fl} (ht : EvTg C t f) (hb : EvB C body mb) {I : Addr} {a c : Int} {n : Nat} (htu : ∀ v, letOwnedTupleGo t (.ref I) v = pure ())
    {φ₀ : List Addr} {h₀ : Heap} (hI : h₀.get? I = none) {fl : Fl} {st' : St} {Q : Flow → Shared → Prop} (hQ : ∀ cf s', PostF C φ₀ h₀ st' fl cf s' → Q cf s')
    {φ st s} (X : Ext C φ₀ h₀ φ s.heap) (R : Rep C φ st s) (S : Side C φ I) (hit : IsRangeIter s.heap I a n c) (hm : loopR f mb c n a st = some (fl, st')) :
    codeAny C.M C.A (.forLoop t (.ref I) body [] C.env) (fun r s' => match r with | .ok f => Q f s' | .error e => cameBackBy C.M C.A C.env noE e s') s := by
  refine codeAny_forLoop (fun k s' => ∃ φ₁ st₁ i, ∃ left : Nat, k = left + 1 ∧ Ext C φ₀ h₀ φ₁ s'.heap ∧ Rep C φ₁ st₁ s' ∧ Side C φ₁ I ∧ IsRangeIter s'.heap I i left c ∧ loopR f mb c left i st₁ = some (fl, st')) ?_ (n + 1)
    ⟨φ, st, a, n, rfl, X, R, S, hit, hm⟩ htu
  rintro k s' ⟨φ₁, st₁, i, left, rfl, X₁, R₁, S₁, hit₁, h₁⟩
  cases left with
  | zero =>
    cases h₁
    refine wpAny_pyNext_range_end O.hh hit₁ (by omega) fun h' he' => wpAny_execs_nil (hQ _ _ ?_)
    have hk : ∀ b o, b ≠ I → s'.heap.get? b = some o → h'.get? b = some o := fun b o hb e => he' b o hb e
    have W := R₁.beside S₁ (tk := s'.toks) hk (rangeIter_notTuple hit₁)
    exact ⟨φ₁, X₁.beside hI hk, W.1, trivial⟩
  | succ left =>
    obtain ⟨_, st₂, e₂, h₁⟩ := bindM_some h₁
    obtain ⟨g, st₃, e₃, h₁⟩ := bindM_some h₁
    refine wpAny_pyNext_range_item hit₁ (by omega) fun h' hit' hs' => ?_
    have hk : ∀ b o, b ≠ I → s'.heap.get? b = some o → h'.get? b = some o := fun b o hb e => hs'.extBut b o hb e
    have W := R₁.beside S₁ (tk := s'.toks + 1) hk (rangeIter_notTuple hit₁)
    have X₂ := X₁.beside hI hk
    refine wpAny_mono (ht φ₁ st₁ _ _ (.fl (.int i)) st₂ W.1 RV.int e₂) (fun _ s₃ hp => ?_) fun _ _ x => x.elim
    obtain ⟨φ₃, X₃, R₃⟩ := hp
    have hit'' : h'.get? I = some _ := hit'
    have T₃ := S₁.ext X₃ hit''
    refine wpAny_mono (hb φ₃ st₂ s₃ g st₃ R₃ e₃) (fun cf s₄ hp => ?_) fun _ _ x => x.elim
    obtain ⟨φ₄, X₄, R₄, r₄⟩ := hp
    have T₄ := T₃.1.ext X₄ T₃.2
    have X₅ := (X₂.trans X₃).trans X₄
    have e : ((left + 1 : Nat) : Int) - 1 = (left : Int) := by omega
    have it₄ : IsRangeIter s₄.heap I (i + c) left c := by rw [← e]; exact T₄.2
    cases g with
    | next => cases cf with | next => exact ⟨left + 1, by omega, φ₄, st₃, i + c, left, rfl, X₅, R₄, T₄.1, it₄, h₁⟩ | _ => exact r₄.elim
    | cont => cases cf with | cont => exact ⟨left + 1, by omega, φ₄, st₃, i + c, left, rfl, X₅, R₄, T₄.1, it₄, h₁⟩ | _ => exact r₄.elim
    | brk => cases h₁; cases cf with | brk => exact hQ _ _ ⟨φ₄, X₅, R₄, trivial⟩ | _ => exact r₄.elim
    | ret v => cases h₁; cases cf with | ret v => exact hQ _ _ ⟨φ₄, X₅, R₄, r₄⟩ | _ => exact r₄.elim

theorem Rep.side {φ : List Addr} {st : St} {s : Shared} (R : Rep C φ st s) {I : Addr} (hI : s.heap.get? I = none) : Side C φ I := by
  refine ⟨fun hm => ?_, fun e => ?_, ?_⟩
  · obtain ⟨k, hk, e⟩ := List.getElem_of_mem hm
    have e' : φ[k]? = some I := by rw [List.getElem?_eq_getElem hk, e]
    obtain ⟨mo, hmo⟩ := R.memAddr e'
    obtain ⟨o, ho, _⟩ := (R.mem k mo I hmo e').get
    rw [hI] at ho; cases ho
  · subst e; obtain ⟨m, ⟨o, _, _, ho, _⟩, _⟩ := R.loc; rw [hI] at ho; cases ho
  · cases e : C.s₀.heap.get? I with
    | none => rfl
    | some o => have := R.keep _ _ e; rw [hI] at this; cases this
theorem get?_size (h : Heap) : h.get? h.objs.size = none := by
  cases e : h.get? h.objs.size with
  | none => rfl
  | some o => exact absurd (Heap.lt_size e) (Nat.lt_irrefl _)

noncomputable def rng : List PV → Option (Int × Nat)
  | [.fl (.int n)] => if pd (-(2 ^ 62) ≤ n ∧ n < 2 ^ 62) = true then some (0, n.toNat) else none
  | [.fl (.int a), .fl (.int b)] => if pd (-(2 ^ 62) ≤ a ∧ a < 2 ^ 62 ∧ -(2 ^ 62) ≤ b ∧ b < 2 ^ 62) = true then some (a, (b - a).toNat) else none
  | _ => none
/-- what «range(..)» and iter() of it leave -/
theorem range_ok {vs : List PV} {a : Int} {n : Nat} (hc : rng vs = some (a, n)) {φ : List Addr} {s : Shared} {cvs : List Value} (r : RVs φ s.heap cvs vs) {Q : Value → Shared → Prop}
    (h : ∀ I h' tk, s.heap.get? I = none → (∀ b o, s.heap.get? b = some o → h'.get? b = some o) → IsRangeIter h' I a n 1 → Q (.ref I) { s with heap := h', toks := tk }) :
    wpAny C.M C.A (call (.type "range") cvs) (fun x s₁ => wpAny C.M C.A (pyIter x) Q noE s₁) noE s := by
  have fin : ∀ (b : Int) (o : Obj) (tk : Nat), Builtin.Range.rangeSize a b 1 = (n : Int) → (∀ b o, s.heap.get? b = some o → (s.heap.push o).get? b = some o) →
      IsRangeIter ((s.heap.push o).push { cls := Value.type "range_iterator", data := Data.fields #[rawInt a, rawInt (Builtin.Range.rangeSize a b 1), rawInt 1] }) (s.heap.push o).objs.size a n 1 ∧
      s.heap.get? (s.heap.push o).objs.size = none := by
    intro b o tk hn _
    refine ⟨by show Heap.get? _ _ = _; rw [Heap.get?_push_size _ rfl, hn], ?_⟩
    cases e : s.heap.get? (s.heap.push o).objs.size with
    | none => rfl
    | some o' => exact absurd (Heap.lt_size e) (by rw [Heap.size_push]; exact Nat.not_lt.mpr (Nat.le_succ _))
  unfold rng at hc
  split at hc
  · match cvs, r with
    | [_], ⟨⟨t, rfl⟩, _⟩ =>
      split at hc
      · rename_i N _ hN
        have hN := pd_of hN
        cases hc
        have hsz : Builtin.Range.rangeSize 0 N 1 = (N.toNat : Int) := by rw [rangeSize_one]; split <;> omega
        refine call_range_1 (wpAny_pyIter_range (IsRange.new ..) (small_one (by decide) (by decide) hN.1 hN.2) ?_)
        have W := fin N { cls := .type "range", data := .fields #[.int 0 s.toks, .int N t, .int 1 (s.toks + 1)] } 0 hsz fun _ _ e => Heap.get?_push_of_some _ e
        exact h _ _ _ W.2 (fun _ _ e => Heap.get?_push_of_some _ (Heap.get?_push_of_some _ e)) W.1
      · cases hc
  · match cvs, r with
    | [_, _], ⟨⟨t, rfl⟩, ⟨u, rfl⟩, _⟩ =>
      split at hc
      · rename_i a b _ hN
        have hN := pd_of hN
        cases hc
        have hsz : Builtin.Range.rangeSize a b 1 = ((b - a).toNat : Int) := by rw [rangeSize_one]; split <;> omega
        refine call_range_2 (wpAny_pyIter_range (IsRange.new ..) (small_one hN.1 hN.2.1 hN.2.2.1 hN.2.2.2) ?_)
        have W := fin b { cls := .type "range", data := .fields #[.int a t, .int b u, .int 1 s.toks] } 0 hsz fun _ _ e => Heap.get?_push_of_some _ e
        exact h _ _ _ W.2 (fun _ _ e => Heap.get?_push_of_some _ (Heap.get?_push_of_some _ e)) W.1
      · cases hc
  · cases hc

noncomputable def forRangeM (ms : List (Mo PV)) (f : PV → Mo Unit) (b : Mo Fl) : Mo Fl := bindM (seqM ms) fun vs => match rng vs with
  | some (a, n) => loopR f b 1 n a
  | none => fun _ => none

theorem evalArgs_all {es : List Expr} {ms : List (Mo PV)} (h : EvEs C es ms) (hne : es ≠ []) (f : Value) (pos : Pos) {φ st s vs st₁} (R : Rep C φ st s) (e1 : seqM ms st = some (vs, st₁)) {Q : Args → Shared → Prop}
    (k : ∀ cvs s', PostVs C φ s.heap st₁ vs cvs s' → Q ⟨cvs, []⟩ s') : wpAny C.M C.A (evalArgs f true (backTo pos (starEach es C.env)) []) Q noE s :=
  evalArgs_some h hne f pos (wpAny_mono (evs_spliced h pos R e1) (fun cvs s' x => k cvs s' x) fun _ _ x => x)

theorem EvS.forRange (O : C.Ok) {t : Expr} {p rpos pos : Pos} {es : List Expr} {ms : List (Mo PV)} {body : List Stmt} {f : PV → Mo Unit} {mb : Mo Fl} (B : IsBuiltin C "range" (.type "range"))
    (h : EvEs C es ms) (hne : es ≠ []) (ht : EvTg C t f) (hb : EvB C body mb) (htu : ∀ I v, letOwnedTupleGo t (.ref I) v = pure ()) (hs : ∀ x, foldedSetIterable (.Call (.Name "range" p) es [] rpos) C.env x = pure x) :
    EvS C (.For t (.Call (.Name "range" p) es [] rpos) body [] pos) (forRangeM ms f mb) := by
  intro φ st s fl st' R hm
  obtain ⟨vs, st₁, e1, hm⟩ := bindM_some hm
  have hm' : (match rng vs with | some (a, n) => loopR f mb 1 n a | none => fun _ => none) st₁ = some (fl, st') := hm
  clear hm
  cases hr : rng vs with
  | none => rw [hr] at hm'; cases hm'
  | some q =>
    obtain ⟨a, n⟩ := q
    rw [hr] at hm'
    have hm : loopR f mb 1 n a st₁ = some (fl, st') := hm'
    refine wpAny_For (wpAny_Call_NameR (B.eval O R (by decide) ?_)) hs
    refine PySem.callWith_type (noStar h rpos) (evalArgs_all h hne _ rpos R e1 fun cvs s₁ hp => ?_)
    obtain ⟨φ₁, X₁, R₁, v₁⟩ := hp
    refine range_ok hr v₁ fun I h' tk hI hk hit => ?_
    have R₂ := R₁.kept (tk := tk) hk
    have S : Side C φ₁ I := R₁.side hI
    refine loopR_ok O ht hb (htu I) hI (fun cf s' hp => ?_) (Ext.all hk) R₂ S hit hm
    exact hp.trans X₁.toExt

/-! for over an own list, read as it goes -/
def loopL (k : Nat) (f : PV → Mo Unit) (b : Mo Fl) : Nat → Nat → Mo Fl
  | 0, _ => fun _ => none
  | n + 1, i => fun st => match st.mem[k]? with
    | some (.list ys) => (match ys[i]? with
      | some v => (bindM (f v) fun _ => bindM b fun fl => match fl with
          | .next => loopL k f b n (i + 1)
          | .cont => loopL k f b n (i + 1)
          | .brk => fun st => some (.next, st)
          | .ret v => fun st => some (.ret v, st)) st
      | none => some (.next, st))
    | _ => none

theorem listIter_notTuple {h : Heap} {I l : Addr} {i : Nat} (hi : h.IsListIter I l i) (items : Array Value) : ¬ h.IsTuple I items := by
  rintro ⟨o, ho, hc, _⟩
  obtain ⟨o', ho', hc', _⟩ := hi
  rw [ho'] at ho
  cases ho
  rw [hc] at hc'
  exact absurd (Value.type.inj hc') (by decide)

/-- the tuple that an iterator owns: a list's iterator owns none -/
def GoOk (C : Cx) (t : Expr) (I : Addr) : Prop := ∀ (s : Shared) (E : Value → Shared → Prop) (Q : Unit → Shared → Prop) ax i v, s.heap.IsListIter I ax i → Q () s → wpAny C.M C.A (letOwnedTupleGo t (.ref I) v) Q E s
theorem GoOk.name {x : Str} {p : Pos} {I : Addr} : GoOk C (.Name x p) I := fun _ _ _ _ _ _ _ h => wpAny_pure h
theorem GoOk.tuple {es : List Expr} {x1 : Nat} {p : Pos} {I : Addr} : GoOk C (.Tuple es x1 p) I := fun s E Q ax i v hi h => by
  cases v with
  | ref T => exact wpAny_letOwnedTupleGo_listiter hi h
  | _ => exact wpAny_pure h

theorem loopL_ok (O : C.Ok) {t : Expr} {body : List Stmt} {f : PV → Mo Unit} {mb : Mo Fl} (ht : EvTg C t f) (hb : EvB C body mb) {I ax : Addr} {k : Nat} {n : Nat} (htu : GoOk C t I)
    {φ₀ : List Addr} {h₀ : Heap} (hI : h₀.get? I = none) {fl : Fl} {st' : St} {Q : Flow → Shared → Prop} (hQ : ∀ cf s', PostF C φ₀ h₀ st' fl cf s' → Q cf s')
    {φ st s} (X : Ext C φ₀ h₀ φ s.heap) (R : Rep C φ st s) (S : Side C φ I) (hax : φ[k]? = some ax) (hit : s.heap.IsListIter I ax 0) (hm : loopL k f mb n 0 st = some (fl, st')) :
    codeAny C.M C.A (.forLoop t (.ref I) body [] C.env) (fun r s' => match r with | .ok f => Q f s' | .error e => cameBackBy C.M C.A C.env noE e s') s := by
  refine codeAny_forLoop_any (fun q s' => ∃ φ₁ st₁, ∃ i : Nat, Ext C φ₀ h₀ φ₁ s'.heap ∧ Rep C φ₁ st₁ s' ∧ Side C φ₁ I ∧ φ₁[k]? = some ax ∧ s'.heap.IsListIter I ax i ∧ loopL k f mb q i st₁ = some (fl, st')) ?_ n
    ⟨φ, st, 0, X, R, S, hax, hit, hm⟩
  rintro q s' ⟨φ₁, st₁, i, X₁, R₁, S₁, hax₁, hit₁, h₁⟩
  cases q with
  | zero => cases h₁
  | succ q =>
    unfold loopL at h₁
    split at h₁
    · rename_i ys hys
      obtain ⟨items, hl, hr⟩ := R₁.listAt hys hax₁
      have hlen := hr.length
      have hax2 : ax ≠ I := fun e => S₁.out (by subst e; exact List.mem_of_getElem? hax₁)
      split at h₁
      · rename_i v hv
        obtain ⟨cv, hcv, hrv⟩ := hr.get hv
        obtain ⟨_, st₂, e₂, h₁⟩ := bindM_some h₁
        obtain ⟨g, st₃, e₃, h₁⟩ := bindM_some h₁
        refine wpAny_pyNext_list_item hit₁ hl.isList (x := cv) (by simpa using hcv) fun h' hit' hs' => ?_
        have hk : ∀ b o, b ≠ I → s'.heap.get? b = some o → h'.get? b = some o := fun b o hb e => hs'.extBut b o hb e
        have W := R₁.beside S₁ (tk := s'.toks) hk (listIter_notTuple hit₁)
        have X₂ := X₁.beside hI hk
        refine htu _ _ _ ax (i + 1) cv hit' ?_
        refine wpAny_mono (ht φ₁ st₁ _ _ v st₂ W.1 (hrv.mono (pre_refl _) W.2) e₂) (fun _ s₃ hp => ?_) fun _ _ x => x.elim
        obtain ⟨φ₃, X₃, R₃⟩ := hp
        obtain ⟨oI, hoI, hcI, hdI⟩ := hit'
        have T₃ := S₁.ext X₃ hoI
        refine wpAny_mono (hb φ₃ st₂ s₃ g st₃ R₃ e₃) (fun cf s₄ hp => ?_) fun _ _ x => x.elim
        obtain ⟨φ₄, X₄, R₄, r₄⟩ := hp
        have T₄ := T₃.1.ext X₄ T₃.2
        have X₅ := (X₂.trans X₃).trans X₄
        have it₄ : s₄.heap.IsListIter I ax (i + 1) := ⟨oI, T₄.2, hcI, hdI⟩
        have hax₄ : φ₄[k]? = some ax := prefix_get (X₃.pre.trans X₄.pre) hax₁
        cases g with
        | next => cases cf with | next => exact ⟨q, Nat.lt_succ_self _, φ₄, st₃, i + 1, X₅, R₄, T₄.1, hax₄, it₄, h₁⟩ | _ => exact r₄.elim
        | cont => cases cf with | cont => exact ⟨q, Nat.lt_succ_self _, φ₄, st₃, i + 1, X₅, R₄, T₄.1, hax₄, it₄, h₁⟩ | _ => exact r₄.elim
        | brk => cases h₁; cases cf with | brk => exact hQ _ _ ⟨φ₄, X₅, R₄, trivial⟩ | _ => exact r₄.elim
        | ret v => cases h₁; cases cf with | ret v => exact hQ _ _ ⟨φ₄, X₅, R₄, r₄⟩ | _ => exact r₄.elim
      · rename_i hv
        cases h₁
        have hnone : items[i]? = none := by
          have : ys.length ≤ i := by simpa using hv
          apply Array.getElem?_eq_none
          have e : items.toList.length = items.size := by simp
          omega
        refine wpAny_pyNext_list_end O.hh hit₁ hl.isList hnone fun h' he' => wpAny_execs_nil (hQ _ _ ?_)
        have hk : ∀ b o, b ≠ I → s'.heap.get? b = some o → h'.get? b = some o := fun b o hb e => he' b o hb e
        have W := R₁.beside S₁ (tk := s'.toks) hk (listIter_notTuple hit₁)
        exact ⟨φ₁, X₁.beside hI hk, W.1, trivial⟩
    · cases h₁

def forListM (fuel : Nat) (m : Mo PV) (f : PV → Mo Unit) (b : Mo Fl) : Mo Fl := bindM m fun v => match v with
  | .fl (.ref k) => fun st => match st.mem[k]? with
    | some (.list _) => loopL k f b fuel 0 st
    | _ => none
  | _ => fun _ => none
theorem EvS.forList (O : C.Ok) {t e : Expr} {pos : Pos} {body : List Stmt} {m : Mo PV} {f : PV → Mo Unit} {mb : Mo Fl} (fuel : Nat) (he : EvE C e m) (ht : EvTg C t f) (hb : EvB C body mb)
    (htu : ∀ I, GoOk C t I) (hs : ∀ x, foldedSetIterable e C.env x = pure x) :
    EvS C (.For t e body [] pos) (forListM fuel m f mb) := by
  intro φ st s fl st' R hm
  obtain ⟨v, st₁, e1, hm⟩ := bindM_some hm
  split at hm
  · rename_i k
    split at hm
    · rename_i ys hys
      refine wpAny_For (wpAny_mono (he φ st s _ st₁ R e1) (fun cv s₁ hp => ?_) fun _ _ x => x) hs
      obtain ⟨φ₁, X₁, R₁, v₁⟩ := hp
      obtain ⟨ax, hax, rfl⟩ := v₁
      obtain ⟨items, hl, hr⟩ := R₁.listAt hys hax
      refine wpAny_pyIter_list hl.isList ?_
      have hI := get?_size s₁.heap
      have hk : ∀ b o, s₁.heap.get? b = some o → (s₁.heap.push { cls := Value.type "list_iterator", data := Data.fields #[Value.ref ax, Value.int 0 0] }).get? b = some o := fun b o e => Heap.get?_push_of_some _ e
      refine loopL_ok O ht hb (htu _) hI (fun cf s' hp => ?_) (Ext.all hk) (R₁.kept (tk := s₁.toks) hk) (R₁.side hI) hax ⟨_, Heap.get?_push_size _ rfl, rfl, rfl⟩ hm
      exact hp.trans X₁.toExt
    · cases hm
  · cases hm
end
end Mine

/-! Ref6 -/
namespace Mine
section
variable {C : Cx}

/-! l.append(e) as a statement -/
def appF (a b : PV) (st : St) : Option (Fl × St) := match a with
  | .fl (.ref k) => (match st.mem[k]? with
    | some (.list xs) => if xs.length < 2 ^ 20 then some (.next, setMem k (.list (xs ++ [b])) st) else none
    | _ => none)
  | _ => none
/-- the receiver stands as a list when it is read -/
def isL (a : PV) (st : St) : Bool := match a with
  | .fl (.ref k) => (match st.mem[k]? with | some (.list _) => true | _ => false)
  | _ => false
def appM (ml me : Mo PV) : Mo Fl := bindM ml fun a => fun st => if isL a st = true then (bindM me fun b => appF a b) st else none
theorem EvS.append {o e : Expr} {apos pos spos : Pos} {ml me : Mo PV} (hl : EvE C o ml) (he : EvE C e me) (hi : interactive C.env = false)
    (hbase : attributeBase o "append" C.env (eval o C.env) = eval o C.env) (hst : starEach [e] C.env = [(false, eval e C.env)]) (hline : (apos.endLine == pos.line) = true) :
    EvS C (.Expr (.Call (.Attribute o "append" apos) [e] [] pos) spos) (appM ml me) := by
  intro φ st s fl st' R h
  obtain ⟨a, st₁, h1, h⟩ := bindM_some h
  have h0 : (if isL a st₁ = true then (bindM me fun b => appF a b) st₁ else none) = some (fl, st') := h
  clear h
  split at h0
  case isFalse => cases h0
  rename_i hk1
  obtain ⟨b, st₂, h2, h'⟩ := bindM_some h0
  unfold appF at h'
  split at h'
  · rename_i k
    split at h'
    · rename_i xs hmem
      split at h'
      · rename_i hsz
        cases h'
        refine wpAny_Expr ?_ hi (by rfl)
        refine wpAny_Call_method (T := "list") (id := "list.append") hbase (by rw [hst]; rfl) hline F.plainAttrs_list slot_list_append type_list_append (wpAny_mono (hl φ st s _ st₁ R h1) (fun ca s₁ hp => ?_) fun _ _ x => x)
        obtain ⟨φ₁, X₁, R₁, v₁⟩ := hp
        obtain ⟨A, hA, rfl⟩ := v₁
        unfold isL at hk1
        dsimp only at hk1
        -- the list stands as a list already
        have hob : ∃ n its, s₁.heap.get? A = some { cls := .type "list", data := .seq its n } := by
          cases hm1 : st₁.mem[k]? with
          | none => rw [hm1] at hk1; cases hk1
          | some mo =>
            rw [hm1] at hk1
            cases mo with
            | list ys => obtain ⟨items, ⟨n, h1⟩, _⟩ := R₁.mem k _ A hm1 hA; exact ⟨n, items, h1⟩
            | _ => cases hk1
        obtain ⟨n, its, hob⟩ := hob
        refine ⟨⟨_, hob, rfl⟩, fun a ea => by cases ea; exact ⟨_, hob, rfl⟩, ?_⟩
        rw [hst]
        refine Calls.callWith_builtin (by rfl) (Calls.evalArgs_plain (Calls.spliced_cons (wpAny_mono (he φ₁ st₁ s₁ b st₂ R₁ h2) (fun cb s₂ hp => ?_) fun _ _ x => x)))
        obtain ⟨φ₂, X₂, R₂, v₂⟩ := hp
        refine Calls.spliced_nil ?_
        obtain ⟨items, hl2, hr⟩ := R₂.listAt hmem (prefix_get X₂.pre hA)
        have hlen := hr.length
        have hsz2 : items.size = xs.length := by simpa using hlen
        refine wpAny_list_append_plain hl2 (fun h' hl' hs' => ?_) (by rw [sizeLine_eq]; omega)
        have W := R₂.update (tk := s₂.toks) (prefix_get X₂.pre hA) hs' (fun items => list_notTuple hl2.isList) (mo := .list (xs ++ [b])) fun K => ⟨_, hl', by
          rw [Array.toList_push]
          exact (hr.mono (pre_refl _) K).snoc (v₂.mono (pre_refl _) K)⟩
        exact ⟨φ₂, (X₁.trans X₂).toExt.trans W.2, W.1, trivial⟩
      · cases h'
    · cases h'
  · cases h'

/-- an object that stands beside is taken as an own one -/
theorem Rep.adopt {φ : List Addr} {st : St} {s : Shared} (R : Rep C φ st s) {h₀ : Heap} {D : Addr} (_hD : h₀.get? D = none) (S : Side C φ D) {mo : MO} (hmo : ∀ φ', φ <+: φ' → MOAt φ' s.heap D mo) :
    Rep C (φ ++ [D]) { st with mem := st.mem ++ [mo] } s ∧ ∀ h₁ : Heap, (∀ b o, h₁.get? b = some o → s.heap.get? b = some o) → h₁.get? D = none → ExtE C φ h₁ (φ ++ [D]) s.heap := by
  have hp : φ <+: φ ++ [D] := List.prefix_append ..
  refine ⟨⟨R.same, R.keep, R.len, ?_, ?_, by simp [R.memlen], ?_, ?_⟩, fun h₁ hk hn => ⟨⟨hp, Keep.all hk, fun b o _ _ e => hk b o e, fun a h1 h2 => ?_⟩, fun o e => hk _ o e⟩⟩
  · obtain ⟨m, hn, hm⟩ := R.loc
    exact ⟨m, hn, fun k x pv e1 e2 => let ⟨v, e, r⟩ := hm k x pv e1 e2; ⟨v, e, r.mono hp (Keep.refl _)⟩⟩
  · refine List.nodup_append.mpr ⟨R.nd, by simp, fun a ha b hb => ?_⟩
    rw [List.mem_singleton.mp hb]
    exact fun e => S.out (e ▸ ha)
  · intro k mo' a e1 e2
    by_cases hk : k < φ.length
    · rw [List.getElem?_append_left hk] at e2
      rw [List.getElem?_append_left (by rw [← R.memlen]; exact hk)] at e1
      exact (R.mem k mo' a e1 e2).mono hp (Keep.refl _) fun o e => e
    · have hk2 : k = φ.length := by
        have := (List.getElem?_eq_some_iff.mp e2).1
        simp at this; omega
      subst hk2
      rw [List.getElem?_append_right (Nat.le_refl _)] at e2
      rw [R.memlen, List.getElem?_append_right (Nat.le_refl _)] at e1
      simp at e1 e2
      subst e1; subst e2
      exact hmo _ hp
  · intro a ha
    rcases List.mem_append.mp ha with ha | ha
    · exact R.fresh a ha
    · rw [List.mem_singleton.mp ha]; exact ⟨S.fresh, S.ne⟩
  · rcases List.mem_append.mp h1 with h1 | h1
    · exact absurd h1 h2
    · rw [List.mem_singleton.mp h1]; exact ⟨hn, S.ne⟩

/-! cells that are not stored to -/
structure IsCellVar (C : Cx) (x : Str) (f : FV) : Prop where
  kind : C.env.kindOf x = some .cell
  at_ : ∃ c cv, C.env.cells.lookup x = some c ∧ C.s₀.heap.IsCell c (some cv) ∧ RF [] cv f
theorem EvE.cell (O : C.Ok) {x : Str} {pos : Pos} {f : FV} (hc : IsCellVar C x f) (hd : (x == ("__debug__" : Str)) = false) : EvE C (.Name x pos) (cst (.fl f)) := by
  intro φ st s v st' R hm
  cases hm
  obtain ⟨c, cv, hc1, hc2, hc3⟩ := hc.at_
  refine wpAny_Name (wpAny_loadName_cell O.hk hc.kind hc1 (hc2.keeps R.keep) ?_) hd
  exact ⟨φ, ExtE.refl _ _, R, RF.mono (List.nil_prefix) hc3⟩

/-! [e for x in range(..)], nothing else -/
def FV.noRef : FV → Bool
  | .ref _ => false
  | _ => true
def compL (m : Mo PV) : Nat → Int → Option (List PV)
  | 0, _ => some []
  | n + 1, i => match m ⟨[some (.fl (.int i))], []⟩ with
    | some (.fl f, ⟨_, []⟩) => if f.noRef then (compL m n (i + 1)).map (.fl f :: ·) else none
    | _ => none
theorem RF.noRef {φ φ' : List Addr} {v : Value} {f : FV} (hf : f.noRef = true) (x : RF φ v f) : RF φ' v f := by
  cases f with
  | ref k => cases hf
  | _ => exact x

/-- one element's value -/
def CompEl (m : Mo PV) (v y : Value) : Prop := ∃ i t f l, v = .int i t ∧ m ⟨[some (.fl (.int i))], []⟩ = some (.fl f, ⟨l, []⟩) ∧ f.noRef = true ∧ RF [] y f
theorem compL_ok {m : Mo PV} : ∀ {n : Nat} {a : Int} {xs : List PV} {vs ys : List Value}, compL m n a = some xs → vs.length = n → (∀ (j : Nat) v, vs[j]? = some v → ∃ t, v = .int (a + j) t) → Paired (CompEl m) vs ys → ∀ φ h, RVs φ h ys xs
  | 0, _, _, [], _, hc, _, _, hp, _, _ => by cases hc; cases hp; exact trivial
  | n + 1, a, xs, v :: vs, ys, hc, hl, hv, hp, φ, h => by
    cases hp with
    | cons hy hp =>
      unfold compL at hc
      obtain ⟨t, rfl⟩ := hv 0 v rfl
      obtain ⟨i, t', f, l, e, he, hf, hr⟩ := hy
      cases e
      rw [show a + ((0 : Nat) : Int) = a by omega] at he
      rw [he] at hc
      simp only [hf, if_true] at hc
      obtain ⟨xs', hx, rfl⟩ := Option.map_eq_some_iff.mp hc
      refine ⟨RF.noRef hf hr, compL_ok hx (by simpa using hl) (fun j u hj => ?_) hp φ h⟩
      obtain ⟨t, rfl⟩ := hv (j + 1) u (by simpa using hj)
      exact ⟨t, by congr 1; omega⟩
  | 0, _, _, _ :: _, _, _, hl, _, _, _, _ => by cases hl
  | _ + 1, _, _, [], _, _, hl, _, _, _, _ => by cases hl

/-- the element, in the comprehension's own block -/
def ElOk (C : Cx) (scope : Scope) (cl : List (Str × Addr)) (x : Str) (elt : Expr) (m : Mo PV) : Prop :=
  ∀ C' : Cx, C'.Ok → C'.prog = C.prog → C'.w = C.w → C'.A = C.A → C'.names = [x] → C'.env = compEnvC scope cl C'.env.locals C.env → C'.mg = C.mg → C'.mb = C.mb →
    (∀ b o, C.s₀.heap.get? b = some o → C'.s₀.heap.get? b = some o) → EvE C' elt m

theorem hide_get {h : Heap} {a b : Addr} {o : Obj} (e : h.get? b = some o) (hne : b ≠ a) : (h.hide a).get? b = some o := (Heap.hide_ne h hne).trans e

theorem el_ok (O : C.Ok) {scope : Scope} {cl : List (Str × Addr)} {x : Str} {elt : Expr} {m : Mo PV} (hE : ElOk C scope cl x elt m) (hkind : scope.kind = .function) (hx : scope.names.lookup x = some .local)
    {φ st s} (R : Rep C φ st s) {L' : Addr} {s₃ : Shared} {m₃ : Str → Option Value} (hk : ∀ b o, s.heap.get? b = some o → s₃.heap.get? b = some o)
    (hn : s₃.heap.Ns L' m₃) {i : Int} {t : Tok} (hm : m₃ x = some (.int i t)) (hnew : s.heap.get? L' = none) {f : FV} {l : List (Option PV)} (he : m ⟨[some (.fl (.int i))], []⟩ = some (.fl f, ⟨l, []⟩)) (hf : f.noRef = true) {E : Value → Shared → Prop} :
    wpAny C.M C.A (eval elt (compEnvC scope cl L' C.env)) (fun y s₄ => CompEl m (.int i t) y ∧ Keeps s₃ s₄) E s₃ := by
  let C' : Cx := { C with env := compEnvC scope cl L' C.env, names := [x], s₀ := { s₃ with heap := s₃.heap.hide L' } }
  have hL₀ : C.s₀.heap.get? L' = none := by
    cases e : C.s₀.heap.get? L' with
    | none => rfl
    | some o => have := R.keep _ _ e; rw [hnew] at this; cases this
  have hkk : ∀ b o, C.s₀.heap.get? b = some o → C'.s₀.heap.get? b = some o := fun b o e =>
    hide_get (hk b o (R.keep b o e)) fun hb => by subst hb; rw [hL₀] at e; cases e
  have O' : C'.Ok := by
    refine ⟨O.hh, O.hd, O.hu, ?_, by simp [C'], ?_, Heap.hide_self _ _, O.g.keeps hkk, O.b.keeps hkk, O.nolimit.keeps hkk, O.kin.keeps hkk⟩
    · show (relabel scope C.env).kind = .function
      exact hkind
    · intro y hy
      rw [List.mem_singleton.mp hy]
      exact lookup_relabel_local hx
  have R' : Rep C' [] ⟨[some (.fl (.int i))], []⟩ s₃ := by
    refine ⟨⟨s₃.heap, s₃.toks, rfl⟩, fun b o e => Heap.of_hide e, rfl, ⟨m₃, hn, fun k y pv e1 e2 => ?_⟩, List.nodup_nil, rfl, fun k mo a e1 _ => by simp at e1, fun a ha => nomatch ha⟩
    cases k with
    | zero => cases e1; cases e2; exact ⟨_, hm, RV.int⟩
    | succ k => simp [C'] at e1
  refine wpAny_mono (hE C' O' rfl rfl rfl rfl rfl rfl rfl hkk [] _ s₃ _ _ R' he) (fun y s₄ hp => ?_) fun _ _ x => x.elim
  obtain ⟨φ', X, R₄, v⟩ := hp
  have hφ : φ' = [] := by
    have := R₄.memlen
    simpa using this
  subst hφ
  refine ⟨⟨i, t, f, l, rfl, he, hf, v⟩, ?_⟩
  obtain ⟨h₄, tk₄, e₄⟩ := R₄.same
  refine ⟨h₄, tk₄, by rw [e₄], fun b o e => ?_⟩
  have e₅ : s₄.heap = h₄ := by rw [e₄]
  rw [← e₅]
  by_cases hb : b = L'
  · subst hb; exact X.loc o e
  · exact X.kept b o (fun hm => nomatch hm) hb e

noncomputable def compM (ms : List (Mo PV)) (m : Mo PV) : Mo PV := bindM (seqM ms) fun vs => fun st => match rng vs with
  | some (a, n) => if n ≤ 2 ^ 20 then (match compL m n a with | some xs => newL xs st | none => none) else none
  | none => none

theorem compL_at {m : Mo PV} : ∀ {n : Nat} {a : Int} {xs : List PV}, compL m n a = some xs → ∀ j : Nat, j < n → ∃ f l, m ⟨[some (.fl (.int (a + j)))], []⟩ = some (.fl f, ⟨l, []⟩) ∧ f.noRef = true
  | n + 1, a, xs, h, j, hj => by
    unfold compL at h
    split at h
    · rename_i f l he
      split at h
      · rename_i hf
        obtain ⟨xs', hx, _⟩ := Option.map_eq_some_iff.mp h
        cases j with
        | zero => exact ⟨f, l, by simpa using he, hf⟩
        | succ j =>
          obtain ⟨f', l', e1, e2⟩ := compL_at hx j (by omega)
          refine ⟨f', l', ?_, e2⟩
          rw [← e1, show a + ((j + 1 : Nat) : Int) = a + 1 + (j : Int) by omega]
      · cases h
    · cases h

theorem quiet_el (O : C.Ok) {scope : Scope} {cl : List (Str × Addr)} {x : Str} {elt : Expr} {m : Mo PV} (hE : ElOk C scope cl x elt m) (hkind : scope.kind = .function) (hx : scope.names.lookup x = some .local)
    {φ st s} (R : Rep C φ st s) {s₂ : Shared} {I : Addr} (hI : s.heap.get? I = none) (hk₂ : ∀ b o, s.heap.get? b = some o → s₂.heap.get? b = some o) {n : Nat} {a : Int} {xs : List PV} (hc : compL m n a = some xs) :
    QuietOnC C.prog C.w C.A C.env scope cl x [] elt [I] (fun i v => i < n ∧ ∃ t, v = Value.int (a + i * 1) t) (fun _ => true) (CompEl m) s₂ where
  tests := fun _ _ _ s₃ _ _ _ _ _ _ _ _ => by
    rw [List.forIn_nil]
    exact wpAny_pure ⟨rfl, s₃.heap, s₃.toks, rfl, fun _ _ e => e⟩
  elt := fun L' i v s₃ m₃ E' hL hP _ hn hm hk _ => by
    obtain ⟨hi, t, rfl⟩ := hP
    obtain ⟨f, l, he, hf⟩ := compL_at hc i hi
    have e : a + (i : Int) * 1 = a + i := by rw [Int.mul_one]
    rw [e] at hm ⊢
    refine el_ok O hE hkind hx R (fun b o e => hk b o (fun hm => ?_) (hk₂ b o e)) hn hm ?_ he hf
    · rw [List.mem_singleton.mp hm] at e; rw [hI] at e; cases e
    · cases e : s.heap.get? L' with
      | none => rfl
      | some o => exact absurd (Heap.lt_size (hk₂ _ _ e)) (Nat.not_lt.mpr hL)

/-- what stands of a comprehension's scope -/
structure CompScope (C : Cx) (scope : Scope) (cl : List (Str × Addr)) (x : Str) : Prop where
  clos : closureFor scope C.env = pure cl
  cell : ∀ z ∈ scope.names, z.2 ≠ .cell
  kind : scope.kind = .function
  names : ∀ z ∈ scope.names, z.2 = .local → scope.names.lookup z.1 = some .local
  var : scope.names.lookup x = some .local

theorem filter_true {α : Type} (l : List α) : l.filter (fun _ => true) = l := List.filter_eq_self.mpr fun _ _ => rfl

theorem EvE.comp (O : C.Ok) {elt : Expr} {x : Str} {px p rpos : Pos} {es : List Expr} {ms : List (Mo PV)} {scope : Scope} {cl : List (Str × Addr)} {pos : Pos} {m : Mo PV} (B : IsBuiltin C "range" (.type "range"))
    (h : EvEs C es ms) (hne : es ≠ []) (S : CompScope C scope cl x) (hE : ElOk C scope cl x elt m) (hs : ∀ x, foldedSetIterable (.Call (.Name "range" p) es [] rpos) C.env x = pure x) :
    EvE C (.ListComp elt [⟨.Name x px, .Call (.Name "range" p) es [] rpos, [], 0⟩] scope pos) (compM ms m) := by
  intro φ st s v st' R hm
  obtain ⟨vs, st₁, e1, hm⟩ := bindM_some hm
  have hm' : (match rng vs with
    | some (a, n) => if n ≤ 2 ^ 20 then (match compL m n a with | some xs => newL xs st₁ | none => none) else none
    | none => none) = some (v, st') := hm
  clear hm
  cases hr : rng vs with
  | none => rw [hr] at hm'; cases hm'
  | some q =>
    obtain ⟨a, n⟩ := q
    rw [hr] at hm'
    dsimp only at hm'
    split at hm'
    · rename_i hn
      cases hc : compL m n a with
      | none => rw [hc] at hm'; cases hm'
      | some xs =>
        rw [hc] at hm'
        cases hm'
        refine wpAny_ListComp_free (fun _ => true) (CompEl m) S.clos S.cell S.kind S.names S.var (wpAny_Call_NameR (B.eval O R (by decide) ?_)) hs
        refine PySem.callWith_type (noStar h rpos) (evalArgs_all h hne _ rpos R e1 fun cvs s₁ hp => ?_)
        obtain ⟨φ₁, X₁, R₁, v₁⟩ := hp
        refine range_ok hr v₁ fun I h' tk hI hk hit => ?_
        have hIlt : I < h'.objs.size := by have : h'.get? I = some _ := hit; exact Heap.lt_size this
        refine ⟨I, [I], [I], n, _, _, rfl, (Walks.range O.hh I a 1 n).bound, by rw [sizeLine_eq]; omega, ?_, fun b hb => by rw [List.mem_singleton.mp hb]; exact hIlt, quiet_el O hE S.kind S.var R₁ hI hk hc, ?_⟩
        · show IsRangeIter h' I (a + ((0 : Nat) : Int) * 1) ((n : Int) - ((0 : Nat) : Int)) 1
          rw [show a + ((0 : Nat) : Int) * 1 = a by simp, show (n : Int) - ((0 : Nat) : Int) = n by simp]; exact hit
        · intro D h₅ tk₅ ys vs' hD hlD hplD hlen hP hF hk₅
          have hk₆ : ∀ b o, s₁.heap.get? b = some o → h₅.get? b = some o := fun b o e => hk₅ b o (fun hm => by rw [List.mem_singleton.mp hm, hI] at e; cases e) (hk b o e)
          have hDs : s₁.heap.get? D = none := by
            cases e : s₁.heap.get? D with
            | none => rfl
            | some o => have hD' : h'.get? D = none := hD; rw [hk _ _ e] at hD'; cases hD'
          rw [filter_true] at hF
          have hys := compL_ok hc hlen (fun j u hj => by obtain ⟨_, t, e⟩ := hP j u hj; exact ⟨t, by rw [e, Int.mul_one]⟩) hF
          have R₅ := R₁.kept (tk := tk₅) hk₆
          have W := R₅.adopt hDs (R₁.side hDs) (mo := .list xs) fun φ' _ => ⟨ys, hplD, hys φ' h₅⟩
          refine ⟨φ₁ ++ [D], X₁.trans (W.2 s₁.heap hk₆ hDs), W.1, D, ?_, rfl⟩
          rw [← R₁.memlen]; simp
    · cases hm'
end
end Mine

/-! Ref7 -/
namespace Mine
section
variable {C : Cx}

theorem EvS.compAssign (O : C.Ok) {elt : Expr} {x y : Str} {px py p rpos : Pos} {es : List Expr} {ms : List (Mo PV)} {scope : Scope} {cl : List (Str × Addr)} {pos spos : Pos} {m : Mo PV} {k : Nat} (B : IsBuiltin C "range" (.type "range"))
    (hy : C.names[k]? = some y) (h : EvEs C es ms) (hne : es ≠ []) (S : CompScope C scope cl x) (hE : ElOk C scope cl x elt m)
    (hsw : swapsWith (.ListComp elt [⟨.Name x px, .Call (.Name "range" p) es [] rpos, [], 0⟩] scope pos) (some (.Name y py)) spos.line C.env = pure true)
    (hs : ∀ x, foldedSetIterable (.Call (.Name "range" p) es [] rpos) C.env x = pure x) :
    EvS C (.Assign [.Name y py] (.ListComp elt [⟨.Name x px, .Call (.Name "range" p) es [] rpos, [], 0⟩] scope pos) spos) (asg1 (compM ms m) (setL k)) := by
  intro φ st s fl st' R hm0
  obtain ⟨v, stx, hm, hm0⟩ := bindM_some hm0
  obtain ⟨_, sty, hst, hm0⟩ := bindM_some hm0
  cases hm0
  obtain ⟨vs, st₁, e1, hm⟩ := bindM_some hm
  have hm' : (match rng vs with
    | some (a, n) => if n ≤ 2 ^ 20 then (match compL m n a with | some xs => newL xs st₁ | none => none) else none
    | none => none) = some (v, stx) := hm
  clear hm
  cases hr : rng vs with
  | none => rw [hr] at hm'; cases hm'
  | some q =>
    obtain ⟨a, n⟩ := q
    rw [hr] at hm'
    dsimp only at hm'
    split at hm'
    · rename_i hn
      cases hc : compL m n a with
      | none => rw [hc] at hm'; cases hm'
      | some xs =>
        rw [hc] at hm'
        cases hm'
        cases hst
        refine wpAny_Assign_ListComp_free (fun _ => true) (CompEl m) hsw S.clos S.cell S.kind S.names S.var (O.hloc y (List.mem_of_getElem? hy)) O.pl (wpAny_Call_NameR (B.eval O R (by decide) ?_)) hs
        refine PySem.callWith_type (noStar h rpos) (evalArgs_all h hne _ rpos R e1 fun cvs s₁ hp => ?_)
        obtain ⟨φ₁, X₁, R₁, v₁⟩ := hp
        refine range_ok hr v₁ fun I h' tk hI hk hit => ?_
        have hIlt : I < h'.objs.size := by have : h'.get? I = some _ := hit; exact Heap.lt_size this
        obtain ⟨m₁, hn₁, hm₁⟩ := R₁.loc
        have hIL : C.env.locals ≠ I := fun e => by obtain ⟨o, _, _, ho, _⟩ := hn₁; rw [e, hI] at ho; cases ho
        refine ⟨I, [I], [I], n, _, _, m₁, rfl, (Walks.range O.hh I a 1 n).bound, by rw [sizeLine_eq]; omega, ?_, fun b hb => by rw [List.mem_singleton.mp hb]; exact hIlt,
          fun hm => hIL (List.mem_singleton.mp hm), hn₁.keeps hk, quiet_el O hE S.kind S.var R₁ hI hk hc, ?_⟩
        · show IsRangeIter h' I (a + ((0 : Nat) : Int) * 1) ((n : Int) - ((0 : Nat) : Int)) 1
          rw [show a + ((0 : Nat) : Int) * 1 = a by simp, show (n : Int) - ((0 : Nat) : Int) = n by simp]; exact hit
        · intro D h₅ tk₅ ys vs' hD hlD hplD hlen hP hF hns hk₅
          have hk₆ : ∀ b o, b ≠ C.env.locals → s₁.heap.get? b = some o → h₅.get? b = some o := fun b o hb e => hk₅ b o hb (fun hm => by rw [List.mem_singleton.mp hm, hI] at e; cases e) (hk b o e)
          have hDs : s₁.heap.get? D = none := by
            cases e : s₁.heap.get? D with
            | none => rfl
            | some o => have hD' : h'.get? D = none := hD; rw [hk _ _ e] at hD'; cases hD'
          rw [filter_true] at hF
          have hys := compL_ok hc hlen (fun j u hj => by obtain ⟨_, t, e⟩ := hP j u hj; exact ⟨t, by rw [e, Int.mul_one]⟩) hF
          obtain ⟨oL, es', ep, hoL, hoL2⟩ := hn₁
          obtain ⟨oL', es'', ep', hoL', _⟩ := id hns
          -- the heap with the old locals
          let hm := h₅.update C.env.locals fun _ => oL
          have gm : ∀ b, b ≠ C.env.locals → hm.get? b = h₅.get? b := fun b hb => Heap.get?_update_ne _ _ _ _ hb
          have gL : hm.get? C.env.locals = some oL := Heap.get?_update_self _ hoL' (Obj.isFreed_of_dict hoL2.1)
          have hkm : ∀ b o, s₁.heap.get? b = some o → hm.get? b = some o := fun b o e => by
            by_cases hb : b = C.env.locals
            · subst hb; rw [hoL] at e; cases e; exact gL
            · rw [gm b hb]; exact hk₆ b o hb e
          have R₅ := R₁.kept (tk := tk₅) hkm
          have SD := R₁.side hDs
          have hplm : hm.PlainList D ys := hplD.at fun o e => by rw [gm D SD.ne]; exact e
          have W := R₅.adopt hDs SD (mo := .list xs) fun φ' _ => ⟨ys, hplm, hys φ' hm⟩
          have hsb : Heap.SameBut C.env.locals hm h₅ := ⟨(Heap.SameBut.update h₅ C.env.locals fun _ => oL).1.symm, fun b hb => (gm b hb).symm⟩
          have hL5 : hm.Ns C.env.locals m₁ := ⟨oL, es', ep, gL, hoL2⟩
          have Rm := W.1
          obtain ⟨m₂, hn₂, hm₂⟩ := Rm.loc
          have hlast : (φ₁ ++ [D])[st₁.mem.length]? = some D := by rw [← R₁.memlen]; simp
          have Z := Rm.store O (tk := tk₅) hy (v := .ref D) (p := .fl (.ref st₁.mem.length)) ⟨D, hlast, rfl⟩ hL5 (fun k' x' pv e1 e2 => by
            obtain ⟨u, eu, ru⟩ := hm₁ k' x' pv e1 e2
            exact ⟨u, eu, ru.mono (List.prefix_append ..) (Keep.all hkm)⟩) hns hsb
          exact ⟨φ₁ ++ [D], (X₁.toExt.trans (W.2 s₁.heap hkm hDs).toExt).trans Z.2, Z.1, trivial⟩
    · cases hm'

/-! calls -/
inductive Locs (φ : List Addr) (h : Heap) : List (Option Value) → List (Option PV) → Prop
  | nil : Locs φ h [] []
  | skip {v vs ps} : Locs φ h vs ps → Locs φ h (v :: vs) (none :: ps)
  | cons {v p vs ps} : RV φ h v p → Locs φ h vs ps → Locs φ h (some v :: vs) (some p :: ps)
theorem Locs.len {φ : List Addr} {h : Heap} {vs : List (Option Value)} {ps : List (Option PV)} (x : Locs φ h vs ps) : ps.length = vs.length := by
  induction x <;> simp_all
theorem Locs.get {φ : List Addr} {h : Heap} {vs : List (Option Value)} {ps : List (Option PV)} (x : Locs φ h vs ps) : ∀ {k : Nat} {p : PV}, ps[k]? = some (some p) → ∃ v, vs[k]? = some (some v) ∧ RV φ h v p := by
  induction x with
  | nil => intro k p e; simp at e
  | skip _ ih => intro k p e; cases k with
    | zero => simp at e
    | succ k => obtain ⟨v, a, b⟩ := ih (k := k) (by simpa using e); exact ⟨v, by simpa using a, b⟩
  | cons hv _ ih => intro k p e; cases k with
    | zero => simp at e; subst e; exact ⟨_, rfl, hv⟩
    | succ k => obtain ⟨v, a, b⟩ := ih (k := k) (by simpa using e); exact ⟨v, by simpa using a, b⟩
theorem Locs.mono {φ φ' : List Addr} {h h' : Heap} (hp : φ <+: φ') (hk : Keep h h') {vs : List (Option Value)} {ps : List (Option PV)} (x : Locs φ h vs ps) : Locs φ' h' vs ps := by
  induction x with
  | nil => exact .nil
  | skip _ ih => exact .skip ih
  | cons hv _ ih => exact .cons (hv.mono hp hk) ih

def retV : Fl → PV
  | .ret v => v
  | _ => .fl .none

/-- a def of the text, as the caller's heap holds it -/
structure DefAt (C : Cx) (a : Addr) (fd : FuncData) (body : List Stmt) : Prop where
  here : ∃ o, C.s₀.heap.get? a = some o ∧ o.data = .func fd
  code : C.s₀.heap.CodeRec fd.code fd.qualname
  body : fd.body = .stmts body
  closed : fd.closure = []
  globals : fd.globals = C.env.globals
  builtins : fd.builtins = C.env.builtins
  co : fd.scope.isCoroutine = false
  gen : fd.scope.isGenerator = false
  kind : fd.scope.kind = .function

/-- the callee's block, for each cell a fixed value -/
def BodyOk (C : Cx) (fd : FuncData) (a : Addr) (names : List Str) (cells : List (Str × FV)) (body : List Stmt) (m : Mo Fl) : Prop :=
  ∀ C' : Cx, C'.Ok → C'.prog = C.prog → C'.w = C.w → C'.names = names → C'.env = callEnvC fd C'.env.locals a → C'.mg = C.mg → C'.mb = C.mb → C'.K = C.K →
    (∀ b o, C.s₀.heap.get? b = some o → C'.s₀.heap.get? b = some o) → (∀ x f, (x, f) ∈ cells → IsCellVar C' x f) → C'.A.depth ≤ C.A.depth + 2 → C'.A.units ≤ C.A.units + 4 → EvB C' body m

theorem code_ok (O : C.Ok) (hd1 : C.A.depth + 10 < recursionLimit) (hu1 : C.A.units + 68 < cLine) {B : Around} (hBh : B.handled = none) (hBd : B.depth ≤ C.A.depth + 1) (hBu : B.units ≤ C.A.units + 1) {a : Addr} {fd : FuncData} {body : List Stmt} (D : DefAt C a fd body) {names : List Str} {cells : List (Str × FV)} {m : Mo Fl}
    (hB : BodyOk C fd a names cells body m) (hnd : names.Nodup) (hloc : ∀ x ∈ names, fd.scope.names.lookup x = some .local)
    {vals : List Value} {binds : List (Str × Value)} 
    (hkind : ∀ n, ∀ x ∈ binds, fd.scope.names.lookup x.1 = some .local ∨ (fd.scope.names.lookup x.1 = some .cell ∧ ((cellsFrom (n + 1) fd.scope.names []).lookup x.1).isSome = true))
    {φ st s} (R : Rep C φ st s) (hbind : BindsTo s fd ⟨vals, []⟩ binds) {lv : List (Option Value)} {lp : List (Option PV)} (hlv : names.map (bindL (fun x => fd.scope.names.lookup x) binds fun _ => none) = lv) (hL : Locs φ s.heap lv lp)
    (hcells : ∀ x f, (x, f) ∈ cells → fd.scope.names.lookup x = some .cell ∧ ∀ n, ∃ c v, (cellsFrom (n + 1) fd.scope.names []).lookup x = some c ∧ bindC (fun x => fd.scope.names.lookup x) binds (fun _ => none) x = some v ∧ RF [] v f)
    {fl : Fl} {st₁ : St} (hm : m ⟨lp, st.mem⟩ = some (fl, st₁)) :
    codeAny C.M B (.call (.ref a) ⟨vals, []⟩) (fun r s' => match r with | .ok (.ret v) => PostV C φ s.heap { st with mem := st₁.mem } (retV fl) v s' | .ok _ => False | .error _ => False) s := by
  obtain ⟨o, ho, hdat⟩ := D.here
  refine codeAny_call_function (by omega) (R.keep _ _ ho) hdat D.co D.gen D.body (D.code.keeps R.keep) (hbind _ _ _ _ ?_)
  rw [D.closed]
  refine wpAny_newFunctionEnv_cells D.kind (hkind _) fun env he s₁ x => ?_
  subst he
  replace x : InCallC s (callEnvC fd s.heap.objs.size a).locals (bindL (callEnvC fd s.heap.objs.size a).kindOf binds fun _ => none) (callEnvC fd s.heap.objs.size a).cells (bindC (callEnvC fd s.heap.objs.size a).kindOf binds fun _ => none) s₁ := x
  refine ⟨(O.nolimit.keeps R.keep).keeps x.toInCall.keep, codeAny_func ?_⟩
  show wpAny (model C.prog C.w) (B.deeper (callEnvC fd s.heap.objs.size a)) (execs body (callEnvC fd s.heap.objs.size a)) _ _ s₁
  have hsz : (callEnvC fd s.heap.objs.size a).locals = s.heap.objs.size := rfl
  have hkind' : (callEnvC fd s.heap.objs.size a).kindOf = fun x => fd.scope.names.lookup x := rfl
  rw [hkind'] at x
  obtain ⟨h₁, tk₁, es₁⟩ := x.toInCall.same
  let L' := s.heap.objs.size
  let base := hideAll s₁.heap (L' :: φ)
  have hφlt : ∀ b ∈ φ, b ≠ L' := fun b hb e => by
    have := (R.side (get?_size s.heap)).out
    have e' : b = s.heap.objs.size := e
    exact this (e' ▸ hb)
  have hbk : ∀ b o, s.heap.get? b = some o → b ∉ φ → base.get? b = some o := fun b o e hb =>
    hideAll_get _ (x.toInCall.keep b o e) (fun hm => by
      rcases List.mem_cons.mp hm with e' | hm
      · subst e'; exact absurd (Heap.lt_size e) (Nat.lt_irrefl _)
      · exact hb hm)
  have hs₀φ : ∀ b o, C.s₀.heap.get? b = some o → b ∉ φ := fun b o e hb => by rw [(R.fresh b hb).1] at e; cases e
  have hkb : ∀ b o, C.s₀.heap.get? b = some o → base.get? b = some o := fun b o e => hbk b o (R.keep b o e) (hs₀φ b o e)
  let A' := B.deeper (callEnvC fd s.heap.objs.size a)
  let C' : Cx := { prog := C.prog, w := C.w, A := A', env := callEnvC fd s.heap.objs.size a, names := names, s₀ := { s₁ with heap := base }, mg := C.mg, mb := C.mb, K := C.K }
  have O' : C'.Ok := by
    refine ⟨hBh, ?_, ?_, D.kind, hnd, hloc, hideAll_none _ (List.mem_cons_self ..), ?_, ?_, O.nolimit.keeps hkb, O.kin.keeps hkb⟩
    · show B.depth + 1 + 8 < recursionLimit; omega
    · show B.units + 3 + 64 < cLine; omega
    · show base.Ns fd.globals C.mg
      rw [D.globals]; exact O.g.keeps hkb
    · show base.Ns fd.builtins C.mb
      rw [D.builtins]; exact O.b.keeps hkb
  have K₁ : Keep s.heap s₁.heap := Keep.all x.toInCall.keep
  have R' : Rep C' φ ⟨lp, st.mem⟩ s₁ := by
    refine ⟨⟨s₁.heap, s₁.toks, rfl⟩, fun b o e => of_hideAll _ e, ?_, ⟨_, x.toInCall.ns, fun k y pv e1 e2 => ?_⟩, R.nd, R.memlen, fun k mo b e1 e2 => ?_, fun b hb => ⟨hideAll_none _ (List.mem_cons_of_mem _ hb), hφlt b hb⟩⟩
    · show lp.length = names.length
      rw [hL.len, ← hlv]; simp
    · obtain ⟨v, hv, hr⟩ := hL.get e2
      refine ⟨v, ?_, hr.mono (pre_refl _) K₁⟩
      rw [← hlv] at hv
      have e1' : names[k]? = some y := e1
      simp only [List.getElem?_map, e1', Option.map_some] at hv
      exact Option.some.inj hv
    · exact (R.mem k mo b e1 e2).mono (pre_refl _) K₁ fun o e => x.toInCall.keep b o e
  have hcv : ∀ y f, (y, f) ∈ cells → IsCellVar C' y f := fun y f hyf => by
    obtain ⟨h1, h2⟩ := hcells y f hyf
    obtain ⟨c, v, h3, h4, h5⟩ := h2 s.heap.objs.size
    refine ⟨h1, c, v, h3, ?_, h5⟩
    have hc := x.cell y c h3
    rw [h4] at hc
    obtain ⟨oc, hoc, hdc⟩ := hc
    refine ⟨oc, hideAll_get _ hoc fun hm => ?_, hdc⟩
    rcases List.mem_cons.mp hm with e | hm
    · have := x.above y c (mem_of_lookup h3)
      exact absurd e (Nat.ne_of_gt this)
    · obtain ⟨k, hk, e⟩ := List.getElem_of_mem hm
      have e' : φ[k]? = some c := by rw [List.getElem?_eq_getElem hk, e]
      obtain ⟨mo, hmo⟩ := R.memAddr e'
      obtain ⟨o6, h6, h7, _⟩ := (R'.mem k mo c hmo e').get
      rw [hoc] at h6; cases h6
      exact h7 _ hdc
  have E := hB C' O' rfl rfl rfl rfl rfl rfl rfl hkb hcv (by show B.depth + 1 ≤ _; omega) (by show B.units + 3 ≤ _; omega)
  refine wpAny_mono (E φ _ s₁ fl st₁ R' hm) (fun cf s₂ hp => ?_) fun _ _ x => x.elim
  obtain ⟨φ₂, X₂, R₂, r₂⟩ := hp
  have hLs : ∀ b o, s.heap.get? b = some o → b ∉ φ → s₂.heap.get? b = some o := fun b o e hb => R₂.keep b o (hbk b o e hb)
  obtain ⟨oL, hoL⟩ : ∃ oL, s.heap.get? C.env.locals = some oL := by obtain ⟨_, ⟨oL, _, _, h, _⟩, _⟩ := R.loc; exact ⟨oL, h⟩
  have hLφ : C.env.locals ∉ φ := fun hm => (R.fresh _ hm).2 rfl
  have hnew : ∀ b, b ∈ φ₂ → b ∉ φ → s.heap.get? b = none := fun b h1 h2 => by
    have := (X₂.new b h1 h2).1
    cases e : s.heap.get? b with
    | none => rfl
    | some o => rw [x.toInCall.keep _ _ e] at this; cases this
  have XX : ExtE C φ s.heap φ₂ s₂.heap := by
    refine ⟨⟨X₂.pre, K₁.trans X₂.tup, fun b o h1 _ e => hLs b o e h1, fun b h1 h2 => ⟨hnew b h1 h2, fun e => ?_⟩⟩, fun o e => hLs _ o e hLφ⟩
    have := hnew b h1 h2
    rw [e, hoL] at this; cases this
  refine ⟨φ₂, XX, ?_, ?_⟩
  · refine ⟨?_, fun b o e => hLs b o (R.keep b o e) (hs₀φ b o e), R.len, ?_, R₂.nd, R₂.memlen, R₂.mem, fun b hb => ?_⟩
    · obtain ⟨h, tk, e⟩ := R₂.same
      obtain ⟨h0, tk0, e0⟩ := R.same
      exact ⟨h, tk, by rw [e]; show ({ s₁ with heap := h, toks := tk } : Shared) = _; rw [es₁, e0]⟩
    · obtain ⟨m₀, hn, hm₀⟩ := R.loc
      exact ⟨m₀, hn.at' fun o e => hLs _ o e hLφ, fun k y pv e1 e2 => let ⟨v, e, r⟩ := hm₀ k y pv e1 e2; ⟨v, e, r.mono XX.pre XX.tup⟩⟩
    · by_cases hb2 : b ∈ φ
      · exact R.fresh b hb2
      · refine ⟨?_, (XX.new b hb hb2).2⟩
        cases e : C.s₀.heap.get? b with
        | none => rfl
        | some o => have := hnew b hb hb2; rw [R.keep _ _ e] at this; cases this
  · cases fl with
    | next => cases cf with | next => exact RV.none | _ => exact r₂.elim
    | brk => cases cf with | brk => exact RV.none | _ => exact r₂.elim
    | cont => cases cf with | cont => exact RV.none | _ => exact r₂.elim
    | ret v => cases cf with | ret v => exact r₂ | _ => exact r₂.elim
end
end Mine

/-! Ref8 -/
namespace Mine

def stAt (p : Program) (i : Nat) : Stmt := p.main.body.getD i (.Pass default)
def blockOf (s : Stmt) : List Stmt := match s with
  | .FunctionDef _ _ b _ _ _ _ _ _ _ => b
  | .ClassDef _ _ _ b _ _ _ _ _ _ _ => b
  | _ => []
def scopeOf (s : Stmt) : Scope := match s with
  | .FunctionDef _ _ _ _ _ _ sc _ _ _ => sc
  | _ => default
def paramsOf (s : Stmt) : Arguments := match s with
  | .FunctionDef _ ps _ _ _ _ _ _ _ _ => ps
  | _ => default
def stParams (p : Program) (i : Nat) : Arguments := paramsOf (stAt p i)
def stBody (p : Program) (i : Nat) : List Stmt := Mine.blockOf (stAt p i)
def stScope (p : Program) (i : Nat) : Scope := scopeOf (stAt p i)
def clAt (p : Program) (i j : Nat) : Stmt := (Mine.blockOf (stAt p i)).getD j (.Pass default)
def clParams (p : Program) (i j : Nat) : Arguments := paramsOf (clAt p i j)
def clBody (p : Program) (i j : Nat) : List Stmt := Mine.blockOf (clAt p i j)
def clScope (p : Program) (i j : Nat) : Scope := scopeOf (clAt p i j)

theorem sw_hx {names : List Str} : ∀ {ks : List Nat} {xs : List Str}, ks.map (fun k => names[k]?) = xs.map some → ∀ (i : Nat) k x, ks[i]? = some k → xs[i]? = some x → names[k]? = some x := by
  intro ks xs h i k x e1 e2
  have h' := congrArg (fun l => l[i]?) h
  simp only [List.getElem?_map, e1, e2, Option.map_some] at h'
  exact Option.some.inj h'

section
variable {C : Cx}
theorem names0 {x : Str} (h : C.names = [x]) : C.names[0]? = some x := by rw [h]; rfl

theorem CompScope.zero {scope : Scope} {x : Str} (hn : scope.names = [((".0" : Str), .local), (x, .local)]) (hk : scope.kind = .function) : CompScope C scope [] x := by
  refine ⟨closureFor_none fun z hz => ?_, fun z hz => ?_, hk, fun z hz _ => ?_, ?_⟩
  · rw [hn] at hz; simp at hz; rcases hz with rfl | rfl <;> simp
  · rw [hn] at hz; simp at hz; rcases hz with rfl | rfl <;> simp
  · rw [hn] at hz ⊢; simp at hz
    rcases hz with rfl | rfl
    · simp [List.lookup_cons]
    · simp only [List.lookup_cons, beq_self_eq_true]; split <;> rfl
  · rw [hn]; simp only [List.lookup_cons, beq_self_eq_true]; split <;> rfl

theorem CompScope.one {scope : Scope} {x y : Str} {c : Addr} (hn : scope.names = [((".0" : Str), .local), (x, .local), (y, .free)]) (hk : scope.kind = .function) (hc : C.env.cells.lookup y = some c) :
    CompScope C scope [(y, c)] x := by
  refine ⟨?_, fun z hz => ?_, hk, fun z hz hl => ?_, ?_⟩
  · have e1 : (NameKind.local == NameKind.free) = false := rfl
    have e2 : (NameKind.free == NameKind.free) = true := rfl
    simp only [closureFor, hn, List.forIn_cons, List.forIn_nil, e1, e2, cellOf, hc, pure_bind, if_true, Bool.false_eq_true, if_false]
  · rw [hn] at hz; simp at hz; rcases hz with rfl | rfl | rfl <;> simp
  · rw [hn] at hz ⊢; simp at hz
    rcases hz with rfl | rfl | rfl
    · simp [List.lookup_cons]
    · simp only [List.lookup_cons, beq_self_eq_true]; split <;> rfl
    · cases hl
  · rw [hn]; simp only [List.lookup_cons, beq_self_eq_true]; split <;> rfl

theorem comp_cell (O : C.Ok) {scope : Scope} {x y : Str} {c : Addr} {f : FV} (hv : IsCellVar C y f) (hc : C.env.cells.lookup y = some c) (hn : scope.names = [((".0" : Str), .local), (x, .local), (y, .free)])
    (h0 : (y == (".0" : Str)) = false) (h1 : (y == x) = false) {C' : Cx} (he : C'.env = compEnvC scope [(y, c)] C'.env.locals C.env) (hk : ∀ b o, C.s₀.heap.get? b = some o → C'.s₀.heap.get? b = some o) : IsCellVar C' y f := by
  obtain ⟨c', cv, h2, h3, h4⟩ := hv.at_
  rw [hc] at h2; cases h2
  refine ⟨?_, c, cv, ?_, h3.keeps hk, h4⟩
  · rw [he]
    show (relabel scope C.env).names.lookup y = some .cell
    unfold relabel
    have hky : C.env.kindOf y = some .cell := hv.kind
    simp only [hn, List.map_cons, List.map_nil, O.hk, hky, List.lookup_cons]
    have e1 : (NameKind.local == NameKind.free) = false := rfl
    simp [e1, h0, h1, List.lookup_cons]
  · rw [he]
    show List.lookup y [(y, c)] = some c
    simp [List.lookup_cons]
end
end Mine

/-! Fn1 -/
namespace Mine

def psp_names : List Str := [Str.ofString "string_1", Str.ofString "string_2", Str.ofString "len_1", Str.ofString "len_2", Str.ofString "start"]
def psp_body : List Stmt := stBody PySem.Challenge.pw_fe0312_01 3
def psp_scope : Scope := stScope PySem.Challenge.pw_fe0312_01 3
def psp_params : Arguments := stParams PySem.Challenge.pw_fe0312_01 3
noncomputable def psp_m (n1 : Nat) (n2 : Nat)  : Mo Fl :=
  (blkM [(asg1 (bltM "len" [(getL 0)]) (setL 2)),
  (asg1 (bltM "len" [(getL 1)]) (setL 3)),
  (whileM n1 (andM [(cmpM .NotEq (getL 2) (cst (.fl (.int 0)))), (cmpM .Eq (subM (getL 0) (binM .Sub (getL 2) (cst (.fl (.int 1))))) (subM (getL 1) (binM .Sub (getL 3) (cst (.fl (.int 1))))))]) (blkM [(augM .Sub 2 (cst (.fl (.int 1)))),
  (augM .Sub 3 (cst (.fl (.int 1))))])),
  (asg1 (cst (.fl (.int 0))) (setL 4)),
  (whileM n2 (andM [(cmpM .NotEq (getL 4) (getL 2)), (cmpM .Eq (subM (getL 0) (getL 4)) (subM (getL 1) (getL 4)))]) (blkM [(augM .Add 4 (cst (.fl (.int 1))))])),
  (iteM (cmpM .NotEq (getL 4) (cst (.fl (.int 0)))) (blkM [(augM .Sub 2 (getL 4)),
  (augM .Sub 3 (getL 4))]) (blkM [])),
  (retM (tupM [(getL 2), (getL 3), (getL 4)]))])
theorem psp_ok {prog : Program} {w : World} {A : Around} {L gl blt : Addr} {cells : List (Str × Addr)} {qual : Str} {func frame : Option Addr} {code : Value} {s₀ : Shared} {mg mb : Str → Option Value} {K : Frag} (n1 : Nat) (n2 : Nat) 
    {C : Cx} (hC : C = ⟨prog, w, A, ⟨psp_scope, L, gl, cells, qual, func, code, frame, blt⟩, psp_names, s₀, mg, mb, K⟩) (O : C.Ok) (b_len : IsBuiltin C "len" (.builtin "len")) : EvB C psp_body (psp_m n1 n2) := by
  subst hC
  exact (EvB.cons (EvS.assign (EvE.blt O b_len (by decide) (EvEs.cons (EvE.loc O rfl (by decide)) rfl EvEs.nil) (List.cons_ne_nil _ _)) (EvTg.name O rfl) rfl rfl rfl)
  (EvB.cons (EvS.assign (EvE.blt O b_len (by decide) (EvEs.cons (EvE.loc O rfl (by decide)) rfl EvEs.nil) (List.cons_ne_nil _ _)) (EvTg.name O rfl) rfl rfl rfl)
  (EvB.cons (EvS.while n1 (EvT.and (EvTs.cons (EvT.cmp (EvE.loc O rfl (by decide)) EvE.int rfl) (EvTs.cons (EvT.cmp (EvE.sub (EvE.loc O rfl (by decide)) (EvE.bin (EvE.loc O rfl (by decide)) EvE.int) (fun _ _ => rfl)) (EvE.sub (EvE.loc O rfl (by decide)) (EvE.bin (EvE.loc O rfl (by decide)) EvE.int) (fun _ _ => rfl)) rfl) EvTs.nil))) (EvB.cons (EvS.aug O rfl EvE.int)
  (EvB.cons (EvS.aug O rfl EvE.int)
  EvB.nil)))
  (EvB.cons (EvS.assign EvE.int (EvTg.name O rfl) rfl rfl rfl)
  (EvB.cons (EvS.while n2 (EvT.and (EvTs.cons (EvT.cmp (EvE.loc O rfl (by decide)) (EvE.loc O rfl (by decide)) rfl) (EvTs.cons (EvT.cmp (EvE.sub (EvE.loc O rfl (by decide)) (EvE.loc O rfl (by decide)) (fun _ _ => rfl)) (EvE.sub (EvE.loc O rfl (by decide)) (EvE.loc O rfl (by decide)) (fun _ _ => rfl)) rfl) EvTs.nil))) (EvB.cons (EvS.aug O rfl EvE.int)
  EvB.nil))
  (EvB.cons (EvS.ite (EvT.cmp (EvE.loc O rfl (by decide)) EvE.int rfl) (EvB.cons (EvS.aug O rfl (EvE.loc O rfl (by decide)))
  (EvB.cons (EvS.aug O rfl (EvE.loc O rfl (by decide)))
  EvB.nil)) EvB.nil)
  (EvB.cons (EvS.ret (EvE.tuple (EvEs.cons (EvE.loc O rfl (by decide)) rfl (EvEs.cons (EvE.loc O rfl (by decide)) rfl (EvEs.cons (EvE.loc O rfl (by decide)) rfl EvEs.nil)))))
  EvB.nil)))))))

def ndr_names : List Str := [Str.ofString "string_1", Str.ofString "string_2", Str.ofString "max_distance"]
def ndr_body : List Stmt := stBody PySem.Challenge.pw_fe0312_01 2
def ndr_scope : Scope := stScope PySem.Challenge.pw_fe0312_01 2
def ndr_params : Arguments := stParams PySem.Challenge.pw_fe0312_01 2
noncomputable def ndr_m   : Mo Fl :=
  (blkM [(iteM (cmpM .Is (getL 0) (cst (.fl .none))) (blkM [(iteM (cmpM .Is (getL 1) (cst (.fl .none))) (blkM [(retM (cst (.fl (.int 0))))]) (blkM [])),
  (retM (iteM (cmpM .LtE (bltM "len" [(getL 1)]) (getL 2)) (bltM "len" [(getL 1)]) (cst (.fl (.int (-1))))))]) (blkM [])),
  (retM (iteM (cmpM .LtE (bltM "len" [(getL 0)]) (getL 2)) (bltM "len" [(getL 0)]) (cst (.fl (.int (-1))))))])
theorem ndr_ok {prog : Program} {w : World} {A : Around} {L gl blt : Addr} {cells : List (Str × Addr)} {qual : Str} {func frame : Option Addr} {code : Value} {s₀ : Shared} {mg mb : Str → Option Value} {K : Frag}  
    {C : Cx} (hC : C = ⟨prog, w, A, ⟨ndr_scope, L, gl, cells, qual, func, code, frame, blt⟩, ndr_names, s₀, mg, mb, K⟩) (O : C.Ok) (b_len : IsBuiltin C "len" (.builtin "len")) : EvB C ndr_body (ndr_m ) := by
  subst hC
  exact (EvB.cons (EvS.ite (EvT.cmp (EvE.loc O rfl (by decide)) EvE.noneC rfl) (EvB.cons (EvS.ite (EvT.cmp (EvE.loc O rfl (by decide)) EvE.noneC rfl) (EvB.cons (EvS.ret EvE.int)
  EvB.nil) EvB.nil)
  (EvB.cons (EvS.ret (EvE.ifExp (EvT.cmp (EvE.blt O b_len (by decide) (EvEs.cons (EvE.loc O rfl (by decide)) rfl EvEs.nil) (List.cons_ne_nil _ _)) (EvE.loc O rfl (by decide)) rfl) (EvE.blt O b_len (by decide) (EvEs.cons (EvE.loc O rfl (by decide)) rfl EvEs.nil) (List.cons_ne_nil _ _)) EvE.neg))
  EvB.nil)) EvB.nil)
  (EvB.cons (EvS.ret (EvE.ifExp (EvT.cmp (EvE.blt O b_len (by decide) (EvEs.cons (EvE.loc O rfl (by decide)) rfl EvEs.nil) (List.cons_ne_nil _ _)) (EvE.loc O rfl (by decide)) rfl) (EvE.blt O b_len (by decide) (EvEs.cons (EvE.loc O rfl (by decide)) rfl EvEs.nil) (List.cons_ne_nil _ _)) EvE.neg))
  EvB.nil))

def lvd_names : List Str := [Str.ofString "string_1", Str.ofString "string_2", Str.ofString "len_1", Str.ofString "len_2", Str.ofString "start", Str.ofString "char_1_costs", Str.ofString "current_cost", Str.ofString "i", Str.ofString "left_char_cost", Str.ofString "above_char_cost", Str.ofString "char_1", Str.ofString "j"]
def lvd_body : List Stmt := clBody PySem.Challenge.pw_fe0312_01 18 2
def lvd_scope : Scope := clScope PySem.Challenge.pw_fe0312_01 18 2
def lvd_params : Arguments := clParams PySem.Challenge.pw_fe0312_01 18 2
noncomputable def lvd_m   : Mo Fl :=
  (blkM [(asg1 (compM [(getL 3)] (binM .Add (getL 0) (cst (.fl (.int 1))))) (setL 5)),
  (asg1 (cst (.fl (.int 0))) (setL 6)),
  (forRangeM [(getL 2)] (setL 7) (blkM [(asg2 (getL 7) (setL 8) (setL 9)),
  (asg1 (subM (getL 0) (binM .Add (getL 4) (getL 7))) (setL 10)),
  (forRangeM [(getL 3)] (setL 11) (blkM [(asg1 (getL 8) (setL 6)),
  (asg1 (subM (getL 5) (getL 11)) (setL 8)),
  (iteM (cmpM .NotEq (subM (getL 1) (binM .Add (getL 4) (getL 11))) (getL 10)) (blkM [(iteM (cmpM .Lt (getL 9) (getL 6)) (blkM [(asg1 (getL 9) (setL 6))]) (blkM [])),
  (iteM (cmpM .Lt (getL 8) (getL 6)) (blkM [(asg1 (getL 8) (setL 6))]) (blkM [])),
  (augM .Add 6 (cst (.fl (.int 1))))]) (blkM [])),
  (asg2 (getL 6) (setItemM (getL 5) (getL 11)) (setL 9))]))])),
  (retM (getL 6))])
theorem lvd_ok {prog : Program} {w : World} {A : Around} {L gl blt : Addr} {cells : List (Str × Addr)} {qual : Str} {func frame : Option Addr} {code : Value} {s₀ : Shared} {mg mb : Str → Option Value} {K : Frag}  
    {C : Cx} (hC : C = ⟨prog, w, A, ⟨lvd_scope, L, gl, cells, qual, func, code, frame, blt⟩, lvd_names, s₀, mg, mb, K⟩) (O : C.Ok) (b_range : IsBuiltin C "range" (.type "range")) : EvB C lvd_body (lvd_m ) := by
  subst hC
  exact (EvB.cons (EvS.compAssign O b_range rfl (EvEs.cons (EvE.loc O rfl (by decide)) rfl EvEs.nil) (List.cons_ne_nil _ _) (CompScope.zero rfl rfl) (fun C2 O2 _ _ _ hn2 he2 _ _ hk2 => (EvE.bin (EvE.loc O2 (names0 hn2) (by decide)) EvE.int)) rfl (fun _ => rfl))
  (EvB.cons (EvS.assign EvE.int (EvTg.name O rfl) rfl rfl rfl)
  (EvB.cons (EvS.forRange O b_range (EvEs.cons (EvE.loc O rfl (by decide)) rfl EvEs.nil) (List.cons_ne_nil _ _) (EvTg.name O rfl) (EvB.cons (EvS.assign2 (EvE.loc O rfl (by decide)) (EvTg.name O rfl) (EvTg.name O rfl) rfl rfl)
  (EvB.cons (EvS.assign (EvE.sub (EvE.loc O rfl (by decide)) (EvE.bin (EvE.loc O rfl (by decide)) (EvE.loc O rfl (by decide))) (fun _ _ => rfl)) (EvTg.name O rfl) rfl rfl rfl)
  (EvB.cons (EvS.forRange O b_range (EvEs.cons (EvE.loc O rfl (by decide)) rfl EvEs.nil) (List.cons_ne_nil _ _) (EvTg.name O rfl) (EvB.cons (EvS.assign (EvE.loc O rfl (by decide)) (EvTg.name O rfl) rfl rfl rfl)
  (EvB.cons (EvS.assign (EvE.sub (EvE.loc O rfl (by decide)) (EvE.loc O rfl (by decide)) (fun _ _ => rfl)) (EvTg.name O rfl) rfl rfl rfl)
  (EvB.cons (EvS.ite (EvT.cmp (EvE.sub (EvE.loc O rfl (by decide)) (EvE.bin (EvE.loc O rfl (by decide)) (EvE.loc O rfl (by decide))) (fun _ _ => rfl)) (EvE.loc O rfl (by decide)) rfl) (EvB.cons (EvS.ite (EvT.cmp (EvE.loc O rfl (by decide)) (EvE.loc O rfl (by decide)) rfl) (EvB.cons (EvS.assign (EvE.loc O rfl (by decide)) (EvTg.name O rfl) rfl rfl rfl)
  EvB.nil) EvB.nil)
  (EvB.cons (EvS.ite (EvT.cmp (EvE.loc O rfl (by decide)) (EvE.loc O rfl (by decide)) rfl) (EvB.cons (EvS.assign (EvE.loc O rfl (by decide)) (EvTg.name O rfl) rfl rfl rfl)
  EvB.nil) EvB.nil)
  (EvB.cons (EvS.aug O rfl EvE.int)
  EvB.nil))) EvB.nil)
  (EvB.cons (EvS.assign2 (EvE.loc O rfl (by decide)) (EvTg.sub (EvE.loc O rfl (by decide)) (EvE.loc O rfl (by decide))) (EvTg.name O rfl) rfl rfl)
  EvB.nil)))) (fun _ _ => rfl) (fun _ => rfl))
  EvB.nil))) (fun _ _ => rfl) (fun _ => rfl))
  (EvB.cons (EvS.ret (EvE.loc O rfl (by decide)))
  EvB.nil))))

def lvm_names : List Str := [Str.ofString "string_1", Str.ofString "string_2", Str.ofString "len_1", Str.ofString "len_2", Str.ofString "start", Str.ofString "char_1_costs", Str.ofString "len_diff", Str.ofString "j_start_offset", Str.ofString "j_start", Str.ofString "j_end", Str.ofString "current_cost", Str.ofString "i", Str.ofString "char_1", Str.ofString "prev_char_1_cost", Str.ofString "above_char_cost", Str.ofString "j"]
def lvm_body : List Stmt := clBody PySem.Challenge.pw_fe0312_01 18 3
def lvm_scope : Scope := clScope PySem.Challenge.pw_fe0312_01 18 3
def lvm_params : Arguments := clParams PySem.Challenge.pw_fe0312_01 18 3
noncomputable def lvm_m  (c_max_distance : FV) : Mo Fl :=
  (blkM [(asg1 (compM [(getL 3)] (iteM (cmpM .Lt (getL 0) (cst (.fl c_max_distance))) (binM .Add (getL 0) (cst (.fl (.int 1)))) (binM .Add (cst (.fl c_max_distance)) (cst (.fl (.int 1)))))) (setL 5)),
  (asg1 (binM .Sub (getL 3) (getL 2)) (setL 6)),
  (asg1 (binM .Sub (cst (.fl c_max_distance)) (getL 6)) (setL 7)),
  (asg1 (cst (.fl (.int 0))) (setL 8)),
  (asg1 (cst (.fl c_max_distance)) (setL 9)),
  (asg1 (cst (.fl (.int 0))) (setL 10)),
  (forRangeM [(getL 2)] (setL 11) (blkM [(asg1 (subM (getL 0) (binM .Add (getL 4) (getL 11))) (setL 12)),
  (asg2 (getL 11) (setL 13) (setL 14)),
  (augM .Add 8 (iteM (cmpM .Gt (getL 11) (getL 7)) (cst (.fl (.int 1))) (cst (.fl (.int 0))))),
  (augM .Add 9 (iteM (cmpM .Lt (getL 9) (getL 3)) (cst (.fl (.int 1))) (cst (.fl (.int 0))))),
  (forRangeM [(getL 8), (getL 9)] (setL 15) (blkM [(asg1 (getL 13) (setL 10)),
  (asg1 (subM (getL 5) (getL 15)) (setL 13)),
  (iteM (cmpM .NotEq (subM (getL 1) (binM .Add (getL 4) (getL 15))) (getL 12)) (blkM [(iteM (cmpM .Lt (getL 14) (getL 10)) (blkM [(asg1 (getL 14) (setL 10))]) (blkM [])),
  (iteM (cmpM .Lt (getL 13) (getL 10)) (blkM [(asg1 (getL 13) (setL 10))]) (blkM [])),
  (augM .Add 10 (cst (.fl (.int 1))))]) (blkM [])),
  (asg2 (getL 10) (setItemM (getL 5) (getL 15)) (setL 14))])),
  (iteM (cmpM .Gt (subM (getL 5) (binM .Add (getL 11) (getL 6))) (cst (.fl c_max_distance))) (blkM [(retM (cst (.fl (.int (-1)))))]) (blkM []))])),
  (retM (iteM (cmpM .LtE (getL 10) (cst (.fl c_max_distance))) (getL 10) (cst (.fl (.int (-1))))))])
theorem lvm_ok {prog : Program} {w : World} {A : Around} {L gl blt : Addr} {cells : List (Str × Addr)} {qual : Str} {func frame : Option Addr} {code : Value} {s₀ : Shared} {mg mb : Str → Option Value} {K : Frag}  (c_max_distance : FV)
    {C : Cx} (hC : C = ⟨prog, w, A, ⟨lvm_scope, L, gl, cells, qual, func, code, frame, blt⟩, lvm_names, s₀, mg, mb, K⟩) (O : C.Ok) (b_range : IsBuiltin C "range" (.type "range")) (hc_max_distance : IsCellVar C "max_distance" c_max_distance) : EvB C lvm_body (lvm_m c_max_distance) := by
  subst hC
  obtain ⟨cc, cv, hcc, hcell, hcf⟩ := hc_max_distance.at_
  exact (EvB.cons (EvS.compAssign O b_range rfl (EvEs.cons (EvE.loc O rfl (by decide)) rfl EvEs.nil) (List.cons_ne_nil _ _) (CompScope.one rfl rfl hcc) (fun C2 O2 _ _ _ hn2 he2 _ _ hk2 => (EvE.ifExp (EvT.cmp (EvE.loc O2 (names0 hn2) (by decide)) (EvE.cell O2 (comp_cell O hc_max_distance hcc rfl (by decide) (by decide) he2 hk2) (by decide)) rfl) (EvE.bin (EvE.loc O2 (names0 hn2) (by decide)) EvE.int) (EvE.bin (EvE.cell O2 (comp_cell O hc_max_distance hcc rfl (by decide) (by decide) he2 hk2) (by decide)) EvE.int))) rfl (fun _ => rfl))
  (EvB.cons (EvS.assign (EvE.bin (EvE.loc O rfl (by decide)) (EvE.loc O rfl (by decide))) (EvTg.name O rfl) rfl rfl rfl)
  (EvB.cons (EvS.assign (EvE.bin (EvE.cell O hc_max_distance (by decide)) (EvE.loc O rfl (by decide))) (EvTg.name O rfl) rfl rfl rfl)
  (EvB.cons (EvS.assign EvE.int (EvTg.name O rfl) rfl rfl rfl)
  (EvB.cons (EvS.assign (EvE.cell O hc_max_distance (by decide)) (EvTg.name O rfl) rfl rfl rfl)
  (EvB.cons (EvS.assign EvE.int (EvTg.name O rfl) rfl rfl rfl)
  (EvB.cons (EvS.forRange O b_range (EvEs.cons (EvE.loc O rfl (by decide)) rfl EvEs.nil) (List.cons_ne_nil _ _) (EvTg.name O rfl) (EvB.cons (EvS.assign (EvE.sub (EvE.loc O rfl (by decide)) (EvE.bin (EvE.loc O rfl (by decide)) (EvE.loc O rfl (by decide))) (fun _ _ => rfl)) (EvTg.name O rfl) rfl rfl rfl)
  (EvB.cons (EvS.assign2 (EvE.loc O rfl (by decide)) (EvTg.name O rfl) (EvTg.name O rfl) rfl rfl)
  (EvB.cons (EvS.aug O rfl (EvE.ifExp (EvT.cmp (EvE.loc O rfl (by decide)) (EvE.loc O rfl (by decide)) rfl) EvE.int EvE.int))
  (EvB.cons (EvS.aug O rfl (EvE.ifExp (EvT.cmp (EvE.loc O rfl (by decide)) (EvE.loc O rfl (by decide)) rfl) EvE.int EvE.int))
  (EvB.cons (EvS.forRange O b_range (EvEs.cons (EvE.loc O rfl (by decide)) rfl (EvEs.cons (EvE.loc O rfl (by decide)) rfl EvEs.nil)) (List.cons_ne_nil _ _) (EvTg.name O rfl) (EvB.cons (EvS.assign (EvE.loc O rfl (by decide)) (EvTg.name O rfl) rfl rfl rfl)
  (EvB.cons (EvS.assign (EvE.sub (EvE.loc O rfl (by decide)) (EvE.loc O rfl (by decide)) (fun _ _ => rfl)) (EvTg.name O rfl) rfl rfl rfl)
  (EvB.cons (EvS.ite (EvT.cmp (EvE.sub (EvE.loc O rfl (by decide)) (EvE.bin (EvE.loc O rfl (by decide)) (EvE.loc O rfl (by decide))) (fun _ _ => rfl)) (EvE.loc O rfl (by decide)) rfl) (EvB.cons (EvS.ite (EvT.cmp (EvE.loc O rfl (by decide)) (EvE.loc O rfl (by decide)) rfl) (EvB.cons (EvS.assign (EvE.loc O rfl (by decide)) (EvTg.name O rfl) rfl rfl rfl)
  EvB.nil) EvB.nil)
  (EvB.cons (EvS.ite (EvT.cmp (EvE.loc O rfl (by decide)) (EvE.loc O rfl (by decide)) rfl) (EvB.cons (EvS.assign (EvE.loc O rfl (by decide)) (EvTg.name O rfl) rfl rfl rfl)
  EvB.nil) EvB.nil)
  (EvB.cons (EvS.aug O rfl EvE.int)
  EvB.nil))) EvB.nil)
  (EvB.cons (EvS.assign2 (EvE.loc O rfl (by decide)) (EvTg.sub (EvE.loc O rfl (by decide)) (EvE.loc O rfl (by decide))) (EvTg.name O rfl) rfl rfl)
  EvB.nil)))) (fun _ _ => rfl) (fun _ => rfl))
  (EvB.cons (EvS.ite (EvT.cmp (EvE.sub (EvE.loc O rfl (by decide)) (EvE.bin (EvE.loc O rfl (by decide)) (EvE.loc O rfl (by decide))) (fun _ _ => rfl)) (EvE.cell O hc_max_distance (by decide)) rfl) (EvB.cons (EvS.ret EvE.neg)
  EvB.nil) EvB.nil)
  EvB.nil)))))) (fun _ _ => rfl) (fun _ => rfl))
  (EvB.cons (EvS.ret (EvE.ifExp (EvT.cmp (EvE.loc O rfl (by decide)) (EvE.cell O hc_max_distance (by decide)) rfl) (EvE.loc O rfl (by decide)) EvE.neg))
  EvB.nil))))))))

def osd_names : List Str := [Str.ofString "string_1", Str.ofString "string_2", Str.ofString "len_1", Str.ofString "len_2", Str.ofString "start", Str.ofString "char_1_costs", Str.ofString "prev_char_1_costs", Str.ofString "char_1", Str.ofString "current_cost", Str.ofString "i", Str.ofString "prev_char_1", Str.ofString "char_2", Str.ofString "left_char_cost", Str.ofString "above_char_cost", Str.ofString "next_trans_cost", Str.ofString "j", Str.ofString "this_trans_cost", Str.ofString "prev_char_2"]
def osd_body : List Stmt := clBody PySem.Challenge.pw_fe0312_01 19 2
def osd_scope : Scope := clScope PySem.Challenge.pw_fe0312_01 19 2
def osd_params : Arguments := clParams PySem.Challenge.pw_fe0312_01 19 2
noncomputable def osd_m   : Mo Fl :=
  (blkM [(asg1 (compM [(getL 3)] (binM .Add (getL 0) (cst (.fl (.int 1))))) (setL 5)),
  (asg1 (cst (.fl (.str (Str.ofString " ")))) (setL 7)),
  (asg1 (cst (.fl (.int 0))) (setL 8)),
  (forRangeM [(getL 2)] (setL 9) (blkM [(asg1 (getL 7) (setL 10)),
  (asg1 (subM (getL 0) (binM .Add (getL 4) (getL 9))) (setL 7)),
  (asg1 (cst (.fl (.str (Str.ofString " ")))) (setL 11)),
  (asg2 (getL 9) (setL 12) (setL 13)),
  (asg1 (cst (.fl (.int 0))) (setL 14)),
  (forRangeM [(getL 3)] (setL 15) (blkM [(asg1 (getL 14) (setL 16)),
  (asg1 (subM (getL 6) (getL 15)) (setL 14)),
  (asg2 (getL 12) (setItemM (getL 6) (getL 15)) (setL 8)),
  (asg1 (subM (getL 5) (getL 15)) (setL 12)),
  (asg1 (getL 11) (setL 17)),
  (asg1 (subM (getL 1) (binM .Add (getL 4) (getL 15))) (setL 11)),
  (iteM (cmpM .NotEq (getL 7) (getL 11)) (blkM [(iteM (cmpM .Lt (getL 13) (getL 8)) (blkM [(asg1 (getL 13) (setL 8))]) (blkM [])),
  (iteM (cmpM .Lt (getL 12) (getL 8)) (blkM [(asg1 (getL 12) (setL 8))]) (blkM [])),
  (augM .Add 8 (cst (.fl (.int 1)))),
  (iteM (andM [(cmpM .NotEq (getL 9) (cst (.fl (.int 0)))), (cmpM .NotEq (getL 15) (cst (.fl (.int 0)))), (cmpM .Eq (getL 7) (getL 17)), (cmpM .Eq (getL 10) (getL 11)), (cmpM .Lt (binM .Add (getL 16) (cst (.fl (.int 1)))) (getL 8))]) (blkM [(asg1 (binM .Add (getL 16) (cst (.fl (.int 1)))) (setL 8))]) (blkM []))]) (blkM [])),
  (asg2 (getL 8) (setItemM (getL 5) (getL 15)) (setL 13))]))])),
  (retM (getL 8))])
theorem osd_ok {prog : Program} {w : World} {A : Around} {L gl blt : Addr} {cells : List (Str × Addr)} {qual : Str} {func frame : Option Addr} {code : Value} {s₀ : Shared} {mg mb : Str → Option Value} {K : Frag}  
    {C : Cx} (hC : C = ⟨prog, w, A, ⟨osd_scope, L, gl, cells, qual, func, code, frame, blt⟩, osd_names, s₀, mg, mb, K⟩) (O : C.Ok) (b_range : IsBuiltin C "range" (.type "range")) : EvB C osd_body (osd_m ) := by
  subst hC
  exact (EvB.cons (EvS.compAssign O b_range rfl (EvEs.cons (EvE.loc O rfl (by decide)) rfl EvEs.nil) (List.cons_ne_nil _ _) (CompScope.zero rfl rfl) (fun C2 O2 _ _ _ hn2 he2 _ _ hk2 => (EvE.bin (EvE.loc O2 (names0 hn2) (by decide)) EvE.int)) rfl (fun _ => rfl))
  (EvB.cons (EvS.assign EvE.str (EvTg.name O rfl) rfl rfl rfl)
  (EvB.cons (EvS.assign EvE.int (EvTg.name O rfl) rfl rfl rfl)
  (EvB.cons (EvS.forRange O b_range (EvEs.cons (EvE.loc O rfl (by decide)) rfl EvEs.nil) (List.cons_ne_nil _ _) (EvTg.name O rfl) (EvB.cons (EvS.assign (EvE.loc O rfl (by decide)) (EvTg.name O rfl) rfl rfl rfl)
  (EvB.cons (EvS.assign (EvE.sub (EvE.loc O rfl (by decide)) (EvE.bin (EvE.loc O rfl (by decide)) (EvE.loc O rfl (by decide))) (fun _ _ => rfl)) (EvTg.name O rfl) rfl rfl rfl)
  (EvB.cons (EvS.assign EvE.str (EvTg.name O rfl) rfl rfl rfl)
  (EvB.cons (EvS.assign2 (EvE.loc O rfl (by decide)) (EvTg.name O rfl) (EvTg.name O rfl) rfl rfl)
  (EvB.cons (EvS.assign EvE.int (EvTg.name O rfl) rfl rfl rfl)
  (EvB.cons (EvS.forRange O b_range (EvEs.cons (EvE.loc O rfl (by decide)) rfl EvEs.nil) (List.cons_ne_nil _ _) (EvTg.name O rfl) (EvB.cons (EvS.assign (EvE.loc O rfl (by decide)) (EvTg.name O rfl) rfl rfl rfl)
  (EvB.cons (EvS.assign (EvE.sub (EvE.loc O rfl (by decide)) (EvE.loc O rfl (by decide)) (fun _ _ => rfl)) (EvTg.name O rfl) rfl rfl rfl)
  (EvB.cons (EvS.assign2 (EvE.loc O rfl (by decide)) (EvTg.sub (EvE.loc O rfl (by decide)) (EvE.loc O rfl (by decide))) (EvTg.name O rfl) rfl rfl)
  (EvB.cons (EvS.assign (EvE.sub (EvE.loc O rfl (by decide)) (EvE.loc O rfl (by decide)) (fun _ _ => rfl)) (EvTg.name O rfl) rfl rfl rfl)
  (EvB.cons (EvS.assign (EvE.loc O rfl (by decide)) (EvTg.name O rfl) rfl rfl rfl)
  (EvB.cons (EvS.assign (EvE.sub (EvE.loc O rfl (by decide)) (EvE.bin (EvE.loc O rfl (by decide)) (EvE.loc O rfl (by decide))) (fun _ _ => rfl)) (EvTg.name O rfl) rfl rfl rfl)
  (EvB.cons (EvS.ite (EvT.cmp (EvE.loc O rfl (by decide)) (EvE.loc O rfl (by decide)) rfl) (EvB.cons (EvS.ite (EvT.cmp (EvE.loc O rfl (by decide)) (EvE.loc O rfl (by decide)) rfl) (EvB.cons (EvS.assign (EvE.loc O rfl (by decide)) (EvTg.name O rfl) rfl rfl rfl)
  EvB.nil) EvB.nil)
  (EvB.cons (EvS.ite (EvT.cmp (EvE.loc O rfl (by decide)) (EvE.loc O rfl (by decide)) rfl) (EvB.cons (EvS.assign (EvE.loc O rfl (by decide)) (EvTg.name O rfl) rfl rfl rfl)
  EvB.nil) EvB.nil)
  (EvB.cons (EvS.aug O rfl EvE.int)
  (EvB.cons (EvS.ite (EvT.and (EvTs.cons (EvT.cmp (EvE.loc O rfl (by decide)) EvE.int rfl) (EvTs.cons (EvT.cmp (EvE.loc O rfl (by decide)) EvE.int rfl) (EvTs.cons (EvT.cmp (EvE.loc O rfl (by decide)) (EvE.loc O rfl (by decide)) rfl) (EvTs.cons (EvT.cmp (EvE.loc O rfl (by decide)) (EvE.loc O rfl (by decide)) rfl) (EvTs.cons (EvT.cmp (EvE.bin (EvE.loc O rfl (by decide)) EvE.int) (EvE.loc O rfl (by decide)) rfl) EvTs.nil)))))) (EvB.cons (EvS.assign (EvE.bin (EvE.loc O rfl (by decide)) EvE.int) (EvTg.name O rfl) rfl rfl rfl)
  EvB.nil) EvB.nil)
  EvB.nil)))) EvB.nil)
  (EvB.cons (EvS.assign2 (EvE.loc O rfl (by decide)) (EvTg.sub (EvE.loc O rfl (by decide)) (EvE.loc O rfl (by decide))) (EvTg.name O rfl) rfl rfl)
  EvB.nil)))))))) (fun _ _ => rfl) (fun _ => rfl))
  EvB.nil)))))) (fun _ _ => rfl) (fun _ => rfl))
  (EvB.cons (EvS.ret (EvE.loc O rfl (by decide)))
  EvB.nil)))))

def osm_names : List Str := [Str.ofString "string_1", Str.ofString "string_2", Str.ofString "len_1", Str.ofString "len_2", Str.ofString "start", Str.ofString "char_1_costs", Str.ofString "prev_char_1_costs", Str.ofString "len_diff", Str.ofString "j_start_offset", Str.ofString "j_start", Str.ofString "j_end", Str.ofString "char_1", Str.ofString "current_cost", Str.ofString "i", Str.ofString "prev_char_1", Str.ofString "char_2", Str.ofString "left_char_cost", Str.ofString "above_char_cost", Str.ofString "next_trans_cost", Str.ofString "j", Str.ofString "this_trans_cost", Str.ofString "prev_char_2"]
def osm_body : List Stmt := clBody PySem.Challenge.pw_fe0312_01 19 3
def osm_scope : Scope := clScope PySem.Challenge.pw_fe0312_01 19 3
def osm_params : Arguments := clParams PySem.Challenge.pw_fe0312_01 19 3
noncomputable def osm_m  (c_max_distance : FV) : Mo Fl :=
  (blkM [(asg1 (compM [(getL 3)] (iteM (cmpM .Lt (getL 0) (cst (.fl c_max_distance))) (binM .Add (getL 0) (cst (.fl (.int 1)))) (binM .Add (cst (.fl c_max_distance)) (cst (.fl (.int 1)))))) (setL 5)),
  (asg1 (binM .Sub (getL 3) (getL 2)) (setL 7)),
  (asg1 (binM .Sub (cst (.fl c_max_distance)) (getL 7)) (setL 8)),
  (asg1 (cst (.fl (.int 0))) (setL 9)),
  (asg1 (cst (.fl c_max_distance)) (setL 10)),
  (asg1 (cst (.fl (.str (Str.ofString " ")))) (setL 11)),
  (asg1 (cst (.fl (.int 0))) (setL 12)),
  (forRangeM [(getL 2)] (setL 13) (blkM [(asg1 (getL 11) (setL 14)),
  (asg1 (subM (getL 0) (binM .Add (getL 4) (getL 13))) (setL 11)),
  (asg1 (cst (.fl (.str (Str.ofString " ")))) (setL 15)),
  (asg2 (getL 13) (setL 16) (setL 17)),
  (asg1 (cst (.fl (.int 0))) (setL 18)),
  (augM .Add 9 (iteM (cmpM .Gt (getL 13) (getL 8)) (cst (.fl (.int 1))) (cst (.fl (.int 0))))),
  (augM .Add 10 (iteM (cmpM .Lt (getL 10) (getL 3)) (cst (.fl (.int 1))) (cst (.fl (.int 0))))),
  (forRangeM [(getL 9), (getL 10)] (setL 19) (blkM [(asg1 (getL 18) (setL 20)),
  (asg1 (subM (getL 6) (getL 19)) (setL 18)),
  (asg2 (getL 16) (setItemM (getL 6) (getL 19)) (setL 12)),
  (asg1 (subM (getL 5) (getL 19)) (setL 16)),
  (asg1 (getL 15) (setL 21)),
  (asg1 (subM (getL 1) (binM .Add (getL 4) (getL 19))) (setL 15)),
  (iteM (cmpM .NotEq (getL 11) (getL 15)) (blkM [(iteM (cmpM .Lt (getL 17) (getL 12)) (blkM [(asg1 (getL 17) (setL 12))]) (blkM [])),
  (iteM (cmpM .Lt (getL 16) (getL 12)) (blkM [(asg1 (getL 16) (setL 12))]) (blkM [])),
  (augM .Add 12 (cst (.fl (.int 1)))),
  (iteM (andM [(cmpM .NotEq (getL 13) (cst (.fl (.int 0)))), (cmpM .NotEq (getL 19) (cst (.fl (.int 0)))), (cmpM .Eq (getL 11) (getL 21)), (cmpM .Eq (getL 14) (getL 15)), (cmpM .Lt (binM .Add (getL 20) (cst (.fl (.int 1)))) (getL 12))]) (blkM [(asg1 (binM .Add (getL 20) (cst (.fl (.int 1)))) (setL 12))]) (blkM []))]) (blkM [])),
  (asg2 (getL 12) (setItemM (getL 5) (getL 19)) (setL 17))])),
  (iteM (cmpM .Gt (subM (getL 5) (binM .Add (getL 13) (getL 7))) (cst (.fl c_max_distance))) (blkM [(retM (cst (.fl (.int (-1)))))]) (blkM []))])),
  (retM (iteM (cmpM .LtE (getL 12) (cst (.fl c_max_distance))) (getL 12) (cst (.fl (.int (-1))))))])
theorem osm_ok {prog : Program} {w : World} {A : Around} {L gl blt : Addr} {cells : List (Str × Addr)} {qual : Str} {func frame : Option Addr} {code : Value} {s₀ : Shared} {mg mb : Str → Option Value} {K : Frag}  (c_max_distance : FV)
    {C : Cx} (hC : C = ⟨prog, w, A, ⟨osm_scope, L, gl, cells, qual, func, code, frame, blt⟩, osm_names, s₀, mg, mb, K⟩) (O : C.Ok) (b_range : IsBuiltin C "range" (.type "range")) (hc_max_distance : IsCellVar C "max_distance" c_max_distance) : EvB C osm_body (osm_m c_max_distance) := by
  subst hC
  obtain ⟨cc, cv, hcc, hcell, hcf⟩ := hc_max_distance.at_
  exact (EvB.cons (EvS.compAssign O b_range rfl (EvEs.cons (EvE.loc O rfl (by decide)) rfl EvEs.nil) (List.cons_ne_nil _ _) (CompScope.one rfl rfl hcc) (fun C2 O2 _ _ _ hn2 he2 _ _ hk2 => (EvE.ifExp (EvT.cmp (EvE.loc O2 (names0 hn2) (by decide)) (EvE.cell O2 (comp_cell O hc_max_distance hcc rfl (by decide) (by decide) he2 hk2) (by decide)) rfl) (EvE.bin (EvE.loc O2 (names0 hn2) (by decide)) EvE.int) (EvE.bin (EvE.cell O2 (comp_cell O hc_max_distance hcc rfl (by decide) (by decide) he2 hk2) (by decide)) EvE.int))) rfl (fun _ => rfl))
  (EvB.cons (EvS.assign (EvE.bin (EvE.loc O rfl (by decide)) (EvE.loc O rfl (by decide))) (EvTg.name O rfl) rfl rfl rfl)
  (EvB.cons (EvS.assign (EvE.bin (EvE.cell O hc_max_distance (by decide)) (EvE.loc O rfl (by decide))) (EvTg.name O rfl) rfl rfl rfl)
  (EvB.cons (EvS.assign EvE.int (EvTg.name O rfl) rfl rfl rfl)
  (EvB.cons (EvS.assign (EvE.cell O hc_max_distance (by decide)) (EvTg.name O rfl) rfl rfl rfl)
  (EvB.cons (EvS.assign EvE.str (EvTg.name O rfl) rfl rfl rfl)
  (EvB.cons (EvS.assign EvE.int (EvTg.name O rfl) rfl rfl rfl)
  (EvB.cons (EvS.forRange O b_range (EvEs.cons (EvE.loc O rfl (by decide)) rfl EvEs.nil) (List.cons_ne_nil _ _) (EvTg.name O rfl) (EvB.cons (EvS.assign (EvE.loc O rfl (by decide)) (EvTg.name O rfl) rfl rfl rfl)
  (EvB.cons (EvS.assign (EvE.sub (EvE.loc O rfl (by decide)) (EvE.bin (EvE.loc O rfl (by decide)) (EvE.loc O rfl (by decide))) (fun _ _ => rfl)) (EvTg.name O rfl) rfl rfl rfl)
  (EvB.cons (EvS.assign EvE.str (EvTg.name O rfl) rfl rfl rfl)
  (EvB.cons (EvS.assign2 (EvE.loc O rfl (by decide)) (EvTg.name O rfl) (EvTg.name O rfl) rfl rfl)
  (EvB.cons (EvS.assign EvE.int (EvTg.name O rfl) rfl rfl rfl)
  (EvB.cons (EvS.aug O rfl (EvE.ifExp (EvT.cmp (EvE.loc O rfl (by decide)) (EvE.loc O rfl (by decide)) rfl) EvE.int EvE.int))
  (EvB.cons (EvS.aug O rfl (EvE.ifExp (EvT.cmp (EvE.loc O rfl (by decide)) (EvE.loc O rfl (by decide)) rfl) EvE.int EvE.int))
  (EvB.cons (EvS.forRange O b_range (EvEs.cons (EvE.loc O rfl (by decide)) rfl (EvEs.cons (EvE.loc O rfl (by decide)) rfl EvEs.nil)) (List.cons_ne_nil _ _) (EvTg.name O rfl) (EvB.cons (EvS.assign (EvE.loc O rfl (by decide)) (EvTg.name O rfl) rfl rfl rfl)
  (EvB.cons (EvS.assign (EvE.sub (EvE.loc O rfl (by decide)) (EvE.loc O rfl (by decide)) (fun _ _ => rfl)) (EvTg.name O rfl) rfl rfl rfl)
  (EvB.cons (EvS.assign2 (EvE.loc O rfl (by decide)) (EvTg.sub (EvE.loc O rfl (by decide)) (EvE.loc O rfl (by decide))) (EvTg.name O rfl) rfl rfl)
  (EvB.cons (EvS.assign (EvE.sub (EvE.loc O rfl (by decide)) (EvE.loc O rfl (by decide)) (fun _ _ => rfl)) (EvTg.name O rfl) rfl rfl rfl)
  (EvB.cons (EvS.assign (EvE.loc O rfl (by decide)) (EvTg.name O rfl) rfl rfl rfl)
  (EvB.cons (EvS.assign (EvE.sub (EvE.loc O rfl (by decide)) (EvE.bin (EvE.loc O rfl (by decide)) (EvE.loc O rfl (by decide))) (fun _ _ => rfl)) (EvTg.name O rfl) rfl rfl rfl)
  (EvB.cons (EvS.ite (EvT.cmp (EvE.loc O rfl (by decide)) (EvE.loc O rfl (by decide)) rfl) (EvB.cons (EvS.ite (EvT.cmp (EvE.loc O rfl (by decide)) (EvE.loc O rfl (by decide)) rfl) (EvB.cons (EvS.assign (EvE.loc O rfl (by decide)) (EvTg.name O rfl) rfl rfl rfl)
  EvB.nil) EvB.nil)
  (EvB.cons (EvS.ite (EvT.cmp (EvE.loc O rfl (by decide)) (EvE.loc O rfl (by decide)) rfl) (EvB.cons (EvS.assign (EvE.loc O rfl (by decide)) (EvTg.name O rfl) rfl rfl rfl)
  EvB.nil) EvB.nil)
  (EvB.cons (EvS.aug O rfl EvE.int)
  (EvB.cons (EvS.ite (EvT.and (EvTs.cons (EvT.cmp (EvE.loc O rfl (by decide)) EvE.int rfl) (EvTs.cons (EvT.cmp (EvE.loc O rfl (by decide)) EvE.int rfl) (EvTs.cons (EvT.cmp (EvE.loc O rfl (by decide)) (EvE.loc O rfl (by decide)) rfl) (EvTs.cons (EvT.cmp (EvE.loc O rfl (by decide)) (EvE.loc O rfl (by decide)) rfl) (EvTs.cons (EvT.cmp (EvE.bin (EvE.loc O rfl (by decide)) EvE.int) (EvE.loc O rfl (by decide)) rfl) EvTs.nil)))))) (EvB.cons (EvS.assign (EvE.bin (EvE.loc O rfl (by decide)) EvE.int) (EvTg.name O rfl) rfl rfl rfl)
  EvB.nil) EvB.nil)
  EvB.nil)))) EvB.nil)
  (EvB.cons (EvS.assign2 (EvE.loc O rfl (by decide)) (EvTg.sub (EvE.loc O rfl (by decide)) (EvE.loc O rfl (by decide))) (EvTg.name O rfl) rfl rfl)
  EvB.nil)))))))) (fun _ _ => rfl) (fun _ => rfl))
  (EvB.cons (EvS.ite (EvT.cmp (EvE.sub (EvE.loc O rfl (by decide)) (EvE.bin (EvE.loc O rfl (by decide)) (EvE.loc O rfl (by decide))) (fun _ _ => rfl)) (EvE.cell O hc_max_distance (by decide)) rfl) (EvB.cons (EvS.ret EvE.neg)
  EvB.nil) EvB.nil)
  EvB.nil))))))))) (fun _ _ => rfl) (fun _ => rfl))
  (EvB.cons (EvS.ret (EvE.ifExp (EvT.cmp (EvE.loc O rfl (by decide)) (EvE.cell O hc_max_distance (by decide)) rfl) (EvE.loc O rfl (by decide)) EvE.neg))
  EvB.nil)))))))))

end Mine

/-! Ap -/
namespace Mine
/-! the combinators, applied -/
theorem bindM_ap {α β : Type} (m : Mo α) (f : α → Mo β) (st : St) : bindM m f st = match m st with | none => none | some (a, st') => f a st' := by
  unfold bindM; cases m st with | none => rfl | some q => rfl
theorem cst_ap (v : PV) (st : St) : cst v st = some (v, st) := rfl
theorem getL_ap (k : Nat) (l : List (Option PV)) (mem : List MO) : getL k ⟨l, mem⟩ = match l[k]? with | some (some v) => some (v, ⟨l, mem⟩) | _ => none := rfl
theorem setL_ap (k : Nat) (v : PV) (l : List (Option PV)) (mem : List MO) : setL k v ⟨l, mem⟩ = some ((), ⟨l.set k (some v), mem⟩) := rfl
theorem binM_ap (op : Operator) (ml mr : Mo PV) (st : St) : binM op ml mr st = match ml st with | none => none | some (a, s1) => match mr s1 with | none => none | some (b, s2) => match binF op a b with | none => none | some c => some (c, s2) := by
  unfold binM bindM liftO
  cases ml st with
  | none => rfl
  | some q =>
    dsimp only
    cases mr q.2 with
    | none => rfl
    | some r => dsimp only; cases binF op q.1 r.1 <;> rfl
theorem cmpM_ap (op : CmpOp) (ml mr : Mo PV) (st : St) : cmpM op ml mr st = match ml st with | none => none | some (a, s1) => match mr s1 with | none => none | some (b, s2) => match cmpF op a b with | none => none | some c => some (c, s2) := by
  unfold cmpM bindM liftO
  cases ml st with
  | none => rfl
  | some q =>
    dsimp only
    cases mr q.2 with
    | none => rfl
    | some r => dsimp only; cases cmpF op q.1 r.1 <;> rfl
theorem iteM_ap {α : Type} (t : Mo Bool) (a b : Mo α) (st : St) : iteM t a b st = match t st with | none => none | some (c, s1) => if c = true then a s1 else b s1 := by
  unfold iteM bindM
  cases t st with
  | none => rfl
  | some q => obtain ⟨c, s⟩ := q; cases c <;> rfl
theorem asg1_ap (m : Mo PV) (f : PV → Mo Unit) (st : St) : asg1 m f st = match m st with | none => none | some (v, s1) => match f v s1 with | none => none | some (_, s2) => some (.next, s2) := by
  unfold asg1 bindM
  cases m st with
  | none => rfl
  | some q => dsimp only; cases f q.1 q.2 <;> rfl
theorem asg2_ap (m : Mo PV) (f g : PV → Mo Unit) (st : St) : asg2 m f g st = match m st with | none => none | some (v, s1) => match f v s1 with | none => none | some (_, s2) => match g v s2 with | none => none | some (_, s3) => some (.next, s3) := by
  unfold asg2 bindM
  cases m st with
  | none => rfl
  | some q =>
    dsimp only
    cases f q.1 q.2 with
    | none => rfl
    | some r => dsimp only; cases g q.1 r.2 <;> rfl
theorem augM_ap (op : Operator) (k : Nat) (m : Mo PV) (l : List (Option PV)) (mem : List MO) : augM op k m ⟨l, mem⟩ = match l[k]? with
    | some (some a) => (match m ⟨l, mem⟩ with | none => none | some (b, s2) => match binF op a b with | none => none | some c => some (.next, { s2 with loc := s2.loc.set k (some c) }))
    | _ => none := by
  unfold augM bindM getL liftO
  dsimp only
  cases l[k]? with
  | none => rfl
  | some o =>
    cases o with
    | none => rfl
    | some a =>
      dsimp only
      cases m ⟨l, mem⟩ with
      | none => rfl
      | some q => dsimp only; cases binF op a q.1 <;> rfl
theorem blkM_nil_ap (st : St) : blkM [] st = some (.next, st) := rfl
theorem blkM_cons_ap (m : Mo Fl) (ms : List (Mo Fl)) (st : St) : blkM (m :: ms) st = match m st with
    | none => none
    | some (.next, s1) => blkM ms s1
    | some (f, s1) => some (f, s1) := by
  show bindM m _ st = _
  unfold bindM
  cases m st with
  | none => rfl
  | some q => obtain ⟨f, s⟩ := q; cases f <;> rfl
theorem retM_ap (m : Mo PV) (st : St) : retM m st = match m st with | none => none | some (v, s1) => some (.ret v, s1) := by
  unfold retM bindM; cases m st with | none => rfl | some q => rfl
theorem andM_nil_ap (st : St) : andM [] st = some (true, st) := rfl
theorem andM_cons_ap (m : Mo Bool) (ms : List (Mo Bool)) (st : St) : andM (m :: ms) st = match m st with
    | none => none
    | some (true, s1) => andM ms s1
    | some (false, s1) => some (false, s1) := by
  show bindM m _ st = _
  unfold bindM
  cases m st with
  | none => rfl
  | some q => obtain ⟨f, s⟩ := q; cases f <;> rfl
theorem orM_nil_ap (st : St) : orM [] st = some (false, st) := rfl
theorem orM_cons_ap (m : Mo Bool) (ms : List (Mo Bool)) (st : St) : orM (m :: ms) st = match m st with
    | none => none
    | some (true, s1) => some (true, s1)
    | some (false, s1) => orM ms s1 := by
  show bindM m _ st = _
  unfold bindM
  cases m st with
  | none => rfl
  | some q => obtain ⟨f, s⟩ := q; cases f <;> rfl
theorem seqM_nil_ap (st : St) : seqM [] st = some ([], st) := rfl
theorem seqM_cons_ap (m : Mo PV) (ms : List (Mo PV)) (st : St) : seqM (m :: ms) st = match m st with | none => none | some (v, s1) => match seqM ms s1 with | none => none | some (vs, s2) => some (v :: vs, s2) := by
  show bindM m _ st = _
  unfold bindM
  cases m st with
  | none => rfl
  | some q => dsimp only; cases seqM ms q.2 <;> rfl
theorem tupM_ap (ms : List (Mo PV)) (st : St) : tupM ms st = match seqM ms st with | none => none | some (vs, s1) => if vs.length ≤ 100 then (match flatL vs with | none => none | some fs => some (.tup fs, s1)) else none := by
  unfold tupM bindM liftO
  cases seqM ms st with
  | none => rfl
  | some q =>
    dsimp only
    by_cases h : q.1.length ≤ 100
    · rw [if_pos h, if_pos h]; cases flatL q.1 <;> rfl
    · rw [if_neg h, if_neg h]
theorem subM_ap (mv mi : Mo PV) (st : St) : subM mv mi st = match mv st with | none => none | some (a, s1) => match mi s1 with | none => none | some (b, s2) => match subF s2 a b with | none => none | some c => some (c, s2) := by
  unfold subM bindM
  cases mv st with
  | none => rfl
  | some q =>
    dsimp only
    cases mi q.2 with
    | none => rfl
    | some r => dsimp only; cases subF r.2 q.1 r.1 <;> rfl
theorem subF_str (l : List (Option PV)) (mem : List MO) (s : Str) (i : Int) : subF ⟨l, mem⟩ (.fl (.str s)) (.fl (.int i)) = if pd (0 ≤ i ∧ i < 4611686018427387904) = true then (s.cps[i.toNat]?).map fun c => .fl (.str ⟨#[c]⟩) else none := id (by rfl)
theorem subF_list (l : List (Option PV)) (mem : List MO) (k : Nat) (i : Int) : subF ⟨l, mem⟩ (.fl (.ref k)) (.fl (.int i)) = if pd (0 ≤ i ∧ i < 4611686018427387904) = true then (match mem[k]? with | some (.list xs) => xs[i.toNat]? | _ => none) else none := id (by rfl)
theorem setItemM_ap (mo mi : Mo PV) (v : PV) (st : St) : setItemM mo mi v st = match mo st with | none => none | some (a, s1) => match mi s1 with | none => none | some (b, s2) => match setItemF v a b s2 with | none => none | some s3 => some ((), s3) := by
  unfold setItemM bindM
  cases mo st with
  | none => rfl
  | some q =>
    dsimp only
    cases mi q.2 with
    | none => rfl
    | some r => dsimp only; cases setItemF v q.1 r.1 r.2 <;> rfl
theorem setItemF_list (v : PV) (l : List (Option PV)) (mem : List MO) (k : Nat) (i : Int) : setItemF v (.fl (.ref k)) (.fl (.int i)) ⟨l, mem⟩ =
    if pd (0 ≤ i ∧ i < 4611686018427387904) = true then (match mem[k]? with | some (.list xs) => if i < xs.length then some ⟨l, mem.set k (.list (xs.set i.toNat v))⟩ else none | _ => none) else none := id (by rfl)
theorem bltM_ap (id : String) (ms : List (Mo PV)) (st : St) : bltM id ms st = match seqM ms st with | none => none | some (vs, s1) => match bltF s1 id vs with | none => none | some c => some (c, s1) := by
  unfold bltM bindM
  cases seqM ms st with
  | none => rfl
  | some q => dsimp only; cases bltF q.2 id q.1 <;> rfl
theorem whileM_ap (n : Nat) (t : Mo Bool) (b : Mo Fl) (st : St) : whileM (n + 1) t b st = match t st with
    | none => none
    | some (true, s1) => (match b s1 with
      | none => none
      | some (.next, s2) => whileM n t b s2
      | some (.cont, s2) => whileM n t b s2
      | some (.brk, s2) => some (.next, s2)
      | some (.ret v, s2) => some (.ret v, s2))
    | some (false, s1) => some (.next, s1) := by
  show bindM t _ st = _
  unfold bindM
  cases t st with
  | none => rfl
  | some q =>
    obtain ⟨c, s⟩ := q
    cases c with
    | false => rfl
    | true =>
      dsimp only
      rw [if_pos (rfl : true = true)]
      cases b s with
      | none => rfl
      | some r => obtain ⟨f, s'⟩ := r; cases f <;> rfl
theorem loopR_zero_ap (f : PV → Mo Unit) (b : Mo Fl) (c i : Int) (st : St) : loopR f b c 0 i st = some (.next, st) := rfl
theorem loopR_succ_ap (f : PV → Mo Unit) (b : Mo Fl) (c : Int) (n : Nat) (i : Int) (st : St) : loopR f b c (n + 1) i st = match f (.fl (.int i)) st with
    | none => none
    | some (_, s1) => match b s1 with
      | none => none
      | some (.next, s2) => loopR f b c n (i + c) s2
      | some (.cont, s2) => loopR f b c n (i + c) s2
      | some (.brk, s2) => some (.next, s2)
      | some (.ret v, s2) => some (.ret v, s2) := by
  show bindM _ _ st = _
  unfold bindM
  cases f (.fl (.int i)) st with
  | none => rfl
  | some q =>
    dsimp only
    cases b q.2 with
    | none => rfl
    | some r => obtain ⟨g, s'⟩ := r; cases g <;> rfl
theorem forRangeM_ap (ms : List (Mo PV)) (f : PV → Mo Unit) (b : Mo Fl) (st : St) : forRangeM ms f b st = match seqM ms st with
    | none => none
    | some (vs, s1) => match rng vs with
      | some (a, n) => loopR f b 1 n a s1
      | none => none := by
  unfold forRangeM bindM
  cases seqM ms st with
  | none => rfl
  | some q => dsimp only; cases rng q.1 <;> rfl
theorem compM_ap (ms : List (Mo PV)) (m : Mo PV) (st : St) : compM ms m st = match seqM ms st with
    | none => none
    | some (vs, s1) => match rng vs with
      | some (a, n) => if n ≤ 1048576 then (match compL m n a with | some xs => newL xs s1 | none => none) else none
      | none => none := by
  unfold compM bindM
  cases seqM ms st with
  | none => rfl
  | some q => rfl
theorem newL_ap (vs : List PV) (l : List (Option PV)) (mem : List MO) : newL vs ⟨l, mem⟩ = some (.fl (.ref mem.length), ⟨l, mem ++ [.list vs]⟩) := rfl
theorem bin_add (a b : Int) : binF .Add (.fl (.int a)) (.fl (.int b)) = some (.fl (.int (a + b))) := rfl
theorem bin_sub (a b : Int) : binF .Sub (.fl (.int a)) (.fl (.int b)) = some (.fl (.int (a - b))) := rfl
theorem cmp_eq_i (a b : Int) : cmpF .Eq (.fl (.int a)) (.fl (.int b)) = some (decide (a = b)) := rfl
theorem cmp_ne_i (a b : Int) : cmpF .NotEq (.fl (.int a)) (.fl (.int b)) = some (decide (¬ a = b)) := by
  show some (a != b) = _
  by_cases h : a = b <;> simp [h]
theorem cmp_lt_i (a b : Int) : cmpF .Lt (.fl (.int a)) (.fl (.int b)) = some (pd (a < b)) := rfl
theorem cmp_le_i (a b : Int) : cmpF .LtE (.fl (.int a)) (.fl (.int b)) = some (pd (a ≤ b)) := rfl
theorem cmp_gt_i (a b : Int) : cmpF .Gt (.fl (.int a)) (.fl (.int b)) = some (pd (a > b)) := rfl
theorem cmp_ge_i (a b : Int) : cmpF .GtE (.fl (.int a)) (.fl (.int b)) = some (pd (a ≥ b)) := rfl
theorem str1_eq (c d : Nat) : ((⟨#[c]⟩ : Str) == ⟨#[d]⟩) = (c == d) := by
  rw [Bool.eq_iff_iff, beq_iff_eq, beq_iff_eq]; simp
theorem cmp_eq_c (a b : Nat) : cmpF .Eq (.fl (.str ⟨#[a]⟩)) (.fl (.str ⟨#[b]⟩)) = some (decide (a = b)) := by
  show some _ = _; rw [str1_eq]; rfl
theorem cmp_ne_c (a b : Nat) : cmpF .NotEq (.fl (.str ⟨#[a]⟩)) (.fl (.str ⟨#[b]⟩)) = some (decide (¬ a = b)) := by
  show some (!_) = _; rw [str1_eq]; by_cases h : a = b <;> simp [h]
theorem blt_len_s (st : St) (x : Str) : bltF st "len" [.fl (.str x)] = if pd (x.length < 4611686018427387904) = true then some (.fl (.int x.length)) else none := id (by rfl)
end Mine

/-! Ev1 -/
namespace Mine

abbrev sI (i : Int) : Option PV := some (.fl (.int i))
abbrev sS (s : Str) : Option PV := some (.fl (.str s))
abbrev sC (c : Nat) : Option PV := some (.fl (.str ⟨#[c]⟩))
abbrev sR (k : Nat) : Option PV := some (.fl (.ref k))

theorem cps_get (s : Str) (i : Nat) : s.cps[i]? = s.cps.toList[i]? := by simp

/-- the suffix loop -/
theorem psp_w1 (s1 s2 : Str) (mem : List MO) (x : Option PV) (a b : List Nat) (ha : s1.cps.toList = a) (hb : s2.cps.toList = b) (hla : a.length < 2 ^ 61) (hlb : b.length < 2 ^ 61) : ∀ (l1 l2 n : Nat), l1 ≤ l2 → l1 ≤ a.length → l2 ≤ b.length → l1 + 1 ≤ n → a.drop l1 = b.drop l2 →
    ∃ k1 k2, k1 ≤ k2 ∧ k1 ≤ l1 ∧ k2 ≤ l2 ∧ a.drop k1 = b.drop k2 ∧
      whileM n (andM [(cmpM .NotEq (getL 2) (cst (.fl (.int 0)))), (cmpM .Eq (subM (getL 0) (binM .Sub (getL 2) (cst (.fl (.int 1))))) (subM (getL 1) (binM .Sub (getL 3) (cst (.fl (.int 1))))))]) (blkM [(augM .Sub 2 (cst (.fl (.int 1)))),
        (augM .Sub 3 (cst (.fl (.int 1))))]) ⟨[sS s1, sS s2, sI l1, sI l2, x], mem⟩ = some (.next, ⟨[sS s1, sS s2, sI k1, sI k2, x], mem⟩) := by
  intro l1
  induction l1 with
  | zero =>
    intro l2 n h1 h2 h3 h4 h5
    obtain ⟨n, rfl⟩ : ∃ m, n = m + 1 := ⟨n - 1, by omega⟩
    refine ⟨0, l2, by omega, by omega, by omega, h5, ?_⟩
    simp [whileM_ap, getL_ap, setL_ap, cst_ap, binM_ap, cmpM_ap, andM_nil_ap, andM_cons_ap, orM_nil_ap, orM_cons_ap, iteM_ap, asg1_ap, asg2_ap, augM_ap, blkM_nil_ap, blkM_cons_ap, retM_ap, tupM_ap, seqM_nil_ap, seqM_cons_ap, flatL, subM_ap, subF_str, subF_list, setItemM_ap, setItemF_list, bltM_ap, blt_len_s, bin_add, bin_sub, cmp_eq_i, cmp_ne_i, cmp_lt_i, cmp_le_i, cmp_gt_i, cmp_ge_i, cmp_eq_c, cmp_ne_c, pd_True, pd_False]
  | succ l1 ih =>
    intro l2 n h1 h2 h3 h4 h5
    obtain ⟨n, rfl⟩ : ∃ m, n = m + 1 := ⟨n - 1, by omega⟩
    obtain ⟨l2, rfl⟩ : ∃ m, l2 = m + 1 := ⟨l2 - 1, by omega⟩
    have g1 : s1.cps[l1]? = some a[l1] := by rw [cps_get, ha]; exact List.getElem?_eq_getElem _
    have g2 : s2.cps[l2]? = some b[l2] := by rw [cps_get, hb]; exact List.getElem?_eq_getElem _
    have d1 : a.drop l1 = a[l1] :: a.drop (l1 + 1) := List.drop_eq_getElem_cons (by omega)
    have d2 : b.drop l2 = b[l2] :: b.drop (l2 + 1) := List.drop_eq_getElem_cons (by omega)
    have n1 : ¬ ((l1 : Int) + 1 = 0) := by omega
    have b1 : (l1 : Int) < 4611686018427387904 := by omega
    have b2 : (l2 : Int) < 4611686018427387904 := by omega
    by_cases hc : a[l1] = b[l2]
    · obtain ⟨k1, k2, q1, q2, q3, q4, q5⟩ := ih l2 n (by omega) (by omega) (by omega) (by omega) (by rw [d1, d2, hc, h5])
      refine ⟨k1, k2, q1, by omega, by omega, q4, ?_⟩
      rw [← q5]
      rw [whileM_ap]
      simp [getL_ap, setL_ap, cst_ap, binM_ap, cmpM_ap, andM_nil_ap, andM_cons_ap, orM_nil_ap, orM_cons_ap, iteM_ap, asg1_ap, asg2_ap, augM_ap, blkM_nil_ap, blkM_cons_ap, retM_ap, tupM_ap, seqM_nil_ap, seqM_cons_ap, flatL, subM_ap, subF_str, subF_list, setItemM_ap, setItemF_list, bltM_ap, blt_len_s, bin_add, bin_sub, cmp_eq_i, cmp_ne_i, cmp_lt_i, cmp_le_i, cmp_gt_i, cmp_ge_i, cmp_eq_c, cmp_ne_c, pd_True, pd_False, n1, b1, b2, g1, g2, hc]
    · refine ⟨l1 + 1, l2 + 1, by omega, by omega, by omega, h5, ?_⟩
      rw [whileM_ap]
      simp [getL_ap, setL_ap, cst_ap, binM_ap, cmpM_ap, andM_nil_ap, andM_cons_ap, orM_nil_ap, orM_cons_ap, iteM_ap, asg1_ap, asg2_ap, augM_ap, blkM_nil_ap, blkM_cons_ap, retM_ap, tupM_ap, seqM_nil_ap, seqM_cons_ap, flatL, subM_ap, subF_str, subF_list, setItemM_ap, setItemF_list, bltM_ap, blt_len_s, bin_add, bin_sub, cmp_eq_i, cmp_ne_i, cmp_lt_i, cmp_le_i, cmp_gt_i, cmp_ge_i, cmp_eq_c, cmp_ne_c, pd_True, pd_False, n1, b1, b2, g1, g2, hc]

/-- the prefix loop -/
theorem psp_w2 (s1 s2 : Str) (mem : List MO) (a b : List Nat) (ha : s1.cps.toList = a) (hb : s2.cps.toList = b) (hla : a.length < 2 ^ 61) (hlb : b.length < 2 ^ 61) (k1 k2 : Nat) (h12 : k1 ≤ k2) (hk1 : k1 ≤ a.length) (hk2 : k2 ≤ b.length) :
    ∀ (left u n : Nat), u + left = k1 → left + 1 ≤ n → a.take u = b.take u →
    ∃ v, v ≤ k1 ∧ a.take v = b.take v ∧ (v < k1 → a[v]? ≠ b[v]?) ∧
      whileM n (andM [(cmpM .NotEq (getL 4) (getL 2)), (cmpM .Eq (subM (getL 0) (getL 4)) (subM (getL 1) (getL 4)))]) (blkM [(augM .Add 4 (cst (.fl (.int 1))))])
        ⟨[sS s1, sS s2, sI k1, sI k2, sI u], mem⟩ = some (.next, ⟨[sS s1, sS s2, sI k1, sI k2, sI v], mem⟩) := by
  intro left
  induction left with
  | zero =>
    intro u n h1 h2 h3
    obtain ⟨n, rfl⟩ : ∃ m, n = m + 1 := ⟨n - 1, by omega⟩
    have e : u = k1 := by omega
    subst e
    refine ⟨u, Nat.le_refl _, h3, fun h => absurd h (Nat.lt_irrefl _), ?_⟩
    simp [whileM_ap, getL_ap, setL_ap, cst_ap, binM_ap, cmpM_ap, andM_nil_ap, andM_cons_ap, orM_nil_ap, orM_cons_ap, iteM_ap, asg1_ap, asg2_ap, augM_ap, blkM_nil_ap, blkM_cons_ap, retM_ap, tupM_ap, seqM_nil_ap, seqM_cons_ap, flatL, subM_ap, subF_str, subF_list, setItemM_ap, setItemF_list, bltM_ap, blt_len_s, bin_add, bin_sub, cmp_eq_i, cmp_ne_i, cmp_lt_i, cmp_le_i, cmp_gt_i, cmp_ge_i, cmp_eq_c, cmp_ne_c, pd_True, pd_False]
  | succ left ih =>
    intro u n h1 h2 h3
    obtain ⟨n, rfl⟩ : ∃ m, n = m + 1 := ⟨n - 1, by omega⟩
    have hu1 : u < a.length := by omega
    have hu2 : u < b.length := by omega
    have g1 : s1.cps[u]? = some a[u] := by rw [cps_get, ha]; exact List.getElem?_eq_getElem _
    have g2 : s2.cps[u]? = some b[u] := by rw [cps_get, hb]; exact List.getElem?_eq_getElem _
    have n1 : ¬ ((u : Int) = (k1 : Int)) := by omega
    have n2 : ¬ (u = k1) := by omega
    have b1 : (u : Int) < 4611686018427387904 := by omega
    by_cases hc : a[u] = b[u]
    · obtain ⟨v, q1, q2, q3, q4⟩ := ih (u + 1) n (by omega) (by omega) (by
        rw [List.take_succ_eq_append_getElem hu1, List.take_succ_eq_append_getElem hu2, h3, hc])
      refine ⟨v, q1, q2, q3, ?_⟩
      rw [← q4]
      rw [whileM_ap]
      simp [getL_ap, setL_ap, cst_ap, binM_ap, cmpM_ap, andM_nil_ap, andM_cons_ap, orM_nil_ap, orM_cons_ap, iteM_ap, asg1_ap, asg2_ap, augM_ap, blkM_nil_ap, blkM_cons_ap, retM_ap, tupM_ap, seqM_nil_ap, seqM_cons_ap, flatL, subM_ap, subF_str, subF_list, setItemM_ap, setItemF_list, bltM_ap, blt_len_s, bin_add, bin_sub, cmp_eq_i, cmp_ne_i, cmp_lt_i, cmp_le_i, cmp_gt_i, cmp_ge_i, cmp_eq_c, cmp_ne_c, pd_True, pd_False, n1, n2, b1, g1, g2, hc]
    · refine ⟨u, by omega, h3, fun _ => by rw [List.getElem?_eq_getElem hu1, List.getElem?_eq_getElem hu2]; exact fun e => hc (Option.some.inj e), ?_⟩
      rw [whileM_ap]
      simp [getL_ap, setL_ap, cst_ap, binM_ap, cmpM_ap, andM_nil_ap, andM_cons_ap, orM_nil_ap, orM_cons_ap, iteM_ap, asg1_ap, asg2_ap, augM_ap, blkM_nil_ap, blkM_cons_ap, retM_ap, tupM_ap, seqM_nil_ap, seqM_cons_ap, flatL, subM_ap, subF_str, subF_list, setItemM_ap, setItemF_list, bltM_ap, blt_len_s, bin_add, bin_sub, cmp_eq_i, cmp_ne_i, cmp_lt_i, cmp_le_i, cmp_gt_i, cmp_ge_i, cmp_eq_c, cmp_ne_c, pd_True, pd_False, n1, n2, b1, g1, g2, hc]

/-- what the trimming gives: the common front p, the common end q -/
structure Trim (a b a' b' p q : List Nat) : Prop where
  left : a = p ++ a' ++ q
  right : b = p ++ b' ++ q
  heads : a' = [] ∨ ∃ x y a'' b'', a' = x :: a'' ∧ b' = y :: b'' ∧ x ≠ y
  le : a'.length ≤ b'.length
theorem Trim.dist {sw : Bool} {a b a' b' p q : List Nat} (h : Trim a b a' b' p q) : dist sw a b = dist sw a' b' := by
  rw [h.left, h.right, dist_trimR, dist_trimL]

theorem psp_eval (s1 s2 : Str) (mem : List MO) (a b : List Nat) (ha : s1.cps.toList = a) (hb : s2.cps.toList = b) (hab : a.length ≤ b.length) (hlb : b.length < 2 ^ 61) :
    ∃ a' b' p q, Trim a b a' b' p q ∧ ∃ l, psp_m (a.length + 1) (a.length + 1) ⟨[sS s1, sS s2, none, none, none], mem⟩ = some (.ret (.tup [.int a'.length, .int b'.length, .int p.length]), ⟨l, mem⟩) := by
  have hl1 : s1.length = a.length := by rw [← ha]; simp [Str.length]
  have hl2 : s2.length = b.length := by rw [← hb]; simp [Str.length]
  obtain ⟨k1, k2, q1, q2, q3, q4, q5⟩ := psp_w1 s1 s2 mem none a b ha hb (by omega) hlb a.length b.length (a.length + 1) hab (Nat.le_refl _) (Nat.le_refl _) (Nat.le_refl _) (by simp)
  obtain ⟨v, r1, r2, r3, r4⟩ := psp_w2 s1 s2 mem a b ha hb (by omega) hlb k1 k2 q1 q2 q3 k1 0 (a.length + 1) (by omega) (by omega) (by simp)
  have hsplit : ∀ (l : List Nat) (u w : Nat), u ≤ w → l = l.take u ++ (l.take w).drop u ++ l.drop w := fun l u w huw => by
    have e : l.take w = l.take u ++ (l.take w).drop u := by
      have := List.take_append_drop u (l.take w)
      rw [List.take_take, Nat.min_eq_left huw] at this
      exact this.symm
    rw [← e, List.take_append_drop]
  refine ⟨(a.take k1).drop v, (b.take k2).drop v, a.take v, a.drop k1, ⟨hsplit a v k1 r1, by rw [r2, q4]; exact hsplit b v k2 (by omega), ?_, by simp; omega⟩, ?_⟩
  · by_cases hv : v < k1
    · right
      have h1 : v < (a.take k1).length := by simp; omega
      have h2 : v < (b.take k2).length := by simp; omega
      refine ⟨_, _, _, _, List.drop_eq_getElem_cons h1, List.drop_eq_getElem_cons h2, fun e => r3 hv ?_⟩
      rw [List.getElem_take, List.getElem_take] at e
      rw [List.getElem?_eq_getElem (by omega), List.getElem?_eq_getElem (by omega), e]
    · left
      apply List.drop_eq_nil_of_le
      simp; omega
  · have e1 : ((a.take k1).drop v).length = k1 - v := by simp; omega
    have e2 : ((b.take k2).drop v).length = k2 - v := by simp; omega
    have e3 : (a.take v).length = v := by simp; omega
    have f1 : (a.length : Int) < 4611686018427387904 := by omega
    have f2 : (b.length : Int) < 4611686018427387904 := by omega
    have f3 : a.length < 4611686018427387904 := by omega
    have f4 : b.length < 4611686018427387904 := by omega
    rw [e1, e2, e3]
    have z : sI ((0 : Nat) : Int) = sI 0 := rfl
    rw [z] at r4
    unfold psp_m
    by_cases hv : v = 0
    · subst hv
      exact ⟨_, by simp [getL_ap, setL_ap, cst_ap, binM_ap, cmpM_ap, andM_nil_ap, andM_cons_ap, orM_nil_ap, orM_cons_ap, iteM_ap, asg1_ap, asg2_ap, augM_ap, blkM_nil_ap, blkM_cons_ap, retM_ap, tupM_ap, seqM_nil_ap, seqM_cons_ap, flatL, subM_ap, subF_str, subF_list, setItemM_ap, setItemF_list, bltM_ap, blt_len_s, bin_add, bin_sub, cmp_eq_i, cmp_ne_i, cmp_lt_i, cmp_le_i, cmp_gt_i, cmp_ge_i, cmp_eq_c, cmp_ne_c, pd_True, pd_False, hl1, hl2, f3, f4, q5, r4]; rfl⟩
    · have hv' : ¬ ((v : Int) = 0) := by omega
      have c1 : ((k1 - v : Nat) : Int) = (k1 : Int) - v := by omega
      have c2 : ((k2 - v : Nat) : Int) = (k2 : Int) - v := by omega
      exact ⟨_, by simp [getL_ap, setL_ap, cst_ap, binM_ap, cmpM_ap, andM_nil_ap, andM_cons_ap, orM_nil_ap, orM_cons_ap, iteM_ap, asg1_ap, asg2_ap, augM_ap, blkM_nil_ap, blkM_cons_ap, retM_ap, tupM_ap, seqM_nil_ap, seqM_cons_ap, flatL, subM_ap, subF_str, subF_list, setItemM_ap, setItemF_list, bltM_ap, blt_len_s, bin_add, bin_sub, cmp_eq_i, cmp_ne_i, cmp_lt_i, cmp_le_i, cmp_gt_i, cmp_ge_i, cmp_eq_c, cmp_ne_c, pd_True, pd_False, hl1, hl2, f3, f4, q5, r4, hv, hv', c1, c2]; rfl⟩
end Mine

/-! Ev2 -/
namespace Mine

theorem rng1 (n : Nat) (h : n < 2 ^ 61) : rng [.fl (.int n)] = some (0, n) := by
  show (if pd _ = true then some (0, (n : Int).toNat) else none) = _
  rw [if_pos (pd_true ⟨by omega, by omega⟩)]; simp
theorem rng2 (a : Int) (b : Int) (h0 : 0 ≤ a) (h0' : 0 ≤ b) (h : a < 2 ^ 61) (h' : b < 2 ^ 61) : rng [.fl (.int a), .fl (.int b)] = some (a, (b - a).toNat) := by
  show (if pd _ = true then some (a, (b - a).toNat) else none) = _
  rw [if_pos (pd_true ⟨by omega, by omega, by omega, by omega⟩)]
theorem compL_all {m : Mo PV} {g : Int → FV} (hr : ∀ i, (g i).noRef = true) : ∀ (n : Nat) (a : Int), (∀ k : Nat, k < n → m ⟨[sI (a + k)], []⟩ = some (.fl (g (a + k)), ⟨[sI (a + k)], []⟩)) → compL m n a = some ((List.range n).map fun k => .fl (g (a + (k : Nat)))) := by
  intro n
  induction n with
  | zero => intro a _; rfl
  | succ n ih =>
    intro a h
    have h0 := h 0 (by omega)
    rw [show a + ((0 : Nat) : Int) = a by omega] at h0
    unfold compL
    rw [h0]
    dsimp only
    rw [if_pos (hr a), ih (a + 1) (fun k hk => by rw [show a + 1 + (k : Int) = a + ((k + 1 : Nat) : Int) by omega]; exact h (k + 1) (by omega))]
    rw [List.range_succ_eq_map]
    simp only [Option.map_some, List.map_cons, List.map_map]
    have e0 : a + ((0 : Nat) : Int) = a := by omega
    rw [e0]
    congr 2
    apply List.map_congr_left
    intro k _
    have e1 : a + 1 + (k : Int) = a + ((k + 1 : Nat) : Int) := by omega
    show PV.fl (g (a + 1 + (k : Int))) = PV.fl (g (a + ((k + 1 : Nat) : Int)))
    rw [e1]
theorem toNat_add2 (a b : Nat) : ((a : Int) + (b : Int)).toNat = a + b := by omega

/-- the step «if x < y: y = x» -/
noncomputable def minM (a b : Nat) : Mo Fl := iteM (cmpM .Lt (getL a) (getL b)) (blkM [(asg1 (getL a) (setL b))]) (blkM [])
theorem minM_ap {l : List (Option PV)} {mem : List MO} {a b : Nat} {x y : Int} (ha : l[a]? = some (sI x)) (hb : l[b]? = some (sI y)) : minM a b ⟨l, mem⟩ = some (.next, ⟨l.set b (sI (min x y)), mem⟩) := by
  unfold minM
  by_cases h : x < y
  · have e : min x y = x := by omega
    simp [getL_ap, setL_ap, cst_ap, binM_ap, cmpM_ap, andM_nil_ap, andM_cons_ap, orM_nil_ap, orM_cons_ap, iteM_ap, asg1_ap, asg2_ap, augM_ap, blkM_nil_ap, blkM_cons_ap, retM_ap, tupM_ap, seqM_nil_ap, seqM_cons_ap, flatL, subM_ap, subF_str, subF_list, setItemM_ap, setItemF_list, bltM_ap, blt_len_s, bin_add, bin_sub, cmp_eq_i, cmp_ne_i, cmp_lt_i, cmp_le_i, cmp_gt_i, cmp_ge_i, cmp_eq_c, cmp_ne_c, pd_True, pd_False, ha, hb, h, e]
  · have e : min x y = y := by omega
    have e2 : l.set b (sI y) = l := by
      apply List.ext_getElem?
      intro i
      by_cases hi : i = b
      · subst hi
        rw [List.getElem?_set_self (List.getElem?_eq_some_iff.mp hb).1, hb]
      · rw [List.getElem?_set_ne (fun e => hi e.symm)]
    rw [e, e2]
    simp [getL_ap, setL_ap, cst_ap, binM_ap, cmpM_ap, andM_nil_ap, andM_cons_ap, orM_nil_ap, orM_cons_ap, iteM_ap, asg1_ap, asg2_ap, augM_ap, blkM_nil_ap, blkM_cons_ap, retM_ap, tupM_ap, seqM_nil_ap, seqM_cons_ap, flatL, subM_ap, subF_str, subF_list, setItemM_ap, setItemF_list, bltM_ap, blt_len_s, bin_add, bin_sub, cmp_eq_i, cmp_ne_i, cmp_lt_i, cmp_le_i, cmp_gt_i, cmp_ge_i, cmp_eq_c, cmp_ne_c, pd_True, pd_False, ha, hb, h]

/-- a new cell's value -/
def cellV (x y : Nat) (l a o : Int) : Int := if x = y then l else min o (min a l) + 1

theorem snoc_get (m : List MO) (x : MO) : (m ++ [x])[m.length]? = some x := by simp
theorem snoc_set (m : List MO) (x y : MO) : (m ++ [x]).set m.length y = m ++ [y] := by simp

noncomputable def lvd_in : Mo Fl := blkM [(asg1 (getL 8) (setL 6)),
  (asg1 (subM (getL 5) (getL 11)) (setL 8)),
  (iteM (cmpM .NotEq (subM (getL 1) (binM .Add (getL 4) (getL 11))) (getL 10)) (blkM [minM 9 6, minM 8 6,
  (augM .Add 6 (cst (.fl (.int 1))))]) (blkM [])),
  (asg2 (getL 6) (setItemM (getL 5) (getL 11)) (setL 9))]
noncomputable def lvd_out : Mo Fl := blkM [(asg2 (getL 7) (setL 8) (setL 9)),
  (asg1 (subM (getL 0) (binM .Add (getL 4) (getL 7))) (setL 10)),
  (forRangeM [(getL 3)] (setL 11) lvd_in)]

theorem lvd_step {s1 s2 : Str} {z2 z3 cur x11 : Option PV} {st j x y : Nat} {i l a o : Int} {mem : List MO} {row : List PV} (hj : j < 2 ^ 60) (hst : st < 2 ^ 60) (hrow : row[j]? = some (.fl (.int o))) (hy : s2.cps[st + j]? = some y) :
    lvd_in ⟨[sS s1, sS s2, z2, z3, sI st, sR mem.length, cur, sI i, sI l, sI a, sC x, sI j], mem ++ [.list row]⟩ =
      some (.next, ⟨[sS s1, sS s2, z2, z3, sI st, sR mem.length, sI (cellV x y l a o), sI i, sI o, sI (cellV x y l a o), sC x, sI j], mem ++ [.list (row.set j (.fl (.int (cellV x y l a o))))]⟩) := by
  have h1 : (0 : Int) ≤ (st : Int) + j := by omega
  have h2 : (st : Int) + j < 4611686018427387904 := by omega
  have h3 : (j : Int) < 4611686018427387904 := by omega
  obtain ⟨h4, h5⟩ := List.getElem?_eq_some_iff.mp hrow
  unfold lvd_in
  by_cases h : x = y
  · subst h
    simp [getL_ap, setL_ap, cst_ap, binM_ap, cmpM_ap, andM_nil_ap, andM_cons_ap, orM_nil_ap, orM_cons_ap, iteM_ap, asg1_ap, asg2_ap, augM_ap, blkM_nil_ap, blkM_cons_ap, retM_ap, tupM_ap, seqM_nil_ap, seqM_cons_ap, flatL, subM_ap, subF_str, subF_list, setItemM_ap, setItemF_list, bltM_ap, blt_len_s, bin_add, bin_sub, cmp_eq_i, cmp_ne_i, cmp_lt_i, cmp_le_i, cmp_gt_i, cmp_ge_i, cmp_eq_c, cmp_ne_c, pd_True, pd_False, h1, h2, h3, h4, snoc_get, snoc_set, hrow, hy, toNat_add2, cellV, h5]
  · have h' : ¬ y = x := fun e => h e.symm
    simp [getL_ap, setL_ap, cst_ap, binM_ap, cmpM_ap, andM_nil_ap, andM_cons_ap, orM_nil_ap, orM_cons_ap, iteM_ap, asg1_ap, asg2_ap, augM_ap, blkM_nil_ap, blkM_cons_ap, retM_ap, tupM_ap, seqM_nil_ap, seqM_cons_ap, flatL, subM_ap, subF_str, subF_list, setItemM_ap, setItemF_list, bltM_ap, blt_len_s, bin_add, bin_sub, cmp_eq_i, cmp_ne_i, cmp_lt_i, cmp_le_i, cmp_gt_i, cmp_ge_i, cmp_eq_c, cmp_ne_c, pd_True, pd_False, h1, h2, h3, h4, snoc_get, snoc_set, hrow, hy, toNat_add2, cellV, h, h', h5, minM_ap]

/-- the kept row: the first j cells are the new row's -/
def rowP (sw : Bool) (A B : List Nat) (i j : Nat) : List PV := (List.range B.length).map fun k => .fl (.int (if k < j then P sw A B (i + 1) (k + 1) else P sw A B i (k + 1) : Nat))
theorem rowP_get {sw A B} {i j k : Nat} (h : k < B.length) (hk : j ≤ k) : (rowP sw A B i j)[k]? = some (.fl (.int (P sw A B i (k + 1)))) := by
  unfold rowP
  rw [List.getElem?_map, List.getElem?_range h]
  simp only [Option.map_some]
  rw [if_neg (by omega)]
theorem rowP_set {sw A B} {i j : Nat} (h : j < B.length) : (rowP sw A B i j).set j (.fl (.int (P sw A B (i + 1) (j + 1)))) = rowP sw A B i (j + 1) := by
  unfold rowP
  apply List.ext_getElem?
  intro k
  by_cases hk : k = j
  · subst hk
    rw [List.getElem?_set_self (by simpa using h), List.getElem?_map, List.getElem?_range h]
    simp only [Option.map_some]
    rw [if_pos (by omega)]
  · rw [List.getElem?_set_ne (fun e => hk e.symm), List.getElem?_map, List.getElem?_map]
    by_cases hl : k < B.length
    · rw [List.getElem?_range hl]
      simp only [Option.map_some]
      by_cases h1 : k < j
      · rw [if_pos h1, if_pos (by omega)]
      · rw [if_neg h1, if_neg (by omega)]
    · rw [List.getElem?_eq_none (by simpa using hl)]; rfl
theorem rowP_full {sw A B} {i : Nat} : rowP sw A B i B.length = rowP sw A B (i + 1) 0 := by
  unfold rowP
  apply List.map_congr_left
  intro k hk
  have := List.mem_range.mp hk
  rw [if_pos this, if_neg (by omega)]
/-- what stands above as the row is walked -/
def aP (sw : Bool) (A B : List Nat) (i j : Nat) : Nat := if j = 0 then i else P sw A B (i + 1) j
theorem aP_succ {sw A B} (i j : Nat) : aP sw A B i (j + 1) = P sw A B (i + 1) (j + 1) := if_neg (by omega)
theorem cellV_P {A B : List Nat} {i j x y : Nat} (hx : A[i]? = some x) (hy : B[j]? = some y) : cellV x y (P false A B i j) (aP false A B i j) (P false A B i (j + 1)) = (P false A B (i + 1) (j + 1) : Nat) := by
  unfold cellV
  by_cases h : x = y
  · rw [if_pos h, P_eq hx hy h]
  · rw [if_neg h, P_ne (sw := false) hx hy h (fun hs => Bool.noConfusion hs.1)]
    unfold aP
    by_cases hj : j = 0
    · subst hj
      have hi : i < A.length := (List.getElem?_eq_some_iff.mp hx).1
      rw [if_pos rfl, P_top (sw := false) (B := B) (i + 1) hi, P_top (sw := false) (B := B) i (Nat.le_of_lt hi)]
      omega
    · rw [if_neg hj]; omega

theorem lvd_row {s1 s2 : Str} {A B : List Nat} {st : Nat} (hB : ∀ (j : Nat) y, B[j]? = some y → s2.cps[st + j]? = some y) (hlen : B.length < 2 ^ 60) (hst : st < 2 ^ 60) {i x : Nat} (hx : A[i]? = some x) {z2 z3 : Option PV} {mem : List MO} :
    ∀ (n j : Nat), j + n = B.length → ∀ cur x11, ∃ cur' x11', ((n = 0 → cur' = cur) ∧ (0 < n → cur' = sI (P false A B (i + 1) B.length))) ∧
      loopR (setL 11) lvd_in 1 n j ⟨[sS s1, sS s2, z2, z3, sI st, sR mem.length, cur, sI i, sI (P false A B i j), sI (aP false A B i j), sC x, x11], mem ++ [.list (rowP false A B i j)]⟩ =
        some (.next, ⟨[sS s1, sS s2, z2, z3, sI st, sR mem.length, cur', sI i, sI (P false A B i B.length), sI (aP false A B i B.length), sC x, x11'], mem ++ [.list (rowP false A B i B.length)]⟩) := by
  intro n
  induction n with
  | zero =>
    intro j hj cur x11
    obtain rfl : j = B.length := by omega
    exact ⟨cur, x11, ⟨fun _ => rfl, fun h => absurd h (Nat.lt_irrefl _)⟩, rfl⟩
  | succ n ih =>
    intro j hj cur x11
    have hy : B[j]? = some (B[j]'(by omega)) := List.getElem?_eq_getElem _
    have hs := lvd_step (s1 := s1) (z2 := z2) (z3 := z3) (cur := cur) (x11 := x11) (i := i) (l := P false A B i j) (a := aP false A B i j) (mem := mem) (by omega : j < 2 ^ 60) hst (rowP_get (sw := false) (A := A) (B := B) (i := i) (by omega) (Nat.le_refl j)) (hB j _ hy) (x := x)
    rw [cellV_P hx hy, rowP_set (by omega)] at hs
    obtain ⟨cur', x11', h1, h2⟩ := ih (j + 1) (by omega) (sI (P false A B (i + 1) (j + 1))) (sI j)
    refine ⟨cur', x11', ⟨fun h => absurd h (by omega), fun _ => ?_⟩, ?_⟩
    · cases n with
      | zero =>
        have e : j + 1 = B.length := by omega
        rw [h1.1 rfl, e]
      | succ n => exact h1.2 (by omega)
    · rw [loopR_succ_ap]
      simp only [setL_ap, List.set_cons_succ, List.set_cons_zero]
      rw [hs]
      rw [aP_succ] at h2
      exact h2

theorem lvd_rows {s1 s2 : Str} {A B : List Nat} {st : Nat} (hA : ∀ (j : Nat) y, A[j]? = some y → s1.cps[st + j]? = some y) (hB : ∀ (j : Nat) y, B[j]? = some y → s2.cps[st + j]? = some y) (hla : A.length < 2 ^ 60) (hlen : B.length < 2 ^ 60) (hst : st < 2 ^ 60) (hB0 : 0 < B.length)
    {z2 : Option PV} {mem : List MO} :
    ∀ (n i : Nat), i + n = A.length → ∀ cur x7 x8 x9 x10 x11, ∃ cur' x7' x8' x9' x10' x11', ((n = 0 → cur' = cur) ∧ (0 < n → cur' = sI (P false A B A.length B.length))) ∧
      loopR (setL 7) lvd_out 1 n i ⟨[sS s1, sS s2, z2, sI B.length, sI st, sR mem.length, cur, x7, x8, x9, x10, x11], mem ++ [.list (rowP false A B i 0)]⟩ =
        some (.next, ⟨[sS s1, sS s2, z2, sI B.length, sI st, sR mem.length, cur', x7', x8', x9', x10', x11'], mem ++ [.list (rowP false A B A.length 0)]⟩) := by
  intro n
  induction n with
  | zero =>
    intro i hi cur x7 x8 x9 x10 x11
    obtain rfl : i = A.length := by omega
    exact ⟨cur, x7, x8, x9, x10, x11, ⟨fun _ => rfl, fun h => absurd h (Nat.lt_irrefl _)⟩, rfl⟩
  | succ n ih =>
    intro i hi cur x7 x8 x9 x10 x11
    have hx : A[i]? = some (A[i]'(by omega)) := List.getElem?_eq_getElem _
    have g1 := hA i _ hx
    have h1 : (0 : Int) ≤ (st : Int) + i := by omega
    have h2 : (st : Int) + i < 4611686018427387904 := by omega
    obtain ⟨cur', x11', hc, hr⟩ := lvd_row (z2 := z2) (z3 := sI B.length) (mem := mem) hB hlen hst hx B.length 0 (by omega) cur x11
    obtain ⟨cur'', x7', x8', x9', x10', x11'', hc2, hr2⟩ := ih (i + 1) (by omega) cur' (sI i) (sI (P false A B i B.length)) (sI (aP false A B i B.length)) (sC (A[i]'(by omega))) x11'
    refine ⟨cur'', x7', x8', x9', x10', x11'', ⟨fun h => absurd h (by omega), fun _ => ?_⟩, ?_⟩
    · cases n with
      | zero =>
        have e : i + 1 = A.length := by omega
        rw [hc2.1 rfl, hc.2 hB0, e]
      | succ n => exact hc2.2 (by omega)
    · rw [loopR_succ_ap]
      have e0 : P false A B i 0 = i := P_top i (by omega)
      have e1 : aP false A B i 0 = i := if_pos rfl
      rw [e0, e1] at hr
      rw [rowP_full] at hr
      unfold lvd_out
      simp [getL_ap, setL_ap, cst_ap, binM_ap, cmpM_ap, andM_nil_ap, andM_cons_ap, orM_nil_ap, orM_cons_ap, iteM_ap, asg1_ap, asg2_ap, augM_ap, blkM_nil_ap, blkM_cons_ap, retM_ap, tupM_ap, seqM_nil_ap, seqM_cons_ap, flatL, subM_ap, subF_str, subF_list, setItemM_ap, setItemF_list, bltM_ap, blt_len_s, bin_add, bin_sub, cmp_eq_i, cmp_ne_i, cmp_lt_i, cmp_le_i, cmp_gt_i, cmp_ge_i, cmp_eq_c, cmp_ne_c, pd_True, pd_False, forRangeM_ap, h1, h2, g1, toNat_add2, rng1 B.length (by omega)]
      rw [show (0 : Int) = ((0 : Nat) : Int) by rfl, hr]
      exact hr2

theorem lvd_eval {s1 s2 : Str} {A B : List Nat} {st : Nat} (hA : ∀ (j : Nat) y, A[j]? = some y → s1.cps[st + j]? = some y) (hB : ∀ (j : Nat) y, B[j]? = some y → s2.cps[st + j]? = some y) (hla : A.length ≤ 1000) (hlen : B.length ≤ 1000) (hst : st ≤ 1000) (hA0 : 0 < A.length) (hB0 : 0 < B.length)
    {x5 x6 x7 x8 x9 x10 x11 : Option PV} {mem : List MO} :
    ∃ l row, lvd_m ⟨[sS s1, sS s2, sI A.length, sI B.length, sI st, x5, x6, x7, x8, x9, x10, x11], mem⟩ = some (.ret (.fl (.int (dist false A B))), ⟨l, mem ++ [row]⟩) := by
  obtain ⟨cur', x7', x8', x9', x10', x11', hc, hr⟩ := lvd_rows (A := A) (B := B) hA hB (by omega) (by omega) (by omega) hB0 (z2 := sI A.length) (mem := mem) A.length 0 (by omega) (sI 0) x7 x8 x9 x10 x11
  have hc := hc.2 hA0
  rw [P_whole] at hc
  subst hc
  have z : ((0 : Nat) : Int) = 0 := rfl
  rw [z] at hr
  have hcomp : compL (binM .Add (getL 0) (cst (.fl (.int 1)))) B.length 0 = some (rowP false A B 0 0) := by
    rw [compL_all (g := fun i => .int (i + 1)) (fun _ => rfl) B.length 0 (fun k hk => by simp [getL_ap, setL_ap, cst_ap, binM_ap, cmpM_ap, andM_nil_ap, andM_cons_ap, orM_nil_ap, orM_cons_ap, iteM_ap, asg1_ap, asg2_ap, augM_ap, blkM_nil_ap, blkM_cons_ap, retM_ap, tupM_ap, seqM_nil_ap, seqM_cons_ap, flatL, subM_ap, subF_str, subF_list, setItemM_ap, setItemF_list, bltM_ap, blt_len_s, bin_add, bin_sub, cmp_eq_i, cmp_ne_i, cmp_lt_i, cmp_le_i, cmp_gt_i, cmp_ge_i, cmp_eq_c, cmp_ne_c, pd_True, pd_False])]
    congr 1
    unfold rowP
    apply List.map_congr_left
    intro k hk
    have := List.mem_range.mp hk
    rw [if_neg (by omega), P_left (sw := false) (A := A) (k + 1) (by omega)]
    show PV.fl (.int ((0 : Int) + (k : Int) + 1)) = PV.fl (.int ((k + 1 : Nat) : Int))
    rw [show (0 : Int) + (k : Int) + 1 = ((k + 1 : Nat) : Int) by omega]
  refine ⟨[sS s1, sS s2, sI A.length, sI B.length, sI st, sR mem.length, sI (dist false A B), x7', x8', x9', x10', x11'], .list (rowP false A B A.length 0), ?_⟩
  show blkM [(asg1 (compM [(getL 3)] (binM .Add (getL 0) (cst (.fl (.int 1))))) (setL 5)), (asg1 (cst (.fl (.int 0))) (setL 6)), (forRangeM [(getL 2)] (setL 7) lvd_out), (retM (getL 6))] _ = _
  have hB1 : B.length ≤ 1048576 := by omega
  simp [getL_ap, setL_ap, cst_ap, binM_ap, cmpM_ap, andM_nil_ap, andM_cons_ap, orM_nil_ap, orM_cons_ap, iteM_ap, asg1_ap, asg2_ap, augM_ap, blkM_nil_ap, blkM_cons_ap, retM_ap, tupM_ap, seqM_nil_ap, seqM_cons_ap, flatL, subM_ap, subF_str, subF_list, setItemM_ap, setItemF_list, bltM_ap, blt_len_s, bin_add, bin_sub, cmp_eq_i, cmp_ne_i, cmp_lt_i, cmp_le_i, cmp_gt_i, cmp_ge_i, cmp_eq_c, cmp_ne_c, pd_True, pd_False, forRangeM_ap, compM_ap, rng1 B.length (by omega), rng1 A.length (by omega), hB1, hcomp, newL_ap, hr]
end Mine

/-! Ev3 -/
namespace Mine

/-- the memory while the two rows are walked -/
def memO (m : List MO) (kp : Nat) (a b : List PV) : List MO := m.set kp (.list a) ++ [.list b]
theorem memO_getk (m : List MO) (kp : Nat) (a b : List PV) : (memO m kp a b)[m.length]? = some (.list b) := by simp [memO]
theorem memO_getp {m : List MO} {kp : Nat} (h : kp < m.length) (a b : List PV) : (memO m kp a b)[kp]? = some (.list a) := by
  unfold memO
  rw [List.getElem?_append_left (by simpa using h), List.getElem?_set_self h]
theorem memO_setk (m : List MO) (kp : Nat) (a b c : List PV) : (memO m kp a b).set m.length (.list c) = memO m kp a c := by simp [memO]
theorem memO_setp {m : List MO} {kp : Nat} (h : kp < m.length) (a b c : List PV) : (memO m kp a b).set kp (.list c) = memO m kp c b := by
  unfold memO
  rw [List.set_append_left _ _ (by simpa using h), List.set_set]
theorem space_c : Str.ofString " " = ⟨#[32]⟩ := rfl

/-- a new cell's value, with swaps -/
def cellS (i j x y px py : Nat) (l a o t : Int) : Int := if x = y then l else if i ≠ 0 ∧ j ≠ 0 ∧ x = py ∧ px = y ∧ t + 1 < min o (min a l) + 1 then t + 1 else min o (min a l) + 1

noncomputable def swTail (si sj s7 s17 s10 s11 s16 s8 : Nat) : Mo Fl := (iteM (andM [(cmpM .NotEq (getL si) (cst (.fl (.int 0)))), (cmpM .NotEq (getL sj) (cst (.fl (.int 0)))), (cmpM .Eq (getL s7) (getL s17)), (cmpM .Eq (getL s10) (getL s11)), (cmpM .Lt (binM .Add (getL s16) (cst (.fl (.int 1)))) (getL s8))]) (blkM [(asg1 (binM .Add (getL s16) (cst (.fl (.int 1)))) (setL s8))]) (blkM []))
theorem swTail_ap {l : List (Option PV)} {mem : List MO} {si sj s7 s17 s10 s11 s16 s8 i j x py px y : Nat} {t v : Int} (h1 : l[si]? = some (sI i)) (h2 : l[sj]? = some (sI j)) (h3 : l[s7]? = some (sC x)) (h4 : l[s17]? = some (sC py)) (h5 : l[s10]? = some (sC px)) (h6 : l[s11]? = some (sC y))
    (h7 : l[s16]? = some (sI t)) (h8 : l[s8]? = some (sI v)) :
    swTail si sj s7 s17 s10 s11 s16 s8 ⟨l, mem⟩ = some (.next, ⟨l.set s8 (sI (if i ≠ 0 ∧ j ≠ 0 ∧ x = py ∧ px = y ∧ t + 1 < v then t + 1 else v)), mem⟩) := by
  have e2 : l.set s8 (sI v) = l := by
    apply List.ext_getElem?
    intro i
    by_cases hi : i = s8
    · subst hi
      rw [List.getElem?_set_self (List.getElem?_eq_some_iff.mp h8).1, h8]
    · rw [List.getElem?_set_ne (fun e => hi e.symm)]
  unfold swTail
  by_cases c1 : i = 0
  · rw [if_neg (fun h => h.1 c1), e2]; subst c1; simp [getL_ap, setL_ap, cst_ap, binM_ap, cmpM_ap, andM_nil_ap, andM_cons_ap, orM_nil_ap, orM_cons_ap, iteM_ap, asg1_ap, asg2_ap, augM_ap, blkM_nil_ap, blkM_cons_ap, retM_ap, tupM_ap, seqM_nil_ap, seqM_cons_ap, flatL, subM_ap, subF_str, subF_list, setItemM_ap, setItemF_list, bltM_ap, blt_len_s, bin_add, bin_sub, cmp_eq_i, cmp_ne_i, cmp_lt_i, cmp_le_i, cmp_gt_i, cmp_ge_i, cmp_eq_c, cmp_ne_c, pd_True, pd_False, h1]
  have c1' : ¬ (i : Int) = 0 := by omega
  by_cases c2 : j = 0
  · rw [if_neg (fun h => h.2.1 c2), e2]; subst c2; simp [getL_ap, setL_ap, cst_ap, binM_ap, cmpM_ap, andM_nil_ap, andM_cons_ap, orM_nil_ap, orM_cons_ap, iteM_ap, asg1_ap, asg2_ap, augM_ap, blkM_nil_ap, blkM_cons_ap, retM_ap, tupM_ap, seqM_nil_ap, seqM_cons_ap, flatL, subM_ap, subF_str, subF_list, setItemM_ap, setItemF_list, bltM_ap, blt_len_s, bin_add, bin_sub, cmp_eq_i, cmp_ne_i, cmp_lt_i, cmp_le_i, cmp_gt_i, cmp_ge_i, cmp_eq_c, cmp_ne_c, pd_True, pd_False, h1, c1', h2, c1]
  have c2' : ¬ (j : Int) = 0 := by omega
  by_cases c3 : x = py
  · by_cases c4 : px = y
    · by_cases c5 : t + 1 < v
      · rw [if_pos ⟨c1, c2, c3, c4, c5⟩]; simp [getL_ap, setL_ap, cst_ap, binM_ap, cmpM_ap, andM_nil_ap, andM_cons_ap, orM_nil_ap, orM_cons_ap, iteM_ap, asg1_ap, asg2_ap, augM_ap, blkM_nil_ap, blkM_cons_ap, retM_ap, tupM_ap, seqM_nil_ap, seqM_cons_ap, flatL, subM_ap, subF_str, subF_list, setItemM_ap, setItemF_list, bltM_ap, blt_len_s, bin_add, bin_sub, cmp_eq_i, cmp_ne_i, cmp_lt_i, cmp_le_i, cmp_gt_i, cmp_ge_i, cmp_eq_c, cmp_ne_c, pd_True, pd_False, h1, c1', h2, c1, c2, c2', h3, h4, c3, h5, h6, c4, h7, h8, c5]
      · rw [if_neg (fun h => c5 h.2.2.2.2), e2]; simp [getL_ap, setL_ap, cst_ap, binM_ap, cmpM_ap, andM_nil_ap, andM_cons_ap, orM_nil_ap, orM_cons_ap, iteM_ap, asg1_ap, asg2_ap, augM_ap, blkM_nil_ap, blkM_cons_ap, retM_ap, tupM_ap, seqM_nil_ap, seqM_cons_ap, flatL, subM_ap, subF_str, subF_list, setItemM_ap, setItemF_list, bltM_ap, blt_len_s, bin_add, bin_sub, cmp_eq_i, cmp_ne_i, cmp_lt_i, cmp_le_i, cmp_gt_i, cmp_ge_i, cmp_eq_c, cmp_ne_c, pd_True, pd_False, h1, c1', h2, c1, c2, c2', h3, h4, c3, h5, h6, c4, h7, h8, c5]
    · rw [if_neg (fun h => c4 h.2.2.2.1), e2]; simp [getL_ap, setL_ap, cst_ap, binM_ap, cmpM_ap, andM_nil_ap, andM_cons_ap, orM_nil_ap, orM_cons_ap, iteM_ap, asg1_ap, asg2_ap, augM_ap, blkM_nil_ap, blkM_cons_ap, retM_ap, tupM_ap, seqM_nil_ap, seqM_cons_ap, flatL, subM_ap, subF_str, subF_list, setItemM_ap, setItemF_list, bltM_ap, blt_len_s, bin_add, bin_sub, cmp_eq_i, cmp_ne_i, cmp_lt_i, cmp_le_i, cmp_gt_i, cmp_ge_i, cmp_eq_c, cmp_ne_c, pd_True, pd_False, h1, c1', h2, c1, c2, c2', h3, h4, c3, h5, h6, c4]
  · rw [if_neg (fun h => c3 h.2.2.1), e2]; simp [getL_ap, setL_ap, cst_ap, binM_ap, cmpM_ap, andM_nil_ap, andM_cons_ap, orM_nil_ap, orM_cons_ap, iteM_ap, asg1_ap, asg2_ap, augM_ap, blkM_nil_ap, blkM_cons_ap, retM_ap, tupM_ap, seqM_nil_ap, seqM_cons_ap, flatL, subM_ap, subF_str, subF_list, setItemM_ap, setItemF_list, bltM_ap, blt_len_s, bin_add, bin_sub, cmp_eq_i, cmp_ne_i, cmp_lt_i, cmp_le_i, cmp_gt_i, cmp_ge_i, cmp_eq_c, cmp_ne_c, pd_True, pd_False, h1, c1', h2, c1, c2, c2', h3, h4, c3]

noncomputable def osd_in : Mo Fl := blkM [(asg1 (getL 14) (setL 16)),
  (asg1 (subM (getL 6) (getL 15)) (setL 14)),
  (asg2 (getL 12) (setItemM (getL 6) (getL 15)) (setL 8)),
  (asg1 (subM (getL 5) (getL 15)) (setL 12)),
  (asg1 (getL 11) (setL 17)),
  (asg1 (subM (getL 1) (binM .Add (getL 4) (getL 15))) (setL 11)),
  (iteM (cmpM .NotEq (getL 7) (getL 11)) (blkM [minM 13 8, minM 12 8,
  (augM .Add 8 (cst (.fl (.int 1)))),
  swTail 9 15 7 17 10 11 16 8]) (blkM [])),
  (asg2 (getL 8) (setItemM (getL 5) (getL 15)) (setL 13))]
noncomputable def osd_out : Mo Fl := blkM [(asg1 (getL 7) (setL 10)),
  (asg1 (subM (getL 0) (binM .Add (getL 4) (getL 9))) (setL 7)),
  (asg1 (cst (.fl (.str (Str.ofString " ")))) (setL 11)),
  (asg2 (getL 9) (setL 12) (setL 13)),
  (asg1 (cst (.fl (.int 0))) (setL 14)),
  (forRangeM [(getL 3)] (setL 15) osd_in)]

theorem osd_step {s1 s2 : Str} {z2 z3 cur x16 x17 : Option PV} {st i j x y y0 px kp : Nat} {l a o t0 p : Int} {mem : List MO} {row prow : List PV} (hkp : kp < mem.length) (hj : j < 2 ^ 60) (hst : st < 2 ^ 60) (hrow : row[j]? = some (.fl (.int o))) (hprow : prow[j]? = some (.fl (.int p))) (hy : s2.cps[st + j]? = some y) :
    osd_in ⟨[sS s1, sS s2, z2, z3, sI st, sR mem.length, sR kp, sC x, cur, sI i, sC px, sC y0, sI l, sI a, sI t0, sI j, x16, x17], memO mem kp prow row⟩ =
      some (.next, ⟨[sS s1, sS s2, z2, z3, sI st, sR mem.length, sR kp, sC x, sI (cellS i j x y px y0 l a o t0), sI i, sC px, sC y, sI o, sI (cellS i j x y px y0 l a o t0), sI p, sI j, sI t0, sC y0],
        memO mem kp (prow.set j (.fl (.int l))) (row.set j (.fl (.int (cellS i j x y px y0 l a o t0))))⟩) := by
  have h1 : (0 : Int) ≤ (st : Int) + j := by omega
  have h2 : (st : Int) + j < 4611686018427387904 := by omega
  have h3 : (j : Int) < 4611686018427387904 := by omega
  obtain ⟨h4, h5⟩ := List.getElem?_eq_some_iff.mp hrow
  obtain ⟨h6, h7⟩ := List.getElem?_eq_some_iff.mp hprow
  have g1 := memO_getk mem kp
  have g2 := fun a b => memO_getp hkp a b
  have g3 := memO_setk mem kp
  have g4 := fun a b c => memO_setp hkp a b c
  unfold osd_in
  by_cases h : x = y
  · subst h
    simp [getL_ap, setL_ap, cst_ap, binM_ap, cmpM_ap, andM_nil_ap, andM_cons_ap, orM_nil_ap, orM_cons_ap, iteM_ap, asg1_ap, asg2_ap, augM_ap, blkM_nil_ap, blkM_cons_ap, retM_ap, tupM_ap, seqM_nil_ap, seqM_cons_ap, flatL, subM_ap, subF_str, subF_list, setItemM_ap, setItemF_list, bltM_ap, blt_len_s, bin_add, bin_sub, cmp_eq_i, cmp_ne_i, cmp_lt_i, cmp_le_i, cmp_gt_i, cmp_ge_i, cmp_eq_c, cmp_ne_c, pd_True, pd_False, h1, h2, h3, h4, h6, g1, g2, g3, g4, hy, toNat_add2, cellS, h5, h7]
  · simp [getL_ap, setL_ap, cst_ap, binM_ap, cmpM_ap, andM_nil_ap, andM_cons_ap, orM_nil_ap, orM_cons_ap, iteM_ap, asg1_ap, asg2_ap, augM_ap, blkM_nil_ap, blkM_cons_ap, retM_ap, tupM_ap, seqM_nil_ap, seqM_cons_ap, flatL, subM_ap, subF_str, subF_list, setItemM_ap, setItemF_list, bltM_ap, blt_len_s, bin_add, bin_sub, cmp_eq_i, cmp_ne_i, cmp_lt_i, cmp_le_i, cmp_gt_i, cmp_ge_i, cmp_eq_c, cmp_ne_c, pd_True, pd_False, h1, h2, h3, h4, h6, g1, g2, g3, g4, hy, toNat_add2, cellS, h, h5, h7, minM_ap]
    rw [swTail_ap (i := i) (j := j) (x := x) (py := y0) (px := px) (y := y) (t := t0) (v := min o (min a l) + 1) rfl rfl rfl rfl rfl rfl rfl rfl]
    simp [getL_ap, setL_ap, cst_ap, binM_ap, cmpM_ap, andM_nil_ap, andM_cons_ap, orM_nil_ap, orM_cons_ap, iteM_ap, asg1_ap, asg2_ap, augM_ap, blkM_nil_ap, blkM_cons_ap, retM_ap, tupM_ap, seqM_nil_ap, seqM_cons_ap, flatL, subM_ap, subF_str, subF_list, setItemM_ap, setItemF_list, bltM_ap, blt_len_s, bin_add, bin_sub, cmp_eq_i, cmp_ne_i, cmp_lt_i, cmp_le_i, cmp_gt_i, cmp_ge_i, cmp_eq_c, cmp_ne_c, pd_True, pd_False, h1, h2, h3, h4, h6, g1, g2, g3, g4, hy, toNat_add2, cellS, h, h5, h7, minM_ap]

theorem cellS_P {A B : List Nat} {i j x y px py : Nat} {t : Int} (hx : A[i]? = some x) (hy : B[j]? = some y) (hpx : i ≠ 0 → A[i - 1]? = some px) (hpy : j ≠ 0 → B[j - 1]? = some py) (ht : i ≠ 0 → j ≠ 0 → t = (P true A B (i - 1) (j - 1) : Nat)) :
    cellS i j x y px py (P true A B i j) (aP true A B i j) (P true A B i (j + 1)) t = (P true A B (i + 1) (j + 1) : Nat) := by
  have hi : i < A.length := (List.getElem?_eq_some_iff.mp hx).1
  have hmin : min (P true A B i (j + 1) : Int) (min (aP true A B i j) (P true A B i j)) + 1 = ((min (P true A B i j) (min (P true A B (i + 1) j) (P true A B i (j + 1))) + 1 : Nat) : Int) := by
    unfold aP
    by_cases hj : j = 0
    · subst hj
      rw [if_pos rfl, P_top (sw := true) (B := B) (i + 1) hi, P_top (sw := true) (B := B) i (Nat.le_of_lt hi)]
      omega
    · rw [if_neg hj]; omega
  unfold cellS
  by_cases h : x = y
  · rw [if_pos h, P_eq hx hy h]
  · rw [if_neg h, hmin]
    by_cases hs : Sw true A B i j x y
    · have h1 : i ≠ 0 := by have := hs.2.1; omega
      have h2 : j ≠ 0 := by have := hs.2.2.1; omega
      have h3 : px = y := by have := hs.2.2.2.1; rw [hpx h1] at this; exact Option.some.inj this
      have h4 : x = py := by have := hs.2.2.2.2; rw [hpy h2] at this; exact (Option.some.inj this).symm
      rw [P_sw hx hy h hs, ht h1 h2]
      by_cases hl : ((P true A B (i - 1) (j - 1) : Nat) : Int) + 1 < ((min (P true A B i j) (min (P true A B (i + 1) j) (P true A B i (j + 1))) + 1 : Nat) : Int)
      · rw [if_pos ⟨h1, h2, h4, h3, hl⟩]; omega
      · rw [if_neg (fun h => hl h.2.2.2.2)]; omega
    · rw [P_ne hx hy h hs, if_neg]
      rintro ⟨h1, h2, h3, h4, _⟩
      exact hs ⟨rfl, by omega, by omega, by rw [hpx h1, h4], by rw [hpy h2, h3]⟩

/-- the row before last: the first j cells are the last row's -/
def PrOk (sw : Bool) (A B : List Nat) (i j : Nat) (r : List PV) : Prop := B.length ≤ r.length ∧ ∀ k : Nat, k < r.length → ∃ v : Int, r[k]? = some (.fl (.int v)) ∧ (k < j → v = (P sw A B i k : Nat)) ∧ (j ≤ k → k < B.length → i ≠ 0 → v = (P sw A B (i - 1) k : Nat))
theorem PrOk.set {sw A B} {i j : Nat} {r : List PV} (h : PrOk sw A B i j r) (hj : j < B.length) : PrOk sw A B i (j + 1) (r.set j (.fl (.int (P sw A B i j)))) := by
  refine ⟨by simpa using h.1, fun k hk => ?_⟩
  have hk : k < r.length := by simpa using hk
  by_cases e : k = j
  · subst e
    refine ⟨_, List.getElem?_set_self (by have := h.1; omega), fun _ => rfl, fun h => absurd h (by omega)⟩
  · obtain ⟨v, h1, h2, h3⟩ := h.2 k hk
    exact ⟨v, by rw [List.getElem?_set_ne (fun h => e h.symm)]; exact h1, fun h => h2 (by omega), fun h => h3 (by omega)⟩
theorem PrOk.full {sw A B} {i : Nat} {r : List PV} (h : PrOk sw A B i B.length r) : PrOk sw A B (i + 1) 0 r := by
  refine ⟨h.1, fun k hk => ?_⟩
  obtain ⟨v, h1, h2, h3⟩ := h.2 k hk
  exact ⟨v, h1, fun h => absurd h (by omega), fun _ hkB _ => h2 hkB⟩

theorem osd_row {s1 s2 : Str} {A B : List Nat} {st : Nat} (hB : ∀ (j : Nat) y, B[j]? = some y → s2.cps[st + j]? = some y) (hlen : B.length < 2 ^ 60) (hst : st < 2 ^ 60) {i x px kp : Nat} (hx : A[i]? = some x) (hpx : i ≠ 0 → A[i - 1]? = some px) {z2 z3 : Option PV} {mem : List MO} (hkp : kp < mem.length) :
    ∀ (n j : Nat), j + n = B.length → ∀ cur y0 (t0 : Int) x15 x16 x17 prow, PrOk true A B i j prow → (j ≠ 0 → B[j - 1]? = some y0) → (i ≠ 0 → j ≠ 0 → t0 = (P true A B (i - 1) (j - 1) : Nat)) →
    ∃ cur' y0', ∃ t0' : Int, ∃ x15' x16' x17' prow', ((n = 0 → cur' = cur) ∧ (0 < n → cur' = sI (P true A B (i + 1) B.length))) ∧ PrOk true A B i B.length prow' ∧ prow'.length = prow.length ∧
      loopR (setL 15) osd_in 1 n j ⟨[sS s1, sS s2, z2, z3, sI st, sR mem.length, sR kp, sC x, cur, sI i, sC px, sC y0, sI (P true A B i j), sI (aP true A B i j), sI t0, x15, x16, x17], memO mem kp prow (rowP true A B i j)⟩ =
        some (.next, ⟨[sS s1, sS s2, z2, z3, sI st, sR mem.length, sR kp, sC x, cur', sI i, sC px, sC y0', sI (P true A B i B.length), sI (aP true A B i B.length), sI t0', x15', x16', x17'], memO mem kp prow' (rowP true A B i B.length)⟩) := by
  intro n
  induction n with
  | zero =>
    intro j hj cur y0 t0 x15 x16 x17 prow hpr hy0 ht0
    obtain rfl : j = B.length := by omega
    exact ⟨cur, y0, t0, x15, x16, x17, prow, ⟨fun _ => rfl, fun h => absurd h (Nat.lt_irrefl _)⟩, hpr, rfl, rfl⟩
  | succ n ih =>
    intro j hj cur y0 t0 x15 x16 x17 prow hpr hy0 ht0
    have hjl : j < B.length := by omega
    have hy : B[j]? = some (B[j]'hjl) := List.getElem?_eq_getElem _
    obtain ⟨p, hp1, hp2, hp3⟩ := hpr.2 j (by have := hpr.1; omega)
    have hs := osd_step (s1 := s1) (z2 := z2) (z3 := z3) (cur := cur) (x16 := x16) (x17 := x17) (i := i) (x := x) (px := px) (y0 := y0) (t0 := t0) (l := P true A B i j) (a := aP true A B i j) (mem := mem) hkp (by omega : j < 2 ^ 60) hst (rowP_get (sw := true) (A := A) (B := B) (i := i) hjl (Nat.le_refl j)) hp1 (hB j _ hy)
    rw [cellS_P hx hy hpx hy0 ht0, rowP_set hjl] at hs
    obtain ⟨cur', y0', t0', x15', x16', x17', prow', h1, h2, h2b, h3⟩ := ih (j + 1) (by omega) (sI (P true A B (i + 1) (j + 1))) (B[j]'hjl) p (sI j) (sI t0) (sC y0) _ (hpr.set hjl) (fun _ => hy) (fun h _ => hp3 (Nat.le_refl _) hjl h)
    refine ⟨cur', y0', t0', x15', x16', x17', prow', ⟨fun h => absurd h (by omega), fun _ => ?_⟩, h2, by simpa using h2b, ?_⟩
    · cases n with
      | zero =>
        have e : j + 1 = B.length := by omega
        rw [h1.1 rfl, e]
      | succ n => exact h1.2 (by omega)
    · rw [loopR_succ_ap]
      simp only [setL_ap, List.set_cons_succ, List.set_cons_zero]
      rw [hs]
      rw [aP_succ] at h3
      exact h3

theorem osd_rows {s1 s2 : Str} {A B : List Nat} {st : Nat} (hA : ∀ (j : Nat) y, A[j]? = some y → s1.cps[st + j]? = some y) (hB : ∀ (j : Nat) y, B[j]? = some y → s2.cps[st + j]? = some y) (hla : A.length < 2 ^ 60) (hlen : B.length < 2 ^ 60) (hst : st < 2 ^ 60) (hB0 : 0 < B.length)
    {z2 : Option PV} {mem : List MO} {kp : Nat} (hkp : kp < mem.length) :
    ∀ (n i : Nat), i + n = A.length → ∀ cur px x9 x10 x11 x12 x13 x14 x15 x16 x17 prow, PrOk true A B i 0 prow → (i ≠ 0 → A[i - 1]? = some px) →
    ∃ cur' px' x9' x10' x11' x12' x13' x14' x15' x16' x17' prow', ((n = 0 → cur' = cur) ∧ (0 < n → cur' = sI (P true A B A.length B.length))) ∧ PrOk true A B A.length 0 prow' ∧ prow'.length = prow.length ∧
      loopR (setL 9) osd_out 1 n i ⟨[sS s1, sS s2, z2, sI B.length, sI st, sR mem.length, sR kp, sC px, cur, x9, x10, x11, x12, x13, x14, x15, x16, x17], memO mem kp prow (rowP true A B i 0)⟩ =
        some (.next, ⟨[sS s1, sS s2, z2, sI B.length, sI st, sR mem.length, sR kp, sC px', cur', x9', x10', x11', x12', x13', x14', x15', x16', x17'], memO mem kp prow' (rowP true A B A.length 0)⟩) := by
  intro n
  induction n with
  | zero =>
    intro i hi cur px x9 x10 x11 x12 x13 x14 x15 x16 x17 prow hpr hpx
    obtain rfl : i = A.length := by omega
    exact ⟨cur, px, x9, x10, x11, x12, x13, x14, x15, x16, x17, prow, ⟨fun _ => rfl, fun h => absurd h (Nat.lt_irrefl _)⟩, hpr, rfl, rfl⟩
  | succ n ih =>
    intro i hi cur px x9 x10 x11 x12 x13 x14 x15 x16 x17 prow hpr hpx
    have hil : i < A.length := by omega
    have hx : A[i]? = some (A[i]'hil) := List.getElem?_eq_getElem _
    have g1 := hA i _ hx
    have h1 : (0 : Int) ≤ (st : Int) + i := by omega
    have h2 : (st : Int) + i < 4611686018427387904 := by omega
    obtain ⟨cur', y0', t0', x15', x16', x17', prow', hc, hp, hpl, hr⟩ := osd_row (z2 := z2) (z3 := sI B.length) (mem := mem) (s1 := s1) hB hlen hst hx hpx hkp B.length 0 (by omega) cur 32 0 x15 x16 x17 prow hpr (fun h => absurd rfl h) (fun _ h => absurd rfl h)
    obtain ⟨cur'', px'', x9'', x10'', x11'', x12'', x13'', x14'', x15'', x16'', x17'', prow'', hc2, hp2, hpl2, hr2⟩ := ih (i + 1) (by omega) cur' (A[i]'hil) (sI i) (sC px) (sC y0') (sI (P true A B i B.length)) (sI (aP true A B i B.length)) (sI t0') x15' x16' x17' prow' hp.full (fun _ => hx)
    refine ⟨cur'', px'', x9'', x10'', x11'', x12'', x13'', x14'', x15'', x16'', x17'', prow'', ⟨fun h => absurd h (by omega), fun _ => ?_⟩, hp2, by rw [hpl2, hpl], ?_⟩
    · cases n with
      | zero =>
        have e : i + 1 = A.length := by omega
        rw [hc2.1 rfl, hc.2 hB0, e]
      | succ n => exact hc2.2 (by omega)
    · rw [loopR_succ_ap]
      have e0 : P true A B i 0 = i := P_top i (by omega)
      have e1 : aP true A B i 0 = i := if_pos rfl
      have z : ((0 : Nat) : Int) = 0 := rfl
      rw [e0, e1, z] at hr
      rw [rowP_full] at hr
      unfold osd_out
      simp [getL_ap, setL_ap, cst_ap, binM_ap, cmpM_ap, andM_nil_ap, andM_cons_ap, orM_nil_ap, orM_cons_ap, iteM_ap, asg1_ap, asg2_ap, augM_ap, blkM_nil_ap, blkM_cons_ap, retM_ap, tupM_ap, seqM_nil_ap, seqM_cons_ap, flatL, subM_ap, subF_str, subF_list, setItemM_ap, setItemF_list, bltM_ap, blt_len_s, bin_add, bin_sub, cmp_eq_i, cmp_ne_i, cmp_lt_i, cmp_le_i, cmp_gt_i, cmp_ge_i, cmp_eq_c, cmp_ne_c, pd_True, pd_False, forRangeM_ap, h1, h2, g1, toNat_add2, rng1 B.length (by omega), space_c, hr]
      exact hr2

theorem osd_eval {s1 s2 : Str} {A B : List Nat} {st : Nat} (hA : ∀ (j : Nat) y, A[j]? = some y → s1.cps[st + j]? = some y) (hB : ∀ (j : Nat) y, B[j]? = some y → s2.cps[st + j]? = some y) (hla : A.length ≤ 1000) (hlen : B.length ≤ 1000) (hst : st ≤ 1000) (hA0 : 0 < A.length) (hB0 : 0 < B.length)
    {x5 x7 x8 x9 x10 x11 x12 x13 x14 x15 x16 x17 : Option PV} {mem : List MO} {kp : Nat} {prow : List PV} (hkp : mem[kp]? = some (.list prow)) (hpl : B.length ≤ prow.length) (hpi : ∀ k : Nat, k < prow.length → ∃ v, prow[k]? = some (.fl (.int v))) :
    ∃ l row prow', osd_m ⟨[sS s1, sS s2, sI A.length, sI B.length, sI st, x5, sR kp, x7, x8, x9, x10, x11, x12, x13, x14, x15, x16, x17], mem⟩ = some (.ret (.fl (.int (dist true A B))), ⟨l, mem.set kp (.list prow') ++ [row]⟩) ∧
      prow'.length = prow.length ∧ ∀ k : Nat, k < prow'.length → ∃ v, prow'[k]? = some (.fl (.int v)) := by
  have hk : kp < mem.length := (List.getElem?_eq_some_iff.mp hkp).1
  have hpr : PrOk true A B 0 0 prow := ⟨hpl, fun k hk => let ⟨v, e⟩ := hpi k hk; ⟨v, e, fun h => absurd h (by omega), fun _ _ h => absurd rfl h⟩⟩
  obtain ⟨cur', px', x9', x10', x11', x12', x13', x14', x15', x16', x17', prow', hc, hp, hl, hr⟩ := osd_rows (A := A) (B := B) hA hB (by omega) (by omega) (by omega) hB0 (z2 := sI A.length) hk A.length 0 (by omega) (sI 0) 32 x9 x10 x11 x12 x13 x14 x15 x16 x17 prow hpr (fun h => absurd rfl h)
  have hc := hc.2 hA0
  rw [P_whole] at hc
  subst hc
  have z : ((0 : Nat) : Int) = 0 := rfl
  rw [z] at hr
  have e0 : memO mem kp prow (rowP true A B 0 0) = mem ++ [.list (rowP true A B 0 0)] := by
    unfold memO
    congr 1
    apply List.ext_getElem?
    intro k
    by_cases e : k = kp
    · subst e; rw [List.getElem?_set_self hk, hkp]
    · rw [List.getElem?_set_ne (fun h => e h.symm)]
  rw [e0] at hr
  have hcomp : compL (binM .Add (getL 0) (cst (.fl (.int 1)))) B.length 0 = some (rowP true A B 0 0) := by
    rw [compL_all (g := fun i => .int (i + 1)) (fun _ => rfl) B.length 0 (fun k hk => by simp [getL_ap, setL_ap, cst_ap, binM_ap, cmpM_ap, andM_nil_ap, andM_cons_ap, orM_nil_ap, orM_cons_ap, iteM_ap, asg1_ap, asg2_ap, augM_ap, blkM_nil_ap, blkM_cons_ap, retM_ap, tupM_ap, seqM_nil_ap, seqM_cons_ap, flatL, subM_ap, subF_str, subF_list, setItemM_ap, setItemF_list, bltM_ap, blt_len_s, bin_add, bin_sub, cmp_eq_i, cmp_ne_i, cmp_lt_i, cmp_le_i, cmp_gt_i, cmp_ge_i, cmp_eq_c, cmp_ne_c, pd_True, pd_False])]
    congr 1
    unfold rowP
    apply List.map_congr_left
    intro k hk
    have := List.mem_range.mp hk
    rw [if_neg (by omega), P_left (sw := true) (A := A) (k + 1) (by omega)]
    show PV.fl (.int ((0 : Int) + (k : Int) + 1)) = PV.fl (.int ((k + 1 : Nat) : Int))
    rw [show (0 : Int) + (k : Int) + 1 = ((k + 1 : Nat) : Int) by omega]
  refine ⟨[sS s1, sS s2, sI A.length, sI B.length, sI st, sR mem.length, sR kp, sC px', sI (dist true A B), x9', x10', x11', x12', x13', x14', x15', x16', x17'], .list (rowP true A B A.length 0), prow', ?_, hl, fun k hk => let ⟨v, e, _⟩ := hp.2 k hk; ⟨v, e⟩⟩
  show blkM [(asg1 (compM [(getL 3)] (binM .Add (getL 0) (cst (.fl (.int 1))))) (setL 5)), (asg1 (cst (.fl (.str (Str.ofString " ")))) (setL 7)), (asg1 (cst (.fl (.int 0))) (setL 8)), (forRangeM [(getL 2)] (setL 9) osd_out), (retM (getL 8))] _ = _
  have hB1 : B.length ≤ 1048576 := by omega
  simp [getL_ap, setL_ap, cst_ap, binM_ap, cmpM_ap, andM_nil_ap, andM_cons_ap, orM_nil_ap, orM_cons_ap, iteM_ap, asg1_ap, asg2_ap, augM_ap, blkM_nil_ap, blkM_cons_ap, retM_ap, tupM_ap, seqM_nil_ap, seqM_cons_ap, flatL, subM_ap, subF_str, subF_list, setItemM_ap, setItemF_list, bltM_ap, blt_len_s, bin_add, bin_sub, cmp_eq_i, cmp_ne_i, cmp_lt_i, cmp_le_i, cmp_gt_i, cmp_ge_i, cmp_eq_c, cmp_ne_c, pd_True, pd_False, forRangeM_ap, compM_ap, rng1 B.length (by omega), rng1 A.length (by omega), hB1, hcomp, newL_ap, space_c, hr, memO]
end Mine

/-! Ev4 -/
namespace Mine

/-! the band -/
structure Band (A B : List Nat) (m d : Nat) : Prop where
  len : B.length = A.length + d
  dm : d ≤ m
  mB : m < B.length
  pos : 0 < A.length
  heads : ∃ x y, A[0]? = some x ∧ B[0]? = some y ∧ x ≠ y
def jsB (m d i : Nat) : Nat := i - (m - d)
def jeB (B : List Nat) (m i : Nat) : Nat := min B.length (m + i + 1)
theorem Band.js0 {A B m d} (b : Band A B m d) {i : Nat} (hi : 0 < jsB m d i) : m ≤ pot d i (jsB m d i) := by
  unfold jsB at *; unfold pot; have := b.dm; omega
theorem Band.ppos {sw A B m d} (b : Band A B m d) {i j : Nat} (hi : 0 < i) (hj : 0 < j) : 0 < P sw A B i j := by
  obtain ⟨x, y, h1, h2, h3⟩ := b.heads
  exact P_pos h1 h2 h3 hi hj

/-- a row of the band, before the row i is walked up to column j -/
def RowB (sw : Bool) (A B : List Nat) (m d i j : Nat) (r : List PV) : Prop := r.length = B.length ∧ ∀ k : Nat, k < B.length → ∃ v : Int, r[k]? = some (.fl (.int v)) ∧
  (j ≤ k → jsB m d i ≤ k → Cell sw A B m d i (k + 1) v) ∧ (k < j → jsB m d i ≤ k → Cell sw A B m d (i + 1) (k + 1) v) ∧ (m + i + 1 ≤ k → v = m + 1) ∧ (j ≤ k → m + i ≤ k → v = m + 1)
theorem RowB.zero {sw A B m d} (b : Band A B m d) : RowB sw A B m d 0 0 ((List.range B.length).map fun k => .fl (.int (if k < m then k + 1 else m + 1 : Nat))) := by
  refine ⟨by simp, fun k hk => ⟨_, by rw [List.getElem?_map, List.getElem?_range hk]; rfl, fun _ _ => ?_, fun h => absurd h (by omega), fun h => ?_, fun _ h => ?_⟩⟩
  · by_cases h : k < m
    · rw [if_pos h]; exact Cell.exact (by rw [P_left _ (by omega)])
    · rw [if_neg h]
      exact Cell.far (by unfold pot; omega) (by omega) (by rw [P_left _ (by omega)]; omega)
  · rw [if_neg (by omega)]; omega
  · rw [if_neg (by omega)]; omega
theorem RowB.set {sw A B m d i j r} (h : RowB sw A B m d i j r) (hj : j < jeB B m i) {v : Int} (hv : Cell sw A B m d (i + 1) (j + 1) v) : RowB sw A B m d i (j + 1) (r.set j (.fl (.int v))) := by
  have hjl : j < B.length := by unfold jeB at hj; omega
  refine ⟨by simpa using h.1, fun k hk => ?_⟩
  by_cases e : k = j
  · subst e
    exact ⟨v, List.getElem?_set_self (by rw [h.1]; exact hjl), fun h => absurd h (by omega), fun _ _ => hv, fun h => absurd h (by unfold jeB at hj; omega), fun h => absurd h (by omega)⟩
  · obtain ⟨u, h1, h2, h3, h4, h5⟩ := h.2 k hk
    exact ⟨u, by rw [List.getElem?_set_ne (fun h => e h.symm)]; exact h1, fun h => h2 (by omega), fun h => h3 (by omega), h4, fun h => h5 (by omega)⟩
theorem RowB.full {sw A B m d i r} (b : Band A B m d) (hi : i < A.length) (h : RowB sw A B m d i (jeB B m i) r) : RowB sw A B m d (i + 1) 0 r := by
  refine ⟨h.1, fun k hk => ?_⟩
  obtain ⟨u, h1, h2, h3, h4, h5⟩ := h.2 k hk
  refine ⟨u, h1, fun _ hs => ?_, fun h => absurd h (by omega), fun h => h4 (by omega), fun _ h => h4 (by omega)⟩
  by_cases hk2 : k < jeB B m i
  · exact h3 hk2 (by unfold jsB at *; omega)
  · have hk3 : m + i + 1 ≤ k := by unfold jeB at hk2; omega
    rw [h4 hk3]
    refine Cell.far (by unfold pot; omega) (by omega) ?_
    have := (P_len (sw := sw) (A := A) (B := B) (i + 1) (k + 1) (by omega) (by omega)).2
    omega

/-- a new cell of the band -/
theorem cellV_B {A B : List Nat} {m d i j x y : Nat} {l a o : Int} (b : Band A B m d) (hx : A[i]? = some x) (hy : B[j]? = some y) (hl : Cell false A B m d i j l) (ho : Cell false A B m d i (j + 1) o)
    (ha : Cell false A B m d (i + 1) j a ∨ (j = 0 ∧ a = l) ∨ (0 < j ∧ m ≤ pot d i j ∧ 0 < l ∧ 0 ≤ a)) : Cell false A B m d (i + 1) (j + 1) (cellV x y l a o) := by
  unfold cellV
  rcases ha with ha | ⟨rfl, rfl⟩ | ⟨h1, h2, h3, h4⟩
  · by_cases h : x = y
    · rw [if_pos h]; exact Cell.eq hx hy h hl
    · rw [if_neg h]
      have := Cell.ne (sw := false) hx hy h (fun hs => Bool.noConfusion hs.1) hl ha ho
      rw [show min o (min a l) = min l (min a o) by omega]; exact this
  · by_cases h : x = y
    · rw [if_pos h]; exact Cell.eq hx hy h hl
    · rw [if_neg h]
      have := Cell.ne0 (sw := false) hx hy h rfl hl ho
      rw [show min o (min a a) = min a o by omega]; exact this
  · refine Cell.edge ?_ (b.ppos (by omega) (by omega)) (by unfold pot at *; omega)
    have := ho.1
    split <;> omega

noncomputable def lvm_in : Mo Fl := blkM [(asg1 (getL 13) (setL 10)),
  (asg1 (subM (getL 5) (getL 15)) (setL 13)),
  (iteM (cmpM .NotEq (subM (getL 1) (binM .Add (getL 4) (getL 15))) (getL 12)) (blkM [minM 14 10, minM 13 10,
  (augM .Add 10 (cst (.fl (.int 1))))]) (blkM [])),
  (asg2 (getL 10) (setItemM (getL 5) (getL 15)) (setL 14))]
noncomputable def bumpM (op : CmpOp) (k a b : Nat) : Mo Fl := augM .Add k (iteM (cmpM op (getL a) (getL b)) (cst (.fl (.int 1))) (cst (.fl (.int 0))))
theorem bumpGt_ap {l : List (Option PV)} {mem : List MO} {k a b : Nat} {u x y : Int} (h1 : l[k]? = some (sI u)) (h2 : l[a]? = some (sI x)) (h3 : l[b]? = some (sI y)) : bumpM .Gt k a b ⟨l, mem⟩ = some (.next, ⟨l.set k (sI (u + if y < x then 1 else 0)), mem⟩) := by
  unfold bumpM
  by_cases h : y < x
  · simp [getL_ap, setL_ap, cst_ap, binM_ap, cmpM_ap, andM_nil_ap, andM_cons_ap, orM_nil_ap, orM_cons_ap, iteM_ap, asg1_ap, asg2_ap, augM_ap, blkM_nil_ap, blkM_cons_ap, retM_ap, tupM_ap, seqM_nil_ap, seqM_cons_ap, flatL, subM_ap, subF_str, subF_list, setItemM_ap, setItemF_list, bltM_ap, blt_len_s, bin_add, bin_sub, cmp_eq_i, cmp_ne_i, cmp_lt_i, cmp_le_i, cmp_gt_i, cmp_ge_i, cmp_eq_c, cmp_ne_c, pd_True, pd_False, h1, h2, h3, h]
  · simp [getL_ap, setL_ap, cst_ap, binM_ap, cmpM_ap, andM_nil_ap, andM_cons_ap, orM_nil_ap, orM_cons_ap, iteM_ap, asg1_ap, asg2_ap, augM_ap, blkM_nil_ap, blkM_cons_ap, retM_ap, tupM_ap, seqM_nil_ap, seqM_cons_ap, flatL, subM_ap, subF_str, subF_list, setItemM_ap, setItemF_list, bltM_ap, blt_len_s, bin_add, bin_sub, cmp_eq_i, cmp_ne_i, cmp_lt_i, cmp_le_i, cmp_gt_i, cmp_ge_i, cmp_eq_c, cmp_ne_c, pd_True, pd_False, h1, h2, h3, h]
theorem bumpLt_ap {l : List (Option PV)} {mem : List MO} {k a b : Nat} {u x y : Int} (h1 : l[k]? = some (sI u)) (h2 : l[a]? = some (sI x)) (h3 : l[b]? = some (sI y)) : bumpM .Lt k a b ⟨l, mem⟩ = some (.next, ⟨l.set k (sI (u + if x < y then 1 else 0)), mem⟩) := by
  unfold bumpM
  by_cases h : x < y
  · simp [getL_ap, setL_ap, cst_ap, binM_ap, cmpM_ap, andM_nil_ap, andM_cons_ap, orM_nil_ap, orM_cons_ap, iteM_ap, asg1_ap, asg2_ap, augM_ap, blkM_nil_ap, blkM_cons_ap, retM_ap, tupM_ap, seqM_nil_ap, seqM_cons_ap, flatL, subM_ap, subF_str, subF_list, setItemM_ap, setItemF_list, bltM_ap, blt_len_s, bin_add, bin_sub, cmp_eq_i, cmp_ne_i, cmp_lt_i, cmp_le_i, cmp_gt_i, cmp_ge_i, cmp_eq_c, cmp_ne_c, pd_True, pd_False, h1, h2, h3, h]
  · simp [getL_ap, setL_ap, cst_ap, binM_ap, cmpM_ap, andM_nil_ap, andM_cons_ap, orM_nil_ap, orM_cons_ap, iteM_ap, asg1_ap, asg2_ap, augM_ap, blkM_nil_ap, blkM_cons_ap, retM_ap, tupM_ap, seqM_nil_ap, seqM_cons_ap, flatL, subM_ap, subF_str, subF_list, setItemM_ap, setItemF_list, bltM_ap, blt_len_s, bin_add, bin_sub, cmp_eq_i, cmp_ne_i, cmp_lt_i, cmp_le_i, cmp_gt_i, cmp_ge_i, cmp_eq_c, cmp_ne_c, pd_True, pd_False, h1, h2, h3, h]
noncomputable def lvm_out (c : FV) : Mo Fl := blkM [(asg1 (subM (getL 0) (binM .Add (getL 4) (getL 11))) (setL 12)),
  (asg2 (getL 11) (setL 13) (setL 14)),
  bumpM .Gt 8 11 7, bumpM .Lt 9 9 3,
  (forRangeM [(getL 8), (getL 9)] (setL 15) lvm_in),
  (iteM (cmpM .Gt (subM (getL 5) (binM .Add (getL 11) (getL 6))) (cst (.fl c))) (blkM [(retM (cst (.fl (.int (-1)))))]) (blkM []))]

theorem lvm_step {s1 s2 : Str} {z2 z3 z6 z7 z8 z9 cur : Option PV} {st j x y : Nat} {i l a o : Int} {mem : List MO} {row : List PV} (hj : j < 2 ^ 60) (hst : st < 2 ^ 60) (hrow : row[j]? = some (.fl (.int o))) (hy : s2.cps[st + j]? = some y) :
    lvm_in ⟨[sS s1, sS s2, z2, z3, sI st, sR mem.length, z6, z7, z8, z9, cur, sI i, sC x, sI l, sI a, sI j], mem ++ [.list row]⟩ =
      some (.next, ⟨[sS s1, sS s2, z2, z3, sI st, sR mem.length, z6, z7, z8, z9, sI (cellV x y l a o), sI i, sC x, sI o, sI (cellV x y l a o), sI j], mem ++ [.list (row.set j (.fl (.int (cellV x y l a o))))]⟩) := by
  have h1 : (0 : Int) ≤ (st : Int) + j := by omega
  have h2 : (st : Int) + j < 4611686018427387904 := by omega
  have h3 : (j : Int) < 4611686018427387904 := by omega
  obtain ⟨h4, h5⟩ := List.getElem?_eq_some_iff.mp hrow
  unfold lvm_in
  by_cases h : x = y
  · subst h
    simp [getL_ap, setL_ap, cst_ap, binM_ap, cmpM_ap, andM_nil_ap, andM_cons_ap, orM_nil_ap, orM_cons_ap, iteM_ap, asg1_ap, asg2_ap, augM_ap, blkM_nil_ap, blkM_cons_ap, retM_ap, tupM_ap, seqM_nil_ap, seqM_cons_ap, flatL, subM_ap, subF_str, subF_list, setItemM_ap, setItemF_list, bltM_ap, blt_len_s, bin_add, bin_sub, cmp_eq_i, cmp_ne_i, cmp_lt_i, cmp_le_i, cmp_gt_i, cmp_ge_i, cmp_eq_c, cmp_ne_c, pd_True, pd_False, h1, h2, h3, h4, snoc_get, snoc_set, hrow, hy, toNat_add2, cellV, h5]
  · have h' : ¬ y = x := fun e => h e.symm
    simp [getL_ap, setL_ap, cst_ap, binM_ap, cmpM_ap, andM_nil_ap, andM_cons_ap, orM_nil_ap, orM_cons_ap, iteM_ap, asg1_ap, asg2_ap, augM_ap, blkM_nil_ap, blkM_cons_ap, retM_ap, tupM_ap, seqM_nil_ap, seqM_cons_ap, flatL, subM_ap, subF_str, subF_list, setItemM_ap, setItemF_list, bltM_ap, blt_len_s, bin_add, bin_sub, cmp_eq_i, cmp_ne_i, cmp_lt_i, cmp_le_i, cmp_gt_i, cmp_ge_i, cmp_eq_c, cmp_ne_c, pd_True, pd_False, h1, h2, h3, h4, snoc_get, snoc_set, hrow, hy, toNat_add2, cellV, h, h', h5, minM_ap]

theorem lvm_row {s1 s2 : Str} {A B : List Nat} {st m d : Nat} (b : Band A B m d) (hB : ∀ (j : Nat) y, B[j]? = some y → s2.cps[st + j]? = some y) (hlen : B.length < 2 ^ 60) (hst : st < 2 ^ 60) {i x : Nat} (hx : A[i]? = some x) {z2 z3 z6 z7 z8 z9 : Option PV} {mem : List MO} :
    ∀ (n j : Nat), j + n = jeB B m i → jsB m d i ≤ j → ∀ cur (l a : Int) x15 row, RowB false A B m d i j row → Cell false A B m d i j l →
      (0 < n → Cell false A B m d (i + 1) j a ∨ (j = 0 ∧ a = l) ∨ (0 < j ∧ m ≤ pot d i j ∧ 0 < l ∧ 0 ≤ a)) → (n = 0 → ∃ v, cur = sI v ∧ Cell false A B m d (i + 1) j v) →
    ∃ (v l' a' : Int), ∃ x15' row', Cell false A B m d (i + 1) (jeB B m i) v ∧ RowB false A B m d i (jeB B m i) row' ∧
      loopR (setL 15) lvm_in 1 n j ⟨[sS s1, sS s2, z2, z3, sI st, sR mem.length, z6, z7, z8, z9, cur, sI i, sC x, sI l, sI a, x15], mem ++ [.list row]⟩ =
        some (.next, ⟨[sS s1, sS s2, z2, z3, sI st, sR mem.length, z6, z7, z8, z9, sI v, sI i, sC x, sI l', sI a', x15'], mem ++ [.list row']⟩) := by
  intro n
  induction n with
  | zero =>
    intro j hj hjs cur l a x15 row hr hl ha hc
    obtain rfl : j = jeB B m i := by omega
    obtain ⟨v, rfl, hv⟩ := hc rfl
    exact ⟨v, l, a, x15, row, hv, hr, rfl⟩
  | succ n ih =>
    intro j hj hjs cur l a x15 row hr hl ha hc
    have hjl : j < B.length := by unfold jeB at hj; omega
    have hy : B[j]? = some (B[j]'hjl) := List.getElem?_eq_getElem _
    obtain ⟨o, ho1, ho2, ho3, ho4, ho5⟩ := hr.2 j hjl
    have ho := ho2 (Nat.le_refl j) hjs
    have hv := cellV_B b hx hy hl ho (ha (by omega))
    have hs := lvm_step (s1 := s1) (z2 := z2) (z3 := z3) (z6 := z6) (z7 := z7) (z8 := z8) (z9 := z9) (cur := cur) (i := i) (l := l) (a := a) (mem := mem) (by omega : j < 2 ^ 60) hst ho1 (hB j _ hy) (x := x)
    obtain ⟨v, l', a', x15', row', h1, h2, h3⟩ := ih (j + 1) (by omega) (by omega) (sI (cellV x (B[j]'hjl) l a o)) o (cellV x (B[j]'hjl) l a o) (sI j) _ (hr.set (by omega) hv) ho (fun _ => Or.inl hv) (fun _ => ⟨_, rfl, hv⟩)
    refine ⟨v, l', a', x15', row', h1, h2, ?_⟩
    rw [loopR_succ_ap]
    simp only [setL_ap, List.set_cons_succ, List.set_cons_zero]
    rw [hs]
    exact h3

theorem Band.start {sw A B m d} (b : Band A B m d) {i : Nat} (hi : i < A.length) : Cell sw A B m d i (jsB m d i) i ∧
    (Cell sw A B m d (i + 1) (jsB m d i) i ∨ (jsB m d i = 0 ∧ (i : Int) = i) ∨ (0 < jsB m d i ∧ m ≤ pot d i (jsB m d i) ∧ 0 < (i : Int) ∧ 0 ≤ (i : Int))) := by
  by_cases h : jsB m d i = 0
  · rw [h]
    exact ⟨Cell.exact (by rw [P_top i (by omega)]), Or.inr (Or.inl ⟨rfl, rfl⟩)⟩
  · have h1 : 0 < jsB m d i := by omega
    have h2 : 0 < i := by unfold jsB at h1; omega
    exact ⟨Cell.edge (by omega) (b.ppos h2 h1) (b.js0 h1), Or.inr (Or.inr ⟨h1, b.js0 h1, by omega, by omega⟩)⟩

/-- what the band returns -/
def bandR (m D : Nat) : Int := if D ≤ m then D else -1
theorem Band.exit {sw A B m d} (b : Band A B m d) {i : Nat} (hi : i < A.length) {v : Int} (hv : Cell sw A B m d (i + 1) (i + d + 1) v) (h : (m : Int) < v) : bandR m (dist sw A B) = -1 := by
  unfold bandR
  rw [if_neg]
  intro hd
  have h1 := (hv.2 m (by unfold pot; omega))
  have h2 := P_diag (sw := sw) (A := A) (B := B) (i + 1) (i + d + 1) (by have := b.len; omega)
  omega
theorem Band.fin {sw A B m d} (b : Band A B m d) {v : Int} (hv : Cell sw A B m d A.length B.length v) : (v ≤ (m : Int) → v = (dist sw A B : Nat) ∧ bandR m (dist sw A B) = v) ∧ (¬ v ≤ (m : Int) → bandR m (dist sw A B) = -1) := by
  have hp : pot d A.length B.length = 0 := by unfold pot; have := b.len; omega
  have h := hv.2
  rw [hp, P_whole] at h
  have h0 := hv.1
  constructor
  · intro hm
    have h1 := h v.toNat (by omega)
    have h2 : dist sw A B ≤ v.toNat := h1.mp (by omega)
    have h3 := (h (dist sw A B) (by omega)).mpr (Nat.le_refl _)
    have e : v = (dist sw A B : Nat) := by omega
    refine ⟨e, ?_⟩
    unfold bandR
    rw [if_pos (by omega), e]
  · intro hm
    unfold bandR
    rw [if_neg]
    intro hd
    exact hm ((h m (by omega)).mpr hd)

theorem lvm_outstep {s1 s2 : Str} {la lb st d x i : Nat} {js0 js1 je0 je1 off m : Int} {cur cur' x12 x13 x14 x15 x12' x13' x14' x15' : Option PV} {n : Nat} {row row' : List PV} {mem : List MO} {cv : Int}
    (g1 : s1.cps[st + i]? = some x) (hst : st < 2 ^ 60) (hi : i < 2 ^ 60) (hd : d < 2 ^ 60) (e8 : js0 + (if off < i then 1 else 0) = js1) (e9 : je0 + (if je0 < lb then 1 else 0) = je1) (hrng : rng [.fl (.int js1), .fl (.int je1)] = some (js1, n))
    (hrow : loopR (setL 15) lvm_in 1 n js1 ⟨[sS s1, sS s2, sI la, sI lb, sI st, sR mem.length, sI d, sI off, sI js1, sI je1, cur, sI i, sC x, sI i, sI i, x15], mem ++ [.list row]⟩ = some (.next, ⟨[sS s1, sS s2, sI la, sI lb, sI st, sR mem.length, sI d, sI off, sI js1, sI je1, cur', sI i, x12', x13', x14', x15'], mem ++ [.list row']⟩))
    (hc : row'[i + d]? = some (.fl (.int cv))) :
    lvm_out (.int m) ⟨[sS s1, sS s2, sI la, sI lb, sI st, sR mem.length, sI d, sI off, sI js0, sI je0, cur, sI i, x12, x13, x14, x15], mem ++ [.list row]⟩ =
      some (if m < cv then .ret (.fl (.int (-1))) else .next, ⟨[sS s1, sS s2, sI la, sI lb, sI st, sR mem.length, sI d, sI off, sI js1, sI je1, cur', sI i, x12', x13', x14', x15'], mem ++ [.list row']⟩) := by
  have h1 : (0 : Int) ≤ (st : Int) + i := by omega
  have h2 : (st : Int) + i < 4611686018427387904 := by omega
  have h3 : (0 : Int) ≤ (i : Int) + d := by omega
  have h4 : (i : Int) + d < 4611686018427387904 := by omega
  obtain ⟨hc1, hc2⟩ := List.getElem?_eq_some_iff.mp hc
  unfold lvm_out
  rw [blkM_cons_ap]
  simp [getL_ap, setL_ap, cst_ap, binM_ap, cmpM_ap, andM_nil_ap, andM_cons_ap, orM_nil_ap, orM_cons_ap, iteM_ap, asg1_ap, asg2_ap, augM_ap, blkM_nil_ap, blkM_cons_ap, retM_ap, tupM_ap, seqM_nil_ap, seqM_cons_ap, flatL, subM_ap, subF_str, subF_list, setItemM_ap, setItemF_list, bltM_ap, blt_len_s, bin_add, bin_sub, cmp_eq_i, cmp_ne_i, cmp_lt_i, cmp_le_i, cmp_gt_i, cmp_ge_i, cmp_eq_c, cmp_ne_c, pd_True, pd_False, h1, h2, g1, toNat_add2]
  rw [bumpGt_ap (u := js0) (x := i) (y := off) rfl rfl rfl, e8]
  simp only [List.set_cons_succ, List.set_cons_zero]
  rw [bumpLt_ap (u := je0) (x := je0) (y := lb) rfl rfl rfl, e9]
  simp only [List.set_cons_succ, List.set_cons_zero]
  simp [getL_ap, setL_ap, cst_ap, binM_ap, cmpM_ap, andM_nil_ap, andM_cons_ap, orM_nil_ap, orM_cons_ap, iteM_ap, asg1_ap, asg2_ap, augM_ap, blkM_nil_ap, blkM_cons_ap, retM_ap, tupM_ap, seqM_nil_ap, seqM_cons_ap, flatL, subM_ap, subF_str, subF_list, setItemM_ap, setItemF_list, bltM_ap, blt_len_s, bin_add, bin_sub, cmp_eq_i, cmp_ne_i, cmp_lt_i, cmp_le_i, cmp_gt_i, cmp_ge_i, cmp_eq_c, cmp_ne_c, pd_True, pd_False, forRangeM_ap, hrng, hrow, h3, h4, toNat_add2, snoc_get, hc1, hc2]
  by_cases h : m < cv
  · simp [h, pd_True, pd_False]
  · simp [h, pd_True, pd_False]

theorem lvm_rows {s1 s2 : Str} {A B : List Nat} {st m d : Nat} (b : Band A B m d) (hA : ∀ (j : Nat) y, A[j]? = some y → s1.cps[st + j]? = some y) (hB : ∀ (j : Nat) y, B[j]? = some y → s2.cps[st + j]? = some y) (hla : A.length < 2 ^ 59) (hlen : B.length < 2 ^ 59) (hst : st < 2 ^ 59) {mem : List MO} :
    ∀ (n i : Nat), i + n = A.length → ∀ cur x11 x12 x13 x14 x15 row, RowB false A B m d i 0 row → (n = 0 → ∃ v, cur = sI v ∧ Cell false A B m d A.length B.length v) →
    ∃ fl l' row', loopR (setL 11) (lvm_out (.int m)) 1 n i ⟨[sS s1, sS s2, sI A.length, sI B.length, sI st, sR mem.length, sI d, sI ((m : Int) - d), sI (i - 1 - (m - d) : Nat), sI (min B.length (m + i) : Nat), cur, x11, x12, x13, x14, x15], mem ++ [.list row]⟩ = some (fl, ⟨l', mem ++ [.list row']⟩) ∧
      ((fl = .ret (.fl (.int (-1))) ∧ bandR m (dist false A B) = -1) ∨ (fl = .next ∧ ∃ v, l'[10]? = some (sI v) ∧ Cell false A B m d A.length B.length v)) := by
  have hbl := b.len
  have hdm := b.dm
  have hmB := b.mB
  intro n
  induction n with
  | zero =>
    intro i hi cur x11 x12 x13 x14 x15 row hr hc
    obtain ⟨v, rfl, hv⟩ := hc rfl
    exact ⟨.next, _, row, rfl, Or.inr ⟨rfl, v, rfl, hv⟩⟩
  | succ n ih =>
    intro i hi cur x11 x12 x13 x14 x15 row hr hc
    have hil : i < A.length := by omega
    have hx : A[i]? = some (A[i]'hil) := List.getElem?_eq_getElem _
    have g1 := hA i _ hx
    have h1 : (0 : Int) ≤ (st : Int) + i := by omega
    have h2 : (st : Int) + i < 4611686018427387904 := by omega
    have hje : jsB m d i < jeB B m i := by unfold jsB jeB; omega
    have hst0 := b.start (sw := false) hil
    obtain ⟨v, l', a', x15', row', hv, hr', hrow⟩ := lvm_row (s1 := s1) (z2 := sI A.length) (z3 := sI B.length) (z6 := sI d) (z7 := sI ((m : Int) - d)) (z8 := sI (jsB m d i)) (z9 := sI (jeB B m i)) (mem := mem) b hB (by omega) (by omega) hx (jeB B m i - jsB m d i) (jsB m d i) (by omega) (Nat.le_refl _) cur i i x15 row
      ⟨hr.1, fun k hk => let ⟨u, q1, q2, q3, q4, q5⟩ := hr.2 k hk; ⟨u, q1, fun _ h => q2 (by omega) h, fun h1 h2 => absurd h1 (by omega), q4, fun _ h => q5 (by omega) h⟩⟩ hst0.1 (fun _ => hst0.2) (fun h => absurd h (by omega))
    have hfull := hr'.full b hil
    -- the corner of this row
    have hid : i + d < B.length := by omega
    obtain ⟨c, hc1, _, hc3, _, _⟩ := hr'.2 (i + d) hid
    have hcell := hc3 (by unfold jeB; omega) (by unfold jsB; omega)
    obtain ⟨hc4, hc5⟩ := List.getElem?_eq_some_iff.mp hc1
    have e8 : ((i - 1 - (m - d) : Nat) : Int) + (if (m : Int) - d < i then 1 else 0) = (jsB m d i : Nat) := by unfold jsB; split <;> omega
    have e9 : ((min B.length (m + i) : Nat) : Int) + (if ((min B.length (m + i) : Nat) : Int) < B.length then 1 else 0) = (jeB B m i : Nat) := by unfold jeB; split <;> omega
    have hrng := rng2 (jsB m d i : Nat) (jeB B m i : Nat) (by omega) (by omega) (by unfold jsB; omega) (by unfold jeB; omega)
    rw [show ((jeB B m i : Nat) : Int) - (jsB m d i : Nat) = ((jeB B m i - jsB m d i : Nat) : Int) by omega, Int.toNat_natCast] at hrng
    have hd0 : (0 : Int) ≤ (i : Int) + d := by omega
    have hd1 : (i : Int) + d < 4611686018427387904 := by omega
    have hstep := lvm_outstep (s2 := s2) (la := A.length) (lb := B.length) (m := m) (x12 := x12) (x13 := x13) (x14 := x14) g1 (by omega) (by omega) (by omega) e8 e9 hrng hrow hc1
    by_cases hex : (m : Int) < c
    · refine ⟨.ret (.fl (.int (-1))), [sS s1, sS s2, sI A.length, sI B.length, sI st, sR mem.length, sI d, sI ((m : Int) - d), sI (jsB m d i), sI (jeB B m i), sI v, sI i, sC (A[i]'hil), sI l', sI a', x15'], row', ?_, Or.inl ⟨rfl, b.exit hil hcell hex⟩⟩
      rw [loopR_succ_ap]
      simp only [setL_ap, List.set_cons_succ, List.set_cons_zero]
      rw [hstep, if_pos hex]
    · obtain ⟨fl, l2, row2, q1, q2⟩ := ih (i + 1) (by omega) (sI v) (sI i) (sC (A[i]'hil)) (sI l') (sI a') x15' row' hfull (fun h => ⟨v, rfl, by
        have e1 : i + 1 = A.length := by omega
        have e2 : jeB B m i = B.length := by unfold jeB; omega
        rw [e1, e2] at hv; exact hv⟩)
      refine ⟨fl, l2, row2, ?_, q2⟩
      rw [loopR_succ_ap]
      simp only [setL_ap, List.set_cons_succ, List.set_cons_zero]
      rw [hstep, if_neg hex]
      have e3 : i + 1 - 1 - (m - d) = jsB m d i := by unfold jsB; omega
      have e4 : min B.length (m + (i + 1)) = jeB B m i := by unfold jeB; omega
      rw [e3, e4] at q1
      exact q1

theorem lvm_eval {s1 s2 : Str} {A B : List Nat} {st m d : Nat} (b : Band A B m d) (hA : ∀ (j : Nat) y, A[j]? = some y → s1.cps[st + j]? = some y) (hB : ∀ (j : Nat) y, B[j]? = some y → s2.cps[st + j]? = some y) (hla : A.length ≤ 1000) (hlen : B.length ≤ 1000) (hst : st ≤ 1000)
    {x5 x6 x7 x8 x9 x10 x11 x12 x13 x14 x15 : Option PV} {mem : List MO} :
    ∃ l row, lvm_m (.int m) ⟨[sS s1, sS s2, sI A.length, sI B.length, sI st, x5, x6, x7, x8, x9, x10, x11, x12, x13, x14, x15], mem⟩ = some (.ret (.fl (.int (bandR m (dist false A B)))), ⟨l, mem ++ [row]⟩) := by
  have hbl := b.len
  have hmB := b.mB
  have hp := b.pos
  let row0 : List PV := (List.range B.length).map fun k => .fl (.int (if k < m then k + 1 else m + 1 : Nat))
  obtain ⟨fl, l', row', hr, hfin⟩ := lvm_rows b hA hB (by omega) (by omega) (by omega) (mem := mem) A.length 0 (by omega) (sI 0) x11 x12 x13 x14 x15 row0 (RowB.zero b) (fun h => absurd h (by omega))
  have e1 : min B.length (m + 0) = m := by omega
  have e2 : 0 - 1 - (m - d) = 0 := by omega
  have z : ((0 : Nat) : Int) = 0 := rfl
  rw [e1, e2, z] at hr
  have hcomp : compL (iteM (cmpM .Lt (getL 0) (cst (.fl (.int m)))) (binM .Add (getL 0) (cst (.fl (.int 1)))) (binM .Add (cst (.fl (.int m))) (cst (.fl (.int 1))))) B.length 0 = some row0 := by
    rw [compL_all (g := fun i => .int (if i < m then i + 1 else m + 1)) (fun _ => rfl) B.length 0 (fun k hk => by
      by_cases h : k < m
      · simp [getL_ap, setL_ap, cst_ap, binM_ap, cmpM_ap, andM_nil_ap, andM_cons_ap, orM_nil_ap, orM_cons_ap, iteM_ap, asg1_ap, asg2_ap, augM_ap, blkM_nil_ap, blkM_cons_ap, retM_ap, tupM_ap, seqM_nil_ap, seqM_cons_ap, flatL, subM_ap, subF_str, subF_list, setItemM_ap, setItemF_list, bltM_ap, blt_len_s, bin_add, bin_sub, cmp_eq_i, cmp_ne_i, cmp_lt_i, cmp_le_i, cmp_gt_i, cmp_ge_i, cmp_eq_c, cmp_ne_c, pd_True, pd_False, h]
      · simp [getL_ap, setL_ap, cst_ap, binM_ap, cmpM_ap, andM_nil_ap, andM_cons_ap, orM_nil_ap, orM_cons_ap, iteM_ap, asg1_ap, asg2_ap, augM_ap, blkM_nil_ap, blkM_cons_ap, retM_ap, tupM_ap, seqM_nil_ap, seqM_cons_ap, flatL, subM_ap, subF_str, subF_list, setItemM_ap, setItemF_list, bltM_ap, blt_len_s, bin_add, bin_sub, cmp_eq_i, cmp_ne_i, cmp_lt_i, cmp_le_i, cmp_gt_i, cmp_ge_i, cmp_eq_c, cmp_ne_c, pd_True, pd_False, h])]
    congr 1
    apply List.map_congr_left
    intro k hk
    show PV.fl (.int (if (0 : Int) + (k : Int) < m then (0 : Int) + (k : Int) + 1 else m + 1)) = PV.fl (.int ((if k < m then k + 1 else m + 1 : Nat) : Int))
    by_cases h : k < m
    · rw [if_pos h, if_pos (by omega)]; congr 2; omega
    · rw [if_neg h, if_neg (by omega)]; rfl
  have hB1 : B.length ≤ 1048576 := by omega
  have ed : (B.length : Int) - A.length = d := by omega
  have hm : lvm_m (.int m) ⟨[sS s1, sS s2, sI A.length, sI B.length, sI st, x5, x6, x7, x8, x9, x10, x11, x12, x13, x14, x15], mem⟩ =
      blkM [forRangeM [getL 2] (setL 11) (lvm_out (.int m)), retM (iteM (cmpM .LtE (getL 10) (cst (.fl (.int m)))) (getL 10) (cst (.fl (.int (-1)))))]
        ⟨[sS s1, sS s2, sI A.length, sI B.length, sI st, sR mem.length, sI d, sI ((m : Int) - d), sI 0, sI m, sI 0, x11, x12, x13, x14, x15], mem ++ [.list row0]⟩ := by
    show blkM [(asg1 (compM [(getL 3)] (iteM (cmpM .Lt (getL 0) (cst (.fl (.int m)))) (binM .Add (getL 0) (cst (.fl (.int 1)))) (binM .Add (cst (.fl (.int m))) (cst (.fl (.int 1)))))) (setL 5)),
      (asg1 (binM .Sub (getL 3) (getL 2)) (setL 6)), (asg1 (binM .Sub (cst (.fl (.int m))) (getL 6)) (setL 7)), (asg1 (cst (.fl (.int 0))) (setL 8)), (asg1 (cst (.fl (.int m))) (setL 9)), (asg1 (cst (.fl (.int 0))) (setL 10)),
      forRangeM [getL 2] (setL 11) (lvm_out (.int m)), retM (iteM (cmpM .LtE (getL 10) (cst (.fl (.int m)))) (getL 10) (cst (.fl (.int (-1)))))] _ = _
    rw [blkM_cons_ap, asg1_ap, compM_ap]
    simp only [seqM_cons_ap, seqM_nil_ap, getL_ap, List.getElem?_cons_succ, List.getElem?_cons_zero, rng1 B.length (by omega : B.length < 2 ^ 61), hB1, if_true, hcomp, newL_ap, setL_ap, List.set_cons_succ, List.set_cons_zero]
    simp only [blkM_cons_ap _ (_ :: _), getL_ap, setL_ap, cst_ap, binM_ap, cmpM_ap, andM_nil_ap, andM_cons_ap, orM_nil_ap, orM_cons_ap, iteM_ap, asg1_ap, asg2_ap, augM_ap, blkM_nil_ap, blkM_cons_ap, retM_ap, tupM_ap, seqM_nil_ap, seqM_cons_ap, flatL, subM_ap, subF_str, subF_list, setItemM_ap, setItemF_list, bltM_ap, blt_len_s, bin_add, bin_sub, cmp_eq_i, cmp_ne_i, cmp_lt_i, cmp_le_i, cmp_gt_i, cmp_ge_i, cmp_eq_c, cmp_ne_c, pd_True, pd_False, List.getElem?_cons_succ, List.getElem?_cons_zero, List.set_cons_succ, List.set_cons_zero, ed]
  rw [hm]
  rcases hfin with ⟨rfl, hb⟩ | ⟨rfl, v, hv1, hv2⟩
  · refine ⟨l', .list row', ?_⟩
    rw [hb]
    simp [getL_ap, setL_ap, cst_ap, binM_ap, cmpM_ap, andM_nil_ap, andM_cons_ap, orM_nil_ap, orM_cons_ap, iteM_ap, asg1_ap, asg2_ap, augM_ap, blkM_nil_ap, blkM_cons_ap, retM_ap, tupM_ap, seqM_nil_ap, seqM_cons_ap, flatL, subM_ap, subF_str, subF_list, setItemM_ap, setItemF_list, bltM_ap, blt_len_s, bin_add, bin_sub, cmp_eq_i, cmp_ne_i, cmp_lt_i, cmp_le_i, cmp_gt_i, cmp_ge_i, cmp_eq_c, cmp_ne_c, pd_True, pd_False, forRangeM_ap, rng1 A.length (by omega), hr]
  · refine ⟨l', .list row', ?_⟩
    have hf := b.fin hv2
    by_cases h : v ≤ (m : Int)
    · rw [(hf.1 h).2]
      simp [getL_ap, setL_ap, cst_ap, binM_ap, cmpM_ap, andM_nil_ap, andM_cons_ap, orM_nil_ap, orM_cons_ap, iteM_ap, asg1_ap, asg2_ap, augM_ap, blkM_nil_ap, blkM_cons_ap, retM_ap, tupM_ap, seqM_nil_ap, seqM_cons_ap, flatL, subM_ap, subF_str, subF_list, setItemM_ap, setItemF_list, bltM_ap, blt_len_s, bin_add, bin_sub, cmp_eq_i, cmp_ne_i, cmp_lt_i, cmp_le_i, cmp_gt_i, cmp_ge_i, cmp_eq_c, cmp_ne_c, pd_True, pd_False, forRangeM_ap, rng1 A.length (by omega), hr, hv1, h]
    · rw [hf.2 h]
      simp [getL_ap, setL_ap, cst_ap, binM_ap, cmpM_ap, andM_nil_ap, andM_cons_ap, orM_nil_ap, orM_cons_ap, iteM_ap, asg1_ap, asg2_ap, augM_ap, blkM_nil_ap, blkM_cons_ap, retM_ap, tupM_ap, seqM_nil_ap, seqM_cons_ap, flatL, subM_ap, subF_str, subF_list, setItemM_ap, setItemF_list, bltM_ap, blt_len_s, bin_add, bin_sub, cmp_eq_i, cmp_ne_i, cmp_lt_i, cmp_le_i, cmp_gt_i, cmp_ge_i, cmp_eq_c, cmp_ne_c, pd_True, pd_False, forRangeM_ap, rng1 A.length (by omega), hr, hv1, h]
end Mine

/-! Ev5 -/
namespace Mine

/-- the row before last in the band -/
def PrB (sw : Bool) (A B : List Nat) (m d i j : Nat) (r : List PV) : Prop := B.length ≤ r.length ∧ ∀ k : Nat, k < r.length → ∃ v : Int, r[k]? = some (.fl (.int v)) ∧
  (jsB m d i ≤ k → k < j → Cell sw A B m d i k v) ∧ (i ≠ 0 → j ≤ k → jsB m d (i - 1) ≤ k → k < jeB B m (i - 1) → Cell sw A B m d (i - 1) k v)
theorem PrB.set {sw A B m d i j r} (h : PrB sw A B m d i j r) (hj : j < B.length) {l : Int} (hl : Cell sw A B m d i j l) : PrB sw A B m d i (j + 1) (r.set j (.fl (.int l))) := by
  refine ⟨by simpa using h.1, fun k hk => ?_⟩
  have hk : k < r.length := by simpa using hk
  by_cases e : k = j
  · subst e
    exact ⟨l, List.getElem?_set_self (by have := h.1; omega), fun _ _ => hl, fun _ h => absurd h (by omega)⟩
  · obtain ⟨v, h1, h2, h3⟩ := h.2 k hk
    exact ⟨v, by rw [List.getElem?_set_ne (fun h => e h.symm)]; exact h1, fun a _ => h2 a (by omega), fun a _ => h3 a (by omega)⟩
theorem PrB.full {sw A B m d i r} (h : PrB sw A B m d i (jeB B m i) r) : PrB sw A B m d (i + 1) 0 r := by
  refine ⟨h.1, fun k hk => ?_⟩
  obtain ⟨v, h1, h2, h3⟩ := h.2 k hk
  exact ⟨v, h1, fun _ h => absurd h (by omega), fun _ _ a b => h2 a b⟩

/-- a new cell of the band, with swaps -/
theorem cellS_B {A B : List Nat} {m d i j x y px py : Nat} {l a o t : Int} (b : Band A B m d) (hx : A[i]? = some x) (hy : B[j]? = some y) (hl : Cell true A B m d i j l) (ho : Cell true A B m d i (j + 1) o)
    (hpx : i ≠ 0 → A[i - 1]? = some px)
    (ha : (Cell true A B m d (i + 1) j a ∧ (j ≠ 0 → B[j - 1]? = some py ∧ (i ≠ 0 → Cell true A B m d (i - 1) (j - 1) t))) ∨ (j = 0 ∧ a = l) ∨ (0 < j ∧ m ≤ pot d i j ∧ 0 < l ∧ 0 ≤ a ∧ 0 ≤ t)) : Cell true A B m d (i + 1) (j + 1) (cellS i j x y px py l a o t) := by
  unfold cellS
  by_cases h : x = y
  · rw [if_pos h]
    rcases ha with ⟨ha, _⟩ | ⟨rfl, rfl⟩ | ⟨h1, h2, h3, h4, h5⟩
    · exact Cell.eq hx hy h hl
    · exact Cell.eq hx hy h hl
    · exact Cell.edge (by omega) (b.ppos (by omega) (by omega)) (by unfold pot at *; omega)
  · rw [if_neg h]
    rcases ha with ⟨ha, hsw⟩ | ⟨rfl, rfl⟩ | ⟨h1, h2, h3, h4, h5⟩
    · by_cases hs : Sw true A B i j x y
      · have h1 : i ≠ 0 := by have := hs.2.1; omega
        have h2 : j ≠ 0 := by have := hs.2.2.1; omega
        obtain ⟨hpy, ht⟩ := hsw h2
        have h3 : px = y := by have := hs.2.2.2.1; rw [hpx h1] at this; exact Option.some.inj this
        have h4 : x = py := by have := hs.2.2.2.2; rw [hpy] at this; exact (Option.some.inj this).symm
        have hc := Cell.swp hx hy h hs hl ha ho (ht h1)
        by_cases hlt : t + 1 < min o (min a l) + 1
        · rw [if_pos ⟨h1, h2, h4, h3, hlt⟩]
          rw [show min (min l (min a o) + 1) (t + 1) = t + 1 by omega] at hc; exact hc
        · rw [if_neg (fun h => hlt h.2.2.2.2)]
          rw [show min (min l (min a o) + 1) (t + 1) = min o (min a l) + 1 by omega] at hc; exact hc
      · rw [if_neg]
        · have := Cell.ne hx hy h hs hl ha ho
          rw [show min o (min a l) = min l (min a o) by omega]; exact this
        · rintro ⟨h1, h2, h3, h4, _⟩
          obtain ⟨hpy, _⟩ := hsw h2
          exact hs ⟨rfl, by omega, by omega, by rw [hpx h1, h4], by rw [hpy, h3]⟩
    · rw [if_neg (fun h => h.2.1 rfl)]
      have := Cell.ne0 hx hy h rfl hl ho
      rw [show min o (min a a) = min a o by omega]; exact this
    · refine Cell.edge ?_ (b.ppos (by omega) (by omega)) (by unfold pot at *; omega)
      have := ho.1
      split <;> omega

noncomputable def osm_in : Mo Fl := blkM [(asg1 (getL 18) (setL 20)),
  (asg1 (subM (getL 6) (getL 19)) (setL 18)),
  (asg2 (getL 16) (setItemM (getL 6) (getL 19)) (setL 12)),
  (asg1 (subM (getL 5) (getL 19)) (setL 16)),
  (asg1 (getL 15) (setL 21)),
  (asg1 (subM (getL 1) (binM .Add (getL 4) (getL 19))) (setL 15)),
  (iteM (cmpM .NotEq (getL 11) (getL 15)) (blkM [minM 17 12, minM 16 12,
  (augM .Add 12 (cst (.fl (.int 1)))),
  swTail 13 19 11 21 14 15 20 12]) (blkM [])),
  (asg2 (getL 12) (setItemM (getL 5) (getL 19)) (setL 17))]
noncomputable def osm_out (c : FV) : Mo Fl := blkM [(asg1 (getL 11) (setL 14)),
  (asg1 (subM (getL 0) (binM .Add (getL 4) (getL 13))) (setL 11)),
  (asg1 (cst (.fl (.str (Str.ofString " ")))) (setL 15)),
  (asg2 (getL 13) (setL 16) (setL 17)),
  (asg1 (cst (.fl (.int 0))) (setL 18)),
  bumpM .Gt 9 13 8, bumpM .Lt 10 10 3,
  (forRangeM [(getL 9), (getL 10)] (setL 19) osm_in),
  (iteM (cmpM .Gt (subM (getL 5) (binM .Add (getL 13) (getL 7))) (cst (.fl c))) (blkM [(retM (cst (.fl (.int (-1)))))]) (blkM []))]

theorem osm_step {s1 s2 : Str} {z2 z3 z7 z8 z9 z10 cur x20 x21 : Option PV} {st i j x y y0 px kp : Nat} {l a o t0 p : Int} {mem : List MO} {row prow : List PV} (hkp : kp < mem.length) (hj : j < 2 ^ 60) (hst : st < 2 ^ 60) (hrow : row[j]? = some (.fl (.int o))) (hprow : prow[j]? = some (.fl (.int p))) (hy : s2.cps[st + j]? = some y) :
    osm_in ⟨[sS s1, sS s2, z2, z3, sI st, sR mem.length, sR kp, z7, z8, z9, z10, sC x, cur, sI i, sC px, sC y0, sI l, sI a, sI t0, sI j, x20, x21], memO mem kp prow row⟩ =
      some (.next, ⟨[sS s1, sS s2, z2, z3, sI st, sR mem.length, sR kp, z7, z8, z9, z10, sC x, sI (cellS i j x y px y0 l a o t0), sI i, sC px, sC y, sI o, sI (cellS i j x y px y0 l a o t0), sI p, sI j, sI t0, sC y0],
        memO mem kp (prow.set j (.fl (.int l))) (row.set j (.fl (.int (cellS i j x y px y0 l a o t0))))⟩) := by
  have h1 : (0 : Int) ≤ (st : Int) + j := by omega
  have h2 : (st : Int) + j < 4611686018427387904 := by omega
  have h3 : (j : Int) < 4611686018427387904 := by omega
  obtain ⟨h4, h5⟩ := List.getElem?_eq_some_iff.mp hrow
  obtain ⟨h6, h7⟩ := List.getElem?_eq_some_iff.mp hprow
  have g1 := memO_getk mem kp
  have g2 := fun a b => memO_getp hkp a b
  have g3 := memO_setk mem kp
  have g4 := fun a b c => memO_setp hkp a b c
  unfold osm_in
  by_cases h : x = y
  · subst h
    simp [getL_ap, setL_ap, cst_ap, binM_ap, cmpM_ap, andM_nil_ap, andM_cons_ap, orM_nil_ap, orM_cons_ap, iteM_ap, asg1_ap, asg2_ap, augM_ap, blkM_nil_ap, blkM_cons_ap, retM_ap, tupM_ap, seqM_nil_ap, seqM_cons_ap, flatL, subM_ap, subF_str, subF_list, setItemM_ap, setItemF_list, bltM_ap, blt_len_s, bin_add, bin_sub, cmp_eq_i, cmp_ne_i, cmp_lt_i, cmp_le_i, cmp_gt_i, cmp_ge_i, cmp_eq_c, cmp_ne_c, pd_True, pd_False, h1, h2, h3, h4, h6, g1, g2, g3, g4, hy, toNat_add2, cellS, h5, h7]
  · simp [getL_ap, setL_ap, cst_ap, binM_ap, cmpM_ap, andM_nil_ap, andM_cons_ap, orM_nil_ap, orM_cons_ap, iteM_ap, asg1_ap, asg2_ap, augM_ap, blkM_nil_ap, blkM_cons_ap, retM_ap, tupM_ap, seqM_nil_ap, seqM_cons_ap, flatL, subM_ap, subF_str, subF_list, setItemM_ap, setItemF_list, bltM_ap, blt_len_s, bin_add, bin_sub, cmp_eq_i, cmp_ne_i, cmp_lt_i, cmp_le_i, cmp_gt_i, cmp_ge_i, cmp_eq_c, cmp_ne_c, pd_True, pd_False, h1, h2, h3, h4, h6, g1, g2, g3, g4, hy, toNat_add2, cellS, h, h5, h7, minM_ap]
    rw [swTail_ap (i := i) (j := j) (x := x) (py := y0) (px := px) (y := y) (t := t0) (v := min o (min a l) + 1) rfl rfl rfl rfl rfl rfl rfl rfl]
    simp [getL_ap, setL_ap, cst_ap, binM_ap, cmpM_ap, andM_nil_ap, andM_cons_ap, orM_nil_ap, orM_cons_ap, iteM_ap, asg1_ap, asg2_ap, augM_ap, blkM_nil_ap, blkM_cons_ap, retM_ap, tupM_ap, seqM_nil_ap, seqM_cons_ap, flatL, subM_ap, subF_str, subF_list, setItemM_ap, setItemF_list, bltM_ap, blt_len_s, bin_add, bin_sub, cmp_eq_i, cmp_ne_i, cmp_lt_i, cmp_le_i, cmp_gt_i, cmp_ge_i, cmp_eq_c, cmp_ne_c, pd_True, pd_False, h1, h2, h3, h4, h6, g1, g2, g3, g4, hy, toNat_add2, cellS, h, h5, h7, minM_ap]

theorem osm_row {s1 s2 : Str} {A B : List Nat} {st m d : Nat} (b : Band A B m d) (hB : ∀ (j : Nat) y, B[j]? = some y → s2.cps[st + j]? = some y) (hlen : B.length < 2 ^ 60) (hst : st < 2 ^ 60) {i x px kp : Nat} (hx : A[i]? = some x) (hpx : i ≠ 0 → A[i - 1]? = some px)
    {z2 z3 z7 z8 z9 z10 : Option PV} {mem : List MO} (hkp : kp < mem.length) :
    ∀ (n j : Nat), j + n = jeB B m i → jsB m d i ≤ j → ∀ cur y0 (l a t0 : Int) x19 x20 x21 row prow, RowB true A B m d i j row → PrB true A B m d i j prow → Cell true A B m d i j l →
      (0 < n → (Cell true A B m d (i + 1) j a ∧ (j ≠ 0 → B[j - 1]? = some y0 ∧ (i ≠ 0 → Cell true A B m d (i - 1) (j - 1) t0))) ∨ (j = 0 ∧ a = l) ∨ (0 < j ∧ m ≤ pot d i j ∧ 0 < l ∧ 0 ≤ a ∧ 0 ≤ t0)) → (n = 0 → ∃ v, cur = sI v ∧ Cell true A B m d (i + 1) j v) →
    ∃ (v l' a' t0' : Int), ∃ y0' x19' x20' x21' row' prow', Cell true A B m d (i + 1) (jeB B m i) v ∧ RowB true A B m d i (jeB B m i) row' ∧ PrB true A B m d i (jeB B m i) prow' ∧ prow'.length = prow.length ∧
      loopR (setL 19) osm_in 1 n j ⟨[sS s1, sS s2, z2, z3, sI st, sR mem.length, sR kp, z7, z8, z9, z10, sC x, cur, sI i, sC px, sC y0, sI l, sI a, sI t0, x19, x20, x21], memO mem kp prow row⟩ =
        some (.next, ⟨[sS s1, sS s2, z2, z3, sI st, sR mem.length, sR kp, z7, z8, z9, z10, sC x, sI v, sI i, sC px, sC y0', sI l', sI a', sI t0', x19', x20', x21'], memO mem kp prow' row'⟩) := by
  intro n
  induction n with
  | zero =>
    intro j hj hjs cur y0 l a t0 x19 x20 x21 row prow hr hpr hl ha hc
    obtain rfl : j = jeB B m i := by omega
    obtain ⟨v, rfl, hv⟩ := hc rfl
    exact ⟨v, l, a, t0, y0, x19, x20, x21, row, prow, hv, hr, hpr, rfl, rfl⟩
  | succ n ih =>
    intro j hj hjs cur y0 l a t0 x19 x20 x21 row prow hr hpr hl ha hc
    have hjl : j < B.length := by unfold jeB at hj; omega
    have hy : B[j]? = some (B[j]'hjl) := List.getElem?_eq_getElem _
    obtain ⟨o, ho1, ho2, ho3, ho4, ho5⟩ := hr.2 j hjl
    obtain ⟨p, hp1, hp2, hp3⟩ := hpr.2 j (by have := hpr.1; omega)
    have ho := ho2 (Nat.le_refl j) hjs
    have hv := cellS_B b hx hy hl ho hpx (ha (by omega))
    have hs := osm_step (s1 := s1) (z2 := z2) (z3 := z3) (z7 := z7) (z8 := z8) (z9 := z9) (z10 := z10) (cur := cur) (x20 := x20) (x21 := x21) (i := i) (px := px) (y0 := y0) (l := l) (a := a) (t0 := t0) (mem := mem) hkp (by omega : j < 2 ^ 60) hst ho1 hp1 (hB j _ hy) (x := x)
    obtain ⟨v, l', a', t0', y0', x19', x20', x21', row', prow', h1, h2, h2a, h2b, h3⟩ := ih (j + 1) (by omega) (by omega) (sI (cellS i j x (B[j]'hjl) px y0 l a o t0)) (B[j]'hjl) o (cellS i j x (B[j]'hjl) px y0 l a o t0) p (sI j) (sI t0) (sC y0) _ _ (hr.set (by omega) hv) (hpr.set hjl hl) ho
      (fun _ => Or.inl ⟨hv, fun _ => ⟨hy, fun hi => hp3 hi (Nat.le_refl _) (by unfold jsB at *; omega) (by unfold jeB at *; omega)⟩⟩) (fun _ => ⟨_, rfl, hv⟩)
    refine ⟨v, l', a', t0', y0', x19', x20', x21', row', prow', h1, h2, h2a, by simpa using h2b, ?_⟩
    rw [loopR_succ_ap]
    simp only [setL_ap, List.set_cons_succ, List.set_cons_zero]
    rw [hs]
    exact h3

theorem osm_outstep {s1 s2 : Str} {la lb st d x px i kp : Nat} {js0 js1 je0 je1 off m : Int} {cur cur' x14 x15 x16 x17 x18 x19 x20 x21 x14' x15' x16' x17' x18' x19' x20' x21' : Option PV} {n : Nat} {row row' prow prow' : List PV} {mem : List MO} {cv : Int}
    (g1 : s1.cps[st + i]? = some x) (hst : st < 2 ^ 60) (hi : i < 2 ^ 60) (hd : d < 2 ^ 60) (e8 : js0 + (if off < i then 1 else 0) = js1) (e9 : je0 + (if je0 < lb then 1 else 0) = je1) (hrng : rng [.fl (.int js1), .fl (.int je1)] = some (js1, n))
    (hrow : loopR (setL 19) osm_in 1 n js1 ⟨[sS s1, sS s2, sI la, sI lb, sI st, sR mem.length, sR kp, sI d, sI off, sI js1, sI je1, sC x, cur, sI i, sC px, sC 32, sI i, sI i, sI 0, x19, x20, x21], memO mem kp prow row⟩ =
      some (.next, ⟨[sS s1, sS s2, sI la, sI lb, sI st, sR mem.length, sR kp, sI d, sI off, sI js1, sI je1, sC x, cur', sI i, x14', x15', x16', x17', x18', x19', x20', x21'], memO mem kp prow' row'⟩))
    (hc : row'[i + d]? = some (.fl (.int cv))) :
    osm_out (.int m) ⟨[sS s1, sS s2, sI la, sI lb, sI st, sR mem.length, sR kp, sI d, sI off, sI js0, sI je0, sC px, cur, sI i, x14, x15, x16, x17, x18, x19, x20, x21], memO mem kp prow row⟩ =
      some (if m < cv then .ret (.fl (.int (-1))) else .next, ⟨[sS s1, sS s2, sI la, sI lb, sI st, sR mem.length, sR kp, sI d, sI off, sI js1, sI je1, sC x, cur', sI i, x14', x15', x16', x17', x18', x19', x20', x21'], memO mem kp prow' row'⟩) := by
  have h1 : (0 : Int) ≤ (st : Int) + i := by omega
  have h2 : (st : Int) + i < 4611686018427387904 := by omega
  have h3 : (0 : Int) ≤ (i : Int) + d := by omega
  have h4 : (i : Int) + d < 4611686018427387904 := by omega
  obtain ⟨hc1, hc2⟩ := List.getElem?_eq_some_iff.mp hc
  have g2 := memO_getk mem kp
  unfold osm_out
  simp [getL_ap, setL_ap, cst_ap, binM_ap, cmpM_ap, andM_nil_ap, andM_cons_ap, orM_nil_ap, orM_cons_ap, iteM_ap, asg1_ap, asg2_ap, augM_ap, blkM_nil_ap, blkM_cons_ap, retM_ap, tupM_ap, seqM_nil_ap, seqM_cons_ap, flatL, subM_ap, subF_str, subF_list, setItemM_ap, setItemF_list, bltM_ap, blt_len_s, bin_add, bin_sub, cmp_eq_i, cmp_ne_i, cmp_lt_i, cmp_le_i, cmp_gt_i, cmp_ge_i, cmp_eq_c, cmp_ne_c, pd_True, pd_False, h1, h2, g1, toNat_add2, space_c]
  rw [bumpGt_ap (u := js0) (x := i) (y := off) rfl rfl rfl, e8]
  simp only [List.set_cons_succ, List.set_cons_zero]
  rw [bumpLt_ap (u := je0) (x := je0) (y := lb) rfl rfl rfl, e9]
  simp only [List.set_cons_succ, List.set_cons_zero]
  simp [getL_ap, setL_ap, cst_ap, binM_ap, cmpM_ap, andM_nil_ap, andM_cons_ap, orM_nil_ap, orM_cons_ap, iteM_ap, asg1_ap, asg2_ap, augM_ap, blkM_nil_ap, blkM_cons_ap, retM_ap, tupM_ap, seqM_nil_ap, seqM_cons_ap, flatL, subM_ap, subF_str, subF_list, setItemM_ap, setItemF_list, bltM_ap, blt_len_s, bin_add, bin_sub, cmp_eq_i, cmp_ne_i, cmp_lt_i, cmp_le_i, cmp_gt_i, cmp_ge_i, cmp_eq_c, cmp_ne_c, pd_True, pd_False, forRangeM_ap, hrng, hrow, h3, h4, toNat_add2, g2, hc1, hc2]
  by_cases h : m < cv
  · simp [h, pd_True, pd_False]
  · simp [h, pd_True, pd_False]

theorem osm_rows {s1 s2 : Str} {A B : List Nat} {st m d kp : Nat} (b : Band A B m d) (hA : ∀ (j : Nat) y, A[j]? = some y → s1.cps[st + j]? = some y) (hB : ∀ (j : Nat) y, B[j]? = some y → s2.cps[st + j]? = some y) (hla : A.length < 2 ^ 59) (hlen : B.length < 2 ^ 59) (hst : st < 2 ^ 59) {mem : List MO} (hkp : kp < mem.length) :
    ∀ (n i : Nat), i + n = A.length → ∀ px cur x13 x14 x15 x16 x17 x18 x19 x20 x21 row prow, RowB true A B m d i 0 row → PrB true A B m d i 0 prow → (i ≠ 0 → A[i - 1]? = some px) → (n = 0 → ∃ v, cur = sI v ∧ Cell true A B m d A.length B.length v) →
    ∃ fl l' row' prow', loopR (setL 13) (osm_out (.int m)) 1 n i ⟨[sS s1, sS s2, sI A.length, sI B.length, sI st, sR mem.length, sR kp, sI d, sI ((m : Int) - d), sI (i - 1 - (m - d) : Nat), sI (min B.length (m + i) : Nat), sC px, cur, x13, x14, x15, x16, x17, x18, x19, x20, x21], memO mem kp prow row⟩ = some (fl, ⟨l', memO mem kp prow' row'⟩) ∧
      prow'.length = prow.length ∧ (∀ k : Nat, k < prow'.length → ∃ v, prow'[k]? = some (.fl (.int v))) ∧
      ((fl = .ret (.fl (.int (-1))) ∧ bandR m (dist true A B) = -1) ∨ (fl = .next ∧ ∃ v, l'[12]? = some (sI v) ∧ Cell true A B m d A.length B.length v)) := by
  have hbl := b.len
  have hdm := b.dm
  have hmB := b.mB
  intro n
  induction n with
  | zero =>
    intro i hi px cur x13 x14 x15 x16 x17 x18 x19 x20 x21 row prow hr hpr hpx hc
    obtain ⟨v, rfl, hv⟩ := hc rfl
    exact ⟨.next, _, row, prow, rfl, rfl, fun k hk => let ⟨v, e, _⟩ := hpr.2 k hk; ⟨v, e⟩, Or.inr ⟨rfl, v, rfl, hv⟩⟩
  | succ n ih =>
    intro i hi px cur x13 x14 x15 x16 x17 x18 x19 x20 x21 row prow hr hpr hpx hc
    have hil : i < A.length := by omega
    have hx : A[i]? = some (A[i]'hil) := List.getElem?_eq_getElem _
    have g1 := hA i _ hx
    have hje : jsB m d i < jeB B m i := by unfold jsB jeB; omega
    have hst0 := b.start (sw := true) hil
    obtain ⟨v, l', a', t0', y0', x19', x20', x21', row', prow', hv, hr', hpr', hpl, hrow⟩ := osm_row (s1 := s1) (z2 := sI A.length) (z3 := sI B.length) (z7 := sI d) (z8 := sI ((m : Int) - d)) (z9 := sI (jsB m d i)) (z10 := sI (jeB B m i)) (mem := mem) b hB (by omega) (by omega) hx hpx hkp (jeB B m i - jsB m d i) (jsB m d i) (by omega) (Nat.le_refl _) cur 32 i i 0 x19 x20 x21 row prow
      ⟨hr.1, fun k hk => let ⟨u, q1, q2, q3, q4, q5⟩ := hr.2 k hk; ⟨u, q1, fun _ h => q2 (by omega) h, fun h1 h2 => absurd h1 (by omega), q4, fun _ h => q5 (by omega) h⟩⟩
      ⟨hpr.1, fun k hk => let ⟨u, q1, q2, q3⟩ := hpr.2 k hk; ⟨u, q1, fun h1 h2 => absurd h1 (by omega), fun h _ => q3 h (by omega)⟩⟩ hst0.1 (fun _ => by
        by_cases h0 : jsB m d i = 0
        · exact Or.inr (Or.inl ⟨h0, rfl⟩)
        · have h1 : 0 < jsB m d i := by omega
          have h2 : 0 < i := by unfold jsB at h1; omega
          exact Or.inr (Or.inr ⟨h1, b.js0 h1, by omega, by omega, by omega⟩)) (fun h => absurd h (by omega))
    have hfull := hr'.full b hil
    have hpfull := hpr'.full
    have hid : i + d < B.length := by omega
    obtain ⟨c, hc1, _, hc3, _, _⟩ := hr'.2 (i + d) hid
    have hcell := hc3 (by unfold jeB; omega) (by unfold jsB; omega)
    have e8 : ((i - 1 - (m - d) : Nat) : Int) + (if (m : Int) - d < i then 1 else 0) = (jsB m d i : Nat) := by unfold jsB; split <;> omega
    have e9 : ((min B.length (m + i) : Nat) : Int) + (if ((min B.length (m + i) : Nat) : Int) < B.length then 1 else 0) = (jeB B m i : Nat) := by unfold jeB; split <;> omega
    have hrng := rng2 (jsB m d i : Nat) (jeB B m i : Nat) (by omega) (by omega) (by unfold jsB; omega) (by unfold jeB; omega)
    rw [show ((jeB B m i : Nat) : Int) - (jsB m d i : Nat) = ((jeB B m i - jsB m d i : Nat) : Int) by omega, Int.toNat_natCast] at hrng
    have hstep := osm_outstep (s2 := s2) (la := A.length) (lb := B.length) (m := m) (x14 := x14) (x15 := x15) (x16 := x16) (x17 := x17) (x18 := x18) g1 (by omega) (by omega) (by omega) e8 e9 hrng hrow hc1
    by_cases hex : (m : Int) < c
    · refine ⟨.ret (.fl (.int (-1))), [sS s1, sS s2, sI A.length, sI B.length, sI st, sR mem.length, sR kp, sI d, sI ((m : Int) - d), sI (jsB m d i), sI (jeB B m i), sC (A[i]'hil), sI v, sI i, sC px, sC y0', sI l', sI a', sI t0', x19', x20', x21'], row', prow', ?_, hpl, fun k hk => let ⟨v, e, _⟩ := hpr'.2 k hk; ⟨v, e⟩, Or.inl ⟨rfl, b.exit hil hcell hex⟩⟩
      rw [loopR_succ_ap]
      simp only [setL_ap, List.set_cons_succ, List.set_cons_zero]
      rw [hstep, if_pos hex]
    · obtain ⟨fl, l2, row2, prow2, q1, q1a, q1b, q2⟩ := ih (i + 1) (by omega) (A[i]'hil) (sI v) (sI i) (sC px) (sC y0') (sI l') (sI a') (sI t0') x19' x20' x21' row' prow' hfull hpfull (fun _ => hx) (fun h => ⟨v, rfl, by
        have e1 : i + 1 = A.length := by omega
        have e2 : jeB B m i = B.length := by unfold jeB; omega
        rw [e1, e2] at hv; exact hv⟩)
      refine ⟨fl, l2, row2, prow2, ?_, by rw [q1a, hpl], q1b, q2⟩
      rw [loopR_succ_ap]
      simp only [setL_ap, List.set_cons_succ, List.set_cons_zero]
      rw [hstep, if_neg hex]
      have e3 : i + 1 - 1 - (m - d) = jsB m d i := by unfold jsB; omega
      have e4 : min B.length (m + (i + 1)) = jeB B m i := by unfold jeB; omega
      rw [e3, e4] at q1
      exact q1

theorem osm_eval {s1 s2 : Str} {A B : List Nat} {st m d : Nat} (b : Band A B m d) (hA : ∀ (j : Nat) y, A[j]? = some y → s1.cps[st + j]? = some y) (hB : ∀ (j : Nat) y, B[j]? = some y → s2.cps[st + j]? = some y) (hla : A.length ≤ 1000) (hlen : B.length ≤ 1000) (hst : st ≤ 1000)
    {x5 x7 x8 x9 x10 x11 x12 x13 x14 x15 x16 x17 x18 x19 x20 x21 : Option PV} {mem : List MO} {kp : Nat} {prow : List PV} (hkp : mem[kp]? = some (.list prow)) (hpl : B.length ≤ prow.length) (hpi : ∀ k : Nat, k < prow.length → ∃ v, prow[k]? = some (.fl (.int v))) :
    ∃ l row prow', osm_m (.int m) ⟨[sS s1, sS s2, sI A.length, sI B.length, sI st, x5, sR kp, x7, x8, x9, x10, x11, x12, x13, x14, x15, x16, x17, x18, x19, x20, x21], mem⟩ = some (.ret (.fl (.int (bandR m (dist true A B)))), ⟨l, mem.set kp (.list prow') ++ [row]⟩) ∧
      prow'.length = prow.length ∧ ∀ k : Nat, k < prow'.length → ∃ v, prow'[k]? = some (.fl (.int v)) := by
  have hbl := b.len
  have hmB := b.mB
  have hp := b.pos
  have hk : kp < mem.length := (List.getElem?_eq_some_iff.mp hkp).1
  let row0 : List PV := (List.range B.length).map fun k => .fl (.int (if k < m then k + 1 else m + 1 : Nat))
  have hpr : PrB true A B m d 0 0 prow := ⟨hpl, fun k hk => let ⟨v, e⟩ := hpi k hk; ⟨v, e, fun _ h => absurd h (by omega), fun h => absurd rfl h⟩⟩
  obtain ⟨fl, l', row', prow', hr, hl, hi, hfin⟩ := osm_rows b hA hB (by omega) (by omega) (by omega) hk A.length 0 (by omega) 32 (sI 0) x13 x14 x15 x16 x17 x18 x19 x20 x21 row0 prow (RowB.zero b) hpr (fun h => absurd rfl h) (fun h => absurd h (by omega))
  have e1 : min B.length (m + 0) = m := by omega
  have e2 : 0 - 1 - (m - d) = 0 := by omega
  have z : ((0 : Nat) : Int) = 0 := rfl
  rw [e1, e2, z] at hr
  have e0 : memO mem kp prow row0 = mem ++ [.list row0] := by
    unfold memO
    congr 1
    apply List.ext_getElem?
    intro k
    by_cases e : k = kp
    · subst e; rw [List.getElem?_set_self hk, hkp]
    · rw [List.getElem?_set_ne (fun h => e h.symm)]
  rw [e0] at hr
  have hcomp : compL (iteM (cmpM .Lt (getL 0) (cst (.fl (.int m)))) (binM .Add (getL 0) (cst (.fl (.int 1)))) (binM .Add (cst (.fl (.int m))) (cst (.fl (.int 1))))) B.length 0 = some row0 := by
    rw [compL_all (g := fun i => .int (if i < m then i + 1 else m + 1)) (fun _ => rfl) B.length 0 (fun k hk => by
      by_cases h : k < m
      · simp [getL_ap, setL_ap, cst_ap, binM_ap, cmpM_ap, andM_nil_ap, andM_cons_ap, orM_nil_ap, orM_cons_ap, iteM_ap, asg1_ap, asg2_ap, augM_ap, blkM_nil_ap, blkM_cons_ap, retM_ap, tupM_ap, seqM_nil_ap, seqM_cons_ap, flatL, subM_ap, subF_str, subF_list, setItemM_ap, setItemF_list, bltM_ap, blt_len_s, bin_add, bin_sub, cmp_eq_i, cmp_ne_i, cmp_lt_i, cmp_le_i, cmp_gt_i, cmp_ge_i, cmp_eq_c, cmp_ne_c, pd_True, pd_False, h]
      · simp [getL_ap, setL_ap, cst_ap, binM_ap, cmpM_ap, andM_nil_ap, andM_cons_ap, orM_nil_ap, orM_cons_ap, iteM_ap, asg1_ap, asg2_ap, augM_ap, blkM_nil_ap, blkM_cons_ap, retM_ap, tupM_ap, seqM_nil_ap, seqM_cons_ap, flatL, subM_ap, subF_str, subF_list, setItemM_ap, setItemF_list, bltM_ap, blt_len_s, bin_add, bin_sub, cmp_eq_i, cmp_ne_i, cmp_lt_i, cmp_le_i, cmp_gt_i, cmp_ge_i, cmp_eq_c, cmp_ne_c, pd_True, pd_False, h])]
    congr 1
    apply List.map_congr_left
    intro k hk
    show PV.fl (.int (if (0 : Int) + (k : Int) < m then (0 : Int) + (k : Int) + 1 else m + 1)) = PV.fl (.int ((if k < m then k + 1 else m + 1 : Nat) : Int))
    by_cases h : k < m
    · rw [if_pos h, if_pos (by omega)]; congr 2; omega
    · rw [if_neg h, if_neg (by omega)]; rfl
  have hB1 : B.length ≤ 1048576 := by omega
  have ed : (B.length : Int) - A.length = d := by omega
  have hm : osm_m (.int m) ⟨[sS s1, sS s2, sI A.length, sI B.length, sI st, x5, sR kp, x7, x8, x9, x10, x11, x12, x13, x14, x15, x16, x17, x18, x19, x20, x21], mem⟩ =
      blkM [forRangeM [getL 2] (setL 13) (osm_out (.int m)), retM (iteM (cmpM .LtE (getL 12) (cst (.fl (.int m)))) (getL 12) (cst (.fl (.int (-1)))))]
        ⟨[sS s1, sS s2, sI A.length, sI B.length, sI st, sR mem.length, sR kp, sI d, sI ((m : Int) - d), sI 0, sI m, sC 32, sI 0, x13, x14, x15, x16, x17, x18, x19, x20, x21], mem ++ [.list row0]⟩ := by
    show blkM [(asg1 (compM [(getL 3)] (iteM (cmpM .Lt (getL 0) (cst (.fl (.int m)))) (binM .Add (getL 0) (cst (.fl (.int 1)))) (binM .Add (cst (.fl (.int m))) (cst (.fl (.int 1)))))) (setL 5)),
      (asg1 (binM .Sub (getL 3) (getL 2)) (setL 7)), (asg1 (binM .Sub (cst (.fl (.int m))) (getL 7)) (setL 8)), (asg1 (cst (.fl (.int 0))) (setL 9)), (asg1 (cst (.fl (.int m))) (setL 10)), (asg1 (cst (.fl (.str (Str.ofString " ")))) (setL 11)), (asg1 (cst (.fl (.int 0))) (setL 12)),
      forRangeM [getL 2] (setL 13) (osm_out (.int m)), retM (iteM (cmpM .LtE (getL 12) (cst (.fl (.int m)))) (getL 12) (cst (.fl (.int (-1)))))] _ = _
    rw [blkM_cons_ap, asg1_ap, compM_ap]
    simp only [seqM_cons_ap, seqM_nil_ap, getL_ap, List.getElem?_cons_succ, List.getElem?_cons_zero, rng1 B.length (by omega : B.length < 2 ^ 61), hB1, if_true, hcomp, newL_ap, setL_ap, List.set_cons_succ, List.set_cons_zero]
    simp only [blkM_cons_ap _ (_ :: _), getL_ap, setL_ap, cst_ap, binM_ap, cmpM_ap, andM_nil_ap, andM_cons_ap, orM_nil_ap, orM_cons_ap, iteM_ap, asg1_ap, asg2_ap, augM_ap, blkM_nil_ap, blkM_cons_ap, retM_ap, tupM_ap, seqM_nil_ap, seqM_cons_ap, flatL, subM_ap, subF_str, subF_list, setItemM_ap, setItemF_list, bltM_ap, blt_len_s, bin_add, bin_sub, cmp_eq_i, cmp_ne_i, cmp_lt_i, cmp_le_i, cmp_gt_i, cmp_ge_i, cmp_eq_c, cmp_ne_c, pd_True, pd_False, List.getElem?_cons_succ, List.getElem?_cons_zero, List.set_cons_succ, List.set_cons_zero, ed, space_c]
  rw [hm]
  rcases hfin with ⟨rfl, hb⟩ | ⟨rfl, v, hv1, hv2⟩
  · refine ⟨l', .list row', prow', ?_, hl, hi⟩
    rw [hb]
    simp [getL_ap, setL_ap, cst_ap, binM_ap, cmpM_ap, andM_nil_ap, andM_cons_ap, orM_nil_ap, orM_cons_ap, iteM_ap, asg1_ap, asg2_ap, augM_ap, blkM_nil_ap, blkM_cons_ap, retM_ap, tupM_ap, seqM_nil_ap, seqM_cons_ap, flatL, subM_ap, subF_str, subF_list, setItemM_ap, setItemF_list, bltM_ap, blt_len_s, bin_add, bin_sub, cmp_eq_i, cmp_ne_i, cmp_lt_i, cmp_le_i, cmp_gt_i, cmp_ge_i, cmp_eq_c, cmp_ne_c, pd_True, pd_False, forRangeM_ap, rng1 A.length (by omega), hr, memO]
  · refine ⟨l', .list row', prow', ?_, hl, hi⟩
    have hf := b.fin hv2
    by_cases h : v ≤ (m : Int)
    · rw [(hf.1 h).2]
      simp [getL_ap, setL_ap, cst_ap, binM_ap, cmpM_ap, andM_nil_ap, andM_cons_ap, orM_nil_ap, orM_cons_ap, iteM_ap, asg1_ap, asg2_ap, augM_ap, blkM_nil_ap, blkM_cons_ap, retM_ap, tupM_ap, seqM_nil_ap, seqM_cons_ap, flatL, subM_ap, subF_str, subF_list, setItemM_ap, setItemF_list, bltM_ap, blt_len_s, bin_add, bin_sub, cmp_eq_i, cmp_ne_i, cmp_lt_i, cmp_le_i, cmp_gt_i, cmp_ge_i, cmp_eq_c, cmp_ne_c, pd_True, pd_False, forRangeM_ap, rng1 A.length (by omega), hr, hv1, h, memO]
    · rw [hf.2 h]
      simp [getL_ap, setL_ap, cst_ap, binM_ap, cmpM_ap, andM_nil_ap, andM_cons_ap, orM_nil_ap, orM_cons_ap, iteM_ap, asg1_ap, asg2_ap, augM_ap, blkM_nil_ap, blkM_cons_ap, retM_ap, tupM_ap, seqM_nil_ap, seqM_cons_ap, flatL, subM_ap, subF_str, subF_list, setItemM_ap, setItemF_list, bltM_ap, blt_len_s, bin_add, bin_sub, cmp_eq_i, cmp_ne_i, cmp_lt_i, cmp_le_i, cmp_gt_i, cmp_ge_i, cmp_eq_c, cmp_ne_c, pd_True, pd_False, forRangeM_ap, rng1 A.length (by omega), hr, hv1, h, memO]
end Mine

/-! Ref9 -/
namespace Mine
section
variable {C : Cx}

/-! a callable, as its callers see it -/
abbrev FM := List PV → List MO → Option (PV × List MO)
def CodeFun (C : Cx) (f : Value) (n : Nat) (m : FM) : Prop :=
  ∀ B : Around, B.handled = none → B.depth ≤ C.A.depth + 1 → B.units ≤ C.A.units + 1 → ∀ φ st s cvs vs v mem', Rep C φ st s → RVs φ s.heap cvs vs → vs.length = n → m vs st.mem = some (v, mem') →
    codeAny C.M B (.call f ⟨cvs, []⟩) (fun r s' => match r with | .ok (.ret cv) => PostV C φ s.heap { st with mem := mem' } v cv s' | .ok _ => False | .error _ => False) s
def Fun (C : Cx) (f : Value) (n : Nat) (m : FM) : Prop :=
  ∀ φ st s cvs vs v mem', Rep C φ st s → RVs φ s.heap cvs vs → vs.length = n → m vs st.mem = some (v, mem') →
    wpAny C.M C.A (call f cvs) (PostV C φ s.heap { st with mem := mem' } v) noE s
theorem CodeFun.toFun (O : C.Ok) {f : Value} {n : Nat} {m : FM} (F : CodeFun C f n m) : Fun C f n m := fun φ st s cvs vs v mem' R r hn hm =>
  wpAny_call (codeAny_mono (F C.A O.hh (by omega) (by omega) φ st s cvs vs v mem' R r hn hm) fun r s' z => by
    rcases r with e | (v | _ | _ | _) <;> first | exact z | exact z.elim)

/-- a def of the text, whose block is refined by m -/
theorem DefAt.fun (O : C.Ok) (hd1 : C.A.depth + 10 < recursionLimit) (hu1 : C.A.units + 68 < cLine) {a : Addr} {fd : FuncData} {body : List Stmt} (D : DefAt C a fd body) {n : Nat} {names : List Str} {cells : List PV → List (Str × FV)} {m : List PV → Mo Fl}
    {lp : List PV → List (Option PV)} (hB : ∀ vs, BodyOk C fd a names (cells vs) body (m vs)) (hnd : names.Nodup) (hloc : ∀ x ∈ names, fd.scope.names.lookup x = some .local)
    (hbind : ∀ φ s (cvs : List Value) vs, C.K.In s.heap → RVs φ s.heap cvs vs → vs.length = n → ∃ binds, BindsTo s fd ⟨cvs, []⟩ binds ∧
      (∀ n, ∀ x ∈ binds, fd.scope.names.lookup x.1 = some .local ∨ (fd.scope.names.lookup x.1 = some .cell ∧ ((cellsFrom (n + 1) fd.scope.names []).lookup x.1).isSome = true)) ∧
      (∃ lv, names.map (bindL (fun x => fd.scope.names.lookup x) binds fun _ => none) = lv ∧ Locs φ s.heap lv (lp vs)) ∧
      (∀ x f, (x, f) ∈ cells vs → fd.scope.names.lookup x = some .cell ∧ ∀ n, ∃ c v, (cellsFrom (n + 1) fd.scope.names []).lookup x = some c ∧ bindC (fun x => fd.scope.names.lookup x) binds (fun _ => none) x = some v ∧ RF [] v f)) :
    CodeFun C (.ref a) n (fun vs mem => (m vs ⟨lp vs, mem⟩).map fun r => (retV r.1, r.2.mem)) := by
  intro B h1 h2 h3 φ st s cvs vs v mem' R r hn hm
  obtain ⟨⟨fl, st₁⟩, e1, e2⟩ := Option.map_eq_some_iff.mp hm
  cases e2
  obtain ⟨binds, b1, b2, ⟨lv, b3, b4⟩, b5⟩ := hbind φ s cvs vs (O.kin.keeps R.keep) r hn
  exact code_ok O hd1 hu1 h1 h2 h3 D (hB vs) hnd hloc b2 R b1 b3 b4 b5 e1

/-! calls -/
theorem evalArgs_q {es : List Expr} {ms : List (Mo PV)} (h : EvEs C es ms) (f : Value) (pos : Pos) {φ st s vs st₁} (R : Rep C φ st s) (e1 : seqM ms st = some (vs, st₁)) {Q : Args → Shared → Prop}
    (k : ∀ cvs s', PostVs C φ s.heap st₁ vs cvs s' → Q ⟨cvs, []⟩ s') : wpAny C.M C.A (evalArgs f true (backTo pos (starEach es C.env)) []) Q noE s := by
  cases h with
  | nil => cases e1; exact evalArgs_nil3 (k [] s ⟨φ, ExtE.refl _ _, R, trivial⟩)
  | cons h1 hs h2 => exact evalArgs_all (.cons h1 hs h2) (List.cons_ne_nil _ _) f pos R e1 k

theorem EvEs.len {es : List Expr} {ms : List (Mo PV)} (h : EvEs C es ms) : es.length = ms.length := by
  induction h with
  | nil => rfl
  | cons _ _ _ ih => simp [ih]
theorem seqM_len : ∀ {ms : List (Mo PV)} {st : St} {vs : List PV} {st' : St}, seqM ms st = some (vs, st') → vs.length = ms.length
  | [], _, _, _, h => by cases h; rfl
  | _ :: _, _, _, _, h => by
    obtain ⟨v, st₁, _, h⟩ := bindM_some h
    obtain ⟨vs', st₂, h2, h⟩ := bindM_some h
    cases h
    simp [seqM_len h2]
theorem RVs.app {φ : List Addr} {h : Heap} : ∀ {vs : List Value} {fs : List PV} {us : List Value} {gs : List PV}, RVs φ h vs fs → RVs φ h us gs → RVs φ h (vs ++ us) (fs ++ gs)
  | [], [], _, _, _, y => y
  | _ :: _, _ :: _, _, _, x, y => ⟨x.1, RVs.app x.2 y⟩

/-- the values, then the callable -/
def runM (pf : List PV) (ms : List (Mo PV)) (m : FM) : Mo PV := bindM (seqM ms) fun vs st => (m (pf ++ vs) st.mem).map fun r => (r.1, { st with mem := r.2 })

theorem callWith_fun (O : C.Ok) {f : Value} (hk : keepIn C.K f = true) {n : Nat} {m : FM} (F : Fun C f n m) {es : List Expr} {ms : List (Mo PV)} (h : EvEs C es ms) {first : List Value} {pf : List PV} {pos : Pos} {φ st s} (R : Rep C φ st s)
    (hf : RVs φ s.heap first pf) (hn : pf.length + es.length = n) {v st'} (hm : runM pf ms m st = some (v, st')) : wpAny C.M C.A (callWith pos f first (backTo pos (starEach es C.env)) []) (PostV C φ s.heap st' v) noE s := by
  obtain ⟨vs, st₁, e1, hm⟩ := bindM_some hm
  obtain ⟨⟨v', mem'⟩, e2, e⟩ := Option.map_eq_some_iff.mp hm
  cases e
  have hlen := seqM_len e1
  have hlen2 := h.len
  refine callWith_of (P := C.K.In) (by rw [noStar h pos]; rfl) (keeps_K hk) (evalArgs_q h f pos R e1 fun cvs s₁ hp => ?_)
  obtain ⟨φ₁, X₁, R₁, v₁⟩ := hp
  refine ⟨O.kin.keeps R₁.keep, wpAny_mono (F φ₁ st₁ s₁ _ _ v' mem' R₁ ((hf.mono X₁.pre X₁.tup).app v₁) (by simp; omega) e2) (fun _ _ x => x.trans X₁) fun _ _ x => x⟩

theorem EvE.call (O : C.Ok) {x : Str} {f : Value} (G : IsGlobal C x f) (hd : (x == ("__debug__" : Str)) = false) (hk : keepIn C.K f = true) {n : Nat} {m : FM} (F : Fun C f n m) {es : List Expr} {ms : List (Mo PV)} (h : EvEs C es ms) (hn : es.length = n) {p pos : Pos} :
    EvE C (.Call (.Name x p) es [] pos) (runM [] ms m) := by
  intro φ st s v st' R hm
  exact wpAny_Call_NameR (G.eval O R hd (callWith_fun O hk F h R (first := []) (pf := []) trivial (by simpa using hn) hm))

/-! attributes -/
theorem Ents.look {φ : List Addr} {des : List DictEntry} {es : List (Str × FV)} (x : Ents φ des es) (name : Str) : match es.lookup name with
    | some f => ∃ v, W.getL name des = some (some v) ∧ RF φ v f
    | none => W.getL name des = some none := by
  have hr : des.any (·.refKey) = false := by
    induction x with
    | nil => rfl
    | cons hk _ _ ih => rw [List.any_cons, ih, Bool.or_false]; unfold DictEntry.refKey; rw [hk]
  unfold W.getL
  rw [hr]
  clear hr
  induction x with
  | nil => rfl
  | @cons e des n f fs tk hk hv _ ih =>
    rw [List.lookup_cons, List.find?_cons]
    have e1 : e.key.isStr name = (name == n) := by
      rw [hk]
      show (n == name) = (name == n)
      rw [Bool.eq_iff_iff, beq_iff_eq, beq_iff_eq]; exact eq_comm
    rw [e1]
    cases name == n with
    | true => exact ⟨e.val, rfl, hv⟩
    | false => exact ih

theorem RF.handed {φ : List Addr} {v : Value} {f : FV} (x : RF φ v f) : handedIn v = true := by
  cases f with
  | none => rw [show v = _ from x]; rfl
  | bool b => rw [show v = _ from x]; rfl
  | int i => obtain ⟨t, rfl⟩ := x; rfl
  | str i => obtain ⟨t, rfl⟩ := x; rfl
  | ref k => obtain ⟨a, _, rfl⟩ := x; rfl
  | obj a => rw [show v = _ from x]; rfl

theorem Rep.instAt {φ : List Addr} {st : St} {s : Shared} (R : Rep C φ st s) {k kd : Nat} {a cl : Addr} {fs : List (Str × FV)} (hm : st.mem[k]? = some (.inst cl kd)) (ha : φ[k]? = some a) (hd : st.mem[kd]? = some (.adict fs)) :
    ∃ dx des n, φ[kd]? = some dx ∧ W.InstAt s.heap a ⟨.ref cl, some dx, .plain, #[]⟩ cl (some (dictOf des n)) ∧ s.heap.get? dx = some (dictOf des n) ∧ Ents φ des fs := by
  obtain ⟨dx, h1, h2⟩ := R.mem k _ a hm ha
  obtain ⟨des, n, h3, h4⟩ := R.mem kd _ dx hd h1
  exact ⟨dx, des, n, h1, ⟨h2, rfl, rfl, h3⟩, h3, h4⟩

/-- an instance's own attribute may be read -/
structure AttrOk (K : Frag) (cl : Addr) (name : Str) : Prop where
  get : plainGet K cl name = true
  dict : hasDictIn K cl = true
  attr : ∃ a, findIn K (.ref cl) name = some a ∧ noGet K a = true

def attrF (cls : List Addr) (st : St) (name : Str) : PV → Option PV
  | .fl (.ref k) => match st.mem[k]? with
    | some (.inst cl kd) => if cls.contains cl then (match st.mem[kd]? with | some (.adict fs) => (fs.lookup name).map .fl | _ => none) else none
    | _ => none
  | _ => none
def attrM (cls : List Addr) (m : Mo PV) (name : Str) : Mo PV := bindM m fun v st => (attrF cls st name v).map (·, st)

theorem attrF_ok {cls : List Addr} {name : Str} (hc : ∀ cl ∈ cls, AttrOk C.K cl name) (O : C.Ok) {φ st s} (R : Rep C φ st s) {cv : Value} {v r : PV} (hv : RV φ s.heap cv v) (h : attrF cls st name v = some r) {expr : Bool} :
    wpAny C.M C.A (getAttr cv name expr) (PostV C φ s.heap st r) noE s := by
  unfold attrF at h
  split at h
  · rename_i k
    obtain ⟨a, ha, rfl⟩ := hv
    split at h
    · rename_i cl kd hm
      split at h
      · rename_i hcl
        split at h
        · rename_i fs hd
          obtain ⟨f, e1, e2⟩ := Option.map_eq_some_iff.mp h
          subst e2
          obtain ⟨dx, des, n, h1, I, h3, h4⟩ := R.instAt hm ha hd
          have hl := h4.look name
          rw [e1] at hl
          obtain ⟨u, hu, hr⟩ := hl
          obtain ⟨g1, g2, at_, g3, g4⟩ := hc cl (List.contains_iff_mem.mp hcl)
          exact get_value (O.kin.keeps R.keep) I (plainGet_of g1).1 (findObj_own g2 g3 g4 hu) hr.handed ⟨φ, ExtE.refl _ _, R.toks _, hr⟩
        · cases h
      · cases h
    · cases h
  · cases h

theorem EvE.attr (O : C.Ok) {cls : List Addr} {name x : Str} {xp pos : Pos} {m : Mo PV} (hm : EvE C (.Name x xp) m) (hc : ∀ cl ∈ cls, AttrOk C.K cl name) : EvE C (.Attribute (.Name x xp) name pos) (attrM cls m name) := by
  intro φ st s r st' R h
  obtain ⟨v, st₁, h1, h⟩ := bindM_some h
  obtain ⟨r', h2, e⟩ := Option.map_eq_some_iff.mp h
  cases e
  refine Attribute_name (wpAny_mono (hm φ st s v _ R h1) (fun cv s₁ hp => ?_) fun _ _ x => x)
  obtain ⟨φ₁, X₁, R₁, v₁⟩ := hp
  exact wpAny_mono (attrF_ok hc O R₁ v₁ h2) (fun _ _ x => x.trans X₁) fun _ _ x => x

/-- an instance's own attribute may be stored to -/
structure StoreOk (K : Frag) (cl : Addr) (name : Str) : Prop where
  set : findIn K (.ref cl) "__setattr__" = some (some (.builtin "object.__setattr__"))
  over : plainOver K cl = true
  taker : takerIn K cl name = some none
  dict : hasDictIn K cl = true

def putF (name : Str) (v : FV) : List (Str × FV) → List (Str × FV)
  | [] => [(name, v)]
  | (n, f) :: r => if n == name then (n, v) :: r else (n, f) :: putF name v r
theorem putF_len (name : Str) (v : FV) : ∀ fs, (putF name v fs).length ≤ fs.length + 1
  | [] => by simp [putF]
  | (n, f) :: r => by
    unfold putF
    split
    · simp
    · have := putF_len name v r; simp; omega
theorem Ents.put {φ : List Addr} {name : Str} {hsh : Int} {tk : Tok} {cv : Value} {v : FV} (hv : RF φ cv v) {des : List DictEntry} {es : List (Str × FV)} (x : Ents φ des es) : Ents φ (putL name hsh (.str name tk) cv des) (putF name v es) := by
  induction x with
  | nil => exact .cons rfl hv .nil
  | @cons e des n f fs tk' hk hv' hr ih =>
    unfold putL putF
    have e1 : e.key.isStr name = (n == name) := by rw [hk]; rfl
    rw [e1]
    cases n == name with
    | true => exact .cons hk hv hr
    | false => exact .cons hk hv' ih
end
end Mine

/-! Ref10 -/
namespace Mine
section
variable {C : Cx}

/-- all objects but two -/
def allBut (h : Heap) (L d : Addr) : List (Addr × Obj) := (List.range h.objs.size).filterMap fun b => if b = L ∨ b = d then none else (h.get? b).map fun o => (b, o)
theorem mem_allBut {h : Heap} {L d b : Addr} {o : Obj} : (b, o) ∈ allBut h L d ↔ b ≠ L ∧ b ≠ d ∧ h.get? b = some o := by
  unfold allBut
  rw [List.mem_filterMap]
  constructor
  · rintro ⟨c, hc, e⟩
    split at e
    · cases e
    · rename_i hn
      obtain ⟨o', h1, h2⟩ := Option.map_eq_some_iff.mp e
      cases h2
      exact ⟨fun h => hn (.inl h), fun h => hn (.inr h), h1⟩
  · rintro ⟨h1, h2, h3⟩
    exact ⟨b, List.mem_range.mpr (Heap.lt_size h3), by rw [if_neg (fun h => h.elim h1 h2), h3]; rfl⟩

/-- an own object turns, the locals mean the same -/
theorem Rep.updateL (O : C.Ok) {φ : List Addr} {st : St} {s : Shared} (R : Rep C φ st s) {k : Nat} {a : Addr} {mo : MO} (ha : φ[k]? = some a) {h' : Heap} {tk : Nat} {m : Str → Option Value} (hn : s.heap.Ns C.env.locals m)
    (hm : ∀ (k : Nat) x pv, C.names[k]? = some x → st.loc[k]? = some (some pv) → ∃ v, m x = some v ∧ RV φ s.heap v pv) (hn' : h'.Ns C.env.locals m)
    (hk : ∀ b o, b ≠ C.env.locals → b ≠ a → s.heap.get? b = some o → h'.get? b = some o)
    (hnt : ∀ items, ¬ s.heap.IsTuple a items) (hmo : Keep s.heap h' → MOAt φ h' a mo) : Rep C φ (setMem k mo st) { s with heap := h', toks := tk } ∧ Ext C φ s.heap φ h' := by
  have hf := R.fresh a (List.mem_of_getElem? ha)
  have hLt : ∀ items, ¬ s.heap.IsTuple C.env.locals items := by
    rintro items ⟨o, ho, _, n, hd⟩
    obtain ⟨o', es, ep, ho', hd', _⟩ := hn
    rw [ho] at ho'; cases ho'
    rw [hd] at hd'; cases hd'
  have K : Keep s.heap h' := fun b items x => x.at fun o e => hk b o (fun h => hLt items (h ▸ x)) (fun h => hnt items (h ▸ x)) e
  refine ⟨⟨let ⟨_, _, e⟩ := R.same; ⟨h', tk, by rw [e]⟩, fun b o e => hk b o (fun hb => by subst hb; rw [O.hL] at e; cases e) (fun hb => by subst hb; rw [hf.1] at e; cases e) (R.keep b o e), R.len, ?_, R.nd, by simp [setMem, R.memlen], ?_, R.fresh⟩,
    List.prefix_rfl, K, fun b o h1 h2 e => hk b o h2 (fun hb => h1 (by subst hb; exact List.mem_of_getElem? ha)) e, fun _ x y => absurd x y⟩
  · exact ⟨m, hn', fun k x pv e1 e2 => let ⟨v, e, r⟩ := hm k x pv e1 e2; ⟨v, e, r.mono (pre_refl _) K⟩⟩
  · intro k' mo' a' e1 e2
    by_cases hkk : k' = k
    · subst hkk
      rw [ha] at e2; cases e2
      have hlt : k' < st.mem.length := by rw [← R.memlen]; exact (List.getElem?_eq_some_iff.mp ha).1
      simp only [setMem, List.getElem?_set_self hlt] at e1
      cases e1
      exact hmo K
    · simp only [setMem] at e1
      rw [List.getElem?_set_ne (fun e => hkk e.symm)] at e1
      have hne : a' ≠ a := fun e => by
        subst e
        obtain ⟨l1, g1⟩ := List.getElem?_eq_some_iff.mp e2
        obtain ⟨l2, g2⟩ := List.getElem?_eq_some_iff.mp ha
        exact hkk ((List.getElem_inj R.nd).mp (g1.trans g2.symm))
      exact (R.mem k' mo' a' e1 e2).mono (pre_refl _) K fun o e => hk a' o (R.fresh a' (List.mem_of_getElem? e2)).2 hne e

def setAttrF (cls : List Addr) (name : Str) (pv : PV) (o : PV) (st : St) : Option St := match o, pv with
  | .fl (.ref k), .fl f => match st.mem[k]? with
    | some (.inst cl kd) => if cls.contains cl then (match st.mem[kd]? with | some (.adict fs) => if fs.length < 100 then some (setMem kd (.adict (putF name f fs)) st) else none | _ => none) else none
    | _ => none
  | _, _ => none

theorem setAttr_ok {cls : List Addr} {name : Str} (hc : ∀ cl ∈ cls, StoreOk C.K cl name) (O : C.Ok) {φ st s} (R : Rep C φ st s) {co cv : Value} {o v : PV} {st' : St} (ho : RV φ s.heap co o) (hv : RV φ s.heap cv v) (h : setAttrF cls name v o st = some st') :
    wpAny C.M C.A (setAttr co name cv) (PostU C φ s.heap st') noE s := by
  unfold setAttrF at h
  split at h
  · rename_i k f
    obtain ⟨a, ha, rfl⟩ := ho
    split at h
    · rename_i cl kd hm
      split at h
      · rename_i hcl
        split at h
        · rename_i fs hd
          split at h
          · rename_i hlen
            cases h
            obtain ⟨dx, des, n, h1, I, h3, h4⟩ := R.instAt hm ha hd
            obtain ⟨g1, g2, g3, g4⟩ := hc cl (List.contains_iff_mem.mp hcl)
            obtain ⟨mL, hn, hmL⟩ := R.loc
            have X := O.kin.keeps R.keep
            have hdL : dx ≠ C.env.locals := (R.fresh dx (List.mem_of_getElem? h1)).2
            have F : Fr { s.heap with objs := #[] } C.env.locals s.heap mL := ⟨hn, fun b o e => by
              have e' : (#[] : Array Obj)[b]? = some o ∨ False := by
                left
                unfold Heap.get? at e
                simp at e
              simp at e', Nat.zero_le _⟩
            have none0 : ∀ b, ({ s.heap with objs := #[] } : Heap).get? b = none := fun b => by
              cases e : ({ s.heap with objs := #[] } : Heap).get? b with
              | none => rfl
              | some o => exact absurd (Heap.lt_size e) (Nat.not_lt_zero _)
            have N : News { s.heap with objs := #[] } C.env.locals s.heap (allBut s.heap C.env.locals dx ++ (dx, dictOf des n) :: []) := by
              intro p hp
              rcases List.mem_append.mp hp with hp | hp
              · obtain ⟨q1, q2, q3⟩ := mem_allBut.mp hp
                exact ⟨q3, q1, none0 _⟩
              · rw [List.mem_singleton.mp hp]; exact ⟨h3, hdL, none0 _⟩
            have hlk := h4.look name
            have hsome : (lookIn name (dictOf des n)).isSome = true := by
              rw [lookIn_dict]
              cases e : fs.lookup name with
              | none => rw [e] at hlk; rw [hlk]; rfl
              | some f' => rw [e] at hlk; obtain ⟨u, hu, _⟩ := hlk; rw [hu]; rfl
            have hel : ∀ {fs : List (Str × FV)} {des : List DictEntry}, Ents φ des fs → des.length = fs.length := fun x => by induction x with
              | nil => rfl
              | cons _ _ _ ih => simp [ih]
            refine set_plain X I g1 (osa_dict (s := { s with toks := s.toks + 1 }) F N X I rfl g2 g3 g4 hsome (fun p hp => (mem_allBut.mp hp).2.1) (fun p hp => nomatch hp) (putName_dict _ _ _ _ _ _) rfl
              (by
                have q1 := hel (h4.put (hsh := PyData.keyHash C.w.params name) (tk := s.toks + 1) (name := name) hv)
                have q2 := putF_len name f fs
                rw [q1]; omega) fun h' F' N' => ?_)
            have hk : ∀ b o, b ≠ C.env.locals → b ≠ dx → s.heap.get? b = some o → h'.get? b = some o := fun b o q1 q2 q3 => (N' (b, o) (List.mem_append_left _ (mem_allBut.mpr ⟨q1, q2, q3⟩))).1
            have hnew := (N' (dx, _) (List.mem_append_right _ (List.mem_singleton.mpr rfl))).1
            have W := R.updateL O (tk := s.toks + 1 + 1) h1 hn hmL F'.ns hk (fun items => by
              rintro ⟨o, ho, hcl, _⟩
              rw [h3] at ho; cases ho
              exact absurd (Value.type.inj hcl) (by decide)) (mo := .adict (putF name f fs)) fun K => ⟨_, _, hnew, h4.put hv⟩
            exact ⟨φ, W.2, W.1⟩
          · cases h
        · cases h
      · cases h
    · cases h
  · cases h

def setAttrM (cls : List Addr) (mo : Mo PV) (name : Str) (v : PV) : Mo Unit := bindM mo fun o st => (setAttrF cls name v o st).map ((), ·)
theorem EvTg.attr (O : C.Ok) {cls : List Addr} {name : Str} {o : Expr} {pos : Pos} {mo : Mo PV} (ho : EvE C o mo) (hc : ∀ cl ∈ cls, StoreOk C.K cl name) : EvTg C (.Attribute o name pos) (setAttrM cls mo name) := by
  intro φ st s cv v st' R hv hm
  obtain ⟨ov, st₁, h1, hm⟩ := bindM_some hm
  obtain ⟨st₂, h2, e⟩ := Option.map_eq_some_iff.mp hm
  cases e
  rw [arm_assign_Attribute]
  refine wpAny_bind (wpAny_holding (wpAny_mono (ho φ st s ov st₁ R h1) (fun co s₁ hp => ?_) fun _ _ x => x))
  obtain ⟨φ₁, X₁, R₁, v₁⟩ := hp
  refine wpAny_bind (wpAny_standAt (wpAny_bind (wpAny_holding (wpAny_mono (setAttr_ok hc O R₁ v₁ (hv.mono X₁.pre X₁.tup) h2) (fun _ s₂ hp => ?_) fun _ _ x => x))))
  exact wpAny_release (hp.trans X₁.toExt)
end
end Mine

/-! Ref11 -/
namespace Mine
section
variable {C : Cx}

/-! methods -/
inductive MethKind (C : Cx) (cl : Addr) (name : Str) (n : Nat) : Bool → FM → Prop
  | plain {f : Addr} {m : FM} : findIn C.K (.ref cl) name = some (some (.ref f)) → isFn C.K (.ref f) = true → keepIn C.K (.ref f) = true → Fun C (.ref f) (n + 1) m → MethKind C cl name n false m
  | static {p : Addr} {f : Value} {rest : List Value} {m : FM} : findIn C.K (.ref cl) name = some (some (.ref p)) → typeIn C.K (.ref p) = some (.type "staticmethod") → specialIn C.K (.ref p) "__get__" = some (some (.builtin "staticmethod.__get__")) →
      takesIn C.K (.ref p) = some false → recIn C.K p "staticmethod" = some (f :: rest) → handedIn f = true → keepIn C.K f = true → copiedNames.contains name = false → Fun C f n m → MethKind C cl name n true m
structure MethOk (C : Cx) (cl : Addr) (name : Str) (n : Nat) (b : Bool) (m : FM) : Prop where
  get : plainGet C.K cl name = true
  dict : hasDictIn C.K cl = true
  kind : MethKind C cl name n b m

theorem findObj_bind {K : Frag} {cl : Addr} {od : Obj} {name : Str} {a g : Value} (hh : hasDictIn K cl = true) (ha : findIn K (.ref cl) name = some (some a)) (hg : specialIn K a "__get__" = some (some g)) (ht : takesIn K a = some false)
    (hc : copiedNames.contains name = false) (hl : lookIn name od = some none) : findObj K cl (some od) name = some (.bind g a) := by
  obtain ⟨cd, hc', hd⟩ := any_some hh
  unfold findObj
  have ho : W.ownOf cd (some od) name = some none := by unfold W.ownOf; rw [if_pos hd]; exact hl
  rw [hc', Option.bind_some, ha, Option.bind_some]
  simp only [hg, Option.bind_some, ht, ho, hc, Bool.false_and, Bool.false_eq_true, if_false]

def methM (tab : Addr → Option (Bool × FM)) (mo : Mo PV) (name : Str) (ms : List (Mo PV)) : Mo PV := bindM mo fun v st => match v with
  | .fl (.ref k) => match st.mem[k]? with
    | some (.inst cl kd) => match st.mem[kd]? with
      | some (.adict fs) => match fs.lookup name with
        | none => match tab cl with
          | some (true, m) => runM [] ms m st
          | some (false, m) => runM [v] ms m st
          | none => none
        | some _ => none
      | _ => none
    | _ => none
  | _ => none

theorem EvE.meth (O : C.Ok) {tab : Addr → Option (Bool × FM)} {o : Expr} {mo : Mo PV} {name : Str} {es : List Expr} {ms : List (Mo PV)} {apos pos : Pos} {n : Nat} (hn : es.length = n) (ht : ∀ cl b m, tab cl = some (b, m) → MethOk C cl name n b m)
    (ho : EvE C o mo) (h : EvEs C es ms)
    (he : ∃ pl, eval (.Call (.Attribute o name apos) es [] pos) C.env = (do
      let ov ← eval o C.env
      standAt apos.atName
      let (f, first) ← holding [ov] (getMethod ov name pl)
      callWith pos f first (backTo pos (starEach es C.env)) (backToKw pos (keywordEach [] C.env)))) :
    EvE C (.Call (.Attribute o name apos) es [] pos) (methM tab mo name ms) := by
  intro φ st s r st' R hm
  obtain ⟨pl, he⟩ := he
  obtain ⟨v, st₁, e1, hm⟩ := bindM_some hm
  refine methodCall_KW (pl := pl) (wpAny_mono (ho φ st s v st₁ R e1) (fun cv s₁ hp => ?_) fun _ _ x => x) he
  obtain ⟨φ₁, X₁, R₁, v₁⟩ := hp
  split at hm
  · rename_i k
    split at hm
    · rename_i cl kd hk
      split at hm
      · rename_i fs hd
        split at hm
        · rename_i hlk
          obtain ⟨a, ha, rfl⟩ := id v₁
          obtain ⟨dx, des, dn, h1, I, h3, h4⟩ := R₁.instAt hk ha hd
          have hl := h4.look name
          rw [hlk] at hl
          have X := O.kin.keeps R₁.keep
          split at hm
          · rename_i m htab
            obtain ⟨q1, q2, q3⟩ := ht cl true m htab
            cases q3 with
            | static k1 k2 k3 k4 k5 k6 k7 k8 F =>
              refine method_usual X I (plainGet_of q1).1 (plainGet_of q1).2 k1 (by rw [Option.all_some, k2]; rfl) ?_
              refine get_bind X I (plainGet_of q1).1 (findObj_bind q2 k1 k3 k4 k8 (by rw [lookIn_dict]; exact hl)) (plainGet_of q1).2 (wpAny_call (sm_get (s := { s₁ with toks := s₁.toks + 1 }) X k5 (handed_on k6 ?_)))
              exact wpAny_mono (callWith_fun O k7 F h (R₁.toks _) (first := []) (pf := []) trivial (by simpa using hn) hm) (fun _ _ x => PostV.trans X₁ x) fun _ _ x => x
          · rename_i m htab
            obtain ⟨q1, q2, q3⟩ := ht cl false m htab
            cases q3 with
            | plain k1 k2 k3 F =>
              refine method_fn X I (plainGet_of q1).1 (plainGet_of q1).2 k1 (beq_iff_eq.mp k2) (by show (lookIn name (dictOf des dn)).map _ = _; rw [lookIn_dict, hl]; rfl) ?_
              exact wpAny_mono (callWith_fun O k3 F h R₁ (first := [.ref a]) (pf := [.fl (.ref k)]) ⟨v₁, trivial⟩ (by simp; omega) hm) (fun _ _ x => PostV.trans X₁ x) fun _ _ x => x
          · cases hm
        · cases hm
      · cases hm
    · cases hm
  · cases hm

/-! an instance is made -/
def makeF (cl : Addr) (mI : FM) : FM := fun vs mem => match mI (.fl (.ref (mem.length + 1)) :: vs) ((mem ++ [.adict []]) ++ [.inst cl mem.length]) with
  | some (.fl .none, mem') => some (.fl (.ref (mem.length + 1)), mem')
  | _ => none
theorem make_fun (O : C.Ok) {cl fI : Addr} {n : Nat} {mI : FM} (hm : makesIn C.K cl = true) (hi : findIn C.K (.ref cl) "__init__" = some (some (.ref fI))) (hf : typeIn C.K (.ref fI) = some (.type "function")) (FI : CodeFun C (.ref fI) (n + 1) mI) :
    Fun C (.ref cl) n (makeF cl mI) := by
  intro φ st s cvs vs v mem' R r hn h
  obtain ⟨loc, mem⟩ := st
  obtain ⟨hp₀, g₀, d₀, t₀, os₀⟩ := s
  unfold makeF at h
  dsimp only at h
  split at h
  · rename_i mem'' hI
    cases h
    have X := O.kin.keeps R.keep
    have W1 := R.alloc (o := emptyDict) (mo := .adict []) fun φ' _ => ⟨[], 0, Heap.get?_push_size _ rfl, .nil⟩
    obtain ⟨R1, X1⟩ := W1
    have hlast1 : (φ ++ [hp₀.objs.size])[mem.length]? = some hp₀.objs.size := by rw [← R.memlen]; simp
    have W2 := R1.alloc (o := instObj cl hp₀.objs.size) (mo := .inst cl mem.length) fun φ' hp => ⟨hp₀.objs.size, prefix_get hp hlast1, Heap.get?_push_size _ rfl⟩
    obtain ⟨R2, X2⟩ := W2
    have hsz : (hp₀.push emptyDict).objs.size = hp₀.objs.size + 1 := Heap.size_push _ _
    simp only [hsz] at R2 X2
    have hlast2 : ((φ ++ [hp₀.objs.size]) ++ [hp₀.objs.size + 1])[mem.length + 1]? = some (hp₀.objs.size + 1) := by rw [← R.memlen]; simp
    have XX := X1.trans X2
    refine wpAny_call (make_core (A := C.A) (makes_of X hm) (looks_findIn X hi) (fun self => bind_fn X self hf) (.inl rfl) ?_)
    refine codeAny_mono (FI (C.A.under (.builtin "type.__call__" ⟨.ref cl :: cvs, []⟩)) O.hh (Nat.le_refl _) (Nat.le_refl _) _ _ _ (.ref (hp₀.objs.size + 1) :: cvs) (.fl (.ref (mem.length + 1)) :: vs) (.fl .none) _ R2 ⟨⟨_, hlast2, rfl⟩, r.mono XX.pre XX.tup⟩ (by simp [hn]) hI) fun r s' z => ?_
    rcases r with e | (u | _ | _ | _) <;> first | exact z.elim | skip
    obtain ⟨φ', Y, R', hv⟩ := z
    refine ⟨hv, φ', XX.trans Y, R', _, prefix_get Y.pre hlast2, rfl⟩
  · cases h
end
end Mine

/-! Ref12 -/
namespace Mine
section
variable {C : Cx}

/-! a class's own value -/
theorem EvE.clsAttr (O : C.Ok) {x name : Str} {xp pos : Pos} {cl a : Addr} {mc : Value} (G : IsGlobal C x (.ref cl)) (hd : (x == ("__debug__" : Str)) = false) (hr : readsIn C.K cl mc = true) (e : findCls C.K (.ref cl) mc name = some (.val (.ref a))) :
    EvE C (.Attribute (.Name x xp) name pos) (cst (.fl (.obj a))) := by
  intro φ st s v st' R hm
  cases hm
  refine Attribute_name (G.eval O R hd (cls_value (O.kin.keeps R.keep) hr e rfl ?_))
  exact ⟨φ, ExtE.refl _ _, R.toks _, rfl⟩

/-! objects that are compared as themselves -/
structure SelfEq (K : Frag) (cl : Addr) : Prop where
  eq : findIn K (.ref cl) "__eq__" = some (some (.builtin "object.__eq__"))
  obj : mroIn K cl (.type "object") = some true
def Member (K : Frag) (cl a : Addr) : Prop := ∃ dx sl od, K.lookup a = some ⟨.ref cl, some dx, .plain, sl⟩ ∧ K.lookup dx = some od

theorem eq_bound {cl x : Addr} {ox : Obj} {od : Option Obj} {E : Value → Shared → Prop} {s : Shared} {K : Frag} {prog : Program} {w : World} {A : Around} (X : K.In s.heap) (S : SelfEq K cl) (I : W.InstAt s.heap x ox cl od) {b : Value} {Q : Option Value → Shared → Prop}
    (h : wpAny (model prog w) A (call (.builtin "object.__eq__") [.ref x, b]) (fun v s' => match v with | .notImplemented => Q none s' | v => Q (some v) s') E s) :
    wpAny (model prog w) A (tryCompare (.ref x) "__eq__" b) Q E s := by
  unfold tryCompare
  refine wpAny_bind ?_
  simp only [callSpecialIfBound?, bindSpecialIfBound?]
  refine wpAny_holding (wpAny_bind (wpAny_bind (wpAny_bind (I.type.here ((looks_findIn X S.eq).here ?_)))))
  simp only [PySem.F.cmp_object.eq.bind]
  have fin : wpAny (model prog w) A (call (.builtin "object.__eq__") ([.ref x] ++ [b]) >>= fun v => pure (some v)) (fun r s' => wpAny (model prog w) A (match r with | some .notImplemented | none => pure none | some v => pure (some v)) Q E s') E s :=
    wpAny_bind (wpAny_mono h (fun v s' h' => wpAny_pure (by cases v <;> exact wpAny_pure h')) fun _ _ h' => h')
  refine wpAny_bind (wpAny_askSetting (wpAny_ite ?_))
  split
  · exact wpAny_bind (wpAny_pure (wpAny_pure fin))
  · exact wpAny_tryCatch (wpAny_bind (wpAny_pure (wpAny_pure fin)))

theorem eq_call_same {cl x : Addr} {ox : Obj} {od : Option Obj} {E : Value → Shared → Prop} {s : Shared} {K : Frag} {prog : Program} {w : World} {A : Around} (X : K.In s.heap) (S : SelfEq K cl) (I : W.InstAt s.heap x ox cl od) {Q : Value → Shared → Prop}
    (h : Q (.bool true) s) : wpAny (model prog w) A (call (.builtin "object.__eq__") [.ref x, .ref x]) Q E s := by
  have sub : Looks (model prog w) s.heap (isInstance (.ref x) (.type "object")) true := I.type.andThen (looks_mroIn X S.obj)
  exact wpAny_call (codeAny_call_builtin PySem.F.cmp_object.eq.plain PySem.F.cmpEntry_eq (check_slot PySem.F.cmpKind_eq PySem.F.cmpSplit_eq sub (PySem.F.cmpArgs_eq _ _) (objEq_entry_same h)))
theorem eq_call_other {cl x y : Addr} {ox oy : Obj} {od : Option Obj} {E : Value → Shared → Prop} {s : Shared} {K : Frag} {prog : Program} {w : World} {A : Around} (X : K.In s.heap) (S : SelfEq K cl) (I : W.InstAt s.heap x ox cl od) (hxy : x ≠ y)
    (hy : s.heap.get? y = some oy) {Q : Value → Shared → Prop} (h : Q .notImplemented s) : wpAny (model prog w) A (call (.builtin "object.__eq__") [.ref x, .ref y]) Q E s := by
  have sub : Looks (model prog w) s.heap (isInstance (.ref x) (.type "object")) true := I.type.andThen (looks_mroIn X S.obj)
  exact wpAny_call (codeAny_call_builtin PySem.F.cmp_object.eq.plain PySem.F.cmpEntry_eq (check_slot PySem.F.cmpKind_eq PySem.F.cmpSplit_eq sub (PySem.F.cmpArgs_eq _ _) (objEq_entry_other hxy I.at_ hy (by rw [I.cls]; exact Value.noConfusion) h)))

theorem eq_same_objects {cl x y : Addr} {ox oy : Obj} {od od' : Option Obj} {E : Value → Shared → Prop} {s : Shared} {K : Frag} {prog : Program} {w : World} {A : Around} (hu : A.units < cLine) (X : K.In s.heap) (S : SelfEq K cl) (I : W.InstAt s.heap x ox cl od)
    (J : W.InstAt s.heap y oy cl od') {Q : Value → Shared → Prop} (h : Q (.bool (x == y)) s) : wpAny (model prog w) A (compareOp .Eq (.ref x) (.ref y)) Q E s := by
  refine cmp_ofEq ?_
  unfold richCompare
  simp only [oneThing_ref]
  refine wpAny_holding (wpAny_bind (wpAny_cRoomFor hu ?_))
  refine wpAny_bind (I.type.here (wpAny_bind (J.type.here ?_)))
  rw [if_neg (by simp)]
  refine wpAny_bind (wpAny_pure ?_)
  simp only [Bool.false_eq_true, if_false]
  by_cases hxy : x = y
  · subst hxy
    refine wpAny_bind (eq_bound X S I (eq_call_same X S I ?_))
    exact wpAny_pure (by simpa using h)
  · refine wpAny_bind (eq_bound X S I (eq_call_other X S I hxy J.at_ ?_))
    refine wpAny_bind (eq_bound X S J (eq_call_other X S J (Ne.symm hxy) I.at_ ?_))
    have e : (x == y) = false := by simpa using hxy
    rw [e] at h
    refine wpAny_bind (wpAny_rule (wpAny_bind (wpAny_isSame_ref_other hxy I.at_ J.at_ (by rw [I.cls]; exact Value.noConfusion) (wpAny_pure h))))
end
end Mine

/-! Ref13 -/
namespace Mine
section
variable {C : Cx}

/-! objects that are equal just to themselves, as a test -/
noncomputable def cmpObjF (objs : List Addr) : PV → PV → Option Bool
  | .fl (.obj a), .fl (.obj b) => if objs.contains a && objs.contains b then some (a == b) else none
  | _, _ => none
noncomputable def cmpObjM (objs : List Addr) (ml mr : Mo PV) : Mo Bool := bindM ml fun a => bindM mr fun b => liftO (cmpObjF objs a b)
theorem EvT.cmpObj (O : C.Ok) {objs : List Addr} {cl : Addr} (S : SelfEq C.K cl) (hob : ∀ a ∈ objs, Member C.K cl a) {l r : Expr} {pos} {ml mr : Mo PV} (hl : EvE C l ml) (hr : EvE C r mr) (hb : behindInMarks .Eq r = false) :
    EvT C (.Compare l [.Eq] [r] pos) (cmpObjM objs ml mr) := by
  intro φ st s v st' R hm
  obtain ⟨a, st₁, h1, hm⟩ := bindM_some hm
  obtain ⟨b, st₂, h2, hm⟩ := bindM_some hm
  obtain ⟨hc, rfl⟩ := liftO_some hm
  refine wpAny_isTrue_Compare1 (ev2 hl hr R h1 h2 fun φ₂ ca cb s₂ X₂ R₂ ra rb => ?_) hb
  unfold cmpObjF at hc
  split at hc
  · rename_i x y _
    split at hc
    · rename_i hin
      cases hc
      obtain ⟨i1, i2⟩ := Bool.and_eq_true_iff.mp hin
      have X := O.kin.keeps R₂.keep
      obtain ⟨dx, sl, od, k1, k2⟩ := hob x (List.contains_iff_mem.mp i1)
      obtain ⟨dx', sl', od', k3, k4⟩ := hob y (List.contains_iff_mem.mp i2)
      have ea : ca = .ref x := ra
      have eb : cb = .ref y := rb
      subst ea; subst eb
      refine eq_same_objects (by have := O.hu; omega) X S (InstAt.of_K X k1 k2) (InstAt.of_K X k3 k4) ?_
      exact wpAny_truthy_bool ⟨rfl, φ₂, X₂, R₂⟩
    · cases hc
  · cases hc

/-! more operators on flat values -/
noncomputable def binG : Operator → PV → PV → Option PV
  | .Add, .fl (.int a), .fl (.int b) => some (.fl (.int (a + b)))
  | .Sub, .fl (.int a), .fl (.int b) => some (.fl (.int (a - b)))
  | .Mod, .fl (.int a), .fl (.int b) => if pd (b ≠ 0) = true then some (.fl (.int (a.fmod b))) else none
  | .FloorDiv, .fl (.int a), .fl (.int b) => if pd (b ≠ 0 ∧ b.natAbs < 1073741824) = true then some (.fl (.int (a.fdiv b))) else none
  | .Pow, .fl (.int a), .fl (.int b) => if pd (0 ≤ b ∧ b ≤ 1000 ∧ a.natAbs < 2 ^ 64) = true then some (.fl (.int (a ^ b.toNat))) else none
  | _, _, _ => none
noncomputable def binX (op : Operator) (ml mr : Mo PV) : Mo PV := bindM ml fun a => bindM mr fun b => liftO (binG op a b)
theorem binG_ok {op : Operator} {a b c : PV} (hc : binG op a b = some c) {φ : List Addr} {st : St} {s : Shared} (R : Rep C φ st s) {ca cb : Value} (ra : RV φ s.heap ca a) (rb : RV φ s.heap cb b) :
    wpAny C.M C.A (binaryOp op ca cb) (PostV C φ s.heap st c) noE s := by
  unfold binG at hc
  split at hc
  · cases hc; obtain ⟨t, rfl⟩ := ra; obtain ⟨u, rfl⟩ := rb; exact add_int (PostV.pure R RV.int _)
  · cases hc; obtain ⟨t, rfl⟩ := ra; obtain ⟨u, rfl⟩ := rb; exact sub_int (PostV.pure R RV.int _)
  · split at hc
    · rename_i hb
      cases hc; obtain ⟨t, rfl⟩ := ra; obtain ⟨u, rfl⟩ := rb; exact PyProof.Rows.mod_int' (pd_of hb) (PostV.pure R RV.int _)
    · cases hc
  · split at hc
    · rename_i hb
      cases hc; obtain ⟨t, rfl⟩ := ra; obtain ⟨u, rfl⟩ := rb
      exact PyProof.Rows.floordiv_int (pd_of hb).1 (PostV.pure R RV.int _) (Or.inl (PyProof.noPylong_small (pd_of hb).2))
    · cases hc
  · split at hc
    · rename_i hb
      have hb := pd_of hb
      cases hc; obtain ⟨t, rfl⟩ := ra; obtain ⟨u, rfl⟩ := rb; exact PyProof.Rows.pow_int_small hb.1 (by omega) hb.2.2 (PostV.pure R RV.int _)
    · cases hc
  · cases hc
theorem EvE.binX {l r : Expr} {op pos} {ml mr : Mo PV} (hl : EvE C l ml) (hr : EvE C r mr) : EvE C (.BinOp l op r pos) (binX op ml mr) := by
  intro φ st s v st' R hm
  obtain ⟨a, st₁, h1, hm⟩ := bindM_some hm
  obtain ⟨b, st₂, h2, hm⟩ := bindM_some hm
  obtain ⟨hc, rfl⟩ := liftO_some hm
  refine wpAny_BinOp (ev2 hl hr R h1 h2 fun φ₂ ca cb s₂ X₂ R₂ ra rb => ?_)
  exact wpAny_mono (binG_ok hc R₂ ra rb) (fun _ _ x => x.trans X₂) fun _ _ x => x

/-! int(i) -/
def intM (m : Mo PV) : Mo PV := bindM m fun v st => match v with | .fl (.int i) => some (.fl (.int i), st) | _ => none
theorem EvE.intCall (O : C.Ok) {e : Expr} {p pos : Pos} {m : Mo PV} (B : IsBuiltin C "int" (.type "int")) (h : EvE C e m) (hs : starEach [e] C.env = [(false, eval e C.env)]) : EvE C (.Call (.Name "int" p) [e] [] pos) (intM m) := by
  intro φ st s v st' R hm
  obtain ⟨u, st₁, h1, hm⟩ := bindM_some hm
  split at hm
  · rename_i i
    cases hm
    refine wpAny_Call_NameR (B.eval O R (by decide) ?_)
    rw [hs]
    refine PySem.callWith_type (by rfl) (Calls.evalArgs_plain (Calls.spliced_cons (wpAny_mono (h φ st s _ _ R h1) (fun cv s₁ hp => ?_) fun _ _ x => x)))
    obtain ⟨φ₁, X₁, R₁, t, rfl⟩ := hp
    exact Calls.spliced_nil (PySem.call_int_int ⟨φ₁, X₁, R₁, RV.int⟩)
  · cases hm
end
end Mine

/-! Ref14 -/
namespace Mine

/-- a def of the text, in the fragment -/
def FnIn (K : Frag) (a : Addr) (name qual : Str) (params : Arguments) (body : List Stmt) (scope : Scope) (dV : Value) : Prop :=
  ∃ oc od kV doc pm an cdv ct osl, K.lookup a = some ⟨oc, od, .func (fnOf name qual params body scope dV kV doc pm an cdv ct), osl⟩ ∧ codeIn K cdv qual = true

structure Base (C : Cx) : Prop where
  g : C.env.globals = mainGlobals
  b : C.env.builtins = builtinsNs
structure Room (C : Cx) (n : Nat) : Prop where
  d : C.A.depth + 10 + 2 * n < recursionLimit
  u : C.A.units + 68 + 4 * n < cLine

theorem Cx.form {C : Cx} {scope L gl cells qual func code frame blt names} (he : C.env = ⟨scope, L, gl, cells, qual, func, code, frame, blt⟩) (hn : C.names = names) :
    C = ⟨C.prog, C.w, C.A, ⟨scope, L, gl, cells, qual, func, code, frame, blt⟩, names, C.s₀, C.mg, C.mb, C.K⟩ := by
  cases C; simp_all

theorem RVs.cons_inv {φ : List Addr} {h : Heap} {n : Nat} : ∀ {cvs : List Value} {vs : List PV}, RVs φ h cvs vs → vs.length = n + 1 → ∃ c cs v us, cvs = c :: cs ∧ vs = v :: us ∧ RV φ h c v ∧ RVs φ h cs us ∧ us.length = n
  | [], [], _, hn => by cases hn
  | c :: cs, v :: us, r, hn => ⟨c, cs, v, us, rfl, rfl, r.1, r.2, by simpa using hn⟩
theorem RVs.nil_inv {φ : List Addr} {h : Heap} : ∀ {cvs : List Value} {vs : List PV}, RVs φ h cvs vs → vs.length = 0 → cvs = [] ∧ vs = []
  | [], [], _, _ => ⟨rfl, rfl⟩
  | _ :: _, _ :: _, _, hn => by cases hn
theorem EvB.no {C : Cx} {body : List Stmt} : EvB C body (fun _ => none) := fun _ _ _ _ _ _ h => nomatch h
theorem EvS.no {C : Cx} {x : Stmt} : EvS C x (fun _ => none) := fun _ _ _ _ _ _ h => nomatch h

/-- what a caller's context hands to a callee's -/
structure Sub (C C' : Cx) (fd : FuncData) (a : Addr) (names : List Str) : Prop where
  ok : C'.Ok
  prog : C'.prog = C.prog
  w : C'.w = C.w
  names : C'.names = names
  env : C'.env = callEnvC fd C'.env.locals a
  mg : C'.mg = C.mg
  mb : C'.mb = C.mb
  K : C'.K = C.K
  keep : ∀ b o, C.s₀.heap.get? b = some o → C'.s₀.heap.get? b = some o
  d : C'.A.depth ≤ C.A.depth + 2
  u : C'.A.units ≤ C.A.units + 4
theorem Sub.room {C C' : Cx} {fd a names} (S : Sub C C' fd a names) {n : Nat} (r : Room C (n + 1)) : Room C' n := ⟨by have := S.d; have := r.d; omega, by have := S.u; have := r.u; omega⟩

theorem fn_fun {C : Cx} (O : C.Ok) {k : Nat} (rm : Room C k) (B : Base C) {a : Addr} {name qual : Str} {params : Arguments} {body : List Stmt} {scope : Scope} {dV : Value} (F : FnIn C.K a name qual params body scope dV)
    (hco : scope.isCoroutine = false) (hgen : scope.isGenerator = false) (hk : scope.kind = .function)
    {n : Nat} {names : List Str} {cells : List PV → List (Str × FV)} {m : List PV → Mo Fl} {lp : List PV → List (Option PV)} (hnd : names.Nodup) (hloc : ∀ x ∈ names, scope.names.lookup x = some .local)
    (hB : ∀ vs C' fd, Sub C C' fd a names → fd.scope = scope → fd.globals = mainGlobals → fd.builtins = builtinsNs → (∀ x f, (x, f) ∈ cells vs → IsCellVar C' x f) → EvB C' body (m vs))
    (hbind : ∀ fd : FuncData, fd.params = params → fd.qualname = qual → fd.defaults = dV → fd.scope = scope → ∀ φ s (cvs : List Value) vs, C.K.In s.heap → RVs φ s.heap cvs vs → vs.length = n → ∃ binds, BindsTo s fd ⟨cvs, []⟩ binds ∧
      (∀ n, ∀ x ∈ binds, scope.names.lookup x.1 = some .local ∨ (scope.names.lookup x.1 = some .cell ∧ ((cellsFrom (n + 1) scope.names []).lookup x.1).isSome = true)) ∧
      (∃ lv, names.map (bindL (fun x => scope.names.lookup x) binds fun _ => none) = lv ∧ Locs φ s.heap lv (lp vs)) ∧
      (∀ x f, (x, f) ∈ cells vs → scope.names.lookup x = some .cell ∧ ∀ n, ∃ c v, (cellsFrom (n + 1) scope.names []).lookup x = some c ∧ bindC (fun x => scope.names.lookup x) binds (fun _ => none) x = some v ∧ RF [] v f)) :
    CodeFun C (.ref a) n (fun vs mem => (m vs ⟨lp vs, mem⟩).map fun r => (retV r.1, r.2.mem)) := by
  obtain ⟨oc, od, kV, doc, pm, an, cdv, ct, osl, hl, hc⟩ := F
  have D : DefAt C a (fnOf name qual params body scope dV kV doc pm an cdv ct) body := ⟨⟨_, O.kin _ _ hl, rfl⟩, codeRec_of O.kin hc, rfl, rfl, B.g.symm, B.b.symm, hco, hgen, hk⟩
  refine D.fun O (by have := rm.d; omega) (by have := rm.u; omega) (names := names) (cells := cells) (fun vs C' O' h1 h2 h3 h4 h5 h6 h7 h8 h9 h10 h11 => ?_) hnd hloc (hbind (fnOf name qual params body scope dV kV doc pm an cdv ct) rfl rfl rfl rfl)
  exact hB vs C' _ ⟨O', h1, h2, h3, h4, h5, h6, h7, h8, h10, h11⟩ rfl rfl rfl h9

theorem Sub.builtin {C C' : Cx} {fd a names} (S : Sub C C' fd a names) {scope : Scope} (hs : fd.scope = scope) {x : Str} {v : Value} (h : scope.names.lookup x = some .globalImplicit) (hb : C.mg x = none ∧ C.mb x = some v) : IsBuiltin C' x v :=
  ⟨by rw [S.env]; show fd.scope.names.lookup x = _; rw [hs]; exact h, by rw [S.mg]; exact hb.1, by rw [S.mb]; exact hb.2⟩
theorem Sub.global {C C' : Cx} {fd a names} (S : Sub C C' fd a names) {scope : Scope} (hs : fd.scope = scope) {x : Str} {v : Value} (h : scope.names.lookup x = some .globalImplicit) (hb : C.mg x = some v) : IsGlobal C' x v :=
  ⟨by rw [S.env]; show fd.scope.names.lookup x = _; rw [hs]; exact h, by rw [S.mg]; exact hb⟩
theorem Sub.form {C C' : Cx} {fd a names} (S : Sub C C' fd a names) {scope : Scope} (hs : fd.scope = scope) : ∃ gl cells qual func code frame blt, C'.env = ⟨scope, C'.env.locals, gl, cells, qual, func, code, frame, blt⟩ :=
  ⟨_, _, _, _, _, _, _, by rw [← hs]; exact S.env⟩
theorem Sub.base {C C' : Cx} {fd a names} (S : Sub C C' fd a names) (hg : fd.globals = mainGlobals) (hb : fd.builtins = builtinsNs) : Base C' := ⟨by rw [S.env]; exact hg, by rw [S.env]; exact hb⟩

def argI (i : Nat) (vs : List PV) : Option Int := match vs[i]? with | some (.fl (.int m)) => some m | _ => none
theorem argI_some {i : Nat} {vs : List PV} {m : Int} (h : argI i vs = some m) : vs[i]? = some (.fl (.int m)) := by
  unfold argI at h
  split at h
  · rename_i e; cases h; exact e
  · cases h

structure StatIn (K : Frag) (cl : Addr) (name : Str) (f : Addr) : Prop where
  get : plainGet K cl name = true
  dict : hasDictIn K cl = true
  raw : ∃ p rest, findIn K (.ref cl) name = some (some (.ref p)) ∧ typeIn K (.ref p) = some (.type "staticmethod") ∧ specialIn K (.ref p) "__get__" = some (some (.builtin "staticmethod.__get__")) ∧
    takesIn K (.ref p) = some false ∧ recIn K p "staticmethod" = some (.ref f :: rest)
  keep : keepIn K (.ref f) = true
  free : copiedNames.contains name = false
structure PlainIn (K : Frag) (cl : Addr) (name : Str) (f : Addr) : Prop where
  get : plainGet K cl name = true
  dict : hasDictIn K cl = true
  find : findIn K (.ref cl) name = some (some (.ref f))
  fn : isFn K (.ref f) = true
  keep : keepIn K (.ref f) = true
theorem StatIn.meth {C : Cx} {cl f : Addr} {name : Str} {n : Nat} {m : FM} (S : StatIn C.K cl name f) (F : Fun C (.ref f) n m) : MethOk C cl name n true m :=
  let ⟨_, _, k1, k2, k3, k4, k5⟩ := S.raw
  ⟨S.get, S.dict, .static k1 k2 k3 k4 k5 rfl S.keep S.free F⟩
theorem PlainIn.meth {C : Cx} {cl f : Addr} {name : Str} {n : Nat} {m : FM} (S : PlainIn C.K cl name f) (F : Fun C (.ref f) (n + 1) m) : MethOk C cl name n false m :=
  ⟨S.get, S.dict, .plain S.find S.fn S.keep F⟩
structure ClassIn (K : Frag) (cl fI : Addr) : Prop where
  makes : makesIn K cl = true
  init : findIn K (.ref cl) "__init__" = some (some (.ref fI))
  fn : typeIn K (.ref fI) = some (.type "function")
  keep : keepIn K (.ref cl) = true
/-- one class has it -/
def tab1 (c : Addr) (b : Bool) (m : FM) : Addr → Option (Bool × FM) := fun cl => if cl = c then some (b, m) else none
theorem tab1_ok {C : Cx} {c : Addr} {name : Str} {n : Nat} {b : Bool} {m : FM} (h : MethOk C c name n b m) : ∀ cl b' m', tab1 c b m cl = some (b', m') → MethOk C cl name n b' m' := fun cl b' m' e => by
  unfold tab1 at e
  split at e
  · rename_i q; subst q; cases e; exact h
  · cases e
def tab2 (c d : Addr) (b : Bool) (m1 m2 : FM) : Addr → Option (Bool × FM) := fun cl => if cl = c then some (b, m1) else if cl = d then some (b, m2) else none
theorem tab2_ok {C : Cx} {c d : Addr} {name : Str} {n : Nat} {b : Bool} {m1 m2 : FM} (h : MethOk C c name n b m1) (h2 : MethOk C d name n b m2) : ∀ cl b' m', tab2 c d b m1 m2 cl = some (b', m') → MethOk C cl name n b' m' := fun cl b' m' e => by
  unfold tab2 at e
  split at e
  · rename_i q; subst q; cases e; exact h
  · split at e
    · rename_i q; subst q; cases e; exact h2
    · cases e
end Mine

/-! Fn2 -/
namespace Mine

def lvI_names : List Str := [Str.ofString "self"]
def lvI_body : List Stmt := clBody PySem.Challenge.pw_fe0312_01 18 0
def lvI_scope : Scope := clScope PySem.Challenge.pw_fe0312_01 18 0
def lvI_params : Arguments := clParams PySem.Challenge.pw_fe0312_01 18 0
noncomputable def lvI_m   : Mo Fl :=
  (blkM [(asg1 (listM []) (setAttrM [770] (getL 0) "_base_char_1_costs"))])
theorem lvI_ok {prog : Program} {w : World} {A : Around} {L gl blt : Addr} {cells : List (Str × Addr)} {qual : Str} {func frame : Option Addr} {code : Value} {s₀ : Shared} {mg mb : Str → Option Value} {K : Frag}  
    {C : Cx} (hC : C = ⟨prog, w, A, ⟨lvI_scope, L, gl, cells, qual, func, code, frame, blt⟩, lvI_names, s₀, mg, mb, K⟩) (O : C.Ok)(st__base_char_1_costs : ∀ cl ∈ ([770] : List Addr), StoreOk C.K cl "_base_char_1_costs") : EvB C lvI_body (lvI_m ) := by
  subst hC
  exact (EvB.cons (EvS.assign (EvE.list EvEs.nil) (EvTg.attr O (EvE.loc O rfl (by decide)) st__base_char_1_costs) rfl rfl rfl)
  EvB.nil)

def lvD_names : List Str := [Str.ofString "self", Str.ofString "string_1", Str.ofString "string_2", Str.ofString "max_distance", Str.ofString "len_1", Str.ofString "len_2", Str.ofString "start"]
def lvD_body : List Stmt := clBody PySem.Challenge.pw_fe0312_01 18 1
def lvD_scope : Scope := clScope PySem.Challenge.pw_fe0312_01 18 1
def lvD_params : Arguments := clParams PySem.Challenge.pw_fe0312_01 18 1
noncomputable def lvD_m (m_ndr : FM) (m_psp : FM) (t__distance_max : Addr → Option (Bool × FM)) (t__distance : Addr → Option (Bool × FM))  : Mo Fl :=
  (blkM [(iteM (orM [(cmpM .Is (getL 1) (cst (.fl .none))), (cmpM .Is (getL 2) (cst (.fl .none)))]) (blkM [(retM (runM [] [(getL 1), (getL 2), (getL 3)] m_ndr))]) (blkM [])),
  (iteM (cmpM .LtE (getL 3) (cst (.fl (.int 0)))) (blkM [(retM (iteM (cmpM .Eq (getL 1) (getL 2)) (cst (.fl (.int 0))) (cst (.fl (.int (-1))))))]) (blkM [])),
  (asg1 (intM (bltM "min" [(binM .Sub (binX .Pow (cst (.fl (.int 2))) (cst (.fl (.int 31)))) (cst (.fl (.int 1)))), (getL 3)])) (setL 3)),
  (iteM (cmpM .Gt (bltM "len" [(getL 1)]) (bltM "len" [(getL 2)])) (blkM [(asgSw (tupM [(getL 1), (getL 2)]) [1, 2])]) (blkM [])),
  (iteM (cmpM .Gt (binM .Sub (bltM "len" [(getL 2)]) (bltM "len" [(getL 1)])) (getL 3)) (blkM [(retM (cst (.fl (.int (-1)))))]) (blkM [])),
  (asg1 (runM [] [(getL 1), (getL 2)] m_psp) (tupTg [4, 5, 6])),
  (iteM (cmpM .Eq (getL 4) (cst (.fl (.int 0)))) (blkM [(retM (iteM (cmpM .LtE (getL 5) (getL 3)) (getL 5) (cst (.fl (.int (-1))))))]) (blkM [])),
  (iteM (cmpM .Gt (getL 5) (bltM "len" [(attrM [770] (getL 0) "_base_char_1_costs")])) (blkM [(asg1 (compM [(getL 5)] (cst (.fl (.int 0)))) (setAttrM [770] (getL 0) "_base_char_1_costs"))]) (blkM [])),
  (iteM (cmpM .Lt (getL 3) (getL 5)) (blkM [(retM (methM t__distance_max (getL 0) "_distance_max" [(getL 1), (getL 2), (getL 4), (getL 5), (getL 6), (getL 3), (attrM [770] (getL 0) "_base_char_1_costs")]))]) (blkM [])),
  (retM (methM t__distance (getL 0) "_distance" [(getL 1), (getL 2), (getL 4), (getL 5), (getL 6), (attrM [770] (getL 0) "_base_char_1_costs")]))])
theorem lvD_ok {prog : Program} {w : World} {A : Around} {L gl blt : Addr} {cells : List (Str × Addr)} {qual : Str} {func frame : Option Addr} {code : Value} {s₀ : Shared} {mg mb : Str → Option Value} {K : Frag} (m_ndr : FM) (m_psp : FM) (t__distance_max : Addr → Option (Bool × FM)) (t__distance : Addr → Option (Bool × FM)) 
    {C : Cx} (hC : C = ⟨prog, w, A, ⟨lvD_scope, L, gl, cells, qual, func, code, frame, blt⟩, lvD_names, s₀, mg, mb, K⟩) (O : C.Ok)(g_null_distance_results : IsGlobal C "null_distance_results" (.ref 28)) (k_ndr : keepIn C.K (.ref 28) = true) (F_ndr : Fun C (.ref 28) 3 m_ndr) (g_prefix_suffix_prep : IsGlobal C "prefix_suffix_prep" (.ref 35)) (k_psp : keepIn C.K (.ref 35) = true) (F_psp : Fun C (.ref 35) 2 m_psp) (at__base_char_1_costs : ∀ cl ∈ ([770] : List Addr), AttrOk C.K cl "_base_char_1_costs") (st__base_char_1_costs : ∀ cl ∈ ([770] : List Addr), StoreOk C.K cl "_base_char_1_costs") (M__distance_max : ∀ cl b m, t__distance_max cl = some (b, m) → MethOk C cl "_distance_max" 7 b m) (M__distance : ∀ cl b m, t__distance cl = some (b, m) → MethOk C cl "_distance" 6 b m) (b_int : IsBuiltin C "int" (.type "int")) (b_min : IsBuiltin C "min" (.builtin "min")) (b_len : IsBuiltin C "len" (.builtin "len")) (b_range : IsBuiltin C "range" (.type "range")) : EvB C lvD_body (lvD_m m_ndr m_psp t__distance_max t__distance) := by
  subst hC
  exact (EvB.cons (EvS.ite (EvT.or (EvTs.cons (EvT.cmp (EvE.loc O rfl (by decide)) EvE.noneC rfl) (EvTs.cons (EvT.cmp (EvE.loc O rfl (by decide)) EvE.noneC rfl) EvTs.nil))) (EvB.cons (EvS.ret (EvE.call O g_null_distance_results (by decide) k_ndr F_ndr (EvEs.cons (EvE.loc O rfl (by decide)) rfl (EvEs.cons (EvE.loc O rfl (by decide)) rfl (EvEs.cons (EvE.loc O rfl (by decide)) rfl EvEs.nil))) rfl))
  EvB.nil) EvB.nil)
  (EvB.cons (EvS.ite (EvT.cmp (EvE.loc O rfl (by decide)) EvE.int rfl) (EvB.cons (EvS.ret (EvE.ifExp (EvT.cmp (EvE.loc O rfl (by decide)) (EvE.loc O rfl (by decide)) rfl) EvE.int EvE.neg))
  EvB.nil) EvB.nil)
  (EvB.cons (EvS.assign (EvE.intCall O b_int (EvE.blt O b_min (by decide) (EvEs.cons (EvE.bin (EvE.binX EvE.int EvE.int) EvE.int) rfl (EvEs.cons (EvE.loc O rfl (by decide)) rfl EvEs.nil)) (List.cons_ne_nil _ _)) rfl) (EvTg.name O rfl) rfl rfl rfl)
  (EvB.cons (EvS.ite (EvT.cmp (EvE.blt O b_len (by decide) (EvEs.cons (EvE.loc O rfl (by decide)) rfl EvEs.nil) (List.cons_ne_nil _ _)) (EvE.blt O b_len (by decide) (EvEs.cons (EvE.loc O rfl (by decide)) rfl EvEs.nil) (List.cons_ne_nil _ _)) rfl) (EvB.cons (EvS.assignSw O (xs := [Str.ofString "string_2", Str.ofString "string_1"]) (ks := [1, 2]) (EvE.tuple (EvEs.cons (EvE.loc O rfl (by decide)) rfl (EvEs.cons (EvE.loc O rfl (by decide)) rfl EvEs.nil))) (sw_hx rfl) rfl rfl rfl)
  EvB.nil) EvB.nil)
  (EvB.cons (EvS.ite (EvT.cmp (EvE.bin (EvE.blt O b_len (by decide) (EvEs.cons (EvE.loc O rfl (by decide)) rfl EvEs.nil) (List.cons_ne_nil _ _)) (EvE.blt O b_len (by decide) (EvEs.cons (EvE.loc O rfl (by decide)) rfl EvEs.nil) (List.cons_ne_nil _ _))) (EvE.loc O rfl (by decide)) rfl) (EvB.cons (EvS.ret EvE.neg)
  EvB.nil) EvB.nil)
  (EvB.cons (EvS.assign (EvE.call O g_prefix_suffix_prep (by decide) k_psp F_psp (EvEs.cons (EvE.loc O rfl (by decide)) rfl (EvEs.cons (EvE.loc O rfl (by decide)) rfl EvEs.nil)) rfl) (EvTg.tuple O (NamesAt.cons rfl (fun _ => rfl) (NamesAt.cons rfl (fun _ => rfl) (NamesAt.cons rfl (fun _ => rfl) NamesAt.nil)))) rfl rfl rfl)
  (EvB.cons (EvS.ite (EvT.cmp (EvE.loc O rfl (by decide)) EvE.int rfl) (EvB.cons (EvS.ret (EvE.ifExp (EvT.cmp (EvE.loc O rfl (by decide)) (EvE.loc O rfl (by decide)) rfl) (EvE.loc O rfl (by decide)) EvE.neg))
  EvB.nil) EvB.nil)
  (EvB.cons (EvS.ite (EvT.cmp (EvE.loc O rfl (by decide)) (EvE.blt O b_len (by decide) (EvEs.cons (EvE.attr O (EvE.loc O rfl (by decide)) at__base_char_1_costs) rfl EvEs.nil) (List.cons_ne_nil _ _)) rfl) (EvB.cons (EvS.assign (EvE.comp O b_range (EvEs.cons (EvE.loc O rfl (by decide)) rfl EvEs.nil) (List.cons_ne_nil _ _) (CompScope.zero rfl rfl) (fun C2 O2 _ _ _ hn2 he2 _ _ hk2 => EvE.int) (fun _ => rfl)) (EvTg.attr O (EvE.loc O rfl (by decide)) st__base_char_1_costs) rfl rfl rfl)
  EvB.nil) EvB.nil)
  (EvB.cons (EvS.ite (EvT.cmp (EvE.loc O rfl (by decide)) (EvE.loc O rfl (by decide)) rfl) (EvB.cons (EvS.ret (EvE.meth O rfl M__distance_max (EvE.loc O rfl (by decide)) (EvEs.cons (EvE.loc O rfl (by decide)) rfl (EvEs.cons (EvE.loc O rfl (by decide)) rfl (EvEs.cons (EvE.loc O rfl (by decide)) rfl (EvEs.cons (EvE.loc O rfl (by decide)) rfl (EvEs.cons (EvE.loc O rfl (by decide)) rfl (EvEs.cons (EvE.loc O rfl (by decide)) rfl (EvEs.cons (EvE.attr O (EvE.loc O rfl (by decide)) at__base_char_1_costs) rfl EvEs.nil))))))) ⟨_, rfl⟩))
  EvB.nil) EvB.nil)
  (EvB.cons (EvS.ret (EvE.meth O rfl M__distance (EvE.loc O rfl (by decide)) (EvEs.cons (EvE.loc O rfl (by decide)) rfl (EvEs.cons (EvE.loc O rfl (by decide)) rfl (EvEs.cons (EvE.loc O rfl (by decide)) rfl (EvEs.cons (EvE.loc O rfl (by decide)) rfl (EvEs.cons (EvE.loc O rfl (by decide)) rfl (EvEs.cons (EvE.attr O (EvE.loc O rfl (by decide)) at__base_char_1_costs) rfl EvEs.nil)))))) ⟨_, rfl⟩))
  EvB.nil))))))))))

def osI_names : List Str := [Str.ofString "self"]
def osI_body : List Stmt := clBody PySem.Challenge.pw_fe0312_01 19 0
def osI_scope : Scope := clScope PySem.Challenge.pw_fe0312_01 19 0
def osI_params : Arguments := clParams PySem.Challenge.pw_fe0312_01 19 0
noncomputable def osI_m   : Mo Fl :=
  (blkM [(asg1 (listM []) (setAttrM [810] (getL 0) "_base_char_1_costs")),
  (asg1 (listM []) (setAttrM [810] (getL 0) "_base_prev_char_1_costs"))])
theorem osI_ok {prog : Program} {w : World} {A : Around} {L gl blt : Addr} {cells : List (Str × Addr)} {qual : Str} {func frame : Option Addr} {code : Value} {s₀ : Shared} {mg mb : Str → Option Value} {K : Frag}  
    {C : Cx} (hC : C = ⟨prog, w, A, ⟨osI_scope, L, gl, cells, qual, func, code, frame, blt⟩, osI_names, s₀, mg, mb, K⟩) (O : C.Ok)(st__base_char_1_costs : ∀ cl ∈ ([810] : List Addr), StoreOk C.K cl "_base_char_1_costs") (st__base_prev_char_1_costs : ∀ cl ∈ ([810] : List Addr), StoreOk C.K cl "_base_prev_char_1_costs") : EvB C osI_body (osI_m ) := by
  subst hC
  exact (EvB.cons (EvS.assign (EvE.list EvEs.nil) (EvTg.attr O (EvE.loc O rfl (by decide)) st__base_char_1_costs) rfl rfl rfl)
  (EvB.cons (EvS.assign (EvE.list EvEs.nil) (EvTg.attr O (EvE.loc O rfl (by decide)) st__base_prev_char_1_costs) rfl rfl rfl)
  EvB.nil))

def osD_names : List Str := [Str.ofString "self", Str.ofString "string_1", Str.ofString "string_2", Str.ofString "max_distance", Str.ofString "len_1", Str.ofString "len_2", Str.ofString "start"]
def osD_body : List Stmt := clBody PySem.Challenge.pw_fe0312_01 19 1
def osD_scope : Scope := clScope PySem.Challenge.pw_fe0312_01 19 1
def osD_params : Arguments := clParams PySem.Challenge.pw_fe0312_01 19 1
noncomputable def osD_m (m_ndr : FM) (m_psp : FM) (t__distance_max : Addr → Option (Bool × FM)) (t__distance : Addr → Option (Bool × FM))  : Mo Fl :=
  (blkM [(iteM (orM [(cmpM .Is (getL 1) (cst (.fl .none))), (cmpM .Is (getL 2) (cst (.fl .none)))]) (blkM [(retM (runM [] [(getL 1), (getL 2), (getL 3)] m_ndr))]) (blkM [])),
  (iteM (cmpM .LtE (getL 3) (cst (.fl (.int 0)))) (blkM [(retM (iteM (cmpM .Eq (getL 1) (getL 2)) (cst (.fl (.int 0))) (cst (.fl (.int (-1))))))]) (blkM [])),
  (asg1 (intM (bltM "min" [(binM .Sub (binX .Pow (cst (.fl (.int 2))) (cst (.fl (.int 31)))) (cst (.fl (.int 1)))), (getL 3)])) (setL 3)),
  (iteM (cmpM .Gt (bltM "len" [(getL 1)]) (bltM "len" [(getL 2)])) (blkM [(asgSw (tupM [(getL 1), (getL 2)]) [1, 2])]) (blkM [])),
  (iteM (cmpM .Gt (binM .Sub (bltM "len" [(getL 2)]) (bltM "len" [(getL 1)])) (getL 3)) (blkM [(retM (cst (.fl (.int (-1)))))]) (blkM [])),
  (asg1 (runM [] [(getL 1), (getL 2)] m_psp) (tupTg [4, 5, 6])),
  (iteM (cmpM .Eq (getL 4) (cst (.fl (.int 0)))) (blkM [(retM (iteM (cmpM .LtE (getL 5) (getL 3)) (getL 5) (cst (.fl (.int (-1))))))]) (blkM [])),
  (iteM (cmpM .Gt (getL 5) (bltM "len" [(attrM [810] (getL 0) "_base_char_1_costs")])) (blkM [(asg1 (compM [(getL 5)] (cst (.fl (.int 0)))) (setAttrM [810] (getL 0) "_base_char_1_costs")),
  (asg1 (compM [(getL 5)] (cst (.fl (.int 0)))) (setAttrM [810] (getL 0) "_base_prev_char_1_costs"))]) (blkM [])),
  (iteM (cmpM .Lt (getL 3) (getL 5)) (blkM [(retM (methM t__distance_max (getL 0) "_distance_max" [(getL 1), (getL 2), (getL 4), (getL 5), (getL 6), (getL 3), (attrM [810] (getL 0) "_base_char_1_costs"), (attrM [810] (getL 0) "_base_prev_char_1_costs")]))]) (blkM [])),
  (retM (methM t__distance (getL 0) "_distance" [(getL 1), (getL 2), (getL 4), (getL 5), (getL 6), (attrM [810] (getL 0) "_base_char_1_costs"), (attrM [810] (getL 0) "_base_prev_char_1_costs")]))])
theorem osD_ok {prog : Program} {w : World} {A : Around} {L gl blt : Addr} {cells : List (Str × Addr)} {qual : Str} {func frame : Option Addr} {code : Value} {s₀ : Shared} {mg mb : Str → Option Value} {K : Frag} (m_ndr : FM) (m_psp : FM) (t__distance_max : Addr → Option (Bool × FM)) (t__distance : Addr → Option (Bool × FM)) 
    {C : Cx} (hC : C = ⟨prog, w, A, ⟨osD_scope, L, gl, cells, qual, func, code, frame, blt⟩, osD_names, s₀, mg, mb, K⟩) (O : C.Ok)(g_null_distance_results : IsGlobal C "null_distance_results" (.ref 28)) (k_ndr : keepIn C.K (.ref 28) = true) (F_ndr : Fun C (.ref 28) 3 m_ndr) (g_prefix_suffix_prep : IsGlobal C "prefix_suffix_prep" (.ref 35)) (k_psp : keepIn C.K (.ref 35) = true) (F_psp : Fun C (.ref 35) 2 m_psp) (at__base_char_1_costs : ∀ cl ∈ ([810] : List Addr), AttrOk C.K cl "_base_char_1_costs") (st__base_char_1_costs : ∀ cl ∈ ([810] : List Addr), StoreOk C.K cl "_base_char_1_costs") (st__base_prev_char_1_costs : ∀ cl ∈ ([810] : List Addr), StoreOk C.K cl "_base_prev_char_1_costs") (at__base_prev_char_1_costs : ∀ cl ∈ ([810] : List Addr), AttrOk C.K cl "_base_prev_char_1_costs") (M__distance_max : ∀ cl b m, t__distance_max cl = some (b, m) → MethOk C cl "_distance_max" 8 b m) (M__distance : ∀ cl b m, t__distance cl = some (b, m) → MethOk C cl "_distance" 7 b m) (b_int : IsBuiltin C "int" (.type "int")) (b_min : IsBuiltin C "min" (.builtin "min")) (b_len : IsBuiltin C "len" (.builtin "len")) (b_range : IsBuiltin C "range" (.type "range")) : EvB C osD_body (osD_m m_ndr m_psp t__distance_max t__distance) := by
  subst hC
  exact (EvB.cons (EvS.ite (EvT.or (EvTs.cons (EvT.cmp (EvE.loc O rfl (by decide)) EvE.noneC rfl) (EvTs.cons (EvT.cmp (EvE.loc O rfl (by decide)) EvE.noneC rfl) EvTs.nil))) (EvB.cons (EvS.ret (EvE.call O g_null_distance_results (by decide) k_ndr F_ndr (EvEs.cons (EvE.loc O rfl (by decide)) rfl (EvEs.cons (EvE.loc O rfl (by decide)) rfl (EvEs.cons (EvE.loc O rfl (by decide)) rfl EvEs.nil))) rfl))
  EvB.nil) EvB.nil)
  (EvB.cons (EvS.ite (EvT.cmp (EvE.loc O rfl (by decide)) EvE.int rfl) (EvB.cons (EvS.ret (EvE.ifExp (EvT.cmp (EvE.loc O rfl (by decide)) (EvE.loc O rfl (by decide)) rfl) EvE.int EvE.neg))
  EvB.nil) EvB.nil)
  (EvB.cons (EvS.assign (EvE.intCall O b_int (EvE.blt O b_min (by decide) (EvEs.cons (EvE.bin (EvE.binX EvE.int EvE.int) EvE.int) rfl (EvEs.cons (EvE.loc O rfl (by decide)) rfl EvEs.nil)) (List.cons_ne_nil _ _)) rfl) (EvTg.name O rfl) rfl rfl rfl)
  (EvB.cons (EvS.ite (EvT.cmp (EvE.blt O b_len (by decide) (EvEs.cons (EvE.loc O rfl (by decide)) rfl EvEs.nil) (List.cons_ne_nil _ _)) (EvE.blt O b_len (by decide) (EvEs.cons (EvE.loc O rfl (by decide)) rfl EvEs.nil) (List.cons_ne_nil _ _)) rfl) (EvB.cons (EvS.assignSw O (xs := [Str.ofString "string_2", Str.ofString "string_1"]) (ks := [1, 2]) (EvE.tuple (EvEs.cons (EvE.loc O rfl (by decide)) rfl (EvEs.cons (EvE.loc O rfl (by decide)) rfl EvEs.nil))) (sw_hx rfl) rfl rfl rfl)
  EvB.nil) EvB.nil)
  (EvB.cons (EvS.ite (EvT.cmp (EvE.bin (EvE.blt O b_len (by decide) (EvEs.cons (EvE.loc O rfl (by decide)) rfl EvEs.nil) (List.cons_ne_nil _ _)) (EvE.blt O b_len (by decide) (EvEs.cons (EvE.loc O rfl (by decide)) rfl EvEs.nil) (List.cons_ne_nil _ _))) (EvE.loc O rfl (by decide)) rfl) (EvB.cons (EvS.ret EvE.neg)
  EvB.nil) EvB.nil)
  (EvB.cons (EvS.assign (EvE.call O g_prefix_suffix_prep (by decide) k_psp F_psp (EvEs.cons (EvE.loc O rfl (by decide)) rfl (EvEs.cons (EvE.loc O rfl (by decide)) rfl EvEs.nil)) rfl) (EvTg.tuple O (NamesAt.cons rfl (fun _ => rfl) (NamesAt.cons rfl (fun _ => rfl) (NamesAt.cons rfl (fun _ => rfl) NamesAt.nil)))) rfl rfl rfl)
  (EvB.cons (EvS.ite (EvT.cmp (EvE.loc O rfl (by decide)) EvE.int rfl) (EvB.cons (EvS.ret (EvE.ifExp (EvT.cmp (EvE.loc O rfl (by decide)) (EvE.loc O rfl (by decide)) rfl) (EvE.loc O rfl (by decide)) EvE.neg))
  EvB.nil) EvB.nil)
  (EvB.cons (EvS.ite (EvT.cmp (EvE.loc O rfl (by decide)) (EvE.blt O b_len (by decide) (EvEs.cons (EvE.attr O (EvE.loc O rfl (by decide)) at__base_char_1_costs) rfl EvEs.nil) (List.cons_ne_nil _ _)) rfl) (EvB.cons (EvS.assign (EvE.comp O b_range (EvEs.cons (EvE.loc O rfl (by decide)) rfl EvEs.nil) (List.cons_ne_nil _ _) (CompScope.zero rfl rfl) (fun C2 O2 _ _ _ hn2 he2 _ _ hk2 => EvE.int) (fun _ => rfl)) (EvTg.attr O (EvE.loc O rfl (by decide)) st__base_char_1_costs) rfl rfl rfl)
  (EvB.cons (EvS.assign (EvE.comp O b_range (EvEs.cons (EvE.loc O rfl (by decide)) rfl EvEs.nil) (List.cons_ne_nil _ _) (CompScope.zero rfl rfl) (fun C2 O2 _ _ _ hn2 he2 _ _ hk2 => EvE.int) (fun _ => rfl)) (EvTg.attr O (EvE.loc O rfl (by decide)) st__base_prev_char_1_costs) rfl rfl rfl)
  EvB.nil)) EvB.nil)
  (EvB.cons (EvS.ite (EvT.cmp (EvE.loc O rfl (by decide)) (EvE.loc O rfl (by decide)) rfl) (EvB.cons (EvS.ret (EvE.meth O rfl M__distance_max (EvE.loc O rfl (by decide)) (EvEs.cons (EvE.loc O rfl (by decide)) rfl (EvEs.cons (EvE.loc O rfl (by decide)) rfl (EvEs.cons (EvE.loc O rfl (by decide)) rfl (EvEs.cons (EvE.loc O rfl (by decide)) rfl (EvEs.cons (EvE.loc O rfl (by decide)) rfl (EvEs.cons (EvE.loc O rfl (by decide)) rfl (EvEs.cons (EvE.attr O (EvE.loc O rfl (by decide)) at__base_char_1_costs) rfl (EvEs.cons (EvE.attr O (EvE.loc O rfl (by decide)) at__base_prev_char_1_costs) rfl EvEs.nil)))))))) ⟨_, rfl⟩))
  EvB.nil) EvB.nil)
  (EvB.cons (EvS.ret (EvE.meth O rfl M__distance (EvE.loc O rfl (by decide)) (EvEs.cons (EvE.loc O rfl (by decide)) rfl (EvEs.cons (EvE.loc O rfl (by decide)) rfl (EvEs.cons (EvE.loc O rfl (by decide)) rfl (EvEs.cons (EvE.loc O rfl (by decide)) rfl (EvEs.cons (EvE.loc O rfl (by decide)) rfl (EvEs.cons (EvE.attr O (EvE.loc O rfl (by decide)) at__base_char_1_costs) rfl (EvEs.cons (EvE.attr O (EvE.loc O rfl (by decide)) at__base_prev_char_1_costs) rfl EvEs.nil))))))) ⟨_, rfl⟩))
  EvB.nil))))))))))

def edI_names : List Str := [Str.ofString "self", Str.ofString "algorithm", Str.ofString "comparer"]
def edI_body : List Stmt := clBody PySem.Challenge.pw_fe0312_01 17 0
def edI_scope : Scope := clScope PySem.Challenge.pw_fe0312_01 17 0
def edI_params : Arguments := clParams PySem.Challenge.pw_fe0312_01 17 0
noncomputable def edI_m (m_Lev : FM) (m_Osa : FM)  : Mo Fl :=
  (blkM [(asg1 (getL 1) (setAttrM [728] (getL 0) "_algorithm")),
  (iteM (cmpObjM [668, 670, 676] (getL 1) (cst (.fl (.obj 668)))) (blkM [(asg1 (runM [] [] m_Lev) (setAttrM [728] (getL 0) "_distance_comparer"))]) (blkM [(iteM (cmpObjM [668, 670, 676] (getL 1) (cst (.fl (.obj 670)))) (blkM [(asg1 (runM [] [] m_Osa) (setAttrM [728] (getL 0) "_distance_comparer"))]) (blkM [(iteM (cmpObjM [668, 670, 676] (getL 1) (cst (.fl (.obj 676)))) (blkM [(fun _ => none),
  (asg1 (getL 2) (setAttrM [728] (getL 0) "_distance_comparer"))]) (blkM [(fun _ => none)]))]))]))])
theorem edI_ok {prog : Program} {w : World} {A : Around} {L gl blt : Addr} {cells : List (Str × Addr)} {qual : Str} {func frame : Option Addr} {code : Value} {s₀ : Shared} {mg mb : Str → Option Value} {K : Frag} (m_Lev : FM) (m_Osa : FM) 
    {C : Cx} (hC : C = ⟨prog, w, A, ⟨edI_scope, L, gl, cells, qual, func, code, frame, blt⟩, edI_names, s₀, mg, mb, K⟩) (O : C.Ok)(st__algorithm : ∀ cl ∈ ([728] : List Addr), StoreOk C.K cl "_algorithm") (g_DistanceAlgorithm : IsGlobal C "DistanceAlgorithm" (.ref 643)) (en_read : readsIn C.K 643 (.ref 454) = true) (en_LEVENSHTEIN : findCls C.K (.ref 643) (.ref 454) "LEVENSHTEIN" = some (.val (.ref 668))) (en_eq : SelfEq C.K 643) (en_mem : ∀ a ∈ ([668, 670, 676] : List Addr), Member C.K 643 a) (g_Levenshtein : IsGlobal C "Levenshtein" (.ref 770)) (k_Lev : keepIn C.K (.ref 770) = true) (F_Lev : Fun C (.ref 770) 0 m_Lev) (st__distance_comparer : ∀ cl ∈ ([728] : List Addr), StoreOk C.K cl "_distance_comparer") (en_DAMERAU_OSA : findCls C.K (.ref 643) (.ref 454) "DAMERAU_OSA" = some (.val (.ref 670))) (g_DamerauOsa : IsGlobal C "DamerauOsa" (.ref 810)) (k_Osa : keepIn C.K (.ref 810) = true) (F_Osa : Fun C (.ref 810) 0 m_Osa) (en_USER_PROVIDED : findCls C.K (.ref 643) (.ref 454) "USER_PROVIDED" = some (.val (.ref 676))) : EvB C edI_body (edI_m m_Lev m_Osa) := by
  subst hC
  exact (EvB.cons (EvS.assign (EvE.loc O rfl (by decide)) (EvTg.attr O (EvE.loc O rfl (by decide)) st__algorithm) rfl rfl rfl)
  (EvB.cons (EvS.ite (EvT.cmpObj O en_eq en_mem (EvE.loc O rfl (by decide)) (EvE.clsAttr O g_DistanceAlgorithm (by decide) en_read en_LEVENSHTEIN) rfl) (EvB.cons (EvS.assign (EvE.call O g_Levenshtein (by decide) k_Lev F_Lev EvEs.nil rfl) (EvTg.attr O (EvE.loc O rfl (by decide)) st__distance_comparer) rfl rfl rfl)
  EvB.nil) (EvB.cons (EvS.ite (EvT.cmpObj O en_eq en_mem (EvE.loc O rfl (by decide)) (EvE.clsAttr O g_DistanceAlgorithm (by decide) en_read en_DAMERAU_OSA) rfl) (EvB.cons (EvS.assign (EvE.call O g_DamerauOsa (by decide) k_Osa F_Osa EvEs.nil rfl) (EvTg.attr O (EvE.loc O rfl (by decide)) st__distance_comparer) rfl rfl rfl)
  EvB.nil) (EvB.cons (EvS.ite (EvT.cmpObj O en_eq en_mem (EvE.loc O rfl (by decide)) (EvE.clsAttr O g_DistanceAlgorithm (by decide) en_read en_USER_PROVIDED) rfl) (EvB.cons EvS.no
  (EvB.cons (EvS.assign (EvE.loc O rfl (by decide)) (EvTg.attr O (EvE.loc O rfl (by decide)) st__distance_comparer) rfl rfl rfl)
  EvB.nil)) (EvB.cons EvS.no
  EvB.nil))
  EvB.nil))
  EvB.nil))
  EvB.nil))

def edC_names : List Str := [Str.ofString "self", Str.ofString "string_1", Str.ofString "string_2", Str.ofString "max_distance"]
def edC_body : List Stmt := clBody PySem.Challenge.pw_fe0312_01 17 1
def edC_scope : Scope := clScope PySem.Challenge.pw_fe0312_01 17 1
def edC_params : Arguments := clParams PySem.Challenge.pw_fe0312_01 17 1
noncomputable def edC_m (t_distance : Addr → Option (Bool × FM))  : Mo Fl :=
  (blkM [(retM (methM t_distance (attrM [728] (getL 0) "_distance_comparer") "distance" [(getL 1), (getL 2), (getL 3)]))])
theorem edC_ok {prog : Program} {w : World} {A : Around} {L gl blt : Addr} {cells : List (Str × Addr)} {qual : Str} {func frame : Option Addr} {code : Value} {s₀ : Shared} {mg mb : Str → Option Value} {K : Frag} (t_distance : Addr → Option (Bool × FM)) 
    {C : Cx} (hC : C = ⟨prog, w, A, ⟨edC_scope, L, gl, cells, qual, func, code, frame, blt⟩, edC_names, s₀, mg, mb, K⟩) (O : C.Ok)(at__distance_comparer : ∀ cl ∈ ([728] : List Addr), AttrOk C.K cl "_distance_comparer") (M_distance : ∀ cl b m, t_distance cl = some (b, m) → MethOk C cl "distance" 3 b m) : EvB C edC_body (edC_m t_distance) := by
  subst hC
  exact (EvB.cons (EvS.ret (EvE.meth O rfl M_distance (EvE.attr O (EvE.loc O rfl (by decide)) at__distance_comparer) (EvEs.cons (EvE.loc O rfl (by decide)) rfl (EvEs.cons (EvE.loc O rfl (by decide)) rfl (EvEs.cons (EvE.loc O rfl (by decide)) rfl EvEs.nil))) ⟨_, rfl⟩))
  EvB.nil)

end Mine

/-! Fn3 -/
namespace Mine

/-- what the proof uses of the fragment and of the names -/
structure Facts (K : Frag) (mg mb : Str → Option Value) : Prop where
  b_len : mg "len" = none ∧ mb "len" = some (.builtin "len")
  b_range : mg "range" = none ∧ mb "range" = some (.type "range")
  b_min : mg "min" = none ∧ mb "min" = some (.builtin "min")
  b_int : mg "int" = none ∧ mb "int" = some (.type "int")
  g_prefix_suffix_prep : mg "prefix_suffix_prep" = some (.ref 35)
  g_null_distance_results : mg "null_distance_results" = some (.ref 28)
  g_Levenshtein : mg "Levenshtein" = some (.ref 770)
  g_DamerauOsa : mg "DamerauOsa" = some (.ref 810)
  g_EditDistance : mg "EditDistance" = some (.ref 728)
  g_DistanceAlgorithm : mg "DistanceAlgorithm" = some (.ref 643)
  f_psp : FnIn K 35 "prefix_suffix_prep" "prefix_suffix_prep" psp_params psp_body psp_scope .none
  f_ndr : FnIn K 28 "null_distance_results" "null_distance_results" ndr_params ndr_body ndr_scope .none
  f_lvd : FnIn K 756 "_distance" "Levenshtein._distance" lvd_params lvd_body lvd_scope .none
  f_lvm : FnIn K 764 "_distance_max" "Levenshtein._distance_max" lvm_params lvm_body lvm_scope .none
  f_osd : FnIn K 796 "_distance" "DamerauOsa._distance" osd_params osd_body osd_scope .none
  f_osm : FnIn K 804 "_distance_max" "DamerauOsa._distance_max" osm_params osm_body osm_scope .none
  f_lvI : FnIn K 746 "__init__" "Levenshtein.__init__" lvI_params lvI_body lvI_scope .none
  f_lvD : FnIn K 751 "distance" "Levenshtein.distance" lvD_params lvD_body lvD_scope .none
  f_osI : FnIn K 786 "__init__" "DamerauOsa.__init__" osI_params osI_body osI_scope .none
  f_osD : FnIn K 791 "distance" "DamerauOsa.distance" osD_params osD_body osD_scope .none
  f_edI : FnIn K 718 "__init__" "EditDistance.__init__" edI_params edI_body edI_scope (.ref 711)
  f_edC : FnIn K 725 "compare" "EditDistance.compare" edC_params edC_body edC_scope .none
  d_edI : ∃ oc od n sl, K.lookup 711 = some ⟨oc, od, .seq #[.none] n, sl⟩
  k_psp : keepIn K (.ref 35) = true
  k_ndr : keepIn K (.ref 28) = true
  at_770_base_char_1_costs : AttrOk K 770 "_base_char_1_costs"
  at_810_base_char_1_costs : AttrOk K 810 "_base_char_1_costs"
  at_810_base_prev_char_1_costs : AttrOk K 810 "_base_prev_char_1_costs"
  at_728_distance_comparer : AttrOk K 728 "_distance_comparer"
  st_770_base_char_1_costs : StoreOk K 770 "_base_char_1_costs"
  st_810_base_char_1_costs : StoreOk K 810 "_base_char_1_costs"
  st_810_base_prev_char_1_costs : StoreOk K 810 "_base_prev_char_1_costs"
  st_728_distance_comparer : StoreOk K 728 "_distance_comparer"
  st_728_algorithm : StoreOk K 728 "_algorithm"
  s_770_distance : StatIn K 770 "_distance" 756
  s_770_distance_max : StatIn K 770 "_distance_max" 764
  s_810_distance : StatIn K 810 "_distance" 796
  s_810_distance_max : StatIn K 810 "_distance_max" 804
  p_770distance : PlainIn K 770 "distance" 751
  p_810distance : PlainIn K 810 "distance" 791
  p_728compare : PlainIn K 728 "compare" 725
  c_770 : ClassIn K 770 746
  c_810 : ClassIn K 810 786
  c_728 : ClassIn K 728 718
  en_read : readsIn K 643 (.ref 454) = true
  en_LEVENSHTEIN : findCls K (.ref 643) (.ref 454) "LEVENSHTEIN" = some (.val (.ref 668))
  en_DAMERAU_OSA : findCls K (.ref 643) (.ref 454) "DAMERAU_OSA" = some (.val (.ref 670))
  en_USER_PROVIDED : findCls K (.ref 643) (.ref 454) "USER_PROVIDED" = some (.val (.ref 676))
  en_eq : SelfEq K 643
  en_mem : ∀ a ∈ ([668, 670, 676] : List Addr), Member K 643 a

theorem Sub.facts {C C' : Cx} {fd a names} (S : Sub C C' fd a names) (FA : Facts C.K C.mg C.mb) : Facts C'.K C'.mg C'.mb := by rw [S.K, S.mg, S.mb]; exact FA

noncomputable def psp_mm (vs : List PV) : Mo Fl := match vs with | [.fl (.str a), .fl (.str _)] => psp_m (a.length + 1) (a.length + 1) | _ => fun _ => none
def psp_lp (vs : List PV) : List (Option PV) := match vs with | [v0, v1] => [some v0, some v1, none, none, none] | _ => []
def psp_cells (vs : List PV) : List (Str × FV) := []
noncomputable def psp_fm : FM := fun vs mem => (psp_mm vs ⟨psp_lp vs, mem⟩).map fun r => (retV r.1, r.2.mem)

theorem psp_fun {C : Cx} (O : C.Ok) (B : Base C) (rm : Room C 0) (FA : Facts C.K C.mg C.mb) : CodeFun C (.ref 35) 2 psp_fm := by
  refine fn_fun O rm B FA.f_psp rfl rfl rfl (names := psp_names) (cells := psp_cells) (m := psp_mm) (lp := psp_lp) (by decide +kernel) (by decide +kernel) ?_ ?_
  · intro vs C' fd S hs hg hb hc
    obtain ⟨gl, cells, qual, func, code, frame, blt, he⟩ := S.form hs
    have hC := Cx.form he S.names
    have O' := S.ok
    have FA' := S.facts FA
    have B' := S.base hg hb
    unfold psp_mm
    split
    · exact psp_ok _ _  hC O' (S.builtin hs (by decide +kernel) FA.b_len)
    · exact EvB.no
  · intro fd e1 e2 e3 e4 φ s cvs vs X r hn
    obtain ⟨name, qn, ps, bd, sc, gl, clo, df, kd, doc, pm, an, cd, ct, bl⟩ := fd
    dsimp only at e1 e2 e3 e4
    subst e1; subst e2; subst e3; subst e4
    obtain ⟨c0, cs0, v0, vs0, rfl, rfl, r0, r, hn⟩ := r.cons_inv hn
    obtain ⟨c1, cs1, v1, vs1, rfl, rfl, r1, r, hn⟩ := r.cons_inv hn
    obtain ⟨rfl, rfl⟩ := r.nil_inv hn
    refine ⟨[("string_1", c0), ("string_2", c1)], BindsTo.of_eq (by rfl), fun n => kindsX (by rfl) (n + 1), ⟨_, rfl, ?_⟩, fun _ _ h => nomatch h⟩
    exact (.cons r0 (.cons r1 (.skip (.skip (.skip .nil)))))

noncomputable def ndr_mm (vs : List PV) : Mo Fl := ndr_m
def ndr_lp (vs : List PV) : List (Option PV) := match vs with | [v0, v1, v2] => [some v0, some v1, some v2] | _ => []
def ndr_cells (vs : List PV) : List (Str × FV) := []
noncomputable def ndr_fm : FM := fun vs mem => (ndr_mm vs ⟨ndr_lp vs, mem⟩).map fun r => (retV r.1, r.2.mem)

theorem ndr_fun {C : Cx} (O : C.Ok) (B : Base C) (rm : Room C 0) (FA : Facts C.K C.mg C.mb) : CodeFun C (.ref 28) 3 ndr_fm := by
  refine fn_fun O rm B FA.f_ndr rfl rfl rfl (names := ndr_names) (cells := ndr_cells) (m := ndr_mm) (lp := ndr_lp) (by decide +kernel) (by decide +kernel) ?_ ?_
  · intro vs C' fd S hs hg hb hc
    obtain ⟨gl, cells, qual, func, code, frame, blt, he⟩ := S.form hs
    have hC := Cx.form he S.names
    have O' := S.ok
    have FA' := S.facts FA
    have B' := S.base hg hb
    exact ndr_ok  hC O' (S.builtin hs (by decide +kernel) FA.b_len)
  · intro fd e1 e2 e3 e4 φ s cvs vs X r hn
    obtain ⟨name, qn, ps, bd, sc, gl, clo, df, kd, doc, pm, an, cd, ct, bl⟩ := fd
    dsimp only at e1 e2 e3 e4
    subst e1; subst e2; subst e3; subst e4
    obtain ⟨c0, cs0, v0, vs0, rfl, rfl, r0, r, hn⟩ := r.cons_inv hn
    obtain ⟨c1, cs1, v1, vs1, rfl, rfl, r1, r, hn⟩ := r.cons_inv hn
    obtain ⟨c2, cs2, v2, vs2, rfl, rfl, r2, r, hn⟩ := r.cons_inv hn
    obtain ⟨rfl, rfl⟩ := r.nil_inv hn
    refine ⟨[("string_1", c0), ("string_2", c1), ("max_distance", c2)], BindsTo.of_eq (by rfl), fun n => kindsX (by rfl) (n + 1), ⟨_, rfl, ?_⟩, fun _ _ h => nomatch h⟩
    exact (.cons r0 (.cons r1 (.cons r2 .nil)))

noncomputable def lvd_mm (vs : List PV) : Mo Fl := lvd_m
def lvd_lp (vs : List PV) : List (Option PV) := match vs with | [v0, v1, v2, v3, v4, v5] => [some v0, some v1, some v2, some v3, some v4, some v5, none, none, none, none, none, none] | _ => []
def lvd_cells (vs : List PV) : List (Str × FV) := []
noncomputable def lvd_fm : FM := fun vs mem => (lvd_mm vs ⟨lvd_lp vs, mem⟩).map fun r => (retV r.1, r.2.mem)

theorem lvd_fun {C : Cx} (O : C.Ok) (B : Base C) (rm : Room C 0) (FA : Facts C.K C.mg C.mb) : CodeFun C (.ref 756) 6 lvd_fm := by
  refine fn_fun O rm B FA.f_lvd rfl rfl rfl (names := lvd_names) (cells := lvd_cells) (m := lvd_mm) (lp := lvd_lp) (by decide +kernel) (by decide +kernel) ?_ ?_
  · intro vs C' fd S hs hg hb hc
    obtain ⟨gl, cells, qual, func, code, frame, blt, he⟩ := S.form hs
    have hC := Cx.form he S.names
    have O' := S.ok
    have FA' := S.facts FA
    have B' := S.base hg hb
    exact lvd_ok  hC O' (S.builtin hs (by decide +kernel) FA.b_range)
  · intro fd e1 e2 e3 e4 φ s cvs vs X r hn
    obtain ⟨name, qn, ps, bd, sc, gl, clo, df, kd, doc, pm, an, cd, ct, bl⟩ := fd
    dsimp only at e1 e2 e3 e4
    subst e1; subst e2; subst e3; subst e4
    obtain ⟨c0, cs0, v0, vs0, rfl, rfl, r0, r, hn⟩ := r.cons_inv hn
    obtain ⟨c1, cs1, v1, vs1, rfl, rfl, r1, r, hn⟩ := r.cons_inv hn
    obtain ⟨c2, cs2, v2, vs2, rfl, rfl, r2, r, hn⟩ := r.cons_inv hn
    obtain ⟨c3, cs3, v3, vs3, rfl, rfl, r3, r, hn⟩ := r.cons_inv hn
    obtain ⟨c4, cs4, v4, vs4, rfl, rfl, r4, r, hn⟩ := r.cons_inv hn
    obtain ⟨c5, cs5, v5, vs5, rfl, rfl, r5, r, hn⟩ := r.cons_inv hn
    obtain ⟨rfl, rfl⟩ := r.nil_inv hn
    refine ⟨[("string_1", c0), ("string_2", c1), ("len_1", c2), ("len_2", c3), ("start", c4), ("char_1_costs", c5)], BindsTo.of_eq (by rfl), fun n => kindsX (by rfl) (n + 1), ⟨_, rfl, ?_⟩, fun _ _ h => nomatch h⟩
    exact (.cons r0 (.cons r1 (.cons r2 (.cons r3 (.cons r4 (.cons r5 (.skip (.skip (.skip (.skip (.skip (.skip .nil))))))))))))

noncomputable def lvm_mm (vs : List PV) : Mo Fl := match argI 5 vs with | some m => lvm_m (.int m) | none => fun _ => none
def lvm_lp (vs : List PV) : List (Option PV) := match vs with | [v0, v1, v2, v3, v4, v5, v6] => [some v0, some v1, some v2, some v3, some v4, some v6, none, none, none, none, none, none, none, none, none, none] | _ => []
def lvm_cells (vs : List PV) : List (Str × FV) := match argI 5 vs with | some m => [("max_distance", .int m)] | none => []
noncomputable def lvm_fm : FM := fun vs mem => (lvm_mm vs ⟨lvm_lp vs, mem⟩).map fun r => (retV r.1, r.2.mem)

theorem lvm_fun {C : Cx} (O : C.Ok) (B : Base C) (rm : Room C 0) (FA : Facts C.K C.mg C.mb) : CodeFun C (.ref 764) 7 lvm_fm := by
  refine fn_fun O rm B FA.f_lvm rfl rfl rfl (names := lvm_names) (cells := lvm_cells) (m := lvm_mm) (lp := lvm_lp) (by decide +kernel) (by decide +kernel) ?_ ?_
  · intro vs C' fd S hs hg hb hc
    obtain ⟨gl, cells, qual, func, code, frame, blt, he⟩ := S.form hs
    have hC := Cx.form he S.names
    have O' := S.ok
    have FA' := S.facts FA
    have B' := S.base hg hb
    unfold lvm_mm
    unfold lvm_cells at hc
    cases hm : argI 5 vs with
    | none => exact EvB.no
    | some m => rw [hm] at hc; exact lvm_ok  (.int m) hC O' (S.builtin hs (by decide +kernel) FA.b_range) (hc _ _ (List.mem_singleton.mpr rfl))
  · intro fd e1 e2 e3 e4 φ s cvs vs X r hn
    obtain ⟨name, qn, ps, bd, sc, gl, clo, df, kd, doc, pm, an, cd, ct, bl⟩ := fd
    dsimp only at e1 e2 e3 e4
    subst e1; subst e2; subst e3; subst e4
    obtain ⟨c0, cs0, v0, vs0, rfl, rfl, r0, r, hn⟩ := r.cons_inv hn
    obtain ⟨c1, cs1, v1, vs1, rfl, rfl, r1, r, hn⟩ := r.cons_inv hn
    obtain ⟨c2, cs2, v2, vs2, rfl, rfl, r2, r, hn⟩ := r.cons_inv hn
    obtain ⟨c3, cs3, v3, vs3, rfl, rfl, r3, r, hn⟩ := r.cons_inv hn
    obtain ⟨c4, cs4, v4, vs4, rfl, rfl, r4, r, hn⟩ := r.cons_inv hn
    obtain ⟨c5, cs5, v5, vs5, rfl, rfl, r5, r, hn⟩ := r.cons_inv hn
    obtain ⟨c6, cs6, v6, vs6, rfl, rfl, r6, r, hn⟩ := r.cons_inv hn
    obtain ⟨rfl, rfl⟩ := r.nil_inv hn
    refine ⟨[("string_1", c0), ("string_2", c1), ("len_1", c2), ("len_2", c3), ("start", c4), ("max_distance", c5), ("char_1_costs", c6)], BindsTo.of_eq (by rfl), fun n => kindsX (by rfl) (n + 1), ⟨_, rfl, ?_⟩, fun x f h => ?_⟩
    · exact (.cons r0 (.cons r1 (.cons r2 (.cons r3 (.cons r4 (.cons r6 (.skip (.skip (.skip (.skip (.skip (.skip (.skip (.skip (.skip (.skip .nil))))))))))))))))
    · unfold lvm_cells at h
      cases hm : argI 5 [v0, v1, v2, v3, v4, v5, v6] with
      | none => rw [hm] at h; nomatch h
      | some m =>
        rw [hm] at h
        cases List.mem_singleton.mp h
        have e := argI_some hm
        have e : v5 = .fl (.int m) := Option.some.inj e
        subst e
        obtain ⟨t, rfl⟩ := r5
        exact ⟨by decide +kernel, fun n => ⟨_, _, rfl, rfl, t, rfl⟩⟩

noncomputable def osd_mm (vs : List PV) : Mo Fl := osd_m
def osd_lp (vs : List PV) : List (Option PV) := match vs with | [v0, v1, v2, v3, v4, v5, v6] => [some v0, some v1, some v2, some v3, some v4, some v5, some v6, none, none, none, none, none, none, none, none, none, none, none] | _ => []
def osd_cells (vs : List PV) : List (Str × FV) := []
noncomputable def osd_fm : FM := fun vs mem => (osd_mm vs ⟨osd_lp vs, mem⟩).map fun r => (retV r.1, r.2.mem)

theorem osd_fun {C : Cx} (O : C.Ok) (B : Base C) (rm : Room C 0) (FA : Facts C.K C.mg C.mb) : CodeFun C (.ref 796) 7 osd_fm := by
  refine fn_fun O rm B FA.f_osd rfl rfl rfl (names := osd_names) (cells := osd_cells) (m := osd_mm) (lp := osd_lp) (by decide +kernel) (by decide +kernel) ?_ ?_
  · intro vs C' fd S hs hg hb hc
    obtain ⟨gl, cells, qual, func, code, frame, blt, he⟩ := S.form hs
    have hC := Cx.form he S.names
    have O' := S.ok
    have FA' := S.facts FA
    have B' := S.base hg hb
    exact osd_ok  hC O' (S.builtin hs (by decide +kernel) FA.b_range)
  · intro fd e1 e2 e3 e4 φ s cvs vs X r hn
    obtain ⟨name, qn, ps, bd, sc, gl, clo, df, kd, doc, pm, an, cd, ct, bl⟩ := fd
    dsimp only at e1 e2 e3 e4
    subst e1; subst e2; subst e3; subst e4
    obtain ⟨c0, cs0, v0, vs0, rfl, rfl, r0, r, hn⟩ := r.cons_inv hn
    obtain ⟨c1, cs1, v1, vs1, rfl, rfl, r1, r, hn⟩ := r.cons_inv hn
    obtain ⟨c2, cs2, v2, vs2, rfl, rfl, r2, r, hn⟩ := r.cons_inv hn
    obtain ⟨c3, cs3, v3, vs3, rfl, rfl, r3, r, hn⟩ := r.cons_inv hn
    obtain ⟨c4, cs4, v4, vs4, rfl, rfl, r4, r, hn⟩ := r.cons_inv hn
    obtain ⟨c5, cs5, v5, vs5, rfl, rfl, r5, r, hn⟩ := r.cons_inv hn
    obtain ⟨c6, cs6, v6, vs6, rfl, rfl, r6, r, hn⟩ := r.cons_inv hn
    obtain ⟨rfl, rfl⟩ := r.nil_inv hn
    refine ⟨[("string_1", c0), ("string_2", c1), ("len_1", c2), ("len_2", c3), ("start", c4), ("char_1_costs", c5), ("prev_char_1_costs", c6)], BindsTo.of_eq (by rfl), fun n => kindsX (by rfl) (n + 1), ⟨_, rfl, ?_⟩, fun _ _ h => nomatch h⟩
    exact (.cons r0 (.cons r1 (.cons r2 (.cons r3 (.cons r4 (.cons r5 (.cons r6 (.skip (.skip (.skip (.skip (.skip (.skip (.skip (.skip (.skip (.skip (.skip .nil))))))))))))))))))

noncomputable def osm_mm (vs : List PV) : Mo Fl := match argI 5 vs with | some m => osm_m (.int m) | none => fun _ => none
def osm_lp (vs : List PV) : List (Option PV) := match vs with | [v0, v1, v2, v3, v4, v5, v6, v7] => [some v0, some v1, some v2, some v3, some v4, some v6, some v7, none, none, none, none, none, none, none, none, none, none, none, none, none, none, none] | _ => []
def osm_cells (vs : List PV) : List (Str × FV) := match argI 5 vs with | some m => [("max_distance", .int m)] | none => []
noncomputable def osm_fm : FM := fun vs mem => (osm_mm vs ⟨osm_lp vs, mem⟩).map fun r => (retV r.1, r.2.mem)

theorem osm_fun {C : Cx} (O : C.Ok) (B : Base C) (rm : Room C 0) (FA : Facts C.K C.mg C.mb) : CodeFun C (.ref 804) 8 osm_fm := by
  refine fn_fun O rm B FA.f_osm rfl rfl rfl (names := osm_names) (cells := osm_cells) (m := osm_mm) (lp := osm_lp) (by decide +kernel) (by decide +kernel) ?_ ?_
  · intro vs C' fd S hs hg hb hc
    obtain ⟨gl, cells, qual, func, code, frame, blt, he⟩ := S.form hs
    have hC := Cx.form he S.names
    have O' := S.ok
    have FA' := S.facts FA
    have B' := S.base hg hb
    unfold osm_mm
    unfold osm_cells at hc
    cases hm : argI 5 vs with
    | none => exact EvB.no
    | some m => rw [hm] at hc; exact osm_ok  (.int m) hC O' (S.builtin hs (by decide +kernel) FA.b_range) (hc _ _ (List.mem_singleton.mpr rfl))
  · intro fd e1 e2 e3 e4 φ s cvs vs X r hn
    obtain ⟨name, qn, ps, bd, sc, gl, clo, df, kd, doc, pm, an, cd, ct, bl⟩ := fd
    dsimp only at e1 e2 e3 e4
    subst e1; subst e2; subst e3; subst e4
    obtain ⟨c0, cs0, v0, vs0, rfl, rfl, r0, r, hn⟩ := r.cons_inv hn
    obtain ⟨c1, cs1, v1, vs1, rfl, rfl, r1, r, hn⟩ := r.cons_inv hn
    obtain ⟨c2, cs2, v2, vs2, rfl, rfl, r2, r, hn⟩ := r.cons_inv hn
    obtain ⟨c3, cs3, v3, vs3, rfl, rfl, r3, r, hn⟩ := r.cons_inv hn
    obtain ⟨c4, cs4, v4, vs4, rfl, rfl, r4, r, hn⟩ := r.cons_inv hn
    obtain ⟨c5, cs5, v5, vs5, rfl, rfl, r5, r, hn⟩ := r.cons_inv hn
    obtain ⟨c6, cs6, v6, vs6, rfl, rfl, r6, r, hn⟩ := r.cons_inv hn
    obtain ⟨c7, cs7, v7, vs7, rfl, rfl, r7, r, hn⟩ := r.cons_inv hn
    obtain ⟨rfl, rfl⟩ := r.nil_inv hn
    refine ⟨[("string_1", c0), ("string_2", c1), ("len_1", c2), ("len_2", c3), ("start", c4), ("max_distance", c5), ("char_1_costs", c6), ("prev_char_1_costs", c7)], BindsTo.of_eq (by rfl), fun n => kindsX (by rfl) (n + 1), ⟨_, rfl, ?_⟩, fun x f h => ?_⟩
    · exact (.cons r0 (.cons r1 (.cons r2 (.cons r3 (.cons r4 (.cons r6 (.cons r7 (.skip (.skip (.skip (.skip (.skip (.skip (.skip (.skip (.skip (.skip (.skip (.skip (.skip (.skip (.skip .nil))))))))))))))))))))))
    · unfold osm_cells at h
      cases hm : argI 5 [v0, v1, v2, v3, v4, v5, v6, v7] with
      | none => rw [hm] at h; nomatch h
      | some m =>
        rw [hm] at h
        cases List.mem_singleton.mp h
        have e := argI_some hm
        have e : v5 = .fl (.int m) := Option.some.inj e
        subst e
        obtain ⟨t, rfl⟩ := r5
        exact ⟨by decide +kernel, fun n => ⟨_, _, rfl, rfl, t, rfl⟩⟩

noncomputable def lvI_mm (vs : List PV) : Mo Fl := lvI_m
def lvI_lp (vs : List PV) : List (Option PV) := match vs with | [v0] => [some v0] | _ => []
def lvI_cells (vs : List PV) : List (Str × FV) := []
noncomputable def lvI_fm : FM := fun vs mem => (lvI_mm vs ⟨lvI_lp vs, mem⟩).map fun r => (retV r.1, r.2.mem)

theorem lvI_fun {C : Cx} (O : C.Ok) (B : Base C) (rm : Room C 0) (FA : Facts C.K C.mg C.mb) : CodeFun C (.ref 746) 1 lvI_fm := by
  refine fn_fun O rm B FA.f_lvI rfl rfl rfl (names := lvI_names) (cells := lvI_cells) (m := lvI_mm) (lp := lvI_lp) (by decide +kernel) (by decide +kernel) ?_ ?_
  · intro vs C' fd S hs hg hb hc
    obtain ⟨gl, cells, qual, func, code, frame, blt, he⟩ := S.form hs
    have hC := Cx.form he S.names
    have O' := S.ok
    have FA' := S.facts FA
    have B' := S.base hg hb
    exact lvI_ok  hC O' (fun cl h => by rw [List.mem_singleton.mp h]; exact FA'.st_770_base_char_1_costs)
  · intro fd e1 e2 e3 e4 φ s cvs vs X r hn
    obtain ⟨name, qn, ps, bd, sc, gl, clo, df, kd, doc, pm, an, cd, ct, bl⟩ := fd
    dsimp only at e1 e2 e3 e4
    subst e1; subst e2; subst e3; subst e4
    obtain ⟨c0, cs0, v0, vs0, rfl, rfl, r0, r, hn⟩ := r.cons_inv hn
    obtain ⟨rfl, rfl⟩ := r.nil_inv hn
    refine ⟨[("self", c0)], BindsTo.of_eq (by rfl), fun n => kindsX (by rfl) (n + 1), ⟨_, rfl, ?_⟩, fun _ _ h => nomatch h⟩
    exact (.cons r0 .nil)

noncomputable def lvD_mm (vs : List PV) : Mo Fl := lvD_m ndr_fm psp_fm (tab1 770 true lvm_fm) (tab1 770 true lvd_fm)
def lvD_lp (vs : List PV) : List (Option PV) := match vs with | [v0, v1, v2, v3] => [some v0, some v1, some v2, some v3, none, none, none] | _ => []
def lvD_cells (vs : List PV) : List (Str × FV) := []
noncomputable def lvD_fm : FM := fun vs mem => (lvD_mm vs ⟨lvD_lp vs, mem⟩).map fun r => (retV r.1, r.2.mem)

theorem lvD_fun {C : Cx} (O : C.Ok) (B : Base C) (rm : Room C 1) (FA : Facts C.K C.mg C.mb) : CodeFun C (.ref 751) 4 lvD_fm := by
  refine fn_fun O rm B FA.f_lvD rfl rfl rfl (names := lvD_names) (cells := lvD_cells) (m := lvD_mm) (lp := lvD_lp) (by decide +kernel) (by decide +kernel) ?_ ?_
  · intro vs C' fd S hs hg hb hc
    obtain ⟨gl, cells, qual, func, code, frame, blt, he⟩ := S.form hs
    have hC := Cx.form he S.names
    have O' := S.ok
    have FA' := S.facts FA
    have B' := S.base hg hb
    have rm' : Room C' 0 := S.room rm
    exact lvD_ok _ _ _ _  hC O' (S.global hs (by decide +kernel) FA.g_null_distance_results) FA'.k_ndr ((ndr_fun O' B' rm' FA').toFun O') (S.global hs (by decide +kernel) FA.g_prefix_suffix_prep) FA'.k_psp ((psp_fun O' B' rm' FA').toFun O') (fun cl h => by rw [List.mem_singleton.mp h]; exact FA'.at_770_base_char_1_costs) (fun cl h => by rw [List.mem_singleton.mp h]; exact FA'.st_770_base_char_1_costs) (tab1_ok (FA'.s_770_distance_max.meth ((lvm_fun O' B' rm' FA').toFun O'))) (tab1_ok (FA'.s_770_distance.meth ((lvd_fun O' B' rm' FA').toFun O'))) (S.builtin hs (by decide +kernel) FA.b_int) (S.builtin hs (by decide +kernel) FA.b_min) (S.builtin hs (by decide +kernel) FA.b_len) (S.builtin hs (by decide +kernel) FA.b_range)
  · intro fd e1 e2 e3 e4 φ s cvs vs X r hn
    obtain ⟨name, qn, ps, bd, sc, gl, clo, df, kd, doc, pm, an, cd, ct, bl⟩ := fd
    dsimp only at e1 e2 e3 e4
    subst e1; subst e2; subst e3; subst e4
    obtain ⟨c0, cs0, v0, vs0, rfl, rfl, r0, r, hn⟩ := r.cons_inv hn
    obtain ⟨c1, cs1, v1, vs1, rfl, rfl, r1, r, hn⟩ := r.cons_inv hn
    obtain ⟨c2, cs2, v2, vs2, rfl, rfl, r2, r, hn⟩ := r.cons_inv hn
    obtain ⟨c3, cs3, v3, vs3, rfl, rfl, r3, r, hn⟩ := r.cons_inv hn
    obtain ⟨rfl, rfl⟩ := r.nil_inv hn
    refine ⟨[("self", c0), ("string_1", c1), ("string_2", c2), ("max_distance", c3)], BindsTo.of_eq (by rfl), fun n => kindsX (by rfl) (n + 1), ⟨_, rfl, ?_⟩, fun _ _ h => nomatch h⟩
    exact (.cons r0 (.cons r1 (.cons r2 (.cons r3 (.skip (.skip (.skip .nil)))))))

noncomputable def osI_mm (vs : List PV) : Mo Fl := osI_m
def osI_lp (vs : List PV) : List (Option PV) := match vs with | [v0] => [some v0] | _ => []
def osI_cells (vs : List PV) : List (Str × FV) := []
noncomputable def osI_fm : FM := fun vs mem => (osI_mm vs ⟨osI_lp vs, mem⟩).map fun r => (retV r.1, r.2.mem)

theorem osI_fun {C : Cx} (O : C.Ok) (B : Base C) (rm : Room C 0) (FA : Facts C.K C.mg C.mb) : CodeFun C (.ref 786) 1 osI_fm := by
  refine fn_fun O rm B FA.f_osI rfl rfl rfl (names := osI_names) (cells := osI_cells) (m := osI_mm) (lp := osI_lp) (by decide +kernel) (by decide +kernel) ?_ ?_
  · intro vs C' fd S hs hg hb hc
    obtain ⟨gl, cells, qual, func, code, frame, blt, he⟩ := S.form hs
    have hC := Cx.form he S.names
    have O' := S.ok
    have FA' := S.facts FA
    have B' := S.base hg hb
    exact osI_ok  hC O' (fun cl h => by rw [List.mem_singleton.mp h]; exact FA'.st_810_base_char_1_costs) (fun cl h => by rw [List.mem_singleton.mp h]; exact FA'.st_810_base_prev_char_1_costs)
  · intro fd e1 e2 e3 e4 φ s cvs vs X r hn
    obtain ⟨name, qn, ps, bd, sc, gl, clo, df, kd, doc, pm, an, cd, ct, bl⟩ := fd
    dsimp only at e1 e2 e3 e4
    subst e1; subst e2; subst e3; subst e4
    obtain ⟨c0, cs0, v0, vs0, rfl, rfl, r0, r, hn⟩ := r.cons_inv hn
    obtain ⟨rfl, rfl⟩ := r.nil_inv hn
    refine ⟨[("self", c0)], BindsTo.of_eq (by rfl), fun n => kindsX (by rfl) (n + 1), ⟨_, rfl, ?_⟩, fun _ _ h => nomatch h⟩
    exact (.cons r0 .nil)

noncomputable def osD_mm (vs : List PV) : Mo Fl := osD_m ndr_fm psp_fm (tab1 810 true osm_fm) (tab1 810 true osd_fm)
def osD_lp (vs : List PV) : List (Option PV) := match vs with | [v0, v1, v2, v3] => [some v0, some v1, some v2, some v3, none, none, none] | _ => []
def osD_cells (vs : List PV) : List (Str × FV) := []
noncomputable def osD_fm : FM := fun vs mem => (osD_mm vs ⟨osD_lp vs, mem⟩).map fun r => (retV r.1, r.2.mem)

theorem osD_fun {C : Cx} (O : C.Ok) (B : Base C) (rm : Room C 1) (FA : Facts C.K C.mg C.mb) : CodeFun C (.ref 791) 4 osD_fm := by
  refine fn_fun O rm B FA.f_osD rfl rfl rfl (names := osD_names) (cells := osD_cells) (m := osD_mm) (lp := osD_lp) (by decide +kernel) (by decide +kernel) ?_ ?_
  · intro vs C' fd S hs hg hb hc
    obtain ⟨gl, cells, qual, func, code, frame, blt, he⟩ := S.form hs
    have hC := Cx.form he S.names
    have O' := S.ok
    have FA' := S.facts FA
    have B' := S.base hg hb
    have rm' : Room C' 0 := S.room rm
    exact osD_ok _ _ _ _  hC O' (S.global hs (by decide +kernel) FA.g_null_distance_results) FA'.k_ndr ((ndr_fun O' B' rm' FA').toFun O') (S.global hs (by decide +kernel) FA.g_prefix_suffix_prep) FA'.k_psp ((psp_fun O' B' rm' FA').toFun O') (fun cl h => by rw [List.mem_singleton.mp h]; exact FA'.at_810_base_char_1_costs) (fun cl h => by rw [List.mem_singleton.mp h]; exact FA'.st_810_base_char_1_costs) (fun cl h => by rw [List.mem_singleton.mp h]; exact FA'.st_810_base_prev_char_1_costs) (fun cl h => by rw [List.mem_singleton.mp h]; exact FA'.at_810_base_prev_char_1_costs) (tab1_ok (FA'.s_810_distance_max.meth ((osm_fun O' B' rm' FA').toFun O'))) (tab1_ok (FA'.s_810_distance.meth ((osd_fun O' B' rm' FA').toFun O'))) (S.builtin hs (by decide +kernel) FA.b_int) (S.builtin hs (by decide +kernel) FA.b_min) (S.builtin hs (by decide +kernel) FA.b_len) (S.builtin hs (by decide +kernel) FA.b_range)
  · intro fd e1 e2 e3 e4 φ s cvs vs X r hn
    obtain ⟨name, qn, ps, bd, sc, gl, clo, df, kd, doc, pm, an, cd, ct, bl⟩ := fd
    dsimp only at e1 e2 e3 e4
    subst e1; subst e2; subst e3; subst e4
    obtain ⟨c0, cs0, v0, vs0, rfl, rfl, r0, r, hn⟩ := r.cons_inv hn
    obtain ⟨c1, cs1, v1, vs1, rfl, rfl, r1, r, hn⟩ := r.cons_inv hn
    obtain ⟨c2, cs2, v2, vs2, rfl, rfl, r2, r, hn⟩ := r.cons_inv hn
    obtain ⟨c3, cs3, v3, vs3, rfl, rfl, r3, r, hn⟩ := r.cons_inv hn
    obtain ⟨rfl, rfl⟩ := r.nil_inv hn
    refine ⟨[("self", c0), ("string_1", c1), ("string_2", c2), ("max_distance", c3)], BindsTo.of_eq (by rfl), fun n => kindsX (by rfl) (n + 1), ⟨_, rfl, ?_⟩, fun _ _ h => nomatch h⟩
    exact (.cons r0 (.cons r1 (.cons r2 (.cons r3 (.skip (.skip (.skip .nil)))))))

noncomputable def edI_mm (vs : List PV) : Mo Fl := edI_m (makeF 770 lvI_fm) (makeF 810 osI_fm)
def edI_lp (vs : List PV) : List (Option PV) := match vs with | [v0, v1] => [some v0, some v1, some (.fl .none)] | _ => []
def edI_cells (vs : List PV) : List (Str × FV) := []
noncomputable def edI_fm : FM := fun vs mem => (edI_mm vs ⟨edI_lp vs, mem⟩).map fun r => (retV r.1, r.2.mem)

theorem edI_fun {C : Cx} (O : C.Ok) (B : Base C) (rm : Room C 1) (FA : Facts C.K C.mg C.mb) : CodeFun C (.ref 718) 2 edI_fm := by
  refine fn_fun O rm B FA.f_edI rfl rfl rfl (names := edI_names) (cells := edI_cells) (m := edI_mm) (lp := edI_lp) (by decide +kernel) (by decide +kernel) ?_ ?_
  · intro vs C' fd S hs hg hb hc
    obtain ⟨gl, cells, qual, func, code, frame, blt, he⟩ := S.form hs
    have hC := Cx.form he S.names
    have O' := S.ok
    have FA' := S.facts FA
    have B' := S.base hg hb
    have rm' : Room C' 0 := S.room rm
    exact edI_ok _ _  hC O' (fun cl h => by rw [List.mem_singleton.mp h]; exact FA'.st_728_algorithm) (S.global hs (by decide +kernel) FA.g_DistanceAlgorithm) FA'.en_read FA'.en_LEVENSHTEIN FA'.en_eq FA'.en_mem (S.global hs (by decide +kernel) FA.g_Levenshtein) FA'.c_770.keep (make_fun O' FA'.c_770.makes FA'.c_770.init FA'.c_770.fn (lvI_fun O' B' rm' FA')) (fun cl h => by rw [List.mem_singleton.mp h]; exact FA'.st_728_distance_comparer) FA'.en_DAMERAU_OSA (S.global hs (by decide +kernel) FA.g_DamerauOsa) FA'.c_810.keep (make_fun O' FA'.c_810.makes FA'.c_810.init FA'.c_810.fn (osI_fun O' B' rm' FA')) FA'.en_USER_PROVIDED
  · intro fd e1 e2 e3 e4 φ s cvs vs X r hn
    obtain ⟨name, qn, ps, bd, sc, gl, clo, df, kd, doc, pm, an, cd, ct, bl⟩ := fd
    dsimp only at e1 e2 e3 e4
    subst e1; subst e2; subst e3; subst e4
    obtain ⟨c0, cs0, v0, vs0, rfl, rfl, r0, r, hn⟩ := r.cons_inv hn
    obtain ⟨c1, cs1, v1, vs1, rfl, rfl, r1, r, hn⟩ := r.cons_inv hn
    obtain ⟨rfl, rfl⟩ := r.nil_inv hn
    obtain ⟨oc, od, dn, sl, hd⟩ := FA.d_edI
    refine ⟨[("self", c0), ("algorithm", c1), ("comparer", .none)], BindsTo.of_defaults (items := #[.none]) (n := dn) rfl (X _ _ hd) rfl (by rfl) (by rfl), fun n => kindsX (by rfl) (n + 1), ⟨_, rfl, ?_⟩, fun _ _ h => nomatch h⟩
    exact (.cons r0 (.cons r1 (.cons RV.none .nil)))

noncomputable def edC_mm (vs : List PV) : Mo Fl := edC_m (tab2 770 810 false lvD_fm osD_fm)
def edC_lp (vs : List PV) : List (Option PV) := match vs with | [v0, v1, v2, v3] => [some v0, some v1, some v2, some v3] | _ => []
def edC_cells (vs : List PV) : List (Str × FV) := []
noncomputable def edC_fm : FM := fun vs mem => (edC_mm vs ⟨edC_lp vs, mem⟩).map fun r => (retV r.1, r.2.mem)

theorem edC_fun {C : Cx} (O : C.Ok) (B : Base C) (rm : Room C 2) (FA : Facts C.K C.mg C.mb) : CodeFun C (.ref 725) 4 edC_fm := by
  refine fn_fun O rm B FA.f_edC rfl rfl rfl (names := edC_names) (cells := edC_cells) (m := edC_mm) (lp := edC_lp) (by decide +kernel) (by decide +kernel) ?_ ?_
  · intro vs C' fd S hs hg hb hc
    obtain ⟨gl, cells, qual, func, code, frame, blt, he⟩ := S.form hs
    have hC := Cx.form he S.names
    have O' := S.ok
    have FA' := S.facts FA
    have B' := S.base hg hb
    have rm' : Room C' 1 := S.room rm
    exact edC_ok _  hC O' (fun cl h => by rw [List.mem_singleton.mp h]; exact FA'.at_728_distance_comparer) (tab2_ok (FA'.p_770distance.meth ((lvD_fun O' B' rm' FA').toFun O')) (FA'.p_810distance.meth ((osD_fun O' B' rm' FA').toFun O')))
  · intro fd e1 e2 e3 e4 φ s cvs vs X r hn
    obtain ⟨name, qn, ps, bd, sc, gl, clo, df, kd, doc, pm, an, cd, ct, bl⟩ := fd
    dsimp only at e1 e2 e3 e4
    subst e1; subst e2; subst e3; subst e4
    obtain ⟨c0, cs0, v0, vs0, rfl, rfl, r0, r, hn⟩ := r.cons_inv hn
    obtain ⟨c1, cs1, v1, vs1, rfl, rfl, r1, r, hn⟩ := r.cons_inv hn
    obtain ⟨c2, cs2, v2, vs2, rfl, rfl, r2, r, hn⟩ := r.cons_inv hn
    obtain ⟨c3, cs3, v3, vs3, rfl, rfl, r3, r, hn⟩ := r.cons_inv hn
    obtain ⟨rfl, rfl⟩ := r.nil_inv hn
    refine ⟨[("self", c0), ("string_1", c1), ("string_2", c2), ("max_distance", c3)], BindsTo.of_eq (by rfl), fun n => kindsX (by rfl) (n + 1), ⟨_, rfl, ?_⟩, fun _ _ h => nomatch h⟩
    exact (.cons r0 (.cons r1 (.cons r2 (.cons r3 .nil))))

end Mine

/-! Ev6 -/
namespace Mine

theorem runM_ap (pf : List PV) (ms : List (Mo PV)) (m : FM) (st : St) : runM pf ms m st = match seqM ms st with | none => none | some (vs, s1) => match m (pf ++ vs) s1.mem with | none => none | some (v, mem') => some (v, ⟨s1.loc, mem'⟩) := by
  unfold runM bindM
  cases seqM ms st with
  | none => rfl
  | some q =>
    dsimp only
    cases m (pf ++ q.1) q.2.mem with
    | none => rfl
    | some r => rfl
theorem attrM_ap (cls : List Addr) (m : Mo PV) (name : Str) (st : St) : attrM cls m name st = match m st with | none => none | some (v, s1) => match attrF cls s1 name v with | none => none | some r => some (r, s1) := by
  unfold attrM bindM
  cases m st with
  | none => rfl
  | some q => dsimp only; cases attrF cls q.2 name q.1 <;> rfl
theorem attr_at {cls : List Addr} {l : List (Option PV)} {mem : List MO} {name : Str} {k kd : Nat} {cl : Addr} {fs : List (Str × FV)} {f : FV} (h1 : mem[k]? = some (.inst cl kd)) (h2 : cls.contains cl = true) (h3 : mem[kd]? = some (.adict fs)) (h4 : fs.lookup name = some f) :
    attrF cls ⟨l, mem⟩ name (.fl (.ref k)) = some (.fl f) := by
  unfold attrF
  simp only [h1, h2, if_true, h3, h4, Option.map_some]
theorem intM_ap (m : Mo PV) (st : St) : intM m st = match m st with | some (.fl (.int i), s1) => some (.fl (.int i), s1) | _ => none := by
  unfold intM bindM
  cases m st with
  | none => rfl
  | some q => obtain ⟨v, s⟩ := q; cases v with | fl f => cases f <;> rfl | tup fs => rfl
theorem binX_ap (op : Operator) (ml mr : Mo PV) (st : St) : binX op ml mr st = match ml st with | none => none | some (a, s1) => match mr s1 with | none => none | some (b, s2) => match binG op a b with | none => none | some c => some (c, s2) := by
  unfold binX bindM liftO
  cases ml st with
  | none => rfl
  | some q =>
    dsimp only
    cases mr q.2 with
    | none => rfl
    | some r => dsimp only; cases binG op q.1 r.1 <;> rfl
theorem setLs_nil_ap (st : St) : setLs [] [] st = some ((), st) := rfl
theorem setLs_cons_ap (k : Nat) (ks : List Nat) (f : FV) (fs : List FV) (l : List (Option PV)) (mem : List MO) : setLs (k :: ks) (f :: fs) ⟨l, mem⟩ = setLs ks fs ⟨l.set k (some (.fl f)), mem⟩ := rfl
theorem tupTg_ap (ks : List Nat) (fs : List FV) (st : St) : tupTg ks (.tup fs) st = setLs ks fs st := rfl
theorem asgSw_ap (m : Mo PV) (ks : List Nat) (st : St) : asgSw m ks st = match m st with | some (.tup fs, s1) => (match setLs ks fs.reverse s1 with | none => none | some (_, s2) => some (.next, s2)) | _ => none := by
  unfold asgSw bindM
  cases m st with
  | none => rfl
  | some q =>
    obtain ⟨v, s⟩ := q
    cases v with
    | fl f => rfl
    | tup fs => dsimp only; cases setLs ks fs.reverse s <;> rfl
theorem setAttrM_ap (cls : List Addr) (mo : Mo PV) (name : Str) (v : PV) (st : St) : setAttrM cls mo name v st = match mo st with | none => none | some (o, s1) => match setAttrF cls name v o s1 with | none => none | some s2 => some ((), s2) := by
  unfold setAttrM bindM
  cases mo st with
  | none => rfl
  | some q => dsimp only; cases setAttrF cls name v q.1 q.2 <;> rfl
theorem setAttr_at {cls : List Addr} {l : List (Option PV)} {mem : List MO} {name : Str} {k kd : Nat} {cl : Addr} {fs : List (Str × FV)} {f : FV} (h1 : mem[k]? = some (.inst cl kd)) (h2 : cls.contains cl = true) (h3 : mem[kd]? = some (.adict fs)) (h4 : fs.length < 100) :
    setAttrF cls name (.fl f) (.fl (.ref k)) ⟨l, mem⟩ = some ⟨l, mem.set kd (.adict (putF name f fs))⟩ := by
  unfold setAttrF
  simp only [h1, h2, if_true, h3, h4]
  rfl
/-- a method of an own instance -/
theorem meth_at {tab : Addr → Option (Bool × FM)} {mo : Mo PV} {name : Str} {ms : List (Mo PV)} {st s1 : St} {k kd : Nat} {cl : Addr} {fs : List (Str × FV)} {b : Bool} {m : FM} (h0 : mo st = some (.fl (.ref k), s1)) (h1 : s1.mem[k]? = some (.inst cl kd)) (h3 : s1.mem[kd]? = some (.adict fs))
    (h4 : fs.lookup name = none) (h5 : tab cl = some (b, m)) : methM tab mo name ms st = runM (if b then [] else [.fl (.ref k)]) ms m s1 := by
  unfold methM bindM
  rw [h0]
  simp only [h1, h3, h4, h5]
  cases b <;> rfl

theorem cmp_is_nn : cmpF .Is (.fl .none) (.fl .none) = some true := rfl
theorem cmp_is_sn (s : Str) : cmpF .Is (.fl (.str s)) (.fl .none) = some false := rfl
theorem cmp_eq_s (a b : Str) : cmpF .Eq (.fl (.str a)) (.fl (.str b)) = some (a == b) := rfl
theorem min_ints (st : St) (a b : Int) : bltF st "min" [.fl (.int a), .fl (.int b)] = some (.fl (.int (min a b))) := rfl

/-! the leaves -/
/-- a lone text's answer -/
def lone (n : Nat) (lim : Int) : Int := if (n : Int) ≤ lim then n else -1
theorem ndr_nn (lim : Int) (mem : List MO) : ndr_fm [.fl .none, .fl .none, .fl (.int lim)] mem = some (.fl (.int 0), mem) := by
  unfold ndr_fm ndr_mm ndr_m ndr_lp
  simp only [getL_ap, setL_ap, cst_ap, binM_ap, cmpM_ap, andM_nil_ap, andM_cons_ap, orM_nil_ap, orM_cons_ap, iteM_ap, asg1_ap, asg2_ap, augM_ap, blkM_nil_ap, blkM_cons_ap, retM_ap, tupM_ap, seqM_nil_ap, seqM_cons_ap, flatL, subM_ap, subF_str, subF_list, setItemM_ap, setItemF_list, bltM_ap, blt_len_s, bin_add, bin_sub, cmp_eq_i, cmp_ne_i, cmp_lt_i, cmp_le_i, cmp_gt_i, cmp_ge_i, cmp_eq_c, cmp_ne_c, pd_True, pd_False, cmp_is_nn, List.getElem?_cons_succ, List.getElem?_cons_zero, if_true, Option.map_some, retV]
theorem ndr_ns (b : Str) (hb : b.length < 2 ^ 61) (lim : Int) (mem : List MO) : ndr_fm [.fl .none, .fl (.str b), .fl (.int lim)] mem = some (.fl (.int (lone b.length lim)), mem) := by
  have h : b.length < 4611686018427387904 := by omega
  unfold ndr_fm ndr_mm ndr_m ndr_lp lone
  by_cases hl : (b.length : Int) ≤ lim
  · simp [getL_ap, setL_ap, cst_ap, binM_ap, cmpM_ap, andM_nil_ap, andM_cons_ap, orM_nil_ap, orM_cons_ap, iteM_ap, asg1_ap, asg2_ap, augM_ap, blkM_nil_ap, blkM_cons_ap, retM_ap, tupM_ap, seqM_nil_ap, seqM_cons_ap, flatL, subM_ap, subF_str, subF_list, setItemM_ap, setItemF_list, bltM_ap, blt_len_s, bin_add, bin_sub, cmp_eq_i, cmp_ne_i, cmp_lt_i, cmp_le_i, cmp_gt_i, cmp_ge_i, cmp_eq_c, cmp_ne_c, pd_True, pd_False, cmp_is_nn, cmp_is_sn, h, hl, retV]
  · simp [getL_ap, setL_ap, cst_ap, binM_ap, cmpM_ap, andM_nil_ap, andM_cons_ap, orM_nil_ap, orM_cons_ap, iteM_ap, asg1_ap, asg2_ap, augM_ap, blkM_nil_ap, blkM_cons_ap, retM_ap, tupM_ap, seqM_nil_ap, seqM_cons_ap, flatL, subM_ap, subF_str, subF_list, setItemM_ap, setItemF_list, bltM_ap, blt_len_s, bin_add, bin_sub, cmp_eq_i, cmp_ne_i, cmp_lt_i, cmp_le_i, cmp_gt_i, cmp_ge_i, cmp_eq_c, cmp_ne_c, pd_True, pd_False, cmp_is_nn, cmp_is_sn, h, hl, retV]
theorem ndr_sn (a : Str) (ha : a.length < 2 ^ 61) (lim : Int) (mem : List MO) : ndr_fm [.fl (.str a), .fl .none, .fl (.int lim)] mem = some (.fl (.int (lone a.length lim)), mem) := by
  have h : a.length < 4611686018427387904 := by omega
  unfold ndr_fm ndr_mm ndr_m ndr_lp lone
  by_cases hl : (a.length : Int) ≤ lim
  · simp [getL_ap, setL_ap, cst_ap, binM_ap, cmpM_ap, andM_nil_ap, andM_cons_ap, orM_nil_ap, orM_cons_ap, iteM_ap, asg1_ap, asg2_ap, augM_ap, blkM_nil_ap, blkM_cons_ap, retM_ap, tupM_ap, seqM_nil_ap, seqM_cons_ap, flatL, subM_ap, subF_str, subF_list, setItemM_ap, setItemF_list, bltM_ap, blt_len_s, bin_add, bin_sub, cmp_eq_i, cmp_ne_i, cmp_lt_i, cmp_le_i, cmp_gt_i, cmp_ge_i, cmp_eq_c, cmp_ne_c, pd_True, pd_False, cmp_is_nn, cmp_is_sn, h, hl, retV]
  · simp [getL_ap, setL_ap, cst_ap, binM_ap, cmpM_ap, andM_nil_ap, andM_cons_ap, orM_nil_ap, orM_cons_ap, iteM_ap, asg1_ap, asg2_ap, augM_ap, blkM_nil_ap, blkM_cons_ap, retM_ap, tupM_ap, seqM_nil_ap, seqM_cons_ap, flatL, subM_ap, subF_str, subF_list, setItemM_ap, setItemF_list, bltM_ap, blt_len_s, bin_add, bin_sub, cmp_eq_i, cmp_ne_i, cmp_lt_i, cmp_le_i, cmp_gt_i, cmp_ge_i, cmp_eq_c, cmp_ne_c, pd_True, pd_False, cmp_is_nn, cmp_is_sn, h, hl, retV]
theorem len_toList (s : Str) : s.length = s.cps.toList.length := by simp [Str.length]
theorem psp_call (s1 s2 : Str) (mem : List MO) (hab : s1.length ≤ s2.length) (hlb : s2.length < 2 ^ 61) :
    ∃ a' b' p q, Trim s1.cps.toList s2.cps.toList a' b' p q ∧ psp_fm [.fl (.str s1), .fl (.str s2)] mem = some (.tup [.int a'.length, .int b'.length, .int p.length], mem) := by
  obtain ⟨a', b', p, q, ht, l, hl⟩ := psp_eval s1 s2 mem s1.cps.toList s2.cps.toList rfl rfl (by rw [← len_toList, ← len_toList]; exact hab) (by rw [← len_toList]; exact hlb)
  refine ⟨a', b', p, q, ht, ?_⟩
  rw [← len_toList s1] at hl
  unfold psp_fm psp_mm psp_lp
  dsimp only
  rw [hl]; rfl
/-- where the trimmed text lies -/
theorem mid_get {s : Str} {p a' q : List Nat} (h : s.cps.toList = p ++ a' ++ q) (j : Nat) (y : Nat) (hy : a'[j]? = some y) : s.cps[p.length + j]? = some y := by
  rw [cps_get, h, List.append_assoc, List.getElem?_append_right (by omega), Nat.add_sub_cancel_left]
  have hj := (List.getElem?_eq_some_iff.mp hy).1
  rw [List.getElem?_append_left hj]; exact hy
theorem lvd_call {s1 s2 : Str} {A B : List Nat} {st : Nat} (hA : ∀ (j : Nat) y, A[j]? = some y → s1.cps[st + j]? = some y) (hB : ∀ (j : Nat) y, B[j]? = some y → s2.cps[st + j]? = some y) (hla : A.length ≤ 1000) (hlen : B.length ≤ 1000) (hst : st ≤ 1000) (hA0 : 0 < A.length) (hB0 : 0 < B.length)
    (v5 : PV) (mem : List MO) : ∃ row, lvd_fm [.fl (.str s1), .fl (.str s2), .fl (.int A.length), .fl (.int B.length), .fl (.int st), v5] mem = some (.fl (.int (dist false A B)), mem ++ [row]) := by
  obtain ⟨l, row, h⟩ := lvd_eval (x5 := some v5) (x6 := none) (x7 := none) (x8 := none) (x9 := none) (x10 := none) (x11 := none) (mem := mem) hA hB hla hlen hst hA0 hB0
  refine ⟨row, ?_⟩
  unfold lvd_fm lvd_mm lvd_lp
  dsimp only
  rw [h]; rfl
theorem lvm_call {s1 s2 : Str} {A B : List Nat} {st m d : Nat} (b : Band A B m d) (hA : ∀ (j : Nat) y, A[j]? = some y → s1.cps[st + j]? = some y) (hB : ∀ (j : Nat) y, B[j]? = some y → s2.cps[st + j]? = some y) (hla : A.length ≤ 1000) (hlen : B.length ≤ 1000) (hst : st ≤ 1000)
    (v5 : PV) (mem : List MO) : ∃ row, lvm_fm [.fl (.str s1), .fl (.str s2), .fl (.int A.length), .fl (.int B.length), .fl (.int st), .fl (.int m), v5] mem = some (.fl (.int (bandR m (dist false A B))), mem ++ [row]) := by
  obtain ⟨l, row, h⟩ := lvm_eval b (x5 := some v5) (x6 := none) (x7 := none) (x8 := none) (x9 := none) (x10 := none) (x11 := none) (x12 := none) (x13 := none) (x14 := none) (x15 := none) (mem := mem) hA hB hla hlen hst
  refine ⟨row, ?_⟩
  unfold lvm_fm lvm_mm lvm_lp argI
  dsimp only [List.getElem?_cons_succ, List.getElem?_cons_zero]
  rw [h]; rfl
theorem osd_call {s1 s2 : Str} {A B : List Nat} {st : Nat} (hA : ∀ (j : Nat) y, A[j]? = some y → s1.cps[st + j]? = some y) (hB : ∀ (j : Nat) y, B[j]? = some y → s2.cps[st + j]? = some y) (hla : A.length ≤ 1000) (hlen : B.length ≤ 1000) (hst : st ≤ 1000) (hA0 : 0 < A.length) (hB0 : 0 < B.length)
    (v5 : PV) {mem : List MO} {kp : Nat} {prow : List PV} (hkp : mem[kp]? = some (.list prow)) (hpl : B.length ≤ prow.length) (hpi : ∀ k : Nat, k < prow.length → ∃ v, prow[k]? = some (.fl (.int v))) :
    ∃ row prow', osd_fm [.fl (.str s1), .fl (.str s2), .fl (.int A.length), .fl (.int B.length), .fl (.int st), v5, .fl (.ref kp)] mem = some (.fl (.int (dist true A B)), mem.set kp (.list prow') ++ [row]) ∧ prow'.length = prow.length ∧ ∀ k : Nat, k < prow'.length → ∃ v, prow'[k]? = some (.fl (.int v)) := by
  obtain ⟨l, row, prow', h, h2, h3⟩ := osd_eval (x5 := some v5) (x7 := none) (x8 := none) (x9 := none) (x10 := none) (x11 := none) (x12 := none) (x13 := none) (x14 := none) (x15 := none) (x16 := none) (x17 := none) hA hB hla hlen hst hA0 hB0 hkp hpl hpi
  refine ⟨row, prow', ?_, h2, h3⟩
  unfold osd_fm osd_mm osd_lp
  dsimp only
  rw [h]; rfl
theorem osm_call {s1 s2 : Str} {A B : List Nat} {st m d : Nat} (b : Band A B m d) (hA : ∀ (j : Nat) y, A[j]? = some y → s1.cps[st + j]? = some y) (hB : ∀ (j : Nat) y, B[j]? = some y → s2.cps[st + j]? = some y) (hla : A.length ≤ 1000) (hlen : B.length ≤ 1000) (hst : st ≤ 1000)
    (v5 : PV) {mem : List MO} {kp : Nat} {prow : List PV} (hkp : mem[kp]? = some (.list prow)) (hpl : B.length ≤ prow.length) (hpi : ∀ k : Nat, k < prow.length → ∃ v, prow[k]? = some (.fl (.int v))) :
    ∃ row prow', osm_fm [.fl (.str s1), .fl (.str s2), .fl (.int A.length), .fl (.int B.length), .fl (.int st), .fl (.int m), v5, .fl (.ref kp)] mem = some (.fl (.int (bandR m (dist true A B))), mem.set kp (.list prow') ++ [row]) ∧ prow'.length = prow.length ∧ ∀ k : Nat, k < prow'.length → ∃ v, prow'[k]? = some (.fl (.int v)) := by
  obtain ⟨l, row, prow', h, h2, h3⟩ := osm_eval b (x5 := some v5) (x7 := none) (x8 := none) (x9 := none) (x10 := none) (x11 := none) (x12 := none) (x13 := none) (x14 := none) (x15 := none) (x16 := none) (x17 := none) (x18 := none) (x19 := none) (x20 := none) (x21 := none) hA hB hla hlen hst hkp hpl hpi
  refine ⟨row, prow', ?_, h2, h3⟩
  unfold osm_fm osm_mm osm_lp argI
  dsimp only [List.getElem?_cons_succ, List.getElem?_cons_zero]
  rw [h]; rfl
end Mine

/-! Ev7 -/
namespace Mine

/-- a Levenshtein comparer in the memory -/
structure CompL (c cd b : Nat) (mem : List MO) : Prop where
  inst : mem[c]? = some (.inst 770 cd)
  dict : mem[cd]? = some (.adict [("_base_char_1_costs", .ref b)])
  base : ∃ bs, mem[b]? = some (.list bs) ∧ bs.length ≤ 1000

theorem CompL.c_ne {c cd b mem} (h : CompL c cd b mem) : c ≠ cd := fun e => by have := h.inst; rw [e, h.dict] at this; cases this
theorem CompL.b_ne {c cd b mem} (h : CompL c cd b mem) : b ≠ cd := fun e => by obtain ⟨bs, h1, _⟩ := h.base; rw [e, h.dict] at h1; cases h1

theorem get_snoc_old {m : List MO} {k : Nat} {x y : MO} (h : m[k]? = some x) : (m ++ [y])[k]? = some x := by
  rw [List.getElem?_append_left (List.getElem?_eq_some_iff.mp h).1]; exact h
theorem CompL.snoc {c cd b mem} (h : CompL c cd b mem) (x : MO) : CompL c cd b (mem ++ [x]) :=
  ⟨get_snoc_old h.inst, get_snoc_old h.dict, let ⟨bs, h1, h2⟩ := h.base; ⟨bs, get_snoc_old h1, h2⟩⟩

/-- what a call leaves of the memory -/
structure Frame (own own' : List Nat) (mem mem' : List MO) : Prop where
  len : mem.length ≤ mem'.length
  keep : ∀ j, j < mem.length → j ∉ own → mem'[j]? = mem[j]?
  own : ∀ j ∈ own', j ∈ own ∨ mem.length ≤ j
theorem Frame.snoc (own : List Nat) (mem : List MO) (x : MO) : Frame own own mem (mem ++ [x]) :=
  ⟨by simp, fun j hj _ => List.getElem?_append_left hj, fun j hj => .inl hj⟩
theorem Frame.refl (own : List Nat) (mem : List MO) : Frame own own mem mem := ⟨Nat.le_refl _, fun _ _ _ => rfl, fun j hj => .inl hj⟩
theorem Frame.trans {o1 o2 o3 : List Nat} {m1 m2 m3 : List MO} (x : Frame o1 o2 m1 m2) (y : Frame o2 o3 m2 m3) : Frame o1 o3 m1 m3 := by
  refine ⟨Nat.le_trans x.len y.len, fun j hj hn => ?_, fun j hj => ?_⟩
  · rw [y.keep j (Nat.lt_of_lt_of_le hj x.len) (fun h => (x.own j h).elim hn (fun h => absurd hj (Nat.not_lt.mpr h)))]
    exact x.keep j hj hn
  · rcases y.own j hj with h | h
    · exact x.own j h
    · exact .inr (Nat.le_trans x.len h)

noncomputable def lvD_s7 : Mo Fl := (iteM (cmpM .Gt (getL 5) (bltM "len" [(attrM [770] (getL 0) "_base_char_1_costs")])) (blkM [(asg1 (compM [(getL 5)] (cst (.fl (.int 0)))) (setAttrM [770] (getL 0) "_base_char_1_costs"))]) (blkM []))
/-- the kept list is made longer -/
theorem lvD_grow {c cd b n : Nat} {mem : List MO} {l1 l2 l3 l4 l6 : Option PV} (h : CompL c cd b mem) (hn : n ≤ 1000) :
    ∃ b' mem', CompL c cd b' mem' ∧ Frame [cd, b] [cd, b'] mem mem' ∧
      lvD_s7 ⟨[sR c, l1, l2, l3, l4, sI n, l6], mem⟩ = some (.next, ⟨[sR c, l1, l2, l3, l4, sI n, l6], mem'⟩) := by
  obtain ⟨bs, h1, h2⟩ := h.base
  have ha := fun l => attr_at (cls := [770]) (l := l) (name := "_base_char_1_costs") h.inst (by decide) h.dict (f := .ref b) rfl
  have hl : ∀ st : St, st.mem = mem → bltF st "len" [.fl (.ref b)] = some (.fl (.int bs.length)) := fun st e => by
    show (match st.mem[b]? with | some (.list xs) => if pd (xs.length < 2 ^ 62) = true then some (PV.fl (.int xs.length)) else none | _ => none) = _
    rw [e, h1]
    show (if pd (bs.length < 2 ^ 62) = true then _ else _) = _
    rw [if_pos (pd_true (by omega))]
  by_cases hg : bs.length < n
  · have hcomp : compL (cst (.fl (.int 0))) n 0 = some ((List.range n).map fun _ => .fl (.int 0)) := by
      rw [compL_all (g := fun _ => .int 0) (fun _ => rfl) n 0 (fun k hk => rfl)]
    have hn1 : n ≤ 1048576 := by omega
    refine ⟨mem.length, (mem ++ [MO.list ((List.range n).map fun _ => .fl (.int 0))]).set cd (.adict [("_base_char_1_costs", .ref mem.length)]), ?_, ?_, ?_⟩
    · have hs := h.snoc (.list ((List.range n).map fun _ => .fl (.int 0)))
      refine ⟨?_, ?_, (List.range n).map fun _ => .fl (.int 0), ?_, by simpa using hn⟩
      · rw [List.getElem?_set_ne (Ne.symm h.c_ne)]; exact hs.inst
      · exact List.getElem?_set_self (List.getElem?_eq_some_iff.mp hs.dict).1
      · have hne : cd ≠ mem.length := Nat.ne_of_lt (List.getElem?_eq_some_iff.mp h.dict).1
        rw [List.getElem?_set_ne hne]; simp
    · refine ⟨by simp, fun j hj hn => ?_, fun j hj => ?_⟩
      · rw [List.getElem?_set_ne (fun e => hn (by rw [e]; exact List.mem_cons_self)), List.getElem?_append_left hj]
      · rcases List.mem_cons.mp hj with rfl | hj
        · exact .inl List.mem_cons_self
        · rw [List.mem_singleton.mp hj]; exact .inr (Nat.le_refl _)
    · have hs := h.snoc (.list ((List.range n).map fun _ => .fl (.int 0)))
      have hset := fun l => setAttr_at (cls := [770]) (l := l) (name := "_base_char_1_costs") (f := .ref mem.length) hs.inst (by decide) hs.dict (by simp)
      have e1 : putF "_base_char_1_costs" (.ref mem.length) [(Str.ofString "_base_char_1_costs", FV.ref b)] = [(Str.ofString "_base_char_1_costs", FV.ref mem.length)] := rfl
      simp only [e1] at hset
      have hg' : (bs.length : Int) < n := by omega
      unfold lvD_s7
      simp [getL_ap, setL_ap, cst_ap, binM_ap, cmpM_ap, andM_nil_ap, andM_cons_ap, orM_nil_ap, orM_cons_ap, iteM_ap, asg1_ap, asg2_ap, augM_ap, blkM_nil_ap, blkM_cons_ap, retM_ap, tupM_ap, seqM_nil_ap, seqM_cons_ap, flatL, subM_ap, subF_str, subF_list, setItemM_ap, setItemF_list, bltM_ap, blt_len_s, bin_add, bin_sub, cmp_eq_i, cmp_ne_i, cmp_lt_i, cmp_le_i, cmp_gt_i, cmp_ge_i, cmp_eq_c, cmp_ne_c, pd_True, pd_False, runM_ap, attrM_ap, intM_ap, binX_ap, asgSw_ap, tupTg_ap, setLs_nil_ap, setLs_cons_ap, setAttrM_ap, cmp_is_nn, cmp_is_sn, min_ints, ha, hl, hg', hg, compM_ap, rng1 n (by omega), hn1, hcomp, newL_ap, hset]
  · refine ⟨b, mem, h, Frame.refl _ _, ?_⟩
    unfold lvD_s7
    simp [getL_ap, setL_ap, cst_ap, binM_ap, cmpM_ap, andM_nil_ap, andM_cons_ap, orM_nil_ap, orM_cons_ap, iteM_ap, asg1_ap, asg2_ap, augM_ap, blkM_nil_ap, blkM_cons_ap, retM_ap, tupM_ap, seqM_nil_ap, seqM_cons_ap, flatL, subM_ap, subF_str, subF_list, setItemM_ap, setItemF_list, bltM_ap, blt_len_s, bin_add, bin_sub, cmp_eq_i, cmp_ne_i, cmp_lt_i, cmp_le_i, cmp_gt_i, cmp_ge_i, cmp_eq_c, cmp_ne_c, pd_True, pd_False, runM_ap, attrM_ap, intM_ap, binX_ap, asgSw_ap, tupTg_ap, setLs_nil_ap, setLs_cons_ap, setAttrM_ap, cmp_is_nn, cmp_is_sn, min_ints, ha, hl, hg]

theorem Trim.lens {a b a' b' p q : List Nat} (h : Trim a b a' b' p q) : a.length = p.length + a'.length + q.length ∧ b.length = p.length + b'.length + q.length := by
  have h1 := congrArg List.length h.left
  have h2 := congrArg List.length h.right
  simp only [List.length_append] at h1 h2
  exact ⟨h1, h2⟩

theorem lvD_rest {c cd b : Nat} {mem : List MO} (h : CompL c cd b mem) {s1 s2 : Str} (hab : s1.length ≤ s2.length) (hlb : s2.length ≤ 1000) (m : Nat) :
    ∃ l b' mem', CompL c cd b' mem' ∧ Frame [cd, b] [cd, b'] mem mem' ∧
      blkM [(iteM (cmpM .Gt (binM .Sub (bltM "len" [(getL 2)]) (bltM "len" [(getL 1)])) (getL 3)) (blkM [(retM (cst (.fl (.int (-1)))))]) (blkM [])), (asg1 (runM [] [(getL 1), (getL 2)] psp_fm) (tupTg [4, 5, 6])), (iteM (cmpM .Eq (getL 4) (cst (.fl (.int 0)))) (blkM [(retM (iteM (cmpM .LtE (getL 5) (getL 3)) (getL 5) (cst (.fl (.int (-1))))))]) (blkM [])), lvD_s7, (iteM (cmpM .Lt (getL 3) (getL 5)) (blkM [(retM (methM (tab1 770 true lvm_fm) (getL 0) "_distance_max" [(getL 1), (getL 2), (getL 4), (getL 5), (getL 6), (getL 3), (attrM [770] (getL 0) "_base_char_1_costs")]))]) (blkM [])), (retM (methM (tab1 770 true lvd_fm) (getL 0) "_distance" [(getL 1), (getL 2), (getL 4), (getL 5), (getL 6), (attrM [770] (getL 0) "_base_char_1_costs")]))] ⟨[sR c, sS s1, sS s2, sI m, none, none, none], mem⟩ = some (.ret (.fl (.int (bandR m (dist false s1.cps.toList s2.cps.toList)))), ⟨l, mem'⟩) := by
  have hl1 : s1.length < 4611686018427387904 := by omega
  have hl2 : s2.length < 4611686018427387904 := by omega
  have hlen := dist_len (sw := false) s1.cps.toList s2.cps.toList
  rw [← len_toList, ← len_toList] at hlen
  by_cases hd : (m : Int) < (s2.length : Int) - s1.length
  · refine ⟨[sR c, sS s1, sS s2, sI m, none, none, none], b, mem, h, Frame.refl _ _, ?_⟩
    have hb : bandR m (dist false s1.cps.toList s2.cps.toList) = -1 := by unfold bandR; rw [if_neg (by omega)]
    rw [hb]
    simp [getL_ap, setL_ap, cst_ap, binM_ap, cmpM_ap, andM_nil_ap, andM_cons_ap, orM_nil_ap, orM_cons_ap, iteM_ap, asg1_ap, asg2_ap, augM_ap, blkM_nil_ap, blkM_cons_ap, retM_ap, tupM_ap, seqM_nil_ap, seqM_cons_ap, flatL, subM_ap, subF_str, subF_list, setItemM_ap, setItemF_list, bltM_ap, blt_len_s, bin_add, bin_sub, cmp_eq_i, cmp_ne_i, cmp_lt_i, cmp_le_i, cmp_gt_i, cmp_ge_i, cmp_eq_c, cmp_ne_c, pd_True, pd_False, runM_ap, attrM_ap, intM_ap, binX_ap, asgSw_ap, tupTg_ap, setLs_nil_ap, setLs_cons_ap, setAttrM_ap, cmp_is_nn, cmp_is_sn, min_ints, hl1, hl2, hd]
  obtain ⟨a', b1, p, q, ht, hp⟩ := psp_call s1 s2 mem hab (by omega)
  have hlens := ht.lens
  rw [← len_toList, ← len_toList] at hlens
  have hdist := ht.dist (sw := false)
  by_cases h0 : a'.length = 0
  · have ha0 : a' = [] := List.length_eq_zero_iff.mp h0
    refine ⟨[sR c, sS s1, sS s2, sI m, sI a'.length, sI b1.length, sI p.length], b, mem, h, Frame.refl _ _, ?_⟩
    have hb : bandR m (dist false s1.cps.toList s2.cps.toList) = if b1.length ≤ m then (b1.length : Int) else -1 := by rw [hdist, ha0, dist_nil_left]; rfl
    rw [hb]
    by_cases hle : b1.length ≤ m
    · simp [getL_ap, setL_ap, cst_ap, binM_ap, cmpM_ap, andM_nil_ap, andM_cons_ap, orM_nil_ap, orM_cons_ap, iteM_ap, asg1_ap, asg2_ap, augM_ap, blkM_nil_ap, blkM_cons_ap, retM_ap, tupM_ap, seqM_nil_ap, seqM_cons_ap, flatL, subM_ap, subF_str, subF_list, setItemM_ap, setItemF_list, bltM_ap, blt_len_s, bin_add, bin_sub, cmp_eq_i, cmp_ne_i, cmp_lt_i, cmp_le_i, cmp_gt_i, cmp_ge_i, cmp_eq_c, cmp_ne_c, pd_True, pd_False, runM_ap, attrM_ap, intM_ap, binX_ap, asgSw_ap, tupTg_ap, setLs_nil_ap, setLs_cons_ap, setAttrM_ap, cmp_is_nn, cmp_is_sn, min_ints, hl1, hl2, hd, hp, h0, hle]
    · simp [getL_ap, setL_ap, cst_ap, binM_ap, cmpM_ap, andM_nil_ap, andM_cons_ap, orM_nil_ap, orM_cons_ap, iteM_ap, asg1_ap, asg2_ap, augM_ap, blkM_nil_ap, blkM_cons_ap, retM_ap, tupM_ap, seqM_nil_ap, seqM_cons_ap, flatL, subM_ap, subF_str, subF_list, setItemM_ap, setItemF_list, bltM_ap, blt_len_s, bin_add, bin_sub, cmp_eq_i, cmp_ne_i, cmp_lt_i, cmp_le_i, cmp_gt_i, cmp_ge_i, cmp_eq_c, cmp_ne_c, pd_True, pd_False, runM_ap, attrM_ap, intM_ap, binX_ap, asgSw_ap, tupTg_ap, setLs_nil_ap, setLs_cons_ap, setAttrM_ap, cmp_is_nn, cmp_is_sn, min_ints, hl1, hl2, hd, hp, h0, hle]
  have ha0 : ¬ ((a'.length : Int) = 0) := by omega
  obtain ⟨b', mem', hC, hF, hg⟩ := lvD_grow (n := b1.length) (l1 := sS s1) (l2 := sS s2) (l3 := sI m) (l4 := sI a'.length) (l6 := sI p.length) h (by omega)
  obtain ⟨bs, hb1, hb2⟩ := hC.base
  have hA : ∀ (j : Nat) y, a'[j]? = some y → s1.cps[p.length + j]? = some y := fun j y => mid_get ht.left j y
  have hB : ∀ (j : Nat) y, b1[j]? = some y → s2.cps[p.length + j]? = some y := fun j y => mid_get ht.right j y
  have ha := fun l => attr_at (cls := [770]) (l := l) (name := "_base_char_1_costs") hC.inst (by decide) hC.dict (f := .ref b') rfl
  have hpos : 0 < a'.length := by omega
  have hle := ht.le
  by_cases hm : m < b1.length
  · have hband : Band a' b1 m (b1.length - a'.length) := by
      refine ⟨by omega, by omega, hm, hpos, ?_⟩
      rcases ht.heads with e | ⟨x, y, a'', b'', e1, e2, e3⟩
      · rw [e] at hpos; simp at hpos
      · exact ⟨x, y, by rw [e1]; rfl, by rw [e2]; rfl, e3⟩
    obtain ⟨row, hr⟩ := lvm_call hband hA hB (by omega) (by omega) (by omega) (.fl (.ref b')) mem'
    refine ⟨[sR c, sS s1, sS s2, sI m, sI a'.length, sI b1.length, sI p.length], b', mem' ++ [row], hC.snoc _, hF.trans (Frame.snoc _ _ _), ?_⟩
    have hmeth := meth_at (tab := tab1 770 true lvm_fm) (mo := getL 0) (name := "_distance_max") (ms := [(getL 1), (getL 2), (getL 4), (getL 5), (getL 6), (getL 3), (attrM [770] (getL 0) "_base_char_1_costs")])
      (st := ⟨[sR c, sS s1, sS s2, sI m, sI a'.length, sI b1.length, sI p.length], mem'⟩) (s1 := ⟨[sR c, sS s1, sS s2, sI m, sI a'.length, sI b1.length, sI p.length], mem'⟩) rfl hC.inst hC.dict rfl rfl
    rw [hdist]
    have hm' : (m : Int) < b1.length := by omega
    simp [getL_ap, setL_ap, cst_ap, binM_ap, cmpM_ap, andM_nil_ap, andM_cons_ap, orM_nil_ap, orM_cons_ap, iteM_ap, asg1_ap, asg2_ap, augM_ap, blkM_nil_ap, blkM_cons_ap, retM_ap, tupM_ap, seqM_nil_ap, seqM_cons_ap, flatL, subM_ap, subF_str, subF_list, setItemM_ap, setItemF_list, bltM_ap, blt_len_s, bin_add, bin_sub, cmp_eq_i, cmp_ne_i, cmp_lt_i, cmp_le_i, cmp_gt_i, cmp_ge_i, cmp_eq_c, cmp_ne_c, pd_True, pd_False, runM_ap, attrM_ap, intM_ap, binX_ap, asgSw_ap, tupTg_ap, setLs_nil_ap, setLs_cons_ap, setAttrM_ap, cmp_is_nn, cmp_is_sn, min_ints, hl1, hl2, hd, hp, h0, ha0, hg, hm, hm', hmeth, ha, hr]
  · obtain ⟨row, hr⟩ := lvd_call hA hB (by omega) (by omega) (by omega) hpos (by omega) (.fl (.ref b')) mem'
    refine ⟨[sR c, sS s1, sS s2, sI m, sI a'.length, sI b1.length, sI p.length], b', mem' ++ [row], hC.snoc _, hF.trans (Frame.snoc _ _ _), ?_⟩
    have hmeth := meth_at (tab := tab1 770 true lvd_fm) (mo := getL 0) (name := "_distance") (ms := [(getL 1), (getL 2), (getL 4), (getL 5), (getL 6), (attrM [770] (getL 0) "_base_char_1_costs")])
      (st := ⟨[sR c, sS s1, sS s2, sI m, sI a'.length, sI b1.length, sI p.length], mem'⟩) (s1 := ⟨[sR c, sS s1, sS s2, sI m, sI a'.length, sI b1.length, sI p.length], mem'⟩) rfl hC.inst hC.dict rfl rfl
    have hmx := dist_max (sw := false) a' b1
    have hb : bandR m (dist false s1.cps.toList s2.cps.toList) = dist false a' b1 := by rw [hdist]; unfold bandR; rw [if_pos (by omega)]
    rw [hb]
    have hm' : ¬ ((m : Int) < b1.length) := by omega
    simp [getL_ap, setL_ap, cst_ap, binM_ap, cmpM_ap, andM_nil_ap, andM_cons_ap, orM_nil_ap, orM_cons_ap, iteM_ap, asg1_ap, asg2_ap, augM_ap, blkM_nil_ap, blkM_cons_ap, retM_ap, tupM_ap, seqM_nil_ap, seqM_cons_ap, flatL, subM_ap, subF_str, subF_list, setItemM_ap, setItemF_list, bltM_ap, blt_len_s, bin_add, bin_sub, cmp_eq_i, cmp_ne_i, cmp_lt_i, cmp_le_i, cmp_gt_i, cmp_ge_i, cmp_eq_c, cmp_ne_c, pd_True, pd_False, runM_ap, attrM_ap, intM_ap, binX_ap, asgSw_ap, tupTg_ap, setLs_nil_ap, setLs_cons_ap, setAttrM_ap, cmp_is_nn, cmp_is_sn, min_ints, hl1, hl2, hd, hp, h0, ha0, hg, hm, hm', hmeth, ha, hr]

theorem pow31 : binG .Pow (.fl (.int 2)) (.fl (.int 31)) = some (.fl (.int 2147483648)) := by
  show (if pd _ = true then some (PV.fl (.int ((2 : Int) ^ (31 : Int).toNat))) else none) = _
  rw [if_pos (pd_true ⟨by decide, by decide, by decide⟩)]
  rfl
theorem blkM_app_next {l r : List (Mo Fl)} : ∀ {st s1 : St}, blkM l st = some (.next, s1) → blkM (l ++ r) st = blkM r s1 := by
  induction l with
  | nil => intro st s1 h; cases h; rfl
  | cons m l ih =>
    intro st s1 h
    rw [List.cons_append, blkM_cons_ap]
    rw [blkM_cons_ap] at h
    cases e : m st with
    | none => rw [e] at h; cases h
    | some q =>
      obtain ⟨f, s2⟩ := q
      rw [e] at h
      cases f with
      | next => exact ih h
      | _ => cases h
theorem blkM_app_ret {l r : List (Mo Fl)} {v : PV} : ∀ {st s1 : St}, blkM l st = some (.ret v, s1) → blkM (l ++ r) st = some (.ret v, s1) := by
  induction l with
  | nil => intro st s1 h; cases h
  | cons m l ih =>
    intro st s1 h
    rw [List.cons_append, blkM_cons_ap]
    rw [blkM_cons_ap] at h
    cases e : m st with
    | none => rw [e] at h; cases h
    | some q =>
      obtain ⟨f, s2⟩ := q
      rw [e] at h
      cases f with
      | next => exact ih h
      | _ => exact h
/-- what two texts ask -/
def ansT (sw : Bool) (a b : List Nat) (lim : Int) : Int := if lim ≤ 0 then (if a = b then 0 else -1) else if (dist sw a b : Int) ≤ lim then dist sw a b else -1
def ans (sw : Bool) : FV → FV → Int → Int
  | .str a, .str b, lim => ansT sw a.cps.toList b.cps.toList lim
  | .none, .none, _ => 0
  | .none, .str b, lim => lone b.length lim
  | .str a, .none, lim => lone a.length lim
  | _, _, _ => 0
/-- a text, or none -/
def TextLe (n : Nat) : FV → Prop
  | .none => True
  | .str a => a.length ≤ n
  | _ => False
theorem str_eq_list (a b : Str) : (a == b) = decide (a.cps.toList = b.cps.toList) := by
  rw [Bool.eq_iff_iff, beq_iff_eq, decide_eq_true_eq]
  constructor
  · intro h; rw [h]
  · intro h
    obtain ⟨a⟩ := a; obtain ⟨b⟩ := b
    have : a = b := by simpa using h
    rw [this]
theorem ansT_band (sw : Bool) (a b : List Nat) (lim : Int) (h : 0 < lim) (hl : dist sw a b ≤ 1000) : bandR (min 2147483647 lim).toNat (dist sw a b) = ansT sw a b lim := by
  unfold bandR ansT
  rw [if_neg (show ¬ lim ≤ 0 by omega)]
  by_cases hd : (dist sw a b : Int) ≤ lim
  · rw [if_pos hd, if_pos (by omega)]
  · rw [if_neg hd, if_neg (by omega)]

theorem lvD_call {c cd b : Nat} {mem : List MO} (h : CompL c cd b mem) {t1 t2 : FV} (h1 : TextLe 1000 t1) (h2 : TextLe 1000 t2) (lim : Int) :
    ∃ b' mem', CompL c cd b' mem' ∧ Frame [cd, b] [cd, b'] mem mem' ∧ lvD_fm [.fl (.ref c), .fl t1, .fl t2, .fl (.int lim)] mem = some (.fl (.int (ans false t1 t2 lim)), mem') := by
  match t1, t2, h1, h2 with
  | .none, .none, _, _ =>
    refine ⟨b, mem, h, Frame.refl _ _, ?_⟩
    have hn := ndr_nn lim mem
    unfold lvD_fm lvD_mm lvD_m lvD_lp ans
    simp [getL_ap, setL_ap, cst_ap, binM_ap, cmpM_ap, andM_nil_ap, andM_cons_ap, orM_nil_ap, orM_cons_ap, iteM_ap, asg1_ap, asg2_ap, augM_ap, blkM_nil_ap, blkM_cons_ap, retM_ap, tupM_ap, seqM_nil_ap, seqM_cons_ap, flatL, subM_ap, subF_str, subF_list, setItemM_ap, setItemF_list, bltM_ap, blt_len_s, bin_add, bin_sub, cmp_eq_i, cmp_ne_i, cmp_lt_i, cmp_le_i, cmp_gt_i, cmp_ge_i, cmp_eq_c, cmp_ne_c, pd_True, pd_False, runM_ap, attrM_ap, intM_ap, binX_ap, asgSw_ap, tupTg_ap, setLs_nil_ap, setLs_cons_ap, setAttrM_ap, cmp_is_nn, cmp_is_sn, min_ints, hn, retV]
  | .none, .str s2, _, h2 =>
    refine ⟨b, mem, h, Frame.refl _ _, ?_⟩
    have h2 : s2.length ≤ 1000 := h2
    have hn := ndr_ns s2 (by omega) lim mem
    unfold lvD_fm lvD_mm lvD_m lvD_lp ans
    simp [getL_ap, setL_ap, cst_ap, binM_ap, cmpM_ap, andM_nil_ap, andM_cons_ap, orM_nil_ap, orM_cons_ap, iteM_ap, asg1_ap, asg2_ap, augM_ap, blkM_nil_ap, blkM_cons_ap, retM_ap, tupM_ap, seqM_nil_ap, seqM_cons_ap, flatL, subM_ap, subF_str, subF_list, setItemM_ap, setItemF_list, bltM_ap, blt_len_s, bin_add, bin_sub, cmp_eq_i, cmp_ne_i, cmp_lt_i, cmp_le_i, cmp_gt_i, cmp_ge_i, cmp_eq_c, cmp_ne_c, pd_True, pd_False, runM_ap, attrM_ap, intM_ap, binX_ap, asgSw_ap, tupTg_ap, setLs_nil_ap, setLs_cons_ap, setAttrM_ap, cmp_is_nn, cmp_is_sn, min_ints, hn, retV]
  | .str s1, .none, h1, _ =>
    refine ⟨b, mem, h, Frame.refl _ _, ?_⟩
    have h1 : s1.length ≤ 1000 := h1
    have hn := ndr_sn s1 (by omega) lim mem
    unfold lvD_fm lvD_mm lvD_m lvD_lp ans
    simp [getL_ap, setL_ap, cst_ap, binM_ap, cmpM_ap, andM_nil_ap, andM_cons_ap, orM_nil_ap, orM_cons_ap, iteM_ap, asg1_ap, asg2_ap, augM_ap, blkM_nil_ap, blkM_cons_ap, retM_ap, tupM_ap, seqM_nil_ap, seqM_cons_ap, flatL, subM_ap, subF_str, subF_list, setItemM_ap, setItemF_list, bltM_ap, blt_len_s, bin_add, bin_sub, cmp_eq_i, cmp_ne_i, cmp_lt_i, cmp_le_i, cmp_gt_i, cmp_ge_i, cmp_eq_c, cmp_ne_c, pd_True, pd_False, runM_ap, attrM_ap, intM_ap, binX_ap, asgSw_ap, tupTg_ap, setLs_nil_ap, setLs_cons_ap, setAttrM_ap, cmp_is_nn, cmp_is_sn, min_ints, hn, retV]
  | .str s1, .str s2, h1, h2 =>
    have h1 : s1.length ≤ 1000 := h1
    have h2 : s2.length ≤ 1000 := h2
    have e1 : s1.length < 4611686018427387904 := by omega
    have e2 : s2.length < 4611686018427387904 := by omega
    have hm : lvD_m ndr_fm psp_fm (tab1 770 true lvm_fm) (tab1 770 true lvd_fm) = blkM ([(iteM (orM [(cmpM .Is (getL 1) (cst (.fl .none))), (cmpM .Is (getL 2) (cst (.fl .none)))]) (blkM [(retM (runM [] [(getL 1), (getL 2), (getL 3)] ndr_fm))]) (blkM [])), (iteM (cmpM .LtE (getL 3) (cst (.fl (.int 0)))) (blkM [(retM (iteM (cmpM .Eq (getL 1) (getL 2)) (cst (.fl (.int 0))) (cst (.fl (.int (-1))))))]) (blkM [])), (asg1 (intM (bltM "min" [(binM .Sub (binX .Pow (cst (.fl (.int 2))) (cst (.fl (.int 31)))) (cst (.fl (.int 1)))), (getL 3)])) (setL 3)), (iteM (cmpM .Gt (bltM "len" [(getL 1)]) (bltM "len" [(getL 2)])) (blkM [(asgSw (tupM [(getL 1), (getL 2)]) [1, 2])]) (blkM []))] ++ [(iteM (cmpM .Gt (binM .Sub (bltM "len" [(getL 2)]) (bltM "len" [(getL 1)])) (getL 3)) (blkM [(retM (cst (.fl (.int (-1)))))]) (blkM [])), (asg1 (runM [] [(getL 1), (getL 2)] psp_fm) (tupTg [4, 5, 6])), (iteM (cmpM .Eq (getL 4) (cst (.fl (.int 0)))) (blkM [(retM (iteM (cmpM .LtE (getL 5) (getL 3)) (getL 5) (cst (.fl (.int (-1))))))]) (blkM [])), lvD_s7, (iteM (cmpM .Lt (getL 3) (getL 5)) (blkM [(retM (methM (tab1 770 true lvm_fm) (getL 0) "_distance_max" [(getL 1), (getL 2), (getL 4), (getL 5), (getL 6), (getL 3), (attrM [770] (getL 0) "_base_char_1_costs")]))]) (blkM [])), (retM (methM (tab1 770 true lvd_fm) (getL 0) "_distance" [(getL 1), (getL 2), (getL 4), (getL 5), (getL 6), (attrM [770] (getL 0) "_base_char_1_costs")]))]) := rfl
    by_cases hl : lim ≤ 0
    · refine ⟨b, mem, h, Frame.refl _ _, ?_⟩
      have hans : ans false (.str s1) (.str s2) lim = if s1.cps.toList = s2.cps.toList then 0 else -1 := by
        show ansT false s1.cps.toList s2.cps.toList lim = _
        unfold ansT; rw [if_pos hl]
      rw [hans]
      unfold lvD_fm lvD_mm lvD_lp
      rw [hm]
      by_cases he : s1.cps.toList = s2.cps.toList
      · have he' : (s1 == s2) = true := by rw [str_eq_list]; exact decide_eq_true he
        rw [if_pos he, blkM_app_ret (v := .fl (.int 0)) (s1 := ⟨[sR c, sS s1, sS s2, sI lim, none, none, none], mem⟩)]
        · rfl
        · simp [getL_ap, setL_ap, cst_ap, binM_ap, cmpM_ap, andM_nil_ap, andM_cons_ap, orM_nil_ap, orM_cons_ap, iteM_ap, asg1_ap, asg2_ap, augM_ap, blkM_nil_ap, blkM_cons_ap, retM_ap, tupM_ap, seqM_nil_ap, seqM_cons_ap, flatL, subM_ap, subF_str, subF_list, setItemM_ap, setItemF_list, bltM_ap, blt_len_s, bin_add, bin_sub, cmp_eq_i, cmp_ne_i, cmp_lt_i, cmp_le_i, cmp_gt_i, cmp_ge_i, cmp_eq_c, cmp_ne_c, pd_True, pd_False, runM_ap, attrM_ap, intM_ap, binX_ap, asgSw_ap, tupTg_ap, setLs_nil_ap, setLs_cons_ap, setAttrM_ap, cmp_is_nn, cmp_is_sn, min_ints, hl, cmp_eq_s, he']
      · have he' : (s1 == s2) = false := by rw [str_eq_list]; exact decide_eq_false he
        rw [if_neg he, blkM_app_ret (v := .fl (.int (-1))) (s1 := ⟨[sR c, sS s1, sS s2, sI lim, none, none, none], mem⟩)]
        · rfl
        · simp [getL_ap, setL_ap, cst_ap, binM_ap, cmpM_ap, andM_nil_ap, andM_cons_ap, orM_nil_ap, orM_cons_ap, iteM_ap, asg1_ap, asg2_ap, augM_ap, blkM_nil_ap, blkM_cons_ap, retM_ap, tupM_ap, seqM_nil_ap, seqM_cons_ap, flatL, subM_ap, subF_str, subF_list, setItemM_ap, setItemF_list, bltM_ap, blt_len_s, bin_add, bin_sub, cmp_eq_i, cmp_ne_i, cmp_lt_i, cmp_le_i, cmp_gt_i, cmp_ge_i, cmp_eq_c, cmp_ne_c, pd_True, pd_False, runM_ap, attrM_ap, intM_ap, binX_ap, asgSw_ap, tupTg_ap, setLs_nil_ap, setLs_cons_ap, setAttrM_ap, cmp_is_nn, cmp_is_sn, min_ints, hl, cmp_eq_s, he']
    · have hml : ((min 2147483647 lim).toNat : Int) = min 2147483647 lim := by omega
      have hmd := dist_max (sw := false) s1.cps.toList s2.cps.toList
      rw [← len_toList, ← len_toList] at hmd
      have hans := ansT_band false s1.cps.toList s2.cps.toList lim (by omega) (by omega)
      have hans' : ans false (.str s1) (.str s2) lim = ansT false s1.cps.toList s2.cps.toList lim := rfl
      rw [hans', ← hans]
      by_cases hsw : (s2.length : Int) < s1.length
      · obtain ⟨l, b', mem', q1, q2, q3⟩ := lvD_rest h (s1 := s2) (s2 := s1) (by omega) h1 (min 2147483647 lim).toNat
        rw [hml, dist_symm] at q3
        refine ⟨b', mem', q1, q2, ?_⟩
        unfold lvD_fm lvD_mm lvD_lp
        rw [hm, blkM_app_next (s1 := ⟨[sR c, sS s2, sS s1, sI (min 2147483647 lim), none, none, none], mem⟩)]
        · rw [q3]; rfl
        · have hsw' : s2.length < s1.length := by omega
          simp [getL_ap, setL_ap, cst_ap, binM_ap, cmpM_ap, andM_nil_ap, andM_cons_ap, orM_nil_ap, orM_cons_ap, iteM_ap, asg1_ap, asg2_ap, augM_ap, blkM_nil_ap, blkM_cons_ap, retM_ap, tupM_ap, seqM_nil_ap, seqM_cons_ap, flatL, subM_ap, subF_str, subF_list, setItemM_ap, setItemF_list, bltM_ap, blt_len_s, bin_add, bin_sub, cmp_eq_i, cmp_ne_i, cmp_lt_i, cmp_le_i, cmp_gt_i, cmp_ge_i, cmp_eq_c, cmp_ne_c, pd_True, pd_False, runM_ap, attrM_ap, intM_ap, binX_ap, asgSw_ap, tupTg_ap, setLs_nil_ap, setLs_cons_ap, setAttrM_ap, cmp_is_nn, cmp_is_sn, min_ints, hl, pow31, hsw, hsw', e1, e2]
      · obtain ⟨l, b', mem', q1, q2, q3⟩ := lvD_rest h (s1 := s1) (s2 := s2) (by omega) h2 (min 2147483647 lim).toNat
        rw [hml] at q3
        refine ⟨b', mem', q1, q2, ?_⟩
        unfold lvD_fm lvD_mm lvD_lp
        rw [hm, blkM_app_next (s1 := ⟨[sR c, sS s1, sS s2, sI (min 2147483647 lim), none, none, none], mem⟩)]
        · rw [q3]; rfl
        · have hsw' : ¬ s2.length < s1.length := by omega
          simp [getL_ap, setL_ap, cst_ap, binM_ap, cmpM_ap, andM_nil_ap, andM_cons_ap, orM_nil_ap, orM_cons_ap, iteM_ap, asg1_ap, asg2_ap, augM_ap, blkM_nil_ap, blkM_cons_ap, retM_ap, tupM_ap, seqM_nil_ap, seqM_cons_ap, flatL, subM_ap, subF_str, subF_list, setItemM_ap, setItemF_list, bltM_ap, blt_len_s, bin_add, bin_sub, cmp_eq_i, cmp_ne_i, cmp_lt_i, cmp_le_i, cmp_gt_i, cmp_ge_i, cmp_eq_c, cmp_ne_c, pd_True, pd_False, runM_ap, attrM_ap, intM_ap, binX_ap, asgSw_ap, tupTg_ap, setLs_nil_ap, setLs_cons_ap, setAttrM_ap, cmp_is_nn, cmp_is_sn, min_ints, hl, pow31, hsw, hsw', e1, e2]
end Mine

/-! Ev8 -/
namespace Mine

abbrev nB : Str := Str.ofString "_base_char_1_costs"
abbrev nP : Str := Str.ofString "_base_prev_char_1_costs"
def Ints (n : Nat) (ps : List PV) : Prop := ∀ k : Nat, k < n → ∃ v, ps[k]? = some (.fl (.int v))
/-- a DamerauOsa comparer in the memory -/
structure CompO (c cd b b2 : Nat) (mem : List MO) : Prop where
  inst : mem[c]? = some (.inst 810 cd)
  dict : mem[cd]? = some (.adict [(nB, .ref b), (nP, .ref b2)])
  ne : b ≠ b2
  base : ∃ bs ps, mem[b]? = some (.list bs) ∧ bs.length ≤ 1000 ∧ mem[b2]? = some (.list ps) ∧ ps.length = bs.length ∧ Ints ps.length ps

theorem CompO.c_ne {c cd b b2 mem} (h : CompO c cd b b2 mem) : c ≠ cd := fun e => by have := h.inst; rw [e, h.dict] at this; cases this
theorem CompO.b_ne {c cd b b2 mem} (h : CompO c cd b b2 mem) : b ≠ cd := fun e => by obtain ⟨bs, ps, h1, _⟩ := h.base; rw [e, h.dict] at h1; cases h1
theorem CompO.p_ne {c cd b b2 mem} (h : CompO c cd b b2 mem) : b2 ≠ cd := fun e => by obtain ⟨bs, ps, _, _, h1, _⟩ := h.base; rw [e, h.dict] at h1; cases h1
theorem CompO.p_nec {c cd b b2 mem} (h : CompO c cd b b2 mem) : b2 ≠ c := fun e => by obtain ⟨bs, ps, _, _, h1, _⟩ := h.base; rw [e, h.inst] at h1; cases h1
theorem CompO.snoc {c cd b b2 mem} (h : CompO c cd b b2 mem) (x : MO) : CompO c cd b b2 (mem ++ [x]) :=
  ⟨get_snoc_old h.inst, get_snoc_old h.dict, h.ne, let ⟨bs, ps, h1, h2, h3, h4, h5⟩ := h.base; ⟨bs, ps, get_snoc_old h1, h2, get_snoc_old h3, h4, h5⟩⟩
theorem CompO.setP {c cd b b2 mem} (h : CompO c cd b b2 mem) {ps ps' : List PV} (hp : mem[b2]? = some (.list ps)) (hl : ps'.length = ps.length) (hi : Ints ps'.length ps') : CompO c cd b b2 (mem.set b2 (.list ps')) := by
  obtain ⟨bs, ps0, h1, h2, h3, h4, h5⟩ := h.base
  rw [hp] at h3; cases h3
  refine ⟨?_, ?_, h.ne, bs, ps', ?_, h2, List.getElem?_set_self (List.getElem?_eq_some_iff.mp hp).1, by omega, hi⟩
  · rw [List.getElem?_set_ne h.p_nec]; exact h.inst
  · rw [List.getElem?_set_ne h.p_ne]; exact h.dict
  · rw [List.getElem?_set_ne (Ne.symm h.ne)]; exact h1
theorem Frame.set {own : List Nat} {mem : List MO} {k : Nat} (h : k ∈ own) (x : MO) : Frame own own mem (mem.set k x) :=
  ⟨by simp, fun j hj hn => List.getElem?_set_ne (fun e => hn (by rw [← e]; exact h)), fun j hj => .inl hj⟩
theorem Frame.into {own own' : List Nat} {mem mem' : List MO} (h : Frame own own' mem mem') : Frame own (own' ++ own) mem mem' :=
  ⟨h.len, h.keep, fun j hj => (List.mem_append.mp hj).elim (h.own j) .inl⟩

noncomputable def osD_s7 : Mo Fl := (iteM (cmpM .Gt (getL 5) (bltM "len" [(attrM [810] (getL 0) "_base_char_1_costs")])) (blkM [(asg1 (compM [(getL 5)] (cst (.fl (.int 0)))) (setAttrM [810] (getL 0) "_base_char_1_costs")),
  (asg1 (compM [(getL 5)] (cst (.fl (.int 0)))) (setAttrM [810] (getL 0) "_base_prev_char_1_costs"))]) (blkM []))
theorem osD_grow {c cd b b2 n : Nat} {mem : List MO} {l1 l2 l3 l4 l6 : Option PV} (h : CompO c cd b b2 mem) (hn : n ≤ 1000) :
    ∃ b' b2' mem', CompO c cd b' b2' mem' ∧ (∃ ps, mem'[b2']? = some (.list ps) ∧ n ≤ ps.length ∧ Ints ps.length ps) ∧ Frame [cd, b, b2] [cd, b', b2'] mem mem' ∧
      osD_s7 ⟨[sR c, l1, l2, l3, l4, sI n, l6], mem⟩ = some (.next, ⟨[sR c, l1, l2, l3, l4, sI n, l6], mem'⟩) := by
  obtain ⟨bs, ps, h1, h2, h3, h4, h5⟩ := h.base
  have ha := fun l => attr_at (cls := [810]) (l := l) (name := nB) h.inst (by decide) h.dict (f := .ref b) rfl
  have hl : ∀ st : St, st.mem = mem → bltF st "len" [.fl (.ref b)] = some (.fl (.int bs.length)) := fun st e => by
    show (match st.mem[b]? with | some (.list xs) => if pd (xs.length < 2 ^ 62) = true then some (PV.fl (.int xs.length)) else none | _ => none) = _
    rw [e, h1]
    show (if pd (bs.length < 2 ^ 62) = true then _ else _) = _
    rw [if_pos (pd_true (by omega))]
  by_cases hg : bs.length < n
  · let zs : List PV := (List.range n).map fun _ => .fl (.int 0)
    have hzl : zs.length = n := by simp [zs]
    have hzi : Ints zs.length zs := fun k hk => ⟨0, by simp only [zs]; rw [List.getElem?_map, List.getElem?_range (by omega)]; rfl⟩
    have hcomp : compL (cst (.fl (.int 0))) n 0 = some zs := by
      rw [compL_all (g := fun _ => .int 0) (fun _ => rfl) n 0 (fun k hk => rfl)]
    have hn1 : n ≤ 1048576 := by omega
    let mem1 : List MO := (mem ++ [MO.list zs]).set cd (.adict [(nB, .ref mem.length), (nP, .ref b2)])
    let mem2 : List MO := (mem1 ++ [MO.list zs]).set cd (.adict [(nB, .ref mem.length), (nP, .ref mem1.length)])
    have hl1 : mem1.length = mem.length + 1 := by simp [mem1]
    have hcd : cd < mem.length := (List.getElem?_eq_some_iff.mp h.dict).1
    have hs := h.snoc (.list zs)
    have i1 : mem1[c]? = some (.inst 810 cd) := by simp only [mem1]; rw [List.getElem?_set_ne (Ne.symm h.c_ne)]; exact hs.inst
    have d1 : mem1[cd]? = some (.adict [(nB, .ref mem.length), (nP, .ref b2)]) := by simp only [mem1]; exact List.getElem?_set_self (List.getElem?_eq_some_iff.mp hs.dict).1
    have b1 : mem1[mem.length]? = some (.list zs) := by simp only [mem1]; rw [List.getElem?_set_ne (Nat.ne_of_lt hcd)]; simp
    refine ⟨mem.length, mem1.length, mem2, ⟨?_, ?_, by omega, zs, zs, ?_, by omega, ?_, rfl, hzi⟩, ⟨zs, ?_, by omega, hzi⟩, ?_, ?_⟩
    · simp only [mem2]; rw [List.getElem?_set_ne (Ne.symm h.c_ne)]; exact get_snoc_old i1
    · simp only [mem2]; exact List.getElem?_set_self (by simp; omega)
    · simp only [mem2]; rw [List.getElem?_set_ne (Nat.ne_of_lt hcd)]; exact get_snoc_old b1
    · simp only [mem2]; rw [List.getElem?_set_ne (by omega)]; simp
    · simp only [mem2]; rw [List.getElem?_set_ne (by omega)]; simp
    · refine ⟨by simp [mem2]; omega, fun j hj hn => ?_, fun j hj => ?_⟩
      · have hne : cd ≠ j := fun e => hn (by rw [← e]; simp)
        simp only [mem2]
        rw [List.getElem?_set_ne hne, List.getElem?_append_left (by omega)]
        simp only [mem1]
        rw [List.getElem?_set_ne hne, List.getElem?_append_left hj]
      · simp at hj
        rcases hj with rfl | rfl | rfl
        · left; simp
        · right; omega
        · right; omega
    · have hset1 := fun l => setAttr_at (cls := [810]) (l := l) (name := nB) (f := .ref mem.length) hs.inst (by decide) hs.dict (by simp)
      have e1 : putF nB (.ref mem.length) [(nB, FV.ref b), (nP, FV.ref b2)] = [(nB, FV.ref mem.length), (nP, FV.ref b2)] := rfl
      simp only [e1] at hset1
      have i1' : (mem1 ++ [MO.list zs])[c]? = some (.inst 810 cd) := get_snoc_old i1
      have d1' : (mem1 ++ [MO.list zs])[cd]? = some (.adict [(nB, .ref mem.length), (nP, .ref b2)]) := get_snoc_old d1
      have hset2 := fun l => setAttr_at (cls := [810]) (l := l) (name := nP) (f := .ref mem1.length) i1' (by decide) d1' (by simp)
      have e2 : putF nP (.ref mem1.length) [(nB, FV.ref mem.length), (nP, FV.ref b2)] = [(nB, FV.ref mem.length), (nP, FV.ref mem1.length)] := rfl
      simp only [e2] at hset2
      have hg' : (bs.length : Int) < n := by omega
      have hm1 : (mem ++ [MO.list zs]).set cd (.adict [(nB, .ref mem.length), (nP, .ref b2)]) = mem1 := rfl
      have hm2 : (mem1 ++ [MO.list zs]).set cd (.adict [(nB, .ref mem.length), (nP, .ref mem1.length)]) = mem2 := rfl
      rw [hm1] at hset1
      rw [hm2] at hset2
      unfold osD_s7
      simp [getL_ap, setL_ap, cst_ap, binM_ap, cmpM_ap, andM_nil_ap, andM_cons_ap, orM_nil_ap, orM_cons_ap, iteM_ap, asg1_ap, asg2_ap, augM_ap, blkM_nil_ap, blkM_cons_ap, retM_ap, tupM_ap, seqM_nil_ap, seqM_cons_ap, flatL, subM_ap, subF_str, subF_list, setItemM_ap, setItemF_list, bltM_ap, blt_len_s, bin_add, bin_sub, cmp_eq_i, cmp_ne_i, cmp_lt_i, cmp_le_i, cmp_gt_i, cmp_ge_i, cmp_eq_c, cmp_ne_c, pd_True, pd_False, runM_ap, attrM_ap, intM_ap, binX_ap, asgSw_ap, tupTg_ap, setLs_nil_ap, setLs_cons_ap, setAttrM_ap, cmp_is_nn, cmp_is_sn, min_ints, ha, hl, hg', hg, compM_ap, rng1 n (by omega), hn1, hcomp, newL_ap, hset1, hset2]
  · refine ⟨b, b2, mem, h, ⟨ps, h3, by omega, h5⟩, Frame.refl _ _, ?_⟩
    unfold osD_s7
    simp [getL_ap, setL_ap, cst_ap, binM_ap, cmpM_ap, andM_nil_ap, andM_cons_ap, orM_nil_ap, orM_cons_ap, iteM_ap, asg1_ap, asg2_ap, augM_ap, blkM_nil_ap, blkM_cons_ap, retM_ap, tupM_ap, seqM_nil_ap, seqM_cons_ap, flatL, subM_ap, subF_str, subF_list, setItemM_ap, setItemF_list, bltM_ap, blt_len_s, bin_add, bin_sub, cmp_eq_i, cmp_ne_i, cmp_lt_i, cmp_le_i, cmp_gt_i, cmp_ge_i, cmp_eq_c, cmp_ne_c, pd_True, pd_False, runM_ap, attrM_ap, intM_ap, binX_ap, asgSw_ap, tupTg_ap, setLs_nil_ap, setLs_cons_ap, setAttrM_ap, cmp_is_nn, cmp_is_sn, min_ints, ha, hl, hg]

theorem osD_rest {c cd b b2 : Nat} {mem : List MO} (h : CompO c cd b b2 mem) {s1 s2 : Str} (hab : s1.length ≤ s2.length) (hlb : s2.length ≤ 1000) (m : Nat) :
    ∃ l b' b2' mem', CompO c cd b' b2' mem' ∧ Frame [cd, b, b2] [cd, b', b2'] mem mem' ∧
      blkM [(iteM (cmpM .Gt (binM .Sub (bltM "len" [(getL 2)]) (bltM "len" [(getL 1)])) (getL 3)) (blkM [(retM (cst (.fl (.int (-1)))))]) (blkM [])), (asg1 (runM [] [(getL 1), (getL 2)] psp_fm) (tupTg [4, 5, 6])), (iteM (cmpM .Eq (getL 4) (cst (.fl (.int 0)))) (blkM [(retM (iteM (cmpM .LtE (getL 5) (getL 3)) (getL 5) (cst (.fl (.int (-1))))))]) (blkM [])), osD_s7, (iteM (cmpM .Lt (getL 3) (getL 5)) (blkM [(retM (methM (tab1 810 true osm_fm) (getL 0) "_distance_max" [(getL 1), (getL 2), (getL 4), (getL 5), (getL 6), (getL 3), (attrM [810] (getL 0) "_base_char_1_costs"), (attrM [810] (getL 0) "_base_prev_char_1_costs")]))]) (blkM [])), (retM (methM (tab1 810 true osd_fm) (getL 0) "_distance" [(getL 1), (getL 2), (getL 4), (getL 5), (getL 6), (attrM [810] (getL 0) "_base_char_1_costs"), (attrM [810] (getL 0) "_base_prev_char_1_costs")]))] ⟨[sR c, sS s1, sS s2, sI m, none, none, none], mem⟩ = some (.ret (.fl (.int (bandR m (dist true s1.cps.toList s2.cps.toList)))), ⟨l, mem'⟩) := by
  have hl1 : s1.length < 4611686018427387904 := by omega
  have hl2 : s2.length < 4611686018427387904 := by omega
  have hlen := dist_len (sw := true) s1.cps.toList s2.cps.toList
  rw [← len_toList, ← len_toList] at hlen
  by_cases hd : (m : Int) < (s2.length : Int) - s1.length
  · refine ⟨[sR c, sS s1, sS s2, sI m, none, none, none], b, b2, mem, h, Frame.refl _ _, ?_⟩
    have hb : bandR m (dist true s1.cps.toList s2.cps.toList) = -1 := by unfold bandR; rw [if_neg (by omega)]
    rw [hb]
    simp [getL_ap, setL_ap, cst_ap, binM_ap, cmpM_ap, andM_nil_ap, andM_cons_ap, orM_nil_ap, orM_cons_ap, iteM_ap, asg1_ap, asg2_ap, augM_ap, blkM_nil_ap, blkM_cons_ap, retM_ap, tupM_ap, seqM_nil_ap, seqM_cons_ap, flatL, subM_ap, subF_str, subF_list, setItemM_ap, setItemF_list, bltM_ap, blt_len_s, bin_add, bin_sub, cmp_eq_i, cmp_ne_i, cmp_lt_i, cmp_le_i, cmp_gt_i, cmp_ge_i, cmp_eq_c, cmp_ne_c, pd_True, pd_False, runM_ap, attrM_ap, intM_ap, binX_ap, asgSw_ap, tupTg_ap, setLs_nil_ap, setLs_cons_ap, setAttrM_ap, cmp_is_nn, cmp_is_sn, min_ints, hl1, hl2, hd]
  obtain ⟨a', b1, p, q, ht, hp⟩ := psp_call s1 s2 mem hab (by omega)
  have hlens := ht.lens
  rw [← len_toList, ← len_toList] at hlens
  have hdist := ht.dist (sw := true)
  by_cases h0 : a'.length = 0
  · have ha0 : a' = [] := List.length_eq_zero_iff.mp h0
    refine ⟨[sR c, sS s1, sS s2, sI m, sI a'.length, sI b1.length, sI p.length], b, b2, mem, h, Frame.refl _ _, ?_⟩
    have hb : bandR m (dist true s1.cps.toList s2.cps.toList) = if b1.length ≤ m then (b1.length : Int) else -1 := by rw [hdist, ha0, dist_nil_left]; rfl
    rw [hb]
    by_cases hle : b1.length ≤ m
    · simp [getL_ap, setL_ap, cst_ap, binM_ap, cmpM_ap, andM_nil_ap, andM_cons_ap, orM_nil_ap, orM_cons_ap, iteM_ap, asg1_ap, asg2_ap, augM_ap, blkM_nil_ap, blkM_cons_ap, retM_ap, tupM_ap, seqM_nil_ap, seqM_cons_ap, flatL, subM_ap, subF_str, subF_list, setItemM_ap, setItemF_list, bltM_ap, blt_len_s, bin_add, bin_sub, cmp_eq_i, cmp_ne_i, cmp_lt_i, cmp_le_i, cmp_gt_i, cmp_ge_i, cmp_eq_c, cmp_ne_c, pd_True, pd_False, runM_ap, attrM_ap, intM_ap, binX_ap, asgSw_ap, tupTg_ap, setLs_nil_ap, setLs_cons_ap, setAttrM_ap, cmp_is_nn, cmp_is_sn, min_ints, hl1, hl2, hd, hp, h0, hle]
    · simp [getL_ap, setL_ap, cst_ap, binM_ap, cmpM_ap, andM_nil_ap, andM_cons_ap, orM_nil_ap, orM_cons_ap, iteM_ap, asg1_ap, asg2_ap, augM_ap, blkM_nil_ap, blkM_cons_ap, retM_ap, tupM_ap, seqM_nil_ap, seqM_cons_ap, flatL, subM_ap, subF_str, subF_list, setItemM_ap, setItemF_list, bltM_ap, blt_len_s, bin_add, bin_sub, cmp_eq_i, cmp_ne_i, cmp_lt_i, cmp_le_i, cmp_gt_i, cmp_ge_i, cmp_eq_c, cmp_ne_c, pd_True, pd_False, runM_ap, attrM_ap, intM_ap, binX_ap, asgSw_ap, tupTg_ap, setLs_nil_ap, setLs_cons_ap, setAttrM_ap, cmp_is_nn, cmp_is_sn, min_ints, hl1, hl2, hd, hp, h0, hle]
  have ha0 : ¬ ((a'.length : Int) = 0) := by omega
  obtain ⟨b', b2', mem', hC, ⟨ps, hps, hpl, hpi⟩, hF, hg⟩ := osD_grow (n := b1.length) (l1 := sS s1) (l2 := sS s2) (l3 := sI m) (l4 := sI a'.length) (l6 := sI p.length) h (by omega)
  have hA : ∀ (j : Nat) y, a'[j]? = some y → s1.cps[p.length + j]? = some y := fun j y => mid_get ht.left j y
  have hB : ∀ (j : Nat) y, b1[j]? = some y → s2.cps[p.length + j]? = some y := fun j y => mid_get ht.right j y
  have ha := fun l => attr_at (cls := [810]) (l := l) (name := nB) hC.inst (by decide) hC.dict (f := .ref b') rfl
  have ha2 := fun l => attr_at (cls := [810]) (l := l) (name := nP) hC.inst (by decide) hC.dict (f := .ref b2') rfl
  have hpos : 0 < a'.length := by omega
  have hle := ht.le
  by_cases hm : m < b1.length
  · have hband : Band a' b1 m (b1.length - a'.length) := by
      refine ⟨by omega, by omega, hm, hpos, ?_⟩
      rcases ht.heads with e | ⟨x, y, a'', b'', e1, e2, e3⟩
      · rw [e] at hpos; simp at hpos
      · exact ⟨x, y, by rw [e1]; rfl, by rw [e2]; rfl, e3⟩
    obtain ⟨row, ps', hr, hr1, hr2⟩ := osm_call hband hA hB (by omega) (by omega) (by omega) (.fl (.ref b')) hps hpl hpi
    refine ⟨[sR c, sS s1, sS s2, sI m, sI a'.length, sI b1.length, sI p.length], b', b2', mem'.set b2' (.list ps') ++ [row], (hC.setP hps hr1 hr2).snoc _, hF.trans ((Frame.set (by simp) _).trans (Frame.snoc _ _ _)), ?_⟩
    have hmeth := meth_at (tab := tab1 810 true osm_fm) (mo := getL 0) (name := "_distance_max") (ms := [(getL 1), (getL 2), (getL 4), (getL 5), (getL 6), (getL 3), (attrM [810] (getL 0) "_base_char_1_costs"), (attrM [810] (getL 0) "_base_prev_char_1_costs")])
      (st := ⟨[sR c, sS s1, sS s2, sI m, sI a'.length, sI b1.length, sI p.length], mem'⟩) (s1 := ⟨[sR c, sS s1, sS s2, sI m, sI a'.length, sI b1.length, sI p.length], mem'⟩) rfl hC.inst hC.dict rfl rfl
    rw [hdist]
    have hm' : (m : Int) < b1.length := by omega
    simp [getL_ap, setL_ap, cst_ap, binM_ap, cmpM_ap, andM_nil_ap, andM_cons_ap, orM_nil_ap, orM_cons_ap, iteM_ap, asg1_ap, asg2_ap, augM_ap, blkM_nil_ap, blkM_cons_ap, retM_ap, tupM_ap, seqM_nil_ap, seqM_cons_ap, flatL, subM_ap, subF_str, subF_list, setItemM_ap, setItemF_list, bltM_ap, blt_len_s, bin_add, bin_sub, cmp_eq_i, cmp_ne_i, cmp_lt_i, cmp_le_i, cmp_gt_i, cmp_ge_i, cmp_eq_c, cmp_ne_c, pd_True, pd_False, runM_ap, attrM_ap, intM_ap, binX_ap, asgSw_ap, tupTg_ap, setLs_nil_ap, setLs_cons_ap, setAttrM_ap, cmp_is_nn, cmp_is_sn, min_ints, hl1, hl2, hd, hp, h0, ha0, hg, hm, hm', hmeth, ha, ha2, hr]
  · obtain ⟨row, ps', hr, hr1, hr2⟩ := osd_call hA hB (by omega) (by omega) (by omega) hpos (by omega) (.fl (.ref b')) hps hpl hpi
    refine ⟨[sR c, sS s1, sS s2, sI m, sI a'.length, sI b1.length, sI p.length], b', b2', mem'.set b2' (.list ps') ++ [row], (hC.setP hps hr1 hr2).snoc _, hF.trans ((Frame.set (by simp) _).trans (Frame.snoc _ _ _)), ?_⟩
    have hmeth := meth_at (tab := tab1 810 true osd_fm) (mo := getL 0) (name := "_distance") (ms := [(getL 1), (getL 2), (getL 4), (getL 5), (getL 6), (attrM [810] (getL 0) "_base_char_1_costs"), (attrM [810] (getL 0) "_base_prev_char_1_costs")])
      (st := ⟨[sR c, sS s1, sS s2, sI m, sI a'.length, sI b1.length, sI p.length], mem'⟩) (s1 := ⟨[sR c, sS s1, sS s2, sI m, sI a'.length, sI b1.length, sI p.length], mem'⟩) rfl hC.inst hC.dict rfl rfl
    have hmx := dist_max (sw := true) a' b1
    have hb : bandR m (dist true s1.cps.toList s2.cps.toList) = dist true a' b1 := by rw [hdist]; unfold bandR; rw [if_pos (by omega)]
    rw [hb]
    have hm' : ¬ ((m : Int) < b1.length) := by omega
    simp [getL_ap, setL_ap, cst_ap, binM_ap, cmpM_ap, andM_nil_ap, andM_cons_ap, orM_nil_ap, orM_cons_ap, iteM_ap, asg1_ap, asg2_ap, augM_ap, blkM_nil_ap, blkM_cons_ap, retM_ap, tupM_ap, seqM_nil_ap, seqM_cons_ap, flatL, subM_ap, subF_str, subF_list, setItemM_ap, setItemF_list, bltM_ap, blt_len_s, bin_add, bin_sub, cmp_eq_i, cmp_ne_i, cmp_lt_i, cmp_le_i, cmp_gt_i, cmp_ge_i, cmp_eq_c, cmp_ne_c, pd_True, pd_False, runM_ap, attrM_ap, intM_ap, binX_ap, asgSw_ap, tupTg_ap, setLs_nil_ap, setLs_cons_ap, setAttrM_ap, cmp_is_nn, cmp_is_sn, min_ints, hl1, hl2, hd, hp, h0, ha0, hg, hm, hm', hmeth, ha, ha2, hr]

theorem osD_call {c cd b b2 : Nat} {mem : List MO} (h : CompO c cd b b2 mem) {t1 t2 : FV} (h1 : TextLe 1000 t1) (h2 : TextLe 1000 t2) (lim : Int) :
    ∃ b' b2' mem', CompO c cd b' b2' mem' ∧ Frame [cd, b, b2] [cd, b', b2'] mem mem' ∧ osD_fm [.fl (.ref c), .fl t1, .fl t2, .fl (.int lim)] mem = some (.fl (.int (ans true t1 t2 lim)), mem') := by
  match t1, t2, h1, h2 with
  | .none, .none, _, _ =>
    refine ⟨b, b2, mem, h, Frame.refl _ _, ?_⟩
    have hn := ndr_nn lim mem
    unfold osD_fm osD_mm osD_m osD_lp ans
    simp [getL_ap, setL_ap, cst_ap, binM_ap, cmpM_ap, andM_nil_ap, andM_cons_ap, orM_nil_ap, orM_cons_ap, iteM_ap, asg1_ap, asg2_ap, augM_ap, blkM_nil_ap, blkM_cons_ap, retM_ap, tupM_ap, seqM_nil_ap, seqM_cons_ap, flatL, subM_ap, subF_str, subF_list, setItemM_ap, setItemF_list, bltM_ap, blt_len_s, bin_add, bin_sub, cmp_eq_i, cmp_ne_i, cmp_lt_i, cmp_le_i, cmp_gt_i, cmp_ge_i, cmp_eq_c, cmp_ne_c, pd_True, pd_False, runM_ap, attrM_ap, intM_ap, binX_ap, asgSw_ap, tupTg_ap, setLs_nil_ap, setLs_cons_ap, setAttrM_ap, cmp_is_nn, cmp_is_sn, min_ints, hn, retV]
  | .none, .str s2, _, h2 =>
    refine ⟨b, b2, mem, h, Frame.refl _ _, ?_⟩
    have h2 : s2.length ≤ 1000 := h2
    have hn := ndr_ns s2 (by omega) lim mem
    unfold osD_fm osD_mm osD_m osD_lp ans
    simp [getL_ap, setL_ap, cst_ap, binM_ap, cmpM_ap, andM_nil_ap, andM_cons_ap, orM_nil_ap, orM_cons_ap, iteM_ap, asg1_ap, asg2_ap, augM_ap, blkM_nil_ap, blkM_cons_ap, retM_ap, tupM_ap, seqM_nil_ap, seqM_cons_ap, flatL, subM_ap, subF_str, subF_list, setItemM_ap, setItemF_list, bltM_ap, blt_len_s, bin_add, bin_sub, cmp_eq_i, cmp_ne_i, cmp_lt_i, cmp_le_i, cmp_gt_i, cmp_ge_i, cmp_eq_c, cmp_ne_c, pd_True, pd_False, runM_ap, attrM_ap, intM_ap, binX_ap, asgSw_ap, tupTg_ap, setLs_nil_ap, setLs_cons_ap, setAttrM_ap, cmp_is_nn, cmp_is_sn, min_ints, hn, retV]
  | .str s1, .none, h1, _ =>
    refine ⟨b, b2, mem, h, Frame.refl _ _, ?_⟩
    have h1 : s1.length ≤ 1000 := h1
    have hn := ndr_sn s1 (by omega) lim mem
    unfold osD_fm osD_mm osD_m osD_lp ans
    simp [getL_ap, setL_ap, cst_ap, binM_ap, cmpM_ap, andM_nil_ap, andM_cons_ap, orM_nil_ap, orM_cons_ap, iteM_ap, asg1_ap, asg2_ap, augM_ap, blkM_nil_ap, blkM_cons_ap, retM_ap, tupM_ap, seqM_nil_ap, seqM_cons_ap, flatL, subM_ap, subF_str, subF_list, setItemM_ap, setItemF_list, bltM_ap, blt_len_s, bin_add, bin_sub, cmp_eq_i, cmp_ne_i, cmp_lt_i, cmp_le_i, cmp_gt_i, cmp_ge_i, cmp_eq_c, cmp_ne_c, pd_True, pd_False, runM_ap, attrM_ap, intM_ap, binX_ap, asgSw_ap, tupTg_ap, setLs_nil_ap, setLs_cons_ap, setAttrM_ap, cmp_is_nn, cmp_is_sn, min_ints, hn, retV]
  | .str s1, .str s2, h1, h2 =>
    have h1 : s1.length ≤ 1000 := h1
    have h2 : s2.length ≤ 1000 := h2
    have e1 : s1.length < 4611686018427387904 := by omega
    have e2 : s2.length < 4611686018427387904 := by omega
    have hm : osD_m ndr_fm psp_fm (tab1 810 true osm_fm) (tab1 810 true osd_fm) = blkM ([(iteM (orM [(cmpM .Is (getL 1) (cst (.fl .none))), (cmpM .Is (getL 2) (cst (.fl .none)))]) (blkM [(retM (runM [] [(getL 1), (getL 2), (getL 3)] ndr_fm))]) (blkM [])), (iteM (cmpM .LtE (getL 3) (cst (.fl (.int 0)))) (blkM [(retM (iteM (cmpM .Eq (getL 1) (getL 2)) (cst (.fl (.int 0))) (cst (.fl (.int (-1))))))]) (blkM [])), (asg1 (intM (bltM "min" [(binM .Sub (binX .Pow (cst (.fl (.int 2))) (cst (.fl (.int 31)))) (cst (.fl (.int 1)))), (getL 3)])) (setL 3)), (iteM (cmpM .Gt (bltM "len" [(getL 1)]) (bltM "len" [(getL 2)])) (blkM [(asgSw (tupM [(getL 1), (getL 2)]) [1, 2])]) (blkM []))] ++ [(iteM (cmpM .Gt (binM .Sub (bltM "len" [(getL 2)]) (bltM "len" [(getL 1)])) (getL 3)) (blkM [(retM (cst (.fl (.int (-1)))))]) (blkM [])), (asg1 (runM [] [(getL 1), (getL 2)] psp_fm) (tupTg [4, 5, 6])), (iteM (cmpM .Eq (getL 4) (cst (.fl (.int 0)))) (blkM [(retM (iteM (cmpM .LtE (getL 5) (getL 3)) (getL 5) (cst (.fl (.int (-1))))))]) (blkM [])), osD_s7, (iteM (cmpM .Lt (getL 3) (getL 5)) (blkM [(retM (methM (tab1 810 true osm_fm) (getL 0) "_distance_max" [(getL 1), (getL 2), (getL 4), (getL 5), (getL 6), (getL 3), (attrM [810] (getL 0) "_base_char_1_costs"), (attrM [810] (getL 0) "_base_prev_char_1_costs")]))]) (blkM [])), (retM (methM (tab1 810 true osd_fm) (getL 0) "_distance" [(getL 1), (getL 2), (getL 4), (getL 5), (getL 6), (attrM [810] (getL 0) "_base_char_1_costs"), (attrM [810] (getL 0) "_base_prev_char_1_costs")]))]) := rfl
    by_cases hl : lim ≤ 0
    · refine ⟨b, b2, mem, h, Frame.refl _ _, ?_⟩
      have hans : ans true (.str s1) (.str s2) lim = if s1.cps.toList = s2.cps.toList then 0 else -1 := by
        show ansT true s1.cps.toList s2.cps.toList lim = _
        unfold ansT; rw [if_pos hl]
      rw [hans]
      unfold osD_fm osD_mm osD_lp
      rw [hm]
      by_cases he : s1.cps.toList = s2.cps.toList
      · have he' : (s1 == s2) = true := by rw [str_eq_list]; exact decide_eq_true he
        rw [if_pos he, blkM_app_ret (v := .fl (.int 0)) (s1 := ⟨[sR c, sS s1, sS s2, sI lim, none, none, none], mem⟩)]
        · rfl
        · simp [getL_ap, setL_ap, cst_ap, binM_ap, cmpM_ap, andM_nil_ap, andM_cons_ap, orM_nil_ap, orM_cons_ap, iteM_ap, asg1_ap, asg2_ap, augM_ap, blkM_nil_ap, blkM_cons_ap, retM_ap, tupM_ap, seqM_nil_ap, seqM_cons_ap, flatL, subM_ap, subF_str, subF_list, setItemM_ap, setItemF_list, bltM_ap, blt_len_s, bin_add, bin_sub, cmp_eq_i, cmp_ne_i, cmp_lt_i, cmp_le_i, cmp_gt_i, cmp_ge_i, cmp_eq_c, cmp_ne_c, pd_True, pd_False, runM_ap, attrM_ap, intM_ap, binX_ap, asgSw_ap, tupTg_ap, setLs_nil_ap, setLs_cons_ap, setAttrM_ap, cmp_is_nn, cmp_is_sn, min_ints, hl, cmp_eq_s, he']
      · have he' : (s1 == s2) = false := by rw [str_eq_list]; exact decide_eq_false he
        rw [if_neg he, blkM_app_ret (v := .fl (.int (-1))) (s1 := ⟨[sR c, sS s1, sS s2, sI lim, none, none, none], mem⟩)]
        · rfl
        · simp [getL_ap, setL_ap, cst_ap, binM_ap, cmpM_ap, andM_nil_ap, andM_cons_ap, orM_nil_ap, orM_cons_ap, iteM_ap, asg1_ap, asg2_ap, augM_ap, blkM_nil_ap, blkM_cons_ap, retM_ap, tupM_ap, seqM_nil_ap, seqM_cons_ap, flatL, subM_ap, subF_str, subF_list, setItemM_ap, setItemF_list, bltM_ap, blt_len_s, bin_add, bin_sub, cmp_eq_i, cmp_ne_i, cmp_lt_i, cmp_le_i, cmp_gt_i, cmp_ge_i, cmp_eq_c, cmp_ne_c, pd_True, pd_False, runM_ap, attrM_ap, intM_ap, binX_ap, asgSw_ap, tupTg_ap, setLs_nil_ap, setLs_cons_ap, setAttrM_ap, cmp_is_nn, cmp_is_sn, min_ints, hl, cmp_eq_s, he']
    · have hml : ((min 2147483647 lim).toNat : Int) = min 2147483647 lim := by omega
      have hmd := dist_max (sw := true) s1.cps.toList s2.cps.toList
      rw [← len_toList, ← len_toList] at hmd
      have hans := ansT_band true s1.cps.toList s2.cps.toList lim (by omega) (by omega)
      have hans' : ans true (.str s1) (.str s2) lim = ansT true s1.cps.toList s2.cps.toList lim := rfl
      rw [hans', ← hans]
      by_cases hsw : (s2.length : Int) < s1.length
      · obtain ⟨l, b', b2', mem', q1, q2, q3⟩ := osD_rest h (s1 := s2) (s2 := s1) (by omega) h1 (min 2147483647 lim).toNat
        rw [hml, dist_symm] at q3
        refine ⟨b', b2', mem', q1, q2, ?_⟩
        unfold osD_fm osD_mm osD_lp
        rw [hm, blkM_app_next (s1 := ⟨[sR c, sS s2, sS s1, sI (min 2147483647 lim), none, none, none], mem⟩)]
        · rw [q3]; rfl
        · have hsw' : s2.length < s1.length := by omega
          simp [getL_ap, setL_ap, cst_ap, binM_ap, cmpM_ap, andM_nil_ap, andM_cons_ap, orM_nil_ap, orM_cons_ap, iteM_ap, asg1_ap, asg2_ap, augM_ap, blkM_nil_ap, blkM_cons_ap, retM_ap, tupM_ap, seqM_nil_ap, seqM_cons_ap, flatL, subM_ap, subF_str, subF_list, setItemM_ap, setItemF_list, bltM_ap, blt_len_s, bin_add, bin_sub, cmp_eq_i, cmp_ne_i, cmp_lt_i, cmp_le_i, cmp_gt_i, cmp_ge_i, cmp_eq_c, cmp_ne_c, pd_True, pd_False, runM_ap, attrM_ap, intM_ap, binX_ap, asgSw_ap, tupTg_ap, setLs_nil_ap, setLs_cons_ap, setAttrM_ap, cmp_is_nn, cmp_is_sn, min_ints, hl, pow31, hsw, hsw', e1, e2]
      · obtain ⟨l, b', b2', mem', q1, q2, q3⟩ := osD_rest h (s1 := s1) (s2 := s2) (by omega) h2 (min 2147483647 lim).toNat
        rw [hml] at q3
        refine ⟨b', b2', mem', q1, q2, ?_⟩
        unfold osD_fm osD_mm osD_lp
        rw [hm, blkM_app_next (s1 := ⟨[sR c, sS s1, sS s2, sI (min 2147483647 lim), none, none, none], mem⟩)]
        · rw [q3]; rfl
        · have hsw' : ¬ s2.length < s1.length := by omega
          simp [getL_ap, setL_ap, cst_ap, binM_ap, cmpM_ap, andM_nil_ap, andM_cons_ap, orM_nil_ap, orM_cons_ap, iteM_ap, asg1_ap, asg2_ap, augM_ap, blkM_nil_ap, blkM_cons_ap, retM_ap, tupM_ap, seqM_nil_ap, seqM_cons_ap, flatL, subM_ap, subF_str, subF_list, setItemM_ap, setItemF_list, bltM_ap, blt_len_s, bin_add, bin_sub, cmp_eq_i, cmp_ne_i, cmp_lt_i, cmp_le_i, cmp_gt_i, cmp_ge_i, cmp_eq_c, cmp_ne_c, pd_True, pd_False, runM_ap, attrM_ap, intM_ap, binX_ap, asgSw_ap, tupTg_ap, setLs_nil_ap, setLs_cons_ap, setAttrM_ap, cmp_is_nn, cmp_is_sn, min_ints, hl, pow31, hsw, hsw', e1, e2]
end Mine

/-! Ev9 -/
namespace Mine

inductive Comp (c : Nat) (mem : List MO) : Bool → List Nat → Prop
  | lev {cd b : Nat} : CompL c cd b mem → Comp c mem false [cd, b]
  | osa {cd b b2 : Nat} : CompO c cd b b2 mem → Comp c mem true [cd, b, b2]
noncomputable def distFM (sw : Bool) : FM := if sw then osD_fm else lvD_fm
def compCl (sw : Bool) : Addr := if sw then 810 else 770
theorem Comp.call {c : Nat} {mem : List MO} {sw : Bool} {own : List Nat} (h : Comp c mem sw own) {t1 t2 : FV} (h1 : TextLe 1000 t1) (h2 : TextLe 1000 t2) (lim : Int) :
    ∃ own' mem', Comp c mem' sw own' ∧ Frame own own' mem mem' ∧ distFM sw [.fl (.ref c), .fl t1, .fl t2, .fl (.int lim)] mem = some (.fl (.int (ans sw t1 t2 lim)), mem') := by
  cases h with
  | lev h => obtain ⟨b', mem', q1, q2, q3⟩ := lvD_call h h1 h2 lim; exact ⟨_, mem', .lev q1, q2, q3⟩
  | osa h => obtain ⟨b', b2', mem', q1, q2, q3⟩ := osD_call h h1 h2 lim; exact ⟨_, mem', .osa q1, q2, q3⟩
theorem Comp.inst {c : Nat} {mem : List MO} {sw : Bool} {own : List Nat} (h : Comp c mem sw own) : ∃ cd fs, mem[c]? = some (.inst (compCl sw) cd) ∧ mem[cd]? = some (.adict fs) ∧ fs.lookup (Str.ofString "distance") = none := by
  cases h with
  | lev h => exact ⟨_, _, h.inst, h.dict, rfl⟩
  | osa h => exact ⟨_, _, h.inst, h.dict, rfl⟩
theorem Comp.own_no {c : Nat} {mem : List MO} {sw : Bool} {own : List Nat} (h : Comp c mem sw own) {j : Nat} (hj : j ∈ own) : ∀ cl kd, mem[j]? ≠ some (.inst cl kd) := by
  cases h with
  | lev h =>
    intro cl kd e
    simp at hj
    rcases hj with rfl | rfl
    · rw [h.dict] at e; cases e
    · obtain ⟨bs, h3, _⟩ := h.base; rw [h3] at e; cases e
  | osa h =>
    intro cl kd e
    simp at hj
    rcases hj with rfl | rfl | rfl
    · rw [h.dict] at e; cases e
    · obtain ⟨bs, ps, h3, _⟩ := h.base; rw [h3] at e; cases e
    · obtain ⟨bs, ps, _, _, h3, _⟩ := h.base; rw [h3] at e; cases e

/-- an EditDistance in the memory -/
structure Meter (sw : Bool) (k : Nat) (own : List Nat) (mem : List MO) : Prop where
  here : ∃ kd c f, mem[k]? = some (.inst 728 kd) ∧ mem[kd]? = some (.adict [(Str.ofString "_algorithm", f), (Str.ofString "_distance_comparer", .ref c)]) ∧ Comp c mem sw own ∧ kd ∉ own

theorem edC_call {sw : Bool} {k : Nat} {own : List Nat} {mem : List MO} (h : Meter sw k own mem) {t1 t2 : FV} (h1 : TextLe 1000 t1) (h2 : TextLe 1000 t2) (lim : Int) :
    ∃ own' mem', Meter sw k own' mem' ∧ Frame own own' mem mem' ∧ edC_fm [.fl (.ref k), .fl t1, .fl t2, .fl (.int lim)] mem = some (.fl (.int (ans sw t1 t2 lim)), mem') := by
  obtain ⟨kd, c, f, q1, q2, q3, q4⟩ := h.here
  obtain ⟨own', mem', r1, r2, r3⟩ := q3.call h1 h2 lim
  obtain ⟨cd, fs, p1, p2, p3⟩ := q3.inst
  have hk : k ∉ own := fun hk => q3.own_no hk _ _ q1
  have hkl : k < mem.length := (List.getElem?_eq_some_iff.mp q1).1
  have hkdl : kd < mem.length := (List.getElem?_eq_some_iff.mp q2).1
  refine ⟨own', mem', ⟨kd, c, f, by rw [r2.keep k hkl hk]; exact q1, by rw [r2.keep kd hkdl q4]; exact q2, r1, fun hm => (r2.own kd hm).elim q4 (fun h => absurd hkdl (Nat.not_lt.mpr h))⟩, r2, ?_⟩
  have ha := fun l => attr_at (cls := [728]) (l := l) (name := "_distance_comparer") q1 (by decide) q2 (f := .ref c) rfl
  have htab : tab2 770 810 false lvD_fm osD_fm (compCl sw) = some (false, distFM sw) := by cases sw <;> rfl
  have hmeth := meth_at (tab := tab2 770 810 false lvD_fm osD_fm) (mo := attrM [728] (getL 0) "_distance_comparer") (name := "distance") (ms := [(getL 1), (getL 2), (getL 3)])
    (st := ⟨[sR k, some (.fl t1), some (.fl t2), sI lim], mem⟩) (s1 := ⟨[sR k, some (.fl t1), some (.fl t2), sI lim], mem⟩) (k := c) (by simp [getL_ap, setL_ap, cst_ap, binM_ap, cmpM_ap, andM_nil_ap, andM_cons_ap, orM_nil_ap, orM_cons_ap, iteM_ap, asg1_ap, asg2_ap, augM_ap, blkM_nil_ap, blkM_cons_ap, retM_ap, tupM_ap, seqM_nil_ap, seqM_cons_ap, flatL, subM_ap, subF_str, subF_list, setItemM_ap, setItemF_list, bltM_ap, blt_len_s, bin_add, bin_sub, cmp_eq_i, cmp_ne_i, cmp_lt_i, cmp_le_i, cmp_gt_i, cmp_ge_i, cmp_eq_c, cmp_ne_c, pd_True, pd_False, runM_ap, attrM_ap, intM_ap, binX_ap, asgSw_ap, tupTg_ap, setLs_nil_ap, setLs_cons_ap, setAttrM_ap, cmp_is_nn, cmp_is_sn, min_ints, ha]) p1 p2 p3 htab
  unfold edC_fm edC_mm edC_m edC_lp
  simp [getL_ap, setL_ap, cst_ap, binM_ap, cmpM_ap, andM_nil_ap, andM_cons_ap, orM_nil_ap, orM_cons_ap, iteM_ap, asg1_ap, asg2_ap, augM_ap, blkM_nil_ap, blkM_cons_ap, retM_ap, tupM_ap, seqM_nil_ap, seqM_cons_ap, flatL, subM_ap, subF_str, subF_list, setItemM_ap, setItemF_list, bltM_ap, blt_len_s, bin_add, bin_sub, cmp_eq_i, cmp_ne_i, cmp_lt_i, cmp_le_i, cmp_gt_i, cmp_ge_i, cmp_eq_c, cmp_ne_c, pd_True, pd_False, runM_ap, attrM_ap, intM_ap, binX_ap, asgSw_ap, tupTg_ap, setLs_nil_ap, setLs_cons_ap, setAttrM_ap, cmp_is_nn, cmp_is_sn, min_ints, hmeth, r3, retV]

theorem Comp.move {c : Nat} {mem mem' : List MO} {sw : Bool} {own : List Nat} (h : Comp c mem sw own) (hm : ∀ j x, mem[j]? = some x → (j ∈ own ∨ ∀ xs, x ≠ .list xs) → mem'[j]? = some x) : Comp c mem' sw own := by
  cases h with
  | lev h =>
    obtain ⟨bs, h1, h2⟩ := h.base
    exact .lev ⟨hm _ _ h.inst (.inr fun xs e => nomatch e), hm _ _ h.dict (.inr fun xs e => nomatch e), bs, hm _ _ h1 (.inl (by simp)), h2⟩
  | osa h =>
    obtain ⟨bs, ps, h1, h2, h3, h4, h5⟩ := h.base
    exact .osa ⟨hm _ _ h.inst (.inr fun xs e => nomatch e), hm _ _ h.dict (.inr fun xs e => nomatch e), h.ne, bs, ps, hm _ _ h1 (.inl (by simp)), h2, hm _ _ h3 (.inl (by simp)), h4, h5⟩
theorem Meter.move {sw : Bool} {k : Nat} {own : List Nat} {mem mem' : List MO} (h : Meter sw k own mem) (hm : ∀ j x, mem[j]? = some x → (j ∈ own ∨ ∀ xs, x ≠ .list xs) → mem'[j]? = some x) : Meter sw k own mem' := by
  obtain ⟨kd, c, f, q1, q2, q3, q4⟩ := h.here
  exact ⟨kd, c, f, hm _ _ q1 (.inr fun xs e => nomatch e), hm _ _ q2 (.inr fun xs e => nomatch e), q3.move hm, q4⟩
theorem Meter.frame {sw : Bool} {k : Nat} {own : List Nat} {mem mem' : List MO} (h : Meter sw k own mem) (F : Frame [] [] mem mem') : Meter sw k own mem' :=
  h.move fun j x e _ => by rw [F.keep j (List.getElem?_eq_some_iff.mp e).1 (fun h => nomatch h)]; exact e
theorem Meter.setL {sw : Bool} {k : Nat} {own : List Nat} {mem : List MO} (h : Meter sw k own mem) {t : Nat} {xs : List PV} (ht : mem[t]? = some (.list xs)) (hn : t ∉ own) (y : MO) : Meter sw k own (mem.set t y) :=
  h.move fun j x e hj => by
    have : t ≠ j := fun e' => by
      subst e'
      rw [ht] at e; cases e
      rcases hj with hj | hj
      · exact hn hj
      · exact hj _ rfl
    rw [List.getElem?_set_ne this]; exact e

/-! making one -/
def memL (mem : List MO) : List MO := mem ++ [.adict [(Str.ofString "_algorithm", .obj 668), (Str.ofString "_distance_comparer", .ref (mem.length + 3))], .inst 728 mem.length, .adict [(nB, .ref (mem.length + 4))], .inst 770 (mem.length + 2), .list []]
def memO2 (mem : List MO) : List MO := mem ++ [.adict [(Str.ofString "_algorithm", .obj 670), (Str.ofString "_distance_comparer", .ref (mem.length + 3))], .inst 728 mem.length, .adict [(nB, .ref (mem.length + 4)), (nP, .ref (mem.length + 5))], .inst 810 (mem.length + 2), .list [], .list []]
theorem listM_nil (l : List (Option PV)) (mem : List MO) : listM [] ⟨l, mem⟩ = some (.fl (.ref mem.length), ⟨l, mem ++ [.list []]⟩) := rfl
theorem lvI_call (mem : List MO) : lvI_fm [.fl (.ref (mem.length + 1))] (mem ++ [.adict [], .inst 770 mem.length]) = some (.fl .none, mem ++ [.adict [(nB, .ref (mem.length + 2))], .inst 770 mem.length, .list []]) := by
  unfold lvI_fm lvI_mm lvI_m lvI_lp
  have i1 : (mem ++ [MO.adict [], .inst 770 mem.length, .list []])[mem.length + 1]? = some (.inst 770 mem.length) := by simp
  have d1 : (mem ++ [MO.adict [], .inst 770 mem.length, .list []])[mem.length]? = some (.adict []) := by simp
  have hset := fun l => setAttr_at (cls := [770]) (l := l) (name := nB) (f := .ref (mem.length + 2)) i1 (by decide) d1 (by simp)
  have e : (mem ++ [MO.adict [], .inst 770 mem.length, .list []]).set mem.length (.adict (putF nB (.ref (mem.length + 2)) [])) = mem ++ [.adict [(nB, .ref (mem.length + 2))], .inst 770 mem.length, .list []] := by
    simp [putF]
  simp only [e] at hset
  simp [getL_ap, setL_ap, cst_ap, binM_ap, cmpM_ap, andM_nil_ap, andM_cons_ap, orM_nil_ap, orM_cons_ap, iteM_ap, asg1_ap, asg2_ap, augM_ap, blkM_nil_ap, blkM_cons_ap, retM_ap, tupM_ap, seqM_nil_ap, seqM_cons_ap, flatL, subM_ap, subF_str, subF_list, setItemM_ap, setItemF_list, bltM_ap, blt_len_s, bin_add, bin_sub, cmp_eq_i, cmp_ne_i, cmp_lt_i, cmp_le_i, cmp_gt_i, cmp_ge_i, cmp_eq_c, cmp_ne_c, pd_True, pd_False, runM_ap, attrM_ap, intM_ap, binX_ap, asgSw_ap, tupTg_ap, setLs_nil_ap, setLs_cons_ap, setAttrM_ap, cmp_is_nn, cmp_is_sn, min_ints, listM_nil, newL_ap, hset, retV]

theorem osI_call (mem : List MO) : osI_fm [.fl (.ref (mem.length + 1))] (mem ++ [.adict [], .inst 810 mem.length]) = some (.fl .none, mem ++ [.adict [(nB, .ref (mem.length + 2)), (nP, .ref (mem.length + 3))], .inst 810 mem.length, .list [], .list []]) := by
  unfold osI_fm osI_mm osI_m osI_lp
  have i1 : (mem ++ [MO.adict [], .inst 810 mem.length, .list []])[mem.length + 1]? = some (.inst 810 mem.length) := by simp
  have d1 : (mem ++ [MO.adict [], .inst 810 mem.length, .list []])[mem.length]? = some (.adict []) := by simp
  have hset := fun l => setAttr_at (cls := [810]) (l := l) (name := nB) (f := .ref (mem.length + 2)) i1 (by decide) d1 (by simp)
  have e : (mem ++ [MO.adict [], .inst 810 mem.length, .list []]).set mem.length (.adict (putF nB (.ref (mem.length + 2)) [])) = mem ++ [.adict [(nB, .ref (mem.length + 2))], .inst 810 mem.length, .list []] := by
    simp [putF]
  simp only [e] at hset
  have i2 : (mem ++ [MO.adict [(nB, .ref (mem.length + 2))], .inst 810 mem.length, .list [], .list []])[mem.length + 1]? = some (.inst 810 mem.length) := by simp
  have d2 : (mem ++ [MO.adict [(nB, .ref (mem.length + 2))], .inst 810 mem.length, .list [], .list []])[mem.length]? = some (.adict [(nB, .ref (mem.length + 2))]) := by simp
  have hset2 := fun l => setAttr_at (cls := [810]) (l := l) (name := nP) (f := .ref (mem.length + 3)) i2 (by decide) d2 (by simp)
  have e2 : (mem ++ [MO.adict [(nB, .ref (mem.length + 2))], .inst 810 mem.length, .list [], .list []]).set mem.length (.adict (putF nP (.ref (mem.length + 3)) [(nB, .ref (mem.length + 2))])) = mem ++ [.adict [(nB, .ref (mem.length + 2)), (nP, .ref (mem.length + 3))], .inst 810 mem.length, .list [], .list []] := by
    have e3 : putF nP (.ref (mem.length + 3)) [(nB, .ref (mem.length + 2))] = [(nB, FV.ref (mem.length + 2)), (nP, .ref (mem.length + 3))] := rfl
    rw [e3]; simp
  simp only [e2] at hset2
  simp [getL_ap, setL_ap, cst_ap, binM_ap, cmpM_ap, andM_nil_ap, andM_cons_ap, orM_nil_ap, orM_cons_ap, iteM_ap, asg1_ap, asg2_ap, augM_ap, blkM_nil_ap, blkM_cons_ap, retM_ap, tupM_ap, seqM_nil_ap, seqM_cons_ap, flatL, subM_ap, subF_str, subF_list, setItemM_ap, setItemF_list, bltM_ap, blt_len_s, bin_add, bin_sub, cmp_eq_i, cmp_ne_i, cmp_lt_i, cmp_le_i, cmp_gt_i, cmp_ge_i, cmp_eq_c, cmp_ne_c, pd_True, pd_False, runM_ap, attrM_ap, intM_ap, binX_ap, asgSw_ap, tupTg_ap, setLs_nil_ap, setLs_cons_ap, setAttrM_ap, cmp_is_nn, cmp_is_sn, min_ints, listM_nil, newL_ap, hset, hset2, retV]

theorem cmpObj_ap (objs : List Addr) (k : Nat) (a b : Addr) (l : List (Option PV)) (mem : List MO) (h : l[k]? = some (some (.fl (.obj a)))) (ha : objs.contains a = true) (hb : objs.contains b = true) : cmpObjM objs (getL k) (cst (.fl (.obj b))) ⟨l, mem⟩ = some (a == b, ⟨l, mem⟩) := by
  unfold cmpObjM bindM getL cst liftO cmpObjF
  simp only [h, ha, hb, Bool.and_true, if_true]

theorem edI_lev (mem : List MO) : edI_fm [.fl (.ref (mem.length + 1)), .fl (.obj 668)] (mem ++ [.adict [], .inst 728 mem.length]) = some (.fl .none, memL mem) := by
  unfold edI_fm edI_mm edI_m edI_lp memL
  have i1 : (mem ++ [MO.adict [], .inst 728 mem.length])[mem.length + 1]? = some (.inst 728 mem.length) := by simp
  have d1 : (mem ++ [MO.adict [], .inst 728 mem.length])[mem.length]? = some (.adict []) := by simp
  have hset := fun l => setAttr_at (cls := [728]) (l := l) (name := Str.ofString "_algorithm") (f := .obj 668) i1 (by decide) d1 (by simp)
  have e : (mem ++ [MO.adict [], .inst 728 mem.length]).set mem.length (.adict (putF (Str.ofString "_algorithm") (.obj 668) [])) = mem ++ [.adict [(Str.ofString "_algorithm", .obj 668)], .inst 728 mem.length] := by
    simp [putF]
  simp only [e] at hset
  have hmk : makeF 770 lvI_fm [] (mem ++ [.adict [(Str.ofString "_algorithm", .obj 668)], .inst 728 mem.length]) = some (.fl (.ref (mem.length + 3)), mem ++ [.adict [(Str.ofString "_algorithm", .obj 668)], .inst 728 mem.length, .adict [(nB, .ref (mem.length + 4))], .inst 770 (mem.length + 2), .list []]) := by
    have h0 := lvI_call (mem ++ [.adict [(Str.ofString "_algorithm", .obj 668)], .inst 728 mem.length])
    simp at h0
    unfold makeF
    simp [h0]
  have i2 : (mem ++ [MO.adict [(Str.ofString "_algorithm", .obj 668)], .inst 728 mem.length, .adict [(nB, .ref (mem.length + 4))], .inst 770 (mem.length + 2), .list []])[mem.length + 1]? = some (.inst 728 mem.length) := by simp
  have d2 : (mem ++ [MO.adict [(Str.ofString "_algorithm", .obj 668)], .inst 728 mem.length, .adict [(nB, .ref (mem.length + 4))], .inst 770 (mem.length + 2), .list []])[mem.length]? = some (.adict [(Str.ofString "_algorithm", .obj 668)]) := by simp
  have hset2 := fun l => setAttr_at (cls := [728]) (l := l) (name := Str.ofString "_distance_comparer") (f := .ref (mem.length + 3)) i2 (by decide) d2 (by simp)
  have e3 : putF (Str.ofString "_distance_comparer") (.ref (mem.length + 3)) [(Str.ofString "_algorithm", .obj 668)] = [(Str.ofString "_algorithm", FV.obj 668), (Str.ofString "_distance_comparer", .ref (mem.length + 3))] := rfl
  simp only [e3] at hset2
  have hc := fun l mem' (h : l[1]? = some (some (PV.fl (.obj 668)))) => cmpObj_ap [668, 670, 676] 1 668 668 l mem' h (by decide) (by decide)
  simp [getL_ap, setL_ap, cst_ap, binM_ap, cmpM_ap, andM_nil_ap, andM_cons_ap, orM_nil_ap, orM_cons_ap, iteM_ap, asg1_ap, asg2_ap, augM_ap, blkM_nil_ap, blkM_cons_ap, retM_ap, tupM_ap, seqM_nil_ap, seqM_cons_ap, flatL, subM_ap, subF_str, subF_list, setItemM_ap, setItemF_list, bltM_ap, blt_len_s, bin_add, bin_sub, cmp_eq_i, cmp_ne_i, cmp_lt_i, cmp_le_i, cmp_gt_i, cmp_ge_i, cmp_eq_c, cmp_ne_c, pd_True, pd_False, runM_ap, attrM_ap, intM_ap, binX_ap, asgSw_ap, tupTg_ap, setLs_nil_ap, setLs_cons_ap, setAttrM_ap, cmp_is_nn, cmp_is_sn, min_ints, hset, hset2, hc, hmk, retV]
theorem edI_osa (mem : List MO) : edI_fm [.fl (.ref (mem.length + 1)), .fl (.obj 670)] (mem ++ [.adict [], .inst 728 mem.length]) = some (.fl .none, memO2 mem) := by
  unfold edI_fm edI_mm edI_m edI_lp memO2
  have i1 : (mem ++ [MO.adict [], .inst 728 mem.length])[mem.length + 1]? = some (.inst 728 mem.length) := by simp
  have d1 : (mem ++ [MO.adict [], .inst 728 mem.length])[mem.length]? = some (.adict []) := by simp
  have hset := fun l => setAttr_at (cls := [728]) (l := l) (name := Str.ofString "_algorithm") (f := .obj 670) i1 (by decide) d1 (by simp)
  have e : (mem ++ [MO.adict [], .inst 728 mem.length]).set mem.length (.adict (putF (Str.ofString "_algorithm") (.obj 670) [])) = mem ++ [.adict [(Str.ofString "_algorithm", .obj 670)], .inst 728 mem.length] := by
    simp [putF]
  simp only [e] at hset
  have hmk : makeF 810 osI_fm [] (mem ++ [.adict [(Str.ofString "_algorithm", .obj 670)], .inst 728 mem.length]) = some (.fl (.ref (mem.length + 3)), mem ++ [.adict [(Str.ofString "_algorithm", .obj 670)], .inst 728 mem.length, .adict [(nB, .ref (mem.length + 4)), (nP, .ref (mem.length + 5))], .inst 810 (mem.length + 2), .list [], .list []]) := by
    have h0 := osI_call (mem ++ [.adict [(Str.ofString "_algorithm", .obj 670)], .inst 728 mem.length])
    simp at h0
    unfold makeF
    simp [h0]
  have i2 : (mem ++ [MO.adict [(Str.ofString "_algorithm", .obj 670)], .inst 728 mem.length, .adict [(nB, .ref (mem.length + 4)), (nP, .ref (mem.length + 5))], .inst 810 (mem.length + 2), .list [], .list []])[mem.length + 1]? = some (.inst 728 mem.length) := by simp
  have d2 : (mem ++ [MO.adict [(Str.ofString "_algorithm", .obj 670)], .inst 728 mem.length, .adict [(nB, .ref (mem.length + 4)), (nP, .ref (mem.length + 5))], .inst 810 (mem.length + 2), .list [], .list []])[mem.length]? = some (.adict [(Str.ofString "_algorithm", .obj 670)]) := by simp
  have hset2 := fun l => setAttr_at (cls := [728]) (l := l) (name := Str.ofString "_distance_comparer") (f := .ref (mem.length + 3)) i2 (by decide) d2 (by simp)
  have e3 : putF (Str.ofString "_distance_comparer") (.ref (mem.length + 3)) [(Str.ofString "_algorithm", .obj 670)] = [(Str.ofString "_algorithm", FV.obj 670), (Str.ofString "_distance_comparer", .ref (mem.length + 3))] := rfl
  simp only [e3] at hset2
  have hc := fun l mem' (h : l[1]? = some (some (PV.fl (.obj 670)))) => cmpObj_ap [668, 670, 676] 1 670 668 l mem' h (by decide) (by decide)
  have hc2 := fun l mem' (h : l[1]? = some (some (PV.fl (.obj 670)))) => cmpObj_ap [668, 670, 676] 1 670 670 l mem' h (by decide) (by decide)
  simp [getL_ap, setL_ap, cst_ap, binM_ap, cmpM_ap, andM_nil_ap, andM_cons_ap, orM_nil_ap, orM_cons_ap, iteM_ap, asg1_ap, asg2_ap, augM_ap, blkM_nil_ap, blkM_cons_ap, retM_ap, tupM_ap, seqM_nil_ap, seqM_cons_ap, flatL, subM_ap, subF_str, subF_list, setItemM_ap, setItemF_list, bltM_ap, blt_len_s, bin_add, bin_sub, cmp_eq_i, cmp_ne_i, cmp_lt_i, cmp_le_i, cmp_gt_i, cmp_ge_i, cmp_eq_c, cmp_ne_c, pd_True, pd_False, runM_ap, attrM_ap, intM_ap, binX_ap, asgSw_ap, tupTg_ap, setLs_nil_ap, setLs_cons_ap, setAttrM_ap, cmp_is_nn, cmp_is_sn, min_ints, hset, hset2, hc, hc2, hmk, retV]

theorem meter_new (sw : Bool) (mem : List MO) : ∃ own mem', makeF 728 edI_fm [.fl (.obj (if sw then 670 else 668))] mem = some (.fl (.ref (mem.length + 1)), mem') ∧ Meter sw (mem.length + 1) own mem' ∧ Frame [] own mem mem' := by
  cases sw with
  | false =>
    refine ⟨[mem.length + 2, mem.length + 4], memL mem, ?_, ⟨mem.length, mem.length + 3, .obj 668, by simp [memL], by simp [memL], .lev (b := mem.length + 4) ⟨by simp [memL], by simp [memL], [], by simp [memL], by simp⟩, by simp⟩, by simp [memL], fun j hj _ => List.getElem?_append_left hj, fun j hj => ?_⟩
    · unfold makeF
      have h0 := edI_lev mem
      simp [h0]
    · simp at hj; right; omega
  | true =>
    refine ⟨[mem.length + 2, mem.length + 4, mem.length + 5], memO2 mem, ?_, ⟨mem.length, mem.length + 3, .obj 670, by simp [memO2], by simp [memO2], .osa (b := mem.length + 4) ⟨by simp [memO2], by simp [memO2], by simp, [], [], by simp [memO2], by simp, by simp [memO2], rfl, fun k hk => absurd hk (Nat.not_lt_zero _)⟩, by simp⟩, by simp [memO2], fun j hj _ => List.getElem?_append_left hj, fun j hj => ?_⟩
    · unfold makeF
      have h0 := edI_osa mem
      simp [h0]
    · simp at hj; right; omega
end Mine

/-! Ref15 -/
namespace Mine

/-! sets of pairs as own objects -/
theorem TupI.key {prog : Program} {w : World} {h : Heap} {i j : Nat} {b : Addr} (x : TupI h i j b) : IsTupleKey (intKind prog w) h [(i : Int), (j : Int)] b := by
  obtain ⟨items, t, u, ⟨o, ho, hc, n, hd⟩, hi⟩ := x
  refine ⟨o, items, n, ho, hc, hd, ?_⟩
  rw [hi]
  exact .cons (by simp [intKind, Value.isInt]) (.cons (by simp [intKind, Value.isInt]) .nil)
theorem TupI.ofKey {prog : Program} {w : World} {h : Heap} {i j : Nat} {b : Addr} (x : IsTupleKey (intKind prog w) h [(i : Int), (j : Int)] b) : TupI h i j b := by
  obtain ⟨o, items, n, ho, hc, hd, hi⟩ := x
  generalize hl : items.toList = l at hi
  cases hi with
  | cons h1 hi =>
    cases hi with
    | cons h2 hi =>
      cases hi
      obtain ⟨t, rfl⟩ := Value.isInt_shape h1
      obtain ⟨u, rfl⟩ := Value.isInt_shape h2
      exact ⟨items, t, u, ⟨o, ho, hc, n, hd⟩, hl⟩
theorem PS.pset {prog : Program} {w : World} {h : Heap} {a : Addr} {xs o es ep t} (S : PS h a xs o es ep t) : PSet prog w h a xs o es ep t :=
  ⟨S.here, S.exact, S.data, S.tab, S.mask, S.few, fun i e he => let ⟨p, g1, b, g2, g3⟩ := S.ent i e he; ⟨p, g1, b, g2, g3.key⟩, S.has, S.dom⟩
theorem PSet.ps {prog : Program} {w : World} {h : Heap} {a : Addr} {xs o es ep t} (S : PSet prog w h a xs o es ep t) : PS h a xs o es ep t :=
  ⟨S.here, S.exact, S.data, S.tab, S.mask, S.few, fun i e he => let ⟨p, g1, b, g2, g3⟩ := S.ent i e he; ⟨p, g1, b, g2, TupI.ofKey g3⟩, S.has, S.dom⟩

theorem tab_fresh (m : Nat) (led : Bool) : TabOk (SetTable.fresh 0 m led) #[] := by
  refine ⟨⟨?_, rfl⟩, rfl, fun i j h => by simp [SetTable.fresh] at h, by simp, fun i j _ _ h => by simp at h, fun i e he => by simp at he⟩
  intro i j hij hj
  simp [SetTable.fresh] at hj

section
variable {C : Cx}

/-! set() -/
def newPS : Mo PV := fun st => some (.fl (.ref st.mem.length), { st with mem := st.mem ++ [.pset []] })
theorem EvE.setNew (O : C.Ok) {p pos : Pos} (B : IsBuiltin C "set" (.type "set")) : EvE C (.Call (.Name "set" p) [] [] pos) newPS := by
  intro φ st s v st' R hm
  cases hm
  refine wpAny_Call_NameR (B.eval O R (by decide) ?_)
  refine PySem.callWith_type (by rfl) (evalArgs_nil3 ?_)
  refine call_set_0 fun led => ?_
  have W := R.alloc (o := { cls := .type "set", dict := none, data := .set #[] 0 (.fresh 0 0 led) }) (mo := .pset []) fun φ' _ =>
    ⟨_, _, _, _, ⟨Heap.get?_push_size _ rfl, ⟨rfl, rfl, rfl⟩, rfl, tab_fresh 0 led, .inl rfl, by show (0 : Nat) * 5 < 7 * 3; omega, fun i e he => by simp at he, fun p hp => (nomatch hp), fun p hp => (nomatch hp)⟩⟩
  refine ⟨_, W.2, W.1, _, ?_, rfl⟩
  rw [← R.memlen]; simp

/-! x in s -/
noncomputable def inPSF (st : St) : PV → PV → Option Bool
  | .tup [.int i, .int j], .fl (.ref k) => if pd (0 ≤ i ∧ i < 6 ∧ 0 ≤ j ∧ j < 6) = true then (match st.mem[k]? with | some (.pset xs) => some (pd ((i.toNat, j.toNat) ∈ xs)) | _ => none) else none
  | _, _ => none
noncomputable def inPSM (ml mr : Mo PV) : Mo Bool := bindM ml fun a => bindM mr fun b st => (inPSF st a b).map (·, st)
theorem RFs.pair {φ : List Addr} {h : Heap} {a : Addr} {items : Array Value} {i j : Nat} (ht : h.IsTuple a items) (r : RFs φ items.toList [.int (i : Int), .int (j : Int)]) : TupI h i j a := by
  generalize hl : items.toList = l at r
  match l, r with
  | [x, y], ⟨⟨t, hx⟩, ⟨u, hy⟩, _⟩ => exact ⟨items, t, u, ht, by rw [hl, hx, hy]⟩
theorem EvT.inPS (O : C.Ok) {l r : Expr} {pos} {ml mr : Mo PV} (hl : EvE C l ml) (hr : EvE C r mr) (hb : behindInMarks .In r = false) : EvT C (.Compare l [.In] [r] pos) (inPSM ml mr) := by
  intro φ st s v st' R hm
  obtain ⟨a, st₁, h1, hm⟩ := bindM_some hm
  obtain ⟨b, st₂, h2, hm⟩ := bindM_some hm
  obtain ⟨c, hc, e⟩ := Option.map_eq_some_iff.mp hm
  cases e
  refine wpAny_isTrue_Compare1 (ev2 hl hr R h1 h2 fun φ₂ ca cb s₂ X₂ R₂ ra rb => ?_) hb
  unfold inPSF at hc
  split at hc
  · rename_i i j k _
    split at hc
    · rename_i hij
      obtain ⟨h0, h6, g0, g6⟩ := pd_of hij
      split at hc
      · rename_i xs hmem
        cases hc
        obtain ⟨x, items, rfl, ht, hr⟩ := ra
        obtain ⟨a, ha, rfl⟩ := rb
        obtain ⟨o, es, ep, t, S⟩ := R₂.mem k _ a hmem ha
        obtain ⟨i, rfl⟩ := Int.eq_ofNat_of_zero_le h0
        obtain ⟨j, rfl⟩ := Int.eq_ofNat_of_zero_le g0
        have hk := (RFs.pair ht hr).key (prog := C.prog) (w := C.w)
        refine in_pset (by have := O.hu; omega) (by omega) (by omega) hk S.pset fun tk => ?_
        refine wpAny_truthy_bool ⟨?_, φ₂, X₂, R₂.toks _⟩
        rw [pd_dec]; rfl
      · cases hc
    · cases hc
  · cases hc

/-! s.add(x) as a statement -/
noncomputable def addPSF (a b : PV) (st : St) : Option (Fl × St) := match a, b with
  | .fl (.ref k), .tup [.int i, .int j] => if pd (0 ≤ i ∧ i < 6 ∧ 0 ≤ j ∧ j < 6) = true then (match st.mem[k]? with
    | some (.pset xs) => if pd ((i.toNat, j.toNat) ∉ xs) = true then some (.next, setMem k (.pset ((i.toNat, j.toNat) :: xs)) st) else none
    | _ => none) else none
  | _, _ => none
def isPS (a : PV) (st : St) : Bool := match a with
  | .fl (.ref k) => (match st.mem[k]? with | some (.pset _) => true | _ => false)
  | _ => false
noncomputable def addPSM (ml me : Mo PV) : Mo Fl := bindM ml fun a => fun st => if isPS a st = true then (bindM me fun b => addPSF a b) st else none
theorem ps_notTuple {h : Heap} {a : Addr} {xs o es ep t} (S : PS h a xs o es ep t) (its : Array Value) : ¬ h.IsTuple a its := by
  rintro ⟨o', ho, hc, _⟩
  rw [S.here] at ho; cases ho
  rw [S.exact.1] at hc
  exact absurd (Value.type.inj hc) (by decide)
theorem EvS.addPS (O : C.Ok) {o e : Expr} {apos pos spos : Pos} {ml me : Mo PV} (hl : EvE C o ml) (he : EvE C e me) (hi : interactive C.env = false)
    (hbase : attributeBase o "add" C.env (eval o C.env) = eval o C.env) (hst : starEach [e] C.env = [(false, eval e C.env)]) (hline : (apos.endLine == pos.line) = true) :
    EvS C (.Expr (.Call (.Attribute o "add" apos) [e] [] pos) spos) (addPSM ml me) := by
  intro φ st s fl st' R h
  obtain ⟨a, st₁, h1, h⟩ := bindM_some h
  have h0 : (if isPS a st₁ = true then (bindM me fun b => addPSF a b) st₁ else none) = some (fl, st') := h
  clear h
  split at h0
  case isFalse => cases h0
  rename_i hk1
  obtain ⟨b, st₂, h2, h'⟩ := bindM_some h0
  unfold addPSF at h'
  split at h'
  · rename_i k i j
    split at h'
    · rename_i hij
      obtain ⟨z0, z6, g0, g6⟩ := pd_of hij
      split at h'
      · rename_i xs hmem
        split at h'
        · rename_i hnot
          have hnot := pd_of hnot
          cases h'
          refine wpAny_Expr ?_ hi (by rfl)
          refine wpAny_Call_method (T := "set") (id := "set.add") hbase (by rw [hst]; rfl) hline F.plainAttrs_set F.slot_set_add F.type_set_add (wpAny_mono (hl φ st s _ st₁ R h1) (fun ca s₁ hp => ?_) fun _ _ x => x)
          obtain ⟨φ₁, X₁, R₁, v₁⟩ := hp
          obtain ⟨A, hA, rfl⟩ := v₁
          unfold isPS at hk1
          dsimp only at hk1
          have hob : ∃ ys o es ep t, PS s₁.heap A ys o es ep t := by
            cases hm1 : st₁.mem[k]? with
            | none => rw [hm1] at hk1; cases hk1
            | some mo =>
              rw [hm1] at hk1
              cases mo with
              | pset ys => obtain ⟨o, es, ep, t, S⟩ := R₁.mem k _ A hm1 hA; exact ⟨ys, o, es, ep, t, S⟩
              | _ => cases hk1
          obtain ⟨ys, o, es, ep, t, S⟩ := hob
          refine ⟨⟨o, S.here, S.exact.1⟩, fun a ea => by cases ea; exact ⟨_, S.here, S.exact.2.1⟩, ?_⟩
          rw [hst]
          refine Calls.callWith_builtin (by rfl) (Calls.evalArgs_plain (Calls.spliced_cons (wpAny_mono (he φ₁ st₁ s₁ _ st₂ R₁ h2) (fun cb s₂ hp => ?_) fun _ _ x => x)))
          obtain ⟨φ₂, X₂, R₂, v₂⟩ := hp
          refine Calls.spliced_nil ?_
          have hA2 := prefix_get X₂.pre hA
          obtain ⟨o2, es2, ep2, t2, S2⟩ := R₂.mem k _ A hmem hA2
          obtain ⟨x, items, rfl, ht, hr⟩ := v₂
          obtain ⟨i, rfl⟩ := Int.eq_ofNat_of_zero_le z0
          obtain ⟨j, rfl⟩ := Int.eq_ofNat_of_zero_le g0
          have hk := (RFs.pair ht hr).key (prog := C.prog) (w := C.w)
          refine addTo_pset (by have := O.hu; omega) (by omega) (by omega) hk S2.pset hnot fun h' o' es' ep' t' tk hs' S' => ?_
          have W := R₂.update (tk := tk) hA2 hs' (ps_notTuple S2) (mo := .pset ((i, j) :: xs)) fun K => ⟨_, _, _, _, S'.ps⟩
          exact ⟨φ₂, (X₁.trans X₂).toExt.trans W.2, W.1, trivial⟩
        · cases h'
      · cases h'
    · cases h'
  · cases h'
end
end Mine

/-! Ref16 -/
namespace Mine
theorem RVs.drop {φ : List Addr} {h : Heap} : ∀ {vs : List Value} {fs : List PV}, RVs φ h vs fs → ∀ n, RVs φ h (vs.drop n) (fs.drop n)
  | _, _, x, 0 => x
  | [], [], _, _ + 1 => trivial
  | _ :: _, _ :: _, x, n + 1 => RVs.drop x.2 n
theorem RVs.take {φ : List Addr} {h : Heap} : ∀ {vs : List Value} {fs : List PV}, RVs φ h vs fs → ∀ n, RVs φ h (vs.take n) (fs.take n)
  | [], [], _, 0 => trivial
  | _ :: _, _ :: _, _, 0 => trivial
  | [], [], _, _ + 1 => trivial
  | _ :: _, _ :: _, x, n + 1 => ⟨x.1, RVs.take x.2 n⟩
section
variable {C : Cx}

/-! x or y, as a value: none or a text -/
def orVM (ma mb : Mo PV) : Mo PV := bindM ma fun v => match v with
  | .fl .none => mb
  | .fl (.str x) => fun st => if x.length < 2 ^ 20 then (if x.length = 0 then mb st else some (.fl (.str x), st)) else none
  | _ => fun _ => none
theorem EvE.orV {a b : Expr} {pos : Pos} {ma mb : Mo PV} (ha : EvE C a ma) (hb : EvE C b mb) : EvE C (.BoolOp .Or [a, b] pos) (orVM ma mb) := by
  intro φ st s r st' R hm
  obtain ⟨v, st₁, h1, hm⟩ := bindM_some hm
  refine BoolOp_or (wpAny_mono (ha φ st s v st₁ R h1) (fun cv s₁ hp => ?_) fun _ _ x => x)
  obtain ⟨φ₁, X₁, R₁, v₁⟩ := hp
  split at hm
  · rw [show cv = .none from v₁]
    refine truthy_none ?_
    simp only [Bool.false_eq_true, if_false]
    exact BoolOp_one (wpAny_mono (hb φ₁ st₁ s₁ r st' R₁ hm) (fun _ _ x => x.trans X₁) fun _ _ x => x)
  · rename_i x
    obtain ⟨t, rfl⟩ := v₁
    split at hm
    · rename_i hx
      refine PySem.P.truthy_str (by omega) ?_
      split at hm
      · rename_i h0
        have e : ((x.length : Int) != 0) = false := by rw [h0]; rfl
        rw [e]
        simp only [Bool.false_eq_true, if_false]
        exact BoolOp_one (wpAny_mono (hb φ₁ st₁ _ r st' (R₁.toks (s₁.toks + 1 + 1)) hm) (fun _ _ x => x.trans X₁) fun _ _ x => x)
      · rename_i h0
        cases hm
        have e : ((x.length : Int) != 0) = true := by simpa using h0
        rw [e]
        simp only [if_true]
        exact ⟨φ₁, X₁, R₁.toks _, RV.str⟩
    · cases hm
  · cases hm

/-! texts put together -/
def addSF : PV → PV → Option PV
  | .fl (.str x), .fl (.str y) => if x.length + y.length < 2 ^ 20 then some (.fl (.str (x ++ y))) else none
  | _, _ => none
def addSM (ml mr : Mo PV) : Mo PV := bindM ml fun a => bindM mr fun b => liftO (addSF a b)
theorem EvE.addS {l r : Expr} {pos} {ml mr : Mo PV} (hl : EvE C l ml) (hr : EvE C r mr) : EvE C (.BinOp l .Add r pos) (addSM ml mr) := by
  intro φ st s v st' R hm
  obtain ⟨a, st₁, h1, hm⟩ := bindM_some hm
  obtain ⟨b, st₂, h2, hm⟩ := bindM_some hm
  obtain ⟨hc, rfl⟩ := liftO_some hm
  refine wpAny_BinOp (ev2 hl hr R h1 h2 fun φ₂ ca cb s₂ X₂ R₂ ra rb => ?_)
  unfold addSF at hc
  split at hc
  · obtain ⟨t, rfl⟩ := ra; obtain ⟨u, rfl⟩ := rb
    split at hc
    · rename_i hsz
      cases hc
      exact PyProof.Rows.add_str (fun t' tk => ⟨φ₂, X₂, R₂.toks _, RV.str⟩) (by rw [sizeLine_eq]; omega)
    · cases hc
  · cases hc

/-! '..'.join(a list of texts) -/
def strsL : List PV → Option (List Str)
  | [] => some []
  | .fl (.str s) :: r => (strsL r).map (s :: ·)
  | _ => none
theorem strsL_ok {φ : List Addr} {h : Heap} : ∀ {cvs : List Value} {vs : List PV} {ys : List Str}, RVs φ h cvs vs → strsL vs = some ys → StrsAre cvs ys
  | [], [], _, _, e => by cases e; exact .nil
  | c :: cs, .fl (.str s) :: r, ys, x, e => by
    obtain ⟨ys', e', rfl⟩ := Option.map_eq_some_iff.mp e
    obtain ⟨⟨t, rfl⟩, x⟩ := x
    exact .cons _ _ (strsL_ok x e')
  | _ :: _, .fl .none :: _, _, _, e => by cases e
  | _ :: _, .fl (.bool _) :: _, _, _, e => by cases e
  | _ :: _, .fl (.int _) :: _, _, _, e => by cases e
  | _ :: _, .fl (.ref _) :: _, _, _, e => by cases e
  | _ :: _, .fl (.obj _) :: _, _, _, e => by cases e
  | _ :: _, .tup _ :: _, _, _, e => by cases e
def joinF (st : St) : PV → PV → Option PV
  | .fl (.str x), .fl (.ref k) => match st.mem[k]? with
    | some (.list xs) => (match strsL xs with
      | some ys => if x.length ≤ 16 ∧ (ys.map (·.length)).sum + ys.length ≤ 1048576 then some (.fl (.str (Txt.join x ys))) else none
      | none => none)
    | _ => none
  | _, _ => none
def joinM (x : Str) (m : Mo PV) : Mo PV := bindM m fun b st => (joinF st (.fl (.str x)) b).map (·, st)
theorem EvE.join {x : Str} {e : Expr} {kp apos pos : Pos} {m : Mo PV} {ck} (he : EvE C e m)
    (hbase : attributeBase (.Constant (.str x) ck kp) "join" C.env (eval (.Constant (.str x) ck kp) C.env) = eval (.Constant (.str x) ck kp) C.env)
    (hst : starEach [e] C.env = [(false, eval e C.env)]) (hline : (apos.endLine == pos.line) = true) :
    EvE C (.Call (.Attribute (.Constant (.str x) ck kp) "join" apos) [e] [] pos) (joinM x m) := by
  intro φ st s v st' R hm
  obtain ⟨b, st₂, h2, hm⟩ := bindM_some hm
  obtain ⟨c, hc, e'⟩ := Option.map_eq_some_iff.mp hm
  cases e'
  refine wpAny_Call_method (T := "str") (id := "str.join") hbase (by rw [hst]; rfl) hline F.plainAttrs_str F.slot_str_join F.type_str_join ?_
  show wpAny C.M C.A (mkText x) _ _ s
  refine wpAny_mkText ⟨typeIs_str _ _ _, fun a ea => (nomatch ea), ?_⟩
  rw [hst]
  refine Calls.callWith_builtin (by rfl) (Calls.evalArgs_plain (Calls.spliced_cons (wpAny_mono (he φ st _ _ st' (R.toks (s.toks + 1)) h2) (fun cb s₂ hp => ?_) fun _ _ x => x)))
  obtain ⟨φ₂, X₂, R₂, v₂⟩ := hp
  refine Calls.spliced_nil ?_
  unfold joinF at hc
  split at hc
  · rename_i x' k' hx
    cases hx
    split at hc
    · rename_i xs hmem
      split at hc
      · rename_i ys hys
        split at hc
        · rename_i hw
          cases hc
          obtain ⟨A, hA, rfl⟩ := v₂
          obtain ⟨items, hl, hr⟩ := R₂.listAt hmem hA
          exact join_listW hl.isList (strsL_ok hr hys) hw.1 hw.2 fun t' k => ⟨φ₂, X₂, R₂.toks _, RV.str⟩
        · cases hc
      · cases hc
    · cases hc
  · cases hc

/-! l[i:] and l[:j] of an own list -/
def slF (st : St) : PV → Option PV → Option PV → Option (List PV)
  | .fl (.ref k), lo, hi => match st.mem[k]? with
    | some (.list xs) => if xs.length ≤ 2 ^ 20 then (match lo, hi with
      | some (.fl (.int i)), none => if 0 ≤ i then some (xs.drop i.toNat) else none
      | none, some (.fl (.int j)) => if 0 ≤ j then some (xs.take j.toNat) else none
      | _, _ => none) else none
    | _ => none
  | _, _, _ => none
def optM : Option (Mo PV) → Mo (Option PV)
  | none => fun st => some (none, st)
  | some m => bindM m fun v st => some (some v, st)
def sliceM (ml : Mo PV) (lo hi : Option (Mo PV)) : Mo PV := bindM ml fun a => bindM (optM lo) fun l => bindM (optM hi) fun h st => match slF st a l h with
  | some ys => newL ys st
  | none => none
inductive EvO (C : Cx) : Option Expr → Option (Mo PV) → Prop
  | none : EvO C none none
  | some {e m} : EvE C e m → EvO C (some e) (some m)
def RO (φ : List Addr) (h : Heap) (v : Value) : Option PV → Prop
  | none => v = .none
  | some p => RV φ h v p
theorem RO.mono {φ φ' : List Addr} {h h' : Heap} (hp : φ <+: φ') (hk : Keep h h') {v : Value} {p : Option PV} (x : RO φ h v p) : RO φ' h' v p := by
  cases p with
  | none => exact x
  | some p => exact RV.mono hp hk x
theorem evO {e : Option Expr} {m : Option (Mo PV)} (h : EvO C e m) {φ st s v st'} (R : Rep C φ st s) (hm : optM m st = some (v, st')) :
    wpAny C.M C.A (evalPart e C.env) (fun cv s' => ∃ φ', ExtE C φ s.heap φ' s'.heap ∧ Rep C φ' st' s' ∧ RO φ' s'.heap cv v) noE s := by
  cases h with
  | none => cases hm; rw [evalPart_none]; exact wpAny_pure ⟨φ, ExtE.refl _ _, R, rfl⟩
  | some h =>
    obtain ⟨u, st₁, h1, hm⟩ := bindM_some hm
    cases hm
    rw [evalPart_some]
    exact h φ st s u _ R h1
theorem EvE.slice {v : Expr} {lo hi : Option Expr} {p pos : Pos} {ml : Mo PV} {mlo mhi : Option (Mo PV)} (hv : EvE C v ml) (hlo : EvO C lo mlo) (hhi : EvO C hi mhi) : EvE C (.Subscript v (.Slice lo hi none p) pos) (sliceM ml mlo mhi) := by
  intro φ st s r st' R hm
  obtain ⟨a, st₁, h1, hm⟩ := bindM_some hm
  obtain ⟨l, st₂, h2, hm⟩ := bindM_some hm
  obtain ⟨u, st₃, h3, hm⟩ := bindM_some hm
  cases hs : slF st₃ a l u with
  | none => simp only [hs] at hm; cases hm
  | some ys =>
    simp only [hs] at hm
    cases hm
    refine Subscript_ (wpAny_mono (hv φ st s a st₁ R h1) (fun ca s₁ hp => ?_) fun _ _ x => x)
    obtain ⟨φ₁, X₁, R₁, v₁⟩ := hp
    refine wpAny_Slice (wpAny_mono (evO hlo R₁ h2) (fun cl s₂ hp => ?_) fun _ _ x => x)
    obtain ⟨φ₂, X₂, R₂, v₂⟩ := hp
    refine wpAny_mono (evO hhi R₂ h3) (fun cu s₃ hp => ?_) fun _ _ x => x
    obtain ⟨φ₃, X₃, R₃, v₃⟩ := hp
    rw [evalPart_none]
    refine wpAny_pure ?_
    have v₁' := (v₁.mono X₂.pre X₂.tup).mono X₃.pre X₃.tup
    have v₂' := v₂.mono X₃.pre X₃.tup
    unfold slF at hs
    split at hs
    · rename_i k _ _
      obtain ⟨A, hA, rfl⟩ := v₁'
      split at hs
      · rename_i xs hmem
        split at hs
        · rename_i hlen0
          obtain ⟨items, hl, hr⟩ := R₃.listAt hmem hA
          have hlen := hr.length
          have hsz : items.size = xs.length := by simpa using hlen
          -- what is picked
          have pick : ∃ lo' hi', IsPart cl lo' ∧ IsPart cu hi' ∧ RVs φ₃ s₃.heap (slicePick items lo' hi' none).toList ys := by
            split at hs
            · rename_i i
              split at hs
              · rename_i hi0
                cases hs
                obtain ⟨t, rfl⟩ := v₂'
                rw [show cu = .none from v₃]
                obtain ⟨n, rfl⟩ := Int.eq_ofNat_of_zero_le hi0
                refine ⟨_, _, .int _ _, .none, ?_⟩
                rw [slicePick_from']
                exact RVs.drop hr n
              · cases hs
            · rename_i j
              split at hs
              · rename_i hj0
                cases hs
                obtain ⟨t, rfl⟩ := v₃
                rw [show cl = .none from v₂']
                obtain ⟨n, rfl⟩ := Int.eq_ofNat_of_zero_le hj0
                refine ⟨_, _, .none, .int _ _, ?_⟩
                rw [slicePick_upto']
                exact RVs.take hr n
              · cases hs
            · cases hs
          obtain ⟨lo', hi', p1, p2, p3⟩ := pick
          refine tail_any (hl.isList.push _).typeIs slot_list_getitem.lookup (wpAny_getItem_list_slice (hl.isList.push _) (Heap.IsSliceOf.new ..) p1 p2 .none (by simp) ?_ (by rw [sizeLine_eq]; omega)) (ops := [_, _]) rfl
          have Rp := R₃.push { cls := .type "slice", data := .fields #[cl, cu, .none] }
          have K1 : Keep s₃.heap (s₃.heap.push { cls := .type "slice", data := .fields #[cl, cu, .none] }) := Keep.all fun _ _ e => Heap.get?_push_of_some _ e
          have W := Rp.alloc (o := { cls := .type "list", data := .seq (slicePick items lo' hi' none) }) (mo := .list ys) fun φ' hp => ⟨_, ⟨0, Heap.get?_push_size _ rfl⟩,
            p3.mono hp (K1.trans (Keep.all fun _ _ e => Heap.get?_push_of_some _ e))⟩
          have XX : ExtE C φ₃ s₃.heap φ₃ (s₃.heap.push { cls := .type "slice", data := .fields #[cl, cu, .none] }) := ExtE.all fun _ _ e => Heap.get?_push_of_some _ e
          have esz : (s₃.heap.push { cls := .type "slice", data := .fields #[cl, cu, .none] }).objs.size = s₃.heap.objs.size + 1 := Heap.size_push _ _
          rw [esz] at W
          dsimp only
          rw [esz]
          refine ⟨_, ((X₁.trans X₂).trans X₃).trans (XX.trans W.2), W.1, s₃.heap.objs.size + 1, ?_, rfl⟩
          rw [← R₃.memlen]; simp
        · cases hs
      · cases hs
    · cases hs
end
end Mine

/-! Ref17 -/
namespace Mine
section
variable {C : Cx}

/-- a list of whole numbers, written out -/
def intsOf : List Expr → Option (List Int)
  | [] => some []
  | .Constant (.int i) _ _ :: r => (intsOf r).map (i :: ·)
  | _ => none
theorem EvEs.ints : ∀ {es : List Expr} {is : List Int}, intsOf es = some is → EvEs C es (is.map fun i => cst (.fl (.int i)))
  | [], _, e => by cases e; exact .nil
  | .Constant (.int i) _ _ :: es, is, e => by
    obtain ⟨is', e', rfl⟩ := Option.map_eq_some_iff.mp e
    exact .cons EvE.int rfl (EvEs.ints e')

/-- a def that gives back such a list: kept apart from the evaluation -/
theorem retInts {C : Cx} {body : List Stmt} {m : Mo Fl} (key : ∀ P : List Stmt → Mo Fl → Prop, (∀ es p q is, intsOf es = some is → P [.Return (some (.List es p)) q] (blkM [retM (listM (is.map fun i => cst (.fl (.int i))))])) → P body m) : EvB C body m :=
  key (EvB C) fun _ _ _ _ h => EvB.cons (EvS.ret (EvE.list (EvEs.ints h))) EvB.nil

/-! two lists of whole numbers side by side -/
def intsL : List PV → Option (List Int)
  | [] => some []
  | .fl (.int i) :: r => (intsL r).map (i :: ·)
  | _ => none
theorem intsL_ok {φ : List Addr} {h : Heap} : ∀ {cvs : List Value} {vs : List PV} {ns : List Int}, RVs φ h cvs vs → intsL vs = some ns → ns.length = cvs.length ∧ ∀ (j : Nat) (v : Value), cvs[j]? = some v → ∃ t, v = .int (ns.getD j 0) t
  | [], [], _, _, e => by cases e; exact ⟨rfl, fun j v hj => by simp at hj⟩
  | c :: cs, .fl (.int i) :: r, ns, x, e => by
    obtain ⟨ns', e', rfl⟩ := Option.map_eq_some_iff.mp e
    obtain ⟨⟨t, rfl⟩, x⟩ := x
    obtain ⟨h1, h2⟩ := intsL_ok x e'
    refine ⟨by simp [h1], fun j v hj => ?_⟩
    cases j with
    | zero => simp at hj; subst hj; exact ⟨t, rfl⟩
    | succ j => obtain ⟨u, hu⟩ := h2 j v (by simpa using hj); exact ⟨u, by simpa using hu⟩
  | _ :: _, .fl .none :: _, _, _, e => by cases e
  | _ :: _, .fl (.bool _) :: _, _, _, e => by cases e
  | _ :: _, .fl (.str _) :: _, _, _, e => by cases e
  | _ :: _, .fl (.ref _) :: _, _, _, e => by cases e
  | _ :: _, .fl (.obj _) :: _, _, _, e => by cases e
  | _ :: _, .tup _ :: _, _, _, e => by cases e
def eqLF (st : St) : PV → PV → Option Bool
  | .fl (.ref k), .fl (.ref k') => match st.mem[k]?, st.mem[k']? with
    | some (.list xs), some (.list ys) => (match intsL xs, intsL ys with
      | some ns, some ms => some (decide (ns = ms))
      | _, _ => none)
    | _, _ => none
  | _, _ => none
def eqLM (ml mr : Mo PV) : Mo PV := bindM ml fun a => bindM mr fun b st => (eqLF st a b).map fun c => (.fl (.bool c), st)
theorem all_eq {ns ms : List Int} (h : ns.length = ms.length) : (List.range ns.length).all (fun j => ns.getD j 0 == ms.getD j 0) = decide (ns = ms) := by
  rw [Bool.eq_iff_iff, List.all_eq_true, decide_eq_true_iff]
  refine ⟨fun x => List.ext_getElem h fun j h1 h2 => ?_, fun e j _ => by rw [e]; exact beq_self_eq_true _⟩
  have := x j (List.mem_range.mpr h1)
  rw [beq_iff_eq] at this
  simpa [List.getD_eq_getElem?_getD, List.getElem?_eq_getElem h1, List.getElem?_eq_getElem h2] using this
theorem EvE.eqL (O : C.Ok) {l r : Expr} {pos} {ml mr : Mo PV} (hl : EvE C l ml) (hr : EvE C r mr) (hb : behindInMarks .Eq r = false) : EvE C (.Compare l [.Eq] [r] pos) (eqLM ml mr) := by
  intro φ st s v st' R hm
  obtain ⟨a, st₁, h1, hm⟩ := bindM_some hm
  obtain ⟨b, st₂, h2, hm⟩ := bindM_some hm
  obtain ⟨c, hc, e⟩ := Option.map_eq_some_iff.mp hm
  cases e
  refine wpAny_Compare1 (ev2 hl hr R h1 h2 fun φ₂ ca cb s₂ X₂ R₂ ra rb => ?_) hb
  unfold eqLF at hc
  split at hc
  · rename_i k k' _
    split at hc
    · rename_i xs ys hk hk'
      split at hc
      · rename_i ns ms hn hms
        cases hc
        obtain ⟨a, ha, rfl⟩ := ra
        obtain ⟨b, hb, rfl⟩ := rb
        obtain ⟨items, hl, hr⟩ := R₂.listAt hk ha
        obtain ⟨items', hl', hr'⟩ := R₂.listAt hk' hb
        obtain ⟨e1, e2⟩ := intsL_ok hr hn
        obtain ⟨f1, f2⟩ := intsL_ok hr' hms
        have hu : C.A.units < cLine := by have := O.hu; omega
        have g1 : items.size = ns.length := by rw [e1]; simp
        have g2 : items'.size = ms.length := by rw [f1]; simp
        by_cases hsz : items.size = items'.size
        · refine SeqAt.eq_listAt (e := fun j => ns.getD j 0 == ms.getD j 0) hl.isList hl'.isList hsz hu (fun j h1 h2 => ?_) ?_
          · obtain ⟨t, ht⟩ := e2 j items[j] (by rw [Array.getElem?_toList]; exact Array.getElem?_eq_getElem h1)
            obtain ⟨u, hu'⟩ := f2 j items'[j] (by rw [Array.getElem?_toList]; exact Array.getElem?_eq_getElem h2)
            rw [ht, hu']
            exact SeqAt.EqAt.int_int _ _ _ _
          · rw [g1, all_eq (by omega)]
            exact ⟨φ₂, X₂, R₂, rfl⟩
        · refine SeqAt.eq_list_lengthsAt hl.isList hl'.isList (by simpa using hsz) hu ?_
          have : decide (ns = ms) = false := by
            rw [decide_eq_false_iff_not]; intro e; subst e; omega
          rw [this]
          exact ⟨φ₂, X₂, R₂, rfl⟩
      · cases hc
    · cases hc
  · cases hc

/-! a list that is handed in: it stands -/
def BaseList (C : Cx) (bs : Addr) (xs : List PV) : Prop := ∃ items, C.s₀.heap.IsList bs items ∧ RVs [] C.s₀.heap items.toList xs
def lenBM (bs : Addr) (xs : List PV) (m : Mo PV) : Mo PV := bindM m fun v st => match v with
  | .fl (.obj a) => if a = bs ∧ xs.length < 2 ^ 20 then some (.fl (.int xs.length), st) else none
  | _ => none
theorem EvE.lenB (O : C.Ok) {bs : Addr} {xs : List PV} (H : BaseList C bs xs) {e : Expr} {p pos : Pos} {m : Mo PV} (B : IsBuiltin C "len" (.builtin "len")) (h : EvE C e m) (hs : starEach [e] C.env = [(false, eval e C.env)]) :
    EvE C (.Call (.Name "len" p) [e] [] pos) (lenBM bs xs m) := by
  intro φ st s v st' R hm
  obtain ⟨u, st₁, h1, hq⟩ := bindM_some hm
  clear hm
  split at hq
  · rename_i a
    split at hq
    · rename_i hc
      obtain ⟨rfl, hc⟩ := hc
      cases hq
      refine wpAny_Call_NameR (B.eval O R (by decide) ?_)
      rw [hs]
      refine Calls.callWith_builtin (by rfl) (Calls.evalArgs_plain (Calls.spliced_cons (wpAny_mono (h φ st s _ _ R h1) (fun cv s₁ hp => ?_) fun _ _ x => x)))
      obtain ⟨φ₁, X₁, R₁, v₁⟩ := hp
      rw [show cv = .ref a from v₁]
      obtain ⟨items, hl, hr⟩ := H
      have hlen := hr.length
      have hsz : items.size = xs.length := by simpa using hlen
      refine Calls.spliced_nil (Calls.call_len_list (hl.at fun o e => R₁.keep _ _ e) (by omega) ?_)
      rw [hsz]
      exact ⟨φ₁, X₁, R₁.toks _, RV.int⟩
    · cases hq
  · cases hq
def addBM (bs : Addr) (xs : List PV) (ml mr : Mo PV) : Mo PV := bindM ml fun a => bindM mr fun b st => match a, b with
  | .fl (.obj a), .fl (.ref k) => if a = bs then (match st.mem[k]? with
    | some (.list ys) => if xs.length + ys.length ≤ 2 ^ 20 then newL (xs ++ ys) st else none
    | _ => none) else none
  | _, _ => none
theorem EvE.addB (O : C.Ok) {bs : Addr} {xs : List PV} (H : BaseList C bs xs) {l r : Expr} {pos} {ml mr : Mo PV} (hl : EvE C l ml) (hr : EvE C r mr) : EvE C (.BinOp l .Add r pos) (addBM bs xs ml mr) := by
  intro φ st s v st' R hm
  obtain ⟨a, st₁, h1, hq1⟩ := bindM_some hm
  obtain ⟨b, st₂, h2, hq⟩ := bindM_some hq1
  clear hm hq1
  refine wpAny_BinOp (ev2 hl hr R h1 h2 fun φ₂ ca cb s₂ X₂ R₂ ra rb => ?_)
  split at hq
  · rename_i a k
    split at hq
    · rename_i he
      subst he
      split at hq
      · rename_i ys hmem
        split at hq
        · rename_i hsz
          cases hq
          rw [show ca = .ref a from ra]
          obtain ⟨B, hB, rfl⟩ := rb
          obtain ⟨items, hl, hr⟩ := H
          have hl2 := hl.at fun o e => R₂.keep _ _ e
          obtain ⟨items', hl', hr'⟩ := R₂.listAt hmem hB
          have q1 := hr.length
          have q2 := hr'.length
          have r1 : items.size = xs.length := by simpa using q1
          have r2 : items'.size = ys.length := by simpa using q2
          obtain ⟨⟨cls, dd, data, sl⟩, ho, hc, n, hd⟩ := hl2
          obtain ⟨⟨cls2, dd2, data2, sl2⟩, ho2, hc2, n2, hd2⟩ := hl'.isList
          simp only at hc hd hc2 hd2
          subst hc hd hc2 hd2
          refine concat_meets ⟨_, ho, rfl⟩ ⟨_, ho2, rfl⟩ noFill_list_add seq_list_add PySem.F.slot_list_add PySem.F.entry_list_add (PySem.F.args_list_add_2 _ _) (list_addW a B items items' n n2 dd dd2 sl sl2 (by rw [sizeLine_eq]; omega)) ⟨ho, ho2, ?_⟩
          have W := R₂.alloc (o := { cls := .type "list", data := .seq (items ++ items') }) (mo := .list (xs ++ ys)) fun φ' hp => ⟨_, ⟨0, Heap.get?_push_size _ rfl⟩, by
            have K0 : Keep C.s₀.heap (s₂.heap.push { cls := .type "list", data := .seq (items ++ items') }) := Keep.all fun _ _ e => Heap.get?_push_of_some _ (R₂.keep _ _ e)
            rw [Array.toList_append]
            exact (hr.mono (List.nil_prefix) K0).app (hr'.mono hp (Keep.all fun _ _ e => Heap.get?_push_of_some _ e))⟩
          refine ⟨_, X₂.trans W.2, W.1, s₂.heap.objs.size, ?_, rfl⟩
          rw [← R₂.memlen]; simp
        · cases hq
      · cases hq
    · cases hq
  · cases hq

/-! for over a range with a step, all fixed -/
def forRange3M (a c : Int) (n : Nat) (f : PV → Mo Unit) (b : Mo Fl) : Mo Fl := loopR f b c n a
theorem EvS.forRange3 (O : C.Ok) {t : Expr} {p rpos pos : Pos} {a b c : Int} {k1 k2 k3} {p1 p2 p3 : Pos} {body : List Stmt} {f : PV → Mo Unit} {mb : Mo Fl} (B : IsBuiltin C "range" (.type "range")) (n : Nat)
    (hc : c ≠ 0) (hsm : Builtin.Range.small a b c = true) (hn : Builtin.Range.rangeSize a b c = (n : Int)) (hpl : Builtin.divisionGoesByPylong (b - a) c = false)
    (ht : EvTg C t f) (hb : EvB C body mb) (htu : ∀ I v, letOwnedTupleGo t (.ref I) v = pure ())
    (hst : starEach [.Constant (.int a) k1 p1, .Constant (.int b) k2 p2, .Constant (.int c) k3 p3] C.env = [(false, eval (.Constant (.int a) k1 p1) C.env), (false, eval (.Constant (.int b) k2 p2) C.env), (false, eval (.Constant (.int c) k3 p3) C.env)])
    (hs : ∀ x, foldedSetIterable (.Call (.Name "range" p) [.Constant (.int a) k1 p1, .Constant (.int b) k2 p2, .Constant (.int c) k3 p3] [] rpos) C.env x = pure x) :
    EvS C (.For t (.Call (.Name "range" p) [.Constant (.int a) k1 p1, .Constant (.int b) k2 p2, .Constant (.int c) k3 p3] [] rpos) body [] pos) (forRange3M a c n f mb) := by
  intro φ st s fl st' R hm
  refine wpAny_For (wpAny_Call_NameR (B.eval O R (by decide) ?_)) hs
  rw [hst]
  refine PySem.callWith_type (by rfl) (Calls.evalArgs_plain (Calls.spliced_cons (wpAny_Constant_int (k := k1) (pos := p1) (Calls.spliced_cons (wpAny_Constant_int (k := k2) (pos := p2) (Calls.spliced_cons (wpAny_Constant_int (k := k3) (pos := p3) (Calls.spliced_nil ?_))))))))
  refine call_range_3 hc ?_ (Or.inl hpl)
  refine wpAny_pyIter_range (IsRange.new ..) hsm ?_
  rw [hn]
  have hk : ∀ b' o', s.heap.get? b' = some o' → ((s.heap.push { cls := .type "range", data := .fields #[.int a s.toks, .int b (s.toks + 1), .int c (s.toks + 1 + 1)] }).push { cls := .type "range_iterator", data := .fields #[rawInt a, rawInt (n : Int), rawInt c] }).get? b' = some o' :=
    fun _ _ e => Heap.get?_push_of_some _ (Heap.get?_push_of_some _ e)
  have hI : s.heap.get? (s.heap.push { cls := .type "range", data := .fields #[.int a s.toks, .int b (s.toks + 1), .int c (s.toks + 1 + 1)] }).objs.size = none := by
    cases e : s.heap.get? (s.heap.push { cls := .type "range", data := .fields #[.int a s.toks, .int b (s.toks + 1), .int c (s.toks + 1 + 1)] }).objs.size with
    | none => rfl
    | some o' => exact absurd (Heap.lt_size e) (by rw [Heap.size_push]; exact Nat.not_lt.mpr (Nat.le_succ _))
  exact loopR_ok O ht hb (htu _) hI (fun cf s' hp => hp) (Ext.all hk) (R.kept (tk := s.toks + 1 + 1 + 1) hk) (R.side hI) (by show Heap.get? _ _ = _; exact Heap.get?_push_size _ rfl) hm
end
end Mine

/-! Fn4 -/
namespace Mine

def lim_names : List Str := []
def lim_body : List Stmt := stBody PySem.Challenge.pw_fe0312_01 21
def lim_scope : Scope := stScope PySem.Challenge.pw_fe0312_01 21
def lim_params : Arguments := stParams PySem.Challenge.pw_fe0312_01 21
noncomputable def lim_m   : Mo Fl :=
  (blkM [(retM (listM (([1, 2, 3, 0, 4, 6, 1000000000000000000000000000000] : List Int).map fun i => cst (.fl (.int i)))))])
theorem lim_key (P : List Stmt → Mo Fl → Prop) (h : ∀ es p q is, intsOf es = some is → P [.Return (some (.List es p)) q] (blkM [retM (listM (is.map fun i => cst (.fl (.int i))))])) : P lim_body lim_m := h _ _ _ _ (by rfl)
theorem lim_ok : ∀ (C : Cx), EvB C lim_body lim_m := @fun C => @retInts C lim_body lim_m lim_key

def rest_names : List Str := []
def rest_body : List Stmt := stBody PySem.Challenge.pw_fe0312_01 22
def rest_scope : Scope := stScope PySem.Challenge.pw_fe0312_01 22
def rest_params : Arguments := stParams PySem.Challenge.pw_fe0312_01 22
noncomputable def rest_m   : Mo Fl :=
  (blkM [(retM (listM (([0, 89, 572, 1, 1650, 54, 2, 26, 236, 0, 6, 26, 3] : List Int).map fun i => cst (.fl (.int i)))))])
theorem rest_key (P : List Stmt → Mo Fl → Prop) (h : ∀ es p q is, intsOf es = some is → P [.Return (some (.List es p)) q] (blkM [retM (listM (is.map fun i => cst (.fl (.int i))))])) : P rest_body rest_m := h _ _ _ _ (by rfl)
theorem rest_ok : ∀ (C : Cx), EvB C rest_body rest_m := @fun C => @retInts C rest_body rest_m rest_key

def txt_names : List Str := []
def txt_body : List Stmt := stBody PySem.Challenge.pw_fe0312_01 23
def txt_scope : Scope := stScope PySem.Challenge.pw_fe0312_01 23
def txt_params : Arguments := stParams PySem.Challenge.pw_fe0312_01 23
noncomputable def txt_m  (c_number : FV) : Mo Fl :=
  (blkM [(iteM (cmpM .Eq (binX .Mod (cst (.fl c_number)) (cst (.fl (.int 7)))) (cst (.fl (.int 6)))) (blkM [(retM (cst (.fl .none)))]) (blkM [])),
  (retM (joinM (Str.ofString "") (compM [(binX .Mod (cst (.fl c_number)) (cst (.fl (.int 7))))] (subM (cst (.fl (.str (Str.ofString "ab ")))) (binX .Mod (binX .FloorDiv (binX .FloorDiv (cst (.fl c_number)) (cst (.fl (.int 7)))) (binX .Pow (cst (.fl (.int 3))) (getL 0))) (cst (.fl (.int 3))))))))])
theorem txt_ok {prog : Program} {w : World} {A : Around} {L gl blt : Addr} {cells : List (Str × Addr)} {qual : Str} {func frame : Option Addr} {code : Value} {s₀ : Shared} {mg mb : Str → Option Value} {K : Frag}  (c_number : FV)
    {C : Cx} (hC : C = ⟨prog, w, A, ⟨txt_scope, L, gl, cells, qual, func, code, frame, blt⟩, txt_names, s₀, mg, mb, K⟩) (O : C.Ok) (b_range : IsBuiltin C "range" (.type "range")) (hc_number : IsCellVar C "number" c_number) : EvB C txt_body (txt_m c_number) := by
  subst hC
  obtain ⟨cc, cv, hcc, hcell, hcf⟩ := hc_number.at_
  exact (EvB.cons (EvS.ite (EvT.cmp (EvE.binX (EvE.cell O hc_number (by decide)) EvE.int) EvE.int rfl) (EvB.cons (EvS.ret EvE.noneC)
  EvB.nil) EvB.nil)
  (EvB.cons (EvS.ret (EvE.join (EvE.comp O b_range (EvEs.cons (EvE.binX (EvE.cell O hc_number (by decide)) EvE.int) rfl EvEs.nil) (List.cons_ne_nil _ _) (CompScope.one rfl rfl hcc) (fun C2 O2 _ _ _ hn2 he2 _ _ hk2 => (EvE.sub EvE.str (EvE.binX (EvE.binX (EvE.binX (EvE.cell O2 (comp_cell O hc_number hcc rfl (by decide) (by decide) he2 hk2) (by decide)) EvE.int) (EvE.binX EvE.int (EvE.loc O2 (names0 hn2) (by decide)))) EvE.int) (fun _ _ => rfl))) (fun _ => rfl)) rfl rfl rfl))
  EvB.nil))

def edt_names : List Str := [Str.ofString "one", Str.ofString "two", Str.ofString "steps", Str.ofString "most", Str.ofString "edge", Str.ofString "seen", Str.ofString "done", Str.ofString "further", Str.ofString "i", Str.ofString "j", Str.ofString "rest", Str.ofString "more", Str.ofString "down", Str.ofString "right", Str.ofString "spot"]
def edt_body : List Stmt := stBody PySem.Challenge.pw_fe0312_01 24
def edt_scope : Scope := stScope PySem.Challenge.pw_fe0312_01 24
def edt_params : Arguments := stParams PySem.Challenge.pw_fe0312_01 24
noncomputable def edt_m (n1 : Nat)  : Mo Fl :=
  (blkM [(asgSw (tupM [(listM [(tupM [(cst (.fl (.int 0))), (cst (.fl (.int 0)))])]), newPS]) [5, 4]),
  (forRangeM [(binM .Add (getL 3) (cst (.fl (.int 1))))] (setL 6) (blkM [(asg1 (listM []) (setL 7)),
  (forListM 1000 (getL 4) (tupTg [8, 9]) (blkM [(whileM n1 (andM [(cmpM .Lt (getL 8) (bltM "len" [(getL 0)])), (cmpM .Lt (getL 9) (bltM "len" [(getL 1)])), (cmpM .Eq (subM (getL 0) (getL 8)) (subM (getL 1) (getL 9)))]) (blkM [(augM .Add 8 (cst (.fl (.int 1)))),
  (augM .Add 9 (cst (.fl (.int 1))))])),
  (asgSw (tupM [(binM .Sub (bltM "len" [(getL 0)]) (getL 8)), (binM .Sub (bltM "len" [(getL 1)]) (getL 9))]) [11, 10]),
  (iteM (andM [(cmpM .Eq (getL 10) (cst (.fl (.int 0)))), (cmpM .Eq (getL 11) (cst (.fl (.int 0))))]) (blkM [(retM (getL 6))]) (blkM [])),
  (forListM 1000 (getL 2) (tupTg [12, 13]) (blkM [(asg1 (tupM [(binM .Add (getL 8) (getL 12)), (binM .Add (getL 9) (getL 13))]) (setL 14)),
  (iteM (orM [(cmpM .Gt (getL 12) (getL 10)), (cmpM .Gt (getL 13) (getL 11)), (inPSM (getL 14) (getL 5))]) (blkM [(fun st => some (.cont, st))]) (blkM [])),
  (iteM (cmpM .GtE (bltM "abs" [(binM .Add (binM .Sub (binM .Sub (getL 10) (getL 12)) (getL 11)) (getL 13))]) (binM .Sub (getL 3) (getL 6))) (blkM [(fun st => some (.cont, st))]) (blkM [])),
  (iteM (andM [(cmpM .Eq (getL 12) (cst (.fl (.int 2)))), (orM [(cmpM .NotEq (subM (getL 0) (getL 8)) (subM (getL 1) (binM .Add (getL 9) (cst (.fl (.int 1)))))), (cmpM .NotEq (subM (getL 0) (binM .Add (getL 8) (cst (.fl (.int 1))))) (subM (getL 1) (getL 9)))])]) (blkM [(fun st => some (.cont, st))]) (blkM [])),
  (addPSM (getL 5) (getL 14)),
  (appM (getL 7) (getL 14))]))])),
  (asg1 (getL 7) (setL 4))])),
  (retM (cst (.fl (.int (-1)))))])
theorem edt_ok {prog : Program} {w : World} {A : Around} {L gl blt : Addr} {cells : List (Str × Addr)} {qual : Str} {func frame : Option Addr} {code : Value} {s₀ : Shared} {mg mb : Str → Option Value} {K : Frag} (n1 : Nat) 
    {C : Cx} (hC : C = ⟨prog, w, A, ⟨edt_scope, L, gl, cells, qual, func, code, frame, blt⟩, edt_names, s₀, mg, mb, K⟩) (O : C.Ok) (b_set : IsBuiltin C "set" (.type "set")) (b_range : IsBuiltin C "range" (.type "range")) (b_len : IsBuiltin C "len" (.builtin "len")) (b_abs : IsBuiltin C "abs" (.builtin "abs")) : EvB C edt_body (edt_m n1) := by
  subst hC
  exact (EvB.cons (EvS.assignSw O (xs := [Str.ofString "edge", Str.ofString "seen"]) (ks := [5, 4]) (EvE.tuple (EvEs.cons (EvE.list (EvEs.cons (EvE.tuple (EvEs.cons EvE.int rfl (EvEs.cons EvE.int rfl EvEs.nil))) rfl EvEs.nil)) rfl (EvEs.cons (EvE.setNew O b_set) rfl EvEs.nil))) (sw_hx rfl) rfl rfl rfl)
  (EvB.cons (EvS.forRange O b_range (EvEs.cons (EvE.bin (EvE.loc O rfl (by decide)) EvE.int) rfl EvEs.nil) (List.cons_ne_nil _ _) (EvTg.name O rfl) (EvB.cons (EvS.assign (EvE.list EvEs.nil) (EvTg.name O rfl) rfl rfl rfl)
  (EvB.cons (EvS.forList O 1000 (EvE.loc O rfl (by decide)) (EvTg.tuple O (NamesAt.cons rfl (fun _ => rfl) (NamesAt.cons rfl (fun _ => rfl) NamesAt.nil))) (EvB.cons (EvS.while n1 (EvT.and (EvTs.cons (EvT.cmp (EvE.loc O rfl (by decide)) (EvE.blt O b_len (by decide) (EvEs.cons (EvE.loc O rfl (by decide)) rfl EvEs.nil) (List.cons_ne_nil _ _)) rfl) (EvTs.cons (EvT.cmp (EvE.loc O rfl (by decide)) (EvE.blt O b_len (by decide) (EvEs.cons (EvE.loc O rfl (by decide)) rfl EvEs.nil) (List.cons_ne_nil _ _)) rfl) (EvTs.cons (EvT.cmp (EvE.sub (EvE.loc O rfl (by decide)) (EvE.loc O rfl (by decide)) (fun _ _ => rfl)) (EvE.sub (EvE.loc O rfl (by decide)) (EvE.loc O rfl (by decide)) (fun _ _ => rfl)) rfl) EvTs.nil)))) (EvB.cons (EvS.aug O rfl EvE.int)
  (EvB.cons (EvS.aug O rfl EvE.int)
  EvB.nil)))
  (EvB.cons (EvS.assignSw O (xs := [Str.ofString "rest", Str.ofString "more"]) (ks := [11, 10]) (EvE.tuple (EvEs.cons (EvE.bin (EvE.blt O b_len (by decide) (EvEs.cons (EvE.loc O rfl (by decide)) rfl EvEs.nil) (List.cons_ne_nil _ _)) (EvE.loc O rfl (by decide))) rfl (EvEs.cons (EvE.bin (EvE.blt O b_len (by decide) (EvEs.cons (EvE.loc O rfl (by decide)) rfl EvEs.nil) (List.cons_ne_nil _ _)) (EvE.loc O rfl (by decide))) rfl EvEs.nil))) (sw_hx rfl) rfl rfl rfl)
  (EvB.cons (EvS.ite (EvT.and (EvTs.cons (EvT.cmp (EvE.loc O rfl (by decide)) EvE.int rfl) (EvTs.cons (EvT.cmp (EvE.loc O rfl (by decide)) EvE.int rfl) EvTs.nil))) (EvB.cons (EvS.ret (EvE.loc O rfl (by decide)))
  EvB.nil) EvB.nil)
  (EvB.cons (EvS.forList O 1000 (EvE.loc O rfl (by decide)) (EvTg.tuple O (NamesAt.cons rfl (fun _ => rfl) (NamesAt.cons rfl (fun _ => rfl) NamesAt.nil))) (EvB.cons (EvS.assign (EvE.tuple (EvEs.cons (EvE.bin (EvE.loc O rfl (by decide)) (EvE.loc O rfl (by decide))) rfl (EvEs.cons (EvE.bin (EvE.loc O rfl (by decide)) (EvE.loc O rfl (by decide))) rfl EvEs.nil))) (EvTg.name O rfl) rfl rfl rfl)
  (EvB.cons (EvS.ite (EvT.or (EvTs.cons (EvT.cmp (EvE.loc O rfl (by decide)) (EvE.loc O rfl (by decide)) rfl) (EvTs.cons (EvT.cmp (EvE.loc O rfl (by decide)) (EvE.loc O rfl (by decide)) rfl) (EvTs.cons (EvT.inPS O (EvE.loc O rfl (by decide)) (EvE.loc O rfl (by decide)) rfl) EvTs.nil)))) (EvB.cons EvS.cont
  EvB.nil) EvB.nil)
  (EvB.cons (EvS.ite (EvT.cmp (EvE.blt O b_abs (by decide) (EvEs.cons (EvE.bin (EvE.bin (EvE.bin (EvE.loc O rfl (by decide)) (EvE.loc O rfl (by decide))) (EvE.loc O rfl (by decide))) (EvE.loc O rfl (by decide))) rfl EvEs.nil) (List.cons_ne_nil _ _)) (EvE.bin (EvE.loc O rfl (by decide)) (EvE.loc O rfl (by decide))) rfl) (EvB.cons EvS.cont
  EvB.nil) EvB.nil)
  (EvB.cons (EvS.ite (EvT.and (EvTs.cons (EvT.cmp (EvE.loc O rfl (by decide)) EvE.int rfl) (EvTs.cons (EvT.or (EvTs.cons (EvT.cmp (EvE.sub (EvE.loc O rfl (by decide)) (EvE.loc O rfl (by decide)) (fun _ _ => rfl)) (EvE.sub (EvE.loc O rfl (by decide)) (EvE.bin (EvE.loc O rfl (by decide)) EvE.int) (fun _ _ => rfl)) rfl) (EvTs.cons (EvT.cmp (EvE.sub (EvE.loc O rfl (by decide)) (EvE.bin (EvE.loc O rfl (by decide)) EvE.int) (fun _ _ => rfl)) (EvE.sub (EvE.loc O rfl (by decide)) (EvE.loc O rfl (by decide)) (fun _ _ => rfl)) rfl) EvTs.nil))) EvTs.nil))) (EvB.cons EvS.cont
  EvB.nil) EvB.nil)
  (EvB.cons (EvS.addPS O (EvE.loc O rfl (by decide)) (EvE.loc O rfl (by decide)) rfl rfl rfl rfl)
  (EvB.cons (EvS.append (EvE.loc O rfl (by decide)) (EvE.loc O rfl (by decide)) rfl rfl rfl rfl)
  EvB.nil)))))) (fun _ => GoOk.tuple) (fun _ => rfl))
  EvB.nil)))) (fun _ => GoOk.tuple) (fun _ => rfl))
  (EvB.cons (EvS.assign (EvE.loc O rfl (by decide)) (EvTg.name O rfl) rfl rfl rfl)
  EvB.nil))) (fun _ _ => rfl) (fun _ => rfl))
  (EvB.cons (EvS.ret EvE.neg)
  EvB.nil)))

def law_names : List Str := [Str.ofString "script", Str.ofString "draws", Str.ofString "meter", Str.ofString "steps", Str.ofString "told", Str.ofString "wanted", Str.ofString "at", Str.ofString "one", Str.ofString "two", Str.ofString "limit", Str.ofString "size"]
def law_body : List Stmt := stBody PySem.Challenge.pw_fe0312_01 25
def law_scope : Scope := stScope PySem.Challenge.pw_fe0312_01 25
def law_params : Arguments := stParams PySem.Challenge.pw_fe0312_01 25
noncomputable def law_m (bs : Addr) (bx : List PV) (m_rest : FM) (m_Ed : FM) (m_lim : FM) (m_txt : FM) (t_compare : Addr → Option (Bool × FM)) (m_edt : FM)  : Mo Fl :=
  (blkM [(asg1 (sliceM (addBM bs bx (getL 0) (sliceM (runM [] [] m_rest) (some (lenBM bs bx (getL 0))) none)) none (some (cst (.fl (.int 13))))) (setL 1)),
  (iteM (cmpM .Eq (binX .Mod (subM (getL 1) (cst (.fl (.int 0)))) (cst (.fl (.int 2)))) (cst (.fl (.int 0)))) (blkM [(asgSw (tupM [(runM [] [(cst (.fl (.obj 670)))] m_Ed), (listM [(tupM [(cst (.fl (.int 1))), (cst (.fl (.int 0)))]), (tupM [(cst (.fl (.int 0))), (cst (.fl (.int 1)))]), (tupM [(cst (.fl (.int 1))), (cst (.fl (.int 1)))]), (tupM [(cst (.fl (.int 2))), (cst (.fl (.int 2)))])])]) [3, 2])]) (blkM [(asgSw (tupM [(runM [] [(cst (.fl (.obj 668)))] m_Ed), (listM [(tupM [(cst (.fl (.int 1))), (cst (.fl (.int 0)))]), (tupM [(cst (.fl (.int 0))), (cst (.fl (.int 1)))]), (tupM [(cst (.fl (.int 1))), (cst (.fl (.int 1)))])])]) [3, 2])])),
  (asgSw (tupM [(listM []), (listM [])]) [5, 4]),
  (forRange3M 1 3 4 (setL 6) (blkM [(asgSw (tupM [(runM [] [(subM (getL 1) (getL 6))] m_txt), (runM [] [(subM (getL 1) (binM .Add (getL 6) (cst (.fl (.int 1)))))] m_txt), (subM (runM [] [] m_lim) (binX .Mod (subM (getL 1) (binM .Add (getL 6) (cst (.fl (.int 2))))) (cst (.fl (.int 7)))))]) [9, 8, 7]),
  (appM (getL 4) (methM t_compare (getL 2) "compare" [(getL 7), (getL 8), (getL 9)])),
  (iteM (orM [(cmpM .Is (getL 7) (cst (.fl .none))), (cmpM .Is (getL 8) (cst (.fl .none)))]) (blkM [(asg1 (bltM "len" [(addSM (orVM (getL 7) (cst (.fl (.str (Str.ofString ""))))) (orVM (getL 8) (cst (.fl (.str (Str.ofString ""))))))]) (setL 10)),
  (appM (getL 5) (iteM (cmpM .LtE (getL 10) (getL 9)) (getL 10) (cst (.fl (.int (-1))))))]) (blkM [(appM (getL 5) (runM [] [(getL 7), (getL 8), (getL 3), (bltM "min" [(getL 9), (cst (.fl (.int 5)))])] m_edt))]))])),
  (retM (eqLM (getL 4) (getL 5)))])
theorem law_ok {prog : Program} {w : World} {A : Around} {L gl blt : Addr} {cells : List (Str × Addr)} {qual : Str} {func frame : Option Addr} {code : Value} {s₀ : Shared} {mg mb : Str → Option Value} {K : Frag} (bs : Addr) (bx : List PV) (m_rest : FM) (m_Ed : FM) (m_lim : FM) (m_txt : FM) (t_compare : Addr → Option (Bool × FM)) (m_edt : FM) 
    {C : Cx} (hC : C = ⟨prog, w, A, ⟨law_scope, L, gl, cells, qual, func, code, frame, blt⟩, law_names, s₀, mg, mb, K⟩) (O : C.Ok)(g__law_rest : IsGlobal C "_law_rest" (.ref 826)) (k_rest : keepIn C.K (.ref 826) = true) (F_rest : Fun C (.ref 826) 0 m_rest) (h_base : BaseList C bs bx) (g_DistanceAlgorithm : IsGlobal C "DistanceAlgorithm" (.ref 643)) (en_read : readsIn C.K 643 (.ref 454) = true) (en_DAMERAU_OSA : findCls C.K (.ref 643) (.ref 454) "DAMERAU_OSA" = some (.val (.ref 670))) (g_EditDistance : IsGlobal C "EditDistance" (.ref 728)) (k_Ed : keepIn C.K (.ref 728) = true) (F_Ed : Fun C (.ref 728) 1 m_Ed) (en_LEVENSHTEIN : findCls C.K (.ref 643) (.ref 454) "LEVENSHTEIN" = some (.val (.ref 668))) (g__law_limits : IsGlobal C "_law_limits" (.ref 819)) (k_lim : keepIn C.K (.ref 819) = true) (F_lim : Fun C (.ref 819) 0 m_lim) (g__law_text : IsGlobal C "_law_text" (.ref 831)) (k_txt : keepIn C.K (.ref 831) = true) (F_txt : Fun C (.ref 831) 1 m_txt) (M_compare : ∀ cl b m, t_compare cl = some (b, m) → MethOk C cl "compare" 3 b m) (g__law_edits : IsGlobal C "_law_edits" (.ref 838)) (k_edt : keepIn C.K (.ref 838) = true) (F_edt : Fun C (.ref 838) 4 m_edt) (b_len : IsBuiltin C "len" (.builtin "len")) (b_range : IsBuiltin C "range" (.type "range")) (b_min : IsBuiltin C "min" (.builtin "min")) : EvB C law_body (law_m bs bx m_rest m_Ed m_lim m_txt t_compare m_edt) := by
  subst hC
  exact (EvB.cons (EvS.assign (EvE.slice (EvE.addB O h_base (EvE.loc O rfl (by decide)) (EvE.slice (EvE.call O g__law_rest (by decide) k_rest F_rest EvEs.nil rfl) (EvO.some (EvE.lenB O h_base b_len (EvE.loc O rfl (by decide)) rfl)) EvO.none)) EvO.none (EvO.some EvE.int)) (EvTg.name O rfl) rfl rfl rfl)
  (EvB.cons (EvS.ite (EvT.cmp (EvE.binX (EvE.sub (EvE.loc O rfl (by decide)) EvE.int (fun _ _ => rfl)) EvE.int) EvE.int rfl) (EvB.cons (EvS.assignSw O (xs := [Str.ofString "meter", Str.ofString "steps"]) (ks := [3, 2]) (EvE.tuple (EvEs.cons (EvE.call O g_EditDistance (by decide) k_Ed F_Ed (EvEs.cons (EvE.clsAttr O g_DistanceAlgorithm (by decide) en_read en_DAMERAU_OSA) rfl EvEs.nil) rfl) rfl (EvEs.cons (EvE.list (EvEs.cons (EvE.tuple (EvEs.cons EvE.int rfl (EvEs.cons EvE.int rfl EvEs.nil))) rfl (EvEs.cons (EvE.tuple (EvEs.cons EvE.int rfl (EvEs.cons EvE.int rfl EvEs.nil))) rfl (EvEs.cons (EvE.tuple (EvEs.cons EvE.int rfl (EvEs.cons EvE.int rfl EvEs.nil))) rfl (EvEs.cons (EvE.tuple (EvEs.cons EvE.int rfl (EvEs.cons EvE.int rfl EvEs.nil))) rfl EvEs.nil))))) rfl EvEs.nil))) (sw_hx rfl) rfl rfl rfl)
  EvB.nil) (EvB.cons (EvS.assignSw O (xs := [Str.ofString "meter", Str.ofString "steps"]) (ks := [3, 2]) (EvE.tuple (EvEs.cons (EvE.call O g_EditDistance (by decide) k_Ed F_Ed (EvEs.cons (EvE.clsAttr O g_DistanceAlgorithm (by decide) en_read en_LEVENSHTEIN) rfl EvEs.nil) rfl) rfl (EvEs.cons (EvE.list (EvEs.cons (EvE.tuple (EvEs.cons EvE.int rfl (EvEs.cons EvE.int rfl EvEs.nil))) rfl (EvEs.cons (EvE.tuple (EvEs.cons EvE.int rfl (EvEs.cons EvE.int rfl EvEs.nil))) rfl (EvEs.cons (EvE.tuple (EvEs.cons EvE.int rfl (EvEs.cons EvE.int rfl EvEs.nil))) rfl EvEs.nil)))) rfl EvEs.nil))) (sw_hx rfl) rfl rfl rfl)
  EvB.nil))
  (EvB.cons (EvS.assignSw O (xs := [Str.ofString "told", Str.ofString "wanted"]) (ks := [5, 4]) (EvE.tuple (EvEs.cons (EvE.list EvEs.nil) rfl (EvEs.cons (EvE.list EvEs.nil) rfl EvEs.nil))) (sw_hx rfl) rfl rfl rfl)
  (EvB.cons (EvS.forRange3 O b_range 4 (by decide) (by decide +kernel) (by decide +kernel) (by decide +kernel) (EvTg.name O rfl) (EvB.cons (EvS.assignSw O (xs := [Str.ofString "one", Str.ofString "two", Str.ofString "limit"]) (ks := [9, 8, 7]) (EvE.tuple (EvEs.cons (EvE.call O g__law_text (by decide) k_txt F_txt (EvEs.cons (EvE.sub (EvE.loc O rfl (by decide)) (EvE.loc O rfl (by decide)) (fun _ _ => rfl)) rfl EvEs.nil) rfl) rfl (EvEs.cons (EvE.call O g__law_text (by decide) k_txt F_txt (EvEs.cons (EvE.sub (EvE.loc O rfl (by decide)) (EvE.bin (EvE.loc O rfl (by decide)) EvE.int) (fun _ _ => rfl)) rfl EvEs.nil) rfl) rfl (EvEs.cons (EvE.sub (EvE.call O g__law_limits (by decide) k_lim F_lim EvEs.nil rfl) (EvE.binX (EvE.sub (EvE.loc O rfl (by decide)) (EvE.bin (EvE.loc O rfl (by decide)) EvE.int) (fun _ _ => rfl)) EvE.int) (fun _ _ => rfl)) rfl EvEs.nil)))) (sw_hx rfl) rfl rfl rfl)
  (EvB.cons (EvS.append (EvE.loc O rfl (by decide)) (EvE.meth O rfl M_compare (EvE.loc O rfl (by decide)) (EvEs.cons (EvE.loc O rfl (by decide)) rfl (EvEs.cons (EvE.loc O rfl (by decide)) rfl (EvEs.cons (EvE.loc O rfl (by decide)) rfl EvEs.nil))) ⟨_, rfl⟩) rfl rfl rfl rfl)
  (EvB.cons (EvS.ite (EvT.or (EvTs.cons (EvT.cmp (EvE.loc O rfl (by decide)) EvE.noneC rfl) (EvTs.cons (EvT.cmp (EvE.loc O rfl (by decide)) EvE.noneC rfl) EvTs.nil))) (EvB.cons (EvS.assign (EvE.blt O b_len (by decide) (EvEs.cons (EvE.addS (EvE.orV (EvE.loc O rfl (by decide)) EvE.str) (EvE.orV (EvE.loc O rfl (by decide)) EvE.str)) rfl EvEs.nil) (List.cons_ne_nil _ _)) (EvTg.name O rfl) rfl rfl rfl)
  (EvB.cons (EvS.append (EvE.loc O rfl (by decide)) (EvE.ifExp (EvT.cmp (EvE.loc O rfl (by decide)) (EvE.loc O rfl (by decide)) rfl) (EvE.loc O rfl (by decide)) EvE.neg) rfl rfl rfl rfl)
  EvB.nil)) (EvB.cons (EvS.append (EvE.loc O rfl (by decide)) (EvE.call O g__law_edits (by decide) k_edt F_edt (EvEs.cons (EvE.loc O rfl (by decide)) rfl (EvEs.cons (EvE.loc O rfl (by decide)) rfl (EvEs.cons (EvE.loc O rfl (by decide)) rfl (EvEs.cons (EvE.blt O b_min (by decide) (EvEs.cons (EvE.loc O rfl (by decide)) rfl (EvEs.cons EvE.int rfl EvEs.nil)) (List.cons_ne_nil _ _)) rfl EvEs.nil)))) rfl) rfl rfl rfl rfl)
  EvB.nil))
  EvB.nil))) (fun _ _ => rfl) rfl (fun _ => rfl))
  (EvB.cons (EvS.ret (EvE.eqL O (EvE.loc O rfl (by decide)) (EvE.loc O rfl (by decide)) rfl))
  EvB.nil)))))

end Mine

/-! Fn5 -/
namespace Mine

structure Facts2 (K : Frag) (mg mb : Str → Option Value) : Prop where
  b_set : mg "set" = none ∧ mb "set" = some (.type "set")
  b_abs : mg "abs" = none ∧ mb "abs" = some (.builtin "abs")
  g__law_limits : mg "_law_limits" = some (.ref 819)
  f_lim : FnIn K 819 "_law_limits" "_law_limits" lim_params lim_body lim_scope .none
  k_lim : keepIn K (.ref 819) = true
  g__law_rest : mg "_law_rest" = some (.ref 826)
  f_rest : FnIn K 826 "_law_rest" "_law_rest" rest_params rest_body rest_scope .none
  k_rest : keepIn K (.ref 826) = true
  g__law_text : mg "_law_text" = some (.ref 831)
  f_txt : FnIn K 831 "_law_text" "_law_text" txt_params txt_body txt_scope .none
  k_txt : keepIn K (.ref 831) = true
  g__law_edits : mg "_law_edits" = some (.ref 838)
  f_edt : FnIn K 838 "_law_edits" "_law_edits" edt_params edt_body edt_scope .none
  k_edt : keepIn K (.ref 838) = true

theorem Sub.facts2 {C C' : Cx} {fd a names} (S : Sub C C' fd a names) (FA : Facts2 C.K C.mg C.mb) : Facts2 C'.K C'.mg C'.mb := by rw [S.K, S.mg, S.mb]; exact FA

theorem const_hB {C : Cx} {a : Addr} {names : List Str} {cells : List PV → List (Str × FV)} {scope : Scope} {body : List Stmt} {m : Mo Fl} (h : ∀ C : Cx, EvB C body m) : ∀ (vs : List PV) C' fd, Sub C C' fd a names → fd.scope = scope → fd.globals = mainGlobals → fd.builtins = builtinsNs → (∀ x f, (x, f) ∈ cells vs → IsCellVar C' x f) → EvB C' body m := fun _ C' _ _ _ _ _ _ => h C'

noncomputable def lim_mm (vs : List PV) : Mo Fl := lim_m
def lim_lp (vs : List PV) : List (Option PV) := match vs with | [] => [] | _ => []
def lim_cells (vs : List PV) : List (Str × FV) := []
noncomputable def lim_fm : FM := fun vs mem => (lim_mm vs ⟨lim_lp vs, mem⟩).map fun r => (retV r.1, r.2.mem)

theorem lim_fun {C : Cx} (O : C.Ok) (B : Base C) (rm : Room C 0) (FA : Facts C.K C.mg C.mb) (FB : Facts2 C.K C.mg C.mb) : CodeFun C (.ref 819) 0 lim_fm := by
  refine fn_fun O rm B FB.f_lim rfl rfl rfl (names := lim_names) (cells := lim_cells) (m := lim_mm) (lp := lim_lp) (by decide +kernel) (by decide +kernel) (@const_hB C 819 lim_names lim_cells lim_scope lim_body lim_m @lim_ok) ?_
  · intro fd e1 e2 e3 e4 φ s cvs vs X r hn
    obtain ⟨name, qn, ps, bd, sc, gl, clo, df, kd, doc, pm, an, cd, ct, bl⟩ := fd
    dsimp only at e1 e2 e3 e4
    subst e1; subst e2; subst e3; subst e4
    obtain ⟨rfl, rfl⟩ := r.nil_inv hn
    refine ⟨[], BindsTo.of_eq (by rfl), fun n => kindsX (by rfl) (n + 1), ⟨_, rfl, ?_⟩, fun _ _ h => nomatch h⟩
    exact .nil

noncomputable def rest_mm (vs : List PV) : Mo Fl := rest_m
def rest_lp (vs : List PV) : List (Option PV) := match vs with | [] => [] | _ => []
def rest_cells (vs : List PV) : List (Str × FV) := []
noncomputable def rest_fm : FM := fun vs mem => (rest_mm vs ⟨rest_lp vs, mem⟩).map fun r => (retV r.1, r.2.mem)

theorem rest_fun {C : Cx} (O : C.Ok) (B : Base C) (rm : Room C 0) (FA : Facts C.K C.mg C.mb) (FB : Facts2 C.K C.mg C.mb) : CodeFun C (.ref 826) 0 rest_fm := by
  refine fn_fun O rm B FB.f_rest rfl rfl rfl (names := rest_names) (cells := rest_cells) (m := rest_mm) (lp := rest_lp) (by decide +kernel) (by decide +kernel) (@const_hB C 826 rest_names rest_cells rest_scope rest_body rest_m @rest_ok) ?_
  · intro fd e1 e2 e3 e4 φ s cvs vs X r hn
    obtain ⟨name, qn, ps, bd, sc, gl, clo, df, kd, doc, pm, an, cd, ct, bl⟩ := fd
    dsimp only at e1 e2 e3 e4
    subst e1; subst e2; subst e3; subst e4
    obtain ⟨rfl, rfl⟩ := r.nil_inv hn
    refine ⟨[], BindsTo.of_eq (by rfl), fun n => kindsX (by rfl) (n + 1), ⟨_, rfl, ?_⟩, fun _ _ h => nomatch h⟩
    exact .nil

noncomputable def txt_mm (vs : List PV) : Mo Fl := match argI 0 vs with | some m => txt_m (.int m) | none => fun _ => none
def txt_lp (vs : List PV) : List (Option PV) := match vs with | [v0] => [] | _ => []
def txt_cells (vs : List PV) : List (Str × FV) := match argI 0 vs with | some m => [("number", .int m)] | none => []
noncomputable def txt_fm : FM := fun vs mem => (txt_mm vs ⟨txt_lp vs, mem⟩).map fun r => (retV r.1, r.2.mem)

theorem txt_fun {C : Cx} (O : C.Ok) (B : Base C) (rm : Room C 0) (FA : Facts C.K C.mg C.mb) (FB : Facts2 C.K C.mg C.mb) : CodeFun C (.ref 831) 1 txt_fm := by
  refine fn_fun O rm B FB.f_txt rfl rfl rfl (names := txt_names) (cells := txt_cells) (m := txt_mm) (lp := txt_lp) (by decide +kernel) (by decide +kernel) ?_ ?_
  · intro vs C' fd S hs hg hb hc
    obtain ⟨gl, cells, qual, func, code, frame, blt, he⟩ := S.form hs
    have hC := Cx.form he S.names
    have O' := S.ok
    have FA' := S.facts FA
    have B' := S.base hg hb
    unfold txt_mm
    unfold txt_cells at hc
    cases hm : argI 0 vs with
    | none => exact EvB.no
    | some m => rw [hm] at hc; exact txt_ok  (.int m) hC O' (S.builtin hs (by decide +kernel) FA.b_range) (hc _ _ (List.mem_singleton.mpr rfl))
  · intro fd e1 e2 e3 e4 φ s cvs vs X r hn
    obtain ⟨name, qn, ps, bd, sc, gl, clo, df, kd, doc, pm, an, cd, ct, bl⟩ := fd
    dsimp only at e1 e2 e3 e4
    subst e1; subst e2; subst e3; subst e4
    obtain ⟨c0, cs0, v0, vs0, rfl, rfl, r0, r, hn⟩ := r.cons_inv hn
    obtain ⟨rfl, rfl⟩ := r.nil_inv hn
    refine ⟨[("number", c0)], BindsTo.of_eq (by rfl), fun n => kindsX (by rfl) (n + 1), ⟨_, rfl, ?_⟩, fun x f h => ?_⟩
    · exact .nil
    · unfold txt_cells at h
      cases hm : argI 0 [v0] with
      | none => rw [hm] at h; nomatch h
      | some m =>
        rw [hm] at h
        cases List.mem_singleton.mp h
        have e := argI_some hm
        have e : v0 = .fl (.int m) := Option.some.inj e
        subst e
        obtain ⟨t, rfl⟩ := r0
        exact ⟨by decide +kernel, fun n => ⟨_, _, rfl, rfl, t, rfl⟩⟩

noncomputable def edt_mm (vs : List PV) : Mo Fl := edt_m 10
def edt_lp (vs : List PV) : List (Option PV) := match vs with | [v0, v1, v2, v3] => [some v0, some v1, some v2, some v3, none, none, none, none, none, none, none, none, none, none, none] | _ => []
def edt_cells (vs : List PV) : List (Str × FV) := []
noncomputable def edt_fm : FM := fun vs mem => (edt_mm vs ⟨edt_lp vs, mem⟩).map fun r => (retV r.1, r.2.mem)

theorem edt_fun {C : Cx} (O : C.Ok) (B : Base C) (rm : Room C 0) (FA : Facts C.K C.mg C.mb) (FB : Facts2 C.K C.mg C.mb) : CodeFun C (.ref 838) 4 edt_fm := by
  refine fn_fun O rm B FB.f_edt rfl rfl rfl (names := edt_names) (cells := edt_cells) (m := edt_mm) (lp := edt_lp) (by decide +kernel) (by decide +kernel) ?_ ?_
  · intro vs C' fd S hs hg hb hc
    obtain ⟨gl, cells, qual, func, code, frame, blt, he⟩ := S.form hs
    have hC := Cx.form he S.names
    have O' := S.ok
    have FA' := S.facts FA
    have B' := S.base hg hb
    exact edt_ok _  hC O' (S.builtin hs (by decide +kernel) FB.b_set) (S.builtin hs (by decide +kernel) FA.b_range) (S.builtin hs (by decide +kernel) FA.b_len) (S.builtin hs (by decide +kernel) FB.b_abs)
  · intro fd e1 e2 e3 e4 φ s cvs vs X r hn
    obtain ⟨name, qn, ps, bd, sc, gl, clo, df, kd, doc, pm, an, cd, ct, bl⟩ := fd
    dsimp only at e1 e2 e3 e4
    subst e1; subst e2; subst e3; subst e4
    obtain ⟨c0, cs0, v0, vs0, rfl, rfl, r0, r, hn⟩ := r.cons_inv hn
    obtain ⟨c1, cs1, v1, vs1, rfl, rfl, r1, r, hn⟩ := r.cons_inv hn
    obtain ⟨c2, cs2, v2, vs2, rfl, rfl, r2, r, hn⟩ := r.cons_inv hn
    obtain ⟨c3, cs3, v3, vs3, rfl, rfl, r3, r, hn⟩ := r.cons_inv hn
    obtain ⟨rfl, rfl⟩ := r.nil_inv hn
    refine ⟨[("one", c0), ("two", c1), ("steps", c2), ("most", c3)], BindsTo.of_eq (by rfl), fun n => kindsX (by rfl) (n + 1), ⟨_, rfl, ?_⟩, fun _ _ h => nomatch h⟩
    exact (.cons r0 (.cons r1 (.cons r2 (.cons r3 (.skip (.skip (.skip (.skip (.skip (.skip (.skip (.skip (.skip (.skip (.skip .nil)))))))))))))))

end Mine

/-! Ev10 -/
namespace Mine

theorem appM_ap (ml me : Mo PV) (st : St) : appM ml me st = match ml st with | none => none | some (a, s1) => if isL a s1 = true then (match me s1 with | none => none | some (b, s2) => appF a b s2) else none := by
  unfold appM bindM
  cases ml st with
  | none => rfl
  | some q =>
    dsimp only
    split
    · cases me q.2 <;> rfl
    · rfl
theorem addPSM_ap (ml me : Mo PV) (st : St) : addPSM ml me st = match ml st with | none => none | some (a, s1) => if isPS a s1 = true then (match me s1 with | none => none | some (b, s2) => addPSF a b s2) else none := by
  unfold addPSM bindM
  cases ml st with
  | none => rfl
  | some q =>
    dsimp only
    split
    · cases me q.2 <;> rfl
    · rfl
theorem inPSM_ap (ml mr : Mo PV) (st : St) : inPSM ml mr st = match ml st with | none => none | some (a, s1) => match mr s1 with | none => none | some (b, s2) => match inPSF s2 a b with | none => none | some c => some (c, s2) := by
  unfold inPSM bindM
  cases ml st with
  | none => rfl
  | some q =>
    dsimp only
    cases mr q.2 with
    | none => rfl
    | some r => dsimp only; cases inPSF r.2 q.1 r.1 <;> rfl
theorem blt_abs (st : St) (x : Int) : bltF st "abs" [.fl (.int x)] = some (.fl (.int x.natAbs)) := rfl

def tupP (p : Pt) : PV := .tup [.int (p.1 : Int), .int (p.2 : Int)]
def tups (L : List Pt) : List PV := L.map tupP
theorem inPSF_at {l : List (Option PV)} {mem : List MO} {se : Nat} {S : List Pt} {x y : Nat} (h : mem[se]? = some (.pset S)) (hx : x < 6) (hy : y < 6) :
    inPSF ⟨l, mem⟩ (.tup [.int (x : Int), .int (y : Int)]) (.fl (.ref se)) = some (pd ((x, y) ∈ S)) := by
  have hp : pd (0 ≤ (x : Int) ∧ (x : Int) < 6 ∧ 0 ≤ (y : Int) ∧ (y : Int) < 6) = true := pd_true (by omega)
  unfold inPSF
  simp only [hp, if_true, h, Int.toNat_natCast]
theorem addPSF_at {l : List (Option PV)} {mem : List MO} {se : Nat} {S : List Pt} {x y : Nat} (h : mem[se]? = some (.pset S)) (hx : x < 6) (hy : y < 6) (hn : (x, y) ∉ S) :
    addPSF (.fl (.ref se)) (.tup [.int (x : Int), .int (y : Int)]) ⟨l, mem⟩ = some (.next, ⟨l, mem.set se (.pset ((x, y) :: S))⟩) := by
  have hp : pd (0 ≤ (x : Int) ∧ (x : Int) < 6 ∧ 0 ≤ (y : Int) ∧ (y : Int) < 6) = true := pd_true (by omega)
  have hp2 : pd ((x, y) ∉ S) = true := pd_true hn
  unfold addPSF
  simp only [hp, if_true, h, Int.toNat_natCast, hp2, setMem]
theorem isPS_at {l : List (Option PV)} {mem : List MO} {se : Nat} {S : List Pt} (h : mem[se]? = some (.pset S)) : isPS (.fl (.ref se)) ⟨l, mem⟩ = true := by
  unfold isPS; simp only [h]
theorem isL_at {l : List (Option PV)} {mem : List MO} {k : Nat} {xs : List PV} (h : mem[k]? = some (.list xs)) : isL (.fl (.ref k)) ⟨l, mem⟩ = true := by
  unfold isL; simp only [h]
theorem appF_at {l : List (Option PV)} {mem : List MO} {k : Nat} {xs : List PV} {v : PV} (h : mem[k]? = some (.list xs)) (hl : xs.length < 1048576) : appF (.fl (.ref k)) v ⟨l, mem⟩ = some (.next, ⟨l, mem.set k (.list (xs ++ [v]))⟩) := by
  unfold appF
  simp only [h]
  rw [if_pos (by simpa using hl)]
  rfl

/-- what an inner step leaves -/
structure Mv (se fu : Nat) (SF : List Pt × List Pt) (mem mem' : List MO) : Prop where
  s : mem'[se]? = some (.pset SF.1)
  f : mem'[fu]? = some (.list (tups SF.2))
  len : mem'.length = mem.length
  oth : ∀ k, k ≠ se → k ≠ fu → mem'[k]? = mem[k]?
theorem Mv.refl {se fu : Nat} {SF : List Pt × List Pt} {mem : List MO} (h1 : mem[se]? = some (.pset SF.1)) (h2 : mem[fu]? = some (.list (tups SF.2))) : Mv se fu SF mem mem := ⟨h1, h2, rfl, fun _ _ _ => rfl⟩
theorem Mv.trans {se fu : Nat} {SF SF' : List Pt × List Pt} {m1 m2 m3 : List MO} (x : Mv se fu SF m1 m2) (y : Mv se fu SF' m2 m3) : Mv se fu SF' m1 m3 :=
  ⟨y.s, y.f, y.len.trans x.len, fun k h1 h2 => (y.oth k h1 h2).trans (x.oth k h1 h2)⟩
theorem Mv.put {se fu : Nat} {SF : List Pt × List Pt} {mem : List MO} {p : Pt} (h1 : mem[se]? = some (.pset SF.1)) (h2 : mem[fu]? = some (.list (tups SF.2))) (hne : se ≠ fu) :
    Mv se fu (p :: SF.1, SF.2 ++ [p]) mem ((mem.set se (.pset (p :: SF.1))).set fu (.list (tups SF.2 ++ [tupP p]))) := by
  have l1 := (List.getElem?_eq_some_iff.mp h1).1
  have l2 := (List.getElem?_eq_some_iff.mp h2).1
  refine ⟨?_, ?_, by simp, fun k g1 g2 => ?_⟩
  · rw [List.getElem?_set_ne (Ne.symm hne), List.getElem?_set_self l1]
  · rw [List.getElem?_set_self (by simpa using l2)]; simp [tups]
  · rw [List.getElem?_set_ne (Ne.symm g2), List.getElem?_set_ne (Ne.symm g1)]

noncomputable def edt_step : Mo Fl := (blkM [(asg1 (tupM [(binM .Add (getL 8) (getL 12)), (binM .Add (getL 9) (getL 13))]) (setL 14)),
  (iteM (orM [(cmpM .Gt (getL 12) (getL 10)), (cmpM .Gt (getL 13) (getL 11)), (inPSM (getL 14) (getL 5))]) (blkM [(fun st => some (.cont, st))]) (blkM [])),
  (iteM (cmpM .GtE (bltM "abs" [(binM .Add (binM .Sub (binM .Sub (getL 10) (getL 12)) (getL 11)) (getL 13))]) (binM .Sub (getL 3) (getL 6))) (blkM [(fun st => some (.cont, st))]) (blkM [])),
  (iteM (andM [(cmpM .Eq (getL 12) (cst (.fl (.int 2)))), (orM [(cmpM .NotEq (subM (getL 0) (getL 8)) (subM (getL 1) (binM .Add (getL 9) (cst (.fl (.int 1)))))), (cmpM .NotEq (subM (getL 0) (binM .Add (getL 8) (cst (.fl (.int 1))))) (subM (getL 1) (getL 9)))])]) (blkM [(fun st => some (.cont, st))]) (blkM [])),
  (addPSM (getL 5) (getL 14)),
  (appM (getL 7) (getL 14))])
noncomputable def edt_while (n1 : Nat) : Mo Fl := (whileM n1 (andM [(cmpM .Lt (getL 8) (bltM "len" [(getL 0)])), (cmpM .Lt (getL 9) (bltM "len" [(getL 1)])), (cmpM .Eq (subM (getL 0) (getL 8)) (subM (getL 1) (getL 9)))]) (blkM [(augM .Add 8 (cst (.fl (.int 1)))),
  (augM .Add 9 (cst (.fl (.int 1))))]))
noncomputable def edt_mid (n1 : Nat) : Mo Fl := (blkM [(edt_while n1),
  (asgSw (tupM [(binM .Sub (bltM "len" [(getL 0)]) (getL 8)), (binM .Sub (bltM "len" [(getL 1)]) (getL 9))]) [11, 10]),
  (iteM (andM [(cmpM .Eq (getL 10) (cst (.fl (.int 0)))), (cmpM .Eq (getL 11) (cst (.fl (.int 0))))]) (blkM [(retM (getL 6))]) (blkM [])),
  (forListM 1000 (getL 2) (tupTg [12, 13]) edt_step)])
noncomputable def edt_lay (n1 : Nat) : Mo Fl := (blkM [(asg1 (listM []) (setL 7)),
  (forListM 1000 (getL 4) (tupTg [8, 9]) (edt_mid n1)),
  (asg1 (getL 7) (setL 4))])
theorem edt_m_eq (n1 : Nat) : edt_m n1 =   (blkM [(asgSw (tupM [(listM [(tupM [(cst (.fl (.int 0))), (cst (.fl (.int 0)))])]), newPS]) [5, 4]),
  (forRangeM [(binM .Add (getL 3) (cst (.fl (.int 1))))] (setL 6) (edt_lay n1)),
  (retM (cst (.fl (.int (-1)))))]) := rfl

theorem edt_step_at {sw : Bool} {s1 s2 : Str} {a b : List Nat} (ha : s1.cps.toList = a) (hb : s2.cps.toList = b) (hla : a.length ≤ 5) (hlb : b.length ≤ 5) {i j m done : Nat} (hi : i ≤ a.length) (hj : j ≤ b.length) {SF : List Pt × List Pt} (hF : SF.2.length ≤ 36)
    {q : Pt} (hq : q ∈ steps sw) {mem : List MO} {l2 l4 x14 : Option PV} {se fu : Nat} (h1 : mem[se]? = some (.pset SF.1)) (h2 : mem[fu]? = some (.list (tups SF.2))) (hne : se ≠ fu) :
    ∃ fl mem', (fl = .next ∨ fl = .cont) ∧ Mv se fu (stepF a b m done i j SF q) mem mem' ∧
      edt_step ⟨[sS s1, sS s2, l2, sI m, l4, sR se, sI done, sR fu, sI i, sI j, sI ((a.length - i : Nat) : Int), sI ((b.length - j : Nat) : Int), sI q.1, sI q.2, x14], mem⟩ =
        some (fl, ⟨[sS s1, sS s2, l2, sI m, l4, sR se, sI done, sR fu, sI i, sI j, sI ((a.length - i : Nat) : Int), sI ((b.length - j : Nat) : Int), sI q.1, sI q.2, some (tupP (i + q.1, j + q.2))], mem'⟩) := by
  obtain ⟨d, r⟩ := q
  unfold edt_step stepF tupP
  dsimp only
  generalize hrest : a.length - i = rest
  generalize hmore : b.length - j = more
  have e1 : (i : Int) + (d : Int) = ((i + d : Nat) : Int) := by omega
  have e2 : (j : Int) + (r : Int) = ((j + r : Nat) : Int) := by omega
  by_cases c1 : rest < d
  · rw [if_pos (.inl c1)]
    have c1' : pd (rest < d) = true := pd_true (by omega)
    exact ⟨.cont, mem, .inr rfl, .refl h1 h2, by simp [getL_ap, setL_ap, cst_ap, binM_ap, cmpM_ap, andM_nil_ap, andM_cons_ap, orM_nil_ap, orM_cons_ap, iteM_ap, asg1_ap, asg2_ap, augM_ap, blkM_nil_ap, blkM_cons_ap, retM_ap, tupM_ap, seqM_nil_ap, seqM_cons_ap, flatL, subM_ap, subF_str, subF_list, setItemM_ap, setItemF_list, bltM_ap, blt_len_s, bin_add, bin_sub, cmp_eq_i, cmp_ne_i, cmp_lt_i, cmp_le_i, cmp_gt_i, cmp_ge_i, cmp_eq_c, cmp_ne_c, pd_True, pd_False, asgSw_ap, tupTg_ap, setLs_nil_ap, setLs_cons_ap, appM_ap, addPSM_ap, inPSM_ap, blt_abs, e1, e2, c1', -Int.natCast_add]⟩
  have c1' : pd (rest < d) = false := pd_false (by omega)
  by_cases c2 : more < r
  · rw [if_pos (.inr (.inl c2))]
    have c2' : pd (more < r) = true := pd_true (by omega)
    exact ⟨.cont, mem, .inr rfl, .refl h1 h2, by simp [getL_ap, setL_ap, cst_ap, binM_ap, cmpM_ap, andM_nil_ap, andM_cons_ap, orM_nil_ap, orM_cons_ap, iteM_ap, asg1_ap, asg2_ap, augM_ap, blkM_nil_ap, blkM_cons_ap, retM_ap, tupM_ap, seqM_nil_ap, seqM_cons_ap, flatL, subM_ap, subF_str, subF_list, setItemM_ap, setItemF_list, bltM_ap, blt_len_s, bin_add, bin_sub, cmp_eq_i, cmp_ne_i, cmp_lt_i, cmp_le_i, cmp_gt_i, cmp_ge_i, cmp_eq_c, cmp_ne_c, pd_True, pd_False, asgSw_ap, tupTg_ap, setLs_nil_ap, setLs_cons_ap, appM_ap, addPSM_ap, inPSM_ap, blt_abs, e1, e2, c1', c2', -Int.natCast_add]⟩
  have c2' : pd (more < r) = false := pd_false (by omega)
  have hin := inPSF_at (l := [sS s1, sS s2, l2, sI m, l4, sR se, sI done, sR fu, sI i, sI j, sI (rest : Int), sI (more : Int), sI d, sI r, some (.tup [.int ((i + d : Nat) : Int), .int ((j + r : Nat) : Int)])]) h1 (x := i + d) (y := j + r) (by omega) (by omega)
  by_cases c3 : (i + d, j + r) ∈ SF.1
  · rw [if_pos (.inr (.inr c3))]
    exact ⟨.cont, mem, .inr rfl, .refl h1 h2, by simp [getL_ap, setL_ap, cst_ap, binM_ap, cmpM_ap, andM_nil_ap, andM_cons_ap, orM_nil_ap, orM_cons_ap, iteM_ap, asg1_ap, asg2_ap, augM_ap, blkM_nil_ap, blkM_cons_ap, retM_ap, tupM_ap, seqM_nil_ap, seqM_cons_ap, flatL, subM_ap, subF_str, subF_list, setItemM_ap, setItemF_list, bltM_ap, blt_len_s, bin_add, bin_sub, cmp_eq_i, cmp_ne_i, cmp_lt_i, cmp_le_i, cmp_gt_i, cmp_ge_i, cmp_eq_c, cmp_ne_c, pd_True, pd_False, asgSw_ap, tupTg_ap, setLs_nil_ap, setLs_cons_ap, appM_ap, addPSM_ap, inPSM_ap, blt_abs, e1, e2, c1', c2', c3, hin, -Int.natCast_add]⟩
  have c3' : pd ((i + d, j + r) ∈ SF.1) = false := pd_false c3
  rw [if_neg (by rintro (h | h | h); exact c1 h; exact c2 h; exact c3 h)]
  by_cases c4 : (m : Int) - done ≤ ((rest : Int) - d - (more : Int) + r).natAbs
  · rw [if_pos c4]
    have c4' : pd ((m : Int) - done ≤ ((rest : Int) - d - (more : Int) + r).natAbs) = true := pd_true c4
    exact ⟨.cont, mem, .inr rfl, .refl h1 h2, by simp [getL_ap, setL_ap, cst_ap, binM_ap, cmpM_ap, andM_nil_ap, andM_cons_ap, orM_nil_ap, orM_cons_ap, iteM_ap, asg1_ap, asg2_ap, augM_ap, blkM_nil_ap, blkM_cons_ap, retM_ap, tupM_ap, seqM_nil_ap, seqM_cons_ap, flatL, subM_ap, subF_str, subF_list, setItemM_ap, setItemF_list, bltM_ap, blt_len_s, bin_add, bin_sub, cmp_eq_i, cmp_ne_i, cmp_lt_i, cmp_le_i, cmp_gt_i, cmp_ge_i, cmp_eq_c, cmp_ne_c, pd_True, pd_False, asgSw_ap, tupTg_ap, setLs_nil_ap, setLs_cons_ap, appM_ap, addPSM_ap, inPSM_ap, blt_abs, e1, e2, c1', c2', c3', c4, c4', hin, -Int.natCast_add]⟩
  rw [if_neg c4]
  have c4' : pd ((m : Int) - done ≤ ((rest : Int) - d - (more : Int) + r).natAbs) = false := pd_false c4
  have fin : ∀ l : List (Option PV), l[5]? = some (sR se) → l[7]? = some (sR fu) → l[14]? = some (some (.tup [.int ((i + d : Nat) : Int), .int ((j + r : Nat) : Int)])) →
      blkM [(addPSM (getL 5) (getL 14)), (appM (getL 7) (getL 14))] ⟨l, mem⟩ = some (.next, ⟨l, (mem.set se (.pset ((i + d, j + r) :: SF.1))).set fu (.list (tups SF.2 ++ [tupP (i + d, j + r)]))⟩) := fun l g1 g2 g3 => by
    have hp := addPSF_at (l := l) h1 (x := i + d) (y := j + r) (by omega) (by omega) c3
    have h2' : (mem.set se (.pset ((i + d, j + r) :: SF.1)))[fu]? = some (.list (tups SF.2)) := by rw [List.getElem?_set_ne hne]; exact h2
    have hf := appF_at (l := l) (v := .tup [.int ((i + d : Nat) : Int), .int ((j + r : Nat) : Int)]) h2' (by simp [tups]; omega)
    simp only [blkM_cons_ap, blkM_nil_ap, addPSM_ap, appM_ap, getL_ap, g1, g2, g3, isPS_at h1, isL_at h2', if_true, hp, hf, tupP]
  have fin' := fin [sS s1, sS s2, l2, sI m, l4, sR se, sI done, sR fu, sI i, sI j, sI (rest : Int), sI (more : Int), sI d, sI r, some (.tup [.int ((i + d : Nat) : Int), .int ((j + r : Nat) : Int)])] rfl rfl rfl
  by_cases c5 : d = 2
  · have hsw : r = 2 := by
      subst c5
      cases sw with
      | false => simp [steps] at hq
      | true => simp [steps] at hq; exact hq
    have c5' : ((d : Int) = 2) = True := eq_true (by omega)
    have g1 : s1.cps[i]? = some (a[i]'(by omega)) := by rw [cps_get, ha]; exact List.getElem?_eq_getElem _
    have g2 : s1.cps[i + 1]? = some (a[i + 1]'(by omega)) := by rw [cps_get, ha]; exact List.getElem?_eq_getElem _
    have g3 : s2.cps[j]? = some (b[j]'(by omega)) := by rw [cps_get, hb]; exact List.getElem?_eq_getElem _
    have g4 : s2.cps[j + 1]? = some (b[j + 1]'(by omega)) := by rw [cps_get, hb]; exact List.getElem?_eq_getElem _
    have i1 : (i : Int) < 4611686018427387904 := by omega
    have i2 : (i : Int) + 1 < 4611686018427387904 := by omega
    have i3 : (j : Int) < 4611686018427387904 := by omega
    have i4 : (j : Int) + 1 < 4611686018427387904 := by omega
    have i5 : (0 : Int) ≤ (i : Int) + 1 := by omega
    have i6 : (0 : Int) ≤ (j : Int) + 1 := by omega
    have n2 : ((i : Int) + 1).toNat = i + 1 := by omega
    have n4 : ((j : Int) + 1).toNat = j + 1 := by omega
    have ga : a[i]? = some (a[i]'(by omega)) := List.getElem?_eq_getElem _
    have ga1 : a[i + 1]? = some (a[i + 1]'(by omega)) := List.getElem?_eq_getElem _
    have gb : b[j]? = some (b[j]'(by omega)) := List.getElem?_eq_getElem _
    have gb1 : b[j + 1]? = some (b[j + 1]'(by omega)) := List.getElem?_eq_getElem _
    rw [ga, ga1, gb, gb1]
    generalize a[i]'(by omega) = u1 at *
    generalize a[i + 1]'(by omega) = u2 at *
    generalize b[j]'(by omega) = v1 at *
    generalize b[j + 1]'(by omega) = v2 at *
    by_cases c6 : u1 = v2
    · by_cases c7 : u2 = v1
      · rw [if_neg (by rintro ⟨_, h | h⟩; exact h (by rw [c6]); exact h (by rw [c7]))]
        refine ⟨.next, _, .inl rfl, Mv.put h1 h2 hne, ?_⟩
        rw [← fin']
        simp [getL_ap, setL_ap, cst_ap, binM_ap, cmpM_ap, andM_nil_ap, andM_cons_ap, orM_nil_ap, orM_cons_ap, iteM_ap, asg1_ap, asg2_ap, augM_ap, blkM_nil_ap, blkM_cons_ap, retM_ap, tupM_ap, seqM_nil_ap, seqM_cons_ap, flatL, subM_ap, subF_str, subF_list, setItemM_ap, setItemF_list, bltM_ap, blt_len_s, bin_add, bin_sub, cmp_eq_i, cmp_ne_i, cmp_lt_i, cmp_le_i, cmp_gt_i, cmp_ge_i, cmp_eq_c, cmp_ne_c, pd_True, pd_False, inPSM_ap, e1, e2, c1', c2', c3', c4', hin, blt_abs, g1, g2, g3, g4, i1, i2, i3, i4, i5, i6, n2, n4, c5', c6, c7, -Int.natCast_add]
      · rw [if_pos ⟨c5, .inr (by simpa using c7)⟩]
        exact ⟨.cont, mem, .inr rfl, .refl h1 h2, by simp [getL_ap, setL_ap, cst_ap, binM_ap, cmpM_ap, andM_nil_ap, andM_cons_ap, orM_nil_ap, orM_cons_ap, iteM_ap, asg1_ap, asg2_ap, augM_ap, blkM_nil_ap, blkM_cons_ap, retM_ap, tupM_ap, seqM_nil_ap, seqM_cons_ap, flatL, subM_ap, subF_str, subF_list, setItemM_ap, setItemF_list, bltM_ap, blt_len_s, bin_add, bin_sub, cmp_eq_i, cmp_ne_i, cmp_lt_i, cmp_le_i, cmp_gt_i, cmp_ge_i, cmp_eq_c, cmp_ne_c, pd_True, pd_False, asgSw_ap, tupTg_ap, setLs_nil_ap, setLs_cons_ap, appM_ap, addPSM_ap, inPSM_ap, blt_abs, e1, e2, c1', c2', c3', c4', hin, g1, g2, g3, g4, i1, i2, i3, i4, i5, i6, n2, n4, c5', c6, c7, -Int.natCast_add]⟩
    · rw [if_pos ⟨c5, .inl (by simpa using c6)⟩]
      exact ⟨.cont, mem, .inr rfl, .refl h1 h2, by simp [getL_ap, setL_ap, cst_ap, binM_ap, cmpM_ap, andM_nil_ap, andM_cons_ap, orM_nil_ap, orM_cons_ap, iteM_ap, asg1_ap, asg2_ap, augM_ap, blkM_nil_ap, blkM_cons_ap, retM_ap, tupM_ap, seqM_nil_ap, seqM_cons_ap, flatL, subM_ap, subF_str, subF_list, setItemM_ap, setItemF_list, bltM_ap, blt_len_s, bin_add, bin_sub, cmp_eq_i, cmp_ne_i, cmp_lt_i, cmp_le_i, cmp_gt_i, cmp_ge_i, cmp_eq_c, cmp_ne_c, pd_True, pd_False, asgSw_ap, tupTg_ap, setLs_nil_ap, setLs_cons_ap, appM_ap, addPSM_ap, inPSM_ap, blt_abs, e1, e2, c1', c2', c3', c4', hin, g1, g2, g3, g4, i1, i2, i3, i4, i5, i6, n2, n4, c5', c6, -Int.natCast_add]⟩
  · rw [if_neg (by rintro ⟨h, _⟩; exact c5 h)]
    have c5' : ¬ ((d : Int) = 2) := by omega
    refine ⟨.next, _, .inl rfl, Mv.put h1 h2 hne, ?_⟩
    rw [← fin']
    simp [getL_ap, setL_ap, cst_ap, binM_ap, cmpM_ap, andM_nil_ap, andM_cons_ap, orM_nil_ap, orM_cons_ap, iteM_ap, asg1_ap, asg2_ap, augM_ap, blkM_nil_ap, blkM_cons_ap, retM_ap, tupM_ap, seqM_nil_ap, seqM_cons_ap, flatL, subM_ap, subF_str, subF_list, setItemM_ap, setItemF_list, bltM_ap, blt_len_s, bin_add, bin_sub, cmp_eq_i, cmp_ne_i, cmp_lt_i, cmp_le_i, cmp_gt_i, cmp_ge_i, cmp_eq_c, cmp_ne_c, pd_True, pd_False, inPSM_ap, e1, e2, c1', c2', c3', c4', c5', hin, blt_abs, -Int.natCast_add]
end Mine

/-! Ev11 -/
namespace Mine

theorem loopL_cons_ap {k : Nat} {f : PV → Mo Unit} {b : Mo Fl} {n i : Nat} {st : St} {ys : List PV} {v : PV} (hk : st.mem[k]? = some (.list ys)) (hv : ys[i]? = some v) : loopL k f b (n + 1) i st = match f v st with
    | none => none
    | some (_, s1) => match b s1 with
      | none => none
      | some (.next, s2) => loopL k f b n (i + 1) s2
      | some (.cont, s2) => loopL k f b n (i + 1) s2
      | some (.brk, s2) => some (.next, s2)
      | some (.ret v, s2) => some (.ret v, s2) := by
  rw [loopL]
  simp only [hk, hv]
  unfold bindM
  cases f v st with
  | none => rfl
  | some q =>
    dsimp only
    cases b q.2 with
    | none => rfl
    | some r => obtain ⟨g, s'⟩ := r; cases g <;> rfl
theorem loopL_end_ap {k : Nat} {f : PV → Mo Unit} {b : Mo Fl} {n i : Nat} {st : St} {ys : List PV} (hk : st.mem[k]? = some (.list ys)) (hv : ys[i]? = none) : loopL k f b (n + 1) i st = some (.next, st) := by
  rw [loopL]
  simp only [hk, hv]
theorem forListM_ap {fuel : Nat} {m : Mo PV} {f : PV → Mo Unit} {b : Mo Fl} {st st' : St} {k : Nat} {ys : List PV} (hm : m st = some (.fl (.ref k), st')) (hk : st'.mem[k]? = some (.list ys)) : forListM fuel m f b st = loopL k f b fuel 0 st' := by
  unfold forListM bindM
  simp only [hm, hk]
theorem LI.le36 {sw : Bool} {a b : List Nat} {D done : Nat} {SF : List Pt × List Pt} (L : LI sw a b D done SF) (hla : a.length ≤ 5) (hlb : b.length ≤ 5) : SF.2.length ≤ 36 := by
  refine Nat.le_trans L.len ?_
  refine pigeon 36 SF.1.length (fun k => match SF.1[k]? with | some q => 6 * q.1 + q.2 | none => 0) (fun k hk => ?_) fun k k' hk hk' e => ?_
  · have g := List.getElem?_eq_getElem hk
    have := L.dom _ (List.getElem_mem hk)
    simp only [g]; omega
  · have g := List.getElem?_eq_getElem hk
    have g' := List.getElem?_eq_getElem hk'
    have h1 := L.dom _ (List.getElem_mem hk)
    have h2 := L.dom _ (List.getElem_mem hk')
    simp only [g, g'] at e
    have e1 : SF.1[k].1 = SF.1[k'].1 := by omega
    have e2 : SF.1[k].2 = SF.1[k'].2 := by omega
    exact (List.getElem_inj L.nd).mp (Prod.ext e1 e2)

theorem tups_get (L : List Pt) (i : Nat) : (tups L)[i]? = (L[i]?).map tupP := by simp [tups]

section
variable {sw : Bool} {s1 s2 : Str} {a b : List Nat} (ha : s1.cps.toList = a) (hb : s2.cps.toList = b) (hla : a.length ≤ 5) (hlb : b.length ≤ 5)
include ha hb hla hlb
theorem edt_steps_at {D done m : Nat} {kst se fu : Nat} (hne : se ≠ fu) (hk1 : kst ≠ se) (hk2 : kst ≠ fu) {l4 : Option PV} {i j : Nat} (hi : i ≤ a.length) (hj : j ≤ b.length) (hD : D ≤ done + R sw a b i j) : ∀ (l : List Pt) (n idx : Nat) (SF : List Pt × List Pt) (mem : List MO) (x12 x13 x14 : Option PV), (steps sw).drop idx = l → l.length < n →
    LI sw a b D done SF → mem[kst]? = some (.list (tups (steps sw))) → mem[se]? = some (.pset SF.1) → mem[fu]? = some (.list (tups SF.2)) →
    ∃ y12 y13 y14 mem', Mv se fu (l.foldl (stepF a b m done i j) SF) mem mem' ∧
      loopL kst (tupTg [12, 13]) edt_step n idx ⟨[sS s1, sS s2, sR kst, sI m, l4, sR se, sI done, sR fu, sI i, sI j, sI ((a.length - i : Nat) : Int), sI ((b.length - j : Nat) : Int), x12, x13, x14], mem⟩ =
        some (.next, ⟨[sS s1, sS s2, sR kst, sI m, l4, sR se, sI done, sR fu, sI i, sI j, sI ((a.length - i : Nat) : Int), sI ((b.length - j : Nat) : Int), y12, y13, y14], mem'⟩)
  | [], n, idx, SF, mem, x12, x13, x14, hd, hn, L, hk, h1, h2 => by
    obtain ⟨n, rfl⟩ : ∃ q, n = q + 1 := ⟨n - 1, by simp at hn; omega⟩
    refine ⟨x12, x13, x14, mem, .refl h1 h2, ?_⟩
    have : (steps sw)[idx]? = none := by
      have := List.drop_eq_nil_iff.mp hd
      exact List.getElem?_eq_none this
    exact loopL_end_ap (ys := tups (steps sw)) hk (by rw [tups_get, this]; rfl)
  | q :: l, n, idx, SF, mem, x12, x13, x14, hd, hn, L, hk, h1, h2 => by
    obtain ⟨n, rfl⟩ : ∃ q, n = q + 1 := ⟨n - 1, by simp at hn; omega⟩
    have hg : (steps sw)[idx]? = some q := by
      have := congrArg (fun l => l[0]?) hd
      simpa using this
    have hq : q ∈ steps sw := List.mem_of_getElem? hg
    have hd' : (steps sw).drop (idx + 1) = l := by
      have := congrArg List.tail hd
      simpa [List.tail_drop] using this
    obtain ⟨fl, mem1, hfl, hM, hrun⟩ := edt_step_at (m := m) (done := done) (l2 := sR kst) (l4 := l4) (x14 := x14) ha hb hla hlb hi hj (L.le36 hla hlb) hq h1 h2 hne
    have L' := (stepF_ok (m := m) hi hj hD L hq).1
    obtain ⟨y12, y13, y14, mem2, hM2, hrun2⟩ := edt_steps_at hne hk1 hk2 hi hj hD l n (idx + 1) _ mem1 (sI q.1) (sI q.2) (some (tupP (i + q.1, j + q.2))) hd' (by simp at hn; omega) L' (by rw [hM.oth kst hk1 hk2]; exact hk) hM.s hM.f
    refine ⟨y12, y13, y14, mem2, hM.trans hM2, ?_⟩
    rw [loopL_cons_ap (ys := tups (steps sw)) (v := tupP q) hk (by rw [tups_get, hg]; rfl)]
    have ht : tupTg [12, 13] (tupP q) ⟨[sS s1, sS s2, sR kst, sI m, l4, sR se, sI done, sR fu, sI i, sI j, sI ((a.length - i : Nat) : Int), sI ((b.length - j : Nat) : Int), x12, x13, x14], mem⟩ = some ((), ⟨[sS s1, sS s2, sR kst, sI m, l4, sR se, sI done, sR fu, sI i, sI j, sI ((a.length - i : Nat) : Int), sI ((b.length - j : Nat) : Int), sI q.1, sI q.2, x14], mem⟩) := rfl
    rw [ht]
    dsimp only
    rw [hrun]
    rcases hfl with rfl | rfl <;> exact hrun2

theorem edt_while_at {l2 l3 l4 l5 l6 l7 x10 x11 x12 x13 x14 : Option PV} {mem : List MO} : ∀ (n i j : Nat), a.length ≤ n + i →
    edt_while (n + 1) ⟨[sS s1, sS s2, l2, l3, l4, l5, l6, l7, sI i, sI j, x10, x11, x12, x13, x14], mem⟩ =
      some (.next, ⟨[sS s1, sS s2, l2, l3, l4, l5, l6, l7, sI ((trim a b n i j).1 : Nat), sI ((trim a b n i j).2 : Nat), x10, x11, x12, x13, x14], mem⟩) := by
  have q1 : (s1.length : Int) = (a.length : Nat) := by rw [← ha]; simp [Str.length]
  have q2 : (s2.length : Int) = (b.length : Nat) := by rw [← hb]; simp [Str.length]
  have q3 : (s1.length) < 4611686018427387904 := by omega
  have q4 : (s2.length) < 4611686018427387904 := by omega
  intro n
  induction n with
  | zero =>
    intro i j h
    unfold edt_while trim
    rw [whileM_ap]
    have c : pd ((i : Int) < (a.length : Int)) = false := pd_false (by omega)
    have c' : pd (i < a.length) = false := pd_false (by omega)
    simp [getL_ap, setL_ap, cst_ap, binM_ap, cmpM_ap, andM_nil_ap, andM_cons_ap, orM_nil_ap, orM_cons_ap, iteM_ap, asg1_ap, asg2_ap, augM_ap, blkM_nil_ap, blkM_cons_ap, retM_ap, tupM_ap, seqM_nil_ap, seqM_cons_ap, flatL, subM_ap, subF_str, subF_list, setItemM_ap, setItemF_list, bltM_ap, blt_len_s, bin_add, bin_sub, cmp_eq_i, cmp_ne_i, cmp_lt_i, cmp_le_i, cmp_gt_i, cmp_ge_i, cmp_eq_c, cmp_ne_c, pd_True, pd_False, asgSw_ap, tupTg_ap, setLs_nil_ap, setLs_cons_ap, blt_abs, q1, q3, c, c']
  | succ n ih =>
    intro i j h
    unfold edt_while at ih ⊢
    rw [whileM_ap, trim]
    by_cases c1 : i < a.length
    · by_cases c2 : j < b.length
      · have ga : a[i]? = some (a[i]'c1) := List.getElem?_eq_getElem _
        have gb : b[j]? = some (b[j]'c2) := List.getElem?_eq_getElem _
        have g1 : s1.cps[i]? = some (a[i]'c1) := by rw [cps_get, ha]; exact ga
        have g2 : s2.cps[j]? = some (b[j]'c2) := by rw [cps_get, hb]; exact gb
        rw [ga, gb]
        dsimp only
        generalize a[i]'c1 = u at *
        generalize b[j]'c2 = v at *
        have i1 : (i : Int) < 4611686018427387904 := by omega
        have i3 : (j : Int) < 4611686018427387904 := by omega
        by_cases c3 : u = v
        · rw [if_pos c3, ← ih (i + 1) (j + 1) (by omega)]
          simp [getL_ap, setL_ap, cst_ap, binM_ap, cmpM_ap, andM_nil_ap, andM_cons_ap, orM_nil_ap, orM_cons_ap, iteM_ap, asg1_ap, asg2_ap, augM_ap, blkM_nil_ap, blkM_cons_ap, retM_ap, tupM_ap, seqM_nil_ap, seqM_cons_ap, flatL, subM_ap, subF_str, subF_list, setItemM_ap, setItemF_list, bltM_ap, blt_len_s, bin_add, bin_sub, cmp_eq_i, cmp_ne_i, cmp_lt_i, cmp_le_i, cmp_gt_i, cmp_ge_i, cmp_eq_c, cmp_ne_c, pd_True, pd_False, asgSw_ap, tupTg_ap, setLs_nil_ap, setLs_cons_ap, blt_abs, q1, q2, q3, q4, c1, c2, c3, g1, g2, i1, i3]
        · rw [if_neg c3]
          simp [getL_ap, setL_ap, cst_ap, binM_ap, cmpM_ap, andM_nil_ap, andM_cons_ap, orM_nil_ap, orM_cons_ap, iteM_ap, asg1_ap, asg2_ap, augM_ap, blkM_nil_ap, blkM_cons_ap, retM_ap, tupM_ap, seqM_nil_ap, seqM_cons_ap, flatL, subM_ap, subF_str, subF_list, setItemM_ap, setItemF_list, bltM_ap, blt_len_s, bin_add, bin_sub, cmp_eq_i, cmp_ne_i, cmp_lt_i, cmp_le_i, cmp_gt_i, cmp_ge_i, cmp_eq_c, cmp_ne_c, pd_True, pd_False, asgSw_ap, tupTg_ap, setLs_nil_ap, setLs_cons_ap, blt_abs, q1, q2, q3, q4, c1, c2, c3, g1, g2, i1, i3]
      · have gb : b[j]? = none := List.getElem?_eq_none (by omega)
        have c2' : pd (j < b.length) = false := pd_false c2
        rw [gb]
        simp [getL_ap, setL_ap, cst_ap, binM_ap, cmpM_ap, andM_nil_ap, andM_cons_ap, orM_nil_ap, orM_cons_ap, iteM_ap, asg1_ap, asg2_ap, augM_ap, blkM_nil_ap, blkM_cons_ap, retM_ap, tupM_ap, seqM_nil_ap, seqM_cons_ap, flatL, subM_ap, subF_str, subF_list, setItemM_ap, setItemF_list, bltM_ap, blt_len_s, bin_add, bin_sub, cmp_eq_i, cmp_ne_i, cmp_lt_i, cmp_le_i, cmp_gt_i, cmp_ge_i, cmp_eq_c, cmp_ne_c, pd_True, pd_False, asgSw_ap, tupTg_ap, setLs_nil_ap, setLs_cons_ap, blt_abs, q1, q2, q3, q4, c1, c2']
    · have ga : a[i]? = none := List.getElem?_eq_none (by omega)
      have c1' : pd (i < a.length) = false := pd_false c1
      rw [ga]
      simp [getL_ap, setL_ap, cst_ap, binM_ap, cmpM_ap, andM_nil_ap, andM_cons_ap, orM_nil_ap, orM_cons_ap, iteM_ap, asg1_ap, asg2_ap, augM_ap, blkM_nil_ap, blkM_cons_ap, retM_ap, tupM_ap, seqM_nil_ap, seqM_cons_ap, flatL, subM_ap, subF_str, subF_list, setItemM_ap, setItemF_list, bltM_ap, blt_len_s, bin_add, bin_sub, cmp_eq_i, cmp_ne_i, cmp_lt_i, cmp_le_i, cmp_gt_i, cmp_ge_i, cmp_eq_c, cmp_ne_c, pd_True, pd_False, asgSw_ap, tupTg_ap, setLs_nil_ap, setLs_cons_ap, blt_abs, q1, q2, q3, q4, c1']

theorem edt_mid_at {D done m : Nat} {kst se fu : Nat} (hne : se ≠ fu) (hk1 : kst ≠ se) (hk2 : kst ≠ fu) {l4 : Option PV} {p : Pt} (hp1 : p.1 ≤ a.length) (hp2 : p.2 ≤ b.length) (hD : D ≤ done + R sw a b p.1 p.2)
    {SF : List Pt × List Pt} {mem : List MO} {x10 x11 x12 x13 x14 : Option PV} (L : LI sw a b D done SF) (hk : mem[kst]? = some (.list (tups (steps sw)))) (h1 : mem[se]? = some (.pset SF.1)) (h2 : mem[fu]? = some (.list (tups SF.2))) :
    match spotF a b (steps sw) m done SF p with
    | none => ∃ st', edt_mid 10 ⟨[sS s1, sS s2, sR kst, sI m, l4, sR se, sI done, sR fu, sI p.1, sI p.2, x10, x11, x12, x13, x14], mem⟩ = some (.ret (.fl (.int done)), st') ∧ st'.mem = mem
    | some SF' => ∃ y8 y9 y10 y11 y12 y13 y14 mem', Mv se fu SF' mem mem' ∧ edt_mid 10 ⟨[sS s1, sS s2, sR kst, sI m, l4, sR se, sI done, sR fu, sI p.1, sI p.2, x10, x11, x12, x13, x14], mem⟩ =
        some (.next, ⟨[sS s1, sS s2, sR kst, sI m, l4, sR se, sI done, sR fu, y8, y9, y10, y11, y12, y13, y14], mem'⟩) := by
  obtain ⟨t1, t2, t3, _⟩ := trim_ok (sw := sw) (a := a) (b := b) 9 p.1 p.2 hp1 hp2
  have hw := edt_while_at ha hb hla hlb (l2 := sR kst) (l3 := sI m) (l4 := l4) (l5 := sR se) (l6 := sI done) (l7 := sR fu) (x10 := x10) (x11 := x11) (x12 := x12) (x13 := x13) (x14 := x14) (mem := mem) 9 p.1 p.2 (by omega)
  unfold spotF
  generalize trim a b 9 p.1 p.2 = t at *
  obtain ⟨i, j⟩ := t
  dsimp only at *
  have q1 : (s1.length : Int) = (a.length : Nat) := by rw [← ha]; simp [Str.length]
  have q2 : (s2.length : Int) = (b.length : Nat) := by rw [← hb]; simp [Str.length]
  have q3 : (s1.length) < 4611686018427387904 := by omega
  have q4 : (s2.length) < 4611686018427387904 := by omega
  have r1 : (a.length : Int) - (i : Int) = ((a.length - i : Nat) : Int) := by omega
  have r2 : (b.length : Int) - (j : Int) = ((b.length - j : Nat) : Int) := by omega
  generalize hrest : a.length - i = rest at *
  generalize hmore : b.length - j = more at *
  by_cases hend : i = a.length ∧ j = b.length
  · rw [if_pos hend]
    dsimp only
    have z1 : rest = 0 := by omega
    have z2 : more = 0 := by omega
    subst z1; subst z2
    unfold edt_mid
    exact ⟨_, by rw [blkM_cons_ap, hw]; simp [getL_ap, setL_ap, cst_ap, binM_ap, cmpM_ap, andM_nil_ap, andM_cons_ap, orM_nil_ap, orM_cons_ap, iteM_ap, asg1_ap, asg2_ap, augM_ap, blkM_nil_ap, blkM_cons_ap, retM_ap, tupM_ap, seqM_nil_ap, seqM_cons_ap, flatL, subM_ap, subF_str, subF_list, setItemM_ap, setItemF_list, bltM_ap, blt_len_s, bin_add, bin_sub, cmp_eq_i, cmp_ne_i, cmp_lt_i, cmp_le_i, cmp_gt_i, cmp_ge_i, cmp_eq_c, cmp_ne_c, pd_True, pd_False, asgSw_ap, tupTg_ap, setLs_nil_ap, setLs_cons_ap, blt_abs, q1, q2, q3, q4, r1, r2]; rfl, rfl⟩
  · rw [if_neg hend]
    dsimp only
    obtain ⟨y12, y13, y14, mem', hM, hrun⟩ := edt_steps_at ha hb hla hlb hne hk1 hk2 (m := m) (l4 := l4) t1 t2 (D := D) (done := done) (by omega) (steps sw) 1000 0 SF mem x12 x13 x14 (by simp) (by cases sw <;> simp [steps]) L hk h1 h2
    refine ⟨sI i, sI j, sI rest, sI more, y12, y13, y14, mem', hM, ?_⟩
    rw [hrest, hmore] at hrun
    have hnz : ¬ (rest = 0 ∧ more = 0) := by omega
    have hfl : ∀ st : St, st.mem[kst]? = some (.list (tups (steps sw))) → st.loc[2]? = some (sR kst) → forListM 1000 (getL 2) (tupTg [12, 13]) edt_step st = loopL kst (tupTg [12, 13]) edt_step 1000 0 st := fun st g1 g2 => forListM_ap (by unfold getL; rw [g2]) g1
    unfold edt_mid
    rw [blkM_cons_ap, hw]
    dsimp only
    have hfl' := hfl ⟨[sS s1, sS s2, sR kst, sI m, l4, sR se, sI done, sR fu, sI i, sI j, sI rest, sI more, x12, x13, x14], mem⟩ hk rfl
    by_cases z1 : rest = 0
    · have z2 : ¬ more = 0 := fun h => hnz ⟨z1, h⟩
      have z2' : ¬ (more : Int) = 0 := by omega
      subst z1
      simp [getL_ap, setL_ap, cst_ap, binM_ap, cmpM_ap, andM_nil_ap, andM_cons_ap, orM_nil_ap, orM_cons_ap, iteM_ap, asg1_ap, asg2_ap, augM_ap, blkM_nil_ap, blkM_cons_ap, retM_ap, tupM_ap, seqM_nil_ap, seqM_cons_ap, flatL, subM_ap, subF_str, subF_list, setItemM_ap, setItemF_list, bltM_ap, blt_len_s, bin_add, bin_sub, cmp_eq_i, cmp_ne_i, cmp_lt_i, cmp_le_i, cmp_gt_i, cmp_ge_i, cmp_eq_c, cmp_ne_c, pd_True, pd_False, asgSw_ap, tupTg_ap, setLs_nil_ap, setLs_cons_ap, blt_abs, q1, q2, q3, q4, r1, r2, z2, z2'] at hfl' hrun ⊢
      rw [hfl', hrun]
    · have z1' : ¬ (rest : Int) = 0 := by omega
      simp [getL_ap, setL_ap, cst_ap, binM_ap, cmpM_ap, andM_nil_ap, andM_cons_ap, orM_nil_ap, orM_cons_ap, iteM_ap, asg1_ap, asg2_ap, augM_ap, blkM_nil_ap, blkM_cons_ap, retM_ap, tupM_ap, seqM_nil_ap, seqM_cons_ap, flatL, subM_ap, subF_str, subF_list, setItemM_ap, setItemF_list, bltM_ap, blt_len_s, bin_add, bin_sub, cmp_eq_i, cmp_ne_i, cmp_lt_i, cmp_le_i, cmp_gt_i, cmp_ge_i, cmp_eq_c, cmp_ne_c, pd_True, pd_False, asgSw_ap, tupTg_ap, setLs_nil_ap, setLs_cons_ap, blt_abs, q1, q2, q3, q4, r1, r2, z1, z1'] at hfl' hrun ⊢
      rw [hfl', hrun]
end
end Mine

/-! Ev12 -/
namespace Mine

theorem newPS_ap (l : List (Option PV)) (mem : List MO) : newPS ⟨l, mem⟩ = some (.fl (.ref mem.length), ⟨l, mem ++ [.pset []]⟩) := rfl
theorem listM_ap (ms : List (Mo PV)) (st : St) : listM ms st = match seqM ms st with | none => none | some (vs, s1) => if vs.length ≤ 100 then newL vs s1 else none := by
  unfold listM bindM
  cases seqM ms st with
  | none => rfl
  | some q =>
    dsimp only
    split <;> rfl

/-- the memory below stands -/
def Below (n : Nat) (mem mem' : List MO) : Prop := mem.length ≤ mem'.length ∧ ∀ j, j < n → mem'[j]? = mem[j]?
theorem Below.refl (n : Nat) (mem : List MO) : Below n mem mem := ⟨Nat.le_refl _, fun _ _ => rfl⟩
theorem Below.trans {n : Nat} {m1 m2 m3 : List MO} (x : Below n m1 m2) (y : Below n m2 m3) : Below n m1 m3 := ⟨Nat.le_trans x.1 y.1, fun j hj => (y.2 j hj).trans (x.2 j hj)⟩
theorem Mv.below {se fu n : Nat} {SF : List Pt × List Pt} {m1 m2 : List MO} (x : Mv se fu SF m1 m2) (h1 : n ≤ se) (h2 : n ≤ fu) : Below n m1 m2 :=
  ⟨Nat.le_of_eq x.len.symm, fun j hj => x.oth j (by omega) (by omega)⟩
theorem Below.snoc (n : Nat) (mem : List MO) (x : MO) (h : n ≤ mem.length) : Below n mem (mem ++ [x]) := ⟨by simp, fun j hj => List.getElem?_append_left (by omega)⟩

section
variable {sw : Bool} {s1 s2 : Str} {a b : List Nat} (ha : s1.cps.toList = a) (hb : s2.cps.toList = b) (hla : a.length ≤ 5) (hlb : b.length ≤ 5)
include ha hb hla hlb
theorem edt_edge_at {D done : Nat} (m : Nat) (hdone : done ≤ D) {kst se fu e : Nat} (hne : se ≠ fu) (hk1 : kst ≠ se) (hk2 : kst ≠ fu) (he1 : e ≠ se) (he2 : e ≠ fu) (E : List Pt) : ∀ (l : List Pt) (n idx : Nat) (SF : List Pt × List Pt) (mem : List MO) (x8 x9 x10 x11 x12 x13 x14 : Option PV), E.drop idx = l → l.length < n →
    LI sw a b D done SF → (∀ p ∈ l, p.1 ≤ a.length ∧ p.2 ≤ b.length ∧ D ≤ done + R sw a b p.1 p.2) → mem[kst]? = some (.list (tups (steps sw))) → mem[e]? = some (.list (tups E)) → mem[se]? = some (.pset SF.1) → mem[fu]? = some (.list (tups SF.2)) →
    match layerF a b (steps sw) m done l SF with
    | none => ∃ st' SF', loopL e (tupTg [8, 9]) (edt_mid 10) n idx ⟨[sS s1, sS s2, sR kst, sI m, sR e, sR se, sI done, sR fu, x8, x9, x10, x11, x12, x13, x14], mem⟩ = some (.ret (.fl (.int done)), st') ∧ Mv se fu SF' mem st'.mem
    | some SF' => ∃ y8 y9 y10 y11 y12 y13 y14 mem', Mv se fu SF' mem mem' ∧ loopL e (tupTg [8, 9]) (edt_mid 10) n idx ⟨[sS s1, sS s2, sR kst, sI m, sR e, sR se, sI done, sR fu, x8, x9, x10, x11, x12, x13, x14], mem⟩ =
        some (.next, ⟨[sS s1, sS s2, sR kst, sI m, sR e, sR se, sI done, sR fu, y8, y9, y10, y11, y12, y13, y14], mem'⟩)
  | [], n, idx, SF, mem, x8, x9, x10, x11, x12, x13, x14, hd, hn, L, hp, hk, he, h1, h2 => by
    obtain ⟨n, rfl⟩ : ∃ q, n = q + 1 := ⟨n - 1, by simp at hn; omega⟩
    refine ⟨x8, x9, x10, x11, x12, x13, x14, mem, .refl h1 h2, ?_⟩
    have : E[idx]? = none := List.getElem?_eq_none (List.drop_eq_nil_iff.mp hd)
    exact loopL_end_ap (ys := tups E) he (by rw [tups_get, this]; rfl)
  | p :: l, n, idx, SF, mem, x8, x9, x10, x11, x12, x13, x14, hd, hn, L, hp, hk, he, h1, h2 => by
    obtain ⟨n, rfl⟩ : ∃ q, n = q + 1 := ⟨n - 1, by simp at hn; omega⟩
    have hg : E[idx]? = some p := by
      have := congrArg (fun l => l[0]?) hd
      simpa using this
    have hd' : E.drop (idx + 1) = l := by
      have := congrArg List.tail hd
      simpa [List.tail_drop] using this
    obtain ⟨p1, p2, p3⟩ := hp p (.head _)
    have hmid := edt_mid_at ha hb hla hlb hne hk1 hk2 (m := m) (l4 := sR e) (x10 := x10) (x11 := x11) (x12 := x12) (x13 := x13) (x14 := x14) p1 p2 p3 L hk h1 h2
    have ht : tupTg [8, 9] (tupP p) ⟨[sS s1, sS s2, sR kst, sI m, sR e, sR se, sI done, sR fu, x8, x9, x10, x11, x12, x13, x14], mem⟩ = some ((), ⟨[sS s1, sS s2, sR kst, sI m, sR e, sR se, sI done, sR fu, sI p.1, sI p.2, x10, x11, x12, x13, x14], mem⟩) := rfl
    have hloop := loopL_cons_ap (b := edt_mid 10) (n := n) (f := tupTg [8, 9]) (st := ⟨[sS s1, sS s2, sR kst, sI m, sR e, sR se, sI done, sR fu, x8, x9, x10, x11, x12, x13, x14], mem⟩) (ys := tups E) (v := tupP p) he (by rw [tups_get, hg]; rfl)
    rw [ht] at hloop
    dsimp only at hloop
    have hsp : LI sw a b D done SF → ∀ SF1, spotF a b (steps sw) m done SF p = some SF1 → LI sw a b D done SF1 := fun L SF1 hs => by
      obtain ⟨t1, t2, t3, _⟩ := trim_ok (sw := sw) (a := a) (b := b) 9 p.1 p.2 p1 p2
      unfold spotF at hs
      split at hs
      · cases hs
      · cases hs
        exact (fold_ok t1 t2 (by omega) (steps sw) L fun _ h => h).1
    rw [layerF]
    cases hs : spotF a b (steps sw) m done SF p with
    | none =>
      rw [hs] at hmid
      obtain ⟨st', q1, q2⟩ := hmid
      rw [q1] at hloop
      exact ⟨st', SF, hloop, by rw [q2]; exact .refl h1 h2⟩
    | some SF1 =>
      rw [hs] at hmid
      obtain ⟨y8, y9, y10, y11, y12, y13, y14, mem1, hM, hrun⟩ := hmid
      rw [hrun] at hloop
      dsimp only at hloop
      have ih := edt_edge_at m hdone hne hk1 hk2 he1 he2 E l n (idx + 1) SF1 mem1 y8 y9 y10 y11 y12 y13 y14 hd' (by simp at hn; omega) (hsp L SF1 hs) (fun p hp' => hp p (.tail _ hp')) (by rw [hM.oth kst hk1 hk2]; exact hk)
        (by rw [hM.oth e he1 he2]; exact he) hM.s hM.f
      dsimp only
      rw [hloop]
      cases hl : layerF a b (steps sw) m done l SF1 with
      | none =>
        rw [hl] at ih
        obtain ⟨st', SF', q1, q2⟩ := ih
        exact ⟨st', SF', q1, hM.trans q2⟩
      | some SF' =>
        rw [hl] at ih
        obtain ⟨z8, z9, z10, z11, z12, z13, z14, mem2, q1, q2⟩ := ih
        exact ⟨z8, z9, z10, z11, z12, z13, z14, mem2, hM.trans q1, q2⟩

theorem edt_outer {D m : Nat} (hD : D = dist sw a b) {kst se base : Nat} (hkb : kst < base) (hsb : base ≤ se) : ∀ (n done : Nat) (E S : List Pt) (e : Nat) (mem : List MO) (x6 x7 x8 x9 x10 x11 x12 x13 x14 : Option PV), n + done = m + 1 → done ≤ D → base ≤ e → e ≠ se → E.length ≤ 36 →
    (∀ p ∈ E, p.1 ≤ a.length ∧ p.2 ≤ b.length ∧ D ≤ done + R sw a b p.1 p.2) → (∀ q ∈ S, q.1 ≤ a.length ∧ q.2 ≤ b.length ∧ D ≤ done + R sw a b q.1 q.2) → S.Nodup → (D ≤ m → ∃ p ∈ E, done + R sw a b p.1 p.2 = D) →
    mem[kst]? = some (.list (tups (steps sw))) → mem[e]? = some (.list (tups E)) → mem[se]? = some (.pset S) →
    ∃ fl st', loopR (setL 6) (edt_lay 10) 1 n done ⟨[sS s1, sS s2, sR kst, sI m, sR e, sR se, x6, x7, x8, x9, x10, x11, x12, x13, x14], mem⟩ = some (fl, st') ∧ Below base mem st'.mem ∧
      ((fl = .next ∧ bfs a b (steps sw) m n done E S = -1) ∨ fl = .ret (.fl (.int (bfs a b (steps sw) m n done E S))))
  | 0, done, E, S, e, mem, x6, x7, x8, x9, x10, x11, x12, x13, x14, h1, h2, h3, h4, h5, h6, h7, h8, h9, hk, he, hs => ⟨.next, _, loopR_zero_ap _ _ _ _ _, .refl _ _, .inl ⟨rfl, rfl⟩⟩
  | n + 1, done, E, S, e, mem, x6, x7, x8, x9, x10, x11, x12, x13, x14, h1, h2, h3, h4, h5, h6, h7, h8, h9, hk, he, hs => by
    have L : LI sw a b D done (S, []) := ⟨fun q hq => ⟨(h7 q hq).1, (h7 q hq).2.1⟩, h8, fun _ h => (nomatch h), Nat.zero_le _, fun _ h => (nomatch h), fun q hq => .inr (h7 q hq).2.2⟩
    have lk := (List.getElem?_eq_some_iff.mp hk).1
    have le := (List.getElem?_eq_some_iff.mp he).1
    have ls := (List.getElem?_eq_some_iff.mp hs).1
    have gk : (mem ++ [MO.list []])[kst]? = some (.list (tups (steps sw))) := by rw [List.getElem?_append_left lk]; exact hk
    have ge : (mem ++ [MO.list []])[e]? = some (.list (tups E)) := by rw [List.getElem?_append_left le]; exact he
    have gs : (mem ++ [MO.list []])[se]? = some (.pset S) := by rw [List.getElem?_append_left ls]; exact hs
    have gf : (mem ++ [MO.list []])[mem.length]? = some (.list (tups [])) := by simp [tups]
    have hedge := edt_edge_at ha hb hla hlb m h2 (kst := kst) (se := se) (fu := mem.length) (e := e) (Nat.ne_of_lt ls) (by omega) (Nat.ne_of_lt lk) h4 (Nat.ne_of_lt le) E E 1000 0 (S, []) (mem ++ [.list []]) x8 x9 x10 x11 x12 x13 x14 (by simp) (by omega) L h6 gk ge gs gf
    have hlay := layer_ok (m := m) hla h2 E L h6
    have hB0 : Below base mem (mem ++ [.list []]) := .snoc _ _ _ (by omega)
    rw [loopR_succ_ap, setL_ap, bfs]
    simp only [List.set_cons_succ, List.set_cons_zero]
    have hfl : ∀ mem0 : List MO, mem0[e]? = some (.list (tups E)) → forListM 1000 (getL 4) (tupTg [8, 9]) (edt_mid 10) ⟨[sS s1, sS s2, sR kst, sI m, sR e, sR se, sI done, sR mem.length, x8, x9, x10, x11, x12, x13, x14], mem0⟩ = loopL e (tupTg [8, 9]) (edt_mid 10) 1000 0 ⟨[sS s1, sS s2, sR kst, sI m, sR e, sR se, sI done, sR mem.length, x8, x9, x10, x11, x12, x13, x14], mem0⟩ := fun mem0 g => forListM_ap (by rfl) g
    cases hl : layerF a b (steps sw) m done E (S, []) with
    | none =>
      rw [hl] at hedge
      obtain ⟨st', SF', q1, q2⟩ := hedge
      refine ⟨.ret (.fl (.int done)), st', ?_, hB0.trans (q2.below hsb (by omega)), .inr rfl⟩
      have : edt_lay 10 ⟨[sS s1, sS s2, sR kst, sI m, sR e, sR se, sI done, x7, x8, x9, x10, x11, x12, x13, x14], mem⟩ = some (.ret (.fl (.int done)), st') := by
        unfold edt_lay
        simp [getL_ap, setL_ap, cst_ap, binM_ap, cmpM_ap, andM_nil_ap, andM_cons_ap, orM_nil_ap, orM_cons_ap, iteM_ap, asg1_ap, asg2_ap, augM_ap, blkM_nil_ap, blkM_cons_ap, retM_ap, tupM_ap, seqM_nil_ap, seqM_cons_ap, flatL, subM_ap, subF_str, subF_list, setItemM_ap, setItemF_list, bltM_ap, blt_len_s, bin_add, bin_sub, cmp_eq_i, cmp_ne_i, cmp_lt_i, cmp_le_i, cmp_gt_i, cmp_ge_i, cmp_eq_c, cmp_ne_c, pd_True, pd_False, asgSw_ap, tupTg_ap, setLs_nil_ap, setLs_cons_ap, blt_abs, newL_ap, newPS_ap, listM_ap, forRangeM_ap, hfl _ ge, q1]
      rw [this]
    | some SF =>
      rw [hl] at hedge hlay
      obtain ⟨y8, y9, y10, y11, y12, y13, y14, mem1, hM, q2⟩ := hedge
      obtain ⟨i1, i2, i3⟩ := hlay
      have : edt_lay 10 ⟨[sS s1, sS s2, sR kst, sI m, sR e, sR se, sI done, x7, x8, x9, x10, x11, x12, x13, x14], mem⟩ = some (.next, ⟨[sS s1, sS s2, sR kst, sI m, sR mem.length, sR se, sI done, sR mem.length, y8, y9, y10, y11, y12, y13, y14], mem1⟩) := by
        unfold edt_lay
        simp [getL_ap, setL_ap, cst_ap, binM_ap, cmpM_ap, andM_nil_ap, andM_cons_ap, orM_nil_ap, orM_cons_ap, iteM_ap, asg1_ap, asg2_ap, augM_ap, blkM_nil_ap, blkM_cons_ap, retM_ap, tupM_ap, seqM_nil_ap, seqM_cons_ap, flatL, subM_ap, subF_str, subF_list, setItemM_ap, setItemF_list, bltM_ap, blt_len_s, bin_add, bin_sub, cmp_eq_i, cmp_ne_i, cmp_lt_i, cmp_le_i, cmp_gt_i, cmp_ge_i, cmp_eq_c, cmp_ne_c, pd_True, pd_False, asgSw_ap, tupTg_ap, setLs_nil_ap, setLs_cons_ap, blt_abs, newL_ap, newPS_ap, listM_ap, forRangeM_ap, hfl _ ge, q2]
      rw [this]
      dsimp only
      have hD1 : done + 1 ≤ D := by
        by_cases hDm : D ≤ m
        · exact (i3 hDm (h9 hDm)).1
        · omega
      obtain ⟨fl, st', r1, r2, r3⟩ := edt_outer hD hkb hsb n (done + 1) SF.2 SF.1 mem.length mem1 (sI done) (sR mem.length) y8 y9 y10 y11 y12 y13 y14 (by omega) hD1 (by omega) (by omega) (i1.le36 hla hlb)
        (fun p hp => ⟨(i1.dom p (i1.fs p hp)).1, (i1.dom p (i1.fs p hp)).2, i1.snd p hp⟩) (fun q hq => ⟨(i1.dom q hq).1, (i1.dom q hq).2, by
          rcases i1.old q hq with h | h
          · exact i1.snd q h
          · omega⟩) i1.nd (fun hDm => (i3 hDm (h9 hDm)).2) (by rw [hM.oth kst (by omega) (by omega)]; exact gk) hM.f hM.s
      exact ⟨fl, st', r1, (hB0.trans (hM.below hsb (by omega))).trans r2, r3⟩
end

theorem edt_call {sw : Bool} {s1 s2 : Str} (h1 : s1.length ≤ 5) (h2 : s2.length ≤ 5) {kst m : Nat} (hm : m ≤ 5) {mem : List MO} (hk : mem[kst]? = some (.list (tups (steps sw)))) :
    ∃ mem', Frame [] [] mem mem' ∧ edt_fm [.fl (.str s1), .fl (.str s2), .fl (.ref kst), .fl (.int m)] mem = some (.fl (.int (if dist sw s1.cps.toList s2.cps.toList ≤ m then (dist sw s1.cps.toList s2.cps.toList : Int) else -1)), mem') := by
  have hla : s1.cps.toList.length ≤ 5 := by simpa [Str.length] using h1
  have hlb : s2.cps.toList.length ≤ 5 := by simpa [Str.length] using h2
  have lk := (List.getElem?_eq_some_iff.mp hk).1
  have gk : (mem ++ [MO.list (tups [(0, 0)]), .pset []])[kst]? = some (.list (tups (steps sw))) := by rw [List.getElem?_append_left lk]; exact hk
  have ge : (mem ++ [MO.list (tups [(0, 0)]), .pset []])[mem.length]? = some (.list (tups [(0, 0)])) := by simp
  have gs : (mem ++ [MO.list (tups [(0, 0)]), .pset []])[mem.length + 1]? = some (.pset []) := by simp
  obtain ⟨fl, st', r1, r2, r3⟩ := edt_outer (sw := sw) (s1 := s1) (s2 := s2) rfl rfl hla hlb (m := m) rfl (kst := kst) (se := mem.length + 1) (base := mem.length) lk (by omega) (m + 1) 0 [(0, 0)] [] mem.length
    (mem ++ [.list (tups [(0, 0)]), .pset []]) none none none none none none none none none rfl (Nat.zero_le _) (Nat.le_refl _) (by omega) (by simp) (fun p hp => by
      rw [List.mem_singleton.mp hp]; exact ⟨Nat.zero_le _, Nat.zero_le _, by rw [R_zero]; omega⟩) (fun q hq => nomatch hq) List.nodup_nil (fun _ => ⟨(0, 0), .head _, by rw [R_zero]; omega⟩) gk ge gs
  have hb := bfs_whole (sw := sw) (a := s1.cps.toList) (b := s2.cps.toList) hla m
  rw [hb] at r3
  generalize (if dist sw s1.cps.toList s2.cps.toList ≤ m then (dist sw s1.cps.toList s2.cps.toList : Int) else -1) = res at r3 ⊢
  have rg : rng [.fl (.int ((m : Int) + 1))] = some (0, m + 1) := by
    have hp : pd (-(2 ^ 62) ≤ (m : Int) + 1 ∧ (m : Int) + 1 < 2 ^ 62) = true := pd_true (by omega)
    have hn : ((m : Int) + 1).toNat = m + 1 := by omega
    unfold rng
    simp only [hp, if_true, hn]
  have hrun : ∃ st2, edt_m 10 ⟨[sS s1, sS s2, sR kst, sI m, none, none, none, none, none, none, none, none, none, none, none], mem⟩ = some (.ret (.fl (.int res)), st2) ∧ st2.mem = st'.mem := by
    rw [edt_m_eq]
    have e0 : tups [(0, 0)] = [.tup [.int 0, .int 0]] := rfl
    rw [e0] at r1
    rcases r3 with ⟨rfl, rfl⟩ | rfl
    · refine ⟨st', ?_, rfl⟩
      simp [getL_ap, setL_ap, cst_ap, binM_ap, cmpM_ap, andM_nil_ap, andM_cons_ap, orM_nil_ap, orM_cons_ap, iteM_ap, asg1_ap, asg2_ap, augM_ap, blkM_nil_ap, blkM_cons_ap, retM_ap, tupM_ap, seqM_nil_ap, seqM_cons_ap, flatL, subM_ap, subF_str, subF_list, setItemM_ap, setItemF_list, bltM_ap, blt_len_s, bin_add, bin_sub, cmp_eq_i, cmp_ne_i, cmp_lt_i, cmp_le_i, cmp_gt_i, cmp_ge_i, cmp_eq_c, cmp_ne_c, pd_True, pd_False, asgSw_ap, tupTg_ap, setLs_nil_ap, setLs_cons_ap, blt_abs, newL_ap, newPS_ap, listM_ap, forRangeM_ap, rg] at r1 ⊢
      simp [r1]
    · refine ⟨st', ?_, rfl⟩
      simp [getL_ap, setL_ap, cst_ap, binM_ap, cmpM_ap, andM_nil_ap, andM_cons_ap, orM_nil_ap, orM_cons_ap, iteM_ap, asg1_ap, asg2_ap, augM_ap, blkM_nil_ap, blkM_cons_ap, retM_ap, tupM_ap, seqM_nil_ap, seqM_cons_ap, flatL, subM_ap, subF_str, subF_list, setItemM_ap, setItemF_list, bltM_ap, blt_len_s, bin_add, bin_sub, cmp_eq_i, cmp_ne_i, cmp_lt_i, cmp_le_i, cmp_gt_i, cmp_ge_i, cmp_eq_c, cmp_ne_c, pd_True, pd_False, asgSw_ap, tupTg_ap, setLs_nil_ap, setLs_cons_ap, blt_abs, newL_ap, newPS_ap, listM_ap, forRangeM_ap, rg] at r1 ⊢
      simp [r1]
  obtain ⟨st2, q1, q2⟩ := hrun
  refine ⟨st2.mem, ⟨?_, fun j hj _ => ?_, fun j hj => .inl hj⟩, ?_⟩
  · have := r2.1
    rw [q2]; simp at this; omega
  · rw [q2, r2.2 j hj, List.getElem?_append_left hj]
  · unfold edt_fm edt_mm edt_lp
    show Option.map _ (edt_m 10 _) = _
    rw [q1]
    rfl
end Mine

/-! Ev13 -/
namespace Mine

def intsP (ns : List Int) : List PV := ns.map fun i => .fl (.int i)
theorem seqM_ints : ∀ (is : List Int) (st : St), seqM (is.map fun i => cst (.fl (.int i))) st = some (intsP is, st)
  | [], st => rfl
  | i :: is, st => by
    rw [List.map_cons, seqM_cons_ap, cst_ap]
    dsimp only
    rw [seqM_ints is st]
    rfl
def limL : List Int := [1, 2, 3, 0, 4, 6, 1000000000000000000000000000000]
def restL : List Int := [0, 89, 572, 1, 1650, 54, 2, 26, 236, 0, 6, 26, 3]
theorem retInts_at {is : List Int} (h : is.length ≤ 100) (mem : List MO) : (blkM [retM (listM (is.map fun i => cst (.fl (.int i))))] ⟨[], mem⟩).map (fun r => (retV r.1, r.2.mem)) = some (.fl (.ref mem.length), mem ++ [.list (intsP is)]) := by
  rw [blkM_cons_ap, retM_ap, listM_ap, seqM_ints]
  dsimp only
  rw [if_pos (by simpa [intsP] using h), newL_ap]
  rfl
theorem lim_call (mem : List MO) : lim_fm [] mem = some (.fl (.ref mem.length), mem ++ [.list (intsP limL)]) := retInts_at (is := limL) (by decide) mem
theorem rest_call (mem : List MO) : rest_fm [] mem = some (.fl (.ref mem.length), mem ++ [.list (intsP restL)]) := retInts_at (is := restL) (by decide) mem

theorem glued_len : ∀ (ps : List Str) (acc : Array Nat), (ps.foldl (fun acc p => acc ++ (Str.ofString "").cps ++ p.cps) acc).size = acc.size + (ps.map (·.length)).sum
  | [], acc => by simp
  | p :: ps, acc => by
    have e : (Str.ofString "").cps.size = 0 := rfl
    rw [List.foldl_cons, glued_len ps, List.map_cons, List.sum_cons, Array.size_append, Array.size_append, e]
    show acc.size + 0 + p.cps.size + _ = acc.size + (p.cps.size + _)
    omega
theorem join_len (ps : List Str) : (Txt.join (Str.ofString "") ps).length = (ps.map (·.length)).sum := by
  show (Builtin.Str.glued (Str.ofString "") ps).length = _
  unfold Builtin.Str.glued
  show Array.size _ = _
  rw [glued_len]
  cases ps with
  | nil => rfl
  | cons p ps => rfl
theorem strsL_map (f : Nat → Str) : ∀ l : List Nat, strsL (l.map fun k => .fl (.str (f k))) = some (l.map f)
  | [] => rfl
  | k :: l => by
    show (strsL (l.map fun k => .fl (.str (f k)))).map (f k :: ·) = _
    rw [strsL_map f l]; rfl
theorem ab_size : (Str.ofString "ab ").cps.size = 3 := by decide +kernel
theorem bin_mod (x y : Int) (h : y ≠ 0) : binG .Mod (.fl (.int x)) (.fl (.int y)) = some (.fl (.int (x.fmod y))) := by
  unfold binG; simp only [pd_true h, if_true]
theorem bin_fdiv (x y : Int) (h : y ≠ 0) (h2 : y.natAbs < 1073741824) : binG .FloorDiv (.fl (.int x)) (.fl (.int y)) = some (.fl (.int (x.fdiv y))) := by
  unfold binG
  have hp : pd (y ≠ 0 ∧ y.natAbs < 1073741824) = true := pd_true ⟨h, h2⟩
  simp only [hp, if_true]
theorem bin_pow (x : Int) (y : Nat) (h : y ≤ 1000) (h2 : x.natAbs < 18446744073709551616) : binG .Pow (.fl (.int x)) (.fl (.int y)) = some (.fl (.int (x ^ y))) := by
  unfold binG
  have hp : pd (0 ≤ (y : Int) ∧ (y : Int) ≤ 1000 ∧ x.natAbs < 2 ^ 64) = true := pd_true ⟨by omega, by omega, by simpa using h2⟩
  simp only [hp, if_true, Int.toNat_natCast]
theorem fmod_range (x : Int) {y : Int} (h : 0 < y) : 0 ≤ x.fmod y ∧ x.fmod y < y := by
  rw [Int.fmod_eq_emod_of_nonneg x (by omega)]
  exact ⟨Int.emod_nonneg x (by omega), Int.emod_lt_of_pos x h⟩

/-- the sign at a place -/
def signAt (n : Int) (p : Int) : Nat := (Str.ofString "ab ").cps.getD ((((n.fdiv 7).fdiv (3 ^ p.toNat)).fmod 3).toNat) 0
theorem txt_call (n : Int) (mem : List MO) : ∃ t mem', txt_fm [.fl (.int n)] mem = some (.fl t, mem') ∧ TextLe 5 t ∧ Frame [] [] mem mem' := by
  obtain ⟨r0, r1⟩ := fmod_range n (show (0 : Int) < 7 by decide)
  obtain ⟨k, hk⟩ := Int.eq_ofNat_of_zero_le r0
  have hm7 := bin_mod n 7 (by decide)
  rw [hk] at hm7
  have hk7 : k < 7 := by omega
  unfold txt_fm txt_mm txt_lp argI
  simp only [List.getElem?_cons_zero]
  unfold txt_m
  by_cases h6 : k = 6
  · subst h6
    refine ⟨.none, mem, ?_, trivial, Frame.refl _ _⟩
    simp [getL_ap, setL_ap, cst_ap, binM_ap, cmpM_ap, andM_nil_ap, andM_cons_ap, orM_nil_ap, orM_cons_ap, iteM_ap, asg1_ap, asg2_ap, augM_ap, blkM_nil_ap, blkM_cons_ap, retM_ap, tupM_ap, seqM_nil_ap, seqM_cons_ap, flatL, subM_ap, subF_str, subF_list, setItemM_ap, setItemF_list, bltM_ap, blt_len_s, bin_add, bin_sub, cmp_eq_i, cmp_ne_i, cmp_lt_i, cmp_le_i, cmp_gt_i, cmp_ge_i, cmp_eq_c, cmp_ne_c, pd_True, pd_False, asgSw_ap, tupTg_ap, setLs_nil_ap, setLs_cons_ap, blt_abs, newL_ap, listM_ap, binX_ap, compM_ap, hm7, retV]
  · have hk5 : k ≤ 5 := by omega
    have hk6' : ¬ ((k : Int) = 6) := by omega
    have helt : ∀ q : Nat, q < k → (subM (cst (.fl (.str (Str.ofString "ab ")))) (binX .Mod (binX .FloorDiv (binX .FloorDiv (cst (.fl (.int n))) (cst (.fl (.int 7)))) (binX .Pow (cst (.fl (.int 3))) (getL 0))) (cst (.fl (.int 3))))) ⟨[sI (0 + q)], []⟩ =
        some (.fl (FV.str ⟨#[signAt n (0 + q)]⟩), ⟨[sI (0 + q)], []⟩) := fun q hq => by
      have e0 : (0 : Int) + (q : Int) = (q : Int) := by omega
      rw [e0]
      have h1 := bin_fdiv n 7 (by decide) (by decide)
      have h2 := bin_pow 3 q (by omega) (by decide)
      have h3p : (3 : Int) ^ q ≠ 0 ∧ ((3 : Int) ^ q).natAbs < 1073741824 := by
        have : q = 0 ∨ q = 1 ∨ q = 2 ∨ q = 3 ∨ q = 4 := by omega
        rcases this with rfl | rfl | rfl | rfl | rfl <;> decide
      have h3 := bin_fdiv (n.fdiv 7) (3 ^ q) h3p.1 h3p.2
      have h4 := bin_mod ((n.fdiv 7).fdiv (3 ^ q)) 3 (by decide)
      obtain ⟨m0, m1⟩ := fmod_range ((n.fdiv 7).fdiv (3 ^ q)) (show (0 : Int) < 3 by decide)
      have hs : signAt n q = (Str.ofString "ab ").cps.getD ((((n.fdiv 7).fdiv (3 ^ q)).fmod 3).toNat) 0 := by unfold signAt; rw [Int.toNat_natCast]
      rw [hs]
      generalize hi : ((n.fdiv 7).fdiv (3 ^ q)).fmod 3 = i at *
      obtain ⟨i, rfl⟩ := Int.eq_ofNat_of_zero_le m0
      have hp : pd (0 ≤ (i : Int) ∧ (i : Int) < 4611686018427387904) = true := pd_true (by omega)
      have hg : (Str.ofString "ab ").cps[i]? = some ((Str.ofString "ab ").cps.getD i 0) := by
        have hlt : i < (Str.ofString "ab ").cps.size := by rw [ab_size]; omega
        rw [Array.getElem?_eq_getElem hlt, Array.getD_eq_getD_getElem?, Array.getElem?_eq_getElem hlt]; rfl
      rw [subM_ap, cst_ap]
      dsimp only
      have hrun : (binX .Mod (binX .FloorDiv (binX .FloorDiv (cst (.fl (.int n))) (cst (.fl (.int 7)))) (binX .Pow (cst (.fl (.int 3))) (getL 0))) (cst (.fl (.int 3)))) ⟨[sI q], []⟩ = some (.fl (.int i), ⟨[sI q], []⟩) := by
        simp only [binX_ap, cst_ap, getL_ap, List.getElem?_cons_zero, h1, h2, h3, h4]
      rw [hrun]
      dsimp only
      rw [subF_str, hp]
      simp only [if_true, Int.toNat_natCast, hg, Option.map_some]
    have hcomp := compL_all (g := fun p => FV.str ⟨#[signAt n p]⟩) (fun _ => rfl) k 0 helt
    have rg : rng [.fl (.int (k : Int))] = some (0, k) := by
      have hp : pd (-(2 ^ 62) ≤ (k : Int) ∧ (k : Int) < 2 ^ 62) = true := pd_true (by omega)
      unfold rng
      simp only [hp, if_true, Int.toNat_natCast]
    have hsl := strsL_map (fun q => (⟨#[signAt n (0 + (q : Nat))]⟩ : Str)) (List.range k)
    have hlen : (((List.range k).map fun q => (⟨#[signAt n (0 + (q : Nat))]⟩ : Str)).map (·.length)).sum = k := by
      have : ∀ l : List Nat, ((l.map fun q => (⟨#[signAt n (0 + (q : Nat))]⟩ : Str)).map (·.length)).sum = l.length := fun l => by
        induction l with
        | nil => rfl
        | cons x l ih => rw [List.map_cons, List.map_cons, List.sum_cons, ih, List.length_cons]; show 1 + _ = _; omega
      rw [this, List.length_range]
    refine ⟨.str (Txt.join (Str.ofString "") ((List.range k).map fun q => (⟨#[signAt n (0 + (q : Nat))]⟩ : Str))), mem ++ [.list ((List.range k).map fun q => .fl (.str ⟨#[signAt n (0 + (q : Nat))]⟩))], ?_, ?_, Frame.snoc _ _ _⟩
    · have hjoin : joinM (Str.ofString "") (compM [(binX .Mod (cst (.fl (.int n))) (cst (.fl (.int 7))))] (subM (cst (.fl (.str (Str.ofString "ab ")))) (binX .Mod (binX .FloorDiv (binX .FloorDiv (cst (.fl (.int n))) (cst (.fl (.int 7)))) (binX .Pow (cst (.fl (.int 3))) (getL 0))) (cst (.fl (.int 3)))))) ⟨[], mem⟩ =
          some (.fl (.str (Txt.join (Str.ofString "") ((List.range k).map fun q => (⟨#[signAt n (0 + (q : Nat))]⟩ : Str)))), ⟨[], mem ++ [.list ((List.range k).map fun q => .fl (.str ⟨#[signAt n (0 + (q : Nat))]⟩))]⟩) := by
        unfold joinM
        rw [bindM_ap, compM_ap]
        simp only [seqM_cons_ap, seqM_nil_ap, binX_ap, cst_ap, hm7, rg, hcomp]
        rw [if_pos (by omega), newL_ap]
        dsimp only
        unfold joinF
        simp only [List.getElem?_concat_length, hsl]
        rw [if_pos ⟨by decide +kernel, by rw [hlen]; simp; omega⟩]
        rfl
      have hmod : binX .Mod (cst (.fl (.int n))) (cst (.fl (.int 7))) ⟨[], mem⟩ = some (.fl (.int k), ⟨[], mem⟩) := by simp only [binX_ap, cst_ap, hm7]
      rw [blkM_cons_ap, iteM_ap, cmpM_ap, hmod]
      dsimp only
      rw [cst_ap]
      dsimp only
      rw [cmp_eq_i, decide_eq_false hk6']
      simp only [Bool.false_eq_true, if_false, blkM_nil_ap]
      rw [blkM_cons_ap, retM_ap, hjoin]
      rfl
    · show (Txt.join _ _).length ≤ 5
      rw [join_len, hlen]; exact hk5
end Mine

/-! Ev14 -/
namespace Mine

theorem addSM_ap (ml mr : Mo PV) (st : St) : addSM ml mr st = match ml st with | none => none | some (a, s1) => match mr s1 with | none => none | some (b, s2) => match addSF a b with | none => none | some c => some (c, s2) := by
  unfold addSM bindM liftO
  cases ml st with
  | none => rfl
  | some q =>
    dsimp only
    cases mr q.2 with
    | none => rfl
    | some r => dsimp only; cases addSF q.1 r.1 <;> rfl

def law_asg : Mo Fl → Prop := fun _ => True
noncomputable def round_asg : Mo Fl := (asgSw (tupM [(runM [] [(subM (getL 1) (getL 6))] txt_fm), (runM [] [(subM (getL 1) (binM .Add (getL 6) (cst (.fl (.int 1)))))] txt_fm), (subM (runM [] [] lim_fm) (binX .Mod (subM (getL 1) (binM .Add (getL 6) (cst (.fl (.int 2))))) (cst (.fl (.int 7)))))]) [9, 8, 7])
noncomputable def round_tell : Mo Fl := (appM (getL 4) (methM (tab1 728 false edC_fm) (getL 2) "compare" [(getL 7), (getL 8), (getL 9)]))
noncomputable def round_want : Mo Fl := (iteM (orM [(cmpM .Is (getL 7) (cst (.fl .none))), (cmpM .Is (getL 8) (cst (.fl .none)))]) (blkM [(asg1 (bltM "len" [(addSM (orVM (getL 7) (cst (.fl (.str (Str.ofString ""))))) (orVM (getL 8) (cst (.fl (.str (Str.ofString ""))))))]) (setL 10)),
  (appM (getL 5) (iteM (cmpM .LtE (getL 10) (getL 9)) (getL 10) (cst (.fl (.int (-1))))))]) (blkM [(appM (getL 5) (runM [] [(getL 7), (getL 8), (getL 3), (bltM "min" [(getL 9), (cst (.fl (.int 5)))])] edt_fm))]))
noncomputable def round : Mo Fl := blkM [round_asg, round_tell, round_want]

theorem ints_get (ns : List Int) (i : Nat) : (intsP ns)[i]? = (ns[i]?).map fun i => .fl (.int i) := by simp [intsP]
theorem ints_snoc (ns : List Int) (x : Int) : intsP (ns ++ [x]) = intsP ns ++ [.fl (.int x)] := by simp [intsP]

/-- the length that a text counts for -/
def tl : FV → Nat
  | .str s => s.length
  | _ => 0
theorem orV_at {k : Nat} {t : FV} (ht : TextLe 5 t) {l : List (Option PV)} {mem : List MO} (hl : l[k]? = some (some (.fl t))) : ∃ s : Str, s.length = tl t ∧ orVM (getL k) (cst (.fl (.str (Str.ofString "")))) ⟨l, mem⟩ = some (.fl (.str s), ⟨l, mem⟩) := by
  match t, ht with
  | .none, _ =>
    refine ⟨Str.ofString "", rfl, ?_⟩
    unfold orVM bindM getL
    simp only [hl]; rfl
  | .str s, ht =>
    have ht : s.length ≤ 5 := ht
    by_cases h0 : s.length = 0
    · refine ⟨Str.ofString "", h0.symm, ?_⟩
      unfold orVM bindM getL
      simp only [hl]
      rw [if_pos (by omega), if_pos h0]; rfl
    · refine ⟨s, rfl, ?_⟩
      unfold orVM bindM getL
      simp only [hl]
      rw [if_pos (by omega), if_neg h0]
theorem addS_at (s1 s2 : Str) (h1 : s1.length ≤ 5) (h2 : s2.length ≤ 5) : addSF (.fl (.str s1)) (.fl (.str s2)) = some (.fl (.str (s1 ++ s2))) ∧ (s1 ++ s2).length = s1.length + s2.length := by
  constructor
  · unfold addSF; dsimp only; rw [if_pos (by omega)]
  · show (s1.cps ++ s2.cps).size = _
    rw [Array.size_append]; rfl
theorem ans_lone {sw : Bool} {t1 t2 : FV} (h1 : TextLe 5 t1) (h2 : TextLe 5 t2) (h : t1 = .none ∨ t2 = .none) {lim : Int} (hl : 0 ≤ lim) : ans sw t1 t2 lim = if ((tl t1 + tl t2 : Nat) : Int) ≤ lim then ((tl t1 + tl t2 : Nat) : Int) else -1 := by
  match t1, t2, h1, h2 with
  | .none, .none, _, _ => have e : tl .none + tl .none = 0 := rfl; rw [e, if_pos (by omega)]; rfl
  | .none, .str s, _, _ => have e : tl .none + tl (.str s) = s.length := Nat.zero_add _; rw [e]; rfl
  | .str s, .none, _, _ => have e : tl (.str s) + tl .none = s.length := rfl; rw [e]; rfl
  | .str s, .str s', _, _ => rcases h with h | h <;> cases h
theorem ans_both {sw : Bool} {s1 s2 : Str} (h1 : s1.length ≤ 5) (h2 : s2.length ≤ 5) {lim : Int} (hl : 0 ≤ lim) :
    ans sw (.str s1) (.str s2) lim = if dist sw s1.cps.toList s2.cps.toList ≤ (min lim 5).toNat then (dist sw s1.cps.toList s2.cps.toList : Int) else -1 := by
  show ansT sw s1.cps.toList s2.cps.toList lim = _
  have hd := dist_max (sw := sw) s1.cps.toList s2.cps.toList
  have e1 : s1.cps.toList.length = s1.length := by simp [Str.length]
  have e2 : s2.cps.toList.length = s2.length := by simp [Str.length]
  have hz := dist_zero (sw := sw) (a := s1.cps.toList) (b := s2.cps.toList)
  unfold ansT
  by_cases h0 : lim ≤ 0
  · have : lim = 0 := by omega
    subst this
    rw [if_pos (by omega)]
    by_cases hd0 : dist sw s1.cps.toList s2.cps.toList = 0
    · rw [if_pos (hz.mp hd0), if_pos (by omega), hd0]; rfl
    · rw [if_neg (fun h => hd0 (hz.mpr h)), if_neg (by omega)]
  · rw [if_neg h0]
    by_cases hc : (dist sw s1.cps.toList s2.cps.toList : Int) ≤ lim
    · rw [if_pos hc, if_pos (by omega)]
    · rw [if_neg hc, if_neg (by omega)]

/-- what stands between the rounds -/
structure Rd (sw : Bool) (D : List Int) (d k ks t w : Nat) (T T2 : List Int) (mem : List MO) : Prop where
  draws : mem[d]? = some (.list (intsP D))
  len : D.length = 13
  steps : mem[ks]? = some (.list (tups (steps sw)))
  told : mem[t]? = some (.list (intsP T))
  wanted : mem[w]? = some (.list (intsP T2))
  ne : t ≠ w
  td : t ≠ d ∧ t ≠ ks ∧ w ≠ d ∧ w ≠ ks
  meter : ∃ own, Meter sw k own mem ∧ d ∉ own ∧ ks ∉ own ∧ t ∉ own ∧ w ∉ own
  few : T.length ≤ 1000 ∧ T2.length ≤ 1000

theorem lim_get (x : Int) : ∃ l : Int, limL[(x.fmod 7).toNat]? = some l ∧ 0 ≤ l := by
  obtain ⟨h0, h1⟩ := fmod_range x (show (0 : Int) < 7 by decide)
  generalize x.fmod 7 = y at *
  obtain ⟨n, rfl⟩ := Int.eq_ofNat_of_zero_le h0
  have : n = 0 ∨ n = 1 ∨ n = 2 ∨ n = 3 ∨ n = 4 ∨ n = 5 ∨ n = 6 := by omega
  rcases this with rfl | rfl | rfl | rfl | rfl | rfl | rfl <;> exact ⟨_, rfl, by decide⟩

theorem asg_at {l0 l2 l3 l4 l5 l7 l8 l9 l10 : Option PV} {d at_ : Nat} {D : List Int} {mem : List MO} (hd : mem[d]? = some (.list (intsP D))) (hl : D.length = 13) (ha : at_ + 2 < 13) :
    ∃ t1 t2 lim mem', TextLe 5 t1 ∧ TextLe 5 t2 ∧ 0 ≤ lim ∧ Frame [] [] mem mem' ∧ round_asg ⟨[l0, sR d, l2, l3, l4, l5, sI at_, l7, l8, l9, l10], mem⟩ = some (.next, ⟨[l0, sR d, l2, l3, l4, l5, sI at_, some (.fl t1), some (.fl t2), sI lim, l10], mem'⟩) := by
  have g0 : (intsP D)[at_]? = some (.fl (.int (D[at_]'(by omega)))) := by rw [ints_get, List.getElem?_eq_getElem (by omega)]; rfl
  have g1 : (intsP D)[at_ + 1]? = some (.fl (.int (D[at_ + 1]'(by omega)))) := by rw [ints_get, List.getElem?_eq_getElem (by omega)]; rfl
  have g2 : (intsP D)[at_ + 2]? = some (.fl (.int (D[at_ + 2]'(by omega)))) := by rw [ints_get, List.getElem?_eq_getElem (by omega)]; rfl
  generalize D[at_]'(by omega) = v0 at g0
  generalize D[at_ + 1]'(by omega) = v1 at g1
  generalize D[at_ + 2]'(by omega) = v2 at g2
  obtain ⟨t1, m1, c1, c2, c3⟩ := txt_call v0 mem
  have ld := (List.getElem?_eq_some_iff.mp hd).1
  have hd1 : m1[d]? = some (.list (intsP D)) := by rw [c3.keep d ld (fun h => nomatch h)]; exact hd
  obtain ⟨t2, m2, c4, c5, c6⟩ := txt_call v1 m1
  have ld1 := (List.getElem?_eq_some_iff.mp hd1).1
  have hd2 : m2[d]? = some (.list (intsP D)) := by rw [c6.keep d ld1 (fun h => nomatch h)]; exact hd1
  have ld2 := (List.getElem?_eq_some_iff.mp hd2).1
  have hd3 : (m2 ++ [MO.list (intsP limL)])[d]? = some (.list (intsP D)) := by rw [List.getElem?_append_left ld2]; exact hd2
  have hl3 : (m2 ++ [MO.list (intsP limL)])[m2.length]? = some (.list (intsP limL)) := by simp
  have c7 := lim_call m2
  obtain ⟨lim, c8, c9⟩ := lim_get v2
  have hm7 := bin_mod v2 7 (by decide)
  obtain ⟨f0, f1⟩ := fmod_range v2 (show (0 : Int) < 7 by decide)
  generalize hf : v2.fmod 7 = f at *
  obtain ⟨f, rfl⟩ := Int.eq_ofNat_of_zero_le f0
  have glim : (intsP limL)[f]? = some (.fl (.int lim)) := by rw [ints_get]; rw [Int.toNat_natCast] at c8; rw [c8]; rfl
  refine ⟨t1, t2, lim, m2 ++ [.list (intsP limL)], c2, c5, c9, (c3.trans c6).trans (Frame.snoc _ _ _), ?_⟩
  have b0 : (at_ : Int) < 4611686018427387904 := by omega
  have b1 : (at_ : Int) + 1 < 4611686018427387904 := by omega
  have b2 : (at_ : Int) + 2 < 4611686018427387904 := by omega
  have b3 : (f : Int) < 4611686018427387904 := by omega
  have z1 : (0 : Int) ≤ (at_ : Int) + 1 := by omega
  have z2 : (0 : Int) ≤ (at_ : Int) + 2 := by omega
  have n1 : ((at_ : Int) + 1).toNat = at_ + 1 := by omega
  have n2 : ((at_ : Int) + 2).toNat = at_ + 2 := by omega
  unfold round_asg
  simp [getL_ap, setL_ap, cst_ap, binM_ap, cmpM_ap, andM_nil_ap, andM_cons_ap, orM_nil_ap, orM_cons_ap, iteM_ap, asg1_ap, asg2_ap, augM_ap, blkM_nil_ap, blkM_cons_ap, retM_ap, tupM_ap, seqM_nil_ap, seqM_cons_ap, flatL, subM_ap, subF_str, subF_list, setItemM_ap, setItemF_list, bltM_ap, blt_len_s, bin_add, bin_sub, cmp_eq_i, cmp_ne_i, cmp_lt_i, cmp_le_i, cmp_gt_i, cmp_ge_i, cmp_eq_c, cmp_ne_c, pd_True, pd_False, asgSw_ap, tupTg_ap, setLs_nil_ap, setLs_cons_ap, blt_abs, newL_ap, listM_ap, binX_ap, runM_ap, appM_ap, addSM_ap, cmp_is_nn, cmp_is_sn, min_ints, hd, hd1, hd2, hd3, hl3, g0, g1, g2, c1, c4, c7, hm7, b0, b1, b2, b3, z1, z2, n1, n2, glim]

theorem Rd.frame {sw : Bool} {D : List Int} {d k ks t w : Nat} {T T2 : List Int} {mem mem' : List MO} (h : Rd sw D d k ks t w T T2 mem) (F : Frame [] [] mem mem') : Rd sw D d k ks t w T T2 mem' := by
  have g : ∀ (j : Nat) x, mem[j]? = some x → mem'[j]? = some x := fun j x e => by rw [F.keep j (List.getElem?_eq_some_iff.mp e).1 (fun h => nomatch h)]; exact e
  obtain ⟨own, q1, q2⟩ := h.meter
  exact ⟨g _ _ h.draws, h.len, g _ _ h.steps, g _ _ h.told, g _ _ h.wanted, h.ne, h.td, ⟨own, q1.frame F, q2⟩, h.few⟩
theorem Rd.putT {sw : Bool} {D : List Int} {d k ks t w : Nat} {T T2 : List Int} {mem : List MO} (h : Rd sw D d k ks t w T T2 mem) (x : Int) (hl : T.length < 1000) : Rd sw D d k ks t w (T ++ [x]) T2 (mem.set t (.list (intsP (T ++ [x])))) := by
  have lt := (List.getElem?_eq_some_iff.mp h.told).1
  obtain ⟨own, q1, q2, q3, q4, q5⟩ := h.meter
  obtain ⟨n1, n2, n3, n4⟩ := h.td
  refine ⟨by rw [List.getElem?_set_ne n1]; exact h.draws, h.len, by rw [List.getElem?_set_ne n2]; exact h.steps, List.getElem?_set_self lt, by rw [List.getElem?_set_ne h.ne]; exact h.wanted, h.ne, h.td, ⟨own, q1.setL h.told q4 _, q2, q3, q4, q5⟩, by simp; omega, h.few.2⟩
theorem Rd.putW {sw : Bool} {D : List Int} {d k ks t w : Nat} {T T2 : List Int} {mem : List MO} (h : Rd sw D d k ks t w T T2 mem) (x : Int) (hl : T2.length < 1000) : Rd sw D d k ks t w T (T2 ++ [x]) (mem.set w (.list (intsP (T2 ++ [x])))) := by
  have lw := (List.getElem?_eq_some_iff.mp h.wanted).1
  obtain ⟨own, q1, q2, q3, q4, q5⟩ := h.meter
  obtain ⟨n1, n2, n3, n4⟩ := h.td
  refine ⟨by rw [List.getElem?_set_ne n3]; exact h.draws, h.len, by rw [List.getElem?_set_ne n4]; exact h.steps, by rw [List.getElem?_set_ne (Ne.symm h.ne)]; exact h.told, List.getElem?_set_self lw, h.ne, h.td, ⟨own, q1.setL h.wanted q5 _, q2, q3, q4, q5⟩, h.few.1, by simp; omega⟩

theorem tell_at {sw : Bool} {D : List Int} {d k ks t w : Nat} {T T2 : List Int} {mem : List MO} (h : Rd sw D d k ks t w T T2 mem) (hl : T.length < 1000) {t1 t2 : FV} (h1 : TextLe 5 t1) (h2 : TextLe 5 t2) {lim : Int} {l0 l6 l10 : Option PV} :
    ∃ mem', Rd sw D d k ks t w (T ++ [ans sw t1 t2 lim]) T2 mem' ∧ round_tell ⟨[l0, sR d, sR k, sR ks, sR t, sR w, l6, some (.fl t1), some (.fl t2), sI lim, l10], mem⟩ = some (.next, ⟨[l0, sR d, sR k, sR ks, sR t, sR w, l6, some (.fl t1), some (.fl t2), sI lim, l10], mem'⟩) := by
  obtain ⟨own, q1, q2, q3, q4, q5⟩ := h.meter
  have w1 : TextLe 1000 t1 := by match t1, h1 with | .none, _ => trivial | .str s, h1 => exact Nat.le_trans h1 (by omega)
  have w2 : TextLe 1000 t2 := by match t2, h2 with | .none, _ => trivial | .str s, h2 => exact Nat.le_trans h2 (by omega)
  obtain ⟨own', mem1, c1, c2, c3⟩ := edC_call q1 w1 w2 lim
  obtain ⟨kd, c, f, p1, p2, p3, p4⟩ := q1.here
  have fr : ∀ (j : Nat) x, j ∉ own → mem[j]? = some x → mem1[j]? = some x := fun j x hj e => by rw [c2.keep j (List.getElem?_eq_some_iff.mp e).1 hj]; exact e
  have out : ∀ (j : Nat) x, j ∉ own → mem[j]? = some x → j ∉ own' := fun j x hj e hm => by
    rcases c2.own j hm with g | g
    · exact hj g
    · exact absurd (List.getElem?_eq_some_iff.mp e).1 (Nat.not_lt.mpr g)
  have R1 : Rd sw D d k ks t w T T2 mem1 := ⟨fr _ _ q2 h.draws, h.len, fr _ _ q3 h.steps, fr _ _ q4 h.told, fr _ _ q5 h.wanted, h.ne, h.td, ⟨own', c1, out _ _ q2 h.draws, out _ _ q3 h.steps, out _ _ q4 h.told, out _ _ q5 h.wanted⟩, h.few⟩
  refine ⟨_, R1.putT (ans sw t1 t2 lim) hl, ?_⟩
  have hmeth := meth_at (tab := tab1 728 false edC_fm) (mo := getL 2) (name := "compare") (ms := [(getL 7), (getL 8), (getL 9)])
    (st := ⟨[l0, sR d, sR k, sR ks, sR t, sR w, l6, some (.fl t1), some (.fl t2), sI lim, l10], mem⟩) (s1 := ⟨[l0, sR d, sR k, sR ks, sR t, sR w, l6, some (.fl t1), some (.fl t2), sI lim, l10], mem⟩) (k := k) rfl p1 p2 rfl (show tab1 728 false edC_fm 728 = _ from rfl)
  unfold round_tell
  have ha := appF_at (l := [l0, sR d, sR k, sR ks, sR t, sR w, l6, some (.fl t1), some (.fl t2), sI lim, l10]) (v := .fl (.int (ans sw t1 t2 lim))) R1.told (by simp [intsP]; omega)
  simp [getL_ap, setL_ap, cst_ap, binM_ap, cmpM_ap, andM_nil_ap, andM_cons_ap, orM_nil_ap, orM_cons_ap, iteM_ap, asg1_ap, asg2_ap, augM_ap, blkM_nil_ap, blkM_cons_ap, retM_ap, tupM_ap, seqM_nil_ap, seqM_cons_ap, flatL, subM_ap, subF_str, subF_list, setItemM_ap, setItemF_list, bltM_ap, blt_len_s, bin_add, bin_sub, cmp_eq_i, cmp_ne_i, cmp_lt_i, cmp_le_i, cmp_gt_i, cmp_ge_i, cmp_eq_c, cmp_ne_c, pd_True, pd_False, asgSw_ap, tupTg_ap, setLs_nil_ap, setLs_cons_ap, blt_abs, newL_ap, listM_ap, binX_ap, runM_ap, appM_ap, addSM_ap, cmp_is_nn, cmp_is_sn, min_ints, hmeth, isL_at h.told, c3, ha, ints_snoc]

theorem want_at {sw : Bool} {D : List Int} {d k ks t w : Nat} {T T2 : List Int} {mem : List MO} (h : Rd sw D d k ks t w T T2 mem) (hl : T2.length < 1000) {t1 t2 : FV} (h1 : TextLe 5 t1) (h2 : TextLe 5 t2) {lim : Int} (hlim : 0 ≤ lim) {l0 l6 l10 : Option PV} :
    ∃ mem' y10, Rd sw D d k ks t w T (T2 ++ [ans sw t1 t2 lim]) mem' ∧ round_want ⟨[l0, sR d, sR k, sR ks, sR t, sR w, l6, some (.fl t1), some (.fl t2), sI lim, l10], mem⟩ = some (.next, ⟨[l0, sR d, sR k, sR ks, sR t, sR w, l6, some (.fl t1), some (.fl t2), sI lim, y10], mem'⟩) := by
  by_cases hn : t1 = .none ∨ t2 = .none
  · refine ⟨_, sI ((tl t1 + tl t2 : Nat) : Int), h.putW (ans sw t1 t2 lim) hl, ?_⟩
    obtain ⟨s1, e1, r1⟩ := orV_at (k := 7) h1 (l := [l0, sR d, sR k, sR ks, sR t, sR w, l6, some (.fl t1), some (.fl t2), sI lim, l10]) (mem := mem) rfl
    obtain ⟨s2, e2, r2⟩ := orV_at (k := 8) h2 (l := [l0, sR d, sR k, sR ks, sR t, sR w, l6, some (.fl t1), some (.fl t2), sI lim, l10]) (mem := mem) rfl
    have b1 : tl t1 ≤ 5 := by match t1, h1 with | .none, _ => exact Nat.zero_le _ | .str s, h1 => exact h1
    have b2 : tl t2 ≤ 5 := by match t2, h2 with | .none, _ => exact Nat.zero_le _ | .str s, h2 => exact h2
    obtain ⟨a1, a2⟩ := addS_at s1 s2 (by omega) (by omega)
    have a3 : (s1 ++ s2).length < 4611686018427387904 := by omega
    have a4 : ((s1 ++ s2).length : Int) = ((tl t1 + tl t2 : Nat) : Int) := by omega
    have hc : (orM [(cmpM .Is (getL 7) (cst (.fl .none))), (cmpM .Is (getL 8) (cst (.fl .none)))]) ⟨[l0, sR d, sR k, sR ks, sR t, sR w, l6, some (.fl t1), some (.fl t2), sI lim, l10], mem⟩ = some (true, ⟨[l0, sR d, sR k, sR ks, sR t, sR w, l6, some (.fl t1), some (.fl t2), sI lim, l10], mem⟩) := by
      match t1, t2, h1, h2 with
      | .none, _, _, _ => simp [getL_ap, setL_ap, cst_ap, binM_ap, cmpM_ap, andM_nil_ap, andM_cons_ap, orM_nil_ap, orM_cons_ap, iteM_ap, asg1_ap, asg2_ap, augM_ap, blkM_nil_ap, blkM_cons_ap, retM_ap, tupM_ap, seqM_nil_ap, seqM_cons_ap, flatL, subM_ap, subF_str, subF_list, setItemM_ap, setItemF_list, bltM_ap, blt_len_s, bin_add, bin_sub, cmp_eq_i, cmp_ne_i, cmp_lt_i, cmp_le_i, cmp_gt_i, cmp_ge_i, cmp_eq_c, cmp_ne_c, pd_True, pd_False, asgSw_ap, tupTg_ap, setLs_nil_ap, setLs_cons_ap, blt_abs, newL_ap, listM_ap, binX_ap, runM_ap, appM_ap, addSM_ap, cmp_is_nn, cmp_is_sn, min_ints]
      | .str s, .none, _, _ => simp [getL_ap, setL_ap, cst_ap, binM_ap, cmpM_ap, andM_nil_ap, andM_cons_ap, orM_nil_ap, orM_cons_ap, iteM_ap, asg1_ap, asg2_ap, augM_ap, blkM_nil_ap, blkM_cons_ap, retM_ap, tupM_ap, seqM_nil_ap, seqM_cons_ap, flatL, subM_ap, subF_str, subF_list, setItemM_ap, setItemF_list, bltM_ap, blt_len_s, bin_add, bin_sub, cmp_eq_i, cmp_ne_i, cmp_lt_i, cmp_le_i, cmp_gt_i, cmp_ge_i, cmp_eq_c, cmp_ne_c, pd_True, pd_False, asgSw_ap, tupTg_ap, setLs_nil_ap, setLs_cons_ap, blt_abs, newL_ap, listM_ap, binX_ap, runM_ap, appM_ap, addSM_ap, cmp_is_nn, cmp_is_sn, min_ints]
      | .str s, .str s', _, _ => rcases hn with hn | hn <;> cases hn
    have ha := fun x => appF_at (l := [l0, sR d, sR k, sR ks, sR t, sR w, l6, some (.fl t1), some (.fl t2), sI lim, sI ((tl t1 + tl t2 : Nat) : Int)]) (v := .fl (.int x)) h.wanted (by simp [intsP]; omega)
    rw [ans_lone h1 h2 hn hlim]
    generalize tl t1 + tl t2 = size at *
    unfold round_want
    rw [iteM_ap, hc]
    dsimp only
    rw [if_pos rfl, blkM_cons_ap, asg1_ap, bltM_ap, seqM_cons_ap, addSM_ap, r1]
    dsimp only
    rw [r2]
    dsimp only
    rw [a1]
    dsimp only
    rw [seqM_nil_ap]
    dsimp only
    rw [blt_len_s, pd_true a3, if_pos rfl, a4]
    dsimp only
    rw [setL_ap]
    dsimp only [List.set_cons_succ, List.set_cons_zero]
    by_cases hle : (size : Int) ≤ lim
    · rw [if_pos hle]
      simp [getL_ap, setL_ap, cst_ap, binM_ap, cmpM_ap, andM_nil_ap, andM_cons_ap, orM_nil_ap, orM_cons_ap, iteM_ap, asg1_ap, asg2_ap, augM_ap, blkM_nil_ap, blkM_cons_ap, retM_ap, tupM_ap, seqM_nil_ap, seqM_cons_ap, flatL, subM_ap, subF_str, subF_list, setItemM_ap, setItemF_list, bltM_ap, blt_len_s, bin_add, bin_sub, cmp_eq_i, cmp_ne_i, cmp_lt_i, cmp_le_i, cmp_gt_i, cmp_ge_i, cmp_eq_c, cmp_ne_c, pd_True, pd_False, asgSw_ap, tupTg_ap, setLs_nil_ap, setLs_cons_ap, blt_abs, newL_ap, listM_ap, binX_ap, runM_ap, appM_ap, addSM_ap, cmp_is_nn, cmp_is_sn, min_ints, isL_at h.wanted, hle, ha, ints_snoc]
    · have hle' : pd ((size : Int) ≤ lim) = false := pd_false hle
      rw [if_neg hle]
      simp [getL_ap, setL_ap, cst_ap, binM_ap, cmpM_ap, andM_nil_ap, andM_cons_ap, orM_nil_ap, orM_cons_ap, iteM_ap, asg1_ap, asg2_ap, augM_ap, blkM_nil_ap, blkM_cons_ap, retM_ap, tupM_ap, seqM_nil_ap, seqM_cons_ap, flatL, subM_ap, subF_str, subF_list, setItemM_ap, setItemF_list, bltM_ap, blt_len_s, bin_add, bin_sub, cmp_eq_i, cmp_ne_i, cmp_lt_i, cmp_le_i, cmp_gt_i, cmp_ge_i, cmp_eq_c, cmp_ne_c, pd_True, pd_False, asgSw_ap, tupTg_ap, setLs_nil_ap, setLs_cons_ap, blt_abs, newL_ap, listM_ap, binX_ap, runM_ap, appM_ap, addSM_ap, cmp_is_nn, cmp_is_sn, min_ints, isL_at h.wanted, hle', ha, ints_snoc]
  · match t1, t2, h1, h2 with
    | .none, _, _, _ => exact absurd (.inl rfl) hn
    | .str s, .none, _, _ => exact absurd (.inr rfl) hn
    | .str s1, .str s2, h1, h2 =>
      have hm : (min lim 5).toNat ≤ 5 := by omega
      have hmc : (((min lim 5).toNat : Nat) : Int) = min lim 5 := by omega
      obtain ⟨mem1, F, c1⟩ := edt_call (sw := sw) h1 h2 hm h.steps
      rw [hmc, ← ans_both h1 h2 hlim] at c1
      have R1 := h.frame F
      refine ⟨_, l10, R1.putW (ans sw (.str s1) (.str s2) lim) hl, ?_⟩
      have ha := appF_at (l := [l0, sR d, sR k, sR ks, sR t, sR w, l6, sS s1, sS s2, sI lim, l10]) (v := .fl (.int (ans sw (.str s1) (.str s2) lim))) R1.wanted (by simp [intsP]; omega)
      unfold round_want
      simp [getL_ap, setL_ap, cst_ap, binM_ap, cmpM_ap, andM_nil_ap, andM_cons_ap, orM_nil_ap, orM_cons_ap, iteM_ap, asg1_ap, asg2_ap, augM_ap, blkM_nil_ap, blkM_cons_ap, retM_ap, tupM_ap, seqM_nil_ap, seqM_cons_ap, flatL, subM_ap, subF_str, subF_list, setItemM_ap, setItemF_list, bltM_ap, blt_len_s, bin_add, bin_sub, cmp_eq_i, cmp_ne_i, cmp_lt_i, cmp_le_i, cmp_gt_i, cmp_ge_i, cmp_eq_c, cmp_ne_c, pd_True, pd_False, asgSw_ap, tupTg_ap, setLs_nil_ap, setLs_cons_ap, blt_abs, newL_ap, listM_ap, binX_ap, runM_ap, appM_ap, addSM_ap, cmp_is_nn, cmp_is_sn, min_ints, isL_at h.wanted, c1, ha, ints_snoc]

theorem round_at {sw : Bool} {D : List Int} {d k ks t w at_ : Nat} {T : List Int} {mem : List MO} (h : Rd sw D d k ks t w T T mem) (hl : T.length < 1000) (ha : at_ + 2 < 13) {l0 l7 l8 l9 l10 : Option PV} :
    ∃ x mem' y7 y8 y9 y10, Rd sw D d k ks t w (T ++ [x]) (T ++ [x]) mem' ∧ round ⟨[l0, sR d, sR k, sR ks, sR t, sR w, sI at_, l7, l8, l9, l10], mem⟩ = some (.next, ⟨[l0, sR d, sR k, sR ks, sR t, sR w, sI at_, y7, y8, y9, y10], mem'⟩) := by
  obtain ⟨t1, t2, lim, m1, q1, q2, q3, q4, q5⟩ := asg_at (l0 := l0) (l2 := sR k) (l3 := sR ks) (l4 := sR t) (l5 := sR w) (l7 := l7) (l8 := l8) (l9 := l9) (l10 := l10) h.draws h.len ha
  obtain ⟨m2, r1, r2⟩ := tell_at (h.frame q4) hl q1 q2 (lim := lim) (l0 := l0) (l6 := sI at_) (l10 := l10)
  obtain ⟨m3, y10, s1, s2⟩ := want_at r1 hl q1 q2 q3 (l0 := l0) (l6 := sI at_) (l10 := l10)
  refine ⟨_, m3, some (.fl t1), some (.fl t2), sI lim, y10, s1, ?_⟩
  unfold round
  rw [blkM_cons_ap, q5]
  dsimp only
  rw [blkM_cons_ap, r2]
  dsimp only
  rw [blkM_cons_ap, s2]
  rfl
theorem rounds_at {sw : Bool} {D : List Int} {d k ks t w : Nat} {l0 : Option PV} : ∀ (n at_ : Nat) (T : List Int) (mem : List MO) (l6 l7 l8 l9 l10 : Option PV), Rd sw D d k ks t w T T mem → T.length + n < 1000 → (n = 0 ∨ at_ + 3 * n < 14) →
    ∃ T' mem' y6 y7 y8 y9 y10, Rd sw D d k ks t w T' T' mem' ∧ loopR (setL 6) round 3 n at_ ⟨[l0, sR d, sR k, sR ks, sR t, sR w, l6, l7, l8, l9, l10], mem⟩ = some (.next, ⟨[l0, sR d, sR k, sR ks, sR t, sR w, y6, y7, y8, y9, y10], mem'⟩)
  | 0, at_, T, mem, l6, l7, l8, l9, l10, h, _, _ => ⟨T, mem, l6, l7, l8, l9, l10, h, loopR_zero_ap _ _ _ _ _⟩
  | n + 1, at_, T, mem, l6, l7, l8, l9, l10, h, h1, h2 => by
    obtain ⟨x, m1, y7, y8, y9, y10, q1, q2⟩ := round_at (at_ := at_) h (by omega) (by omega) (l0 := l0) (l7 := l7) (l8 := l8) (l9 := l9) (l10 := l10)
    obtain ⟨T', m2, z6, z7, z8, z9, z10, r1, r2⟩ := rounds_at (l0 := l0) n (at_ + 3) _ m1 (sI at_) y7 y8 y9 y10 q1 (by simp; omega) (by omega)
    refine ⟨T', m2, z6, z7, z8, z9, z10, r1, ?_⟩
    rw [loopR_succ_ap, setL_ap]
    dsimp only [List.set_cons_succ, List.set_cons_zero]
    rw [q2]
    exact r2
end Mine

/-! Ev15 -/
namespace Mine

theorem slice_from_at {ml lo : Mo PV} {st s1 s2 : St} {k n : Nat} {xs : List PV} (h1 : ml st = some (.fl (.ref k), s1)) (h2 : lo s1 = some (.fl (.int (n : Int)), s2)) (h3 : s2.mem[k]? = some (.list xs)) (h4 : xs.length ≤ 1048576) : sliceM ml (some lo) none st = newL (xs.drop n) s2 := by
  unfold sliceM optM
  rw [bindM_ap, h1]
  dsimp only
  rw [bindM_ap, bindM_ap, h2]
  dsimp only
  rw [bindM_ap]
  dsimp only
  unfold slF
  simp only [h3]
  rw [if_pos (by simpa using h4), if_pos (by omega), Int.toNat_natCast]
theorem slice_upto_at {ml hi : Mo PV} {st s1 s2 : St} {k n : Nat} {xs : List PV} (h1 : ml st = some (.fl (.ref k), s1)) (h2 : hi s1 = some (.fl (.int (n : Int)), s2)) (h3 : s2.mem[k]? = some (.list xs)) (h4 : xs.length ≤ 1048576) : sliceM ml none (some hi) st = newL (xs.take n) s2 := by
  unfold sliceM optM
  rw [bindM_ap, h1]
  dsimp only
  rw [bindM_ap]
  dsimp only
  rw [bindM_ap, bindM_ap, h2]
  dsimp only
  unfold slF
  simp only [h3]
  rw [if_pos (by simpa using h4), if_pos (by omega), Int.toNat_natCast]
theorem intsL_intsP : ∀ ns : List Int, intsL (intsP ns) = some ns
  | [] => rfl
  | n :: ns => by
    show (intsL (intsP ns)).map (n :: ·) = _
    rw [intsL_intsP ns]; rfl
theorem Comp.own_lt {c : Nat} {mem : List MO} {sw : Bool} {own : List Nat} (h : Comp c mem sw own) {j : Nat} (hj : j ∈ own) : j < mem.length := by
  cases h with
  | lev h =>
    obtain ⟨bs, h3, _⟩ := h.base
    simp at hj
    rcases hj with rfl | rfl
    · exact (List.getElem?_eq_some_iff.mp h.dict).1
    · exact (List.getElem?_eq_some_iff.mp h3).1
  | osa h =>
    obtain ⟨bs, ps, h3, _, h4, _⟩ := h.base
    simp at hj
    rcases hj with rfl | rfl | rfl
    · exact (List.getElem?_eq_some_iff.mp h.dict).1
    · exact (List.getElem?_eq_some_iff.mp h3).1
    · exact (List.getElem?_eq_some_iff.mp h4).1
theorem Meter.own_lt {sw : Bool} {k : Nat} {own : List Nat} {mem : List MO} (h : Meter sw k own mem) {j : Nat} (hj : j ∈ own) : j < mem.length := by
  obtain ⟨_, _, _, _, _, q3, _⟩ := h.here
  exact q3.own_lt hj

def lawD (ns : List Int) : List Int := (ns ++ restL.drop ns.length).take 13
theorem lawD_len (ns : List Int) : (lawD ns).length = 13 := by
  unfold lawD
  rw [List.length_take, List.length_append, List.length_drop]
  have : restL.length = 13 := rfl
  omega
def lawMem (ns : List Int) : List MO := [.list (intsP restL), .list ((intsP restL).drop ns.length), .list (intsP ns ++ (intsP restL).drop ns.length), .list (intsP (lawD ns))]
theorem law_draws (bs : Addr) (ns : List Int) (h : ns.length ≤ 63) (l : List (Option PV)) (hl : l[0]? = some (some (.fl (.obj bs)))) :
    sliceM (addBM bs (intsP ns) (getL 0) (sliceM (runM [] [] rest_fm) (some (lenBM bs (intsP ns) (getL 0))) none)) none (some (cst (.fl (.int 13)))) ⟨l, []⟩ = some (.fl (.ref 3), ⟨l, lawMem ns⟩) := by
  have hg : ∀ mem : List MO, getL 0 ⟨l, mem⟩ = some (.fl (.obj bs), ⟨l, mem⟩) := fun mem => by unfold getL; simp only [hl]
  have hr := rest_call []
  have e1 : (runM [] [] rest_fm) ⟨l, []⟩ = some (.fl (.ref 0), ⟨l, [.list (intsP restL)]⟩) := by
    rw [runM_ap, seqM_nil_ap]
    dsimp only
    rw [List.nil_append, hr]
    rfl
  have hnl : (intsP ns).length = ns.length := by simp [intsP]
  have hrl : (intsP restL).length = 13 := rfl
  have e2 : (lenBM bs (intsP ns) (getL 0)) ⟨l, [.list (intsP restL)]⟩ = some (.fl (.int ((ns.length : Nat) : Int)), ⟨l, [.list (intsP restL)]⟩) := by
    unfold lenBM
    rw [bindM_ap, hg]
    dsimp only
    rw [if_pos ⟨rfl, by omega⟩, hnl]
  have e3 := slice_from_at e1 e2 (xs := intsP restL) rfl (by omega)
  rw [newL_ap] at e3
  have hdl : ((intsP restL).drop ns.length).length ≤ 13 := by rw [List.length_drop, hrl]; omega
  have e4 : addBM bs (intsP ns) (getL 0) (sliceM (runM [] [] rest_fm) (some (lenBM bs (intsP ns) (getL 0))) none) ⟨l, []⟩ = some (.fl (.ref 2), ⟨l, [.list (intsP restL), .list ((intsP restL).drop ns.length), .list (intsP ns ++ (intsP restL).drop ns.length)]⟩) := by
    unfold addBM
    rw [bindM_ap, hg]
    dsimp only
    rw [bindM_ap, e3]
    dsimp only [List.length_cons, List.length_nil, Nat.reduceAdd]
    rw [if_pos rfl]
    dsimp only [List.cons_append, List.nil_append, List.getElem?_cons_succ, List.getElem?_cons_zero]
    rw [if_pos (by omega), newL_ap]
    rfl
  have e5 := slice_upto_at e4 (hi := cst (.fl (.int 13))) (n := 13) rfl (xs := intsP ns ++ (intsP restL).drop ns.length) rfl (by rw [List.length_append]; omega)
  rw [e5, newL_ap]
  unfold lawMem lawD
  have : intsP ((ns ++ restL.drop ns.length).take 13) = (intsP ns ++ (intsP restL).drop ns.length).take 13 := by
    unfold intsP
    rw [List.map_take, List.map_append, List.map_drop]
  rw [this]
  rfl

noncomputable def law_meter (o : Addr) (ms : List (Mo PV)) : Mo Fl := asgSw (tupM [(runM [] [(cst (.fl (.obj o)))] (makeF 728 edI_fm)), (listM ms)]) [3, 2]
def stepMs (sw : Bool) : List (Mo PV) := (steps sw).map fun q => tupM [(cst (.fl (.int (q.1 : Int)))), (cst (.fl (.int (q.2 : Int))))]
theorem seqM_steps : ∀ (l : List Pt) (st : St), seqM (l.map fun q => tupM [(cst (.fl (.int (q.1 : Int)))), (cst (.fl (.int (q.2 : Int))))]) st = some (tups l, st)
  | [], st => rfl
  | q :: l, st => by
    rw [List.map_cons, seqM_cons_ap]
    have : tupM [(cst (.fl (.int (q.1 : Int)))), (cst (.fl (.int (q.2 : Int))))] st = some (tupP q, st) := rfl
    rw [this]
    dsimp only
    rw [seqM_steps l st]
    rfl
theorem law_meter_at (sw : Bool) (l0 l1 l2 l3 l4 l5 l6 l7 l8 l9 l10 : Option PV) (mem : List MO) : ∃ own mem', Meter sw (mem.length + 1) own mem' ∧ Frame [] own mem mem' ∧
    law_meter (if sw then 670 else 668) (stepMs sw) ⟨[l0, l1, l2, l3, l4, l5, l6, l7, l8, l9, l10], mem⟩ = some (.next, ⟨[l0, l1, sR (mem.length + 1), sR mem'.length, l4, l5, l6, l7, l8, l9, l10], mem' ++ [.list (tups (steps sw))]⟩) := by
  obtain ⟨own, mem', q1, q2, q3⟩ := meter_new sw mem
  refine ⟨own, mem', q2, q3, ?_⟩
  unfold law_meter stepMs
  rw [asgSw_ap, tupM_ap, seqM_cons_ap, runM_ap, seqM_cons_ap, cst_ap]
  dsimp only
  rw [seqM_nil_ap]
  dsimp only
  rw [List.nil_append, q1]
  dsimp only
  rw [seqM_cons_ap, listM_ap, seqM_steps]
  dsimp only
  rw [if_pos (by cases sw <;> simp [steps, tups]), newL_ap]
  dsimp only
  rw [seqM_nil_ap]
  rfl

theorem law_m_eq (bs : Addr) (bx : List PV) : law_m bs bx rest_fm (makeF 728 edI_fm) lim_fm txt_fm (tab1 728 false edC_fm) edt_fm =
    blkM [(asg1 (sliceM (addBM bs bx (getL 0) (sliceM (runM [] [] rest_fm) (some (lenBM bs bx (getL 0))) none)) none (some (cst (.fl (.int 13))))) (setL 1)),
      (iteM (cmpM .Eq (binX .Mod (subM (getL 1) (cst (.fl (.int 0)))) (cst (.fl (.int 2)))) (cst (.fl (.int 0)))) (blkM [law_meter (if true then 670 else 668) (stepMs true)]) (blkM [law_meter (if false then 670 else 668) (stepMs false)])),
      (asgSw (tupM [(listM []), (listM [])]) [5, 4]), (forRange3M 1 3 4 (setL 6) round), (retM (eqLM (getL 4) (getL 5)))] := rfl

theorem law_run (bs : Addr) (ns : List Int) (h : ns.length ≤ 63) : ∃ st', law_m bs (intsP ns) rest_fm (makeF 728 edI_fm) lim_fm txt_fm (tab1 728 false edC_fm) edt_fm ⟨[some (.fl (.obj bs)), none, none, none, none, none, none, none, none, none, none], []⟩ = some (.ret (.fl (.bool true)), st') := by
  rw [law_m_eq]
  have hlen := lawD_len ns
  have g0 : (intsP (lawD ns))[0]? = some (.fl (.int ((lawD ns)[0]'(by omega)))) := by rw [ints_get, List.getElem?_eq_getElem (by omega)]; rfl
  generalize (lawD ns)[0]'(by omega) = v at g0
  have hm2 := bin_mod v 2 (by decide)
  obtain ⟨f0, f1⟩ := fmod_range v (show (0 : Int) < 2 by decide)
  have hD3 : (lawMem ns)[3]? = some (.list (intsP (lawD ns))) := rfl
  have hL : (lawMem ns).length = 4 := rfl
  have hd := law_draws bs ns h [some (.fl (.obj bs)), none, none, none, none, none, none, none, none, none, none] rfl
  have hsub : ∀ l1 : List (Option PV), l1[1]? = some (sR 3) → subM (getL 1) (cst (.fl (.int 0))) ⟨l1, lawMem ns⟩ = some (.fl (.int v), ⟨l1, lawMem ns⟩) := fun l1 h1 => by
    have hp : pd (0 ≤ (0 : Int) ∧ (0 : Int) < 4611686018427387904) = true := pd_true (by omega)
    rw [subM_ap, getL_ap, h1]
    dsimp only
    rw [cst_ap]
    dsimp only
    rw [subF_list, hp]
    simp only [if_true, hD3, Int.toNat_zero, g0]
  have htest : cmpM .Eq (binX .Mod (subM (getL 1) (cst (.fl (.int 0)))) (cst (.fl (.int 2)))) (cst (.fl (.int 0))) ⟨[some (.fl (.obj bs)), sR 3, none, none, none, none, none, none, none, none, none], lawMem ns⟩ =
      some (decide (v.fmod 2 = 0), ⟨[some (.fl (.obj bs)), sR 3, none, none, none, none, none, none, none, none, none], lawMem ns⟩) := by
    simp only [cmpM_ap, binX_ap, hsub _ (show [some (PV.fl (.obj bs)), sR 3, none, none, none, none, none, none, none, none, none][1]? = _ from rfl), cst_ap, hm2, cmp_eq_i]
  -- the meter, of either kind
  have hmeter : ∃ sw own mem', Meter sw 5 own mem' ∧ Frame [] own (lawMem ns) mem' ∧ iteM (cmpM .Eq (binX .Mod (subM (getL 1) (cst (.fl (.int 0)))) (cst (.fl (.int 2)))) (cst (.fl (.int 0)))) (blkM [law_meter (if true then 670 else 668) (stepMs true)]) (blkM [law_meter (if false then 670 else 668) (stepMs false)])
      ⟨[some (.fl (.obj bs)), sR 3, none, none, none, none, none, none, none, none, none], lawMem ns⟩ = some (.next, ⟨[some (.fl (.obj bs)), sR 3, sR 5, sR mem'.length, none, none, none, none, none, none, none], mem' ++ [.list (tups (steps sw))]⟩) := by
    by_cases hc : v.fmod 2 = 0
    · obtain ⟨own, mem', q1, q2, q3⟩ := law_meter_at true (some (.fl (.obj bs))) (sR 3) none none none none none none none none none (lawMem ns)
      refine ⟨true, own, mem', q1, q2, ?_⟩
      rw [iteM_ap, htest, decide_eq_true hc]
      dsimp only
      rw [if_pos rfl, blkM_cons_ap, q3]
      rfl
    · obtain ⟨own, mem', q1, q2, q3⟩ := law_meter_at false (some (.fl (.obj bs))) (sR 3) none none none none none none none none none (lawMem ns)
      refine ⟨false, own, mem', q1, q2, ?_⟩
      rw [iteM_ap, htest, decide_eq_false hc]
      dsimp only
      rw [if_neg (by simp), blkM_cons_ap, q3]
      rfl
  obtain ⟨sw, own, mem1, q1, q2, q3⟩ := hmeter
  have h4 : 4 ≤ mem1.length := by have := q2.len; omega
  have F1 : Frame [] [] mem1 (mem1 ++ [.list (tups (steps sw)), .list [], .list []]) := ⟨by simp, fun j hj _ => List.getElem?_append_left hj, fun j hj => .inl hj⟩
  have hown : ∀ j ∈ own, 4 ≤ j ∧ j < mem1.length := fun j hj => by
    refine ⟨?_, q1.own_lt hj⟩
    rcases q2.own j hj with g | g
    · nomatch g
    · omega
  have RD : Rd sw (lawD ns) 3 5 mem1.length (mem1.length + 1) (mem1.length + 2) [] [] (mem1 ++ [.list (tups (steps sw)), .list [], .list []]) := by
    refine ⟨?_, hlen, by simp, ?_, ?_, by omega, by omega, ⟨own, q1.frame F1, fun hm => ?_, fun hm => ?_, fun hm => ?_, fun hm => ?_⟩, by simp⟩
    · rw [List.getElem?_append_left (by omega), q2.keep 3 (by omega) (fun h => nomatch h)]; exact hD3
    · simp [intsP]
    · simp [intsP]
    · have := (hown _ hm).1; omega
    · have := (hown _ hm).2; omega
    · have := (hown _ hm).2; omega
    · have := (hown _ hm).2; omega
  obtain ⟨T', mem2, y6, y7, y8, y9, y10, r1, r2⟩ := rounds_at (l0 := some (.fl (.obj bs))) 4 1 [] _ none none none none none RD (by simp) (by omega)
  have hasg : asgSw (tupM [(listM []), (listM [])]) [5, 4] ⟨[some (.fl (.obj bs)), sR 3, sR 5, sR mem1.length, none, none, none, none, none, none, none], mem1 ++ [.list (tups (steps sw))]⟩ =
      some (.next, ⟨[some (.fl (.obj bs)), sR 3, sR 5, sR mem1.length, sR (mem1.length + 1), sR (mem1.length + 2), none, none, none, none, none], mem1 ++ [.list (tups (steps sw)), .list [], .list []]⟩) := by
    simp [getL_ap, setL_ap, cst_ap, binM_ap, cmpM_ap, andM_nil_ap, andM_cons_ap, orM_nil_ap, orM_cons_ap, iteM_ap, asg1_ap, asg2_ap, augM_ap, blkM_nil_ap, blkM_cons_ap, retM_ap, tupM_ap, seqM_nil_ap, seqM_cons_ap, flatL, subM_ap, subF_str, subF_list, setItemM_ap, setItemF_list, bltM_ap, blt_len_s, bin_add, bin_sub, cmp_eq_i, cmp_ne_i, cmp_lt_i, cmp_le_i, cmp_gt_i, cmp_ge_i, cmp_eq_c, cmp_ne_c, pd_True, pd_False, asgSw_ap, tupTg_ap, setLs_nil_ap, setLs_cons_ap, blt_abs, newL_ap, listM_ap, binX_ap, runM_ap, appM_ap, addSM_ap, cmp_is_nn, cmp_is_sn, min_ints]
  have heq : eqLM (getL 4) (getL 5) ⟨[some (.fl (.obj bs)), sR 3, sR 5, sR mem1.length, sR (mem1.length + 1), sR (mem1.length + 2), y6, y7, y8, y9, y10], mem2⟩ = some (.fl (.bool true), ⟨[some (.fl (.obj bs)), sR 3, sR 5, sR mem1.length, sR (mem1.length + 1), sR (mem1.length + 2), y6, y7, y8, y9, y10], mem2⟩) := by
    unfold eqLM
    rw [bindM_ap, getL_ap]
    dsimp only [List.getElem?_cons_succ, List.getElem?_cons_zero]
    rw [bindM_ap, getL_ap]
    dsimp only [List.getElem?_cons_succ, List.getElem?_cons_zero]
    unfold eqLF
    simp only [r1.told, r1.wanted, intsL_intsP, Option.map_some, decide_true]
  refine ⟨⟨[some (.fl (.obj bs)), sR 3, sR 5, sR mem1.length, sR (mem1.length + 1), sR (mem1.length + 2), y6, y7, y8, y9, y10], mem2⟩, ?_⟩
  rw [blkM_cons_ap, asg1_ap, hd]
  dsimp only
  rw [setL_ap]
  dsimp only [List.set_cons_succ, List.set_cons_zero]
  rw [blkM_cons_ap, q3]
  dsimp only
  rw [blkM_cons_ap, hasg]
  dsimp only
  rw [blkM_cons_ap]
  unfold forRange3M
  rw [show (1 : Int) = ((1 : Nat) : Int) from rfl, r2]
  dsimp only
  rw [blkM_cons_ap, retM_ap, heq]
end Mine

/-! W0 -/
namespace Mine

theorem RVs.ints {φ : List Addr} {h : Heap} {vs : List Value} {ns : List Int} (x : IntsAre vs ns) : RVs φ h vs (intsP ns) := by
  induction x with
  | nil => exact trivial
  | cons n t _ ih => exact ⟨⟨t, rfl⟩, ih⟩

/-- the law's block, in the claim's own call -/
theorem finish {prog : Program} {w : World} {s₁ : Shared} {mg mb : Str → Option Value} {h₁ : Heap} {a fa : Addr} {vs : List Value} {ns : List Int} {Q : Flow → Shared → Prop} {E : Value → Shared → Prop} {cV : Value} {tk : Nat} {K : Frag}
    {p : Program} {loose : List Str} {mean : ExcName → Option Value}
    (KX : K.In s₁.heap) (T : Top p loose mean mg mb s₁.heap) (FA₀ : s₁.heap.Ns mainGlobals mg → (∀ x : Str, x ≠ "__name__" → mb x = bootBuiltins x) → Facts K mg mb) (FB₀ : s₁.heap.Ns mainGlobals mg → (∀ x : Str, x ≠ "__name__" → mb x = bootBuiltins x) → Facts2 K mg mb) (hL : s₁.heap.IsList a vs.toArray) (hI : IntsAre vs ns) (hn : ns.length ≤ 63)
    (F : Fr s₁.heap s₁.heap.objs.size h₁ (fun x => List.lookup x [(Str.ofString "script", Value.ref a)].reverse))
    (hQ : ∀ h' tk', (∀ b o, s₁.heap.get? b = some o → h'.get? b = some o) → Q (.ret (.bool true)) { s₁ with heap := h', toks := tk' }) :
    wpAny (model prog w) (callerA.deeper (envOf (Str.ofString "law") law_scope s₁.heap.objs.size fa cV)) (execs law_body (envOf (Str.ofString "law") law_scope s₁.heap.objs.size fa cV)) Q E { s₁ with heap := h₁, toks := tk } := by
  have hg := T.g
  have hb := T.b
  have hnl := T.nolimit
  have FA := FA₀ hg T.builtins
  have FB := FB₀ hg T.builtins
  let L := s₁.heap.objs.size
  let C : Cx := ⟨prog, w, callerA.deeper (envOf (Str.ofString "law") law_scope L fa cV), ⟨law_scope, L, mainGlobals, [], Str.ofString "law" ++ ".<locals>.", some fa, cV, some L, builtinsNs⟩, law_names, { s₁ with heap := h₁.hide L, toks := tk }, mg, mb, K⟩
  have hkeep : ∀ b o, s₁.heap.get? b = some o → (h₁.hide L).get? b = some o := fun b o e => hide_get (F.keep b o e) (fun hb => by
    have := Heap.lt_size e
    have hb' : b = s₁.heap.objs.size := hb
    rw [hb'] at this
    exact Nat.lt_irrefl _ this)
  have O : C.Ok := by
    refine ⟨rfl, ?_, ?_, rfl, ?_, ?_, Heap.hide_self _ _, hg.keeps hkeep, hb.keeps hkeep, hnl.keeps hkeep, KX.keeps hkeep⟩
    · show callerA.depth + 1 + 8 < recursionLimit; decide +kernel
    · show callerA.units + 3 + 64 < cLine; decide +kernel
    · show law_names.Nodup; decide +kernel
    · show ∀ x ∈ law_names, law_scope.names.lookup x = some .local; decide +kernel
  have rm2 : Room C 2 := ⟨by show callerA.depth + 1 + 10 + 2 * 2 < recursionLimit; decide +kernel, by show callerA.units + 3 + 68 + 4 * 2 < cLine; decide +kernel⟩
  have rm1 : Room C 1 := ⟨by show callerA.depth + 1 + 10 + 2 * 1 < recursionLimit; decide +kernel, by show callerA.units + 3 + 68 + 4 * 1 < cLine; decide +kernel⟩
  have rm0 : Room C 0 := ⟨by show callerA.depth + 1 + 10 + 2 * 0 < recursionLimit; decide +kernel, by show callerA.units + 3 + 68 + 4 * 0 < cLine; decide +kernel⟩
  have B : Base C := ⟨rfl, rfl⟩
  have FA' : Facts C.K C.mg C.mb := FA
  have FB' : Facts2 C.K C.mg C.mb := FB
  have G : ∀ {x : Str} {v : Value}, law_scope.names.lookup x = some .globalImplicit → mg x = some v → IsGlobal C x v := fun h1 h2 => ⟨h1, h2⟩
  have BI : ∀ {x : Str} {v : Value}, law_scope.names.lookup x = some .globalImplicit → (mg x = none ∧ mb x = some v) → IsBuiltin C x v := fun h1 h2 => ⟨h1, h2.1, h2.2⟩
  have hbase : BaseList C a (intsP ns) := ⟨vs.toArray, hL.at fun o e => hkeep _ _ e, by simpa using RVs.ints hI⟩
  have hE : EvB C law_body (law_m a (intsP ns) rest_fm (makeF 728 edI_fm) lim_fm txt_fm (tab1 728 false edC_fm) edt_fm) :=
    law_ok a (intsP ns) rest_fm (makeF 728 edI_fm) lim_fm txt_fm (tab1 728 false edC_fm) edt_fm rfl O (G (by decide +kernel) FB.g__law_rest) FB'.k_rest ((rest_fun O B rm0 FA' FB').toFun O) hbase (G (by decide +kernel) FA.g_DistanceAlgorithm) FA'.en_read FA'.en_DAMERAU_OSA
      (G (by decide +kernel) FA.g_EditDistance) FA'.c_728.keep (make_fun O FA'.c_728.makes FA'.c_728.init FA'.c_728.fn (edI_fun O B rm1 FA')) FA'.en_LEVENSHTEIN (G (by decide +kernel) FB.g__law_limits) FB'.k_lim ((lim_fun O B rm0 FA' FB').toFun O)
      (G (by decide +kernel) FB.g__law_text) FB'.k_txt ((txt_fun O B rm0 FA' FB').toFun O) (tab1_ok (FA'.p_728compare.meth ((edC_fun O B rm2 FA').toFun O))) (G (by decide +kernel) FB.g__law_edits) FB'.k_edt ((edt_fun O B rm0 FA' FB').toFun O)
      (BI (by decide +kernel) FA.b_len) (BI (by decide +kernel) FA.b_range) (BI (by decide +kernel) FA.b_min)
  obtain ⟨st', hrun⟩ := law_run a ns hn
  have R : Rep C [] ⟨[some (.fl (.obj a)), none, none, none, none, none, none, none, none, none, none], []⟩ { s₁ with heap := h₁, toks := tk } := by
    refine ⟨⟨h₁, tk, rfl⟩, fun b o e => Heap.of_hide e, rfl, ⟨_, F.ns, fun k x pv e1 e2 => ?_⟩, List.nodup_nil, rfl, fun k mo b e1 _ => by simp at e1, fun b hb => nomatch hb⟩
    cases k with
    | zero =>
      cases e1; cases e2
      exact ⟨.ref a, rfl, rfl⟩
    | succ k =>
      exfalso
      have : ∀ k : Nat, k < 10 → ([none, none, none, none, none, none, none, none, none, none] : List (Option PV))[k]? = some none := fun k hk => by
        match k, hk with
        | 0, _ => rfl | 1, _ => rfl | 2, _ => rfl | 3, _ => rfl | 4, _ => rfl | 5, _ => rfl | 6, _ => rfl | 7, _ => rfl | 8, _ => rfl | 9, _ => rfl
        | k + 10, hk => omega
      have e2 : ([none, none, none, none, none, none, none, none, none, none] : List (Option PV))[k]? = some (some pv) := e2
      by_cases hk : k < 10
      · rw [this k hk] at e2; cases e2
      · rw [List.getElem?_eq_none (by simp; omega)] at e2; cases e2
  refine wpAny_mono (hE [] _ _ _ st' R hrun) (fun cf s' hp => ?_) fun _ _ x => x.elim
  obtain ⟨φ', X, R', r⟩ := hp
  cases cf with
  | ret cv =>
    have e : cv = .bool true := r
    subst e
    obtain ⟨h', tk', e⟩ := R'.same
    rw [e]
    refine hQ h' tk' fun b o eb => ?_
    have := R'.keep b o (hkeep b o eb)
    rw [e] at this
    exact this
  | next => exact r.elim
  | brk => exact r.elim
  | cont => exact r.elim
end Mine

set_option maxHeartbeats 8000000
def Mine.whole.tw17539506272589963904 : Unit := ()
def Mine.whole.tw1595266613990791968 : Unit := ()
def Mine.whole.tw14077511737940356868 : Unit := ()
def Mine.whole.tw4574024839461005797 : Unit := ()
def Mine.whole.tw4673376579767346117 : Unit := ()
def Mine.whole.tw7454228879825610984 : Unit := ()
def Mine.whole.tw17596370416120920393 : Unit := ()
def Mine.whole.tw17692944630003236201 : Unit := ()
def Mine.whole.tw15527283080489156553 : Unit := ()
def Mine.whole.tw15789179799144179146 : Unit := ()
def Mine.whole.tw15160392744949094922 : Unit := ()
def Mine.whole.tw12677480792143014219 : Unit := ()
def Mine.whole.tw11800030525031035052 : Unit := ()
def Mine.whole.tw15912207410572380431 : Unit := ()
def Mine.whole.tw17588736524896412303 : Unit := ()
def Mine.whole.tw15478968923516660784 : Unit := ()
def Mine.whole.tw18298321117603788048 : Unit := ()
def Mine.whole.tw16900847829343485777 : Unit := ()
def Mine.whole.tw14687125493077319090 : Unit := ()
def Mine.whole.tw6087658500267479762 : Unit := ()
def Mine.whole.tw16149128351891192788 : Unit := ()
def Mine.whole.tw16637351698155146357 : Unit := ()
def Mine.whole.tw16070639945219363894 : Unit := ()
def Mine.whole.tw18130683496511052823 : Unit := ()
def Mine.whole.tw1020384101444375575 : Unit := ()
def Mine.whole.tw2680952665620796087 : Unit := ()
def Mine.whole.tw6019919074733517208 : Unit := ()
def Mine.whole.tw11384259339768038936 : Unit := ()
def Mine.whole.tw16272103526611014681 : Unit := ()
def Mine.whole.tw10940641284315833627 : Unit := ()
def Mine.whole.tw10144505478992762587 : Unit := ()
def Mine.whole.tw2937210683488691390 : Unit := ()
set_option Elab.async true in
theorem Mine.whole : PySem.Challenge.rw_fe0312_01.Holds := by
  w_on; o_law; k_head; (case hw => w_witness2); w_strict (
  k_go0
  refine Mine.finish (K := ?K) (by assumption) (by assumption) ?FA ?FB (by assumption) (by assumption) ?hn (by assumption) ?hQ
  case FA =>
    intro G H
    exact ⟨⟨mg_none_of (by assumption) G (by kernel_rfl), (H _ (by decide)).trans (by kernel_rfl)⟩,
      ⟨mg_none_of (by assumption) G (by kernel_rfl), (H _ (by decide)).trans (by kernel_rfl)⟩,
      ⟨mg_none_of (by assumption) G (by kernel_rfl), (H _ (by decide)).trans (by kernel_rfl)⟩,
      ⟨mg_none_of (by assumption) G (by kernel_rfl), (H _ (by decide)).trans (by kernel_rfl)⟩,
      mg_of (by assumption) G (by kernel_rfl),
      mg_of (by assumption) G (by kernel_rfl),
      mg_of (by assumption) G (by kernel_rfl),
      mg_of (by assumption) G (by kernel_rfl),
      mg_of (by assumption) G (by kernel_rfl),
      mg_of (by assumption) G (by kernel_rfl),
      ⟨_, _, _, _, _, _, _, _, _, by rfl, by kernel_rfl⟩,
      ⟨_, _, _, _, _, _, _, _, _, by rfl, by kernel_rfl⟩,
      ⟨_, _, _, _, _, _, _, _, _, by rfl, by kernel_rfl⟩,
      ⟨_, _, _, _, _, _, _, _, _, by rfl, by kernel_rfl⟩,
      ⟨_, _, _, _, _, _, _, _, _, by rfl, by kernel_rfl⟩,
      ⟨_, _, _, _, _, _, _, _, _, by rfl, by kernel_rfl⟩,
      ⟨_, _, _, _, _, _, _, _, _, by rfl, by kernel_rfl⟩,
      ⟨_, _, _, _, _, _, _, _, _, by rfl, by kernel_rfl⟩,
      ⟨_, _, _, _, _, _, _, _, _, by rfl, by kernel_rfl⟩,
      ⟨_, _, _, _, _, _, _, _, _, by rfl, by kernel_rfl⟩,
      ⟨_, _, _, _, _, _, _, _, _, by rfl, by kernel_rfl⟩,
      ⟨_, _, _, _, _, _, _, _, _, by rfl, by kernel_rfl⟩,
      ⟨_, _, _, _, by rfl⟩,
      by kernel_rfl,
      by kernel_rfl,
      ⟨by kernel_rfl, by kernel_rfl, _, by rfl, by kernel_rfl⟩,
      ⟨by kernel_rfl, by kernel_rfl, _, by rfl, by kernel_rfl⟩,
      ⟨by kernel_rfl, by kernel_rfl, _, by rfl, by kernel_rfl⟩,
      ⟨by kernel_rfl, by kernel_rfl, _, by rfl, by kernel_rfl⟩,
      ⟨by kernel_rfl, by kernel_rfl, by kernel_rfl, by kernel_rfl⟩,
      ⟨by kernel_rfl, by kernel_rfl, by kernel_rfl, by kernel_rfl⟩,
      ⟨by kernel_rfl, by kernel_rfl, by kernel_rfl, by kernel_rfl⟩,
      ⟨by kernel_rfl, by kernel_rfl, by kernel_rfl, by kernel_rfl⟩,
      ⟨by kernel_rfl, by kernel_rfl, by kernel_rfl, by kernel_rfl⟩,
      ⟨by kernel_rfl, by kernel_rfl, ⟨_, _, by rfl, by kernel_rfl, by kernel_rfl, by kernel_rfl, by rfl⟩, by kernel_rfl, by decide +kernel⟩,
      ⟨by kernel_rfl, by kernel_rfl, ⟨_, _, by rfl, by kernel_rfl, by kernel_rfl, by kernel_rfl, by rfl⟩, by kernel_rfl, by decide +kernel⟩,
      ⟨by kernel_rfl, by kernel_rfl, ⟨_, _, by rfl, by kernel_rfl, by kernel_rfl, by kernel_rfl, by rfl⟩, by kernel_rfl, by decide +kernel⟩,
      ⟨by kernel_rfl, by kernel_rfl, ⟨_, _, by rfl, by kernel_rfl, by kernel_rfl, by kernel_rfl, by rfl⟩, by kernel_rfl, by decide +kernel⟩,
      ⟨by kernel_rfl, by kernel_rfl, by kernel_rfl, by kernel_rfl, by kernel_rfl⟩,
      ⟨by kernel_rfl, by kernel_rfl, by kernel_rfl, by kernel_rfl, by kernel_rfl⟩,
      ⟨by kernel_rfl, by kernel_rfl, by kernel_rfl, by kernel_rfl, by kernel_rfl⟩,
      ⟨by kernel_rfl, by kernel_rfl, by kernel_rfl, by kernel_rfl⟩,
      ⟨by kernel_rfl, by kernel_rfl, by kernel_rfl, by kernel_rfl⟩,
      ⟨by kernel_rfl, by kernel_rfl, by kernel_rfl, by kernel_rfl⟩,
      by kernel_rfl,
      by kernel_rfl,
      by kernel_rfl,
      by kernel_rfl,
      ⟨by kernel_rfl, by kernel_rfl⟩,
      fun a ha => by simp only [List.mem_cons, List.not_mem_nil, or_false] at ha; rcases ha with rfl | rfl | rfl <;> exact ⟨_, _, _, by rfl, by rfl⟩⟩
  case FB =>
    intro G H
    exact ⟨⟨mg_none_of (by assumption) G (by kernel_rfl), (H _ (by decide)).trans (by kernel_rfl)⟩,
      ⟨mg_none_of (by assumption) G (by kernel_rfl), (H _ (by decide)).trans (by kernel_rfl)⟩,
      mg_of (by assumption) G (by kernel_rfl),
      ⟨_, _, _, _, _, _, _, _, _, by rfl, by kernel_rfl⟩,
      by kernel_rfl,
      mg_of (by assumption) G (by kernel_rfl),
      ⟨_, _, _, _, _, _, _, _, _, by rfl, by kernel_rfl⟩,
      by kernel_rfl,
      mg_of (by assumption) G (by kernel_rfl),
      ⟨_, _, _, _, _, _, _, _, _, by rfl, by kernel_rfl⟩,
      by kernel_rfl,
      mg_of (by assumption) G (by kernel_rfl),
      ⟨_, _, _, _, _, _, _, _, _, by rfl, by kernel_rfl⟩,
      by kernel_rfl⟩
  case hn => omega
  case hQ =>
    intro h' tk' hk
    exact ⟨.inl ⟨.bool true, .bool true, [], rfl, fun cls => by rfl, .bool true, by wrow_post, fun _ => ⟨List.nodup_nil, fun a ha => nomatch ha⟩⟩, hk, rfl, by assumption⟩)

theorem PySem.Challenge.cw_fe0312_01_holds : PySem.Challenge.rw_fe0312_01.Holds :=
  Mine.whole
