import PyProof.Rows.All
import Wide.All
import OpenK.AllK
import Wide.FinOn
import Lean
import PySem.Challenge.RW_mr0107_01
set_option Elab.async false
set_option compiler.extract_closed false
set_option genSizeOf false
set_option genInjectivity false
/-! ## MEx -/
section
namespace Mine
/-! packs of witnesses and of facts, opened by one step each (a smaller term than nested pairs) -/
inductive Ex1 {α1 : Type} (P : α1 → Prop) : Prop
  | mk (a1 : α1) (h : P a1) : Ex1 P
theorem Ex1.elim {α1 : Type} {P : α1 → Prop} {b : Prop} (q : Ex1 P) (k : ∀ a1, P a1 → b) : b := q.rec k
inductive Ex3 {α1 α2 α3 : Type} (P : α1 → α2 → α3 → Prop) : Prop
  | mk (a1 : α1) (a2 : α2) (a3 : α3) (h : P a1 a2 a3) : Ex3 P
theorem Ex3.elim {α1 α2 α3 : Type} {P : α1 → α2 → α3 → Prop} {b : Prop} (q : Ex3 P) (k : ∀ a1 a2 a3, P a1 a2 a3 → b) : b := q.rec k
inductive Ex4 {α1 α2 α3 α4 : Type} (P : α1 → α2 → α3 → α4 → Prop) : Prop
  | mk (a1 : α1) (a2 : α2) (a3 : α3) (a4 : α4) (h : P a1 a2 a3 a4) : Ex4 P
theorem Ex4.elim {α1 α2 α3 α4 : Type} {P : α1 → α2 → α3 → α4 → Prop} {b : Prop} (q : Ex4 P) (k : ∀ a1 a2 a3 a4, P a1 a2 a3 a4 → b) : b := q.rec k
inductive Ex5 {α1 α2 α3 α4 α5 : Type} (P : α1 → α2 → α3 → α4 → α5 → Prop) : Prop
  | mk (a1 : α1) (a2 : α2) (a3 : α3) (a4 : α4) (a5 : α5) (h : P a1 a2 a3 a4 a5) : Ex5 P
inductive Ex6 {α1 α2 α3 α4 α5 α6 : Type} (P : α1 → α2 → α3 → α4 → α5 → α6 → Prop) : Prop
  | mk (a1 : α1) (a2 : α2) (a3 : α3) (a4 : α4) (a5 : α5) (a6 : α6) (h : P a1 a2 a3 a4 a5 a6) : Ex6 P
theorem Ex6.elim {α1 α2 α3 α4 α5 α6 : Type} {P : α1 → α2 → α3 → α4 → α5 → α6 → Prop} {b : Prop} (q : Ex6 P) (k : ∀ a1 a2 a3 a4 a5 a6, P a1 a2 a3 a4 a5 a6 → b) : b := q.rec k
inductive Ex7 {α1 α2 α3 α4 α5 α6 α7 : Type} (P : α1 → α2 → α3 → α4 → α5 → α6 → α7 → Prop) : Prop
  | mk (a1 : α1) (a2 : α2) (a3 : α3) (a4 : α4) (a5 : α5) (a6 : α6) (a7 : α7) (h : P a1 a2 a3 a4 a5 a6 a7) : Ex7 P
theorem Ex7.elim {α1 α2 α3 α4 α5 α6 α7 : Type} {P : α1 → α2 → α3 → α4 → α5 → α6 → α7 → Prop} {b : Prop} (q : Ex7 P) (k : ∀ a1 a2 a3 a4 a5 a6 a7, P a1 a2 a3 a4 a5 a6 a7 → b) : b := q.rec k
inductive Ex9 {α1 α2 α3 α4 α5 α6 α7 α8 α9 : Type} (P : α1 → α2 → α3 → α4 → α5 → α6 → α7 → α8 → α9 → Prop) : Prop
  | mk (a1 : α1) (a2 : α2) (a3 : α3) (a4 : α4) (a5 : α5) (a6 : α6) (a7 : α7) (a8 : α8) (a9 : α9) (h : P a1 a2 a3 a4 a5 a6 a7 a8 a9) : Ex9 P
theorem Ex9.elim {α1 α2 α3 α4 α5 α6 α7 α8 α9 : Type} {P : α1 → α2 → α3 → α4 → α5 → α6 → α7 → α8 → α9 → Prop} {b : Prop} (q : Ex9 P) (k : ∀ a1 a2 a3 a4 a5 a6 a7 a8 a9, P a1 a2 a3 a4 a5 a6 a7 a8 a9 → b) : b := q.rec k
inductive Ex10 {α1 α2 α3 α4 α5 α6 α7 α8 α9 α10 : Type} (P : α1 → α2 → α3 → α4 → α5 → α6 → α7 → α8 → α9 → α10 → Prop) : Prop
  | mk (a1 : α1) (a2 : α2) (a3 : α3) (a4 : α4) (a5 : α5) (a6 : α6) (a7 : α7) (a8 : α8) (a9 : α9) (a10 : α10) (h : P a1 a2 a3 a4 a5 a6 a7 a8 a9 a10) : Ex10 P
theorem Ex10.elim {α1 α2 α3 α4 α5 α6 α7 α8 α9 α10 : Type} {P : α1 → α2 → α3 → α4 → α5 → α6 → α7 → α8 → α9 → α10 → Prop} {b : Prop} (q : Ex10 P) (k : ∀ a1 a2 a3 a4 a5 a6 a7 a8 a9 a10, P a1 a2 a3 a4 a5 a6 a7 a8 a9 a10 → b) : b := q.rec k
inductive Ex13 {α1 α2 α3 α4 α5 α6 α7 α8 α9 α10 α11 α12 α13 : Type} (P : α1 → α2 → α3 → α4 → α5 → α6 → α7 → α8 → α9 → α10 → α11 → α12 → α13 → Prop) : Prop
  | mk (a1 : α1) (a2 : α2) (a3 : α3) (a4 : α4) (a5 : α5) (a6 : α6) (a7 : α7) (a8 : α8) (a9 : α9) (a10 : α10) (a11 : α11) (a12 : α12) (a13 : α13) (h : P a1 a2 a3 a4 a5 a6 a7 a8 a9 a10 a11 a12 a13) : Ex13 P
theorem Ex13.elim {α1 α2 α3 α4 α5 α6 α7 α8 α9 α10 α11 α12 α13 : Type} {P : α1 → α2 → α3 → α4 → α5 → α6 → α7 → α8 → α9 → α10 → α11 → α12 → α13 → Prop} {b : Prop} (q : Ex13 P) (k : ∀ a1 a2 a3 a4 a5 a6 a7 a8 a9 a10 a11 a12 a13, P a1 a2 a3 a4 a5 a6 a7 a8 a9 a10 a11 a12 a13 → b) : b := q.rec k
inductive Al2 (p1 p2 : Prop) : Prop
  | mk (h1 : p1) (h2 : p2) : Al2 p1 p2
inductive Al3 (p1 p2 p3 : Prop) : Prop
  | mk (h1 : p1) (h2 : p2) (h3 : p3) : Al3 p1 p2 p3
theorem Al3.elim {p1 p2 p3 b : Prop} (q : Al3 p1 p2 p3) (k : p1 → p2 → p3 → b) : b := q.rec k
inductive Al4 (p1 p2 p3 p4 : Prop) : Prop
  | mk (h1 : p1) (h2 : p2) (h3 : p3) (h4 : p4) : Al4 p1 p2 p3 p4
theorem Al4.elim {p1 p2 p3 p4 b : Prop} (q : Al4 p1 p2 p3 p4) (k : p1 → p2 → p3 → p4 → b) : b := q.rec k
inductive Al5 (p1 p2 p3 p4 p5 : Prop) : Prop
  | mk (h1 : p1) (h2 : p2) (h3 : p3) (h4 : p4) (h5 : p5) : Al5 p1 p2 p3 p4 p5
theorem Al5.elim {p1 p2 p3 p4 p5 b : Prop} (q : Al5 p1 p2 p3 p4 p5) (k : p1 → p2 → p3 → p4 → p5 → b) : b := q.rec k
inductive Al6 (p1 p2 p3 p4 p5 p6 : Prop) : Prop
  | mk (h1 : p1) (h2 : p2) (h3 : p3) (h4 : p4) (h5 : p5) (h6 : p6) : Al6 p1 p2 p3 p4 p5 p6
theorem Al6.elim {p1 p2 p3 p4 p5 p6 b : Prop} (q : Al6 p1 p2 p3 p4 p5 p6) (k : p1 → p2 → p3 → p4 → p5 → p6 → b) : b := q.rec k
inductive Al7 (p1 p2 p3 p4 p5 p6 p7 : Prop) : Prop
  | mk (h1 : p1) (h2 : p2) (h3 : p3) (h4 : p4) (h5 : p5) (h6 : p6) (h7 : p7) : Al7 p1 p2 p3 p4 p5 p6 p7
inductive Al8 (p1 p2 p3 p4 p5 p6 p7 p8 : Prop) : Prop
  | mk (h1 : p1) (h2 : p2) (h3 : p3) (h4 : p4) (h5 : p5) (h6 : p6) (h7 : p7) (h8 : p8) : Al8 p1 p2 p3 p4 p5 p6 p7 p8
inductive Al9 (p1 p2 p3 p4 p5 p6 p7 p8 p9 : Prop) : Prop
  | mk (h1 : p1) (h2 : p2) (h3 : p3) (h4 : p4) (h5 : p5) (h6 : p6) (h7 : p7) (h8 : p8) (h9 : p9) : Al9 p1 p2 p3 p4 p5 p6 p7 p8 p9
inductive Al10 (p1 p2 p3 p4 p5 p6 p7 p8 p9 p10 : Prop) : Prop
  | mk (h1 : p1) (h2 : p2) (h3 : p3) (h4 : p4) (h5 : p5) (h6 : p6) (h7 : p7) (h8 : p8) (h9 : p9) (h10 : p10) : Al10 p1 p2 p3 p4 p5 p6 p7 p8 p9 p10
theorem Al10.elim {p1 p2 p3 p4 p5 p6 p7 p8 p9 p10 b : Prop} (q : Al10 p1 p2 p3 p4 p5 p6 p7 p8 p9 p10) (k : p1 → p2 → p3 → p4 → p5 → p6 → p7 → p8 → p9 → p10 → b) : b := q.rec k
inductive Al13 (p1 p2 p3 p4 p5 p6 p7 p8 p9 p10 p11 p12 p13 : Prop) : Prop
  | mk (h1 : p1) (h2 : p2) (h3 : p3) (h4 : p4) (h5 : p5) (h6 : p6) (h7 : p7) (h8 : p8) (h9 : p9) (h10 : p10) (h11 : p11) (h12 : p12) (h13 : p13) : Al13 p1 p2 p3 p4 p5 p6 p7 p8 p9 p10 p11 p12 p13
theorem Al13.elim {p1 p2 p3 p4 p5 p6 p7 p8 p9 p10 p11 p12 p13 b : Prop} (q : Al13 p1 p2 p3 p4 p5 p6 p7 p8 p9 p10 p11 p12 p13) (k : p1 → p2 → p3 → p4 → p5 → p6 → p7 → p8 → p9 → p10 → p11 → p12 → p13 → b) : b := q.rec k
/-! states of three and of four parts -/
structure P3 (α β γ : Type) where
  (a : α) (b : β) (c : γ)
structure P4 (α β γ δ : Type) where
  (a : α) (b : β) (c : γ) (d : δ)
theorem room {d k R : Nat} (h : d + k < R) (j : Nat) (hj : j ≤ k) : d + j < R := Nat.lt_of_le_of_lt (Nat.add_le_add_left hj d) h
/-! small sums, proved once -/
theorem ar1 {j a : Nat} (h : j < a + 1) (e : ¬ j = a) : j < a := Nat.lt_of_le_of_ne (Nat.le_of_lt_succ h) e
theorem ar2 {a q j : Nat} (h : a + 1 - (q + 1 + 1) ≤ j) : a - (q + 1) ≤ j := by rwa [Nat.add_sub_add_right] at h
theorem ar3 {q a : Nat} : a - (q + 1) ≤ a - 1 := Nat.sub_le_sub_left (Nat.succ_le_succ (Nat.zero_le q)) a
theorem ar4 {q a : Nat} (h : q + 1 ≤ a) : a - 1 < a := Nat.sub_lt (Nat.lt_of_lt_of_le (Nat.succ_pos q) h) Nat.one_pos
theorem ar5 {i j : Nat} (h : i ≤ j) (e : ¬ i = j) : i ≤ j - 1 := Nat.le_sub_one_of_lt (Nat.lt_of_le_of_ne h e)
theorem ar6 {x a : Nat} (h : 1 ≤ a) : x + a - 1 - (a - 1) = x := by rw [Nat.add_sub_assoc h, Nat.add_sub_cancel]
theorem ar7 {i a : Nat} (h : a + 1 - (0 + 1) ≤ i) (h2 : i < a + 1) : i = a := Nat.le_antisymm (Nat.le_of_lt_succ h2) h
theorem ar8 {i j a : Nat} (h : a + 1 - (0 + 1) ≤ i) (h2 : i < a + 1) (h3 : a + 1 - (0 + 1) ≤ j) (h4 : j < a + 1) : i = j := (ar7 h h2).trans (ar7 h3 h4).symm
theorem ar9 {m j : Nat} (h : j < m) : m - 1 < m := Nat.sub_lt (Nat.lt_of_le_of_lt (Nat.zero_le j) h) Nat.one_pos
theorem ar10 {j k : Nat} (h : 0 < j) (h2 : j < k + 1) : j - 1 < k := Nat.sub_one_lt_of_le h (Nat.le_of_lt_succ h2)
theorem ar11 {i j l : Nat} (h : i ≤ j) (e : i = l) (e2 : ¬ j = l) : l < j := Nat.lt_of_le_of_ne (e ▸ h) fun q => e2 q.symm
theorem ar12 {x a i : Nat} (h : i < a) : x ≤ x + a - 1 - i := Nat.le_sub_of_add_le (by rw [Nat.add_sub_assoc (Nat.lt_of_le_of_lt (Nat.zero_le i) h)]; exact Nat.add_le_add_left (Nat.le_sub_one_of_lt h) x)
theorem ar13 {x a i : Nat} (h : x ≤ i) (h2 : i < a) : x + a - 1 - i < a := Nat.lt_of_le_of_lt (Nat.sub_le_iff_le_add.mpr (by rw [Nat.add_sub_assoc (Nat.lt_of_le_of_lt (Nat.zero_le i) h2), Nat.add_comm]; exact Nat.add_le_add_left h (a - 1))) (Nat.sub_lt (Nat.lt_of_le_of_lt (Nat.zero_le i) h2) Nat.one_pos)
theorem ar14 {a i j : Nat} (h : i ≤ j) : a - j ≤ a - i := Nat.sub_le_sub_left h a
theorem ar15 {m i : Nat} (h : i < m) : i ≤ m - 1 := Nat.le_sub_one_of_lt h
theorem ar16 {l r : Nat} (h : ¬ l ≥ r) : l ≤ (l + r) / 2 := (Nat.le_div_iff_mul_le (by decide)).mpr (by rw [Nat.mul_two]; exact Nat.add_le_add_left (Nat.le_of_not_le h) l)
theorem ar17 {l r : Nat} (h : ¬ l ≥ r) : (l + r) / 2 < r := (Nat.div_lt_iff_lt_mul (by decide)).mpr (by rw [Nat.mul_two]; exact Nat.add_lt_add_right (Nat.lt_of_not_le h) r)
theorem ar18 {l r k : Nat} (h : ¬ l ≥ r) (hk : r ≤ k) : (l + r) / 2 < k := Nat.lt_of_lt_of_le (ar17 h) hk
theorem ar19 {a m n : Nat} (h : m ≤ a + (n - a)) (ha : a ≤ n) : m ≤ n := by rwa [Nat.add_sub_cancel' ha] at h
theorem ar20 {i j l : Nat} (h : i ≤ j) (h2 : l < i) : l < j := Nat.lt_of_lt_of_le h2 h
theorem ar21 {i j k l : Nat} (h : i ≤ j) (h2 : l < i) (h3 : j < k + 1) : j - 1 < k := Nat.sub_one_lt_of_le (Nat.lt_of_lt_of_le (Nat.lt_of_le_of_lt (Nat.zero_le l) h2) h) (Nat.le_of_lt_succ h3)
theorem ar22 {i j : Nat} (h : i ≤ j) : i - 1 ≤ j - 1 := Nat.sub_le_sub_right h 1
theorem ar23 {i j a : Nat} (h : i ≤ j) (h2 : j < a) : i < a := Nat.lt_of_le_of_lt h h2
theorem ar24 {i j l : Nat} (h : i ≤ j) (e : j = l) (e2 : ¬ i = l) : i < l := Nat.lt_of_le_of_ne (e ▸ h) e2
theorem ar25 {i j k l : Nat} (h : i ≤ j) (h2 : l < i) (h3 : j < k + 1) : l < j ∧ j ≤ k := ⟨Nat.lt_of_lt_of_le h2 h, Nat.le_of_lt_succ h3⟩
theorem ar26 {j k l i : Nat} (h : i ≤ j) (e : i = l) (e2 : ¬ j = l) (h3 : j < k + 1) : l < j ∧ j ≤ k := ⟨ar11 h e e2, Nat.le_of_lt_succ h3⟩
theorem ar27 {i j k l : Nat} (hij : i ≤ j) (h : ¬ (l < i ∧ i ≤ k)) (h2 : l < j ∧ j ≤ k) : i ≤ j - 1 := Nat.le_sub_one_of_lt (Nat.lt_of_le_of_ne hij fun e => h (e ▸ h2))
theorem ar28 {a f n : Nat} (h : a + (f + 1) ≤ n) : a + 1 + f ≤ n := by rwa [Nat.add_right_comm, Nat.add_assoc]
theorem ar29 {a f m : Nat} (h : m ≤ a + 1 + f) : m ≤ a + (f + 1) := by rwa [Nat.add_right_comm, Nat.add_assoc] at h
theorem ar30 {a m : Nat} (h : a + 1 ≤ m) : a ≤ m := Nat.le_of_succ_le h
theorem ar31 {q a : Nat} (h : q + 1 ≤ a) : a - (q + 1) + a - 1 - (a - 1) < a := by rw [ar6 (Nat.le_trans (Nat.succ_pos q) h)]; exact Nat.sub_lt (Nat.lt_of_lt_of_le (Nat.succ_pos q) h) (Nat.succ_pos q)
theorem ar32 {q a : Nat} (h : q + 1 ≤ a) : a - (q + 1) ≤ a - (q + 1) + a - 1 - (a - 1) := by rw [ar6 (Nat.le_trans (Nat.succ_pos q) h)]; exact Nat.le_refl _
theorem ar33 {q a : Nat} (h : q + 1 ≤ a) : a - (q + 1) ≤ a - 1 ∧ a - 1 < a := ⟨ar3, ar4 h⟩
theorem ar34 {r l f : Nat} (h : r - l ≤ f + 1) (h2 : ¬ l ≥ r) : r - ((l + r) / 2 + 1) ≤ f := Nat.sub_le_iff_le_add.mpr (Nat.le_trans (Nat.sub_le_iff_le_add.mp h) (by rw [Nat.add_assoc, Nat.add_comm 1]; exact Nat.add_le_add_left (Nat.succ_le_succ (ar16 h2)) f))
theorem ar35 {r l f : Nat} (h : r - l ≤ f + 1) (h2 : ¬ l ≥ r) : (l + r) / 2 - l ≤ f := Nat.sub_le_iff_le_add.mpr (Nat.le_of_succ_le_succ (Nat.le_trans (ar17 h2) (by have := Nat.sub_le_iff_le_add.mp h; rwa [Nat.add_right_comm] at this)))
theorem ar36 {a i j : Nat} (h : i ≤ j) : 0 + a - 1 - j ≤ 0 + a - 1 - i := Nat.sub_le_sub_left h _
theorem ar37 {j k l : Nat} (hij : l ≤ k) (h : ¬ (l < j ∧ j ≤ k)) (e : ¬ j = l) (h3 : j < k + 1) : j < k := Nat.lt_of_lt_of_le (Nat.lt_of_le_of_ne (Nat.le_of_not_lt fun q => h ⟨q, Nat.le_of_lt_succ h3⟩) e) hij
theorem ar38 {x a i j : Nat} (hij : i ≤ j) (h : j < a) (h2 : ¬ (x ≤ i ∧ i < a)) : i ≤ x + a - 1 - j := Nat.le_trans (Nat.le_of_lt (Nat.lt_of_not_le fun q => h2 ⟨q, Nat.lt_of_le_of_lt hij h⟩)) (ar12 h)
theorem ar39 {i j l : Nat} (h : i ≤ j) (e : i = l) (e2 : ¬ j = l) : l ≤ j - 1 := Nat.le_sub_one_of_lt (ar11 h e e2)
theorem ar40 {i j k l : Nat} (h : i ≤ j) (h3 : j < k + 1) (e : i = l) (e2 : ¬ j = l) : j - 1 < k := ar10 (Nat.lt_of_le_of_lt (Nat.zero_le l) (ar11 h e e2)) h3
theorem ar41 {i j k l : Nat} (hij : i ≤ j) (h : l < i ∧ i ≤ k) (h3 : j < k + 1) : j - 1 < k := ar21 hij h.1 h3
theorem ar42 {j k l : Nat} (h : l < j ∧ j ≤ k) : j - 1 < k := Nat.sub_one_lt_of_le (Nat.lt_of_le_of_lt (Nat.zero_le l) h.1) h.2
theorem ar43 {i j k l : Nat} (hij : i ≤ j) (h : l < i ∧ i ≤ k) (h3 : j < k + 1) : l < j ∧ j ≤ k := ar25 hij h.1 h3
theorem ar44 {x a i : Nat} (h : x ≤ i ∧ i < a) : x + a - 1 - i < a := ar13 h.1 h.2
theorem ar45 {x a i : Nat} (h : x ≤ i ∧ i < a) : x ≤ x + a - 1 - i := ar12 h.2
theorem ar46 {x a i j : Nat} (hij : i ≤ j) (h : x ≤ i ∧ i < a) (h2 : j < a) : x + a - 1 - j < a := ar13 (Nat.le_trans h.1 hij) h2
theorem ar47 {x a i j : Nat} (hij : i ≤ j) (h : x ≤ i ∧ i < a) (h2 : j < a) : x ≤ j ∧ j < a := ⟨Nat.le_trans h.1 hij, h2⟩
theorem ar48 {m j : Nat} (h : j < m) : 0 + m - 1 - j < m := ar13 (Nat.zero_le j) h
theorem ar49 {m i j : Nat} (hij : i ≤ j) (h : j < m) : 0 + m - 1 - i < m := ar48 (Nat.lt_of_le_of_lt hij h)
theorem ar50 {a m n z : Nat} (h : m ≤ a + (n - a)) (ha : a ≤ n) (e : z = n) : m ≤ z := e ▸ ar19 h ha
theorem ar51 {i j a : Nat} (hij : i ≤ j) (h : j < a) : 0 ≤ i ∧ i < a := ⟨Nat.zero_le i, Nat.lt_of_le_of_lt hij h⟩
theorem ar52 {m f a : Nat} (h : m = a + 1 + f) : m = a + (f + 1) := by rw [h, Nat.add_right_comm, Nat.add_assoc]
theorem ar53 {l r k : Nat} (h : ¬ l ≥ r) (hk : r ≤ k) : (l + r) / 2 ≤ k := Nat.le_of_lt (ar18 h hk)
theorem ar54 {m : Nat} (h : m > 1) : 0 ≤ m - 1 ∧ m - 1 < m := ⟨Nat.zero_le _, Nat.sub_lt (Nat.lt_trans Nat.one_pos h) Nat.one_pos⟩
theorem ar55 {m : Nat} (h : m > 1) : 0 + m - 1 - (m - 1) < m := ar48 (ar54 h).2
theorem ar56 {i j a : Nat} (hij : i ≤ j) (h : j ≤ a) : i ≤ a := Nat.le_trans hij h
theorem ar57 {a f n z : Nat} (h : a + (f + 1) ≤ n) (e : z = n) : a < z := e ▸ Nat.lt_of_lt_of_le (Nat.lt_add_of_pos_right (Nat.succ_pos f)) h
theorem ar58 {a f n z : Nat} (h : a + (f + 1) ≤ n) (e : z = n) : a ≤ z := Nat.le_of_lt (ar57 h e)
theorem ar59 {a f n : Nat} (h : a + (f + 1) ≤ n) : a + 1 ≤ n := Nat.lt_of_lt_of_le (Nat.lt_add_of_pos_right (Nat.succ_pos f)) h
theorem ar60 {l r : Nat} (hij : l ≤ r) (h : r - l ≤ 0) : l = r := Nat.le_antisymm hij (Nat.le_of_sub_eq_zero (Nat.le_zero.mp h))
theorem hf0 {i : Nat} (h : 0 < i) : (i - 1) / 2 < i := Nat.lt_of_le_of_lt (Nat.div_le_self _ _) (Nat.sub_lt h Nat.one_pos)
theorem hf1 {n p c k : Nat} (e : n - p = k) (h2 : p < c) (h : c < n) : n - c < k := e ▸ Nat.sub_lt_sub_left (Nat.lt_trans h2 h) h2
theorem tk_le {α : Type} (l : List α) (j : Nat) : (l.take j).length ≤ l.length := by rw [List.length_take]; exact Nat.min_le_right _ _
end Mine
end
/-! ## MHead -/
section
namespace Mine
section
open _root_.PySem _root_.PySem.W _root_.PySem.Calls PyProof.Rows
/-- the claim's caller stands on the stack -/
def HasC (Γ : Ctx) : Prop := ((Γ.code :: Γ.below.map (·.1)).any Code.isCaller) = true
/-- as wpAny, of the contexts alone that the claim's caller stands under -/
def wpC {α : Type} (M : Model) (A : Around) (t : Sem α) (Q : α → Shared → Prop) (E : Value → Shared → Prop) (s : Shared) : Prop :=
  ∀ Γ p, Γ.In A → HasC Γ → Sem.wp M Γ t (fun a _ s' => Q a s') (fun e _ s' => E e s') p s
theorem wpC_any {α : Type} {M : Model} {A : Around} {t : Sem α} {Q : α → Shared → Prop} {E : Value → Shared → Prop} {s : Shared} (h : wpAny M A t Q E s) : wpC M A t Q E s := fun Γ p hΓ _ => h Γ p hΓ
theorem wpC_mono {α : Type} {M : Model} {A : Around} {t : Sem α} {Q Q' : α → Shared → Prop} {E E' : Value → Shared → Prop} {s : Shared} (h : wpC M A t Q E s) (hQ : ∀ a s, Q a s → Q' a s) (hE : ∀ e s, E e s → E' e s) : wpC M A t Q' E' s :=
  fun Γ p hΓ hc => Sem.wp_mono M Γ t (fun a _ s => hQ a s) (fun e _ s => hE e s) p s (h Γ p hΓ hc)
theorem wpC_bind {α β : Type} {M : Model} {A : Around} {m : Sem α} {f : α → Sem β} {Q : β → Shared → Prop} {E : Value → Shared → Prop} {s : Shared} (h : wpC M A m (fun a s' => wpC M A (f a) Q E s') E s) : wpC M A (m >>= f) Q E s := fun Γ p hΓ hc => by
  rw [Sem.wp_bind']
  exact Sem.wp_mono M Γ m (fun a p' s' h' => h' Γ p' hΓ hc) (fun _ _ _ h' => h') p s (h Γ p hΓ hc)
theorem wpC_pure {α : Type} {M : Model} {A : Around} {a : α} {Q : α → Shared → Prop} {E : Value → Shared → Prop} {s : Shared} (h : Q a s) : wpC M A (pure a) Q E s := fun _ _ _ _ => h
theorem callFrom_C {c : ClaimW} {tree : List Value → Sem Fin} {w : World} {s : Shared} {free : Addr → Prop} {gens : Prop} {kept : Heap → Prop} (hz : s.asleep) (hgens : s.gens = #[])
    (hspec : ∀ args, c.pre args = true → WData.layableAll args = true → ∀ ord : List DictEntry → List DictEntry, (∀ l, (ord l).Perm l) →
      ∃ vs s₁, layAllW c.records (classAt s.heap) w.params ord args s = some (vs, s₁) ∧
        wpC (model c.prog w) callerA (tree vs) (fun fin s' => ∃ f, fin = .done f ∧ (c.Ends s args vs s₁ (.ok f) s' ∧ s'.os = s.os ∧ AllBare s'.gens ∧ kept s'.heap))
          (fun e s' => c.Ends s args vs s₁ (.error e) s' ∧ s'.os = s.os ∧ AllBare s'.gens ∧ kept s'.heap) s₁) :
    c.CallFrom (fun vs => ⟨tree vs, .builtin "claim.caller" {}, default, []⟩) w free gens kept s := by
  intro args hpre hlay ord hord
  obtain ⟨vs, s₁, hlaid, hcode⟩ := hspec args hpre hlay ord hord
  have hal := layAllW_rest _ _ _ hlaid
  have hwp : Sem.wp (model c.prog w) ⟨.builtin "claim.caller" {}, none, none, [], none⟩ (tree vs)
      (Sem.finPost (model c.prog w) ⟨.builtin "claim.caller" {}, none, none, [], none⟩ fun r s' => (c.Ends s args vs s₁ r s' ∧ s'.os = s.os ∧ kept s'.heap) ∧ leftWithCleanup s'.gens = false)
      (fun e _ s' => (c.Ends s args vs s₁ (.error e) s' ∧ s'.os = s.os ∧ kept s'.heap) ∧ leftWithCleanup s'.gens = false) default s₁ := by
    exact Sem.wp_mono _ _ _ (fun fin p' s' h' => h'.elim fun f q => by
        rw [q.1]
        exact ⟨⟨q.2.1, q.2.2.1, q.2.2.2.2⟩, leftWithCleanup_false_of_bare q.2.2.2.1⟩)
      (fun e p' s' h' => ⟨⟨h'.1, h'.2.1, h'.2.2.2⟩, leftWithCleanup_false_of_bare h'.2.2.1⟩) _ _ (hcode _ default caller_in rfl)
  obtain ⟨k, r, s'', s', hq⟩ := wp_halts_full (M := model c.prog w) (R := fun r s' => c.Ends s args vs s₁ r s' ∧ s'.os = s.os ∧ kept s'.heap) (Shared.asleep_of_life hal.2.2.2 hz) hwp
  have hsched := hq.1
  have hrun := hq.2.1
  have hfo := Shared.forget_eq hq.2.2.1
  have hcase := hq.2.2.2.1.congr hfo.1
  have hos := hfo.2.2.2.1 ▸ hq.2.2.2.2.1
  have hkp : kept s'.heap := by rw [hfo.1]; exact hq.2.2.2.2.2
  have hlife : s'.heap.life = s.heap.life := (runN_life _ _ _ hrun).trans hal.2.2.2
  refine ⟨vs, s₁, hlaid, k, _, s', hsched, ?_, (fun _ i x hx => by rw [hgens] at hx; simp at hx), hkp, by rw [hlife], Shared.rest_eq hos⟩
  rcases hcase with ⟨v, q⟩ | ⟨e, ob, cls, q⟩
  · exact .inl ⟨v, congrArg outcomeOf q.1, q.2.1, q.2.2.1, q.2.2.2.1, fun b o y _ => q.2.2.2.2.1 b o y, q.2.2.2.2.2⟩
  · exact .inr ⟨e, ob, cls, congrArg outcomeOf q.1, q.2.1, q.2.2.1, q.2.2.2.1, q.2.2.2.2.1, fun b o y _ => q.2.2.2.2.2 b o y⟩
/-- the call's walk, under the claim's caller -/
def WalkC (q : Program) (loose : List Str) (XP : (Str → Option Value) → Heap → Prop) (YP : World → Heap → Prop) (r : RowW) (d : DefRec) (kwd : List (Str × Expr)) : Prop :=
  ∀ (w : World) (s₀ s₁ : Shared) (mg mb : Str → Option Value), Ground q loose r.records XP w s₀ mg mb s₁.heap → YP w s₁.heap → ∀ (a : Addr) (o : Obj) (pm cd doc dV kV : Value), s₁.heap.get? a = some o →
    o.data = .func { docDef d.name d.params d.body d.scope pm cd doc with defaults := dV, kwdefaults := kV } → s₁.heap.CodeRec cd d.name → Dflts mg s₁.heap d.params kwd dV kV → mg d.name = some (.ref a) → s₁.gens = #[] →
    ∀ (args : List WData) (vals : List Value) (as : List Addr), r.claim.pre args = true → WData.layableAll args = true → ReadsAllW r.records (classAt s₀.heap) s₁.heap vals args as → WellAll w.params s₁.heap vals args → (∀ a ∈ as, (a == sysModules) = false) →
      wpC (model r.prog w) callerA (PySem.call (.ref a) vals) (fun v s' => GoodWG r.claim (classAt s₀.heap) (ExcName.means s₀.heap) args s₁ (.ok (.ret v)) s')
        (fun e s' => GoodWG r.claim (classAt s₀.heap) (ExcName.means s₀.heap) args s₁ (.error e) s') s₁
theorem open_C {r : RowW} {tree : List Value → Sem Fin} {q : Program} {loose defs kps : List Str} {writes : Bool} {Xt : Shared → Bool} {XP : (Str → Option Value) → Heap → Prop} {α : Type} {Yf : Shared → α} {Ya : World → α} {YP : World → Heap → Prop} {N : Nat}
    (left : LeftO r.prog q loose Xt Yf Ya N) (hY : ∀ w s, Yf s = Ya w → YP w s.heap) (hYk : ∀ w h h', YP w h → (∀ b o, h.get? b = some o → h'.get? b = some o) → YP w h') (hX : ∀ s, Xt s = true → XP (s.heap.nsMap mainGlobals) s.heap) (hXk : ∀ mg h h', XP mg h → (∀ b o, h.get? b = some o → h'.get? b = some o) → XP mg h')
    (hRf : ∀ s, Xt s = true → RecFacts r.records s.heap) (hwr : (!writes || r.records.isEmpty) = true) (ok : (chainsOk q && opensWell r.prog && (frees r && r.within.isEmpty)) = true) (hb : r.prog.bare) (hw : r.promised)
    (ht : ∀ vs (w : World) (s : Shared) mg f (Q : Fin → Shared → Prop) (E : Value → Shared → Prop), s.heap.Ns mainGlobals mg → mg r.name = some f → wpC (model r.prog w) callerA (PySem.call f vs) (fun v s' => Q (.done (.ret v)) s') E s → wpC (model r.prog w) callerA (tree vs) Q E s)
    (pin : ∀ w s, s.heap.isNs mainGlobals = true → Ground q loose [] XP w s (s.heap.nsMap mainGlobals) (s.heap.nsMap builtinsNs) s.heap → ∀ n ∈ defs, isTheDefsW r.prog s.heap n)
    (call : ∀ (w : World) (s₀ s₁ : Shared) (mg mb : Str → Option Value), Ground q loose r.records XP w s₀ mg mb s₁.heap → YP w s₁.heap → ∀ (args : List WData) (vs : List Value) (as : List Addr),
      r.claim.pre args = true → WData.layableAll args = true → Laid r.records w s₀ s₁ args vs as → sysModules < s₀.heap.objs.size → ∃ f, mg r.name = some f ∧
        wpC (model r.prog w) callerA (PySem.call f vs) (fun v s' => GoodWG r.claim (classAt s₀.heap) (ExcName.means s₀.heap) args s₁ (.ok (.ret v)) s')
          (fun e s' => GoodWG r.claim (classAt s₀.heap) (ExcName.means s₀.heap) args s₁ (.error e) s') s₁) : r.claim.HoldsOpenBy (fun vs => ⟨tree vs, .builtin "claim.caller" {}, default, []⟩) defs kps writes := by
  have k5 := (Bool.and_eq_true_iff.mp ok).2
  have ok := (Bool.and_eq_true_iff.mp ok).1
  have hch := (Bool.and_eq_true_iff.mp ok).1
  have o1 := (Bool.and_eq_true_iff.mp ok).2
  have k6 := (Bool.and_eq_true_iff.mp k5).2
  have fr := frees_parts (Bool.and_eq_true_iff.mp k5).1
  have hsame := fr.1
  have hu := fr.2.1
  have ha := fr.2.2.1
  have hap := fr.2.2.2.1
  have hm := fr.2.2.2.2
  refine ⟨⟨hb, o1, by show r.makers.map _ = []; rw [hm]; rfl⟩, hw.witness, fun w => ⟨(left.behind hX hch w).1, fun s' hs' => ?_⟩⟩
  obtain ⟨s₀, hf, hg0, s, q'⟩ := (left.behind (XP := fun mg h => XP mg h ∧ RecFacts r.records h) (fun s hs => ⟨hX s hs, hRf s hs⟩) hch w).2 s' hs'
  have hT := q'.1
  have hz := q'.2.1
  have hgens := q'.2.2.1
  have hg := q'.2.2.2.1
  have G00 := q'.2.2.2.2.1
  have y := q'.2.2.2.2.2
  have G0 : Ground q loose [] XP w s (s.heap.nsMap mainGlobals) (s.heap.nsMap builtinsNs) s.heap := ⟨G00.T, G00.B, G00.D, G00.TE, G00.TD, G00.W, G00.X.1, G00.cls, G00.has, G00.apart, G00.once, G00.K⟩
  refine ⟨s₀, hf, hg0, s, hT, pin w s hg G0, G00.X.2.1, G00.X.2.2.1, ?_⟩
  have hgens : s.gens = #[] := Array.eq_empty_of_size_eq_zero (beq_iff_eq.mp hgens)
  have G : Ground q loose r.records XP w s _ _ s.heap := G00.X.2.ground G0
  refine callFrom_C (c := r.claim) hz hgens fun args hpre hlay ord hord => ?_
  obtain ⟨⟨vs, s₁⟩, hlaid⟩ := Option.isSome_iff_exists.mp (layAllW_isSome (P := w.params) (ord := ord) G.has args r.args s (pre_splitW hpre).1)
  have keeps := layAllW_keeps _ _ _ hlaid
  have hal := layAllW_rest _ _ _ hlaid
  obtain ⟨as, r3⟩ := reads_layAllW hord _ _ _ hlaid hlay s₁.heap (fun _ _ e => e)
  have L : Laid r.records w s s₁ args vs as := ⟨⟨ord, hord, hlaid⟩, r3.1, r3.2.1, r3.2.2, keeps, hal.1.trans hgens, hal.2.2.1⟩
  have G₁ := G.keeps hXk keeps
  obtain ⟨f, hf, h⟩ := call w s s₁ _ _ G₁ (hYk _ _ _ (hY w s y) keeps) args vs as hpre hlay L G.low
  have hi := ident_freeW hu ha hap
  have hwi : r.claim.within = [] := List.isEmpty_iff.mp k6
  refine ⟨vs, s₁, hlaid, ht vs w s₁ _ f _ _ G₁.T.g hf (wpC_mono h (fun v s' g => ⟨_, rfl, ?_⟩) fun e s' g => ?_)⟩
  · have z := g.laid (c := r.claim) hsame hwi hi L
    exact ⟨z.1, z.2.1, z.2.2, fun q => ⟨namesKept_of hT hg kps keeps g.2.1.old, noTable hwr q⟩⟩
  · have z := g.laid (c := r.claim) hsame hwi hi L
    exact ⟨z.1, z.2.1, z.2.2, fun q => ⟨namesKept_of hT hg kps keeps g.2.1.old, noTable hwr q⟩⟩
theorem PySem.W.holds_open {r : OpenRow} {q : Program} {loose : List Str} {Xt : Shared → Bool} {XP : (Str → Option Value) → Heap → Prop} {α : Type} {Yf : Shared → α} {Ya : World → α} {YP : World → Heap → Prop} {d : DefRec} {kwd : List (Str × Expr)} {N : Nat}
    (left : LeftO r.prog q loose Xt Yf Ya N) (hY : ∀ w s, Yf s = Ya w → YP w s.heap) (hYk : ∀ w h h', YP w h → (∀ b o, h.get? b = some o → h'.get? b = some o) → YP w h')
    (hX : ∀ s, Xt s = true → XP (s.heap.nsMap mainGlobals) s.heap) (hXk : ∀ mg h h', XP mg h → (∀ b o, h.get? b = some o → h'.get? b = some o) → XP mg h')
    (hdef : defOf q r.name = some (d, kwd)) (hp : r.prog.theDef r.name = some (d.params, d.body, d.scope)) (hk : kwWritten? d.params.kwonlyargs d.params.kw_defaults = some kwd) (hRf : ∀ s, Xt s = true → RecFacts r.records s.heap) (hwr : (!r.writes || r.records.isEmpty) = true)
    (k1 : r.wellSaid = true) (ok : (chainsOk q && opensWell r.prog && (frees r.toRowW && r.within.isEmpty)) = true) (hb : r.prog.bare) (hw : r.toRowW.promised)
    (call : WalkC q loose XP YP r.toRowW d kwd) : r.Holds := by
  refine ⟨k1, hw, open_C (r := r.toRowW) (tree := fun vs => do match ← nsGet mainNs r.name with
      | some f => do ret (← _root_.PySem.call f vs)
      | none => unsupported "claim.caller:no-such-global") left hY hYk hX hXk hRf hwr ok hb hw
    (fun vs w s mg f Q E hg hf h => wpC_bind (wpC_any (wpAny_nsGet hg ?_)))
    (fun w s hg G n hn => ?_) fun w s₀ s₁ mg mb G Y args vs as hpre hlay L low => ?_⟩
  · rw [hf]
    exact wpC_bind (wpC_mono h (fun _ _ x => wpC_pure x) fun _ _ x => x)
  · obtain rfl : n = r.name := by split at hn <;> simp_all
    exact pinned_of_view hg G hdef hp hk
  · obtain ⟨a, o, pm, cd, doc, dV, kV, h1, h2, h3, h4, h5⟩ := G.fn hdef
    exact ⟨.ref a, h1, call w s₀ s₁ mg mb G Y a o pm cd doc dV kV h2 h3 h4 h5 (defOf_name hdef ▸ h1) L.gens args vs as hpre hlay L.reads L.well (L.low low)⟩
end
end Mine
end
/-! ## MSpine -/
section
open PySem PySem.W PySem.Calls PyProof.Rows
namespace Mine
section
variable {α β : Type} {M : Model} {A : Around} {E : Value → Shared → Prop} {s : Shared} {env : Env}
def BelC (Γ : Ctx) : Prop := (Γ.below.map (·.1)).any Code.isCaller = true
def codeC (M : Model) (A : Around) (c : Code) (R : Result → Shared → Prop) (s : Shared) : Prop :=
  ∀ Γ p, Γ.code = c → Γ.Below A → BelC Γ → wpCode M Γ R p s
theorem BelC.has {Γ : Ctx} (h : BelC Γ) : HasC Γ := by
  unfold HasC; rw [List.any_cons]; unfold BelC at h; rw [h, Bool.or_true]
theorem HasC.enter {Γ : Ctx} (h : HasC Γ) (c : Code) (hd : Option Value) (p : Pos) : BelC (Γ.enter c hd p) := h
theorem codeC_any {c : Code} {R : Result → Shared → Prop} (h : codeAny M A c R s) : codeC M A c R s := fun Γ p hc hΓ _ => h Γ p hc hΓ
theorem codeC_mono {c : Code} {R R' : Result → Shared → Prop} (h : codeC M A c R s) (hR : ∀ r s, R r s → R' r s) : codeC M A c R' s := fun Γ p hc hΓ hb => wpCode_mono hR (h Γ p hc hΓ hb)
theorem wpC_onRaise {m : Sem α} {k : Value → Sem Unit} {Q : α → Shared → Prop} (h : wpC M A m Q (fun e s' => wpAny M A (k e) (fun _ s'' => E e s'') E s') s) : wpC M A (m.onRaise k) Q E s := fun Γ p hΓ hc => by
  rw [Sem.wp_onRaise]
  exact Sem.wp_mono M Γ m (fun _ _ _ h' => h') (fun e p' s' h' => h' Γ p' hΓ) p s (h Γ p hΓ hc)
theorem wpC_attempt {m : Sem α} {Q : Except Value α → Shared → Prop} (h : wpC M A m (fun a => Q (.ok a)) (fun e => Q (.error e)) s) : wpC M A m.attempt Q E s := fun Γ p hΓ hc => by
  rw [Sem.wp_attempt]; exact h Γ p hΓ hc
theorem wpC_holding {vs : List Value} {m : Sem α} {Q : α → Shared → Prop} (h : wpC M A m Q E s) : wpC M A (holding vs m) Q E s := fun Γ p hΓ hc => by
  rw [Sem.wp_holding]; exact h Γ p hΓ hc
theorem wpC_run {c : Code} {h : Option Value} {Q : Flow → Shared → Prop} (hc : codeC M (A.mark h) c (fun r s' => match r with | .ok f => Q f s' | .error e => E e s') s) (hnb : h ≠ some byPass := by intro x; cases x) :
    wpC M A (run c h) Q E s := fun Γ p hΓ hC => by rw [Sem.wp_run]; exact hc _ p rfl (hΓ.enter c h p hnb) (hC.enter c h p)
theorem wpC_runOwn {c : Code} {Q : Flow → Shared → Prop} (hc : codeC M A c (fun r s' => match r with | .ok f => Q f s' | .error e => cameBackBy M A env E e s') s) :
    wpC M A (runOwn c env none) Q E s := by
  unfold runOwn
  exact wpC_onRaise (wpC_run hc)
theorem wpC_call {f : Value} {pos : List Value} {kw : List (Str × Value)} {Q : Value → Shared → Prop}
    (hc : codeC M A (.call f ⟨pos, kw⟩) (fun r s' => match r with | .ok (.ret v) => Q v s' | .ok _ => False | .error e => E e s') s) : wpC M A (call f pos kw) Q E s := fun Γ p hΓ hC => by
  show Sem.wp M Γ (runValue _) _ _ p s
  rw [Sem.wp_runValue]; exact hc _ p rfl (hΓ.enter _ none p (by intro x; cases x)) (hC.enter _ none p)
theorem codeC_of_tree {c : Code} {R : Result → Shared → Prop}
    (h : wpC M (A.under c) (M.den c) (fun fin s' => match fin with | .done f => R (.ok f) s' | .again c' => c'.quiet = true ∧ codeC M A c' R s') (fun e s' => R (.error e) s') s) : codeC M A c R s := fun Γ p hc hΓ hb => by
  rw [wpCode_iff_wp, hc]
  refine Sem.wp_mono M Γ _ (fun fin p' s' h' => ?_) (fun _ _ _ h' => h') p s (h Γ p (hc ▸ hΓ.in) hb.has)
  cases fin with
  | done f => exact h'
  | again c' => exact ⟨h'.1, h'.2 (Γ.goto c') p' rfl (hΓ.goto c') hb⟩
theorem wpC_execs_cons {st : Stmt} {rest : List Stmt} {Q : Flow → Shared → Prop} (h : wpC M A (exec st env) (fun f s' => match f with | .next => wpC M A (execs rest env) Q E s' | f => Q f s') E s) :
    wpC M A (execs (st :: rest) env) Q E s := fun Γ p hΓ hc => by
  rw [execs_cons, Sem.wp_bind']
  refine Sem.wp_mono M Γ _ (fun f p' s' h' => ?_) (fun _ _ _ h' => h') _ _ (h Γ p hΓ hc)
  cases f <;> first | exact h' Γ p' hΓ hc | exact h'
theorem wp_execs_app {Γ : Ctx} {rest : List Stmt} {Q : Flow → Pos → Shared → Prop} {E : Value → Pos → Shared → Prop} : ∀ (pre : List Stmt) (p : Pos) (s : Shared),
    Sem.wp M Γ (execs pre env) (fun f p' s' => match f with | .next => Sem.wp M Γ (execs rest env) Q E p' s' | f => Q f p' s') E p s → Sem.wp M Γ (execs (pre ++ rest) env) Q E p s
  | [], _, _, h => h
  | st :: pre, p, s, h => by
    rw [execs_cons, Sem.wp_bind'] at h
    rw [List.cons_append, execs_cons, Sem.wp_bind']
    refine Sem.wp_mono M Γ _ (fun f p' s' h' => ?_) (fun _ _ _ h' => h') _ _ h
    cases f with
    | next => exact wp_execs_app pre p' s' h'
    | brk => exact h'
    | cont => exact h'
    | ret v => exact h'
theorem wpC_execs_app {pre rest : List Stmt} {Q : Flow → Shared → Prop} (h : wpAny M A (execs pre env) (fun f s' => match f with | .next => wpC M A (execs rest env) Q E s' | f => Q f s') E s) :
    wpC M A (execs (pre ++ rest) env) Q E s := fun Γ p hΓ hc => by
  refine wp_execs_app pre p s (Sem.wp_mono M Γ _ (fun f p' s' h' => ?_) (fun _ _ _ h' => h') _ _ (h Γ p hΓ))
  cases f with
  | next => exact h' Γ p' hΓ hc
  | brk => exact h'
  | cont => exact h'
  | ret v => exact h'
theorem wpC_Assign_Name {x : Str} {pos' : Pos} {value : PySem.Expr} {pos : Pos} {Q : Flow → Shared → Prop} (h : wpC M A (eval value env) (fun v s₁ => wpC M A (storeName env x v) (fun _ => Q .next) E s₁) E s)
    (hs : swapsWith value (some (.Name x pos')) pos.line env = pure false := by rfl) : wpC M A (exec (.Assign [.Name x pos'] value pos) env) Q E s := fun Γ p hΓ hc => by
  simp only [exec_Assign_Name env x pos' value pos hs, Sem.wp_bind', Sem.wp_cmd_standAt, Sem.wp_bindName, Sem.wp_pure']
  exact Sem.wp_mono M Γ _ (fun v _ s₁ h₁ => h₁ Γ _ hΓ hc) (fun _ _ _ h' => h') _ _ (h Γ _ hΓ hc)
theorem wpC_Return_some {e : PySem.Expr} {pos : Pos} {Q : Flow → Shared → Prop} (h : wpC M A (eval e env) (fun v => Q (.ret v)) E s) : wpC M A (exec (.Return (some e) pos) env) Q E s := fun Γ p hΓ hc => by
  simp only [exec_Return_some, Sem.wp_bind', Sem.wp_cmd_standAt, Sem.wp_pure']; exact h Γ _ hΓ hc
theorem wpC_tryStmt {body orelse : Sem Flow} {h₀ : ExceptHandler} {hs : List ExceptHandler} {Q : Flow → Shared → Prop}
    (h : wpC M A body (fun f s₁ => match f with | .next => wpAny M A orelse Q E s₁ | f => Q f s₁)
      (fun e s₁ => wpAny M A (noteFrame e env) (fun _ s₂ => wpAny M A (setFlight e none) (fun _ s₃ => wpAny M A (handleBy e env (h₀ :: hs)) Q E s₃) E s₂) E s₁) s) :
    wpC M A (tryStmt false body (h₀ :: hs) orelse [] env) Q E s := by
  unfold tryStmt
  show wpC M A (body.attempt >>= _) Q E s
  refine wpC_bind (wpC_attempt (wpC_mono h (fun f s₁ h₁ => ?_) fun e s₁ h₁ => ?_))
  · cases f <;> first | exact wpC_any h₁ | exact wpC_pure h₁
  · exact wpC_any (wpAny_bind (wpAny_mono h₁ (fun _ _ h₂ => wpAny_bind h₂) fun _ _ x => x))
theorem wpC_Try {body orelse : List Stmt} {h₀ : ExceptHandler} {hs : List ExceptHandler} {pos : Pos} {Q : Flow → Shared → Prop}
    (h : wpC M A (execs body env) (fun f s₁ => match f with | .next => wpAny M A (execs orelse env) Q E s₁ | f => Q f s₁)
      (fun e s₁ => wpAny M A (noteFrame e env) (fun _ s₂ => wpAny M A (setFlight e none) (fun _ s₃ => wpAny M A (handleBy e env (h₀ :: hs)) Q E s₃) E s₂) E s₁) s) :
    wpC M A (exec (.Try body (h₀ :: hs) orelse [] pos) env) Q E s := by
  rw [arm_exec_Try]
  exact wpC_bind (wpC_any (wpAny_standAt (wpC_tryStmt h)))
theorem wpC_Call {func : PySem.Expr} {args : List PySem.Expr} {pos : Pos} {Q : Value → Shared → Prop} (h : wpC M A (eval func env) (fun f s₁ => wpC M A (callWith pos f [] (backTo pos (starEach args env)) []) Q E s₁) E s)
    (he : eval (.Call func args [] pos) env = (do callWith pos (← eval func env) [] (backTo pos (starEach args env)) (backToKw pos (keywordEach [] env))) := by rfl) :
    wpC M A (eval (.Call func args [] pos) env) Q E s := by
  rw [he]; exact wpC_bind h
theorem wpC_callWith {P : Heap → Prop} {f : Value} {first : List Value} {pos : Pos} {args : List (Bool × Sem Value)} {Q : Value → Shared → Prop} (hplain : args.any (·.1) = false)
    (hk : ∀ h, P h → ∃ k, (k = Keeper.frame ∨ k = Keeper.machine ∨ k = Keeper.boundFrame) ∧ Looks M h (keeperOf f) k)
    (h : wpAny M A (evalArgs f true args []) (fun a s₁ => P s₁.heap ∧ wpC M A (call f (first ++ a.pos) a.kw) Q E s₁) E s) : wpC M A (callWith pos f first args []) Q E s := by
  unfold callWith
  refine wpC_bind (wpC_holding (wpC_any (wpAny_mono h (fun a s₁ h₁ => wpC_bind (wpC_any (wpAny_standAt ?_))) fun _ _ x => x)))
  obtain ⟨k, hk', L⟩ := hk _ h₁.1
  simp only [hplain, List.any_nil, Bool.or_false]
  refine wpC_bind (wpC_any (L.here ?_))
  have tail : ∀ {t : Sem Value}, wpC M A t Q E s₁ → wpC M A (t >>= fun r => holding [r] point >>= fun _ => pure r) Q E s₁ :=
    fun ht => wpC_bind (wpC_mono ht (fun r s₂ hr => wpC_bind (wpC_any (wpAny_holding (wpAny_point (wpC_pure hr))))) fun _ _ x => x)
  have keep : ∀ {vs : List Value} {t : Sem Value}, wpC M A t Q E s₁ → wpC M A (t.keep vs) Q E s₁ := fun ht Γ p hΓ hc => by rw [Sem.wp_keep]; exact ht Γ p hΓ hc
  have marked (mk : Value) : wpC M A (callMarked mk f (first ++ a.pos) a.kw) Q E s₁ := by unfold callMarked; exact keep h₁.2
  rcases hk' with rfl | rfl | rfl <;> dsimp only <;> first | exact tail h₁.2 | (split <;> first | exact tail h₁.2 | exact tail (marked _))
end
section
variable {prog : Program} {w : World} {A : Around} {E : Value → Shared → Prop} {R : Result → Shared → Prop} {s : Shared}
theorem codeC_func {body : List Stmt} {env : Env} (h : wpC (model prog w) (A.deeper env) (execs body env) (fun f s' => R (.ok (.ret (match f with | .ret v => v | _ => .none))) s')
      (fun e s' => wpAny (model prog w) (A.deeper env) (leaving env e) (fun _ s'' => R (.error e) s'') (fun e' s'' => R (.error e') s'') s') s) : codeC (model prog w) A (.func body env) R s := by
  refine codeC_of_tree ?_
  show wpC _ (A.deeper env) (do point; match ← (execs body env).onRaise (leaving env) with | .ret v => ret v | _ => ret .none) _ _ s
  refine wpC_bind (wpC_any (wpAny_point (wpC_bind (wpC_onRaise (wpC_mono h (fun f s' h' => ?_) fun _ _ h' => h')))))
  cases f <;> exact wpC_pure h'
theorem codeC_call_function {a : Addr} {args : Args} {o : Obj} {fd : FuncData} {body : List Stmt} (hroom : A.depth < recursionLimit) (ho : s.heap.get? a = some o)
    (hd' : o.data = .func fd) (hco : fd.scope.isCoroutine = false) (hgen : fd.scope.isGenerator = false) (hbody : fd.body = .stmts body) (hcd : s.heap.CodeRec fd.code fd.qualname)
    (h : wpAny (model prog w) A.in1 (bindArgs fd args) (fun binds s₁ =>
      wpAny (model prog w) A.in1 (newFunctionEnv fd.scope fd.globals fd.closure binds (fd.qualname ++ ".<locals>.") (some a) fd.code none fd.builtins)
        (fun env s₂ => s₂.heap.NoLimit ∧ codeC (model prog w) A (.func body env) R s₂) (fun e s' => R (.error e) s') s₁) (fun e s' => R (.error e) s') s) :
    codeC (model prog w) A (.call (.ref a) args) R s := by
  refine codeC_of_tree (wpC_any ?_)
  show wpAny _ A.in1 (callAny (.ref a) args) _ _ s
  unfold callAny
  refine wpAny_bind (m := load a) (wpAny_load ho ?_)
  obtain ⟨c, oc, vs, tq, hc, hoc, hdc, hq⟩ := hcd
  rw [hd']
  dsimp only
  unfold callFunction
  rw [hco, hgen, hbody]
  dsimp only
  rw [hc] at h ⊢
  refine wpAny_bind (m := field (.ref c) 1) (wpAny_field hoc hdc hq (wpAny_bind (wpAny_pure ?_)))
  refine wpAny_bind (wpAny_mono h (fun binds s₁ h₁ => wpAny_bind (wpAny_mono h₁ (fun env s₂ h₂ => ?_) fun _ _ x => x)) fun _ _ x => x)
  exact wpAny_bind (wpAny_enterFrame h₂.1 hroom (wpAny_pure (And.intro rfl h₂.2)))
theorem codeC_call_def {a : Addr} {o : Obj} {fd : FuncData} {body : List Stmt} {args : Args} {binds : List (Str × Value)}
    (hroom : A.depth < recursionLimit) (ho : s.heap.get? a = some o) (hdata : o.data = .func fd) (hlim : s.heap.NoLimit) (hcd : s.heap.CodeRec fd.code fd.qualname)
    (hbody : fd.body = .stmts body) (hbind : BindsTo s fd args binds) (hcell : ∀ x ∈ fd.scope.names, x.2 ≠ .cell) (hloc : ∀ x ∈ binds, fd.scope.names.lookup x.1 = some .local)
    (h : ∀ h₀, h₀.Ns s.heap.objs.size (fun x => binds.reverse.lookup x) → (∀ b o, s.heap.get? b = some o → h₀.get? b = some o) →
      wpC (model prog w) (A.deeper (callEnv fd s.heap.objs.size a)) (execs body (callEnv fd s.heap.objs.size a)) (fun f s' => R (.ok (.ret (match f with | .ret v => v | _ => .none))) s')
        (fun e s' => wpAny (model prog w) (A.deeper (callEnv fd s.heap.objs.size a)) (leaving (callEnv fd s.heap.objs.size a) e) (fun _ s'' => R (.error e) s'') (fun e' s'' => R (.error e') s'') s')
        { s with heap := h₀, toks := s.toks + binds.length })
    (hco : fd.scope.isCoroutine = false := by rfl) (hgen : fd.scope.isGenerator = false := by rfl) (hk : fd.scope.kind = .function := by rfl) : codeC (model prog w) A (.call (.ref a) args) R s := by
  refine codeC_call_function hroom ho hdata hco hgen hbody hcd (hbind _ _ _ _ (wpAny_newFunctionEnv hcell hloc (fun h₀ hns₀ hsb₀ => ?_) hk))
  exact ⟨hlim.fresh _ hsb₀, codeC_func (h h₀ hns₀ fun b o e => hsb₀.extBut b o (Nat.ne_of_lt (Heap.lt_size e)) (Heap.get?_push_of_some _ e))⟩
theorem codeC_loop {M : Model} {c : Code} (hq : c.quiet = true) (I : Nat → Shared → Prop)
    (turn : ∀ n s, I n s → wpC M (A.under c) (M.den c) (fun fin s' => match fin with
        | .done f => R (.ok f) s'
        | .again c' => (c' = c ∧ ∃ m, m < n ∧ I m s') ∨ (c'.quiet = true ∧ codeC M A c' R s')) (fun e s' => R (.error e) s') s)
    (n : Nat) (h : I n s) : codeC M A c R s := by
  induction n using Nat.strongRecOn generalizing s with
  | ind n ih =>
    refine codeC_of_tree (wpC_mono (turn n s h) (fun fin s' hf => ?_) fun _ _ h' => h')
    cases fin with
    | done f => exact hf
    | again c' =>
      rcases hf with ⟨rfl, m, hm, hI⟩ | hf
      · exact ⟨hq, ih m hm hI⟩
      · exact hf
theorem codeC_forLoop {target : PySem.Expr} {it : Value} {body : List Stmt} {env : Env} (I : Nat → Shared → Prop)
    (turn : ∀ n s, I n s → wpAny (model prog w) A (pyNext it) (fun r s₁ => match r with
      | none => R (.ok .next) s₁
      | some v => wpAny (model prog w) A (assign target env v) (fun _ s₂ => wpC (model prog w) A (execs body env) (fun f s₃ => match f with
          | .next | .cont => ∃ m, m < n ∧ I m s₃
          | .brk => R (.ok .next) s₃
          | .ret v => R (.ok (.ret v)) s₃) (fun _ _ => False) s₂) (fun _ _ => False) s₁) (fun _ _ => False) s)
    (n : Nat) (h : I n s) (ht : ∀ v, letOwnedTupleGo target it v = pure () := by intro _; rfl) : codeC (model prog w) A (.forLoop target it body [] env) R s := by
  refine codeC_loop rfl I (fun n s hI => ?_) n h
  show wpC _ _ ((forTurn target it body [] env).onRaise (fun x => do noteFrame x env; theTreesLotGoes x)) _ _ s
  refine wpC_onRaise (wpC_mono (Q := _) (E := fun _ _ => False) ?_ (fun _ _ q => q) fun _ _ x => x.elim)
  simp only [forTurn]
  refine wpC_bind (wpC_any (wpAny_standAt (wpC_bind (wpC_onRaise (wpC_any (wpAny_mono (turn n s hI) (fun r s₁ h₁ => ?_) fun _ _ h' => h'.elim))))))
  cases r with
  | none => exact wpC_pure (.inr ⟨rfl, codeC_any (codeAny_block (wpAny_execs_nil h₁))⟩)
  | some v =>
    refine wpC_bind (wpC_any (wpAny_of_eq (ht v) ?_))
    refine wpC_bind (wpC_any (wpAny_mono h₁ (fun _ s₂ h₂ => wpC_bind (wpC_mono h₂ (fun f s₃ h₃ => ?_) fun _ _ h' => h'.elim)) fun _ _ h' => h'.elim))
    cases f with
    | next => exact wpC_pure (.inl ⟨rfl, h₃⟩)
    | cont => exact wpC_pure (.inl ⟨rfl, h₃⟩)
    | brk => exact wpC_pure h₃
    | ret v => exact wpC_pure h₃
theorem wpC_For {target iter : PySem.Expr} {body : List Stmt} {pos : Pos} {env : Env} {Q : Flow → Shared → Prop}
    (h : wpAny (model prog w) A (eval iter env) (fun x s₁ => wpAny (model prog w) A (pyIter x) (fun it s₂ =>
      codeC (model prog w) A (.forLoop target it body [] env) (fun r s' => match r with | .ok f => Q f s' | .error _ => False) s₂) E s₁) E s)
    (hs : ∀ x, foldedSetIterable iter env x = pure x := by intro _; rfl) : wpC (model prog w) A (exec (.For target iter body [] pos) env) Q E s := by
  rw [exec_For]
  refine wpC_bind (wpC_any (wpAny_standAt (wpC_bind (wpC_any (wpAny_mono h (fun x s₁ h₁ => wpC_bind (wpC_any (wpAny_of_eq (hs x) (wpC_bind (wpC_any (wpAny_standAt (wpC_bind (wpC_any (wpAny_holding
    (wpAny_mono h₁ (fun it s₂ h₂ => wpC_runOwn (codeC_mono h₂ fun r s' hr => ?_)) fun _ _ h' => h')))))))))) fun _ _ h' => h')))))
  cases r with
  | ok f => exact hr
  | error e => exact hr.elim
end
end Mine
end
/-! ## MInt -/
section
open PySem PySem.W PySem.Calls PySem.NumText PyProof.Rows
set_option maxRecDepth 100000
namespace Mine
theorem int_from_text (x : Str) (u : Tok) : (int_private% "intFromObject") (.str x u) = (int_private% "intFromText") (.str x u) (numTextOf x) 10 := by
  have f3 := KIN.str_int
  have f4 := KIN.str_idx
  have f5 := KIN.str_trunc
  show ((typeLookup (.type "str") "__int__" >>= _) >>= _) = _
  rw [f3]
  show (typeLookup (.type "str") "__index__" >>= _) = _
  rw [f4]
  show (typeLookup (.type "str") "__trunc__" >>= _) = _
  rw [f5]
  rfl
theorem int_new_text (x : Str) (u : Tok) : Builtin.«int.__new__» ⟨[.type "int", .str x u], []⟩ = ((int_private% "intFromText") (.str x u) (numTextOf x) 10 >>= fun v => ret v) := by
  have f1 := PySem.F.conv_sub_int
  have f2 := PySem.F.madeHere_int
  show (isSubtype (.type "int") (.type "int") >>= _) = _
  rw [f1]
  show (Bind.madeHere "int.__new__" (.type "int") >>= _) = _
  rw [f2]
  show ((int_private% "intFromObject") (.str x u) >>= _) = _
  rw [int_from_text]
  rfl
theorem pure_bind' {α β : Type} (a : α) (f : α → Sem β) : ((pure a : Sem α) >>= f) = f a := rfl
/-- what a text that is no numeral comes to -/
def refuse (x : Str) (u : Tok) : Sem Value := do
  rule "int.__new__.invalid-literal"
  let shown ← pyRepr (.str x u)
  let refusal ← newExc (.type "ValueError") [← mkStr (((s!"invalid literal for int() with base {10}: " : String) ++ ⟨shown.cps.extract 0 200⟩ : Str))]
  markTheRefusal ["int.__new__"] refusal
  raiseNew refusal
theorem int_text_bad {x : Str} {u : Tok} (hs : (numSeenOf x).length ≤ 640) (hr : (int_private% "readNumeral") 0 10 (numSeenOf x) = int_private% "Numeral.invalid") :
    (int_private% "intFromText") (.str x u) (numTextOf x) 10 = refuse x u := by
  show (if (numSeenOf x).length ≤ 640 then _ else _) = _
  rw [if_pos hs, pure_bind']
  dsimp only
  rw [hr]
  rfl
theorem mark_C {M : Model} {A : Around} {E : Value → Shared → Prop} {s : Shared} {own : List String} {e : Value} {Q : Unit → Shared → Prop} (h : Q () s) : wpC M A (markTheRefusal own e) Q E s := fun Γ p hΓ hC => by
  unfold markTheRefusal
  show Sem.wp M Γ (if pythonCodeMadeTheCall own (((Γ.code, p) :: Γ.below).map (·.1)) then _ else _) _ _ p s
  have hno : pythonCodeMadeTheCall own (((Γ.code, p) :: Γ.below).map (·.1)) = false := by
    unfold pythonCodeMadeTheCall
    show ((!(List.any (((Γ.code, p) :: Γ.below).map (·.1)) Code.isCaller) && _) && _) = false
    rw [show List.any (((Γ.code, p) :: Γ.below).map (·.1)) Code.isCaller = true from hC]
    rfl
  rw [hno]
  exact h
section
variable {prog : Program} {w : World} {A : Around} {E : Value → Shared → Prop} {s : Shared}
theorem refuse_C {x : Str} {u : Tok} {Q : Value → Shared → Prop} (hA : A.handled = none) (hr : (reprText x).length ≤ sizeLine) (h : ∀ h' tk e, Heap.NewExc s.heap h' e "ValueError" → E (.ref e) { s with heap := h', toks := tk }) :
    wpC (model prog w) A (refuse x u) Q E s := by
  unfold refuse
  refine wpC_bind (wpC_any (wpAny_rule (wpC_bind (wpC_any (wpAny_pyRepr_str ?_ hr)))))
  refine wpC_bind (wpC_any (wpAny_mkStr ?_ ?_))
  · refine wpC_bind (wpC_any ?_)
    unfold newExc newTuple
    refine wpAny_bind (wpAny_newObj_type ?_)
    have hp : PlainExc "ValueError" := plainExc_ValueError
    refine wpAny_bind (m := firstArgMember _ _) (wpAny_of_eq (a := Value.none) (by simp only [firstArgMember, hp.first]; rfl) ?_)
    rw [hp.own]
    refine wpAny_newObj_type ?_
    refine wpC_bind (mark_C ?_)
    unfold raiseNew
    refine wpC_bind (wpC_any (wpAny_handled ?_))
    rw [hA]
    refine wpC_any ?_
    first
      | refine wpAny_throw ?_
      | refine wpAny_bind (wpAny_pure (wpAny_throw ?_))
    exact h _ _ _ ⟨fun b o hb => Heap.get?_push_of_some _ (Heap.get?_push_of_some _ hb), Heap.get?_none_of_le (by simp), _, .ref s.heap.objs.size, Heap.get?_push_size _ rfl, rfl, by simp⟩
  · rw [Str.length_append, sizeLine_eq]
    have h1 : (Str.ofString (s!"invalid literal for int() with base {10}: ")).length ≤ 100 := by decide +kernel
    have h2 : (⟨(reprText x).cps.extract 0 200⟩ : Str).length ≤ 200 := by
      show ((reprText x).cps.extract 0 200).size ≤ 200
      simp; omega
    omega
theorem codeC_builtin {R : Result → Shared → Prop} {id : String} {args : Args} {b : Builtin} (hb : entryFor table id = some b)
    (h : wpC (model prog w) (A.under (.builtin id args)) (b args) (fun fin s' => match fin with | .done f => R (.ok f) s' | .again c' => c'.quiet = true ∧ codeC (model prog w) A c' R s') (fun e s' => R (.error e) s') s) :
    codeC (model prog w) A (.builtin id args) R s := by
  refine codeC_of_tree ?_
  show wpC _ _ (match entryFor table id with | some b => b args | none => unsupported ((withoutEnding? id "#data").getD id)) _ _ s
  rw [hb]; exact h
theorem type_call_int (v : Value) : ∃ K, Builtin.«type.__call__» ⟨[.type "int", v], []⟩ = (holding [.builtin "int.__new__"] (call (.builtin "int.__new__") [.type "int", v]) >>= K) := by
  obtain ⟨c, tl, hmro⟩ := PySem.F.called_int.mro
  have hmade := PySem.F.called_int.made
  have h2 := PySem.F.called_int.canCreate
  have h1 := PySem.F.called_int.notType
  have h3 := PySem.F.typeCall_int_1 v
  apply Exists.intro
  unfold Builtin.«type.__call__»
  simp only [h1, h2, h3, hmro, hmade, pure_bind', Bool.false_eq_true, if_false, List.isEmpty_cons]
  rfl
/-- int() of a text that is no numeral, under the claim's caller -/
theorem int_badC {x : Str} {u : Tok} {Q : Value → Shared → Prop} (hn : digits? 10 (core (numSeenOf x)) = none) (hl : x.length ≤ 640) (hA : A.handled = none) (hr : (reprText x).length ≤ sizeLine)
    (h : ∀ h' tk e, Heap.NewExc s.heap h' e "ValueError" → E (.ref e) { s with heap := h', toks := tk }) : wpC (model prog w) A (call (.type "int") [.str x u]) Q E s := by
  have hs : (numSeenOf x).length ≤ 640 := Nat.le_trans (seen_length x) hl
  have hb : (int_private% "readNumeral") 0 10 (numSeenOf x) = int_private% "Numeral.invalid" := by
    rw [readNumeral_ten, hn]; rfl
  refine wpC_call (codeC_of_tree (wpC_any ?_))
  show wpAny _ _ (callAny (.type "int") _) _ _ _
  refine wpAny_pure ⟨Code.quiet_builtin _ (by decide +kernel), codeC_builtin F.entry_type_call ?_⟩
  rw [Around.under_plain (weight_type_call_type "int" _ []) rfl]
  obtain ⟨K, e⟩ := type_call_int (.str x u)
  rw [e]
  refine wpC_bind (wpC_holding (wpC_call ?_))
  refine codeC_of_tree (wpC_any ?_)
  show wpAny _ _ (do checkBuiltinCall "int.__new__" ⟨[.type "int", .str x u], []⟩; again (.builtin "int.__new__" ⟨[.type "int", .str x u], []⟩)) _ _ s
  refine wpAny_bind (wpAny_of_eq (PySem.F.newCall_int_1 _) (wpAny_pure ⟨plainId_quiet (by decide +kernel) _, codeC_builtin PySem.F.entry_int_new ?_⟩))
  rw [Around.under_plainId (by decide +kernel) _, int_new_text, int_text_bad hs hb]
  exact wpC_bind (refuse_C hA hr h)
end
end Mine
end
/-! ## MTop -/
section
open PySem PySem.W PyProof.Rows
namespace Mine
set_option maxRecDepth 100000 in
set_option maxHeartbeats 8000000 in
open_top hd for PySem.Challenge.rw_mr0107_01
end Mine
end
/-! ## MBase -/
section
open PySem PySem.W PyProof.Rows
namespace Mine
noncomputable section
abbrev Led := List (Addr × Obj)
abbrev PR : Program := PySem.Challenge.rw_mr0107_01.row.prog
/-- what a call of the def at f with the arguments vs, upon the ledger news, gives: some outcome o that Out tells -/
def Ctr {σ : Type} (w : World) (mean : ExcName → Option Value) (mg mb : Str → Option Value) (f : Addr) (dep : Nat) (news : Led) (vs : List Value)
    (Out : σ → Prop) (ret : σ → Value) (led : σ → Led) : Prop :=
  ∀ (dp un : Nat) (gd : Option (List Code)) (cn : Str) (cs : Scope) (a : Addr) (ccd : Value) (cl : List (Str × Addr)) (outer : List Env) (A₀ : Around) (base h₀ : Heap) (L : Addr) (m : Str → Option Value) (s : Shared) (Q E : Value → Shared → Prop),
    Below A₀ base outer h₀ → Fr h₀ L s.heap m → (hd.heap_39 w.params).In h₀ → News h₀ L s.heap news → Top hd.view_39 (looseW hd.view_39 []) mean mg mb h₀ → cs.kind = .function →
    dp + dep < recursionLimit → un + 8 * dep < cLine →
    (∀ o h' tk', Out o → Fr h₀ L h' m → News h₀ L h' (led o) → Q (ret o) { s with heap := h', toks := tk' }) →
    wpAny (model PR w) (ktrTop dp un gd cn cs L a ccd cl outer) (call (.ref f) vs) Q E s
theorem fill : PySem.Challenge.rw_mr0107_01 = PySem.Challenge.rw_mr0107_01 ∧ hd.heap_39 = hd.heap_39 := by
  k_fill
  w_top off
  exact ⟨rfl, rfl⟩
/-- two values are compared by lt -/
def CmpOk (w : World) (rest : Led) (lt : Value → Value → Bool) (S : Value → Prop) : Prop :=
  ∀ v u, S v → S u → ∀ (A : Around) (h₀ : Heap) (L : Addr) (m : Str → Option Value) (s : Shared) (Q E : Value → Shared → Prop),
    A.units < cLine → Fr h₀ L s.heap m → News h₀ L s.heap rest → (∀ tk, Q (.bool (lt v u)) { s with toks := tk }) → wpAny (model PR w) A (compareOp .Lt v u) Q E s
section
variable {α : Type} (lt : α → α → Bool)
def sdGo (x : α) (xs : List α) (pos : Nat) : List α :=
  if 0 < pos then
    match xs[(pos - 1) / 2]? with
    | some parent => if lt x parent then sdGo x (xs.set pos parent) ((pos - 1) / 2) else xs.set pos x
    | none => xs.set pos x
  else xs.set pos x
termination_by pos
decreasing_by omega
end
end
end Mine
end
/-! ## MRules -/
section
open PySem PySem.W PyProof.Rows
namespace Mine
/-- the walk halts here -/
def halt {α : Type} (t : Sem α) : Sem α := t
theorem halt_in {α : Type} {M : Model} {A : Around} {t : Sem α} {Q : α → Shared → Prop} {E : Value → Shared → Prop} {s : Shared} (h : wpAny M A (halt t) Q E s) : wpAny M A t Q E s := h
theorem halt_sub {M : Model} {A : Around} {x y : PySem.Expr} {D : Addr} {k : Value} {Q : Value → Shared → Prop} {E : Value → Shared → Prop} {s : Shared} (h : wpAny M A (halt (subscriptTail x y (.ref D) k)) Q E s) : wpAny M A (subscriptTail x y (.ref D) k) Q E s := h
theorem halt_f {M : Model} {A : Around} (f : Addr) {vs : List Value} {Q : Value → Shared → Prop} {E : Value → Shared → Prop} {s : Shared} (h : wpAny M A (halt (call (.ref f) vs)) Q E s) : wpAny M A (call (.ref f) vs) Q E s := h
theorem go {α : Type} {M : Model} {A : Around} {t : Sem α} {Q : α → Shared → Prop} {E : Value → Shared → Prop} {s : Shared} (h : wpAny M A t Q E s) : wpAny M A (halt t) Q E s := h
section
variable {prog : Program} {w : World} {A : Around} {E : Value → Shared → Prop} {s : Shared} {h₀ : Heap} {L D : Addr} {m : Str → Option Value} {news news' : Led} {xs : List Value} {n : Nat}
theorem setL_of {v : Value} : ∀ {l : List Value} {k : Nat}, k < l.length → ki_setL l k v = some (l.set k v)
  | [], _, h => absurd h (Nat.not_lt_zero _)
  | a :: l, 0, _ => rfl
  | a :: l, k + 1, h => by
    have := setL_of (v := v) (l := l) (k := k) (by simpa using h)
    simp [ki_setL, this]
theorem m_set {k : Int} {pos : Nat} {t : Tok} {v : Value} {Q : Unit → Shared → Prop} (F : Fr h₀ L s.heap m) (N : News h₀ L s.heap news) (U : Upd D (listOf xs.toArray n) (listOf (xs.set pos v).toArray n) news news')
    (hk : k = (pos : Int)) (hp : pos < xs.length) (hb : xs.length ≤ 1000) (h : ∀ h', Fr h₀ L h' m → News h₀ L h' news' → Q () { s with heap := h' }) : wpAny (model prog w) A (setItem (.ref D) (.int k t) v) Q E s := by
  subst hk
  exact ki_set (q := xs.set pos v) F N (by omega) (by omega) (setL_of hp) U h
theorem m_item {value slice : PySem.Expr} {k : Int} {pos : Nat} {u : Tok} {x : Value} {Q : Value → Shared → Prop} (N : News h₀ L s.heap news) (hm : (D, listOf xs.toArray n) ∈ news) (hk : k = (pos : Int)) (hb : xs.length ≤ 1000) (hx : xs[pos]? = some x) (h : Q x s)
    (hs : subscripted slice false (.ref D) (.int k u) = operate [.ref D, .int k u] (getItem (.ref D) (.int k u)) := by with_unfolding_all rfl) (hg : ∀ r, letTemporaryGo value (.ref D) r = pure () := by intro _; with_unfolding_all rfl) :
    wpAny (model prog w) A (subscriptTail value slice (.ref D) (.int k u)) Q E s := by
  subst hk
  have hl : pos < xs.length := (List.getElem?_eq_some_iff.mp hx).1
  exact kim_list (l := xs) N hm rfl rfl (by omega) (by omega) hx h hs hg
theorem m_len {Q : Value → Shared → Prop} (N : News h₀ L s.heap news) (hm : (D, listOf xs.toArray n) ∈ news) (hb : xs.length ≤ 1000)
    (h : Q (.int (xs.length : Int) (s.toks + 1)) { s with toks := s.toks + 1 + 1 }) : wpAny (model prog w) A (call (.builtin "len") [.ref D]) Q E s :=
  kst_len N hm rfl (by omega) h
theorem m_truthy {Q : Bool → Shared → Prop} (N : News h₀ L s.heap news) (hm : (D, listOf xs.toArray n) ∈ news) (hb : xs.length ≤ 1000)
    (h : Q (decide (0 < xs.length)) { s with toks := s.toks + 1 + 1 }) : wpAny (model prog w) A (truthy (.ref D)) Q E s := by
  have hl : s.heap.IsList D xs.toArray := ⟨_, (N _ hm).1, rfl, n, rfl⟩
  refine wpAny_truthy_list hl (by rw [List.size_toArray]; omega) ?_
  have e : (!xs.toArray.isEmpty) = decide (0 < xs.length) := by cases xs <;> simp
  rw [e]; exact h
theorem m_append {x : Value} {Q : Value → Shared → Prop} (F : Fr h₀ L s.heap m) (N : News h₀ L s.heap news) (U : Upd D (listOf xs.toArray n) (listOf (xs ++ [x]).toArray (n + 1)) news news') (hb : xs.length ≤ 1000)
    (h : ∀ h', Fr h₀ L h' m → News h₀ L h' news' → Q .none { s with heap := h' }) : wpAny (model prog w) A (call (.builtin "list.append") [.ref D, x]) Q E s := by
  refine append_K (its := xs.toArray) (n := n) F N ?_ h (by rw [sizeLine_eq, List.size_toArray]; omega)
  rw [List.push_toArray]; exact U
theorem last_of {y : Value} : ∀ {p : List Value}, kl_last (p ++ [y]) = some (p, y) := kpa_last y _
theorem m_pop {ys : List Value} {y : Value} {Q : Value → Shared → Prop} (F : Fr h₀ L s.heap m) (N : News h₀ L s.heap news) (e : xs = ys ++ [y]) (U : Upd D (listOf xs.toArray n) (listOf ys.toArray (n + 1)) news news') (hb : xs.length ≤ 1000)
    (h : ∀ h', Fr h₀ L h' m → News h₀ L h' news' → Q y { s with heap := h' }) : wpAny (model prog w) A (call (.builtin "list.pop") [.ref D]) Q E s := by
  refine kl_pop (its := xs.toArray) F N ?_ U (by rw [sizeLine_eq]; show xs.length ≤ _; omega) h
  show kl_last xs = _
  rw [e]; exact last_of
/-- a turn's end: some new state of the loop -/
def MEnd {σ : Type} (h₀ : Heap) (L : Addr) (s : Shared) (Led : σ → List (Addr × Obj)) (ps : σ → List (Str × Value)) (stored : List Str) (m₀ : Str → Option Value) (P : σ → Prop) (μ : σ → Nat) (c : σ) (s₂ : Shared) : Prop :=
  KswEnd h₀ L s Led ps (fun _ => True) stored m₀ P μ c s₂
def MPost {σ : Type} (h₀ : Heap) (L : Addr) (s : Shared) (Led : σ → List (Addr × Obj)) (ps : σ → List (Str × Value)) (stored : List Str) (m₀ : Str → Option Value) (P : σ → Prop) (μ : σ → Nat) (Q : Flow → Shared → Prop) (c : σ) (f : Flow) (s₂ : Shared) : Prop :=
  match f with
  | .ret v => Q (.ret v) s₂
  | .brk => Q .next s₂
  | _ => MEnd h₀ L s Led ps stored m₀ P μ c s₂
theorem m_while {E : Value → Shared → Prop} {Q : Flow → Shared → Prop} {env : Env} {σ : Type} {test : PySem.Expr} {body : List Stmt} {pos : Pos} {m₀ : Str → Option Value} (Led : σ → List (Addr × Obj)) (ps : σ → List (Str × Value)) (stored : List Str) (P : σ → Prop) (μ : σ → Nat)
    (F : Fr h₀ L s.heap m₀) (init : ∃ c₀, News h₀ L s.heap (Led c₀) ∧ (∀ p ∈ ps c₀, m₀ p.1 = some p.2) ∧ P c₀)
    (turn : ∀ (c : σ) (u : Str → Option Value) h tk, P c → Fr h₀ L h (kstB (fun z => if stored.contains z then u z else m₀ z) (ps c)) → News h₀ L h (Led c) →
      wpAny (model prog w) A (isTrue test env (eval test env)) (fun b s₂ =>
        if b = true then wpAny (model prog w) A (execs body env) (MPost h₀ L s Led ps stored m₀ P μ Q c) E s₂ else Q .next s₂) E { s with heap := h, toks := tk })
    (hE : PassesOwn (model prog w) A env E := by passes_own) :
    wpAny (model prog w) A (exec (.While test body [] pos) env) Q E s := by
  obtain ⟨c₀, N, hk, hp⟩ := init
  refine ksw_while Led ps (fun _ => True) stored P μ c₀ F N trivial hk hp (fun c u h tk _ hc F N => ?_) hE
  refine wpAny_mono (turn c u h tk hc F N) (fun b s₂ q => ?_) fun _ _ x => x
  cases b with
  | false => exact q
  | true =>
    simp only [if_true] at q ⊢
    exact wpAny_mono q (fun f s₃ q => by cases f <;> exact q) fun _ _ x => x
theorem m_end {σ : Type} {Led : σ → List (Addr × Obj)} {ps : σ → List (Str × Value)} {stored : List Str} {m₀ m' : Str → Option Value} {P : σ → Prop} {μ : σ → Nat} {c : σ} {h' : Heap} {tk : Nat} {news' : List (Addr × Obj)}
    (F : Fr h₀ L h' m') (N : News h₀ L h' news') (nms : List Str) (hnm : ∀ c, (ps c).map (·.1) = nms) (same : ∀ z, z ∉ nms → stored.contains z = false → m' z = m₀ z)
    (k : ∃ c', (∀ p ∈ Led c', p ∈ news') ∧ (∀ p ∈ ps c', m' p.1 = some p.2) ∧ P c' ∧ μ c' < μ c) : MEnd h₀ L s Led ps stored m₀ P μ c { s with heap := h', toks := tk } := by
  obtain ⟨c', h1, h2, h3, h4⟩ := k
  refine ksw_end c' F N h1 trivial h2 (fun z hz hs => same z (fun hm => ?_) hs) h3 h4
  rw [← hnm c'] at hm
  obtain ⟨p, hp, rfl⟩ := List.mem_map.mp hm
  exact hz p hp rfl
theorem up1 (L : Nat) : L + 1 ≠ L + 1 + 1 := by omega
theorem up2 (L : Nat) : L + 1 + 1 ≠ L + 1 + 1 + 1 := by omega
theorem up3 (L : Nat) : L + 1 ≠ L + 1 + 1 + 1 := by omega
theorem up4 (L : Nat) : L + 1 + 1 ≠ L + 1 := by omega
theorem all1 {α : Type} {P : α → Prop} {a : α} (h : P a) : ∀ x ∈ [a], P x := List.forall_mem_cons.mpr ⟨h, List.forall_mem_nil _⟩
theorem all2 {α : Type} {P : α → Prop} {a b : α} (h : P a) (h2 : P b) : ∀ x ∈ [a, b], P x := List.forall_mem_cons.mpr ⟨h, all1 h2⟩
theorem all3 {α : Type} {P : α → Prop} {a b c : α} (h : P a) (h2 : P b) (h3 : P c) : ∀ x ∈ [a, b, c], P x := List.forall_mem_cons.mpr ⟨h, all2 h2 h3⟩
theorem news_tail {h₀ h : Heap} {L : Addr} {p : Addr × Obj} {news : Led} (N : News h₀ L h (p :: news)) : News h₀ L h news := fun q hq => N q (.tail _ hq)
theorem fr_kst {h₀ h : Heap} {L : Addr} {m : Str → Option Value} (F : Fr h₀ L h m) (ps : List (Str × Value)) (hk : ∀ p ∈ ps, m p.1 = some p.2) : Fr h₀ L h (kstB m ps) := by
  have e : kstB m ps = m := funext fun z => kstB_eq hk fun _ => rfl
  rw [e]; exact F
/-- what a statement leaves, said once for all its ways -/
theorem mid {M : Model} {A : Around} {E : Value → Shared → Prop} {s : Shared} {h₀ h : Heap} {L : Addr} {m : Str → Option Value} {t : Sem Flow} {Q : Flow → Shared → Prop} (_F : Fr h₀ L h m) (I : (Str → Option Value) → Shared → Prop) (h1 : ∀ Q' : Flow → Shared → Prop, (∀ s', I m s' → Q' .next s') → (∀ v s', Q (.ret v) s' → Q' (.ret v) s') → wpAny M A t Q' E s)
    (hr : ∀ s', I m s' → Q .next s') : wpAny M A t Q E s :=
  wpAny_mono (h1 (fun f s' => match f with | .next => I m s' | f => Q f s') (fun _ x => x) fun _ _ x => x) (fun f s' q => by cases f with | next => exact hr s' q | brk => exact q | cont => exact q | ret v => exact q) fun _ _ x => x
end
end Mine
end
section
open PySem PySem.W PyProof.Rows
namespace Mine
local macro_rules | `(tactic| walk_at $x:str) => if ["exec If BoolOp", "exec While Compare cons nil", "call ref", "subscriptTail Name Name ref int", "subscriptTail Name Constant ref int", "setItem ref int", "call builtin:list.pop", "call builtin:len", "truthy ref", "call builtin:list.append"].contains x.getString then `(tactic| refine halt_in ?_) else Lean.Macro.throwUnsupported
local macro_rules | `(tactic| walk_at "MPost") => `(tactic| dsimp only [MPost])
local macro_rules | `(tactic| k_all) => `(tactic| assumption)
/-! ## MHeap -/
section
open PySem PySem.W PyProof.Rows
set_option maxRecDepth 100000
theorem fill2 : PySem.Challenge.rw_mr0107_01 = PySem.Challenge.rw_mr0107_01 ∧ hd.heap_39 = hd.heap_39 := by
  k_fill
  w_top off
  exact ⟨rfl, rfl⟩
theorem half_at {p : Nat} (h : 0 < p) : ((p : Int) - 1).fdiv (2 ^ Int.toNat 1) = (((p - 1) / 2 : Nat) : Int) := by
  show ((p : Int) - 1).fdiv 2 = _
  rw [Int.fdiv_eq_ediv_of_nonneg _ (by first | exact Int.sub_nonneg_of_le (Int.ofNat_le.mpr h) | (trace "OMEGA"; omega))]
  first | (rw [Int.natCast_ediv, Int.ofNat_sub h]; rfl) | (trace "OMEGA"; omega)
theorem sdGo_zero {α : Type} {lt : α → α → Bool} {x : α} {xs : List α} {p : Nat} (h : ¬ 0 < p) : sdGo lt x xs p = xs.set p x := by
  unfold sdGo; rw [if_neg h]
theorem sdGo_stop {α : Type} {lt : α → α → Bool} {x par : α} {xs : List α} {p : Nat} (h : 0 < p) (hp : xs[(p - 1) / 2]? = some par) (hl : lt x par = false) : sdGo lt x xs p = xs.set p x := by
  unfold sdGo; rw [if_pos h, hp]; simp [hl]
theorem sdGo_go {α : Type} {lt : α → α → Bool} {x par : α} {xs : List α} {p : Nat} (h : 0 < p) (hp : xs[(p - 1) / 2]? = some par) (hl : lt x par = true) : sdGo lt x xs p = sdGo lt x (xs.set p par) ((p - 1) / 2) := by
  conv => lhs; unfold sdGo
  rw [if_pos h, hp]; simp [hl]
set_option maxHeartbeats 2000000 in
theorem siftdown_ctr (w : World) (mean : ExcName → Option Value) (mg mb : Str → Option Value) (lt : Value → Value → Bool) (D : Addr) (xs : List Value) (n : Nat) (rest : Led) (pos : Nat) (x : Value) (t1 t2 : Tok)
    (hoff : ∀ p ∈ rest, p.1 ≠ D) (hcmp : CmpOk w rest lt (· ∈ xs)) (hx : xs[pos]? = some x) (hlen : xs.length ≤ 1000) :
    Ctr (σ := Unit) w mean mg mb 42 1 ((D, listOf xs.toArray n) :: rest) [.ref D, .int 0 t1, .int pos t2] (fun _ => True) (fun _ => .none) (fun _ => (D, listOf (sdGo lt x xs pos).toArray n) :: rest) := by
  intro dp un gd cn cs a ccd cl outer A₀ base h₀ L m s Q E B F X N T hk hd hu hret
  refine wpAny_call ?_
  k_dflt cell_enter
  have hxm : x ∈ xs := List.mem_of_getElem? hx
  k_steps
  refine go (m_item (by k_asm) (by k_mem) rfl hlen hx ?_)
  k_steps
  refine go (m_while (σ := List Value × Nat × Tok) (fun c => (D, listOf c.1.toArray n) :: rest) (fun c => [(Str.ofString "pos", .int c.2.1 c.2.2)]) [Str.ofString "parentpos", Str.ofString "parent"]
      (fun c => sdGo lt x c.1 c.2.1 = sdGo lt x xs pos ∧ c.2.1 < c.1.length ∧ c.1.length = xs.length ∧ ∀ v ∈ c.1, v ∈ xs) (fun c => c.2.1) (by k_asm) ⟨(xs, pos, _), by k_asm, all1 rfl, rfl, (List.getElem?_eq_some_iff.mp hx).1, rfl, fun _ h => h⟩ ?_)
  rintro ⟨ys, p, tp⟩ kU kH kTk ⟨hP1, hP2, hP3, hP4⟩ kFr kNews
  dsimp only at hP1 hP2 hP3 hP4 kFr kNews ⊢
  k_steps
  · rename_i hp0 _ _ _
    have hp1 : (p - 1) / 2 < ys.length := by first | exact Nat.lt_trans (hf0 (Int.ofNat_lt.mp hp0)) hP2 | (trace "OMEGA"; omega)
    have hpar := List.getElem?_eq_getElem hp1
    generalize ys[(p-1)/2]'hp1 = par at hpar
    refine go (m_item (by k_asm) (by k_mem) (half_at (by first | exact Int.ofNat_lt.mp hp0 | (trace "OMEGA"; omega))) (by first | exact Nat.le_trans (Nat.le_of_eq hP3) hlen | (trace "OMEGA"; omega)) hpar ?_)
    k_steps
    have hparm : par ∈ xs := hP4 _ (List.mem_of_getElem? hpar)
    refine hcmp _ _ hxm hparm _ _ _ _ _ _ _ (by first | exact room hu 0 (by decide) | exact room hu 3 (by decide) | exact room hu 8 (by decide) | exact room hu 11 (by decide) | exact room hu 16 (by decide) | exact room hu 19 (by decide) | exact room hu 24 (by decide) | exact room hu 27 (by decide) | exact room hu 32 (by decide) | exact room hu 35 (by decide) | exact room hu 6 (by decide) | exact room hu 14 (by decide) | exact room hu 22 (by decide) | exact room hu 4 (by decide) | exact room hu 12 (by decide) | exact room hu 1 (by decide) | exact room hu 7 (by decide) | exact room hu 9 (by decide) | exact room hu 40 (by decide) | exact room hu 43 (by decide) | (trace "KTRUNITS"; ktr_units)) (by k_asm) (news_tail (by k_asm)) ?_
    intro tk9
    k_steps
    · rename_i hlt
      refine go (m_set (by k_asm) (by k_asm) (.head hoff) rfl (by first | exact hP2 | (trace "OMEGA"; omega)) (by first | exact Nat.le_trans (Nat.le_of_eq hP3) hlen | (trace "OMEGA"; omega)) ?_)
      intro h9 F9 N9
      k_steps
      have hpl := (List.getElem?_eq_some_iff.mp hpar).1
      rename Fr _ _ _ _ => lF
      rename News _ _ _ _ => lN
      refine m_end lF lN [Str.ofString "pos"] (fun _ => rfl) (by (intro z h2 h3; (simp only [List.mem_cons, List.not_mem_nil, or_false, not_or] at h2); (simp only [List.contains_cons, List.contains_nil, Bool.or_false, Bool.or_eq_false_iff, beq_eq_false_iff_ne, ne_eq] at h3); (simp [kstB, h2, h3]; done))) ⟨(ys.set p par, (p - 1) / 2, _), fun _ h => h, all1 (congrArg (fun i => some (Value.int i _)) (half_at (by first | exact Int.ofNat_lt.mp hp0 | (trace "OMEGA"; omega)))), ⟨?_, ?_, ?_, ?_⟩, ?_⟩
      · rw [← hP1, sdGo_go (by first | exact Int.ofNat_lt.mp hp0 | (trace "OMEGA"; omega)) hpar hlt]
      · simpa using hpl
      · simpa using hP3
      · intro v hv
        rcases List.mem_or_eq_of_mem_set hv with h | rfl
        · exact hP4 _ h
        · exact hparm
      · show (p - 1) / 2 < p
        first | exact hf0 (Int.ofNat_lt.mp hp0) | (trace "OMEGA"; omega)
    · rename_i hlt
      refine go (m_set (by k_asm) (by k_asm) (.head hoff) rfl (by first | exact hP2 | (trace "OMEGA"; omega)) (by first | exact Nat.le_trans (Nat.le_of_eq hP3) hlen | (trace "OMEGA"; omega)) ?_)
      intro h9 F9 N9
      k_steps
      refine hret () _ _ trivial (by k_asm) ?_
      rw [← hP1, sdGo_stop (by first | exact Int.ofNat_lt.mp hp0 | (trace "OMEGA"; omega)) hpar (by simpa using hlt)]
      k_asm
  · refine go (m_set (by k_asm) (by k_asm) (.head hoff) rfl (by first | exact hP2 | (trace "OMEGA"; omega)) (by first | exact Nat.le_trans (Nat.le_of_eq hP3) hlen | (trace "OMEGA"; omega)) ?_)
    intro h9 F9 N9
    k_steps
    refine hret () _ _ trivial (by k_asm) ?_
    rw [← hP1, sdGo_zero (fun q => by first | exact absurd (Int.ofNat_lt.mpr q) (by assumption) | (trace "OMEGA"; omega))]
    k_asm
end
/-! ## MSup -/
section
open PySem PySem.W PyProof.Rows
set_option maxRecDepth 100000
theorem fill3 : PySem.Challenge.rw_mr0107_01 = PySem.Challenge.rw_mr0107_01 ∧ hd.heap_39 = hd.heap_39 := by
  k_fill
  w_top off
  exact ⟨rfl, rfl⟩
section
variable {α : Type} (lt : α → α → Bool)
/-- the child that goes up -/
def suCh (xs : List α) (pos : Nat) : Nat :=
  if 2 * pos + 2 < xs.length then
    match xs[2 * pos + 1]?, xs[2 * pos + 2]? with
    | some a, some b => if lt a b then 2 * pos + 1 else 2 * pos + 2
    | _, _ => 2 * pos + 1
  else 2 * pos + 1
theorem su1 (p : Nat) : p < 2 * p + 1 := Nat.lt_succ_of_le (Nat.le_mul_of_pos_left p Nat.two_pos)
theorem su2 (p : Nat) : p < 2 * p + 2 := Nat.lt_succ_of_lt (su1 p)
theorem suCh_gt (xs : List α) (pos : Nat) : pos < suCh lt xs pos := by
  unfold suCh
  split
  · split
    · split <;> first | exact su1 _ | exact su2 _
    · exact su1 _
  · exact su1 _
theorem suCh_lt {xs : List α} {pos : Nat} (h : 2 * pos + 1 < xs.length) : suCh lt xs pos < xs.length := by
  unfold suCh
  split
  · split
    · split <;> assumption
    · exact h
  · exact h
def suGo (xs : List α) (pos : Nat) : List α × Nat :=
  if h : 2 * pos + 1 < xs.length then suGo (xs.set pos (xs[suCh lt xs pos]'(suCh_lt lt h))) (suCh lt xs pos) else (xs, pos)
termination_by xs.length - pos
decreasing_by
  have := suCh_gt lt xs pos
  have := suCh_lt lt h
  simp only [List.length_set]
  first | exact Nat.sub_lt_sub_left (Nat.lt_trans (suCh_gt lt xs pos) (suCh_lt lt h)) (suCh_gt lt xs pos) | (trace "OMEGA"; omega)
theorem suGo_go {xs : List α} {pos : Nat} {v : α} (h : 2 * pos + 1 < xs.length) (hv : xs[suCh lt xs pos]? = some v) : suGo lt xs pos = suGo lt (xs.set pos v) (suCh lt xs pos) := by
  obtain ⟨h1, h2⟩ := List.getElem?_eq_some_iff.mp hv
  rw [suGo, dif_pos h, h2]
theorem suGo_end {xs : List α} {pos : Nat} (h : ¬ 2 * pos + 1 < xs.length) : suGo lt xs pos = (xs, pos) := by
  rw [suGo, dif_neg h]
end
/-- what _siftup(heap, 0) leaves -/
def suAll {α : Type} (lt : α → α → Bool) (x : α) (xs : List α) : List α :=
  sdGo lt x ((suGo lt xs 0).1.set (suGo lt xs 0).2 x) (suGo lt xs 0).2
theorem su_step {α : Type} {lt : α → α → Bool} {xs ys : List α} {p c : Nat} {v : α} {R : Prop} (ec : suCh lt ys p = c) (hc : c < ys.length) (hv : ys[c]? = some v) (h1 : suGo lt ys p = suGo lt xs 0) (h3 : ys.length = xs.length) (h4 : ∀ v ∈ ys, v ∈ xs)
    (k : suGo lt (ys.set p v) c = suGo lt xs 0 → c < (ys.set p v).length → (ys.set p v).length = xs.length → (∀ u ∈ ys.set p v, u ∈ xs) → (ys.set p v).length - c < ys.length - p → R) : R := by
  have hg := suCh_gt lt ys p
  refine k ?_ (by simpa using hc) (by simpa using h3) ?_ (by simp only [List.length_set]; first | exact Nat.sub_lt_sub_left (Nat.lt_trans (ec ▸ hg) hc) (ec ▸ hg) | (trace "OMEGA"; omega))
  · by_cases h : 2 * p + 1 < ys.length
    · rw [← h1, suGo_go lt h (by rw [ec]; exact hv), ec]
    · exfalso
      have : suCh lt ys p = 2 * p + 1 := by unfold suCh; rw [if_neg (fun q => h (Nat.lt_of_succ_lt q))]
      first | exact h (by rw [← this, ec]; exact hc) | (trace "OMEGA"; omega)
  · intro u hu
    rcases List.mem_or_eq_of_mem_set hu with h | rfl
    · exact h4 _ h
    · exact h4 _ (List.mem_of_getElem? hv)
theorem CmpOk.sub {w : World} {rest : Led} {lt : Value → Value → Bool} {S S' : Value → Prop} (h : CmpOk w rest lt S) (hs : ∀ v, S' v → S v) : CmpOk w rest lt S' := fun v u hv hu => h v u (hs v hv) (hs u hu)
structure UpSt where
  (ys : List Value) (p : Nat) (tp tc : Tok)
theorem su_int (p : Nat) : 2 * (p : Int) + 1 + 1 = ((2 * p + 2 : Nat) : Int) := rfl
set_option maxHeartbeats 2000000 in
theorem siftup_ctr (w : World) (mean : ExcName → Option Value) (mg mb : Str → Option Value) (lt : Value → Value → Bool) (D : Addr) (xs : List Value) (n : Nat) (rest : Led) (x : Value) (t1 : Tok)
    (hoff : ∀ p ∈ rest, p.1 ≠ D) (hcmp : CmpOk w rest lt (· ∈ xs)) (hx : xs[0]? = some x) (hlen : xs.length ≤ 1000) :
    Ctr (σ := Unit) w mean mg mb 49 2 ((D, listOf xs.toArray n) :: rest) [.ref D, .int 0 t1] (fun _ => True) (fun _ => .none) (fun _ => (D, listOf (suAll lt x xs).toArray n) :: rest) := by
  intro dp un gd cn cs a ccd cl outer A₀ base h₀ L m s Q E B F X N T hk hd hu hret
  refine wpAny_call ?_
  k_dflt cell_enter
  rename_i g1 L1 h1 FG1 F1 N1 B1 X1 T1
  have hxm : x ∈ xs := List.mem_of_getElem? hx
  have hx0 : 0 < xs.length := (List.getElem?_eq_some_iff.mp hx).1
  k_steps
  refine go (m_len (by k_asm) (by k_mem) hlen ?_)
  k_steps
  refine go ?_
  refine m_item (pos := 0) (by k_asm) (by k_mem) rfl hlen hx ?_
  k_steps
  refine go ?_
  refine m_while (σ := UpSt) (fun c => (D, listOf c.ys.toArray n) :: rest) (fun c => [(Str.ofString "pos", .int c.p c.tp), (Str.ofString "childpos", .int (2 * c.p + 1) c.tc)]) [Str.ofString "rightpos"]
    (fun c => Al4 (suGo lt c.ys c.p = suGo lt xs 0) (c.p < c.ys.length) (c.ys.length = xs.length) (∀ v ∈ c.ys, v ∈ xs)) (fun c => c.ys.length - c.p) (by k_asm) ⟨⟨xs, 0, _, _⟩, by k_asm, all2 rfl rfl, ⟨rfl, hx0, rfl, fun _ h => h⟩⟩ ?_
  rintro ⟨ys, p, tp, tc⟩ kU kH kTk ⟨hP1, hP2, hP3, hP4⟩ kFr kNews
  dsimp only at hP1 hP2 hP3 hP4 kFr kNews ⊢
  have hl5 : ys.length ≤ 1000 := hP3 ▸ hlen
  k_steps
  · rename_i hc1 _ _ _
    have h1 : 2 * p + 1 < ys.length := by first | exact hP3 ▸ (Int.ofNat_lt.mp (show ((2 * p + 1 : Nat) : Int) < (xs.length : Nat) from hc1)) | (trace "OMEGA"; omega)
    clear hc1
    rename Fr _ _ _ _ => lF
    have ecs : (suCh lt ys p : Nat) = suCh lt ys p := rfl
    refine go (mid lF (fun m s' => Ex3 fun (h : Heap) (tk : Nat) (tz : Tok) => Al3 (s' = { s with heap := h, toks := tk }) (Fr g1 L1 h (kstB m [(Str.ofString "childpos", .int ((suCh lt ys p : Nat) : Int) tz)])) (News g1 L1 h ((D, listOf ys.toArray n) :: rest))) ?_ ?_)
    · intro Q1 hQ1 _
      refine wpAny_If ?_
      k_steps
      · rename_i hc2
        have h2 : 2 * p + 2 < ys.length := by first | exact hP3 ▸ (Int.ofNat_lt.mp (show ((2 * p + 2 : Nat) : Int) < (xs.length : Nat) from hc2)) | (trace "OMEGA"; omega)
        have e1 := List.getElem?_eq_getElem h1
        have e2 := List.getElem?_eq_getElem h2
        generalize ys[2 * p + 1]'h1 = va at e1
        generalize ys[2 * p + 2]'h2 = vb at e2
        refine go (m_item (pos := 2 * p + 1) (by k_asm) (by k_mem) rfl hl5 e1 ?_)
        k_steps
        refine go (m_item (pos := 2 * p + 2) (by k_asm) (by k_mem) (su_int p) hl5 e2 ?_)
        k_steps
        refine hcmp _ _ (hP4 _ (List.mem_of_getElem? e1)) (hP4 _ (List.mem_of_getElem? e2)) _ _ _ _ _ _ _ (room hu 3 (by decide)) (by k_asm) (news_tail (by k_asm)) ?_
        intro tk9
        k_steps
        · rename_i hlt
          have ec : suCh lt ys p = 2 * p + 1 := by unfold suCh; rw [if_pos h2, e1, e2]; simp [hlt]
          exact hQ1 _ ⟨_, _, _, rfl, fr_kst (by k_asm) _ (all1 (congrArg (fun i => some (Value.int i _)) (congrArg Nat.cast ec).symm)), by k_asm⟩
        · rename_i hlt _ _ _
          have ec : suCh lt ys p = 2 * p + 2 := by unfold suCh; rw [if_pos h2, e1, e2]; simp [hlt]
          rename Fr _ _ _ _ => zF
          rename News _ _ _ _ => zN
          refine' hQ1 _ ⟨_, _, ?tz, rfl, ?hF, zN⟩
          case hF =>
            rw [ec]
            exact zF
      · rename_i hc2
        have ec : suCh lt ys p = 2 * p + 1 := by unfold suCh; rw [if_neg (fun q => by first | exact hc2 (Int.ofNat_lt.mpr (hP3 ▸ q)) | (trace "OMEGA"; omega))]
        exact hQ1 _ ⟨_, _, _, rfl, fr_kst (by k_asm) _ (all1 (congrArg (fun i => some (Value.int i _)) (congrArg Nat.cast ec).symm)), by k_asm⟩
    · refine fun _ qa => Ex3.elim qa fun h2 tk2 tz qb => Al3.elim qb fun e F2 N2 => ?_
      clear qa qb
      subst e
      have hc := suCh_lt lt h1
      have e1 := List.getElem?_eq_getElem hc
      generalize ys[suCh lt ys p]'hc = va at e1
      clear lF
      (try dsimp only)
      k_steps
      refine go (m_item (pos := suCh lt ys p) (by k_asm) (by k_mem) rfl hl5 e1 ?_)
      k_steps
      refine go (m_set (by k_asm) (by k_asm) (.head hoff) rfl hP2 hl5 ?_)
      intro h9 F9 N9
      k_steps
      refine su_step rfl hc e1 hP1 hP3 hP4 ?_
      intro h2 h3 h4 h5 h6
      rename Fr _ _ _ _ => lF
      rename News _ _ _ _ => lN
      refine m_end lF lN [Str.ofString "pos", Str.ofString "childpos"] (fun _ => rfl) (by (intro z h2 h3; (simp only [List.mem_cons, List.not_mem_nil, or_false, not_or] at h2); (simp only [List.contains_cons, List.contains_nil, Bool.or_false, Bool.or_eq_false_iff, beq_eq_false_iff_ne, ne_eq] at h3); (simp [kstB, h2, h3]; done))) ⟨⟨ys.set p va, suCh lt ys p, _, _⟩, fun _ h => h, all2 rfl rfl, ⟨h2, h3, h4, h5⟩, h6⟩
  · rename_i hc1
    refine go (m_set (by k_asm) (by k_asm) (.head hoff) rfl hP2 hl5 ?_)
    intro h9 F9 N9
    k_steps
    refine go ?_
    have hset : (ys.set p x)[p]? = some x := by simp [hP2]
    k_dflt refine siftdown_ctr w mean mg mb lt D (ys.set p x) n rest p x t1 tp hoff (hcmp.sub ?_) hset (by simp; omega) _ _ _ _ _ _ _ _ _ _ _ _ _ _ _ _ _ (by k_asm) (by k_asm) (by k_asm) (by k_asm) (by k_asm) rfl (by first | exact room hd 0 (by decide) | exact room hd 1 (by decide) | exact room hd 2 (by decide) | exact room hd 3 (by decide) | exact room hd 4 (by decide) | exact room hd 5 (by decide) | (trace "KTRROOM"; ktr_room)) (by first | exact room hu 0 (by decide) | exact room hu 3 (by decide) | exact room hu 8 (by decide) | exact room hu 11 (by decide) | exact room hu 16 (by decide) | exact room hu 19 (by decide) | exact room hu 24 (by decide) | exact room hu 27 (by decide) | exact room hu 32 (by decide) | exact room hu 35 (by decide) | exact room hu 6 (by decide) | exact room hu 14 (by decide) | exact room hu 22 (by decide) | exact room hu 4 (by decide) | exact room hu 12 (by decide) | exact room hu 1 (by decide) | exact room hu 7 (by decide) | exact room hu 9 (by decide) | exact room hu 40 (by decide) | exact room hu 43 (by decide) | (trace "KTRUNITS"; ktr_units)) ?_
    · intro v hv
      rcases List.mem_or_eq_of_mem_set hv with h | rfl
      · exact hP4 _ h
      · exact hxm
    · intro _ h9 tk9 _ F9 N9
      k_steps
      refine hret () _ _ trivial (by k_asm) ?_
      have e : suAll lt x xs = sdGo lt x (ys.set p x) p := by
        unfold suAll
        rw [← hP1, suGo_end lt (fun q => by first | exact hc1 (Int.ofNat_lt.mpr (hP3 ▸ q)) | (trace "OMEGA"; omega))]
      dsimp only
      rw [e]
      k_asm
end
/-! ## MPush -/
section
open PySem PySem.W PyProof.Rows
set_option maxRecDepth 100000
theorem fill4 : PySem.Challenge.rw_mr0107_01 = PySem.Challenge.rw_mr0107_01 ∧ hd.heap_39 = hd.heap_39 := by
  k_fill
  w_top off
  exact ⟨rfl, rfl⟩
def pushL {α : Type} (lt : α → α → Bool) (v : α) (xs : List α) : List α := sdGo lt v (xs ++ [v]) xs.length
def popL {α : Type} (lt : α → α → Bool) (y : α) : List α → α × List α
  | [] => (y, [])
  | z :: r => (z, suAll lt y (y :: r))
def ppL {α : Type} (lt : α → α → Bool) (v : α) : List α → α × List α
  | [] => (v, [])
  | z :: r => if lt z v then (z, suAll lt v (v :: r)) else (v, z :: r)
theorem Ctr.args {σ : Type} {w : World} {mean : ExcName → Option Value} {mg mb : Str → Option Value} {f : Addr} {dep : Nat} {news : Led} {vs vs' : List Value} {Out : σ → Prop} {ret : σ → Value} {led : σ → Led}
    (e : vs = vs') (h : Ctr w mean mg mb f dep news vs' Out ret led) : Ctr w mean mg mb f dep news vs Out ret led := e ▸ h
set_option maxHeartbeats 2000000 in
theorem heappush_ctr (w : World) (mean : ExcName → Option Value) (mg mb : Str → Option Value) (lt : Value → Value → Bool) (D : Addr) (xs : List Value) (n : Nat) (rest : Led) (v : Value)
    (hoff : ∀ p ∈ rest, p.1 ≠ D) (hcmp : CmpOk w rest lt (· ∈ xs ++ [v])) (hlen : xs.length ≤ 900) :
    Ctr (σ := Unit) w mean mg mb 21 2 ((D, listOf xs.toArray n) :: rest) [.ref D, v] (fun _ => True) (fun _ => .none) (fun _ => (D, listOf (pushL lt v xs).toArray (n + 1)) :: rest) := by
  intro dp un gd cn cs a ccd cl outer A₀ base h₀ L m s Q E B F X N T hk hd hu hret
  refine wpAny_call ?_
  k_dflt cell_enter
  k_steps
  refine go (m_append (by k_asm) (by k_asm) (.head hoff) (by first | exact Nat.le_trans hlen (by decide) | (trace "OMEGA"; omega)) ?_)
  intro h9 F9 N9
  k_steps
  refine go (m_len (by k_asm) (by k_mem) (by simp; omega) ?_)
  k_steps
  refine go ?_
  k_dflt refine Ctr.args (by simp only [List.length_append, List.length_cons, List.length_nil]; congr; omega) (siftdown_ctr w mean mg mb lt D (xs ++ [v]) (n + 1) rest xs.length v _ _ hoff hcmp (by simp) (by simp; omega)) _ _ _ _ _ _ _ _ _ _ _ _ _ _ _ _ _ (by k_asm) (by k_asm) (by k_asm) (by k_asm) (by k_asm) rfl (by first | exact room hd 0 (by decide) | exact room hd 1 (by decide) | exact room hd 2 (by decide) | exact room hd 3 (by decide) | exact room hd 4 (by decide) | exact room hd 5 (by decide) | (trace "KTRROOM"; ktr_room)) (by first | exact room hu 0 (by decide) | exact room hu 3 (by decide) | exact room hu 8 (by decide) | exact room hu 11 (by decide) | exact room hu 16 (by decide) | exact room hu 19 (by decide) | exact room hu 24 (by decide) | exact room hu 27 (by decide) | exact room hu 32 (by decide) | exact room hu 35 (by decide) | exact room hu 6 (by decide) | exact room hu 14 (by decide) | exact room hu 22 (by decide) | exact room hu 4 (by decide) | exact room hu 12 (by decide) | exact room hu 1 (by decide) | exact room hu 7 (by decide) | exact room hu 9 (by decide) | exact room hu 40 (by decide) | exact room hu 43 (by decide) | (trace "KTRUNITS"; ktr_units)) ?_
  intro _ h9 tk9 _ F9 N9
  k_steps
  exact hret () _ _ trivial (by k_asm) (by k_asm)
set_option maxHeartbeats 2000000 in
theorem heappop_ctr (w : World) (mean : ExcName → Option Value) (mg mb : Str → Option Value) (lt : Value → Value → Bool) (D : Addr) (ys : List Value) (y : Value) (n : Nat) (rest : Led)
    (hoff : ∀ p ∈ rest, p.1 ≠ D) (hcmp : CmpOk w rest lt (· ∈ ys ++ [y])) (hlen : ys.length ≤ 900) :
    Ctr (σ := Unit) w mean mg mb 28 3 ((D, listOf (ys ++ [y]).toArray n) :: rest) [.ref D] (fun _ => True) (fun _ => (popL lt y ys).1) (fun _ => (D, listOf (popL lt y ys).2.toArray (n + 1)) :: rest) := by
  intro dp un gd cn cs a ccd cl outer A₀ base h₀ L m s Q E B F X N T hk hd hu hret
  refine wpAny_call ?_
  k_dflt cell_enter
  k_steps
  refine go (m_pop (ys := ys) (y := y) (by k_asm) (by k_asm) rfl (.head hoff) (by simp; omega) ?_)
  intro h9 F9 N9
  k_steps
  refine go (m_truthy (by k_asm) (by k_mem) (by first | exact Nat.le_trans hlen (by decide) | (trace "OMEGA"; omega)) ?_)
  k_steps
  · rename_i hpos
    cases ys with
    | nil => simp at hpos
    | cons z r =>
      refine go (m_item (pos := 0) (x := z) (by k_asm) (by k_mem) rfl (by first | exact Nat.le_trans hlen (by decide) | (trace "OMEGA"; omega)) rfl ?_)
      k_steps
      refine go (m_set (pos := 0) (by k_asm) (by k_asm) (.head hoff) rfl (by simp) (by first | exact Nat.le_trans hlen (by decide) | (trace "OMEGA"; omega)) ?_)
      intro h9 F9 N9
      k_steps
      refine go ?_
      k_dflt refine siftup_ctr w mean mg mb lt D (y :: r) (n + 1) rest y _ hoff (hcmp.sub ?_) rfl (by simp at hlen ⊢; omega) _ _ _ _ _ _ _ _ _ _ _ _ _ _ _ _ _ (by k_asm) (by k_asm) (by k_asm) (by k_asm) (by k_asm) rfl (by first | exact room hd 0 (by decide) | exact room hd 1 (by decide) | exact room hd 2 (by decide) | exact room hd 3 (by decide) | exact room hd 4 (by decide) | exact room hd 5 (by decide) | (trace "KTRROOM"; ktr_room)) (by first | exact room hu 0 (by decide) | exact room hu 3 (by decide) | exact room hu 8 (by decide) | exact room hu 11 (by decide) | exact room hu 16 (by decide) | exact room hu 19 (by decide) | exact room hu 24 (by decide) | exact room hu 27 (by decide) | exact room hu 32 (by decide) | exact room hu 35 (by decide) | exact room hu 6 (by decide) | exact room hu 14 (by decide) | exact room hu 22 (by decide) | exact room hu 4 (by decide) | exact room hu 12 (by decide) | exact room hu 1 (by decide) | exact room hu 7 (by decide) | exact room hu 9 (by decide) | exact room hu 40 (by decide) | exact room hu 43 (by decide) | (trace "KTRUNITS"; ktr_units)) ?_
      · intro v hv
        rcases List.mem_cons.mp hv with rfl | h
        · simp
        · simp [h]
      · intro _ h9 tk9 _ F9 N9
        k_steps
        exact hret () _ _ trivial (by k_asm) (by k_asm)
  · rename_i hpos _ _ _ _ _
    have e : ys = [] := List.eq_nil_of_length_eq_zero (by first | exact Nat.eq_zero_of_not_pos hpos | (trace "OMEGA"; omega))
    subst e
    exact hret () _ _ trivial (by k_asm) (by k_asm)
set_option maxHeartbeats 2000000 in
theorem heappushpop_ctr (w : World) (mean : ExcName → Option Value) (mg mb : Str → Option Value) (lt : Value → Value → Bool) (D : Addr) (xs : List Value) (n : Nat) (rest : Led) (v : Value)
    (hoff : ∀ p ∈ rest, p.1 ≠ D) (hcmp : CmpOk w rest lt (· ∈ v :: xs)) (hlen : xs.length ≤ 900) :
    Ctr (σ := Unit) w mean mg mb 35 3 ((D, listOf xs.toArray n) :: rest) [.ref D, v] (fun _ => True) (fun _ => (ppL lt v xs).1) (fun _ => (D, listOf (ppL lt v xs).2.toArray n) :: rest) := by
  intro dp un gd cn cs a ccd cl outer A₀ base h₀ L m s Q E B F X N T hk hd hu hret
  refine wpAny_call ?_
  k_dflt cell_enter
  k_steps
  refine go (wpAny_If ?_)
  k_steps
  refine go (m_truthy (by k_asm) (by k_mem) (by first | exact Nat.le_trans hlen (by decide) | (trace "OMEGA"; omega)) ?_)
  k_steps
  · rename_i hpos
    cases xs with
    | nil => simp at hpos
    | cons z r =>
      refine go (m_item (pos := 0) (x := z) (by k_asm) (by k_mem) rfl (by first | exact Nat.le_trans hlen (by decide) | (trace "OMEGA"; omega)) rfl ?_)
      k_steps
      refine hcmp _ _ (by simp) (by simp) _ _ _ _ _ _ _ (by first | exact room hu 0 (by decide) | exact room hu 3 (by decide) | exact room hu 8 (by decide) | exact room hu 11 (by decide) | exact room hu 16 (by decide) | exact room hu 19 (by decide) | exact room hu 24 (by decide) | exact room hu 27 (by decide) | exact room hu 32 (by decide) | exact room hu 35 (by decide) | exact room hu 6 (by decide) | exact room hu 14 (by decide) | exact room hu 22 (by decide) | exact room hu 4 (by decide) | exact room hu 12 (by decide) | exact room hu 1 (by decide) | exact room hu 7 (by decide) | exact room hu 9 (by decide) | exact room hu 40 (by decide) | exact room hu 43 (by decide) | (trace "KTRUNITS"; ktr_units)) (by k_asm) (news_tail (by k_asm)) ?_
      intro tk9
      k_steps
      · rename_i hlt
        refine go (m_item (pos := 0) (x := z) (by k_asm) (by k_mem) rfl (by first | exact Nat.le_trans hlen (by decide) | (trace "OMEGA"; omega)) rfl ?_)
        k_steps
        refine go (m_set (pos := 0) (by k_asm) (by k_asm) (by k_upd) rfl (by simp) (by first | exact Nat.le_trans hlen (by decide) | (trace "OMEGA"; omega)) ?_)
        intro h9 F9 N9
        have N10 := news_tail N9
        k_steps
        refine go ?_
        k_dflt refine siftup_ctr w mean mg mb lt D (v :: r) n rest v _ hoff (hcmp.sub ?_) rfl (by simp at hlen ⊢; omega) _ _ _ _ _ _ _ _ _ _ _ _ _ _ _ _ _ (by k_asm) (by k_asm) (by k_asm) (by k_asm) (by k_asm) rfl (by first | exact room hd 0 (by decide) | exact room hd 1 (by decide) | exact room hd 2 (by decide) | exact room hd 3 (by decide) | exact room hd 4 (by decide) | exact room hd 5 (by decide) | (trace "KTRROOM"; ktr_room)) (by first | exact room hu 0 (by decide) | exact room hu 3 (by decide) | exact room hu 8 (by decide) | exact room hu 11 (by decide) | exact room hu 16 (by decide) | exact room hu 19 (by decide) | exact room hu 24 (by decide) | exact room hu 27 (by decide) | exact room hu 32 (by decide) | exact room hu 35 (by decide) | exact room hu 6 (by decide) | exact room hu 14 (by decide) | exact room hu 22 (by decide) | exact room hu 4 (by decide) | exact room hu 12 (by decide) | exact room hu 1 (by decide) | exact room hu 7 (by decide) | exact room hu 9 (by decide) | exact room hu 40 (by decide) | exact room hu 43 (by decide) | (trace "KTRUNITS"; ktr_units)) ?_
        · intro u hv
          rcases List.mem_cons.mp hv with rfl | h
          · simp
          · simp [h]
        · intro _ h9 tk9 _ F9 N9
          k_steps
          have e : ppL lt v (z :: r) = (z, suAll lt v (v :: r)) := by simp [ppL, hlt]
          have hr := fun h' tk' => hret () h' tk' trivial
          dsimp only at hr
          rw [e] at hr
          exact hr _ _ (by k_asm) (by k_asm)
      · rename_i hlt _ _ _ _
        have e : ppL lt v (z :: r) = (v, z :: r) := by simp [ppL, hlt]
        have hr := fun h' tk' => hret () h' tk' trivial
        dsimp only at hr
        rw [e] at hr
        exact hr _ _ (by k_asm) (by k_asm)
  · rename_i hpos _ _ _ _ _
    have e : xs = [] := List.eq_nil_of_length_eq_zero (by omega)
    subst e
    exact hret () _ _ trivial (by k_asm) (by k_asm)
end
end Mine
end
/-! ## MPure -/
section
namespace Mine
section
variable {α : Type} {lt : α → α → Bool}
/-- a total order up to likeness: le a b is lt b a = false -/
structure Ord (lt : α → α → Bool) : Prop where
  tr : ∀ a b c, lt b a = false → lt c b = false → lt c a = false
  tot : ∀ a b, lt a b = false ∨ lt b a = false
theorem Ord.rfl' (O : Ord lt) (a : α) : lt a a = false := (O.tot a a).elim id id
theorem Ord.le_of_lt (O : Ord lt) {a b : α} (h : lt a b = true) : lt b a = false := by
  rcases O.tot a b with h' | h'
  · rw [h] at h'; cases h'
  · exact h'
def IsHeap (lt : α → α → Bool) (xs : List α) : Prop := ∀ i a b, 0 < i → xs[i]? = some a → xs[(i - 1) / 2]? = some b → lt a b = false
/-- a heap but for the place pos -/
structure Hole (lt : α → α → Bool) (xs : List α) (pos : Nat) : Prop where
  far : ∀ i a b, 0 < i → i ≠ pos → (i - 1) / 2 ≠ pos → xs[i]? = some a → xs[(i - 1) / 2]? = some b → lt a b = false
  near : 0 < pos → ∀ i a b, 0 < i → (i - 1) / 2 = pos → xs[i]? = some a → xs[(pos - 1) / 2]? = some b → lt a b = false
theorem get_set_ne {xs : List α} {i j : Nat} {v : α} (h : i ≠ j) : (xs.set i v)[j]? = xs[j]? := by
  rw [List.getElem?_set, if_neg h]
theorem get_set_eq {xs : List α} {i : Nat} {v : α} (h : i < xs.length) : (xs.set i v)[i]? = some v := by
  simp [h]
theorem pa0 {i : Nat} (h : 0 < i) : (i - 1) / 2 < i := Nat.lt_of_le_of_lt (Nat.div_le_self _ _) (Nat.sub_lt h Nat.one_pos)
theorem pa1 {i : Nat} (h : 0 < i) : (i - 1) / 2 ≠ i := Nat.ne_of_lt (pa0 h)
theorem pa2 {i : Nat} (h : 0 < i) : i ≠ (i - 1) / 2 := Nat.ne_of_gt (pa0 h)
theorem pa3 {i n : Nat} (h : 0 < i) (h2 : i < n) : (i - 1) / 2 < n := Nat.lt_trans (pa0 h) h2
theorem pa4 {i p : Nat} (h : 0 < i) (e : (i - 1) / 2 = p) : i = 2 * p + 1 ∨ i = 2 * p + 2 := by omega
theorem pa5 {c p : Nat} (h : c = 2 * p + 1 ∨ c = 2 * p + 2) : (c - 1) / 2 = p := by
  rcases h with rfl | rfl
  · exact Nat.mul_div_cancel_left p Nat.two_pos
  · exact Nat.mul_add_div Nat.two_pos p 1
theorem pa6 {i c : Nat} (h : 0 < i) (e : (i - 1) / 2 = c) : c < i := e ▸ pa0 h
theorem pa7 {i c p : Nat} (h : 0 < i) (e : (i - 1) / 2 = c) (h2 : p < c) : p ≠ i := Nat.ne_of_lt (Nat.lt_trans h2 (pa6 h e))
theorem pa8 {i c p : Nat} (h : 0 < i) (e : (i - 1) / 2 = c) (h2 : p < c) : i ≠ p := (pa7 h e h2).symm
theorem pa9 {p : Nat} (h : 0 < p) (h2 : 0 < (p - 1) / 2) : ((p - 1) / 2 - 1) / 2 ≠ p := Nat.ne_of_lt (Nat.lt_trans (pa0 h2) (pa0 h))
theorem pa10 {p : Nat} (h : 0 < p) (h2 : 0 < (p - 1) / 2) : p ≠ ((p - 1) / 2 - 1) / 2 := (pa9 h h2).symm
theorem pa11 {i p : Nat} (h : 0 < p) (e : (i - 1) / 2 = (p - 1) / 2) : (i - 1) / 2 ≠ p := e ▸ pa1 h
theorem pa12 {i c p : Nat} (e : (i - 1) / 2 = c) (h : p < c) : (i - 1) / 2 ≠ p := e ▸ Nat.ne_of_gt h
theorem pa13 {c p n k : Nat} (e : n - p = k) (h : p < n) (h2 : p < c) : n - c < k := e ▸ Nat.sub_lt_sub_left h h2
theorem pa14 {i p : Nat} (h : 0 < p) (e : (i - 1) / 2 = p) : p ≠ i := e ▸ pa1 (Nat.pos_of_ne_zero fun q => by subst q; exact absurd e (Nat.ne_of_lt h))
theorem pa19 {i c n : Nat} (h : 0 < i) (e : (i - 1) / 2 = c) (h2 : i < n) (h3 : ¬ 2 * c + 1 < n) : False := h3 (Nat.lt_of_le_of_lt (by rcases pa4 h e with q | q <;> (rw [q]; first | exact Nat.le_refl _ | exact Nat.le_succ _)) h2)
theorem pa20 {i n : Nat} (h : 0 < i) (e : (i - 1) / 2 = n) (h2 : i < n + (0 + 1)) : False := Nat.lt_irrefl _ (Nat.lt_of_lt_of_le (pa6 h e) (Nat.le_of_lt_succ h2))
theorem pa15 {i : Nat} (h : ¬ 0 < i) : i = 0 := Nat.eq_zero_of_not_pos h
theorem pa16 {i j : Nat} (h : i < j) : 0 < j := Nat.lt_of_le_of_lt (Nat.zero_le i) h
theorem pa17 {i n : Nat} (h : i < n + (0 + 1)) (e : i ≠ n) : i < n := Nat.lt_of_le_of_ne (Nat.le_of_lt_succ h) e
theorem pa18 {i n : Nat} (h : 0 < i) (h2 : i < n + (0 + 1)) : (i - 1) / 2 < n := Nat.lt_of_lt_of_le (pa0 h) (Nat.le_of_lt_succ h2)
theorem Hole.set {xs : List α} {pos : Nat} (H : Hole lt xs pos) (v : α) : Hole lt (xs.set pos v) pos where
  far i a b h0 h1 h2 ha hb := by
    rw [get_set_ne (Ne.symm h1)] at ha
    rw [get_set_ne (Ne.symm h2)] at hb
    exact H.far i a b h0 h1 h2 ha hb
  near hp i a b h0 h1 ha hb := by
    rw [get_set_ne (by exact pa14 (by assumption) (by assumption))] at ha
    rw [get_set_ne (by exact pa2 (by assumption))] at hb
    exact H.near hp i a b h0 h1 ha hb
theorem set_swap_perm {xs : List α} {i j : Nat} {x v : α} (hi : i < xs.length) (hj : xs[j]? = some v) (hne : i ≠ j) : ((xs.set i v).set j x).Perm (xs.set i x) := by
  obtain ⟨hj1, hj2⟩ := List.getElem?_eq_some_iff.mp hj
  have h := List.set_set_perm (as := xs.set i x) (i := i) (j := j) (by simpa using hi) (by simpa using hj1)
  have e1 : (xs.set i x)[j]'(by simpa using hj1) = v := by rw [List.getElem_set_ne hne]; exact hj2
  have e2 : (xs.set i x)[i]'(by simpa using hi) = x := by simp
  rw [e1, e2] at h
  simpa using h
theorem sdGo_perm (x : α) : ∀ (pos : Nat) (xs : List α), pos < xs.length → (sdGo lt x xs pos).Perm (xs.set pos x) := by
  intro pos
  induction pos using Nat.strongRecOn with
  | ind pos ih =>
    intro xs hp
    by_cases h0 : 0 < pos
    · have hpp : (pos - 1) / 2 < xs.length := by exact pa3 (by assumption) (by assumption)
      have hg := List.getElem?_eq_getElem hpp
      generalize xs[(pos - 1) / 2]'hpp = par at hg
      cases hl : lt x par with
      | true =>
        rw [sdGo_go h0 hg hl]
        exact (ih _ (by exact pa0 (by assumption)) _ (by simpa using hpp)).trans (set_swap_perm hp hg (by exact pa2 (by assumption)))
      | false => rw [sdGo_stop h0 hg hl]
    · rw [sdGo_zero h0]
theorem sdGo_heap (O : Ord lt) (x : α) : ∀ (pos : Nat) (xs : List α), pos < xs.length → Hole lt xs pos → (∀ i a, 0 < i → (i - 1) / 2 = pos → xs[i]? = some a → lt a x = false) → IsHeap lt (sdGo lt x xs pos) := by
  intro pos
  induction pos using Nat.strongRecOn with
  | ind pos ih =>
    intro xs hp H hc
    have stop : (0 < pos → ∀ b, xs[(pos - 1) / 2]? = some b → lt x b = false) → IsHeap lt (xs.set pos x) := by
      intro hu i a b h0 ha hb
      by_cases h1 : i = pos
      · subst h1
        rw [get_set_eq hp] at ha
        cases ha
        rw [get_set_ne (by exact pa2 (by assumption))] at hb
        exact hu h0 b hb
      · rw [get_set_ne (Ne.symm h1)] at ha
        by_cases h2 : (i - 1) / 2 = pos
        · rw [h2, get_set_eq hp] at hb
          cases hb
          exact hc i a h0 h2 ha
        · rw [get_set_ne (Ne.symm h2)] at hb
          exact H.far i a b h0 h1 h2 ha hb
    by_cases h0 : 0 < pos
    · have hpp : (pos - 1) / 2 < xs.length := by exact pa3 (by assumption) (by assumption)
      have hg := List.getElem?_eq_getElem hpp
      generalize xs[(pos - 1) / 2]'hpp = par at hg
      cases hl : lt x par with
      | false =>
        rw [sdGo_stop h0 hg hl]
        refine stop fun _ b hb => ?_
        rw [hg] at hb
        cases hb
        exact hl
      | true =>
        rw [sdGo_go h0 hg hl]
        have hxp := O.le_of_lt hl
        refine ih _ (by exact pa0 (by assumption)) _ (by simpa using hpp) ⟨?_, ?_⟩ ?_
        · intro i a b hi0 h1 h2 ha hb
          by_cases e1 : i = pos
          · exact absurd (by rw [e1]) h2
          · rw [get_set_ne (Ne.symm e1)] at ha
            by_cases e2 : (i - 1) / 2 = pos
            · rw [e2, get_set_eq hp] at hb
              cases hb
              exact H.near h0 i a _ hi0 e2 ha hg
            · rw [get_set_ne (Ne.symm e2)] at hb
              exact H.far i a b hi0 e1 e2 ha hb
        · intro hpp0 i a b hi0 hip ha hb
          have hb' : xs[((pos - 1) / 2 - 1) / 2]? = some b := by rwa [get_set_ne (by exact pa10 (by assumption) (by assumption))] at hb
          have hpb : lt par b = false := H.far ((pos - 1) / 2) par b hpp0 (by exact pa1 (by assumption)) (by exact pa9 (by assumption) (by assumption)) hg hb'
          by_cases e1 : i = pos
          · subst e1
            rw [get_set_eq hp] at ha
            cases ha
            exact hpb
          · rw [get_set_ne (Ne.symm e1)] at ha
            have h3 : lt a par = false := H.far i a par hi0 e1 (by exact pa11 (by assumption) (by assumption)) ha (by rw [hip]; exact hg)
            exact O.tr b par a hpb h3
        · intro i a hi0 hip ha
          by_cases e1 : i = pos
          · subst e1
            rw [get_set_eq hp] at ha
            cases ha
            exact hxp
          · rw [get_set_ne (Ne.symm e1)] at ha
            have h3 : lt a par = false := H.far i a par hi0 e1 (by exact pa11 (by assumption) (by assumption)) ha (by rw [hip]; exact hg)
            exact O.tr x par a hxp h3
    · rw [sdGo_zero h0]
      exact stop fun h => absurd h h0
theorem suCh_small (O : Ord lt) {xs : List α} {pos : Nat} (h : 2 * pos + 1 < xs.length) :
    (suCh lt xs pos = 2 * pos + 1 ∨ suCh lt xs pos = 2 * pos + 2) ∧ ∀ i a v, 0 < i → (i - 1) / 2 = pos → xs[i]? = some a → xs[suCh lt xs pos]? = some v → lt a v = false := by
  have h1 := List.getElem?_eq_getElem h
  generalize xs[2 * pos + 1]'h = u at h1
  by_cases h2 : 2 * pos + 2 < xs.length
  · have h3 := List.getElem?_eq_getElem h2
    generalize xs[2 * pos + 2]'h2 = v at h3
    have e : suCh lt xs pos = if lt u v then 2 * pos + 1 else 2 * pos + 2 := by
      unfold suCh; rw [if_pos h2, h1, h3]
    cases hl : lt u v with
    | true =>
      rw [hl, if_pos rfl] at e
      refine ⟨.inl e, fun i a v' hi hp ha hv => ?_⟩
      rw [e, h1] at hv
      cases hv
      have hi' : i = 2 * pos + 1 ∨ i = 2 * pos + 2 := by exact pa4 (by assumption) (by assumption)
      rcases hi' with rfl | rfl
      · rw [h1] at ha; cases ha; exact O.rfl' _
      · rw [h3] at ha; cases ha; exact O.le_of_lt hl
    | false =>
      rw [hl] at e
      simp only [Bool.false_eq_true, if_false] at e
      refine ⟨.inr e, fun i a v' hi hp ha hv => ?_⟩
      rw [e, h3] at hv
      cases hv
      have hi' : i = 2 * pos + 1 ∨ i = 2 * pos + 2 := by exact pa4 (by assumption) (by assumption)
      rcases hi' with rfl | rfl
      · rw [h1] at ha; cases ha; exact hl
      · rw [h3] at ha; cases ha; exact O.rfl' _
  · have e : suCh lt xs pos = 2 * pos + 1 := by unfold suCh; rw [if_neg h2]
    refine ⟨.inl e, fun i a v' hi hp ha hv => ?_⟩
    rw [e, h1] at hv
    cases hv
    have hi' : i = 2 * pos + 1 ∨ i = 2 * pos + 2 := by exact pa4 (by assumption) (by assumption)
    rcases hi' with rfl | rfl
    · rw [h1] at ha; cases ha; exact O.rfl' _
    · have := (List.getElem?_eq_some_iff.mp ha).1; exact absurd this h2
theorem suGo_spec (O : Ord lt) (x : α) : ∀ (k : Nat) (xs : List α) (pos : Nat), xs.length - pos = k → pos < xs.length → Hole lt xs pos →
    (suGo lt xs pos).1.length = xs.length ∧ (suGo lt xs pos).2 < xs.length ∧ ¬ 2 * (suGo lt xs pos).2 + 1 < xs.length ∧ Hole lt (suGo lt xs pos).1 (suGo lt xs pos).2 ∧ ((suGo lt xs pos).1.set (suGo lt xs pos).2 x).Perm (xs.set pos x) := by
  intro k
  induction k using Nat.strongRecOn with
  | ind k ih =>
    intro xs pos hk hp H
    by_cases h : 2 * pos + 1 < xs.length
    · have hc := suCh_lt lt h
      have hgt := suCh_gt lt xs pos
      have hv := List.getElem?_eq_getElem hc
      generalize xs[suCh lt xs pos]'hc = v at hv
      obtain ⟨hch, hsm⟩ := suCh_small O h
      rw [suGo_go lt h hv]
      have H' : Hole lt (xs.set pos v) (suCh lt xs pos) := by
        refine ⟨?_, ?_⟩
        · intro i a b hi0 h1 h2 ha hb
          by_cases e1 : i = pos
          · subst e1
            rw [get_set_eq hp] at ha
            cases ha
            rw [get_set_ne (by exact pa2 (by assumption))] at hb
            exact H.near hi0 (suCh lt xs i) _ b (by exact pa16 (by assumption)) (by exact pa5 (by assumption)) hv hb
          · rw [get_set_ne (Ne.symm e1)] at ha
            by_cases e2 : (i - 1) / 2 = pos
            · rw [e2, get_set_eq hp] at hb
              cases hb
              exact hsm i a _ hi0 e2 ha hv
            · rw [get_set_ne (Ne.symm e2)] at hb
              exact H.far i a b hi0 e1 e2 ha hb
        · intro _ i a b hi0 hip ha hb
          have ep : (suCh lt xs pos - 1) / 2 = pos := by exact pa5 (by assumption)
          rw [ep, get_set_eq hp] at hb
          cases hb
          rw [get_set_ne (by exact pa7 (by assumption) (by assumption) (by assumption))] at ha
          exact H.far i a _ hi0 (by exact pa8 (by assumption) (by assumption) (by assumption)) (by exact pa12 (by assumption) (by assumption)) ha (by rw [hip]; exact hv)
      obtain ⟨a1, a2, a3, a4, a5⟩ := ih ((xs.set pos v).length - suCh lt xs pos) (by simp only [List.length_set]; exact pa13 hk hp hgt) (xs.set pos v) (suCh lt xs pos) rfl (by simpa using hc) H'
      simp only [List.length_set] at a1 a2 a3
      exact ⟨a1, a2, a3, a4, a5.trans (set_swap_perm hp hv (by exact Nat.ne_of_lt (by assumption)))⟩
    · rw [suGo_end lt h]
      exact ⟨rfl, hp, h, H, .refl _⟩
theorem suAll_spec (O : Ord lt) {x : α} {xs : List α} (h0 : 0 < xs.length) (H : Hole lt xs 0) : IsHeap lt (suAll lt x xs) ∧ (suAll lt x xs).Perm (xs.set 0 x) := by
  obtain ⟨a1, a2, a3, a4, a5⟩ := suGo_spec O x _ xs 0 rfl h0 H
  unfold suAll
  refine ⟨sdGo_heap O x _ _ (by rw [List.length_set]; omega) (a4.set x) fun i a hi hp ha => ?_, (sdGo_perm x _ _ (by rw [List.length_set]; omega)).trans ?_⟩
  · have := (List.getElem?_eq_some_iff.mp ha).1
    rw [List.length_set] at this
    first | exact (pa19 hi hp (Nat.lt_of_lt_of_eq this a1) a3).elim | omega
  · rw [List.set_set]; exact a5
theorem Hole.of_heap {z x : α} {r : List α} (H : IsHeap lt (z :: r)) : Hole lt (x :: r) 0 where
  far i a b h0 h1 h2 ha hb := by
    refine H i a b h0 ?_ ?_
    · cases i with
      | zero => omega
      | succ i => simpa using ha
    · generalize (i - 1) / 2 = j at h2 hb
      cases j with
      | zero => omega
      | succ j => simpa using hb
  near h := absurd h (Nat.lt_irrefl _)
theorem heap_min (O : Ord lt) {z : α} {r : List α} (H : IsHeap lt (z :: r)) : ∀ (i : Nat) (a : α), (z :: r)[i]? = some a → lt a z = false := by
  intro i
  induction i using Nat.strongRecOn with
  | ind i ih =>
    intro a ha
    by_cases h0 : 0 < i
    · have hl : i < (z :: r).length := (List.getElem?_eq_some_iff.mp ha).1
      have hpp : (i - 1) / 2 < (z :: r).length := by exact pa3 (by assumption) (by assumption)
      have hg := List.getElem?_eq_getElem hpp
      exact O.tr z _ a (ih _ (by exact pa0 (by assumption)) _ hg) (H i a _ h0 ha hg)
    · have : i = 0 := by exact pa15 (by assumption)
      subst this
      cases ha
      exact O.rfl' _
theorem heap_min' (O : Ord lt) {z : α} {r : List α} (H : IsHeap lt (z :: r)) : ∀ a ∈ z :: r, lt a z = false := fun a ha => by
  obtain ⟨i, hi⟩ := List.getElem?_of_mem ha
  exact heap_min O H i a hi
theorem IsHeap.prefix {ys : List α} {y : α} (H : IsHeap lt (ys ++ [y])) : IsHeap lt ys := fun i a b h0 ha hb => by
  have h1 := (List.getElem?_eq_some_iff.mp ha).1
  have h2 := (List.getElem?_eq_some_iff.mp hb).1
  exact H i a b h0 (by rw [List.getElem?_append_left h1]; exact ha) (by rw [List.getElem?_append_left h2]; exact hb)
theorem isHeap_nil : IsHeap lt ([] : List α) := fun _ _ _ _ h => by simp at h
theorem pushL_spec (O : Ord lt) {v : α} {xs : List α} (H : IsHeap lt xs) : IsHeap lt (pushL lt v xs) ∧ (pushL lt v xs).Perm (v :: xs) := by
  unfold pushL
  have hl : xs.length < (xs ++ [v]).length := by simp
  refine ⟨sdGo_heap O v _ _ hl ⟨fun i a b h0 h1 h2 ha hb => ?_, fun hp i a b h0 h1 ha hb => ?_⟩ fun i a h0 h1 ha => ?_, (sdGo_perm v _ _ hl).trans ?_⟩
  · have h3 := (List.getElem?_eq_some_iff.mp ha).1
    simp only [List.length_append, List.length_cons, List.length_nil] at h3
    rw [List.getElem?_append_left (by exact pa17 (by assumption) (by assumption))] at ha
    rw [List.getElem?_append_left (by exact pa18 (by assumption) (by assumption))] at hb
    exact H i a b h0 ha hb
  · have h3 := (List.getElem?_eq_some_iff.mp ha).1
    simp only [List.length_append, List.length_cons, List.length_nil] at h3
    first | exact (pa20 h0 h1 h3).elim | omega
  · have h3 := (List.getElem?_eq_some_iff.mp ha).1
    simp only [List.length_append, List.length_cons, List.length_nil] at h3
    first | exact (pa20 h0 h1 h3).elim | omega
  · have e : (xs ++ [v]).set xs.length v = xs ++ [v] := by simp
    rw [e]
    exact List.perm_append_singleton v xs
theorem popL_spec (O : Ord lt) {y : α} {ys : List α} (H : IsHeap lt (ys ++ [y])) : IsHeap lt (popL lt y ys).2 ∧ ((popL lt y ys).1 :: (popL lt y ys).2).Perm (ys ++ [y]) ∧ ∀ a ∈ ys ++ [y], lt a (popL lt y ys).1 = false := by
  cases ys with
  | nil => exact ⟨isHeap_nil, .refl _, fun a ha => by simp at ha; subst ha; exact O.rfl' _⟩
  | cons z r =>
    obtain ⟨h1, h2⟩ := suAll_spec (x := y) O (xs := y :: r) (by simp) (Hole.of_heap H.prefix)
    refine ⟨h1, ?_, heap_min' O H⟩
    show (z :: suAll lt y (y :: r)).Perm (z :: (r ++ [y]))
    refine List.Perm.cons _ (h2.trans ?_)
    show (y :: r).Perm _
    exact (List.perm_append_singleton y r).symm
theorem ppL_spec (O : Ord lt) {v : α} {xs : List α} (H : IsHeap lt xs) : IsHeap lt (ppL lt v xs).2 ∧ ((ppL lt v xs).1 :: (ppL lt v xs).2).Perm (v :: xs) ∧ ∀ a ∈ v :: xs, lt a (ppL lt v xs).1 = false := by
  cases xs with
  | nil => exact ⟨isHeap_nil, .refl _, fun a ha => by simp at ha; subst ha; exact O.rfl' _⟩
  | cons z r =>
    cases hl : lt z v with
    | true =>
      have e : ppL lt v (z :: r) = (z, suAll lt v (v :: r)) := by simp [ppL, hl]
      rw [e]
      obtain ⟨h1, h2⟩ := suAll_spec (x := v) O (xs := v :: r) (by simp) (Hole.of_heap H)
      refine ⟨h1, ?_, fun a ha => ?_⟩
      · exact (List.Perm.cons z (h2.trans (.refl _))).trans (List.Perm.swap v z r)
      · rcases List.mem_cons.mp ha with rfl | ha
        · exact O.le_of_lt hl
        · exact heap_min' O H a ha
    | false =>
      have e : ppL lt v (z :: r) = (v, z :: r) := by simp [ppL, hl]
      rw [e]
      refine ⟨H, .refl _, fun a ha => ?_⟩
      rcases List.mem_cons.mp ha with rfl | ha
      · exact O.rfl' _
      · exact O.tr v z a hl (heap_min' O H a ha)
end
end Mine
end
/-! ## MCmp -/
section
open PySem PySem.W PyProof.Rows
namespace Mine
abbrev tupOf (vs : List Value) (n : Nat) : Obj := { cls := .type "tuple", data := .seq vs.toArray n }
def klt (a b : Int × Int) : Bool := if a.1 = b.1 then decide (a.2 < b.2) else decide (a.1 < b.1)
theorem cmp_ofLt' {M : Model} {A : Around} {E : Value → Shared → Prop} {s : Shared} {a b : Value} {Q : Value → Shared → Prop} (h : wpAny M A (compareOp .Lt a b) Q E s) : wpAny M A (richCompare .Lt a b) Q E s := h
theorem pair_lt_meets (a b : Addr) (e1 p1 e2 p2 : Int) (t1 u1 t2 u2 : Tok) (n1 n2 : Nat) :
    Meets (Builtin.«tuple.__lt__» ⟨[.ref a, .ref b], []⟩)
      (fun _ R s => s.heap.get? a = some (tupOf [.int e1 t1, .int p1 u1] n1) ∧ s.heap.get? b = some (tupOf [.int e2 t2, .int p2 u2] n2) ∧ R (.ok (.ret (.bool (klt (e1, p1) (e2, p2))))) s) :=
  .of_wp fun prog w A R s h => by
    obtain ⟨ha, hb, h⟩ := h
    show wpAny _ _ (isInstance (.ref b) (.type "tuple") >>= _) _ _ s
    refine wpAny_bind (wpAny_isInstance (T := "tuple") (b := true) ⟨_, hb, rfl⟩ AutoSeq1.sub_tuple_tuple ?_)
    simp only [Bool.not_true, Bool.false_eq_true, if_false]
    refine wpAny_bind (wpAny_tupleItemsOf ha rfl ?_)
    refine wpAny_bind (wpAny_tupleItemsOf hb rfl ?_)
    refine wpAny_bind ?_
    simp only [List.zip_cons_cons, List.zip_nil_left, List.forIn_cons, List.forIn_nil]
    refine wpAny_bind (wpAny_bind (wpAny_eqBool_int ?_))
    unfold klt at h
    by_cases he : e1 = e2
    · have e : (e1 == e2) = true := by simp [he]
      rw [e]
      simp only [Bool.not_true, Bool.false_eq_true, if_false]
      refine wpAny_pure ?_
      dsimp only
      refine wpAny_bind (wpAny_bind (wpAny_eqBool_int ?_))
      by_cases hp : p1 = p2
      · have e' : (p1 == p2) = true := by simp [hp]
        rw [e']
        simp only [Bool.not_true, Bool.false_eq_true, if_false]
        refine wpAny_pure ?_
        dsimp only
        refine wpAny_pure ?_
        dsimp only
        refine wpAny_pure ⟨_, rfl, ?_⟩
        simp [he, hp] at h
        exact h
      · have e' : (p1 == p2) = false := by simp [hp]
        rw [e']
        simp only [Bool.not_false, if_true]
        refine wpAny_bind (wpAny_rule (wpAny_bind (cmp_ofLt' (wpAny_lt_int ?_))))
        refine wpAny_bind (wpAny_pure (wpAny_pure (wpAny_pure ?_)))
        dsimp only
        refine wpAny_pure ⟨_, rfl, ?_⟩
        simp only [he, if_true] at h
        exact h
    · have e : (e1 == e2) = false := by simp [he]
      rw [e]
      simp only [Bool.not_false, if_true]
      refine wpAny_bind (wpAny_rule (wpAny_bind (cmp_ofLt' (wpAny_lt_int ?_))))
      refine wpAny_bind (wpAny_pure (wpAny_pure (wpAny_pure ?_)))
      dsimp only
      refine wpAny_pure ⟨_, rfl, ?_⟩
      simp only [he, if_false] at h
      exact h
theorem pair_lt {prog : Program} {w : World} {A : Around} {E : Value → Shared → Prop} {s : Shared} {a b : Addr} {e1 p1 e2 p2 : Int} {t1 u1 t2 u2 : Tok} {n1 n2 : Nat} {Q : Value → Shared → Prop} (ha : s.heap.get? a = some (tupOf [.int e1 t1, .int p1 u1] n1)) (hb : s.heap.get? b = some (tupOf [.int e2 t2, .int p2 u2] n2))
    (hu : A.units < cLine) (h : Q (.bool (klt (e1, p1) (e2, p2))) s) : wpAny (model prog w) A (compareOp .Lt (.ref a) (.ref b)) Q E s :=
  cmp_ofLt (richCompare_meets_room (T := "tuple") ⟨_, ha, rfl⟩ ⟨_, hb, rfl⟩ PySem.F.slot_tuple_lt PySem.F.entry_tuple_lt (PySem.F.args_tuple_lt_2 _ _) (pair_lt_meets a b e1 p1 e2 p2 t1 u1 t2 u2 n1 n2) ⟨ha, hb, by simp, h⟩ hu)
/-- v is a pair of ints of the ledger -/
def RepP (led : Led) (v : Value) (k : Int × Int) : Prop := Ex4 fun (a : Addr) (t u : Tok) (n : Nat) => Al2 (v = .ref a) ((a, tupOf [.int k.1 t, .int k.2 u] n) ∈ led)
def RepI (v : Value) (i : Int) : Prop := ∃ t, v = .int i t
theorem RepP.mono {led led' : Led} {v : Value} {k : Int × Int} (h : RepP led v k) (hs : ∀ p ∈ led, p ∈ led') : RepP led' v k := by
  obtain ⟨a, t, u, n, e, hm⟩ := h
  exact ⟨a, t, u, n, e, hs _ hm⟩
theorem cmp_pairs (w : World) (rest : Led) (key : Value → Int × Int) : CmpOk w rest (fun v u => klt (key v) (key u)) (fun v => RepP rest v (key v)) := by
  intro v u hv hu A h₀ L m s Q E hun F N h
  obtain ⟨a, t1, u1, n1, rfl, hm1⟩ := hv
  obtain ⟨b, t2, u2, n2, rfl, hm2⟩ := hu
  exact pair_lt (N _ hm1).1 (N _ hm2).1 hun (h s.toks)
theorem klt_ord : Ord klt where
  tr := by
    rintro ⟨a1, a2⟩ ⟨b1, b2⟩ ⟨c1, c2⟩ h1 h2
    unfold klt at *
    dsimp only at *
    split at h1 <;> split at h2 <;> split <;> simp only [decide_eq_false_iff_not] at * <;> omega
  tot := by
    rintro ⟨a1, a2⟩ ⟨b1, b2⟩
    unfold klt
    dsimp only
    split <;> split <;> simp only [decide_eq_false_iff_not] at * <;> omega
end Mine
end
/-! ## MExc -/
section
open PySem PySem.W PyProof.Rows PySem.Calls Builtin Builtin.Str Builtin.BaseException Builtin.Exceptions
namespace Mine
section
variable {prog : Program} {w : World} {A : Around} {E : Value → Shared → Prop} {s : Shared} {K : Frag} {e t C : Addr} {oe : Obj} {ws : Array Value}
/-- str() of an exception of an own class that holds one text -/
theorem call_ownStr {m : Str} {tk : Tok} {Q : Value → Shared → Prop} (X : K.In s.heap) (he : s.heap.get? e = some oe) (hc : oe.cls = .ref C) (hd : oe.data = .fields ws) (h0 : ws[0]? = some (.ref t)) (ht : s.heap.TupAt t [.str m tk])
    (hsub : subIn K (.ref C) (.type "BaseException") = some true) (hq : Q (.str m tk) s) : wpAny (model prog w) A (call (.builtin "BaseException.__str__") [.ref e]) Q E s := by
  have hty : Looks (model prog w) s.heap (typeOf (.ref e)) (.ref C) := hc ▸ (Looks.ld he).andThen .now
  refine wpAny_call (codeAny_call_builtin (by decide +kernel) PySem.F.entry_bexc_str ?_)
  have hsplit : splitId "BaseException.__str__" = some ("BaseException", "__str__") := by decide +kernel
  have hkind : builtinKind "BaseException.__str__" = some .slot := by
    simp only [builtinKind, hsplit]; decide +kernel
  simp only [checkBuiltinCall, hkind, hsplit]
  have args : wpAny (model prog w) A.in1 (bexcArgs (.ref e)) (fun r s' => r = (.ref t, [.str m tk]) ∧ s' = s) (fun _ _ => False) s := by
    obtain ⟨ot, k, hto, _, htd⟩ := ht
    unfold bexcArgs
    refine wpAny_bind (wpAny_field he hd h0 (wpAny_bind (wpAny_seqItems hto htd ?_)))
    exact wpAny_pure ⟨rfl, rfl⟩
  refine wpAny_bind (wpAny_bind (hty.here ((looks_subIn X hsub).here ?_)))
  simp only [Bool.not_true, Bool.false_eq_true, if_false]
  have ha := PySem.F.args_bexc_str (.ref e)
  have entry : wpAny (model prog w) A.in1 (Builtin.«BaseException.__str__» ⟨[.ref e], []⟩) (fun fin s' => fin = .done (.ret (.str m tk)) ∧ s' = s) (fun _ _ => False) s := by
    unfold Builtin.«BaseException.__str__»
    show wpAny _ _ (bexcArgs (.ref e) >>= _) _ _ s
    refine wpAny_bind (wpAny_mono args (fun r s' hr => ?_) fun _ _ x => x)
    obtain ⟨rfl, rfl⟩ := hr
    dsimp only
    refine wpAny_bind (wpAny_rule ?_)
    exact wpAny_bind (wpAny_pure (wpAny_pure ⟨rfl, rfl⟩))
  have fin : ∀ {t : Sem Unit}, t = pure () → wpAny (model prog w) A.in1 t (fun _ s₁ => wpAny (model prog w) A.in1 (Builtin.«BaseException.__str__» ⟨[.ref e], []⟩) (fun fin s' => match fin with | .done f => (match (Except.ok f : Result) with | .ok (.ret v) => Q v s' | .ok _ => False | .error e => E e s') | .again c' => c'.quiet = true ∧ codeAny (model prog w) A c' (fun r s' => match r with | .ok (.ret v) => Q v s' | .ok _ => False | .error e => E e s') s') (fun e s' => E e s') s₁) (fun e s' => E e s') s := by
    rintro t rfl
    refine wpAny_pure (wpAny_mono entry (fun r s' hr => ?_) fun _ _ x => x.elim)
    obtain ⟨rfl, rfl⟩ := hr
    exact hq
  cases hsig : Manifest.signature? "BaseException.__str__" with
  | none => exact fin rfl
  | some sig =>
    simp only [argsOk, hsig] at ha
    exact fin ha
theorem own_strOf {m : Str} {tk : Tok} {Q : Value → Shared → Prop} (hu : A.units < cLine) (X : K.In s.heap) (he : s.heap.get? e = some oe) (hc : oe.cls = .ref C) (hd : oe.data = .fields ws) (h0 : ws[0]? = some (.ref t)) (ht : s.heap.TupAt t [.str m tk])
    (hs : findIn K (.ref C) "__str__" = some (some (.builtin "BaseException.__str__"))) (hsub : subIn K (.ref C) (.type "BaseException") = some true) (hq : Q (.str m tk) s) : wpAny (model prog w) A (PySem.Builtin.Str.strOf (.ref e)) Q E s := by
  have hty : Looks (model prog w) s.heap (typeOf (.ref e)) (.ref C) := hc ▸ (Looks.ld he).andThen .now
  unfold PySem.Builtin.Str.strOf
  rw [show isExactStr (.ref e) = false from rfl]
  refine wpAny_bind (m := cRoomFor _ _) (wpAny_cRoomFor hu ?_)
  refine wpAny_bind (m := callSpecial? (.ref e) (Str.ofString "__str__")) ?_
  refine wpAny_bind (wpAny_bind (hty.here ((looks_findIn X hs).here (wpAny_holding (wpAny_bind ?_)))))
  rw [PySem.F.excStr_Exception.str.bind (.ref e)]
  refine wpAny_pure (wpAny_bind ?_)
  refine call_ownStr X he hc hd h0 ht hsub ?_
  exact wpAny_pure (wpAny_pure hq)
theorem own_str {m : Str} {tk : Tok} {Q : Value → Shared → Prop} (hu : A.in1.in1.units < cLine) (X : K.In s.heap) (he : s.heap.get? e = some oe) (hc : oe.cls = .ref C) (hd : oe.data = .fields ws) (h0 : ws[0]? = some (.ref t)) (ht : s.heap.TupAt t [.str m tk])
    (hs : findIn K (.ref C) "__str__" = some (some (.builtin "BaseException.__str__"))) (hsub : subIn K (.ref C) (.type "BaseException") = some true) (hq : Q (.str m tk) s) : wpAny (model prog w) A (call (.type "str") [.ref e]) Q E s := by
  refine callType_codes (T := "str") (Bi := Builtin.«object.__init__») (Q₁ := fun r s₁ => ∃ y u, r = .str y u ∧ Q r s₁) PySem.F.called_str (PySem.F.typeCall_str_1 _) PySem.F.entry_object_init ?_ ?_
  · refine codeAny_of_tree ?_
    show wpAny _ A.in1.in1 (do checkBuiltinCall "str.__new__" ⟨[.type "str", .ref e], []⟩; again (.builtin "str.__new__" ⟨[.type "str", .ref e], []⟩)) _ _ s
    refine wpAny_bind (wpAny_of_eq (PySem.F.newCall_str_1 _) (wpAny_pure ⟨plainId_quiet (by decide +kernel) _, codeAny_builtin PySem.F.entry_str_new ?_⟩))
    rw [Around.under_plainId (by decide +kernel) _, str_new_tree]
    refine wpAny_bind (wpAny_pure (wpAny_bind (wpAny_of_eq isSubtype_str_str ?_)))
    exact wpAny_bind (own_strOf hu X he hc hd h0 ht hs hsub (wpAny_pure ⟨_, _, rfl, hq⟩))
  · rintro obj s₁ ⟨y, u, rfl, hq⟩
    exact ⟨typeIs_str _ _ _, PySem.F.args_object_init_2 _ _, object_init_meets PySem.F.called_str.init.lookup PySem.F.called_str.made (by decide) prog w A.in1 _ s₁ ⟨typeIs_str _ _ _, rfl, hq⟩⟩
/-- the same by what the catching rules hand on -/
theorem own_str_got {h₀ : Heap} {L : Addr} {F : Str → Option Value} {news : Led} {m : Str} {tk : Tok} {Q : Value → Shared → Prop} (hu : A.in1.in1.units < cLine) (Fr' : Fr h₀ L s.heap F) (X : K.In h₀) (N : News h₀ L s.heap news) (G : Got news e t (.ref C) [.str m tk])
    (hs : findIn K (.ref C) "__str__" = some (some (.builtin "BaseException.__str__"))) (hsub : subIn K (.ref C) (.type "BaseException") = some true) (hq : Q (.str m tk) s) : wpAny (model prog w) A (call (.type "str") [.ref e]) Q E s := by
  obtain ⟨oe, ot, ws, nt, h1, h2, h3, h4, h5, h6, h7⟩ := G
  exact own_str hu (X.keeps Fr'.keep) (N _ h1).1 h3 h4 h5 ⟨ot, nt, (N _ h2).1, h6, h7⟩ hs hsub hq
end
end Mine
end
/-! ## MTurn -/
section
open PySem PySem.W PySem.Calls PyProof.Rows
namespace Mine
/-- the site of a call, behind it: the ground may have turned at the frames below -/
def Back (A₀ : Around) (base : Heap) (outer : List Env) (K : Frag) (p : Program) (loose : List Str) (mean : ExcName → Option Value) (mg mb : Str → Option Value) (h₀ : Heap) (L : Addr) (m : Str → Option Value) (hf : Heap) (news : Led) : Prop :=
  ∃ h₀', KtsTurn (outer.filterMap (·.frame)) h₀ h₀' ∧ Fr h₀' L hf m ∧ News h₀' L hf news ∧ Below A₀ base outer h₀' ∧ K.In h₀' ∧ Top p loose mean mg mb h₀' ∧ KtsDicts (outer.filterMap (·.frame)) h₀'
section
variable {prog : Program} {w : World} {A₀ A : Around} {s : Shared} {base h₀ : Heap} {outer : List Env} {env : Env} {L : Addr} {m : Str → Option Value} {news : Led} {K : Frag} {p : Program} {loose : List Str} {mean : ExcName → Option Value} {mg mb : Str → Option Value}
    {R : Result → Shared → Prop} {name qual : Str} {params : Arguments} {body : List Stmt} {scope : Scope} {dV kV doc pm cdv ct oc : Value} {an od : Option Addr} {osl : Array (Option Value)} {f : Addr} {args : Args} {binds : List (Str × Value)}
theorem frame_mem {b : Addr} (hf : env.frame = some L) (hm : b ∈ (env :: outer).filterMap (·.frame)) : b = L ∨ b ∈ outer.filterMap (·.frame) := by
  rw [List.filterMap_cons, hf] at hm
  exact List.mem_cons.mp hm
theorem codeC_enter (B : Below A₀ base outer h₀) (F : Fr h₀ L s.heap m) (X₀ : K.In h₀) (N : News h₀ L s.heap news) (T : Top p loose mean mg mb h₀) (XB : K.In base) (TB : Top p loose mean mg mb base) (D : KtsDicts (outer.filterMap (·.frame)) h₀)
    (hA : A.frames = some (env :: outer)) (hf : env.frame = some L) (hke : env.scope.kind = .function)
    (ho : K.lookup f = some ⟨oc, od, .func (fnOf name qual params body scope dV kV doc pm an cdv ct), osl⟩) (hcd : codeIn K cdv qual = true) (hroom : A.depth < recursionLimit)
    (hbind : BindsTo s (fnOf name qual params body scope dV kV doc pm an cdv ct) args binds) (hloc : ∀ y ∈ binds, scope.names.lookup y.1 = some .local)
    (h : ∀ g L' h₁, Fr h₀ L g m → Fr g L' h₁ (fun y => binds.reverse.lookup y) → News g L' h₁ news → Below A base (env :: outer) g → K.In g → Top p loose mean mg mb g → KtsDicts ((env :: outer).filterMap (·.frame)) g →
      (∀ g' Lc mc news' hf', KtsTurn ((env :: outer).filterMap (·.frame)) g g' → Fr g' Lc hf' mc → News g' Lc hf' news' → Back A₀ base outer K p loose mean mg mb h₀ L m hf' news') →
      wpC (model prog w) (A.deeper (envOf qual scope L' f cdv)) (execs body (envOf qual scope L' f cdv)) (fun fl s' => R (.ok (.ret (match fl with | .ret v => v | _ => .none))) s')
        (fun e s' => wpAny (model prog w) (A.deeper (envOf qual scope L' f cdv)) (leaving (envOf qual scope L' f cdv) e) (fun _ s'' => R (.error e) s'') (fun e' s'' => R (.error e') s'') s')
        { s with heap := h₁, toks := s.toks + binds.length })
    (hco : scope.isCoroutine = false) (hgen : scope.isGenerator = false) (hk : scope.kind = .function) (hcell : ∀ x ∈ scope.names, x.2 ≠ .cell) : codeC (model prog w) A (.call (.ref f) args) R s := by
  have X := X₀.keeps F.keep
  refine codeC_call_def (fd := fnOf name qual params body scope dV kV doc pm an cdv ct) (body := body) (binds := binds) hroom (X _ _ ho) rfl (T.nolimit.keeps F.keep) (codeRec_of X hcd) rfl hbind hcell hloc (fun h₁ hns hk₁ => ?_) hco hgen hk
  have nm : ∀ b o, h₀.get? b = some o → b ∉ news.map (·.1) := fun b o e q => by
    obtain ⟨p, hp, rfl⟩ := List.mem_map.mp q
    rw [(N p hp).2.2] at e; cases e
  have st : h₀.StaysIn (hideAll s.heap (news.map (·.1))) := fun b o e => hideAll_get _ (F.keep b o e) (nm b o e)
  obtain ⟨oL, es, ep, hL, hLd, hLk, hLf⟩ := F.ns
  have nL : L ∉ news.map (·.1) := fun q => by
    obtain ⟨p, hp, e⟩ := List.mem_map.mp q
    exact (N p hp).2.1 e
  have hLg := hideAll_get (news.map (·.1)) hL nL
  have nL₀ : h₀.get? L = none := kts_self F
  have nLb : base.get? L = none := by
    cases q : base.get? L with
    | none => rfl
    | some o => rw [B.stays _ _ q] at nL₀; cases nL₀
  have B₂ : Below A base (env :: outer) (hideAll s.heap (news.map (·.1))) := ⟨hA, fun b o e => st b o (B.stays b o e), ⟨by rw [hke]; decide, ⟨L, oL, hf, nLb, hLg, by rw [hLd]; intro vs q; cases q⟩, B.frames.of_keeps fun b o e _ => ⟨o, st b o e, rfl⟩⟩⟩
  have D₂ : KtsDicts ((env :: outer).filterMap (·.frame)) (hideAll s.heap (news.map (·.1))) := fun b hb => by
    rcases frame_mem hf hb with rfl | hb
    · exact ⟨oL, es, ep, hLg, hLd⟩
    · obtain ⟨o, es', n', ho', hd'⟩ := D b hb
      exact ⟨o, es', n', st b o ho', hd'⟩
  refine h _ s.heap.objs.size h₁ ⟨⟨oL, es, ep, hLg, hLd, hLk, hLf⟩, st, F.above⟩ ⟨hns, fun b o e => hk₁ b o (of_hideAll _ e), Nat.le_of_eq (hideAll_size _ _)⟩
    (fun p hp => ⟨hk₁ _ _ (N p hp).1, Nat.ne_of_lt (Heap.lt_size (N p hp).1), hideAll_none _ (List.mem_map_of_mem hp)⟩) B₂ (X₀.keeps st) (T.keeps st) D₂ ?_
  intro g' Lc mc news' hf' T' F' N'
  obtain ⟨sl, hs⟩ := T'.up hLg
  obtain ⟨T₁, S₁⟩ := kts_turn_at (h := hf') (fs := outer.filterMap (·.frame)) (g := h₀)
    (fun b hb => by
      obtain ⟨_, o, ho', _⟩ := B.frames.mem hb
      exact ⟨o, ho'⟩)
    (fun b o e nmem => F'.keep b o (T'.other b o (st b o e) (fun q => by
      rcases frame_mem hf q with z | z
      · rw [z, nL₀] at e
        cases e
      · exact nmem z)))
    (fun b o e hm => by
      obtain ⟨sl', hs'⟩ := T'.up (st b o e)
      exact ⟨sl', F'.keep _ _ hs'⟩)
  have B₃ : Below A₀ base outer (ktsHeap hf' (outer.filterMap (·.frame)) h₀) := ⟨B.stack, fun b o e => T₁.other b o (B.stays b o e) (fun hm => by
    rw [(B.frames.mem hm).1] at e
    cases e), B.frames.of_keeps fun b o e _ => by
    obtain ⟨sl', hs'⟩ := T₁.up e
    exact ⟨_, hs', rfl⟩⟩
  refine ⟨_, T₁, ⟨⟨_, es, ep, F'.keep _ _ hs, hLd, hLk, hLf⟩, S₁, by rw [T₁.size]; exact F.above⟩, (fun p hp => ⟨(N' p hp).1, fun q => ?_, ?_⟩), B₃, XB.keeps B₃.stays, TB.keeps B₃.stays, D.turn T₁⟩
  · have := (N' p hp).2.2; rw [q, hs] at this; cases this
  · refine T₁.none_ _ ?_
    cases q : h₀.get? p.1 with
    | none => rfl
    | some o =>
      obtain ⟨sl', hs'⟩ := T'.up (st _ _ q)
      have := (N' p hp).2.2
      rw [hs'] at this
      cases this
end
section
variable {M : Model} {A : Around} {E : Value → Shared → Prop} {s : Shared} {K : Frag} {env : Env} {pos : Pos} {f : Value} {first : List Value} {Q : Value → Shared → Prop}
theorem wpC_callWith_K {h₀ : Heap} {e : PySem.Expr} {rest : List PySem.Expr} (_X : K.In h₀) (hk : keepIn K f = true) (h : wpAny M A (spliced (backTo pos (starEach (e :: rest) env))) (fun vs s₁ => K.In s₁.heap ∧ wpC M A (call f (first ++ vs)) Q E s₁) E s)
    (he : starEach (e :: rest) env = (false, eval e env) :: starEach rest env := by rfl) (hplain : (backTo pos (starEach rest env)).any (·.1) = false := by rfl) :
    wpC M A (callWith pos f first (backTo pos (starEach (e :: rest) env)) []) Q E s := by
  rw [he] at h ⊢
  exact wpC_callWith (by show (false || (backTo pos (starEach rest env)).any (·.1)) = false; rw [hplain]; rfl) (keeps_K hk) (evalArgs_plain h)
theorem wpC_callWith_type {T : String} {e : PySem.Expr} {rest : List PySem.Expr} (h : wpAny M A (spliced (backTo pos (starEach (e :: rest) env))) (fun vs s₁ => wpC M A (call (.type T) (first ++ vs)) Q E s₁) E s)
    (he : starEach (e :: rest) env = (false, eval e env) :: starEach rest env := by rfl) (hplain : (backTo pos (starEach rest env)).any (·.1) = false := by rfl) :
    wpC M A (callWith pos (.type T) first (backTo pos (starEach (e :: rest) env)) []) Q E s := by
  rw [he] at h ⊢
  exact wpC_callWith (P := fun _ => True) (by show (false || (backTo pos (starEach rest env)).any (·.1)) = false; rw [hplain]; rfl) (fun h _ => ⟨_, .inr (.inl rfl), Looks.of_pure rfl⟩) (evalArgs_plain (wpAny_mono h (fun _ _ x => ⟨trivial, x⟩) fun _ _ x => x))
theorem execs_split (n : Nat) (b : List Stmt) : execs b env = execs (b.take n ++ b.drop n) env := by rw [List.take_append_drop]
end
theorem hideC {α : Type} {M : Model} {A : Around} {t : Sem α} {Q : α → Shared → Prop} {E : Value → Shared → Prop} {s : Shared} (h : ∀ Q' : α → Shared → Prop, (∀ v s', Q v s' → Q' v s') → wpC M A t Q' (fun _ _ => False) s) : wpC M A t Q E s :=
  wpC_mono (h Q fun _ _ x => x) (fun _ _ x => x) fun _ _ x => x.elim
theorem hideA {α : Type} {M : Model} {A : Around} {t : Sem α} {Q : α → Shared → Prop} {E : Value → Shared → Prop} {s : Shared} (h : ∀ Q' : α → Shared → Prop, (∀ v s', Q v s' → Q' v s') → wpAny M A t Q' (fun _ _ => False) s) : wpAny M A t Q E s :=
  wpAny_mono (h Q fun _ _ x => x) (fun _ _ x => x) fun _ _ x => x.elim
theorem hideCE {α : Type} {M : Model} {A : Around} {t : Sem α} {Q : α → Shared → Prop} {E : Value → Shared → Prop} {s : Shared} (h : ∀ (Q' : α → Shared → Prop) (E' : Value → Shared → Prop), (∀ v s', Q v s' → Q' v s') → (∀ e s', E e s' → E' e s') → wpC M A t Q' E' s) : wpC M A t Q E s := h Q E (fun _ _ x => x) fun _ _ x => x
theorem cutA {M : Model} {A : Around} {E : Value → Shared → Prop} {s : Shared} {env : Env} {pre rest : List Stmt} {Q : Flow → Shared → Prop} (I : Shared → Prop) (h : ∀ Q' : Flow → Shared → Prop, (∀ s', I s' → Q' .next s') → wpAny M A (execs pre env) Q' (fun _ _ => False) s)
    (hr : ∀ s', I s' → wpAny M A (execs rest env) Q E s') : wpAny M A (execs (pre ++ rest) env) Q E s := fun Γ p hΓ => by
  refine wp_execs_app pre p s (Sem.wp_mono M Γ _ (fun f p' s' h' => ?_) (fun _ _ _ h' => h'.elim) _ _ (h (fun f s' => match f with | .next => I s' | _ => False) (fun _ x => x) Γ p hΓ))
  cases f with
  | next => exact hr s' h' Γ p' hΓ
  | brk => exact h'.elim
  | cont => exact h'.elim
  | ret v => exact h'.elim
theorem cutC {M : Model} {A : Around} {E : Value → Shared → Prop} {s : Shared} {env : Env} {pre rest : List Stmt} {Q : Flow → Shared → Prop} (I : Shared → Prop) (h : ∀ Q' : Flow → Shared → Prop, (∀ s', I s' → Q' .next s') → wpAny M A (execs pre env) Q' (fun _ _ => False) s)
    (hr : ∀ s', I s' → wpC M A (execs rest env) Q E s') : wpC M A (execs (pre ++ rest) env) Q E s :=
  wpC_execs_app (wpAny_mono (h (fun f s' => match f with | .next => I s' | _ => False) fun _ x => x) (fun f s' q => by
    cases f with
    | next => exact hr s' q
    | brk => exact q.elim
    | cont => exact q.elim
    | ret v => exact q.elim) fun _ _ x => x.elim)
theorem cutR {M : Model} {A : Around} {E : Value → Shared → Prop} {s : Shared} {env : Env} {pre rest : List Stmt} {Q : Flow → Shared → Prop} (I : Shared → Prop) (h : ∀ Q' : Flow → Shared → Prop, (∀ s', I s' → Q' .next s') → (∀ v s', Q (.ret v) s' → Q' (.ret v) s') → wpAny M A (execs pre env) Q' E s)
    (hr : ∀ s', I s' → wpAny M A (execs rest env) Q E s') : wpAny M A (execs (pre ++ rest) env) Q E s := fun Γ p hΓ => by
  refine wp_execs_app pre p s (Sem.wp_mono M Γ _ (fun f p' s' h' => ?_) (fun _ _ _ h' => h') _ _ (h (fun f s' => match f with | .next => I s' | f => Q f s') (fun _ x => x) (fun _ _ x => x) Γ p hΓ))
  cases f with
  | next => exact hr s' h' Γ p' hΓ
  | brk => exact h'
  | cont => exact h'
  | ret v => exact h'
end Mine
end
section
open PySem PySem.W PyProof.Rows
namespace Mine
local macro_rules | `(tactic| walk_at $x:str) => if x.getString == "call ref" then `(tactic| with_reducible refine halt_f 93 ?_) else if x.getString == "call type:str" then `(tactic| (k_dflt (refine' own_str_got ?u ?F ?X ?N ?G ?s ?b ?_; (case G => assumption); (case N => assumption); (case F => k_asm); (case X => k_asm); (case s => k_is); (case b => k_is); (case u => first | exact room (by assumption) 5 (by decide) | ktr_units)))) else Lean.Macro.throwUnsupported
/-! ## MRead -/
section
open PySem PySem.W PyProof.Rows
set_option maxRecDepth 100000
theorem fill5 : PySem.Challenge.rw_mr0107_01 = PySem.Challenge.rw_mr0107_01 ∧ hd.heap_39 = hd.heap_39 := by
  k_fill
  w_top off
  exact ⟨rfl, rfl⟩
abbrev BackM (w : World) (A₀ : Around) (base : Heap) (outer : List Env) (mean : ExcName → Option Value) (mg mb : Str → Option Value) (h₀ : Heap) (L : Addr) (m : Str → Option Value) (hf : Heap) (news : Led) : Prop :=
  Back A₀ base outer (hd.heap_39 w.params) hd.view_39 (looseW hd.view_39 []) mean mg mb h₀ L m hf news
/-- a call that may turn the frames below, under the claim's caller: what it gives -/
def CtrT {σ : Type} (w : World) (mean : ExcName → Option Value) (mg mb : Str → Option Value) (f : Addr) (dep : Nat) (news : Led) (vs : List Value)
    (Out : σ → Prop) (ret : σ → Value) (led : σ → Led) : Prop :=
  ∀ (dp un : Nat) (gd : Option (List Code)) (cn : Str) (cs : Scope) (a : Addr) (ccd : Value) (cl : List (Str × Addr)) (outer : List Env) (A₀ : Around) (base h₀ : Heap) (L : Addr) (m : Str → Option Value) (s : Shared) (Q E : Value → Shared → Prop),
    Below A₀ base outer h₀ → Fr h₀ L s.heap m → (hd.heap_39 w.params).In h₀ → News h₀ L s.heap news → Top hd.view_39 (looseW hd.view_39 []) mean mg mb h₀ → cs.kind = .function →
    (hd.heap_39 w.params).In base → Top hd.view_39 (looseW hd.view_39 []) mean mg mb base → KtsDicts (outer.filterMap (·.frame)) h₀ →
    dp + dep < recursionLimit → un + 8 * dep < cLine →
    (∀ o h' tk', Out o → BackM w A₀ base outer mean mg mb h₀ L m h' (led o) → Q (ret o) { s with heap := h', toks := tk' }) →
    wpC (model PR w) (ktrTop dp un gd cn cs L a ccd cl outer) (call (.ref f) vs) Q E s
inductive ROut where
  | reply
  | proto
  | value
  | port (n : Int)
def rl (x : Str) : Int := Txt.find x (Str.ofString "(")
def rr (x : Str) : Int := Txt.find3 x (Str.ofString ")") (rl x + 1)
def rparts (x : Str) : List Str := Txt.split (Txt.slice x (some (rl x + 1)) (some (rr x))) (Txt.item x (rl x + 1))
/-- what parse229 makes of a reply -/
def readOut (x : Str) : ROut :=
  if Txt.slice x none (some 3) ≠ Str.ofString "229" then .reply
  else if rl x < 0 then .proto
  else if rr x < 0 then .proto
  else if Txt.item x (rl x + 1) ≠ Txt.item x (rr x - 1) then .proto
  else if (rparts x).length ≠ 5 then .proto
  else match PySem.intText? ((rparts x).getD 3 Str.empty) with
    | some n => .port n
    | none => .value
/-- what _law_read hands back -/
inductive RGot (reply host : Str) (t1 t2 : Tok) (news : Led) : ROut → Value × Led → Prop where
  | reply {a : Addr} {t : Tok} : (∀ p ∈ news, p.1 < a) → RGot reply host t1 t2 news .reply (.ref a, (a, listOf [.str (Str.ofString "reply") t, .str reply t1].toArray 0) :: news)
  | proto {a : Addr} {t : Tok} : (∀ p ∈ news, p.1 < a) → RGot reply host t1 t2 news .proto (.ref a, (a, listOf [.str (Str.ofString "proto") t, .str reply t1].toArray 0) :: news)
  | value {a : Addr} {t : Tok} : (∀ p ∈ news, p.1 < a) → RGot reply host t1 t2 news .value (.ref a, (a, listOf [.str (Str.ofString "value") t].toArray 0) :: news)
  | port {a : Addr} {t : Tok} {n : Int} : (∀ p ∈ news, p.1 < a) → RGot reply host t1 t2 news (.port n) (.ref a, (a, tupOf [.str host t2, .int n t] 0) :: news)
theorem find_in {x : Str} (h : 0 ≤ rl x) : rl x + 1 ≤ x.length := by
  rcases fact_find x (Str.ofString "(") with e | e
  · unfold rl at h; omega
  · exact e.2
theorem rr_in {x : Str} (h : 0 ≤ rl x) (h2 : 0 ≤ rr x) : rl x + 1 ≤ rr x ∧ rr x < x.length := by
  have e : Str.ofString ")" = ⟨#[41]⟩ := by decide +kernel
  unfold rr at *
  rw [e] at h2 ⊢
  rcases StrLaws.find3_spec x 41 (rl x + 1) with ⟨h', _⟩ | ⟨k, h', h3, h4, _⟩
  · omega
  · unfold fromIndex at h3
    rw [if_neg (by omega)] at h3
    omega
theorem ro_reply {x : Str} (h : (Txt.slice x none (some 3) != Str.ofString "229") = true) : readOut x = .reply := by
  unfold readOut; rw [if_pos (by simpa using h)]
theorem ro_noleft {x : Str} (h : (Txt.slice x none (some 3) != Str.ofString "229") = false) (h1 : Txt.find x (Str.ofString "(") < 0) : readOut x = .proto := by
  unfold readOut; rw [if_neg (by simpa using h), if_pos (show rl x < 0 from h1)]
theorem ro_noright {x : Str} (h : (Txt.slice x none (some 3) != Str.ofString "229") = false) (h1 : ¬ Txt.find x (Str.ofString "(") < 0) (h2 : Txt.find3 x (Str.ofString ")") (Txt.find x (Str.ofString "(") + 1) < 0) : readOut x = .proto := by
  unfold readOut; rw [if_neg (by simpa using h), if_neg (show ¬ rl x < 0 from h1), if_pos (show rr x < 0 from h2)]
theorem ro_marks {x : Str} (h : (Txt.slice x none (some 3) != Str.ofString "229") = false) (h1 : ¬ Txt.find x (Str.ofString "(") < 0) (h2 : ¬ Txt.find3 x (Str.ofString ")") (Txt.find x (Str.ofString "(") + 1) < 0)
    (h3 : (Txt.item x (Txt.find x (Str.ofString "(") + 1) != Txt.item x (Txt.find3 x (Str.ofString ")") (Txt.find x (Str.ofString "(") + 1) - 1)) = true) : readOut x = .proto := by
  unfold readOut; rw [if_neg (by simpa using h), if_neg (show ¬ rl x < 0 from h1), if_neg (show ¬ rr x < 0 from h2), if_pos (show Txt.item x (rl x + 1) ≠ Txt.item x (rr x - 1) from by (have h3 := h3; simp only [bne_iff_ne, ne_eq, bne_eq_false_iff_eq] at h3; first | exact h3 | exact fun q => q h3))]
theorem ro_parts {x : Str} (h : (Txt.slice x none (some 3) != Str.ofString "229") = false) (h1 : ¬ Txt.find x (Str.ofString "(") < 0) (h2 : ¬ Txt.find3 x (Str.ofString ")") (Txt.find x (Str.ofString "(") + 1) < 0)
    (h3 : (Txt.item x (Txt.find x (Str.ofString "(") + 1) != Txt.item x (Txt.find3 x (Str.ofString ")") (Txt.find x (Str.ofString "(") + 1) - 1)) = false) (h4 : (rparts x).length ≠ 5) : readOut x = .proto := by
  unfold readOut; rw [if_neg (by simpa using h), if_neg (show ¬ rl x < 0 from h1), if_neg (show ¬ rr x < 0 from h2), if_neg (show ¬ Txt.item x (rl x + 1) ≠ Txt.item x (rr x - 1) from by (have h3 := h3; simp only [bne_iff_ne, ne_eq, bne_eq_false_iff_eq] at h3; first | exact h3 | exact fun q => q h3)), if_pos h4]
theorem ro_int {x : Str} (h : (Txt.slice x none (some 3) != Str.ofString "229") = false) (h1 : ¬ Txt.find x (Str.ofString "(") < 0) (h2 : ¬ Txt.find3 x (Str.ofString ")") (Txt.find x (Str.ofString "(") + 1) < 0)
    (h3 : (Txt.item x (Txt.find x (Str.ofString "(") + 1) != Txt.item x (Txt.find3 x (Str.ofString ")") (Txt.find x (Str.ofString "(") + 1) - 1)) = false) (h4 : (rparts x).length = 5) :
    readOut x = match PySem.intText? ((rparts x).getD 3 Str.empty) with | some n => .port n | none => .value := by
  unfold readOut; rw [if_neg (by simpa using h), if_neg (show ¬ rl x < 0 from h1), if_neg (show ¬ rr x < 0 from h2), if_neg (show ¬ Txt.item x (rl x + 1) ≠ Txt.item x (rr x - 1) from by (have h3 := h3; simp only [bne_iff_ne, ne_eq, bne_eq_false_iff_eq] at h3; first | exact h3 | exact fun q => q h3)), if_neg (by omega)]
theorem back_drop {w : World} {A₀ : Around} {base : Heap} {outer : List Env} {mean : ExcName → Option Value} {mg mb : Str → Option Value} {h₀ : Heap} {L : Addr} {m : Str → Option Value} {hf : Heap} {news news' : Led}
    (h : BackM w A₀ base outer mean mg mb h₀ L m hf news) (hs : ∀ p ∈ news', p ∈ news) : BackM w A₀ base outer mean mg mb h₀ L m hf news' := by
  obtain ⟨h1, a1, a2, a3, a4⟩ := h
  exact ⟨h1, a1, a2, fun p hp => a3 p (hs p hp), a4⟩
theorem tup_at {prog : Program} {w : World} {A : Around} {E : Value → Shared → Prop} {s : Shared} {h₀ : Heap} {L D : Addr} {news : Led} {value slice : PySem.Expr} {vs : List Value} {n : Nat} {k : Nat} {u : Tok} {x : Value} {Q : Value → Shared → Prop}
    (N : News h₀ L s.heap news) (hm : (D, tupOf vs n) ∈ news) (hx : vs[k]? = some x) (hb : vs.length ≤ 1000) (h : Q x s)
    (hs : subscripted slice false (.ref D) (.int (k : Int) u) = operate [.ref D, .int (k : Int) u] (getItem (.ref D) (.int (k : Int) u)) := by with_unfolding_all rfl) (hg : ∀ r, letTemporaryGo value (.ref D) r = pure () := by intro _; with_unfolding_all rfl) :
    wpAny (model prog w) A (subscriptTail value slice (.ref D) (.int (k : Int) u)) Q E s := by
  have hl := (List.getElem?_eq_some_iff.mp hx).1
  refine kim_tup (l := vs) (j := k) N hm rfl rfl (by omega) (by omega) ?_ hx h hs hg
  unfold seqIndex?
  simp
  omega
theorem drop2 {α : Type} {a b : α} {c : List α} : ∀ p ∈ a :: c, p ∈ a :: b :: c := fun p hp => by
  rcases List.mem_cons.mp hp with rfl | hp
  · exact .head _
  · exact .tail _ (.tail _ hp)
theorem allLt_mem {d : Addr} {l : Led} (h : AllLt d l) : ∀ p ∈ l, p.1 < d := kst_ltOf h
set_option maxHeartbeats 4000000 in
theorem read_ctr (w : World) (mean : ExcName → Option Value) (mg mb : Str → Option Value) (news : Led) (reply host : Str) (t1 t2 : Tok) (pa : Addr) (pr : List Value) (pn : Nat)
    (hlen : reply.length ≤ 300) (hpr : pr.length ≤ 10) (hpa : (pa, tupOf (.str host t2 :: pr) pn) ∈ news) (hv : readOut reply ≠ .value) :
    CtrT (σ := Value × Led) w mean mg mb 107 3 news [.str reply t1, .ref pa] (RGot reply host t1 t2 news (readOut reply)) (fun o => o.1) (fun o => o.2) := by
  intro dp un gd cn cs a ccd cl outer A₀ base h₀ L m s Q E B F X N T hk XB TB D hd hu hret
  refine wpC_call ?_
  k_dflt (refine' codeC_enter ?k1 ?k2 ?k3 ?k4 ?k5 ?XB ?TB ?D ?kA ?kf ?cK ?k6 ?k7 ?k8 ?k9 ?kB ?_ ?c2 ?c3 ?c4 ?c5; (case kA => exact rfl); (case k2 => k_asm); (case k1 => k_asm); (case kf => exact rfl); (case XB => assumption); (case TB => assumption); (case D => assumption); (case k3 => k_asm); (case k4 => k_asm); (case k5 => k_asm); (case k6 => k_is); (case k7 => k_is); (case k8 => first | exact room hd 0 (by decide) | exact room hd 1 (by decide) | exact room hd 2 (by decide) | exact room hd 3 (by decide) | exact room hd 4 (by decide) | exact room hd 5 (by decide) | (trace "KTRROOM"; ktr_room)); (case k9 => exact BindsTo.of_eq rfl); (case kB => exact locs rfl); (case cK => assumption); (case c2 => exact rfl); (case c3 => exact rfl); (case c4 => exact rfl); (case c5 => decide); k_whole; intro g' L' h' FG' F' N' B' X' T' D' back; (try dsimp only); (try k_lift B'))
  refine wpC_any ?_
  (try k_fold)
  k_steps
  refine go (wpAny_call ?_)
  k_dflt (refine' code_def ?k1 ?k2 ?k3 ?k4 ?k5 ?kA ?kF ?kK ?k6 ?k7 ?k8 ?k9 ?kB ?_ ?c2 ?c3 ?c4 ?c5; (case kA => exact rfl); (case kF => exact rfl); (case kK => exact rfl); (case k1 => k_asm); (case k2 => k_asm); (case k3 => k_asm); (case k4 => k_asm); (case k5 => k_asm); (case k6 => k_is); (case k7 => k_is); (case k8 => first | exact room hd 0 (by decide) | exact room hd 1 (by decide) | exact room hd 2 (by decide) | exact room hd 3 (by decide) | exact room hd 4 (by decide) | exact room hd 5 (by decide) | (trace "KTRROOM"; first | exact room hd 1 (by decide) | exact room hd 2 (by decide) | ktr_room)); (case k9 => exact BindsTo.of_eq rfl); (case c5 => decide); (case kB => exact locs rfl); (case c2 => exact rfl); (case c3 => exact rfl); (case c4 => exact rfl); k_whole; intro g' L' h' FG' F' N' B' X' T'; (try dsimp only); (try k_lift B'); (try k_fold))
  k_steps
  · refine hret (.ref _, (_, listOf [.str (Str.ofString "reply") _, .str reply t1].toArray 0) :: news) _ _ ?_ (back _ _ _ _ _ (by assumption) (by k_asm) (by k_asm))
    rw [ro_reply (by assumption)]
    exact RGot.reply (by assumption)
  · refine hret (.ref _, (_, listOf [.str (Str.ofString "proto") _, .str reply t1].toArray 0) :: news) _ _ ?_ (back _ _ _ _ _ (by assumption) (by k_asm) (by k_asm))
    rw [ro_noleft (by assumption) (by assumption)]
    exact RGot.proto (by assumption)
  · refine hret (.ref _, (_, listOf [.str (Str.ofString "proto") _, .str reply t1].toArray 0) :: news) _ _ ?_ (back _ _ _ _ _ (by assumption) (by k_asm) (by k_asm))
    rw [ro_noright (by assumption) (by assumption) (by assumption)]
    exact RGot.proto (by assumption)
  · rename_i hr _
    have e1 : 0 ≤ rl reply := by unfold rl; omega
    have e2 : 0 ≤ rr reply := by unfold rr rl; omega
    have b1 := find_in e1
    have b2 := rr_in e1 e2
    unfold rl at b1
    unfold rr rl at b2
    refine item_str (by unfold fitsSsize; simp; omega) (by omega) (by omega) (fun _ => ?_)
    k_steps
    · refine hret (.ref _, (_, listOf [.str (Str.ofString "proto") _, .str reply t1].toArray 0) :: news) _ _ ?_ (back _ _ _ _ _ (by assumption) (by k_asm) (by k_asm))
      rw [ro_marks (by assumption) (by assumption) (by assumption) (by assumption)]
      exact RGot.proto (by assumption)
    · rename List.map _ _ = Txt.split _ _ => hlk
      rename ((List.length _ : Nat) : Int) ≠ 5 => h5
      rename (_ < _ ∧ AllLt _ _) => hlt
      have h5' : (rparts reply).length ≠ 5 := by
        show (Txt.split _ _).length ≠ 5
        unfold rl rr rl
        rw [← hlk, List.length_map]
        omega
      rename News _ _ _ _ => lN
      rename Fr _ _ _ _ => lF
      have hb := back_drop (back _ _ _ _ _ (by assumption) lF lN) drop2
      refine hret (_, _) _ _ ?_ hb
      rw [ro_parts (by assumption) (by assumption) (by assumption) (by assumption) h5']
      exact RGot.proto (allLt_mem hlt.2)
    · refine tup_at (k := 0) (by k_asm) (by first | exact .tail _ hpa | exact hpa) rfl (by simp; omega) ?_
      k_steps
      rename List.map _ _ = Txt.split _ _ => hlk
      rename ((List.length _ : Nat) : Int) = 5 => h5
      rename (_[_]? = some _) => hy
      rename (∀ _ ∈ List.map _ _, _) => hle
      rename_i y _
      have h5' : (rparts reply).length = 5 := by
        show (Txt.split _ _).length = 5
        unfold rl rr rl
        rw [← hlk, List.length_map]
        omega
      have hy' : (rparts reply).getD 3 Str.empty = y := by
        show (Txt.split _ _).getD 3 _ = y
        unfold rl rr rl
        rw [← hlk, List.getD_eq_getElem?_getD]
        rw [show (3 : Nat) = Int.toNat 3 from rfl, hy]
        rfl
      have hyl : y.length ≤ 640 := by
        have := hle y (List.mem_of_getElem? hy)
        omega
      have hro := ro_int (x := reply) (by assumption) (by assumption) (by assumption) (by assumption) h5'
      rw [hy'] at hro
      cases hin : PySem.intText? y with
      | none => rw [hin] at hro; exact absurd hro hv
      | some n =>
        rw [hin] at hro
        refine KIN.call_text hin hyl ?_
        k_steps
        rename News _ _ _ _ => lN
        rename Fr _ _ _ _ => lF
        rename (_ < _ ∧ AllLt _ _) => hlt
        have hb := back_drop (back _ _ _ _ _ KtsTurn.refl lF lN) drop2
        refine hret (_, _) _ _ ?_ hb
        rw [hro]
        exact RGot.port (allLt_mem hlt.2)
end
end Mine
end
/-! ## MReadV -/
section
open PySem PySem.W PyProof.Rows
namespace Mine
set_option maxRecDepth 100000
theorem fill6 : PySem.Challenge.rw_mr0107_01 = PySem.Challenge.rw_mr0107_01 ∧ hd.heap_39 = hd.heap_39 := by
  k_fill
  w_top off
  exact ⟨rfl, rfl⟩
structure Hidden (P : Prop) : Prop where
  out : P
theorem ro_value {x : Str} (h : readOut x = .value) : (Txt.slice x none (some 3) != Str.ofString "229") = false ∧ ¬ Txt.find x (Str.ofString "(") < 0 ∧ ¬ Txt.find3 x (Str.ofString ")") (Txt.find x (Str.ofString "(") + 1) < 0 ∧
    (Txt.item x (Txt.find x (Str.ofString "(") + 1) != Txt.item x (Txt.find3 x (Str.ofString ")") (Txt.find x (Str.ofString "(") + 1) - 1)) = false ∧ (rparts x).length = 5 := by
  cases h0 : (Txt.slice x none (some 3) != Str.ofString "229") with
  | true => rw [ro_reply h0] at h; cases h
  | false =>
    by_cases h1 : Txt.find x (Str.ofString "(") < 0
    · rw [ro_noleft h0 h1] at h; cases h
    · by_cases h2 : Txt.find3 x (Str.ofString ")") (Txt.find x (Str.ofString "(") + 1) < 0
      · rw [ro_noright h0 h1 h2] at h; cases h
      · cases h3 : (Txt.item x (Txt.find x (Str.ofString "(") + 1) != Txt.item x (Txt.find3 x (Str.ofString ")") (Txt.find x (Str.ofString "(") + 1) - 1)) with
        | true => rw [ro_marks h0 h1 h2 h3] at h; cases h
        | false =>
          by_cases h4 : (rparts x).length = 5
          · exact ⟨rfl, h1, h2, rfl, h4⟩
          · rw [ro_parts h0 h1 h2 h3 h4] at h; cases h
set_option maxHeartbeats 4000000 in
theorem read_bad_ctr (w : World) (mean : ExcName → Option Value) (mg mb : Str → Option Value) (news : Led) (reply host : Str) (t1 t2 : Tok) (pa : Addr) (pr : List Value) (pn : Nat)
    (hlen : reply.length ≤ 300) (hpr : pr.length ≤ 10) (hpa : (pa, tupOf (.str host t2 :: pr) pn) ∈ news) (hv : readOut reply = .value)
    (hdig : Hidden (PySem.NumText.digits? 10 (PySem.NumText.core (numSeenOf ((rparts reply).getD 3 Str.empty))) = none ∧ (reprText ((rparts reply).getD 3 Str.empty)).length ≤ sizeLine)) :
    CtrT (σ := Value × Led) w mean mg mb 107 3 news [.str reply t1, .ref pa] (RGot reply host t1 t2 news .value) (fun o => o.1) (fun o => o.2) := by
  intro dp un gd cn cs a ccd cl outer A₀ base h₀ L m s Q E B F X N T hk XB TB D hd hu hret
  refine wpC_call ?_
  k_dflt (refine' codeC_enter ?k1 ?k2 ?k3 ?k4 ?k5 ?XB ?TB ?D ?kA ?kf ?cK ?k6 ?k7 ?k8 ?k9 ?kB ?_ ?c2 ?c3 ?c4 ?c5; (case kA => exact rfl); (case k2 => k_asm); (case k1 => k_asm); (case kf => exact rfl); (case XB => assumption); (case TB => assumption); (case D => assumption); (case k3 => k_asm); (case k4 => k_asm); (case k5 => k_asm); (case k6 => k_is); (case k7 => k_is); (case k8 => first | exact room hd 0 (by decide) | exact room hd 1 (by decide) | exact room hd 2 (by decide) | exact room hd 3 (by decide) | exact room hd 4 (by decide) | exact room hd 5 (by decide) | (trace "KTRROOM"; ktr_room)); (case k9 => exact BindsTo.of_eq rfl); (case kB => exact locs rfl); (case cK => first | assumption | exact rfl); (case c2 => exact rfl); (case c3 => exact rfl); (case c4 => exact rfl); (case c5 => decide); k_whole; intro g' L' h' FG' F' N' B' X' T' D' bk1; (try dsimp only); (try k_lift B'))
  refine hideC ?_
  intro QB hQB
  refine wpC_execs_cons (wpC_Try (wpC_execs_cons (wpC_Return_some (wpC_Call (wpC_any ?_)))))
  k_steps
  refine wpC_callWith_K (by assumption) (by k_dflt k_is) ?_
  k_steps
  refine wpC_call ?_
  k_dflt (refine' codeC_enter ?k1 ?k2 ?k3 ?k4 ?k5 ?XB ?TB ?D ?kA ?kf ?cK ?k6 ?k7 ?k8 ?k9 ?kB ?_ ?c2 ?c3 ?c4 ?c5; (case kA => exact rfl); (case k2 => k_asm); (case k1 => k_asm); (case kf => exact rfl); (case XB => assumption); (case TB => assumption); (case D => assumption); (case k3 => k_asm); (case k4 => k_asm); (case k5 => k_asm); (case k6 => k_is); (case k7 => k_is); (case k8 => first | exact room hd 0 (by decide) | exact room hd 1 (by decide) | exact room hd 2 (by decide) | exact room hd 3 (by decide) | exact room hd 4 (by decide) | exact room hd 5 (by decide) | (trace "KTRROOM"; ktr_room)); (case k9 => exact BindsTo.of_eq rfl); (case kB => exact locs rfl); (case cK => first | assumption | exact rfl); (case c2 => exact rfl); (case c3 => exact rfl); (case c4 => exact rfl); (case c5 => decide); k_whole; intro g' L' h' FG' F' N' B' X' T' D' bk2; (try dsimp only); (try k_lift B'))
  refine hideCE ?_
  intro Q2 E2 hQ2 hE2
  rw [execs_split 9]
  refine wpC_execs_app ?_
  simp only [List.take_succ_cons, List.take_zero, List.drop_succ_cons, List.drop_zero]
  obtain ⟨r0, r1, r2, r3, r4⟩ := ro_value hv
  k_steps
  have e1 : 0 ≤ rl reply := by unfold rl; omega
  have e2 : 0 ≤ rr reply := by unfold rr rl; omega
  have b1 := find_in e1
  have b2 := rr_in e1 e2
  unfold rl at b1
  unfold rr rl at b2
  refine item_str (by unfold fitsSsize; simp; omega) (by omega) (by omega) (fun _ => ?_)
  k_steps
  · exfalso
    rename List.map _ _ = Txt.split _ _ => hlk
    rename ((List.length _ : Nat) : Int) ≠ 5 => h5
    apply h5
    have : (Txt.split _ _).length = 5 := r4
    unfold rl rr rl at this
    rw [← hlk, List.length_map] at this
    omega
  · refine tup_at (k := 0) (by k_asm) (by first | exact .tail _ hpa | exact hpa) rfl (by simp; omega) ?_
    k_steps
    refine wpC_execs_cons (wpC_Assign_Name (wpC_Call (wpC_any ?_)))
    k_steps
    refine wpC_callWith_type ?_
    k_steps
    rename List.map _ _ = Txt.split _ _ => hlk
    rename (_[_]? = some _) => hy
    rename (∀ _ ∈ List.map _ _, _) => hle
    rename_i y _
    have hy' : (rparts reply).getD 3 Str.empty = y := by
      show (Txt.split _ _).getD 3 _ = y
      unfold rl rr rl
      rw [← hlk, List.getD_eq_getElem?_getD]
      rw [show (3 : Nat) = Int.toNat 3 from rfl, hy]
      rfl
    have hyl : y.length ≤ 640 := by
      have := hle y (List.mem_of_getElem? hy)
      omega
    have hdy := hdig.out
    rw [hy'] at hdy
    refine int_badC hdy.1 hyl rfl hdy.2 ?_
    clear hdy
    intro h9 tk9 e9 hne
    refine hE2 _ _ ?_
    (try dsimp only)
    k_steps
    rename News _ _ _ _ => lN
    rename Fr _ _ _ _ => lF
    rename (_ < _ ∧ AllLt _ _) => hlt
    have hb := back_drop (bk1 _ _ _ _ _ (by assumption) lF lN) drop2
    exact hQB _ _ (hret (_, _) _ _ (RGot.value (allLt_mem hlt.2)) hb)
end Mine
end
section
open PySem PySem.W PyProof.Rows
namespace Mine
local macro_rules | `(tactic| walk_at "ite") => `(tactic| first | with_reducible refine ite_tt ?_ | with_reducible refine ite_ff ?_ | (with_reducible refine split_ine ?_ ?_ <;> intro _) | (with_reducible refine split_ieq ?_ ?_ <;> intro _) | (refine split_dec ?_ ?_ <;> intro _) | (refine split_bool ?_ ?_ <;> intro _))
local macro_rules | `(tactic| walk_at "subscriptTail") => `(tactic| with_reducible refine halt_sub ?_)
local macro_rules | `(tactic| walk_at "exec Assign") => `(tactic| ((with_reducible show wpAny _ _ (exec (Stmt.Assign [Expr.Name _ _] _ _) _) _ _ _); refine wpAny_Assign_Name ?_))
local macro_rules | `(tactic| walk_at $x:str) => if ["call ref", "exec While", "exec For", "pyIter ref", "compareOp NotEq ref ref", "exec Assign cons ListComp", "eval ListComp", "call builtin:sorted", "call type:list", "compareOp Eq ref ref", "compareOp In int ref", "truthy ref", "call builtin:list.append"].contains x.getString then `(tactic| refine halt_in ?_) else Lean.Macro.throwUnsupported
local macro_rules | `(tactic| k_all) => `(tactic| first | assumption | exact List.forall_mem_nil _ | (refine' List.forall_mem_cons.mpr ⟨?a, ?b⟩; (case a => k_ne); (case b => k_all)))
local macro_rules | `(tactic| k_ne) => `(tactic| (refine neN ?_; (try dsimp only); first | assumption | (apply Ne.symm; assumption) | (apply Nat.ne_of_lt; assumption) | (apply Nat.ne_of_gt; assumption) | exact up1 _ | exact up2 _ | exact up3 _ | exact up4 _))
/-! ## MReply -/
section
open PySem PySem.W PyProof.Rows
set_option maxRecDepth 100000
theorem fill7 : PySem.Challenge.rw_mr0107_01 = PySem.Challenge.rw_mr0107_01 ∧ hd.heap_39 = hd.heap_39 := by
  k_fill
  w_top off
  exact ⟨rfl, rfl⟩
def markOf (r : Int) : Str := Txt.item (Str.ofString "|!\"x") (r.fmod 4)
def kindOf (r : Int) : Int := (r.fdiv 4).fmod 16
def oneOf (r : Int) : Str := if (r.fdiv 64).fmod 3 = 0 then Str.ofString "" else if (r.fdiv 64).fmod 3 = 1 then Str.ofString "1" else Str.ofString "2"
def twoOf (r : Int) : Str := if (r.fdiv 64).fmod 3 = 0 then Str.ofString "" else if (r.fdiv 64).fmod 3 = 1 then Str.ofString "10.0.0.9" else Str.ofString "::7"
theorem one_len (r : Int) : (oneOf r).length ≤ 1 := by
  unfold oneOf
  split
  · decide
  · split <;> decide
theorem two_len (r : Int) : (twoOf r).length ≤ 8 := by
  unfold twoOf
  split
  · decide
  · split <;> decide
def insideOf (port r : Int) : Str := markOf r ++ oneOf r ++ markOf r ++ twoOf r ++ markOf r ++ Str.ofString (toString port) ++ markOf r
theorem fmod3 (x : Int) : x.fmod 3 = 0 ∨ x.fmod 3 = 1 ∨ x.fmod 3 = 2 := by
  obtain ⟨n, hn⟩ := Int.eq_ofNat_of_zero_le (Int.fmod_nonneg_of_pos x (b := 3) (by decide))
  have h2 : n < 3 := Int.ofNat_lt.mp (hn ▸ Int.fmod_lt_of_pos x (b := 3) (by decide))
  rw [hn]
  have key : ∀ n : Nat, n < 3 → (n : Int) = 0 ∨ (n : Int) = 1 ∨ (n : Int) = 2 := by decide
  exact key n h2
theorem k58 {k : Int} (h : 4 < k) (h2 : k < 9) : k = 5 ∨ k = 6 ∨ k = 7 ∨ k = 8 := by
  obtain ⟨n, rfl⟩ := Int.eq_ofNat_of_zero_le (Int.le_of_lt (Int.lt_trans (by decide) h))
  have key : ∀ n : Nat, n < 9 → 4 < n → (n : Int) = 5 ∨ (n : Int) = 6 ∨ (n : Int) = 7 ∨ (n : Int) = 8 := by decide
  exact key n (Int.ofNat_lt.mp h2) (Int.ofNat_lt.mp h)
theorem all6 {α : Type} {P : α → Prop} {a b c d e f : α} (h1 : P a) (h2 : P b) (h3 : P c) (h4 : P d) (h5 : P e) (h6 : P f) : ∀ x ∈ [a, b, c, d, e, f], P x :=
  List.forall_mem_cons.mpr ⟨h1, List.forall_mem_cons.mpr ⟨h2, List.forall_mem_cons.mpr ⟨h3, all3 h4 h5 h6⟩⟩⟩
def tabOf (mark inside : Str) (k : Int) : Str :=
  if k = 5 then Str.ofString "229 [" ++ inside ++ Str.ofString ")" else if k = 6 then Str.ofString "229 ) (" ++ inside
  else if k = 7 then Str.ofString "229 (" ++ mark ++ inside ++ Str.ofString ")" else Str.ofString "229 (" ++ inside ++ Str.ofString ".)"
def headOf (k : Int) : Str := if k.fmod 4 = 0 then Str.ofString "" else if k.fmod 4 = 1 then Str.ofString "ready, " else if k.fmod 4 = 2 then Str.ofString "x|" else Str.ofString ")"
def tailOf (k : Int) : Str := if k.fmod 4 = 0 then Str.ofString "" else if k.fmod 4 = 1 then Str.ofString " (|||9|)" else if k.fmod 4 = 2 then Str.ofString ")" else Str.ofString "("
def repText (mark inside : Str) (port k : Int) : Str :=
  if k = 4 then Str.ofString "227 (" ++ inside ++ Str.ofString ")"
  else if k = 10 then Str.ofString "229 (" ++ mark ++ mark ++ Str.ofString (toString port) ++ mark ++ Str.ofString ")"
  else if k = 9 then Str.ofString "229 (" ++ Txt.slice inside none (some (-1)) ++ Str.ofString "o" ++ mark ++ Str.ofString ")"
  else if 4 < k ∧ k < 9 then tabOf mark inside k
  else Str.ofString "229 " ++ headOf k ++ Str.ofString "(" ++ inside ++ Str.ofString ")" ++ tailOf k
def dueOf (port k : Int) : ROut := if k = 4 then .reply else if k = 10 then .proto else if k = 9 then .value else if 4 < k ∧ k < 9 then .proto else .port port
def replyOf (port r : Int) : Str := repText (markOf r) (insideOf port r) port (kindOf r)
/-- what _law_reply hands back -/
structure RepOut (host : Str) (t3 : Tok) (news : Led) (port r : Int) (o : Value × Led) : Prop where
  out : Ex5 fun (reply : Str) (tr : Tok) (d T : Addr) (led : Led) => Al4 (Hidden (reply = replyOf port r)) (RGot reply host tr t3 news (dueOf port (kindOf r)) (.ref d, led)) ((∀ p ∈ led, p.1 < T)) (o = (.ref T, (T, tupOf [.str reply tr, .ref d] 0) :: led))
theorem rep_fin {host : Str} {t3 : Tok} {news : Led} {port r k : Int} {mark inside : Str} {h₀ : Heap} {L : Addr} {m : Str → Option Value} {s : Shared} {Q : Value → Shared → Prop}
    (hret : ∀ (o : Value × Led) (h' : Heap) (tk' : Nat), RepOut host t3 news port r o → Fr h₀ L h' m → News h₀ L h' o.2 → Q o.1 { s with heap := h', toks := tk' })
    (hid : Hidden (mark = markOf r ∧ inside = insideOf port r ∧ k = kindOf r)) {h' : Heap} {tk' : Nat} {reply : Str} {tr : Tok} {d T : Addr} {led : Led} {out : ROut}
    (F : Fr h₀ L h' m) (N : News h₀ L h' ((T, tupOf [.str reply tr, .ref d] 0) :: led)) (g : RGot reply host tr t3 news out (.ref d, led)) (hl : ∀ p ∈ led, p.1 < T)
    (e1 : repText mark inside port k = reply) (e2 : dueOf port k = out) : Q (.ref T) { s with heap := h', toks := tk' } := by
  obtain ⟨⟨rfl, rfl, rfl⟩⟩ := hid
  refine hret (.ref T, (T, tupOf [.str reply tr, .ref d] 0) :: led) h' tk' ⟨reply, tr, d, T, led, ⟨e1.symm⟩, ?_, hl, rfl⟩ F N
  rw [e2]; exact g
theorem lt_cons {d T : Addr} {o : Obj} {l : Led} (h : d < T ∧ AllLt T l) : ∀ p ∈ (d, o) :: l, p.1 < T := fun p hp => by
  rcases List.mem_cons.mp hp with rfl | hp
  · exact h.1
  · exact allLt_mem h.2 p hp
theorem all5 {α : Type} {P : α → Prop} {a b c d e : α} (h1 : P a) (h2 : P b) (h3 : P c) (h4 : P d) (h5 : P e) : ∀ x ∈ [a, b, c, d, e], P x :=
  List.forall_mem_cons.mpr ⟨h1, List.forall_mem_cons.mpr ⟨h2, all3 h3 h4 h5⟩⟩
theorem head_len (k : Int) : (headOf k).length ≤ 8 := by
  unfold headOf
  split
  · decide
  · split
    · decide
    · split <;> decide
theorem tail_len (k : Int) : (tailOf k).length ≤ 8 := by
  unfold tailOf
  split
  · decide
  · split
    · decide
    · split <;> decide
theorem drop3 {α : Type} {a b c : α} {l : List α} : ∀ p ∈ a :: b :: l, p ∈ a :: b :: c :: l := fun p hp => by
  rcases List.mem_cons.mp hp with rfl | hp
  · exact .head _
  · rcases List.mem_cons.mp hp with rfl | hp
    · exact .tail _ (.head _)
    · exact .tail _ (.tail _ (.tail _ hp))
theorem str_len_app (a b : Str) : (a ++ b).length = a.length + b.length := Str.length_append a b
theorem port_len {port : Int} (h0 : 0 ≤ port) (h1 : port < 100000) : (Str.ofString (toString port)).length ≤ 6 := by
  have h := int_text_length_le10 (a := port) (k := 5) (by omega) (by omega)
  have e : (Str.ofString (toString port)).length = (toString port).length := PySem.ofString_length _
  omega
theorem inside_len {port r : Int} (h0 : 0 ≤ port) (h1 : port < 100000) : (insideOf port r).length ≤ 100 := by
  unfold insideOf
  simp only [str_len_app]
  have h2 : (markOf r).length ≤ 1 := Nat.le_of_eq (len_item _ _)
  have h3 := one_len r
  have h4 := two_len r
  have h5 := port_len h0 h1
  omega
section
variable {w : World} {A : Around} {E : Value → Shared → Prop} {s : Shared} {h₀ : Heap} {L D : Addr} {news : Led} {n : Nat}
theorem tab4 {value slice : PySem.Expr} {k : Int} {u : Tok} {a b c d : Str} {t1 t2 t3 t4 : Tok} {Q : Value → Shared → Prop} (N : News h₀ L s.heap news) (hm : (D, listOf [Value.str a t1, .str b t2, .str c t3, .str d t4].toArray n) ∈ news) (h5 : 4 < k) (h9 : k < 9)
    (h : ∀ t, Q (.str (if k = 5 then a else if k = 6 then b else if k = 7 then c else d) t) s)
    (hs : subscripted slice false (.ref D) (.int (k - 5) u) = operate [.ref D, .int (k - 5) u] (getItem (.ref D) (.int (k - 5) u)) := by with_unfolding_all rfl) :
    wpAny (model PR w) A (halt (subscriptTail value slice (.ref D) (.int (k - 5) u))) Q E s := by
  have hx : ∃ t, [Value.str a t1, .str b t2, .str c t3, .str d t4][(k - 5).toNat]? = some (.str (if k = 5 then a else if k = 6 then b else if k = 7 then c else d) t) := by
    have : k = 5 ∨ k = 6 ∨ k = 7 ∨ k = 8 := by first | exact k58 (by assumption) (by assumption) | (trace "OMEGA"; omega)
    rcases this with rfl | rfl | rfl | rfl <;> exact ⟨_, rfl⟩
  obtain ⟨t, hx⟩ := hx
  exact go (kba_turn (value' := PySem.Expr.Name (PySem.Str.ofString "_") ⟨0, 0, 0, 0⟩) (fun _ => rfl) (m_item (pos := (k - 5).toNat) N hm (by first | exact (Int.toNat_of_nonneg (Int.sub_nonneg_of_le (by assumption))).symm | (trace "OMEGA"; omega)) (by simp) hx (h t) hs (fun _ => rfl)))
theorem tab3p {value slice : PySem.Expr} {r : Int} {u : Tok} {d1 d2 d3 : Addr} {t1 t2 t3 t4 t5 t6 : Tok} {Q : Value → Shared → Prop} (N : News h₀ L s.heap news) (hm : (D, listOf [Value.ref d1, .ref d2, .ref d3].toArray n) ∈ news)
    (h1 : (d1, tupOf [.str (Str.ofString "") t1, .str (Str.ofString "") t2] 0) ∈ news) (h2 : (d2, tupOf [.str (Str.ofString "1") t3, .str (Str.ofString "10.0.0.9") t4] 0) ∈ news)
    (h3 : (d3, tupOf [.str (Str.ofString "2") t5, .str (Str.ofString "::7") t6] 0) ∈ news)
    (h : ∀ d t t', (d, tupOf [.str (oneOf r) t, .str (twoOf r) t'] 0) ∈ news → Q (.ref d) s)
    (hs : subscripted slice false (.ref D) (.int ((r.fdiv 64).fmod 3) u) = operate [.ref D, .int ((r.fdiv 64).fmod 3) u] (getItem (.ref D) (.int ((r.fdiv 64).fmod 3) u)) := by with_unfolding_all rfl) :
    wpAny (model PR w) A (halt (subscriptTail value slice (.ref D) (.int ((r.fdiv 64).fmod 3) u))) Q E s := by
  have hx : Ex3 fun d t t' => Al2 ([Value.ref d1, .ref d2, .ref d3][((r.fdiv 64).fmod 3).toNat]? = some (.ref d)) ((d, tupOf [.str (oneOf r) t, .str (twoOf r) t'] 0) ∈ news) := by
    rcases fmod3 (r.fdiv 64) with e | e | e
    · refine ⟨d1, t1, t2, by rw [e]; rfl, ?_⟩
      unfold oneOf twoOf; rw [if_pos e, if_pos e]; exact h1
    · refine ⟨d2, t3, t4, by rw [e]; rfl, ?_⟩
      unfold oneOf twoOf; rw [if_neg (by rw [e]; decide), if_pos e, if_neg (by rw [e]; decide), if_pos e]; exact h2
    · refine ⟨d3, t5, t6, by rw [e]; rfl, ?_⟩
      unfold oneOf twoOf; rw [if_neg (by rw [e]; decide), if_neg (by rw [e]; decide), if_neg (by rw [e]; decide), if_neg (by rw [e]; decide)]; exact h3
  obtain ⟨d, t, t', hx, hm'⟩ := hx
  exact go (kba_turn (value' := PySem.Expr.Name (PySem.Str.ofString "_") ⟨0, 0, 0, 0⟩) (fun _ => rfl) (m_item (pos := ((r.fdiv 64).fmod 3).toNat) N hm (Int.toNat_of_nonneg (Int.fmod_nonneg_of_pos _ (by decide))).symm (by simp) hx (h d t t' hm') hs (fun _ => rfl)))
theorem mem_tail5 {α : Type} {p a b c d : α} {l : List α} (h : p ∈ l) : p ∈ a :: b :: c :: d :: l := .tail _ (.tail _ (.tail _ (.tail _ h)))
theorem fmod4 (x : Int) : x.fmod 4 = 0 ∨ x.fmod 4 = 1 ∨ x.fmod 4 = 2 ∨ x.fmod 4 = 3 := by
  obtain ⟨n, hn⟩ := Int.eq_ofNat_of_zero_le (Int.fmod_nonneg_of_pos x (b := 4) (by decide))
  have h2 : n < 4 := Int.ofNat_lt.mp (hn ▸ Int.fmod_lt_of_pos x (b := 4) (by decide))
  rw [hn]
  have key : ∀ n : Nat, n < 4 → (n : Int) = 0 ∨ (n : Int) = 1 ∨ (n : Int) = 2 ∨ (n : Int) = 3 := by decide
  exact key n h2
theorem tab4p {value slice : PySem.Expr} {k : Int} {u : Tok} {d1 d2 d3 d4 : Addr} {t1 t2 t3 t4 t5 t6 t7 t8 : Tok} {Q : Value → Shared → Prop} (N : News h₀ L s.heap news) (hm : (D, listOf [Value.ref d1, .ref d2, .ref d3, .ref d4].toArray n) ∈ news)
    (h1 : (d1, tupOf [.str (Str.ofString "") t1, .str (Str.ofString "") t2] 0) ∈ news) (h2 : (d2, tupOf [.str (Str.ofString "ready, ") t3, .str (Str.ofString " (|||9|)") t4] 0) ∈ news)
    (h3 : (d3, tupOf [.str (Str.ofString "x|") t5, .str (Str.ofString ")") t6] 0) ∈ news) (h4 : (d4, tupOf [.str (Str.ofString ")") t7, .str (Str.ofString "(") t8] 0) ∈ news)
    (h : ∀ d t t', (d, tupOf [.str (headOf k) t, .str (tailOf k) t'] 0) ∈ news → Q (.ref d) s)
    (hs : subscripted slice false (.ref D) (.int (k.fmod 4) u) = operate [.ref D, .int (k.fmod 4) u] (getItem (.ref D) (.int (k.fmod 4) u)) := by with_unfolding_all rfl) :
    wpAny (model PR w) A (halt (subscriptTail value slice (.ref D) (.int (k.fmod 4) u))) Q E s := by
  have hx : Ex3 fun d t t' => Al2 ([Value.ref d1, .ref d2, .ref d3, .ref d4][(k.fmod 4).toNat]? = some (.ref d)) ((d, tupOf [.str (headOf k) t, .str (tailOf k) t'] 0) ∈ news) := by
    rcases fmod4 k with e | e | e | e
    · refine ⟨d1, t1, t2, by rw [e]; rfl, ?_⟩
      unfold headOf tailOf; rw [if_pos e, if_pos e]; exact h1
    · refine ⟨d2, t3, t4, by rw [e]; rfl, ?_⟩
      unfold headOf tailOf; rw [if_neg (by rw [e]; decide), if_pos e, if_neg (by rw [e]; decide), if_pos e]; exact h2
    · refine ⟨d3, t5, t6, by rw [e]; rfl, ?_⟩
      unfold headOf tailOf; rw [if_neg (by rw [e]; decide), if_neg (by rw [e]; decide), if_pos e, if_neg (by rw [e]; decide), if_neg (by rw [e]; decide), if_pos e]; exact h3
    · refine ⟨d4, t7, t8, by rw [e]; rfl, ?_⟩
      unfold headOf tailOf; rw [if_neg (by rw [e]; decide), if_neg (by rw [e]; decide), if_neg (by rw [e]; decide), if_neg (by rw [e]; decide), if_neg (by rw [e]; decide), if_neg (by rw [e]; decide)]; exact h4
  obtain ⟨d, t, t', hx, hm'⟩ := hx
  exact go (kba_turn (value' := PySem.Expr.Name (PySem.Str.ofString "_") ⟨0, 0, 0, 0⟩) (fun _ => rfl) (m_item (pos := (k.fmod 4).toNat) N hm (Int.toNat_of_nonneg (Int.fmod_nonneg_of_pos _ (by decide))).symm (by simp) hx (h d t t' hm') hs (fun _ => rfl)))
end
set_option maxHeartbeats 4000000 in
theorem reply_ctr (w : World) (mean : ExcName → Option Value) (mg mb : Str → Option Value) (news : Led) (port r : Int) (host : Str) (t1 t2 t3 : Tok) (hp0 : 0 ≤ port) (hp1 : port < 100000) (hh : host.length ≤ 100) :
    Ctr (σ := Value × Led) w mean mg mb 100 1 news [.int port t1, .int r t2, .str host t3] (fun o => RepOut host t3 news port r o) (fun o => o.1) (fun o => o.2) := by
  intro dp un gd cn cs a ccd cl outer A₀ base h₀ L m s Q E B F X N T hk hd hu hret
  refine wpAny_call ?_
  k_dflt cell_enter
  rename_i g1 L1 h1 FG1 F1 N1 B1 X1 T1
  rw [execs_split 3]
  refine cutA (fun s' => Ex9 fun (h : Heap) (tk : Nat) (u : Str → Option Value) (mark inside : Str) (k : Int) (tm t4 t5 : Tok) => Al4 (s' = { s with heap := h, toks := tk }) (Fr g1 L1 h (kstB u [(Str.ofString "mark", .str mark tm), (Str.ofString "kind", .int k t4), (Str.ofString "inside", .str inside t5), (Str.ofString "port", .int port t1), (Str.ofString "host", .str host t3)])) (News g1 L1 h news) (Hidden (mark = markOf r ∧ inside = insideOf port r ∧ k = kindOf r))) ?_ ?_
  · intro Q1 hQ1
    simp only [List.take_succ_cons, List.take_zero]
    k_steps
    rename Fr _ _ _ _ => lF
    rename News _ _ _ _ => lN
    refine tab3p lN (by k_mem) (by k_mem) (by k_mem) (by k_mem) ?_
    intro dd tt tt' hm
    dsimp only
    have lN' := kst_newsOf lN (l' := (dd, tupOf [.str (oneOf r) tt, .str (twoOf r) tt'] 0) :: news) (fun p hp => by
      rcases List.mem_cons.mp hp with rfl | hp
      · exact hm
      · exact mem_tail5 (.tail _ hp))
    have h1l := one_len r
    have h2l := two_len r
    have h3l : Hidden (oneOf r = oneOf r ∧ twoOf r = twoOf r) := ⟨rfl, rfl⟩
    revert lN' h1l h2l h3l
    generalize hhe : oneOf r = he
    generalize hta : twoOf r = ta
    clear lN hm
    intro lN' h1l h2l h3l
    have hht : Hidden (oneOf r = he ∧ twoOf r = ta) := ⟨hhe, hta⟩
    clear hhe hta h3l
    k_steps
    dsimp only
    rename Fr _ _ _ _ => rF
    rename News _ _ _ _ => rN
    refine hQ1 _ ⟨_, _, _, _, _, _, _, _, _, rfl, fr_kst rF _ (all5 rfl rfl rfl rfl rfl), kst_newsOf rN (fun p hp => ?_), ⟨rfl, ?_, rfl⟩⟩
    · exact .tail _ hp
    · unfold insideOf; rw [hht.1.1, hht.1.2]; rfl
  · refine fun _ qa => Ex9.elim qa fun h tk u mark inside k tm t4 t5 qb => Al4.elim qb fun e kFr kNews hid => ?_
    clear qa qb
    subst e
    simp only [List.drop_succ_cons, List.drop_zero]
    have hml : mark.length ≤ 1 := by rw [hid.1.1]; exact Nat.le_of_eq (len_item _ _)
    have hil : inside.length ≤ 100 := by rw [hid.1.2.1]; exact inside_len hp0 hp1
    clear hh
    rw [execs_split 4]
    simp only [List.take_succ_cons, List.take_zero, List.drop_succ_cons, List.drop_zero]
    refine cutR (fun s' => Ex1 fun (tk : Nat) => Al5 (s' = { s with heap := h, toks := tk }) (k ≠ 4) (k ≠ 10) (k ≠ 9) (¬ (4 < k ∧ k < 9))) ?_ ?_
    · intro Q1 hQ1 hR1
      k_steps
      · rename k = 4 => hk4
        refine hR1 _ _ ?_
        k_steps
        exact rep_fin hret hid (by k_asm) (by k_asm) (.reply (by assumption)) (lt_cons (by assumption)) (if_pos hk4) (if_pos hk4)
      · rename k ≠ 4 => hk4
        rename k = 10 => hk10
        refine hR1 _ _ ?_
        k_steps
        exact rep_fin hret hid (by k_asm) (by k_asm) (.proto (by assumption)) (lt_cons (by assumption)) ((if_neg hk4).trans (if_pos hk10)) ((if_neg hk4).trans (if_pos hk10))
      · rename k ≠ 4 => hk4
        rename k ≠ 10 => hk10
        rename k = 9 => hk9
        refine hR1 _ _ ?_
        k_steps
        exact rep_fin hret hid (by k_asm) (by k_asm) (.value (by assumption)) (lt_cons (by assumption)) ((if_neg hk4).trans ((if_neg hk10).trans (if_pos hk9))) ((if_neg hk4).trans ((if_neg hk10).trans (if_pos hk9)))
      · rename k ≠ 4 => hk4
        rename k ≠ 10 => hk10
        rename k ≠ 9 => hk9'
        rename 4 < k => hk5
        rename k < 9 => hk9
        rename Fr _ _ _ _ => lF
        rename News _ _ _ _ => lN
        have lN' := news_tail lN
        refine tab4 lN (by k_mem) hk5 hk9 ?_
        intro tt
        dsimp only
        generalize htab : (if k = 5 then _ else _ : Str) = tab
        clear lN
        k_steps
        refine hR1 _ _ ?_
        k_steps
        exact rep_fin hret hid (by k_asm) (by k_asm) (.proto (by assumption)) (lt_cons (by assumption)) (((if_neg hk4).trans ((if_neg hk10).trans ((if_neg hk9').trans (if_pos ⟨hk5, hk9⟩)))).trans htab) ((if_neg hk4).trans ((if_neg hk10).trans ((if_neg hk9').trans (if_pos ⟨hk5, hk9⟩))))
      · rename k ≠ 4 => hk4
        rename k ≠ 10 => hk10
        rename k ≠ 9 => hk9'
        rename ¬ k < 9 => hk9
        exact hQ1 _ ⟨_, rfl, hk4, hk10, hk9', fun q => hk9 q.2⟩
      · rename k ≠ 4 => hk4
        rename k ≠ 10 => hk10
        rename k ≠ 9 => hk9'
        rename ¬ 4 < k => hk5
        exact hQ1 _ ⟨_, rfl, hk4, hk10, hk9', fun q => hk5 q.1⟩
    · rintro _ ⟨tk8, rfl, hk4, hk10, hk9, hk5⟩
      k_steps
      rename Fr _ _ _ _ => lF
      rename News _ _ _ _ => lN
      refine tab4p lN (by k_mem) (by k_mem) (by k_mem) (by k_mem) (by k_mem) ?_
      intro dd tt tt' hm
      dsimp only
      have lN' := kst_newsOf lN (l' := (dd, tupOf [.str (headOf k) tt, .str (tailOf k) tt'] 0) :: news) (fun p hp => by
        rcases List.mem_cons.mp hp with rfl | hp
        · exact hm
        · exact .tail _ (.tail _ (.tail _ (.tail _ (.tail _ hp)))))
      have h1l := head_len k
      have h2l := tail_len k
      have h3l : Hidden (headOf k = headOf k ∧ tailOf k = tailOf k) := ⟨rfl, rfl⟩
      revert lN' h1l h2l h3l
      generalize hhe : headOf k = he
      generalize hta : tailOf k = ta
      clear lN hm
      intro lN' h1l h2l h3l
      have hht : Hidden (headOf k = he ∧ tailOf k = ta) := ⟨hhe, hta⟩
      clear hhe hta h3l
      k_steps
      rename (_ < _ ∧ AllLt _ news) => q1
      rename (_ < _ ∧ _ < _ ∧ AllLt _ news) => q2
      rename Fr _ _ _ _ => rF
      rename News h₀ _ _ _ => rN
      refine rep_fin hret hid (by k_asm) (kst_newsOf rN drop3) (.port (allLt_mem q1.2)) (lt_cons ⟨q2.1, q2.2.2⟩) ?_ ?_
      · unfold repText
        rw [if_neg hk4, if_neg hk10, if_neg hk9, if_neg hk5, hht.1.1, hht.1.2]
      · unfold dueOf
        rw [if_neg hk4, if_neg hk10, if_neg hk9, if_neg hk5]
end
/-! ## MText -/
section
open PySem PySem.W PySem.NumText PyProof.Rows
abbrev cs (x : Str) : List Nat := x.cps.toList
theorem cs_len (x : Str) : (cs x).length = x.length := Array.length_toList
theorem cs_app (a b : Str) : cs (a ++ b) = cs a ++ cs b := by show (a.cps ++ b.cps).toList = _; simp
theorem cs_ext {a b : Str} (h : cs a = cs b) : a = b := Str.ext' (Array.ext' h)
/-- a text cut at a sign -/
def spl (c : Nat) : List Nat → List (List Nat)
  | [] => [[]]
  | a :: l => if a = c then [] :: spl c l else match spl c l with
    | p :: ps => (a :: p) :: ps
    | [] => [[a]]
theorem spl_free {c : Nat} : ∀ {p : List Nat}, c ∉ p → spl c p = [p]
  | [], _ => rfl
  | a :: p, h => by
    have h1 : a ≠ c := fun e => h (by simp [e])
    have h2 := spl_free (c := c) (p := p) (fun q => h (by simp [q]))
    unfold spl
    rw [if_neg h1, h2]
theorem spl_cut {c : Nat} (l : List Nat) : ∀ {p : List Nat}, c ∉ p → spl c (p ++ c :: l) = p :: spl c l
  | [], _ => by show spl c (c :: l) = _; rw [spl, if_pos rfl]
  | a :: p, h => by
    have h1 : a ≠ c := fun e => h (by simp [e])
    have h2 := spl_cut l (c := c) (p := p) (fun q => h (by simp [q]))
    show spl c (a :: (p ++ c :: l)) = _
    rw [spl, if_neg h1, h2]
theorem spl_join {c : Nat} : ∀ (ps : List Str), ps ≠ [] → (∀ p ∈ ps, c ∉ cs p) → spl c (cs (Str.join ⟨#[c]⟩ ps)) = ps.map cs
  | [], h, _ => absurd rfl h
  | [x], _, hf => by
    show spl c (cs x) = [cs x]
    exact spl_free (hf x (by simp))
  | x :: y :: r, _, hf => by
    show spl c (cs (x ++ ⟨#[c]⟩ ++ Str.join ⟨#[c]⟩ (y :: r))) = _
    rw [cs_app, cs_app]
    show spl c (cs x ++ [c] ++ _) = _
    rw [List.append_assoc, List.singleton_append, spl_cut _ (hf x (by simp)), spl_join (y :: r) (by simp) (fun p hp => hf p (by simp [hp]))]
    rfl
theorem split_ne (x : Str) (y : Str) : Txt.split x y ≠ [] := by
  unfold Txt.split
  split
  · simp
  · split
    · simp
    · rw [StrLaws.partsBetween_eq]
      obtain ⟨p, r, e⟩ := StrLaws.partsFrom_ne x y.length 0 (Builtin.Str.occurrences x y 0 x.length (x.length + 1))
      rw [e]; simp
theorem split_eq (x : Str) (c : Nat) : (Txt.split x ⟨#[c]⟩).map cs = spl c (cs x) := by
  rw [← spl_join _ (split_ne x _) (StrLaws.split_free x c), StrLaws.join_split]
theorem getD_app {x : Str} {pre : List Nat} {c : Nat} {post : List Nat} (h : cs x = pre ++ c :: post) : x.cps.getD pre.length 0 = c := by
  refine StrLaws.getD_of_getElem? (x := x) ?_
  show (cs x)[_]? = _
  rw [h]; simp
theorem fi_nat (n i : Nat) : fromIndex n (i : Int) = i := by
  unfold fromIndex
  rw [if_neg (Int.not_lt.mpr (Int.natCast_nonneg i)), Int.max_eq_right (Int.natCast_nonneg i)]
  exact Int.toNat_natCast i
theorem tn_sub (a b : Nat) : (((a + b : Nat) : Int) - (a : Int)).toNat = b := by rw [Int.toNat_sub, Nat.add_sub_cancel_left]
theorem mk_no {m : Nat} (h : m = 124 ∨ m = 33 ∨ m = 34 ∨ m = 120) : m < 46 ∨ 58 < m := by rcases h with rfl | rfl | rfl | rfl <;> decide
theorem mk_ne {m : Nat} (h : m = 124 ∨ m = 33 ∨ m = 34 ∨ m = 120) : m ≠ 41 ∧ m ≠ 40 ∧ m ≠ 46 ∧ m ≠ 111 := by rcases h with rfl | rfl | rfl | rfl <;> decide
theorem dg_pl {c : Nat} (h : 48 ≤ c ∧ c ≤ 57) : 46 ≤ c ∧ c ≤ 58 := ⟨Nat.le_trans (by decide) h.1, Nat.le_trans h.2 (by decide)⟩
theorem dg_le {c : Nat} (h : 48 ≤ c ∧ c ≤ 57) : 48 ≤ c ∧ c ≤ 111 := ⟨h.1, Nat.le_trans h.2 (by decide)⟩
theorem find3_none {x : Str} {c : Nat} {i : Nat} (h : c ∉ (cs x).drop i) : Txt.find3 x ⟨#[c]⟩ (i : Int) = -1 := by
  rcases StrLaws.find3_spec x c (i : Int) with ⟨h1, _⟩ | ⟨k, h1, h2, h3, h4, _⟩
  · exact h1
  · exfalso
    have e : fromIndex x.length (i : Int) = i := fi_nat _ _
    rw [e] at h2
    have := StrLaws.getElem?_of_getD (x := x) h3 h4
    refine h (List.mem_of_getElem? (i := k - i) ?_)
    rw [List.getElem?_drop]
    rw [show i + (k - i) = k from Nat.add_sub_cancel' h2]
    exact this
theorem find3_some {x : Str} {c : Nat} {i : Nat} {a b d : List Nat} (h : cs x = a ++ b ++ c :: d) (hi : a.length = i) (hb : c ∉ b) : Txt.find3 x ⟨#[c]⟩ (i : Int) = ((a.length + b.length : Nat) : Int) := by
  subst hi
  have hl : (cs x).length = a.length + b.length + 1 + d.length := by rw [h, List.length_append, List.length_append, List.length_cons, Nat.add_assoc (a.length + b.length), Nat.add_comm 1]
  rw [cs_len] at hl
  have hc : x.cps.getD (a.length + b.length) 0 = c := by
    have := getD_app (x := x) (pre := a ++ b) h
    rwa [List.length_append] at this
  have e : fromIndex x.length (a.length : Int) = a.length := fi_nat _ _
  have hlt : a.length + b.length < x.length := by rw [hl]; exact Nat.lt_of_lt_of_le (Nat.lt_succ_self _) (Nat.le_add_right _ _)
  rcases StrLaws.find3_spec x c (a.length : Int) with ⟨_, h2⟩ | ⟨k, h1, h2, h3, h4, h5⟩
  · exact absurd hc (h2 _ (by rw [e]; exact Nat.le_add_right _ _) hlt)
  · rw [h1]
    rw [e] at h2 h5
    congr 1
    rcases Nat.lt_trichotomy k (a.length + b.length) with q | q | q
    · exfalso
      apply hb
      have h6 := StrLaws.getElem?_of_getD (x := x) h3 h4
      rw [show x.cps.toList = a ++ b ++ c :: d from h, List.append_assoc, List.getElem?_append_right h2, List.getElem?_append_left (Nat.sub_lt_left_of_lt_add h2 q)] at h6
      exact List.mem_of_getElem? h6
    · exact q
    · exact absurd hc (h5 _ (Nat.le_add_right _ _) q)
theorem find_find3 (x y : Str) : Txt.find x y = Txt.find3 x y 0 := by
  unfold Txt.find Txt.find3
  have e : fromIndex x.length 0 = 0 := rfl
  rw [e]
  cases Builtin.Str.occurrences x y 0 x.length 1 <;> rfl
theorem item_at {x : Str} {pre post : List Nat} {c : Nat} {i : Int} (h : cs x = pre ++ c :: post) (hi : i = (pre.length : Int)) : Txt.item x i = ⟨#[c]⟩ := by
  subst hi
  unfold Txt.item Txt.charAt
  rw [StrLaws.at_nonneg (n := c) (Int.natCast_nonneg _)]
  · rfl
  · have h2 : (cs x)[pre.length]? = some c := by rw [h]; simp
    rw [Int.toNat_natCast]
    simpa using h2
theorem slice_mid {x : Str} {a b d : List Nat} {i j : Int} (h : cs x = a ++ b ++ d) (hi : i = (a.length : Int)) (hj : j = (a.length + b.length : Nat)) : cs (Txt.slice x (some i) (some j)) = b := by
  subst hi hj
  have e := StrLaws.sliceText_plain (x := x) (i := (a.length : Int)) (j := ((a.length + b.length : Nat) : Int)) ⟨by omega, by omega, by show _ ≤ (((cs x).length : Nat) : Int); rw [h]; simp; omega⟩
  show cs (StrLaws.sliceText x _ _) = b
  rw [e]
  show ((cs x).drop _).take _ = b
  rw [h]
  rw [show ((a.length : Int)).toNat = a.length from Int.toNat_natCast _, show (((a.length + b.length : Nat) : Int) - (a.length : Int)).toNat = b.length from tn_sub _ _]
  simp
theorem slice_to {x : Str} {b d : List Nat} {j : Int} (h : cs x = b ++ d) (hj : j = (b.length : Int)) : cs (Txt.slice x none (some j)) = b := by
  subst hj
  have e := StrLaws.sliceText_to (x := x) (j := (b.length : Int)) ⟨by omega, by show _ ≤ (((cs x).length : Nat) : Int); rw [h]; simp; omega⟩
  show cs (StrLaws.sliceText x _ _) = b
  rw [e]
  show ((cs x).drop 0).take _ = b
  rw [h]
  rw [show ((b.length : Int) - 0).toNat = b.length from by rw [Int.sub_zero]; exact Int.toNat_natCast _]
  simp
theorem slice_butlast {x : Str} {b : List Nat} {c : Nat} (h : cs x = b ++ [c]) : cs (Txt.slice x none (some (-1))) = b := by
  have hl : x.length = b.length + 1 := by rw [← cs_len, h]; simp
  have e := StrLaws.sliceText_to_neg (x := x) (j := -1) (by omega) (by omega)
  show cs (StrLaws.sliceText x _ _) = b
  rw [e]
  show ((cs x).drop 0).take _ = b
  rw [h]
  rw [show (-1 + (x.length : Int) - 0).toNat = b.length by omega]
  simp
theorem cs_open : Str.ofString "(" = ⟨#[40]⟩ := by decide +kernel
theorem cs_close : Str.ofString ")" = ⟨#[41]⟩ := by decide +kernel
theorem cs_229 : cs (Str.ofString "229") = [50, 50, 57] := by decide +kernel
theorem rl_at {x : Str} {pre post : List Nat} (h : cs x = pre ++ 40 :: post) (hp : 40 ∉ pre) : rl x = (pre.length : Int) := by
  unfold rl
  have e := find3_some (x := x) (c := 40) (i := 0) (a := []) (b := pre) (d := post) h rfl hp
  rw [find_find3, cs_open]
  exact e.trans (by simp)
theorem rr_at {x : Str} {pre body post : List Nat} (h : cs x = pre ++ 40 :: (body ++ 41 :: post)) (hp : 40 ∉ pre) (hb : 41 ∉ body) : rr x = ((pre.length + 1 + body.length : Nat) : Int) := by
  unfold rr
  rw [rl_at h hp, cs_close]
  have e := find3_some (x := x) (c := 41) (i := pre.length + 1) (a := pre ++ [40]) (b := body) (d := post) (by rw [h]; simp) (by simp) hb
  rw [List.length_append] at e
  exact e
/-- a reply with both brackets -/
theorem read_gen {x : Str} {q body post : List Nat} {m l : Nat} {mid : List Nat} (h : cs x = 50 :: 50 :: 57 :: q ++ 40 :: (body ++ 41 :: post)) (hq : 40 ∉ q) (hb : 41 ∉ body) (hm : body = m :: mid) {mid' : List Nat} (hl : body = mid' ++ [l]) :
    readOut x = (if m ≠ l then ROut.proto else if (spl m body).length ≠ 5 then .proto else match PySem.intText? ((rparts x).getD 3 Str.empty) with | some n => .port n | none => .value) ∧ (rparts x).map cs = spl m body := by
  have hp : (40 : Nat) ∉ 50 :: 50 :: 57 :: q := by simp [hq]
  have h1 := rl_at h hp
  have h2 := rr_at h hp hb
  have h0 : Txt.slice x none (some 3) = Str.ofString "229" := cs_ext ((slice_to (x := x) (b := [50, 50, 57]) (d := q ++ 40 :: (body ++ 41 :: post)) (by rw [h]; simp) rfl).trans cs_229.symm)
  have i1 : Txt.item x (rl x + 1) = ⟨#[m]⟩ := item_at (pre := (50 :: 50 :: 57 :: q) ++ [40]) (post := mid ++ 41 :: post) (by rw [h, hm]; simp) (by rw [h1]; simp)
  have i2 : Txt.item x (rr x - 1) = ⟨#[l]⟩ := item_at (pre := (50 :: 50 :: 57 :: q) ++ [40] ++ mid') (post := 41 :: post) (by rw [h, hl]; simp) (by rw [h2, hl]; simp; omega)
  have s1 : cs (Txt.slice x (some (rl x + 1)) (some (rr x))) = body := slice_mid (a := (50 :: 50 :: 57 :: q) ++ [40]) (b := body) (d := 41 :: post) (by rw [h]; simp) (by rw [h1]; simp) (by rw [h2]; simp)
  have p1 : (rparts x).map cs = spl m body := by
    unfold rparts
    rw [i1, split_eq, s1]
  refine ⟨?_, p1⟩
  have hlen : (rparts x).length = (spl m body).length := by rw [← p1, List.length_map]
  unfold readOut
  rw [if_neg (by rw [h0]; simp), if_neg (by rw [h1]; omega), if_neg (by rw [h2]; omega), i1, i2, hlen]
  have ee : ((⟨#[m]⟩ : Str) ≠ ⟨#[l]⟩) ↔ m ≠ l := by
    constructor
    · intro h3 h4; exact h3 (by rw [h4])
    · intro h3 h4; apply h3; have := congrArg cs h4; simpa [cs] using this
  by_cases hml : m = l
  · rw [if_neg (by rw [ee]; exact fun q => q hml), if_neg (fun q : m ≠ l => q hml)]
    all_goals (cases PySem.intText? ((rparts x).getD 3 Str.empty) <;> rfl)
  · rw [if_pos (by rw [ee]; exact hml), if_pos hml]
/-- signs between the marks: points, figures, colons -/
def Plain (l : List Nat) : Prop := ∀ c ∈ l, 46 ≤ c ∧ c ≤ 58
theorem Plain.no {l : List Nat} (h : Plain l) {c : Nat} (hc : c < 46 ∨ 58 < c) : c ∉ l := fun hm => by have := h c hm; omega
theorem mark_cs (r : Int) : ∃ m, cs (markOf r) = [m] ∧ (m = 124 ∨ m = 33 ∨ m = 34 ∨ m = 120) := by
  unfold markOf
  rcases fmod4 r with e | e | e | e <;> rw [e]
  · exact ⟨124, by decide +kernel, by decide⟩
  · exact ⟨33, by decide +kernel, by decide⟩
  · exact ⟨34, by decide +kernel, by decide⟩
  · exact ⟨120, by decide +kernel, by decide⟩
theorem one_plain (r : Int) : Plain (cs (oneOf r)) := by
  unfold oneOf Plain
  split
  · decide +kernel
  · split <;> decide +kernel
theorem two_plain (r : Int) : Plain (cs (twoOf r)) := by
  unfold twoOf Plain
  split
  · decide +kernel
  · split <;> decide +kernel
theorem port_digits {port : Int} (h0 : 0 ≤ port) : AllDigits (cs (Str.ofString (toString port))) := by
  obtain ⟨m, rfl⟩ := Int.eq_ofNat_of_zero_le h0
  intro c hc
  rw [show cs (Str.ofString (toString ((m : Nat) : Int))) = _ from KIN.signs_num m] at hc
  obtain ⟨ch, hch, e⟩ := List.mem_map.mp hc
  have r := digit_range (Nat.isDigit_of_mem_toDigits (by decide) (by decide) hch)
  rw [← e]
  exact r
theorem AllDigits.plain {l : List Nat} (h : AllDigits l) : Plain l := fun c hc => dg_pl (h c hc)
theorem getD_cs {ps : List Str} {ls : List (List Nat)} (h : ps.map cs = ls) (k : Nat) {l : List Nat} (hk : ls[k]? = some l) : cs (ps.getD k Str.empty) = l := by
  subst h
  rw [List.getElem?_map] at hk
  rw [List.getD_eq_getElem?_getD]
  cases e : ps[k]? with
  | none => rw [e] at hk; simp at hk
  | some p => rw [e] at hk; simp at hk; simpa using hk
theorem bad_digits : ∀ (ds : List Nat) (p : Array Nat × Bool), AllDigits ds → (ds ++ [111]).foldlM (NumText.step 10) p = none
  | [], (a, b), _ => by
    show ((NumText.step 10 (a, b) 111) >>= fun x => pure x) = none
    have : NumText.step 10 (a, b) 111 = none := by unfold NumText.step; rfl
    rw [this]; rfl
  | c :: ds, (a, b), h => by
    rw [List.cons_append, List.foldlM_cons, step_digit h.head]
    exact bad_digits ds _ h.tail
theorem bad_core {ds : List Nat} (h : AllDigits ds) (hne : ds ≠ []) : core (ds ++ [111]) = ds ++ [111] := by
  cases ds with
  | nil => exact absurd rfl hne
  | cons c l =>
    have hc := h.head
    unfold core
    have es : sign (((c :: l) ++ [111]).dropWhile blank) = (false, (c :: l) ++ [111]) := by
      rw [List.cons_append, dropWhile_of (by omega)]
      exact sign_of (by omega) (by omega)
    rw [es]
    show ((((c :: l) ++ [111]).reverse).dropWhile blank).reverse = _
    rw [List.reverse_append]
    show ((111 :: (c :: l).reverse).dropWhile blank).reverse = _
    rw [dropWhile_of (by omega)]
    simp
theorem bad_seen {y : Str} {ds : List Nat} (hy : cs y = ds ++ [111]) (h : AllDigits ds) : numSeenOf y = ds ++ [111] := by
  have hs : ∀ c ∈ y.cps.toList, 48 ≤ c ∧ c ≤ 111 := by
    intro c hc
    rw [show y.cps.toList = _ from hy] at hc
    rcases List.mem_append.mp hc with q | q
    · exact dg_le (h c q)
    · simp at q; subst q; decide
  have e1 : numTextOf y = y.cps.toList := by
    refine if_pos ?_
    rw [← Array.all_toList, List.all_eq_true]
    intro c hc
    have := hs c hc
    exact decide_eq_true (by omega)
  show (numTextOf y).takeWhile _ = _
  rw [e1, ← hy]
  refine takeWhile_all fun c hc => ?_
  have := hs c hc
  exact bne_iff_ne.mpr (by omega)
theorem bad_int {y : Str} {ds : List Nat} (hy : cs y = ds ++ [111]) (h : AllDigits ds) (hne : ds ≠ []) : digits? 10 (core (numSeenOf y)) = none ∧ PySem.intText? y = none := by
  have h1 : digits? 10 (core (numSeenOf y)) = none := by
    rw [bad_seen hy h, bad_core h hne]
    unfold digits?
    rw [bad_digits ds _ h]; rfl
  refine ⟨h1, ?_⟩
  unfold PySem.intText?
  rw [h1]
  split <;> rfl
theorem port_ne {port : Int} (h0 : 0 ≤ port) : cs (Str.ofString (toString port)) ≠ [] := by
  obtain ⟨m, rfl⟩ := Int.eq_ofNat_of_zero_le h0
  rw [show cs (Str.ofString (toString ((m : Nat) : Int))) = _ from KIN.signs_num m]
  intro e
  have h := toDigits_len_ge 10 m
  rw [List.map_eq_nil_iff.mp e] at h
  exact absurd h (by decide)
theorem inside_cs {port r : Int} {m : Nat} (hm : cs (markOf r) = [m]) : cs (insideOf port r) = m :: (cs (oneOf r) ++ m :: (cs (twoOf r) ++ m :: (cs (Str.ofString (toString port)) ++ [m]))) := by
  unfold insideOf
  simp only [cs_app, hm, List.append_assoc, List.cons_append, List.nil_append]
/-- three fields between marks -/
theorem spl_inside {m : Nat} {o t d : List Nat} (ho : m ∉ o) (ht : m ∉ t) (hd : m ∉ d) : spl m (m :: (o ++ m :: (t ++ m :: (d ++ [m])))) = [[], o, t, d, []] := by
  have e0 := spl_cut (c := m) (p := []) (o ++ m :: (t ++ m :: (d ++ [m]))) (by simp)
  rw [List.nil_append] at e0
  rw [e0, spl_cut _ ho, spl_cut _ ht, spl_cut [] hd]
  rfl
theorem head_cs (k : Int) : (40 : Nat) ∉ cs (headOf k) := by
  unfold headOf
  split
  · decide +kernel
  · split
    · decide +kernel
    · split <;> decide +kernel
theorem cs_1 : cs (Str.ofString "227 (") = [50, 50, 55, 32, 40] := by decide +kernel
theorem cs_2 : cs (Str.ofString "229 (") = [50, 50, 57, 32, 40] := by decide +kernel
theorem cs_3 : cs (Str.ofString "229 [") = [50, 50, 57, 32, 91] := by decide +kernel
theorem cs_4 : cs (Str.ofString "229 ) (") = [50, 50, 57, 32, 41, 32, 40] := by decide +kernel
theorem cs_5 : cs (Str.ofString "229 ") = [50, 50, 57, 32] := by decide +kernel
theorem cs_6 : cs (Str.ofString ")") = [41] := by decide +kernel
theorem cs_7 : cs (Str.ofString "(") = [40] := by decide +kernel
theorem cs_8 : cs (Str.ofString ".)") = [46, 41] := by decide +kernel
theorem cs_9 : cs (Str.ofString "o") = [111] := by decide +kernel
section
variable {port r : Int} {m : Nat} {o t d : List Nat}
theorem bad_parts {x : Str} (hm : m = 124 ∨ m = 33 ∨ m = 34 ∨ m = 120) (ho : Plain o) (ht : Plain t) (hd : AllDigits d) (hne : d ≠ [])
    (hx : cs x = [50, 50, 57, 32] ++ 40 :: ((m :: (o ++ m :: (t ++ m :: (d ++ 111 :: [m])))) ++ 41 :: [])) : readOut x = .value ∧ digits? 10 (core (numSeenOf ((rparts x).getD 3 Str.empty))) = none ∧ cs ((rparts x).getD 3 Str.empty) = d ++ [111] := by
  have hd' : m ∉ d ++ [111] := by
    intro h
    rcases List.mem_append.mp h with q | q
    · have := hd m q; omega
    · simp at q; omega
  have hb : (41 : Nat) ∉ m :: (o ++ m :: (t ++ m :: (d ++ 111 :: [m]))) := by
    have h1 := ho.no (c := 41) (by decide)
    have h2 := ht.no (c := 41) (by decide)
    have h3 := (AllDigits.plain hd).no (c := 41) (by decide)
    simp [h1, h2, h3]
    first | exact fun q => (mk_ne hm).1 q.symm | exact fun q => (mk_ne hm).2.1 q.symm | omega
  obtain ⟨g1, g2⟩ := read_gen (x := x) (q := [32]) (body := m :: (o ++ m :: (t ++ m :: (d ++ 111 :: [m])))) (post := []) (m := m) (l := m) hx (by simp) hb rfl (mid' := m :: (o ++ m :: (t ++ m :: (d ++ [111])))) (by simp)
  have hs := spl_inside (m := m) (o := o) (t := t) (d := d ++ [111]) (ho.no (mk_no hm)) (ht.no (mk_no hm)) hd'
  rw [List.append_assoc] at hs
  have hs' : spl m (m :: (o ++ m :: (t ++ m :: (d ++ 111 :: [m])))) = [[], o, t, d ++ [111], []] := hs
  rw [hs'] at g1 g2
  have hc := getD_cs g2 3 rfl
  obtain ⟨b1, b2⟩ := bad_int hc hd hne
  refine ⟨?_, b1, hc⟩
  rw [g1, b2]
  simp
theorem good_parts {x ps : Str} {hh tt : List Nat} (hm : m = 124 ∨ m = 33 ∨ m = 34 ∨ m = 120) (ho : Plain o) (ht : Plain t) (hd : Plain d) (hps : cs ps = d) (hpi : PySem.intText? ps = some port) (hhh : 40 ∉ hh)
    (hx : cs x = [50, 50, 57, 32] ++ (hh ++ 40 :: ((m :: (o ++ m :: (t ++ m :: (d ++ [m])))) ++ 41 :: tt))) : readOut x = .port port := by
  have hb : (41 : Nat) ∉ m :: (o ++ m :: (t ++ m :: (d ++ [m]))) := by
    have h1 := ho.no (c := 41) (by decide)
    have h2 := ht.no (c := 41) (by decide)
    have h3 := hd.no (c := 41) (by decide)
    simp [h1, h2, h3]
    first | exact fun q => (mk_ne hm).1 q.symm | exact fun q => (mk_ne hm).2.1 q.symm | omega
  obtain ⟨g1, g2⟩ := read_gen (x := x) (q := 32 :: hh) (body := m :: (o ++ m :: (t ++ m :: (d ++ [m])))) (post := tt) (m := m) (l := m) (by rw [hx]; simp) (by simp [hhh]) hb rfl (mid' := m :: (o ++ m :: (t ++ m :: d))) (by simp)
  have hs := spl_inside (m := m) (o := o) (t := t) (d := d) (ho.no (mk_no hm)) (ht.no (mk_no hm)) (hd.no (mk_no hm))
  rw [hs] at g1 g2
  have hc : (rparts x).getD 3 Str.empty = ps := cs_ext ((getD_cs g2 3 rfl).trans hps.symm)
  rw [g1, hc, hpi]
  simp
theorem is229 {x : Str} {d : List Nat} (h : cs x = 50 :: 50 :: 57 :: d) : Txt.slice x none (some 3) = Str.ofString "229" := by
  have e := slice_to (x := x) (b := [50, 50, 57]) (d := d) (j := 3) h rfl
  exact cs_ext (e.trans cs_229.symm)
theorem k4_read {x : Str} {d : List Nat} (h : cs x = 50 :: 50 :: 55 :: d) : readOut x = .reply := by
  unfold readOut
  rw [if_pos]
  intro q
  have e := slice_to (x := x) (b := [50, 50, 55]) (d := d) (j := 3) h rfl
  have h2 := congrArg cs q
  rw [cs_229, e] at h2
  simp at h2
theorem k5_read {x : Str} {d : List Nat} (h : cs x = 50 :: 50 :: 57 :: d) (hd : 40 ∉ d) : readOut x = .proto := by
  unfold readOut
  rw [if_neg (by rw [is229 h]; simp), if_pos]
  unfold rl
  rw [find_find3, cs_open]
  have hn : Txt.find3 x ⟨#[40]⟩ 0 = -1 := find3_none (x := x) (c := 40) (i := 0) (by rw [List.drop_zero, h]; simp [hd])
  rw [hn]; omega
theorem k6_read {x : Str} {d : List Nat} (hx : cs x = [50, 50, 57, 32, 41, 32] ++ 40 :: d) (hd : 41 ∉ d) : readOut x = .proto := by
  have hl : rl x = 6 := rl_at hx (by simp)
  have hr : rr x = -1 := by
    unfold rr
    rw [hl, cs_close]
    exact find3_none (i := 7) (by rw [hx]; exact hd)
  unfold readOut
  rw [if_neg (by rw [is229 (x := x) (d := 32 :: 41 :: 32 :: 40 :: d) hx]; simp), if_neg (by rw [hl]; omega), if_pos (by rw [hr]; omega)]
theorem k7_read {x : Str} (hm : m = 124 ∨ m = 33 ∨ m = 34 ∨ m = 120) (ho : Plain o) (ht : Plain t) (hd : Plain d) (hx : cs x = [50, 50, 57, 32] ++ 40 :: ((m :: (m :: (o ++ m :: (t ++ m :: (d ++ [m]))))) ++ 41 :: [])) : readOut x = .proto := by
  have hb : (41 : Nat) ∉ m :: (m :: (o ++ m :: (t ++ m :: (d ++ [m])))) := by
    have h1 := ho.no (c := 41) (by decide)
    have h2 := ht.no (c := 41) (by decide)
    have h3 := hd.no (c := 41) (by decide)
    simp [h1, h2, h3]
    first | exact fun q => (mk_ne hm).1 q.symm | exact fun q => (mk_ne hm).2.1 q.symm | omega
  obtain ⟨g1, g2⟩ := read_gen (x := x) (q := [32]) (body := m :: (m :: (o ++ m :: (t ++ m :: (d ++ [m]))))) (post := []) (m := m) (l := m) hx (by simp) hb rfl (mid' := m :: (m :: (o ++ m :: (t ++ m :: d)))) (by simp)
  rw [g1]
  have hsi := spl_inside (m := m) (o := o) (t := t) (d := d) (ho.no (mk_no hm)) (ht.no (mk_no hm)) (hd.no (mk_no hm))
  have e0 := spl_cut (c := m) (p := []) (m :: (o ++ m :: (t ++ m :: (d ++ [m])))) (by simp)
  rw [List.nil_append] at e0
  rw [e0, hsi]; simp
theorem k8_read {x : Str} (hm : m = 124 ∨ m = 33 ∨ m = 34 ∨ m = 120) (ho : Plain o) (ht : Plain t) (hd : Plain d) (hx : cs x = [50, 50, 57, 32] ++ 40 :: ((m :: (o ++ m :: (t ++ m :: (d ++ [m]))) ++ [46]) ++ 41 :: [])) : readOut x = .proto := by
  have hb : (41 : Nat) ∉ m :: (o ++ m :: (t ++ m :: (d ++ [m]))) ++ [46] := by
    have h1 := ho.no (c := 41) (by decide)
    have h2 := ht.no (c := 41) (by decide)
    have h3 := hd.no (c := 41) (by decide)
    simp [h1, h2, h3]
    first | exact fun q => (mk_ne hm).1 q.symm | exact fun q => (mk_ne hm).2.1 q.symm | omega
  obtain ⟨g1, g2⟩ := read_gen (x := x) (q := [32]) (body := m :: (o ++ m :: (t ++ m :: (d ++ [m]))) ++ [46]) (post := []) (m := m) (l := 46) hx (by simp) hb rfl rfl
  rw [g1, if_pos (by omega)]
theorem k10_read {x : Str} (hm : m = 124 ∨ m = 33 ∨ m = 34 ∨ m = 120) (hd : Plain d) (hx : cs x = [50, 50, 57, 32] ++ 40 :: ((m :: (m :: (d ++ [m]))) ++ 41 :: [])) : readOut x = .proto := by
  have hb : (41 : Nat) ∉ m :: (m :: (d ++ [m])) := by
    have h3 := hd.no (c := 41) (by decide)
    simp [h3]
    omega
  obtain ⟨g1, g2⟩ := read_gen (x := x) (q := [32]) (body := m :: (m :: (d ++ [m]))) (post := []) (m := m) (l := m) hx (by simp) hb rfl (mid' := m :: m :: d) (by simp)
  have e : spl m (m :: (m :: (d ++ [m]))) = [[], [], d, []] := by
    have e0 := spl_cut (c := m) (p := []) (m :: (d ++ [m])) (by simp)
    have e1 := spl_cut (c := m) (p := []) (d ++ [m]) (by simp)
    rw [List.nil_append] at e0 e1
    rw [e0, e1, spl_cut [] (hd.no (mk_no hm))]; rfl
  rw [g1, e]; simp
end
theorem value_reply {port r : Int} (h0 : 0 ≤ port) (hk : kindOf r = 9) : readOut (replyOf port r) = .value ∧ digits? 10 (core (numSeenOf ((rparts (replyOf port r)).getD 3 Str.empty))) = none ∧ cs ((rparts (replyOf port r)).getD 3 Str.empty) = cs (Str.ofString (toString port)) ++ [111] := by
  obtain ⟨m, hm, hmm⟩ := mark_cs r
  refine bad_parts (m := m) (o := cs (oneOf r)) (t := cs (twoOf r)) hmm (one_plain r) (two_plain r) (port_digits h0) (port_ne h0) ?_
  unfold replyOf repText
  rw [hk, if_neg (by omega), if_neg (by omega), if_pos rfl]
  have hi := inside_cs (port := port) hm
  have hi' : cs (insideOf port r) = (m :: (cs (oneOf r) ++ m :: (cs (twoOf r) ++ m :: cs (Str.ofString (toString port))))) ++ [m] := by rw [hi]; simp
  have hb := slice_butlast hi'
  simp only [cs_app, hb, cs_2, cs_9, hm, cs_6]
  simp
theorem rep_read {ps mk ins : Str} {port k : Int} {m : Nat} {o t d : List Nat} (hmm : m = 124 ∨ m = 33 ∨ m = 34 ∨ m = 120) (ho : Plain o) (ht : Plain t) (hd : Plain d) (hps : cs ps = d) (hpi : PySem.intText? ps = some port) (hps' : ps = Str.ofString (toString port))
    (hm : cs mk = [m]) (hi : cs ins = m :: (o ++ m :: (t ++ m :: (d ++ [m])))) (h9 : k ≠ 9) : readOut (repText mk ins port k) = dueOf port k := by
  have f40 : (40 : Nat) ∉ m :: (o ++ m :: (t ++ m :: (d ++ [m]))) := by
    have h1 := ho.no (c := 40) (by omega)
    have h2 := ht.no (c := 40) (by omega)
    have h3 := hd.no (c := 40) (by omega)
    simp [h1, h2, h3]; first | exact fun q => (mk_ne hm).1 q.symm | exact fun q => (mk_ne hm).2.1 q.symm | omega
  have f41 : (41 : Nat) ∉ m :: (o ++ m :: (t ++ m :: (d ++ [m]))) := by
    have h1 := ho.no (c := 41) (by decide)
    have h2 := ht.no (c := 41) (by decide)
    have h3 := hd.no (c := 41) (by decide)
    simp [h1, h2, h3]; first | exact fun q => (mk_ne hm).1 q.symm | exact fun q => (mk_ne hm).2.1 q.symm | omega
  unfold repText dueOf
  rw [← hps']
  by_cases hk4 : k = 4
  · rw [if_pos hk4, if_pos hk4]
    exact k4_read (d := 32 :: 40 :: (cs ins ++ [41])) (by rw [cs_app, cs_app, cs_1, cs_6]; rfl)
  rw [if_neg hk4, if_neg hk4]
  by_cases hk10 : k = 10
  · rw [if_pos hk10, if_pos hk10]
    exact k10_read hmm hd (by simp only [cs_app, cs_2, hm, hps, cs_6]; simp)
  rw [if_neg hk10, if_neg hk10, if_neg h9, if_neg h9]
  by_cases hk5 : 4 < k ∧ k < 9
  · rw [if_pos hk5, if_pos hk5]
    have hks : k = 5 ∨ k = 6 ∨ k = 7 ∨ k = 8 := by first | exact k58 (show 4 < k ∧ k < 9 by assumption).1 (show 4 < k ∧ k < 9 by assumption).2 | (trace "OMEGA"; omega)
    unfold tabOf
    rcases hks with e | e | e | e
    · rw [if_pos e]
      exact k5_read (d := 32 :: 91 :: (cs ins ++ [41])) (by rw [cs_app, cs_app, cs_3, cs_6]; rfl) (by rw [hi]; intro h; apply f40; simpa using h)
    · rw [if_neg (by omega), if_pos e]
      exact k6_read (d := cs ins) (by rw [cs_app, cs_4]; rfl) (by rw [hi]; exact f41)
    · rw [if_neg (by omega), if_neg (by omega), if_pos e]
      exact k7_read hmm ho ht hd (by simp only [cs_app, cs_2, hm, hi, cs_6]; simp)
    · rw [if_neg (by omega), if_neg (by omega), if_neg (by omega)]
      exact k8_read hmm ho ht hd (by simp only [cs_app, cs_2, hi, cs_8]; simp)
  rw [if_neg hk5, if_neg hk5]
  exact good_parts (port := port) hmm ho ht hd hps hpi (head_cs k) (tt := cs (tailOf k)) (by simp only [cs_app, cs_5, cs_7, hi, cs_6]; simp)
theorem read_reply {port r : Int} (h0 : 0 ≤ port) (h1 : port < 100000) : readOut (replyOf port r) = dueOf port (kindOf r) := by
  by_cases hk9 : kindOf r = 9
  · rw [(value_reply h0 hk9).1, hk9]; rfl
  obtain ⟨m, hm, hmm⟩ := mark_cs r
  exact rep_read hmm (one_plain r) (two_plain r) (AllDigits.plain (port_digits h0)) rfl (KIN.num_reads h0 (by omega)) rfl hm (inside_cs hm) hk9
theorem reply_len {port r : Int} (h0 : 0 ≤ port) (h1 : port < 100000) : (replyOf port r).length ≤ 300 := by
  have hi := inside_len (r := r) h0 h1
  have hm : (markOf r).length ≤ 1 := Nat.le_of_eq (len_item _ _)
  have hp := port_len h0 h1
  have l1 : (Str.ofString "227 (").length = 5 := by rw [← cs_len, cs_1]; rfl
  have l2 : (Str.ofString "229 (").length = 5 := by rw [← cs_len, cs_2]; rfl
  have l3 : (Str.ofString "229 [").length = 5 := by rw [← cs_len, cs_3]; rfl
  have l4 : (Str.ofString "229 ) (").length = 7 := by rw [← cs_len, cs_4]; rfl
  have l5 : (Str.ofString "229 ").length = 4 := by rw [← cs_len, cs_5]; rfl
  have l6 : (Str.ofString ")").length = 1 := by rw [← cs_len, cs_6]; rfl
  have l7 : (Str.ofString "(").length = 1 := by rw [← cs_len, cs_7]; rfl
  have l8 : (Str.ofString ".)").length = 2 := by rw [← cs_len, cs_8]; rfl
  have l9 : (Str.ofString "o").length = 1 := by rw [← cs_len, cs_9]; rfl
  have hh := head_len (kindOf r)
  have ht := tail_len (kindOf r)
  have hs := Txt.slice_le (insideOf port r) none (some (-1))
  unfold replyOf repText tabOf
  repeat' split
  all_goals simp only [str_len_app, l1, l2, l3, l4, l5, l6, l7, l8, l9]
  all_goals omega
theorem value_repr {port r : Int} (h0 : 0 ≤ port) (h1 : port < 100000) (hk : kindOf r = 9) :
    Hidden (digits? 10 (core (numSeenOf ((rparts (replyOf port r)).getD 3 Str.empty))) = none ∧ (reprText ((rparts (replyOf port r)).getD 3 Str.empty)).length ≤ sizeLine) := by
  obtain ⟨_, e1, e2⟩ := value_reply (port := port) h0 hk
  refine ⟨e1, ?_⟩
  have hl := StrLaws.reprText_len ((rparts (replyOf port r)).getD 3 Str.empty) (by
    intro c hc
    rw [show ((rparts (replyOf port r)).getD 3 Str.empty).cps.toList = _ from e2] at hc
    rcases List.mem_append.mp hc with q | q
    · have := port_digits h0 c q; omega
    · simp at q; omega)
  have hl2 : ((rparts (replyOf port r)).getD 3 Str.empty).length ≤ 7 := by
    rw [← cs_len, e2, List.length_append, cs_len]
    have := port_len h0 h1
    simp; omega
  rw [sizeLine_eq]
  omega
end
/-! ## MLaw -/
section
section
variable {α β : Type}
theorem sdGo_map {lt : α → α → Bool} {lt' : β → β → Bool} {f : α → β} (h : ∀ a b, lt a b = lt' (f a) (f b)) (x : α) : ∀ (pos : Nat) (xs : List α), (sdGo lt x xs pos).map f = sdGo lt' (f x) (xs.map f) pos := by
  intro pos
  induction pos using Nat.strongRecOn with
  | ind pos ih =>
    intro xs
    by_cases h0 : 0 < pos
    · cases hg : xs[(pos - 1) / 2]? with
      | none =>
        have hg' : (xs.map f)[(pos - 1) / 2]? = none := by rw [List.getElem?_map, hg]; rfl
        unfold sdGo
        rw [if_pos h0, if_pos h0, hg, hg']
        exact List.map_set
      | some p =>
        have hg' : (xs.map f)[(pos - 1) / 2]? = some (f p) := by rw [List.getElem?_map, hg]; rfl
        cases hl : lt x p with
        | true =>
          rw [sdGo_go h0 hg hl, sdGo_go h0 hg' (by rw [← h]; exact hl), ih _ (by first | exact hf0 h0 | (trace "OMEGA"; omega)), List.map_set]
        | false =>
          rw [sdGo_stop h0 hg hl, sdGo_stop h0 hg' (by rw [← h]; exact hl), List.map_set]
    · rw [sdGo_zero h0, sdGo_zero h0, List.map_set]
theorem suCh_map {lt : α → α → Bool} {lt' : β → β → Bool} {f : α → β} (h : ∀ a b, lt a b = lt' (f a) (f b)) (xs : List α) (pos : Nat) : suCh lt' (xs.map f) pos = suCh lt xs pos := by
  unfold suCh
  rw [List.length_map, List.getElem?_map, List.getElem?_map]
  split
  · cases xs[2 * pos + 1]? <;> cases xs[2 * pos + 2]? <;> simp [h]
  · rfl
theorem suGo_map {lt : α → α → Bool} {lt' : β → β → Bool} {f : α → β} (h : ∀ a b, lt a b = lt' (f a) (f b)) : ∀ (k : Nat) (xs : List α) (pos : Nat), xs.length - pos = k → suGo lt' (xs.map f) pos = ((suGo lt xs pos).1.map f, (suGo lt xs pos).2) := by
  intro k
  induction k using Nat.strongRecOn with
  | ind k ih =>
    intro xs pos hk
    by_cases hc : 2 * pos + 1 < xs.length
    · have hlt := suCh_lt lt hc
      have hgt := suCh_gt lt xs pos
      have hv := List.getElem?_eq_getElem hlt
      generalize xs[suCh lt xs pos]'hlt = v at hv
      rw [suGo_go lt hc hv, suGo_go lt' (v := f v) (by simpa using hc) (by rw [suCh_map h, List.getElem?_map, hv]; rfl), suCh_map h, ← List.map_set,
        ih _ (by simp only [List.length_set]; first | exact hf1 hk hgt hlt | (trace "OMEGA"; omega)) (xs.set pos v) (suCh lt xs pos) rfl]
    · rw [suGo_end lt hc, suGo_end lt' (by simpa using hc)]
theorem suAll_map {lt : α → α → Bool} {lt' : β → β → Bool} {f : α → β} (h : ∀ a b, lt a b = lt' (f a) (f b)) (x : α) (xs : List α) : (suAll lt x xs).map f = suAll lt' (f x) (xs.map f) := by
  unfold suAll
  rw [sdGo_map h, suGo_map h _ _ _ rfl, List.map_set]
theorem pushL_map {lt : α → α → Bool} {lt' : β → β → Bool} {f : α → β} (h : ∀ a b, lt a b = lt' (f a) (f b)) (x : α) (xs : List α) : (pushL lt x xs).map f = pushL lt' (f x) (xs.map f) := by
  unfold pushL
  rw [sdGo_map h, List.map_append, List.length_map]; rfl
theorem popL_map {lt : α → α → Bool} {lt' : β → β → Bool} {f : α → β} (h : ∀ a b, lt a b = lt' (f a) (f b)) (y : α) (xs : List α) : f (popL lt y xs).1 = (popL lt' (f y) (xs.map f)).1 ∧ (popL lt y xs).2.map f = (popL lt' (f y) (xs.map f)).2 := by
  cases xs with
  | nil => exact ⟨rfl, rfl⟩
  | cons z r => exact ⟨rfl, suAll_map h y (y :: r)⟩
theorem ppL_map {lt : α → α → Bool} {lt' : β → β → Bool} {f : α → β} (h : ∀ a b, lt a b = lt' (f a) (f b)) (y : α) (xs : List α) : f (ppL lt y xs).1 = (ppL lt' (f y) (xs.map f)).1 ∧ (ppL lt y xs).2.map f = (ppL lt' (f y) (xs.map f)).2 := by
  cases xs with
  | nil => exact ⟨rfl, rfl⟩
  | cons z r =>
    cases hl : lt z y with
    | true =>
      have hl' : lt' (f z) (f y) = true := by rw [← h]; exact hl
      have e1 : ppL lt y (z :: r) = (z, suAll lt y (y :: r)) := by simp [ppL, hl]
      have e2 : ppL lt' (f y) ((z :: r).map f) = (f z, suAll lt' (f y) (f y :: r.map f)) := by simp [ppL, hl']
      rw [e1, e2]
      exact ⟨rfl, suAll_map h y (y :: r)⟩
    | false =>
      have hl' : lt' (f z) (f y) = false := by rw [← h]; exact hl
      simp [ppL, hl, hl']
end
def ilt (a b : Int) : Bool := decide (a < b)
theorem ilt_ord : Ord ilt where
  tr := by intro a b c; unfold ilt; simp only [decide_eq_false_iff_not]; omega
  tot := by intro a b; unfold ilt; simp only [decide_eq_false_iff_not]; omega
theorem ilt_le {a b : Int} (h : ilt a b = false) : b ≤ a := by unfold ilt at h; simp only [decide_eq_false_iff_not] at h; omega
/-- the ports that there are before the i-th asking -/
def ports (first : Int) (i : Nat) : List Int := (List.range i).map fun (k : Nat) => first + (k : Int)
theorem ports_succ (first : Int) (i : Nat) : ports first (i + 1) = ports first i ++ [first + (i : Int)] := by
  unfold ports; rw [List.range_succ, List.map_append]; rfl
theorem mem_ports {first : Int} {i : Nat} {x : Int} : x ∈ ports first i ↔ first ≤ x ∧ x < first + i := by
  unfold ports
  rw [List.mem_map]
  constructor
  · rintro ⟨k, hk, rfl⟩
    have := List.mem_range.mp hk
    omega
  · rintro ⟨h1, h2⟩
    exact ⟨(x - first).toNat, List.mem_range.mpr (by omega), by omega⟩
theorem ports_nodup (first : Int) (i : Nat) : (ports first i).Nodup := by
  induction i with
  | zero => exact List.nodup_nil
  | succ i ih =>
    rw [ports_succ]
    refine List.nodup_append.mpr ⟨ih, by simp, ?_⟩
    intro a ha b hb
    have := mem_ports.mp ha
    simp at hb
    omega
theorem ports_sorted (first : Int) (i : Nat) : (ports first i).Pairwise (· ≤ ·) := by
  induction i with
  | zero => exact List.Pairwise.nil
  | succ i ih =>
    rw [ports_succ]
    refine List.pairwise_append.mpr ⟨ih, by simp, ?_⟩
    intro a ha b hb
    have := mem_ports.mp ha
    simp at hb
    omega
/-- k is the least from first on that is not held -/
structure IsLeast (first : Int) (held : List Int) (k : Int) : Prop where
  lo : first ≤ k
  out : k ∉ held
  all : ∀ j, first ≤ j → j < k → j ∈ held
theorem IsLeast.unique {first : Int} {held : List Int} {k l : Int} (h : IsLeast first held k) (h' : IsLeast first held l) : k = l := by
  rcases Int.lt_trichotomy k l with c | c | c
  · exact absurd (h'.all k h.lo c) h.out
  · exact c
  · exact absurd (h.all l h'.lo c) h'.out
def heldAt (due : List (Int × Int)) (h : Int) : List Int := (due.filter fun x => decide (h < x.1)).map (·.2)
/-- what _law_told tells -/
inductive Told (first : Int) : List (Int × Int × Int) → List (Int × Int) → Prop where
  | nil : Told first [] []
  | snoc {row : List (Int × Int × Int)} {due : List (Int × Int)} {h e p x : Int} : Told first row due → IsLeast first (heldAt due h) x → Told first (row ++ [(h, e, p)]) (due ++ [(e, x)])
theorem Told.inv {first : Int} {r : List (Int × Int × Int)} {d : List (Int × Int)} (t : Told first r d) :
    (r = [] ∧ d = []) ∨ ∃ row due h e p x, r = row ++ [(h, e, p)] ∧ d = due ++ [(e, x)] ∧ Told first row due ∧ IsLeast first (heldAt due h) x := by
  cases t with
  | nil => exact .inl ⟨rfl, rfl⟩
  | snoc t l => exact .inr ⟨_, _, _, _, _, _, rfl, rfl, t, l⟩
theorem Told.unique {first : Int} : ∀ (n : Nat) {r : List (Int × Int × Int)} {d d' : List (Int × Int)}, r.length = n → Told first r d → Told first r d' → d = d' := by
  intro n
  induction n with
  | zero =>
    intro r d d' hl t t'
    have hr : r = [] := List.eq_nil_of_length_eq_zero hl
    subst hr
    rcases t.inv with ⟨_, rfl⟩ | ⟨row, due, h, e, p, x, hr, _⟩
    · rcases t'.inv with ⟨_, rfl⟩ | ⟨row, due, h, e, p, x, hr, _⟩
      · rfl
      · simp at hr
    · simp at hr
  | succ n ih =>
    intro r d d' hl t t'
    rcases t.inv with ⟨rfl, _⟩ | ⟨row, due, h, e, p, x, rfl, rfl, t1, l1⟩
    · simp at hl
    · rcases t'.inv with ⟨hr, _⟩ | ⟨row', due', h', e', p', x', hr, rfl, t2, l2⟩
      · simp at hr
      · have hq := List.append_inj' hr rfl
        obtain ⟨rfl, hq⟩ := hq
        simp only [List.cons.injEq, Prod.mk.injEq, and_true] at hq
        obtain ⟨rfl, rfl, rfl⟩ := hq
        have e1 := ih (by simpa using hl) t1 t2
        subst e1
        rw [l1.unique l2]
abbrev endPort (t : Int × Int × Int) : Int × Int := (t.2.1, t.2.2)
/-- what stands before the i-th asking -/
structure PInv (first : Int) (i : Nat) (free : List Int) (running : List (Int × Int)) (row : List (Int × Int × Int)) (hour : Int) : Prop where
  hf : IsHeap ilt free
  hr : IsHeap klt running
  perm : (free ++ running.map (·.2)).Perm (ports first i)
  run : running.Perm ((row.map endPort).filter fun x => decide (hour < x.1))
  told : Told first row (row.map endPort)
  len : row.length ≤ i
theorem PInv.zero (first : Int) : PInv first 0 [] [] [] 0 := ⟨isHeap_nil, isHeap_nil, .refl _, .refl _, .nil, Nat.le_refl _⟩
/-- the pops of a turn -/
structure Popped (running₀ : List (Int × Int)) (c0 hour : Int) (coming : List Int) (running : List (Int × Int)) : Prop where
  hr : IsHeap klt running
  ex : ∃ gone : List (Int × Int), coming = c0 :: gone.map (·.2) ∧ (gone ++ running).Perm running₀ ∧ ∀ d ∈ gone, d.1 ≤ hour
theorem Popped.start {running₀ : List (Int × Int)} {c0 hour : Int} (h : IsHeap klt running₀) : Popped running₀ c0 hour [c0] running₀ := ⟨h, [], rfl, .refl _, fun _ h => by simp at h⟩
theorem Popped.step {running₀ : List (Int × Int)} {c0 hour : Int} {coming : List Int} {ys : List (Int × Int)} {y : Int × Int} (h : Popped running₀ c0 hour coming (ys ++ [y])) (hh : (popL klt y ys).1.1 ≤ hour) :
    Popped running₀ c0 hour (coming ++ [(popL klt y ys).1.2]) (popL klt y ys).2 := by
  obtain ⟨h1, h2, h3⟩ := popL_spec klt_ord h.hr
  obtain ⟨gone, rfl, hp, hg⟩ := h.ex
  refine ⟨h1, gone ++ [(popL klt y ys).1], by simp, ?_, ?_⟩
  · rw [List.append_assoc]
    exact (h2.append_left gone).trans hp
  · intro d hd
    rcases List.mem_append.mp hd with hd | hd
    · exact hg d hd
    · simp at hd; subst hd; exact hh
theorem popL_first {y : Int × Int} {ys : List (Int × Int)} : (ys ++ [y])[0]? = some (popL klt y ys).1 := by
  cases ys <;> rfl
theorem klt_fst {a b : Int × Int} (h : klt a b = false) : b.1 ≤ a.1 := by
  unfold klt at h
  split at h
  · omega
  · simp only [decide_eq_false_iff_not] at h; omega
theorem Popped.late {running₀ : List (Int × Int)} {c0 hour : Int} {coming : List Int} {running : List (Int × Int)} (h : Popped running₀ c0 hour coming running) (hx : running = [] ∨ ∃ z, running[0]? = some z ∧ hour < z.1) : ∀ x ∈ running, hour < x.1 := by
  rcases hx with rfl | ⟨z, hz, hl⟩
  · intro x hx; simp at hx
  · intro x hx
    cases running with
    | nil => simp at hz
    | cons a r =>
      simp at hz; subst hz
      have := klt_fst (heap_min' klt_ord h.hr x hx)
      omega
/-- behind the pops and the pushes: the port that is lent -/
structure Lent (first : Int) (i : Nat) (free : List Int) (running : List (Int × Int)) (row : List (Int × Int × Int)) (hour port : Int) : Prop where
  hf : IsHeap ilt free
  hr : IsHeap klt running
  perm : (port :: free ++ running.map (·.2)).Perm (ports first (i + 1))
  run : running.Perm ((row.map endPort).filter fun x => decide (hour < x.1))
  told : Told first row (row.map endPort)
  least : IsLeast first (heldAt (row.map endPort) hour) port
  len : row.length ≤ i
theorem Lent.range {first : Int} {i : Nat} {free : List Int} {running : List (Int × Int)} {row : List (Int × Int × Int)} {hour port : Int} (h : Lent first i free running row hour port) : first ≤ port ∧ port ≤ first + i := by
  have := mem_ports.mp (h.perm.mem_iff.mp (show port ∈ port :: free ++ running.map (·.2) by simp))
  omega
theorem lent {first : Int} {i : Nat} {free₀ free free' : List Int} {running₀ running : List (Int × Int)} {row : List (Int × Int × Int)} {hour₀ hour port : Int} {coming : List Int} {last : Int} {early : List Int}
    (h : PInv first i free₀ running₀ row hour₀) (hle : hour₀ ≤ hour) (P : Popped running₀ (first + i) hour coming running) (hx : running = [] ∨ ∃ z, running[0]? = some z ∧ hour < z.1)
    (hc : coming = early ++ [last]) (hf : IsHeap ilt free) (hfp : free.Perm (free₀ ++ early)) (hpp : ppL ilt last free = (port, free')) : Lent first i free' running row hour port := by
  obtain ⟨p1, p2, p3⟩ := ppL_spec (v := last) ilt_ord hf
  rw [hpp] at p1 p2 p3
  have late := P.late hx
  obtain ⟨gone, hcm, hgp, hg⟩ := P.ex
  have hrun : running.Perm ((row.map endPort).filter fun x => decide (hour < x.1)) := by
    have e1 := (hgp.trans h.run).filter fun x => decide (hour < x.1)
    rw [List.filter_append, List.filter_filter] at e1
    have e2 : gone.filter (fun x => decide (hour < x.1)) = [] := List.filter_eq_nil_iff.mpr fun d hd => by have := hg d hd; simp; omega
    have e3 : running.filter (fun x => decide (hour < x.1)) = running := List.filter_eq_self.mpr fun d hd => by simpa using late d hd
    have e4 : (row.map endPort).filter (fun x => decide (hour < x.1) && decide (hour₀ < x.1)) = (row.map endPort).filter fun x => decide (hour < x.1) := by
      congr 1
      funext x
      by_cases q : hour < x.1
      · simp [q, show hour₀ < x.1 by omega]
      · simp [q]
    rw [e2, e3, List.nil_append, e4] at e1
    exact e1
  have hall : (port :: free' ++ running.map (·.2)).Perm (ports first (i + 1)) := by
    have e1 : (port :: free').Perm (free₀ ++ coming) := by
      refine p2.trans ?_
      rw [hc]
      refine (List.Perm.cons last hfp).trans ?_
      rw [← List.append_assoc]
      exact (List.perm_append_singleton last _).symm
    refine (e1.append_right _).trans ?_
    rw [hcm, ports_succ]
    have e2 : ((gone ++ running).map (·.2)).Perm (running₀.map (·.2)) := hgp.map _
    rw [List.map_append] at e2
    have e3 : (free₀ ++ (gone.map (·.2) ++ running.map (·.2))).Perm (ports first i) := (e2.append_left _).trans h.perm
    refine List.Perm.trans ?_ (e3.append_right [first + (i : Int)])
    rw [List.append_assoc, List.append_assoc]
    refine List.Perm.append_left free₀ ?_
    rw [List.cons_append]
    exact (List.perm_append_singleton _ _).symm
  refine ⟨p1, P.hr, hall, hrun, h.told, ?_, h.len⟩
  have hheld : ∀ x, x ∈ heldAt (row.map endPort) hour ↔ x ∈ running.map (·.2) := fun x => (hrun.map (·.2)).mem_iff.symm
  have hnd : (port :: free' ++ running.map (·.2)).Nodup := hall.symm.nodup (ports_nodup _ _)
  refine ⟨(mem_ports.mp (hall.mem_iff.mp (by simp))).1, fun hm => ?_, fun j hj hl => ?_⟩
  · have hm' := (hheld port).mp hm
    exact (List.nodup_append.mp hnd).2.2 port (by simp) port hm' rfl
  · rw [hheld]
    have hp : port ∈ ports first (i + 1) := hall.mem_iff.mp (by simp)
    have hp' := mem_ports.mp hp
    have hj' : j ∈ ports first (i + 1) := mem_ports.mpr (by omega)
    have hj2 := hall.mem_iff.mpr hj'
    rcases List.mem_append.mp hj2 with q | q
    · exfalso
      rcases List.mem_cons.mp q with rfl | q
      · omega
      · have := ilt_le (p3 j (p2.mem_iff.mp (by simp [q])))
        simp only at this
        omega
    · exact q
theorem Lent.back {first : Int} {i : Nat} {free : List Int} {running : List (Int × Int)} {row : List (Int × Int × Int)} {hour port : Int} (h : Lent first i free running row hour port) : PInv first (i + 1) (pushL ilt port free) running row hour := by
  obtain ⟨p1, p2⟩ := pushL_spec (v := port) ilt_ord h.hf
  exact ⟨p1, h.hr, (p2.append_right _).trans h.perm, h.run, h.told, Nat.le_succ_of_le h.len⟩
theorem Lent.on {first : Int} {i : Nat} {free : List Int} {running : List (Int × Int)} {row : List (Int × Int × Int)} {hour port e : Int} (h : Lent first i free running row hour port) (he : hour < e) : PInv first (i + 1) free (pushL klt (e, port) running) (row ++ [(hour, e, port)]) hour := by
  obtain ⟨p1, p2⟩ := pushL_spec (v := (e, port)) klt_ord h.hr
  refine ⟨h.hf, p1, ?_, ?_, ?_, by simp; exact h.len⟩
  · refine ((p2.map (·.2)).append_left free).trans (List.Perm.trans ?_ h.perm)
    rw [List.map_cons]
    exact List.perm_middle
  · rw [List.map_append, List.filter_append]
    have e1 : ((([(hour, e, port)] : List (Int × Int × Int)).map endPort).filter fun x => decide (hour < x.1)) = [(e, port)] := by simp [he]
    rw [e1]
    exact p2.trans ((List.Perm.cons _ h.run).trans (List.perm_append_singleton _ _).symm)
  · rw [List.map_append]
    exact .snoc h.told h.least
/-- some pops of a heap, in their order -/
structure Drawn {α : Type} (lt : α → α → Bool) (xs₀ out xs : List α) : Prop where
  hp : IsHeap lt xs
  perm : (out ++ xs).Perm xs₀
  low : ∀ a ∈ out, ∀ b ∈ xs, lt b a = false
  srt : out.Pairwise fun a b => lt b a = false
theorem Drawn.start {α : Type} {lt : α → α → Bool} {xs : List α} (h : IsHeap lt xs) : Drawn lt xs [] xs := ⟨h, .refl _, fun _ h => by simp at h, .nil⟩
theorem Drawn.step {α : Type} {lt : α → α → Bool} (O : Ord lt) {xs₀ out ys : List α} {y : α} (h : Drawn lt xs₀ out (ys ++ [y])) : Drawn lt xs₀ (out ++ [(popL lt y ys).1]) (popL lt y ys).2 := by
  obtain ⟨h1, h2, h3⟩ := popL_spec O h.hp
  refine ⟨h1, ?_, ?_, ?_⟩
  · rw [List.append_assoc]
    exact (h2.append_left out).trans h.perm
  · intro a ha b hb
    have hb' : b ∈ ys ++ [y] := h2.mem_iff.mp (by simp [hb])
    rcases List.mem_append.mp ha with ha | ha
    · exact h.low a ha b hb'
    · simp at ha; subst ha; exact h3 b hb'
  · refine List.pairwise_append.mpr ⟨h.srt, by simp, fun a ha b hb => ?_⟩
    simp at hb; subst hb
    exact h.low a ha _ (h2.mem_iff.mp (by simp))
theorem Drawn.len {α : Type} {lt : α → α → Bool} {xs₀ out xs : List α} (h : Drawn lt xs₀ out xs) : out.length + xs.length = xs₀.length := by
  have := h.perm.length_eq; simpa using this
theorem klt_anti {a b : Int × Int} (h : klt a b = false) (h' : klt b a = false) : a = b := by
  obtain ⟨a1, a2⟩ := a
  obtain ⟨b1, b2⟩ := b
  unfold klt at *
  dsimp only at *
  by_cases e : a1 = b1
  · subst e
    rw [if_pos rfl] at h h'
    exact Prod.ext rfl (Int.le_antisymm (Int.not_lt.mp (of_decide_eq_false h')) (Int.not_lt.mp (of_decide_eq_false h)))
  · rw [if_neg e] at h
    rw [if_neg fun q => e q.symm] at h'
    exact absurd (Int.le_antisymm (Int.not_lt.mp (of_decide_eq_false h')) (Int.not_lt.mp (of_decide_eq_false h))) e
theorem sorted_unique {α : Type} {lt : α → α → Bool} (hanti : ∀ a b, lt a b = false → lt b a = false → a = b) {l l' : List α} (p : l.Perm l') (h : l.Pairwise fun a b => lt b a = false) (h' : l'.Pairwise fun a b => lt b a = false) : l = l' := by
  refine List.Perm.eq_of_pairwise (le := fun a b => lt b a = false) ?_ h h' p
  intro a b _ _ h1 h2
  exact hanti a b h2 h1
end
/-! ## MLoop -/
section
open PySem PySem.W PySem.Calls PyProof.Rows
section
variable {prog : Program} {w : World} {A : Around}
/-- an iterator of n items at I -/
structure Nexts (prog : Program) (w : World) (A : Around) (I : Addr) (n : Nat) (St : Nat → Obj → Prop) (V : Nat → Value → Prop) (need : Led) : Prop where
  item : ∀ (i : Nat) (s : Shared) (Q : Option Value → Shared → Prop) (E : Value → Shared → Prop) (o : Obj), i < n → s.heap.get? I = some o → St i o → (∀ p ∈ need, s.heap.get? p.1 = some p.2) →
    (∀ v h' tk o', V i v → h'.get? I = some o' → St (i + 1) o' → Heap.SameBut I s.heap h' → Q (some v) { s with heap := h', toks := tk }) → wpAny (model prog w) A (pyNext (.ref I)) Q E s
  stop : ∀ (s : Shared) (Q : Option Value → Shared → Prop) (E : Value → Shared → Prop) (o : Obj), s.heap.get? I = some o → St n o → (∀ p ∈ need, s.heap.get? p.1 = some p.2) →
    (∀ h', Heap.ExtBut I s.heap h' → Q none { s with heap := h' }) → wpAny (model prog w) A (pyNext (.ref I)) Q E s
  plain : ∀ (i : Nat) (o : Obj), St i o → o.cls = .type "list_iterator" ∨ o.cls = .type "range_iterator"
def literOf (D : Addr) (i : Nat) (o : Obj) : Prop := o.cls = .type "list_iterator" ∧ o.data = .fields #[.ref D, .int i 0]
abbrev riterObj (x left : Int) : Obj := { cls := .type "range_iterator", dict := none, data := .fields #[rawInt x, rawInt left, rawInt 1], slots := #[] }
def riterOf (a : Int) (n i : Nat) (o : Obj) : Prop := o = riterObj (a + (i : Int)) ((n : Int) - (i : Int))
theorem Nexts.list (hh : A.handled = none) {I D : Addr} (vs : List Value) (k : Nat) : Nexts prog w A I vs.length (literOf D) (fun i v => vs[i]? = some v) [(D, listOf vs.toArray k)] where
  item i s Q E o hi ho hst hn h := by
    have hl : s.heap.IsList D vs.toArray := ⟨_, hn (D, listOf vs.toArray k) (.head _), rfl, k, rfl⟩
    have hx := List.getElem?_eq_getElem hi
    refine wpAny_pyNext_list_item (x := vs[i]) ⟨o, ho, hst.1, hst.2⟩ hl (by simpa using hx) fun h' hit hs => ?_
    obtain ⟨o', ho', h1, h2⟩ := hit
    exact h _ h' s.toks o' hx ho' ⟨h1, h2⟩ hs
  stop s Q E o ho hst hn h := by
    have hl : s.heap.IsList D vs.toArray := ⟨_, hn (D, listOf vs.toArray k) (.head _), rfl, k, rfl⟩
    exact wpAny_pyNext_list_end hh ⟨o, ho, hst.1, hst.2⟩ hl (by simp) h
  plain i o h := .inl h.1
theorem Nexts.range (hh : A.handled = none) {I : Addr} (a : Int) (n : Nat) : Nexts prog w A I n (riterOf a n) (fun i v => ∃ t, v = .int (a + (i : Int)) t) [] where
  item i s Q E o hi ho hst hn h := by
    unfold riterOf at hst
    subst hst
    refine wpAny_pyNext_range_item ho (by omega) fun h' hit hs => ?_
    refine h _ h' _ _ ⟨_, rfl⟩ hit ?_ hs
    unfold riterOf riterObj
    rw [show a + ((i + 1 : Nat) : Int) = a + (i : Int) + 1 by omega, show (n : Int) - ((i + 1 : Nat) : Int) = (n : Int) - (i : Int) - 1 by omega]
  stop s Q E o ho hst hn h := by
    unfold riterOf at hst
    subst hst
    exact wpAny_pyNext_range_end hh ho (by omega) h
  plain i o h := .inr (by rw [h])
/-- the let of a for's target gives nothing up -/
def LetOk (prog : Program) (w : World) (A : Around) (target : PySem.Expr) (I : Addr) : Prop := ∀ (v : Value) (s : Shared) (E : Value → Shared → Prop) (o : Obj) (Q : Unit → Shared → Prop), s.heap.get? I = some o → (o.cls = .type "list_iterator" ∨ o.cls = .type "range_iterator") → Q () s → wpAny (model prog w) A (letOwnedTupleGo target (.ref I) v) Q E s
theorem let_name {x : Str} {p : Pos} {I : Addr} : LetOk prog w A (.Name x p) I := fun _ _ _ _ _ _ _ h => wpAny_pure h
theorem let_tuple {ts : List PySem.Expr} {p : Pos} {b : _} {I : Addr} : LetOk prog w A (.Tuple ts b p) I := by
  rintro v s E ⟨cls, dict, data, slots⟩ Q ho hc h
  cases v with
  | ref a =>
    refine wpAny_bind (m := load I) (wpAny_load ho ?_)
    dsimp only at hc ⊢
    rcases hc with rfl | rfl
    · cases data with
      | fields vs => exact wpAny_pure h
      | _ => exact wpAny_pure h
    · cases data with
      | fields vs => exact wpAny_pure h
      | _ => exact wpAny_pure h
  | _ => exact wpAny_pure h
theorem fr_other {h₀ h h' : Heap} {L I : Addr} {m : Str → Option Value} (F : Fr h₀ L h m) (hL : I ≠ L) (h0 : h₀.get? I = none) (hk : Heap.ExtBut I h h') : Fr h₀ L h' m :=
  ⟨F.ns.at' fun o e => hk _ o (Ne.symm hL) e, fun b o e => hk b o (fun q => by rw [q, h0] at e; cases e) (F.keep b o e), F.above⟩
theorem news_other {h₀ h h' : Heap} {L I : Addr} {l : Led} (N : News h₀ L h l) (hoff : ∀ p ∈ l, p.1 ≠ I) (hk : Heap.ExtBut I h h') : News h₀ L h' l := fun p hp => ⟨hk _ _ (hoff p hp) (N p hp).1, (N p hp).2⟩
/-- a turn's end -/
structure FEnd {σ : Type} (h₀ : Heap) (L I : Addr) (s : Shared) (St : Nat → Obj → Prop) (Led : σ → List (Addr × Obj)) (ps : σ → List (Str × Value)) (P : Nat → σ → Prop) (i : Nat) (s₂ : Shared) : Prop where
  ex : Ex5 fun h' tk m' c o => Al7 (s₂ = { s with heap := h', toks := tk }) (Fr h₀ L h' m') (News h₀ L h' ((I, o) :: Led c)) (St (i + 1) o) ((∀ p ∈ Led c, p.1 ≠ I)) ((∀ p ∈ ps c, m' p.1 = some p.2)) (P (i + 1) c)
def FPost {σ : Type} (h₀ : Heap) (L I : Addr) (s : Shared) (St : Nat → Obj → Prop) (Led : σ → List (Addr × Obj)) (ps : σ → List (Str × Value)) (P : Nat → σ → Prop) (Q : Flow → Shared → Prop) (i : Nat) (f : Flow) (s₂ : Shared) : Prop :=
  match f with
  | .ret v => Q (.ret v) s₂
  | .brk => Q .next s₂
  | _ => FEnd h₀ L I s St Led ps P i s₂
section
variable {E : Value → Shared → Prop} {s : Shared} {h₀ : Heap} {L : Addr} {env : Env} {target : PySem.Expr} {body : List Stmt} {Q : Flow → Shared → Prop}
theorem m_forCore {σ : Type} {I : Addr} {n : Nat} {St : Nat → Obj → Prop} {V : Nat → Value → Prop} {need : Led} {m₀ : Str → Option Value} (nx : Nexts prog w A I n St V need) (Led : σ → List (Addr × Obj)) (ps : σ → List (Str × Value)) (P : Nat → σ → Prop)
    (hneed : ∀ c i, P i c → ∀ p ∈ need, p ∈ Led c) (c₀ : σ) {o₀ : Obj} (F : Fr h₀ L s.heap m₀) (N : News h₀ L s.heap ((I, o₀) :: Led c₀)) (hst : St 0 o₀) (hoff : ∀ p ∈ Led c₀, p.1 ≠ I) (hk : ∀ p ∈ ps c₀, m₀ p.1 = some p.2) (hP : P 0 c₀)
    (turn : ∀ (i : Nat) (v : Value) (c : σ) (u : Str → Option Value) (o : Obj) h tk, i < n → V i v → P i c → (∀ p ∈ Led c, p.1 ≠ I) → St (i + 1) o → Fr h₀ L h (kstB u (ps c)) → News h₀ L h ((I, o) :: Led c) →
      wpAny (model prog w) A (assign target env v) (fun _ s₂ => wpAny (model prog w) A (execs body env) (FPost h₀ L I s St Led ps P Q i) (fun _ _ => False) s₂) (fun _ _ => False) { s with heap := h, toks := tk })
    (done : ∀ (c : σ) (u : Str → Option Value) h tk, P n c → Fr h₀ L h (kstB u (ps c)) → News h₀ L h (Led c) → Q .next { s with heap := h, toks := tk }) (hlet : LetOk prog w A target I) :
    codeAny (model prog w) A (.forLoop target (.ref I) body [] env) (fun r s' => match r with | .ok f => Q f s' | .error e => cameBackBy (model prog w) A env E e s') s := by
  have hI : I ≠ L ∧ h₀.get? I = none := (N (I, o₀) (.head _)).2
  refine codeAny_forLoop_any (fun k s' => Ex6 fun h' tk m' c o i => Al9 (s' = { s with heap := h', toks := tk }) (Fr h₀ L h' m') (News h₀ L h' ((I, o) :: Led c)) (St i o) ((∀ p ∈ Led c, p.1 ≠ I)) ((∀ p ∈ ps c, m' p.1 = some p.2)) (P i c) (i ≤ n) (k = n + 1 - i))
    ?_ (n + 1) ⟨s.heap, s.toks, m₀, c₀, o₀, 0, rfl, F, N, hst, hoff, hk, hP, Nat.zero_le _, rfl⟩
  rintro k s' ⟨h', tk, m', c, o, i, rfl, F', N', hst', hoff', hk', hP', hi, rfl⟩
  have em : kstB m' (ps c) = m' := funext fun z => kstB_eq hk' fun _ => rfl
  have hnd : ∀ p ∈ need, h'.get? p.1 = some p.2 := fun p hp => (N' p (.tail _ (hneed c i hP' p hp))).1
  by_cases hlt : i < n
  · refine nx.item i _ _ _ o hlt (N' (I, o) (.head _)).1 hst' hnd fun v h₁ tk₁ o' hV ho' hst₁ hs₁ => ?_
    have F₁ : Fr h₀ L h₁ m' := fr_other F' hI.1 hI.2 hs₁.extBut
    have N₁ : News h₀ L h₁ ((I, o') :: Led c) := fun p hp => by
      rcases List.mem_cons.mp hp with rfl | hp
      · exact ⟨ho', hI⟩
      · exact news_other (fun q hq => N' q (.tail _ hq)) hoff' hs₁.extBut p hp
    refine hlet _ _ _ _ _ ho' (nx.plain _ _ hst₁) ?_
    have t := turn i v c m' o' h₁ tk₁ hlt hV hP' hoff' hst₁ (by rw [em]; exact F₁) N₁
    refine wpAny_mono t (fun _ s₂ t₂ => wpAny_mono t₂ (fun f s₃ t₃ => ?_) fun _ _ x => x.elim) fun _ _ x => x.elim
    have hlt' : n + 1 - (i + 1) < n + 1 - i := Nat.sub_lt_sub_left (Nat.lt_succ_of_lt hlt) (Nat.lt_succ_self i)
    have kk : FEnd h₀ L I s St Led ps P i s₃ → ∃ j, j < n + 1 - i ∧ Ex6 fun h' tk m' c o i => Al9 (s₃ = { s with heap := h', toks := tk }) (Fr h₀ L h' m') (News h₀ L h' ((I, o) :: Led c)) (St i o) (∀ p ∈ Led c, p.1 ≠ I) (∀ p ∈ ps c, m' p.1 = some p.2) (P i c) (i ≤ n) (j = n + 1 - i) := by
      rintro ⟨⟨h₃, tk₃, m₃, c₃, o₃, rfl, a1, a2, a3, a4, a5, a7⟩⟩
      exact ⟨n + 1 - (i + 1), hlt', h₃, tk₃, m₃, c₃, o₃, i + 1, rfl, a1, a2, a3, a4, a5, a7, hlt, rfl⟩
    cases f with
    | ret v => exact t₃
    | brk => exact t₃
    | next => exact kk t₃
    | cont => exact kk t₃
  · have hin : i = n := by omega
    subst hin
    refine nx.stop _ _ _ o (N' (I, o) (.head _)).1 hst' hnd fun h₁ hk₁ => wpAny_execs_nil ?_
    exact done c m' h₁ tk hP' (by rw [em]; exact fr_other F' hI.1 hI.2 hk₁) (news_other (fun q hq => N' q (.tail _ hq)) hoff' hk₁)
theorem f_end {σ : Type} {I : Addr} {St : Nat → Obj → Prop} {Led : σ → List (Addr × Obj)} {ps : σ → List (Str × Value)} {m' : Str → Option Value} {P : Nat → σ → Prop} {i : Nat} {h' : Heap} {tk : Nat} {news' : List (Addr × Obj)} {o : Obj}
    (F : Fr h₀ L h' m') (N : News h₀ L h' news') (hst : St (i + 1) o)
    (k : Ex1 fun c' => Al4 ((∀ p ∈ (I, o) :: Led c', p ∈ news')) ((∀ p ∈ Led c', p.1 ≠ I)) ((∀ p ∈ ps c', m' p.1 = some p.2)) (P (i + 1) c')) : FEnd h₀ L I s St Led ps P i { s with heap := h', toks := tk } := by
  obtain ⟨c', h1, h2, h3, h4⟩ := k
  exact ⟨h', tk, m', c', o, rfl, F, kst_newsOf N h1, hst, h2, h3, h4⟩
structure WEnd {σ : Type} (h₀ : Heap) (L : Addr) (s : Shared) (Led : σ → List (Addr × Obj)) (ps : σ → List (Str × Value)) (P : σ → Prop) (μ : σ → Nat) (c : σ) (s₂ : Shared) : Prop where
  ex : Ex4 fun h' tk m' c' => Al6 (s₂ = { s with heap := h', toks := tk }) (Fr h₀ L h' m') (News h₀ L h' (Led c')) ((∀ p ∈ ps c', m' p.1 = some p.2)) (P c') (μ c' < μ c)
def WPost {σ : Type} (h₀ : Heap) (L : Addr) (s : Shared) (Led : σ → List (Addr × Obj)) (ps : σ → List (Str × Value)) (P : σ → Prop) (μ : σ → Nat) (Q : Flow → Shared → Prop) (c : σ) (f : Flow) (s₂ : Shared) : Prop :=
  match f with
  | .ret v => Q (.ret v) s₂
  | .brk => Q .next s₂
  | _ => WEnd h₀ L s Led ps P μ c s₂
theorem m_whileS {σ : Type} {test : PySem.Expr} {pos : Pos} {m₀ : Str → Option Value} (Led : σ → List (Addr × Obj)) (ps : σ → List (Str × Value)) (P : σ → Prop) (μ : σ → Nat) (c₀ : σ) (F : Fr h₀ L s.heap m₀) (N : News h₀ L s.heap (Led c₀)) (hk : ∀ p ∈ ps c₀, m₀ p.1 = some p.2) (hp : P c₀)
    (turn : ∀ (c : σ) (u : Str → Option Value) h tk, P c → Fr h₀ L h (kstB u (ps c)) → News h₀ L h (Led c) →
      wpAny (model prog w) A (isTrue test env (eval test env)) (fun b s₂ =>
        if b = true then wpAny (model prog w) A (execs body env) (WPost h₀ L s Led ps P μ Q c) E s₂ else Q .next s₂) E { s with heap := h, toks := tk })
    (hE : PassesOwn (model prog w) A env E := by passes_own) : wpAny (model prog w) A (exec (.While test body [] pos) env) Q E s := by
  refine While_inv2 (fun n m nx => ∃ c : σ, nx = Led c ∧ μ c = n ∧ (∀ p ∈ ps c, m p.1 = some p.2) ∧ P c) F N ⟨c₀, rfl, rfl, hk, hp⟩ ?_ hE
  rintro n m₁ nx h tk F₁ N₁ ⟨c, hnx, hsz, h1, hp'⟩
  rw [hnx] at N₁
  rw [← hsz]
  have em : kstB m₁ (ps c) = m₁ := funext fun z => kstB_eq h1 fun _ => rfl
  refine wpAny_mono (turn c m₁ h tk hp' (by rw [em]; exact F₁) N₁) (fun b s₂ p => ?_) fun _ _ x => x
  cases b with
  | false => simpa using p
  | true =>
    simp only [if_true] at p ⊢
    refine wpAny_mono p (fun f s₃ q => ?_) fun _ _ x => x
    cases f with
    | ret v => exact q
    | brk => exact q
    | next =>
      obtain ⟨h', tk', m', c', rfl, F', N', hk9, hp9, hm9⟩ := q.ex
      exact ⟨h', tk', m', Led c', μ c', rfl, F', N', hm9, c', rfl, rfl, hk9, hp9⟩
    | cont =>
      obtain ⟨h', tk', m', c', rfl, F', N', hk9, hp9, hm9⟩ := q.ex
      exact ⟨h', tk', m', Led c', μ c', rfl, F', N', hm9, c', rfl, rfl, hk9, hp9⟩
theorem w_end {σ : Type} {Led : σ → List (Addr × Obj)} {ps : σ → List (Str × Value)} {m' : Str → Option Value} {P : σ → Prop} {μ : σ → Nat} {c : σ} {h' : Heap} {tk : Nat} {news' : List (Addr × Obj)}
    (F : Fr h₀ L h' m') (N : News h₀ L h' news') (k : Ex1 fun c' => Al4 ((∀ p ∈ Led c', p ∈ news')) ((∀ p ∈ ps c', m' p.1 = some p.2)) (P c') (μ c' < μ c)) : WEnd h₀ L s Led ps P μ c { s with heap := h', toks := tk } := by
  obtain ⟨c', h1, h3, h4, h5⟩ := k
  exact ⟨h', tk, m', c', rfl, F, kst_newsOf N h1, h3, h4, h5⟩
/-- a for over a list of the ledger -/
theorem m_iterList {σ : Type} {D : Addr} {vs : List Value} {kn : Nat} {m₀ : Str → Option Value} (Led : σ → List (Addr × Obj)) (ps : σ → List (Str × Value)) (P : Nat → σ → Prop) (hh : A.handled = none)
    (hneed : ∀ c i, P i c → (D, listOf vs.toArray kn) ∈ Led c) (c₀ : σ) (F : Fr h₀ L s.heap m₀) (N : News h₀ L s.heap (Led c₀)) (hk : ∀ p ∈ ps c₀, m₀ p.1 = some p.2) (hP : P 0 c₀)
    (turn : ∀ (I : Addr), (∀ p ∈ Led c₀, p.1 < I) → ∀ (i : Nat) (v : Value) (c : σ) (u : Str → Option Value) (o : Obj) h tk, i < vs.length → vs[i]? = some v → P i c → (∀ p ∈ Led c, p.1 ≠ I) → literOf D (i + 1) o → Fr h₀ L h (kstB u (ps c)) → News h₀ L h ((I, o) :: Led c) →
      wpAny (model prog w) A (assign target env v) (fun _ s₂ => wpAny (model prog w) A (execs body env) (FPost h₀ L I s (literOf D) Led ps P Q i) (fun _ _ => False) s₂) (fun _ _ => False) { s with heap := h, toks := tk })
    (done : ∀ (c : σ) (u : Str → Option Value) h tk, P vs.length c → Fr h₀ L h (kstB u (ps c)) → News h₀ L h (Led c) → Q .next { s with heap := h, toks := tk }) (hlet : ∀ I, LetOk prog w A target I) :
    wpAny (model prog w) A (pyIter (.ref D)) (fun it s₂ => codeAny (model prog w) A (.forLoop target it body [] env) (fun r s' => match r with | .ok f => Q f s' | .error e => cameBackBy (model prog w) A env E e s') s₂) E s := by
  have hm := hneed c₀ 0 hP
  have hl : s.heap.IsList D vs.toArray := ⟨_, (N _ hm).1, rfl, kn, rfl⟩
  refine wpAny_pyIter_list hl ?_
  have hlt : ∀ p ∈ Led c₀, p.1 < s.heap.objs.size := fun p hp => Heap.lt_size (N p hp).1
  refine m_forCore (s := { s with heap := s.heap.push { cls := .type "list_iterator", data := .fields #[.ref D, .int 0 0] } }) (Nexts.list hh vs kn) Led ps P (fun c i h p hp => by rw [List.mem_singleton.mp hp]; exact hneed c i h) c₀ (o₀ := { cls := .type "list_iterator", data := .fields #[.ref D, .int 0 0] }) (F.push _) ?_ ⟨rfl, rfl⟩ (fun p hp => Nat.ne_of_lt (hlt p hp)) hk hP ?_ done (hlet _)
  · intro p hp
    rcases List.mem_cons.mp hp with rfl | hp
    · exact ⟨Heap.get?_push_size _ rfl, fun q => absurd F.ns.lt (by rw [← q]; exact Nat.lt_irrefl _), next_is_new F⟩
    · exact ⟨Heap.get?_push_of_some _ (N p hp).1, (N p hp).2⟩
  · intro i v c u o h tk h1 h2 h3 h4 h5 h6 h7
    refine wpAny_mono (turn s.heap.objs.size hlt i v c u o h tk h1 h2 h3 h4 h5 h6 h7) (fun _ s₂ t₂ => wpAny_mono t₂ (fun f s₃ t₃ => ?_) fun _ _ x => x) fun _ _ x => x
    cases f with
    | ret v => exact t₃
    | brk => exact t₃
    | next => exact ⟨t₃.ex⟩
    | cont => exact ⟨t₃.ex⟩
end
end
end
/-! ## MLoopC -/
section
open PySem PySem.W PySem.Calls PyProof.Rows
section
variable {prog : Program} {w : World} {A : Around}
/-- a turn's end upon a ground that may have turned -/
structure CEnd {σ : Type} (Gr : Heap → Prop) (L I : Addr) (s : Shared) (St : Nat → Obj → Prop) (Led : σ → List (Addr × Obj)) (ps : σ → List (Str × Value)) (P : Nat → σ → Prop) (i : Nat) (s₂ : Shared) : Prop where
  ex : Ex6 fun g h' tk m' c o => Al8 (s₂ = { s with heap := h', toks := tk }) (Gr g) (Fr g L h' m') (News g L h' ((I, o) :: Led c)) (St (i + 1) o) ((∀ p ∈ Led c, p.1 ≠ I)) ((∀ p ∈ ps c, m' p.1 = some p.2)) (P (i + 1) c)
def CPost {σ : Type} (Gr : Heap → Prop) (L I : Addr) (s : Shared) (St : Nat → Obj → Prop) (Led : σ → List (Addr × Obj)) (ps : σ → List (Str × Value)) (P : Nat → σ → Prop) (R : Result → Shared → Prop) (i : Nat) (f : Flow) (s₂ : Shared) : Prop :=
  match f with
  | .ret v => R (.ok (.ret v)) s₂
  | .brk => R (.ok .next) s₂
  | _ => CEnd Gr L I s St Led ps P i s₂
variable {E : Value → Shared → Prop} {s : Shared} {L : Addr} {env : Env} {target : PySem.Expr} {body : List Stmt} {R : Result → Shared → Prop}
theorem c_forCore {σ : Type} {Gr : Heap → Prop} {g₀ : Heap} {I : Addr} {n : Nat} {St : Nat → Obj → Prop} {V : Nat → Value → Prop} {need : Led} {m₀ : Str → Option Value} (nx : Nexts prog w A I n St V need) (Led : σ → List (Addr × Obj)) (ps : σ → List (Str × Value)) (P : Nat → σ → Prop)
    (hneed : ∀ c i, P i c → ∀ p ∈ need, p ∈ Led c) (c₀ : σ) {o₀ : Obj} (hG : Gr g₀) (F : Fr g₀ L s.heap m₀) (N : News g₀ L s.heap ((I, o₀) :: Led c₀)) (hst : St 0 o₀) (hoff : ∀ p ∈ Led c₀, p.1 ≠ I) (hk : ∀ p ∈ ps c₀, m₀ p.1 = some p.2) (hP : P 0 c₀)
    (turn : ∀ (g : Heap) (i : Nat) (v : Value) (c : σ) (u : Str → Option Value) (o : Obj) h tk, Gr g → i < n → V i v → P i c → (∀ p ∈ Led c, p.1 ≠ I) → St (i + 1) o → Fr g L h (kstB u (ps c)) → News g L h ((I, o) :: Led c) →
      wpAny (model prog w) A (assign target env v) (fun _ s₂ => wpC (model prog w) A (execs body env) (CPost Gr L I s St Led ps P R i) (fun _ _ => False) s₂) (fun _ _ => False) { s with heap := h, toks := tk })
    (done : ∀ (g : Heap) (c : σ) (u : Str → Option Value) h tk, Gr g → P n c → Fr g L h (kstB u (ps c)) → News g L h (Led c) → R (.ok .next) { s with heap := h, toks := tk })
    (ht : ∀ v, letOwnedTupleGo target (.ref I) v = pure () := by intro _; rfl) : codeC (model prog w) A (.forLoop target (.ref I) body [] env) R s := by
  refine codeC_forLoop (fun k s' => Ex7 fun g h' tk m' c o i => Al10 (s' = { s with heap := h', toks := tk }) (Gr g) (Fr g L h' m') (News g L h' ((I, o) :: Led c)) (St i o) ((∀ p ∈ Led c, p.1 ≠ I)) ((∀ p ∈ ps c, m' p.1 = some p.2)) (P i c) (i ≤ n) (k = n + 1 - i))
    ?_ (n + 1) ⟨g₀, s.heap, s.toks, m₀, c₀, o₀, 0, rfl, hG, F, N, hst, hoff, hk, hP, Nat.zero_le _, rfl⟩ ht
  rintro k s' ⟨g, h', tk, m', c, o, i, rfl, hG', F', N', hst', hoff', hk', hP', hi, rfl⟩
  have hI : I ≠ L ∧ g.get? I = none := (N' (I, o) (.head _)).2
  have em : kstB m' (ps c) = m' := funext fun z => kstB_eq hk' fun _ => rfl
  have hnd : ∀ p ∈ need, h'.get? p.1 = some p.2 := fun p hp => (N' p (.tail _ (hneed c i hP' p hp))).1
  by_cases hlt : i < n
  · refine nx.item i _ _ _ o hlt (N' (I, o) (.head _)).1 hst' hnd fun v h₁ tk₁ o' hV ho' hst₁ hs₁ => ?_
    have F₁ : Fr g L h₁ m' := fr_other F' hI.1 hI.2 hs₁.extBut
    have N₁ : News g L h₁ ((I, o') :: Led c) := fun p hp => by
      rcases List.mem_cons.mp hp with rfl | hp
      · exact ⟨ho', hI⟩
      · exact news_other (fun q hq => N' q (.tail _ hq)) hoff' hs₁.extBut p hp
    have t := turn g i v c m' o' h₁ tk₁ hG' hlt hV hP' hoff' hst₁ (by rw [em]; exact F₁) N₁
    refine wpAny_mono t (fun _ s₂ t₂ => wpC_mono t₂ (fun f s₃ t₃ => ?_) fun _ _ x => x) fun _ _ x => x
    have hlt' : n + 1 - (i + 1) < n + 1 - i := Nat.sub_lt_sub_left (Nat.lt_succ_of_lt hlt) (Nat.lt_succ_self i)
    have kk : CEnd Gr L I s St Led ps P i s₃ → ∃ j, j < n + 1 - i ∧ Ex7 fun g h' tk m' c o i => Al10 (s₃ = { s with heap := h', toks := tk }) (Gr g) (Fr g L h' m') (News g L h' ((I, o) :: Led c)) (St i o) (∀ p ∈ Led c, p.1 ≠ I) (∀ p ∈ ps c, m' p.1 = some p.2) (P i c) (i ≤ n) (j = n + 1 - i) := by
      rintro ⟨⟨g₃, h₃, tk₃, m₃, c₃, o₃, rfl, a0, a1, a2, a3, a4, a5, a7⟩⟩
      exact ⟨n + 1 - (i + 1), hlt', g₃, h₃, tk₃, m₃, c₃, o₃, i + 1, rfl, a0, a1, a2, a3, a4, a5, a7, hlt, rfl⟩
    cases f with
    | ret v => exact t₃
    | brk => exact t₃
    | next => exact kk t₃
    | cont => exact kk t₃
  · have hin : i = n := by omega
    subst hin
    refine nx.stop _ _ _ o (N' (I, o) (.head _)).1 hst' hnd fun h₁ hk₁ => ?_
    exact done g c m' h₁ tk hG' hP' (by rw [em]; exact fr_other F' hI.1 hI.2 hk₁) (news_other (fun q hq => N' q (.tail _ hq)) hoff' hk₁)
theorem c_end {σ : Type} {Gr : Heap → Prop} {g : Heap} {I : Addr} {St : Nat → Obj → Prop} {Led : σ → List (Addr × Obj)} {ps : σ → List (Str × Value)} {m' : Str → Option Value} {P : Nat → σ → Prop} {i : Nat} {h' : Heap} {tk : Nat} {news' : List (Addr × Obj)} {o : Obj} (hG : Gr g)
    (F : Fr g L h' m') (N : News g L h' news') (hst : St (i + 1) o)
    (k : Ex1 fun c' => Al4 ((∀ p ∈ (I, o) :: Led c', p ∈ news')) ((∀ p ∈ Led c', p.1 ≠ I)) ((∀ p ∈ ps c', m' p.1 = some p.2)) (P (i + 1) c')) : CEnd Gr L I s St Led ps P i { s with heap := h', toks := tk } := by
  obtain ⟨c', h1, h2, h3, h4⟩ := k
  exact ⟨g, h', tk, m', c', o, rfl, hG, F, kst_newsOf N h1, hst, h2, h3, h4⟩
theorem small_range {n : Nat} (h : n ≤ 1000) : Builtin.Range.small 0 (n : Int) 1 = true ∧ Builtin.Range.rangeSize 0 (n : Int) 1 = (n : Int) := by
  have e : Builtin.Range.rangeSize 0 (n : Int) 1 = (n : Int) := by
    unfold Builtin.Range.rangeSize
    split
    · split <;> omega
    · omega
  refine ⟨?_, e⟩
  unfold Builtin.Range.small
  rw [e]
  unfold Builtin.Range.rangeFitsLong
  simp
  omega
/-- a for over range(n), under the claim's caller -/
theorem c_iterRange {σ : Type} {Gr : Heap → Prop} {g₀ : Heap} {r : Addr} {n : Nat} {t u v : Tok} {m₀ : Str → Option Value} (Led : σ → List (Addr × Obj)) (ps : σ → List (Str × Value)) (P : Nat → σ → Prop) (hh : A.handled = none) (hr : IsRange s.heap r 0 (n : Int) 1 t u v) (hn : n ≤ 1000)
    (c₀ : σ) (hG : Gr g₀) (F : Fr g₀ L s.heap m₀) (N : News g₀ L s.heap (Led c₀)) (hk : ∀ p ∈ ps c₀, m₀ p.1 = some p.2) (hP : P 0 c₀)
    (turn : ∀ (I : Addr), (∀ p ∈ Led c₀, p.1 < I) → ∀ (g : Heap) (i : Nat) (tt : Tok) (c : σ) (u : Str → Option Value) (o : Obj) h tk, Gr g → i < n → P i c → (∀ p ∈ Led c, p.1 ≠ I) → riterOf 0 n (i + 1) o → Fr g L h (kstB u (ps c)) → News g L h ((I, o) :: Led c) →
      wpAny (model prog w) A (assign target env (.int (i : Int) tt)) (fun _ s₂ => wpC (model prog w) A (execs body env) (CPost Gr L I s (riterOf 0 n) Led ps P R i) (fun _ _ => False) s₂) (fun _ _ => False) { s with heap := h, toks := tk })
    (done : ∀ (g : Heap) (c : σ) (u : Str → Option Value) h tk, Gr g → P n c → Fr g L h (kstB u (ps c)) → News g L h (Led c) → R (.ok .next) { s with heap := h, toks := tk })
    (ht : ∀ I v, letOwnedTupleGo target (.ref I) v = pure () := by intro _ _; rfl) :
    wpAny (model prog w) A (pyIter (.ref r)) (fun it s₂ => codeC (model prog w) A (.forLoop target it body [] env) R s₂) E s := by
  obtain ⟨q1, q2⟩ := small_range hn
  refine wpAny_pyIter_range hr q1 ?_
  rw [q2]
  have hlt : ∀ p ∈ Led c₀, p.1 < s.heap.objs.size := fun p hp => Heap.lt_size (N p hp).1
  refine c_forCore (s := { s with heap := s.heap.push { cls := .type "range_iterator", data := .fields #[rawInt 0, rawInt (n : Int), rawInt 1] } }) (Nexts.range hh 0 n) Led ps P (fun c i h p hp => nomatch hp) c₀ (o₀ := riterObj 0 (n : Int)) hG (F.push _) ?_ ?_ (fun p hp => Nat.ne_of_lt (hlt p hp)) hk hP ?_ done (ht _)
  · intro p hp
    rcases List.mem_cons.mp hp with rfl | hp
    · exact ⟨Heap.get?_push_size _ rfl, fun q => absurd F.ns.lt (by rw [← q]; exact Nat.lt_irrefl _), next_is_new F⟩
    · exact ⟨Heap.get?_push_of_some _ (N p hp).1, (N p hp).2⟩
  · unfold riterOf; simp
  · rintro g i v c u o h tk h0 h1 ⟨tt, rfl⟩ h3 h4 h5 h6 h7
    have e : (0 : Int) + (i : Int) = (i : Int) := by omega
    rw [e]
    refine wpAny_mono (turn s.heap.objs.size hlt g i tt c u o h tk h0 h1 h3 h4 h5 h6 h7) (fun _ s₂ t₂ => wpC_mono t₂ (fun f s₃ t₃ => ?_) fun _ _ x => x) fun _ _ x => x
    cases f with
    | ret v => exact t₃
    | brk => exact t₃
    | next => exact ⟨t₃.ex⟩
    | cont => exact ⟨t₃.ex⟩
end
end
/-! ## MKey -/
section
open PySem PySem.W PyProof.Rows
section
variable {α β γ : Type} {R : α → β → Prop}
def All2 (R : α → β → Prop) : List α → List β → Prop
  | [], [] => True
  | a :: as, b :: bs => R a b ∧ All2 R as bs
  | _, _ => False
theorem All2.length : ∀ {xs : List α} {ys : List β}, All2 R xs ys → xs.length = ys.length
  | [], [], _ => rfl
  | _ :: as, _ :: bs, h => by simp [All2.length (xs := as) (ys := bs) h.2]
  | [], _ :: _, h => h.elim
  | _ :: _, [], h => h.elim
theorem All2.append : ∀ {xs : List α} {ys : List β} {xs' : List α} {ys' : List β}, All2 R xs ys → All2 R xs' ys' → All2 R (xs ++ xs') (ys ++ ys')
  | [], [], _, _, _, h' => h'
  | _ :: as, _ :: bs, _, _, h, h' => ⟨h.1, All2.append (xs := as) (ys := bs) h.2 h'⟩
  | [], _ :: _, _, _, h, _ => h.elim
  | _ :: _, [], _, _, h, _ => h.elim
theorem All2.imp {S : α → β → Prop} (hs : ∀ a b, R a b → S a b) : ∀ {xs : List α} {ys : List β}, All2 R xs ys → All2 S xs ys
  | [], [], _ => trivial
  | _ :: as, _ :: bs, h => ⟨hs _ _ h.1, All2.imp hs (xs := as) (ys := bs) h.2⟩
  | [], _ :: _, h => h.elim
  | _ :: _, [], h => h.elim
theorem All2.get : ∀ {xs : List α} {ys : List β} {i : Nat} {x : α}, All2 R xs ys → xs[i]? = some x → ∃ y, ys[i]? = some y ∧ R x y
  | [], _, _, _, _, h' => by simp at h'
  | a :: as, [], _, _, h, _ => h.elim
  | a :: as, b :: bs, 0, x, h, h' => ⟨b, rfl, by simp at h'; subst h'; exact h.1⟩
  | a :: as, b :: bs, i + 1, x, h, h' => by
    obtain ⟨y, h1, h2⟩ := All2.get (xs := as) (ys := bs) (i := i) h.2 (by simpa using h')
    exact ⟨y, by simpa using h1, h2⟩
theorem All2.map_eq {f : α → β} (hf : ∀ a b, R a b → f a = b) : ∀ {xs : List α} {ys : List β}, All2 R xs ys → xs.map f = ys
  | [], [], _ => rfl
  | a :: as, b :: bs, h => by rw [List.map_cons, hf a b h.1, All2.map_eq hf (xs := as) (ys := bs) h.2]
  | [], _ :: _, h => h.elim
  | _ :: _, [], h => h.elim
theorem All2.of_map {f : α → β} : ∀ {xs : List α}, (∀ a ∈ xs, R a (f a)) → All2 R xs (xs.map f)
  | [], _ => trivial
  | a :: as, h => ⟨h a (by simp), All2.of_map fun b hb => h b (by simp [hb])⟩
theorem All2.of_map' {f : α → β} {xs : List α} {ys : List β} (h : ∀ a ∈ xs, R a (f a)) (e : xs.map f = ys) : All2 R xs ys := e ▸ All2.of_map h
theorem All2.mem : ∀ {xs : List α} {ys : List β} {x : α}, All2 R xs ys → x ∈ xs → ∃ y ∈ ys, R x y
  | [], _, _, _, h' => by simp at h'
  | a :: as, [], _, h, _ => h.elim
  | a :: as, b :: bs, x, h, h' => by
    rcases List.mem_cons.mp h' with rfl | h'
    · exact ⟨b, by simp, h.1⟩
    · obtain ⟨y, h1, h2⟩ := All2.mem (xs := as) (ys := bs) h.2 h'
      exact ⟨y, by simp [h1], h2⟩
theorem All2.snoc {xs : List α} {ys : List β} {y : β} (h : All2 R xs (ys ++ [y])) : ∃ xs' x, xs = xs' ++ [x] ∧ All2 R xs' ys ∧ R x y := by
  induction ys generalizing xs with
  | nil =>
    match xs, h with
    | [x], h => exact ⟨[], x, rfl, trivial, h.1⟩
    | _ :: _ :: _, h => exact h.2.elim
  | cons b bs ih =>
    match xs, h with
    | x :: xs, h =>
      obtain ⟨xs', x', rfl, h1, h2⟩ := ih (xs := xs) h.2
      exact ⟨x :: xs', x', rfl, ⟨h.1, h1⟩, h2⟩
end
/-- the pair that a heap holds at a value -/
def keyH (h : Heap) (v : Value) : Int × Int := match v with
  | .ref a => match h.get? a with
    | some o => match o.data with
      | .seq vs _ => match vs.toList with
        | [.int e _, .int p _] => (e, p)
        | _ => (0, 0)
      | _ => (0, 0)
    | none => (0, 0)
  | _ => (0, 0)
theorem RepP.key {h₀ h : Heap} {L : Addr} {tl : Led} {v : Value} {k : Int × Int} (N : News h₀ L h tl) (r : RepP tl v k) : keyH h v = k := by
  obtain ⟨a, t, u, n, rfl, hm⟩ := r
  unfold keyH
  simp only [(N _ hm).1]
def ival (v : Value) : Int := match v with | .int i _ => i | _ => 0
theorem RepI.val {v : Value} {i : Int} (r : RepI v i) : ival v = i := by obtain ⟨t, rfl⟩ := r; rfl
theorem cmp_ival (w : World) (rest : Led) : CmpOk w rest (fun v u => ilt (ival v) (ival u)) (fun v => ∃ i, RepI v i) := by
  rintro v u ⟨i, t, rfl⟩ ⟨j, t', rfl⟩ A h₀ L m s Q E hun F N h
  exact wpAny_lt_int (h s.toks)
theorem pushL_mem {α : Type} {lt : α → α → Bool} {v a : α} {xs : List α} (h : a ∈ pushL lt v xs) : a ∈ xs ++ [v] := by
  have p := sdGo_perm (lt := lt) v xs.length (xs ++ [v]) (by simp)
  have e : (xs ++ [v]).set xs.length v = xs ++ [v] := by simp
  rw [e] at p
  exact p.mem_iff.mp h
theorem suGo_perm {α : Type} {lt : α → α → Bool} (x : α) : ∀ (k : Nat) (xs : List α) (pos : Nat), xs.length - pos = k → pos < xs.length → (suGo lt xs pos).2 < (suGo lt xs pos).1.length ∧ ((suGo lt xs pos).1.set (suGo lt xs pos).2 x).Perm (xs.set pos x) := by
  intro k
  induction k using Nat.strongRecOn with
  | ind k ih =>
    intro xs pos hk hp
    by_cases h : 2 * pos + 1 < xs.length
    · have hc := suCh_lt lt h
      have hgt := suCh_gt lt xs pos
      have hv := List.getElem?_eq_getElem hc
      generalize xs[suCh lt xs pos]'hc = v at hv
      rw [suGo_go lt h hv]
      obtain ⟨a1, a2⟩ := ih ((xs.set pos v).length - suCh lt xs pos) (by simp only [List.length_set]; first | exact hf1 hk hgt hc | (trace "OMEGA"; omega)) (xs.set pos v) (suCh lt xs pos) rfl (by simpa using hc)
      exact ⟨a1, a2.trans (set_swap_perm hp hv (by first | exact Nat.ne_of_lt hgt | (trace "OMEGA"; omega)))⟩
    · rw [suGo_end lt h]
      exact ⟨hp, .refl _⟩
theorem suAll_perm {α : Type} {lt : α → α → Bool} {x : α} {xs : List α} (h0 : 0 < xs.length) : (suAll lt x xs).Perm (xs.set 0 x) := by
  obtain ⟨h1, h2⟩ := suGo_perm (lt := lt) x _ xs 0 rfl h0
  unfold suAll
  refine (sdGo_perm x _ _ (by rw [List.length_set]; exact h1)).trans ?_
  rw [List.set_set]; exact h2
theorem popL_perm {α : Type} {lt : α → α → Bool} {y : α} {ys : List α} : ((popL lt y ys).1 :: (popL lt y ys).2).Perm (ys ++ [y]) := by
  cases ys with
  | nil => exact .refl _
  | cons z r =>
    show (z :: suAll lt y (y :: r)).Perm (z :: (r ++ [y]))
    exact List.Perm.cons _ ((suAll_perm (by simp)).trans (List.perm_append_singleton y r).symm)
theorem ppL_perm {α : Type} {lt : α → α → Bool} {v : α} {xs : List α} : ((ppL lt v xs).1 :: (ppL lt v xs).2).Perm (v :: xs) := by
  cases xs with
  | nil => exact .refl _
  | cons z r =>
    cases hl : lt z v with
    | true =>
      have e : ppL lt v (z :: r) = (z, suAll lt v (v :: r)) := by simp [ppL, hl]
      rw [e]
      exact (List.Perm.cons z (suAll_perm (by simp))).trans (List.Perm.swap v z r)
    | false =>
      have e : ppL lt v (z :: r) = (v, z :: r) := by simp [ppL, hl]
      rw [e]
noncomputable section
/-- what a call's place knows -/
structure Site (w : World) (mean : ExcName → Option Value) (mg mb : Str → Option Value) (dp un : Nat) (dep : Nat) (cs : Scope) (outer : List Env) (A₀ : Around) (base h₀ : Heap) (L : Addr) (m : Str → Option Value) (h : Heap) : Prop where
  B : Below A₀ base outer h₀
  F : Fr h₀ L h m
  X : (hd.heap_39 w.params).In h₀
  T : Top hd.view_39 (looseW hd.view_39 []) mean mg mb h₀
  k : cs.kind = .function
  d : dp + dep < recursionLimit
  u : un + 8 * dep < cLine
variable {w : World} {mean : ExcName → Option Value} {mg mb : Str → Option Value} {dp un : Nat} {gd : Option (List Code)} {cn : Str} {cs : Scope} {a : Addr} {ccd : Value} {cl : List (Str × Addr)} {outer : List Env} {A₀ : Around} {base h₀ : Heap} {L D : Addr} {m : Str → Option Value} {s : Shared} {Q E : Value → Shared → Prop}
    {news tl : Led} {g : Obj → Led} {n : Nat} {xs : List Value}
theorem upd_rest (U : UpdF D (listOf xs.toArray n) news g) : ∃ rest, (∀ p ∈ rest, p.1 ≠ D) ∧ (∀ p ∈ (D, listOf xs.toArray n) :: rest, p ∈ news) ∧ (∀ o', ∀ p ∈ g o', p ∈ (D, o') :: rest) ∧ ∀ p ∈ news, p.1 ≠ D → p ∈ rest := by
  obtain ⟨pre, post, e1, e2, o1, o2⟩ := U.split
  refine ⟨pre ++ post, ?_, ?_, ?_, ?_⟩
  · intro p hp
    rcases List.mem_append.mp hp with h | h
    · exact o1 p h
    · exact o2 p h
  · intro p hp
    rw [e1]
    simp only [List.mem_cons, List.mem_append] at hp ⊢
    rcases hp with h | h | h
    · exact .inr (.inl h)
    · exact .inl h
    · exact .inr (.inr h)
  · intro o' p hp
    rw [e2] at hp
    simp only [List.mem_cons, List.mem_append] at hp ⊢
    rcases hp with h | h | h
    · exact .inr (.inl h)
    · exact .inl h
    · exact .inr (.inr h)
  · intro p hp hne
    rw [e1] at hp
    simp only [List.mem_cons, List.mem_append] at hp ⊢
    rcases hp with h | h | h
    · exact .inl h
    · rw [h] at hne; exact absurd rfl hne
    · exact .inr h
theorem tup_ne_list {vs : List Value} {k j : Nat} {its : List Value} : tupOf vs k ≠ listOf its.toArray j := by
  intro h
  have h1 : Value.type "tuple" = Value.type "list" := congrArg Obj.cls h
  exact absurd h1 (by decide)
theorem RepP.rest {rest : Led} {v : Value} {k : Int × Int} (N : News h₀ L s.heap news) (hm : (D, listOf xs.toArray n) ∈ news) (hr : ∀ p ∈ news, p.1 ≠ D → p ∈ rest) (hs : ∀ p ∈ tl, p ∈ news) (r : RepP tl v k) : RepP rest v k := by
  obtain ⟨b, t, u, j, rfl, hb⟩ := r
  refine ⟨b, t, u, j, rfl, hr _ (hs _ hb) fun e => ?_⟩
  have h1 := (N _ (hs _ hb)).1
  have h2 := (N _ hm).1
  dsimp only at e h1 h2
  rw [e, h2] at h1
  exact tup_ne_list (Option.some.inj h1).symm
theorem updF_mem {d : Addr} {o : Obj} (U : UpdF d o news g) : (d, o) ∈ news := by
  obtain ⟨pre, post, e1, _⟩ := U.split
  rw [e1]; simp
theorem push_pairs {ks : List (Int × Int)} {k : Int × Int} {v : Value} (S : Site w mean mg mb dp un 2 cs outer A₀ base h₀ L m s.heap) (N : News h₀ L s.heap news) (U : UpdF D (listOf xs.toArray n) news g) (hs : ∀ p ∈ tl, p ∈ news) (hx : All2 (RepP tl) xs ks) (hv : RepP tl v k) (hlen : xs.length ≤ 900)
    (h : ∀ ys h' tk', All2 (RepP tl) ys (pushL klt k ks) → Fr h₀ L h' m → News h₀ L h' (g (listOf ys.toArray (n + 1))) → Q .none { s with heap := h', toks := tk' }) :
    wpAny (model PR w) (ktrTop dp un gd cn cs L a ccd cl outer) (call (.ref 21) [.ref D, v]) Q E s := by
  obtain ⟨rest, hoff, hsub, hg, hr⟩ := upd_rest U
  have hN := kst_newsOf N hs
  have hkey : ∀ u, u ∈ xs ++ [v] → RepP tl u (keyH s.heap u) := by
    intro u hu
    rcases List.mem_append.mp hu with q | q
    · obtain ⟨y, _, r⟩ := hx.mem q
      rw [r.key hN]; exact r
    · simp at q; subst q; rw [hv.key hN]; exact hv
  have emap : xs.map (keyH s.heap) = ks := hx.map_eq fun _ _ r => r.key hN
  refine heappush_ctr w mean mg mb (fun v u => klt (keyH s.heap v) (keyH s.heap u)) D xs n rest v hoff ((cmp_pairs w rest (keyH s.heap)).sub fun u hu => (hkey u hu).rest N (updF_mem U) hr hs) hlen
    dp un gd cn cs a ccd cl outer A₀ base h₀ L m s Q E S.B S.F S.X (kst_newsOf N hsub) S.T S.k S.d S.u ?_
  intro _ h' tk' _ F' N'
  refine h _ h' tk' (All2.of_map' (f := keyH s.heap) (fun u hu => hkey u (pushL_mem hu)) ?_) F' (kst_newsOf N' (hg _))
  rw [pushL_map (lt' := klt) (fun _ _ => rfl), emap, hv.key hN]
theorem pop_pairs {ks : List (Int × Int)} {k : Int × Int} (S : Site w mean mg mb dp un 3 cs outer A₀ base h₀ L m s.heap) (N : News h₀ L s.heap news) (U : UpdF D (listOf xs.toArray n) news g) (hs : ∀ p ∈ tl, p ∈ news) (hx : All2 (RepP tl) xs (ks ++ [k])) (hlen : xs.length ≤ 900)
    (h : ∀ v ys h' tk', RepP tl v (popL klt k ks).1 → All2 (RepP tl) ys (popL klt k ks).2 → Fr h₀ L h' m → News h₀ L h' (g (listOf ys.toArray (n + 1))) → Q v { s with heap := h', toks := tk' }) :
    wpAny (model PR w) (ktrTop dp un gd cn cs L a ccd cl outer) (call (.ref 28) [.ref D]) Q E s := by
  obtain ⟨rest, hoff, hsub, hg, hr⟩ := upd_rest U
  have hN := kst_newsOf N hs
  obtain ⟨xs', x', rfl, hx1, hx2⟩ := hx.snoc
  have hkey : ∀ u, u ∈ xs' ++ [x'] → RepP tl u (keyH s.heap u) := by
    intro u hu
    obtain ⟨y, _, r⟩ := hx.mem hu
    rw [r.key hN]; exact r
  have emap : xs'.map (keyH s.heap) = ks := hx1.map_eq fun _ _ r => r.key hN
  refine heappop_ctr w mean mg mb (fun v u => klt (keyH s.heap v) (keyH s.heap u)) D xs' x' n rest hoff ((cmp_pairs w rest (keyH s.heap)).sub fun u hu => (hkey u hu).rest N (updF_mem U) hr hs) (by simp at hlen; first | exact Nat.le_succ_of_le hlen | (trace "OMEGA"; omega))
    dp un gd cn cs a ccd cl outer A₀ base h₀ L m s Q E S.B S.F S.X (kst_newsOf N hsub) S.T S.k S.d S.u ?_
  intro _ h' tk' _ F' N'
  have pm := popL_map (lt := fun v u => klt (keyH s.heap v) (keyH s.heap u)) (lt' := klt) (f := keyH s.heap) (fun _ _ => rfl) x' xs'
  rw [emap, hx2.key hN] at pm
  have hp := popL_perm (lt := fun v u => klt (keyH s.heap v) (keyH s.heap u)) (y := x') (ys := xs')
  refine h _ _ h' tk' ?_ (All2.of_map' (f := keyH s.heap) (fun u hu => hkey u (hp.mem_iff.mp (by simp [hu]))) pm.2) F' (kst_newsOf N' (hg _))
  rw [← pm.1]
  exact hkey _ (hp.mem_iff.mp (by simp))
theorem push_ints {ks : List Int} {k : Int} {v : Value} (S : Site w mean mg mb dp un 2 cs outer A₀ base h₀ L m s.heap) (N : News h₀ L s.heap news) (U : UpdF D (listOf xs.toArray n) news g) (hx : All2 RepI xs ks) (hv : RepI v k) (hlen : xs.length ≤ 900)
    (h : ∀ ys h' tk', All2 RepI ys (pushL ilt k ks) → Fr h₀ L h' m → News h₀ L h' (g (listOf ys.toArray (n + 1))) → Q .none { s with heap := h', toks := tk' }) :
    wpAny (model PR w) (ktrTop dp un gd cn cs L a ccd cl outer) (call (.ref 21) [.ref D, v]) Q E s := by
  obtain ⟨rest, hoff, hsub, hg, hr⟩ := upd_rest U
  have hkey : ∀ u, u ∈ xs ++ [v] → RepI u (ival u) := by
    intro u hu
    rcases List.mem_append.mp hu with q | q
    · obtain ⟨y, _, r⟩ := hx.mem q
      rw [r.val]; exact r
    · simp at q; subst q; rw [hv.val]; exact hv
  have emap : xs.map ival = ks := hx.map_eq fun _ _ r => r.val
  refine heappush_ctr w mean mg mb (fun v u => ilt (ival v) (ival u)) D xs n rest v hoff ((cmp_ival w rest).sub fun u hu => ⟨_, hkey u hu⟩) hlen
    dp un gd cn cs a ccd cl outer A₀ base h₀ L m s Q E S.B S.F S.X (kst_newsOf N hsub) S.T S.k S.d S.u ?_
  intro _ h' tk' _ F' N'
  refine h _ h' tk' (All2.of_map' (f := ival) (fun u hu => hkey u (pushL_mem hu)) ?_) F' (kst_newsOf N' (hg _))
  rw [pushL_map (lt' := ilt) (fun _ _ => rfl), emap, hv.val]
theorem pop_ints {ks : List Int} {k : Int} (S : Site w mean mg mb dp un 3 cs outer A₀ base h₀ L m s.heap) (N : News h₀ L s.heap news) (U : UpdF D (listOf xs.toArray n) news g) (hx : All2 RepI xs (ks ++ [k])) (hlen : xs.length ≤ 900)
    (h : ∀ v ys h' tk', RepI v (popL ilt k ks).1 → All2 RepI ys (popL ilt k ks).2 → Fr h₀ L h' m → News h₀ L h' (g (listOf ys.toArray (n + 1))) → Q v { s with heap := h', toks := tk' }) :
    wpAny (model PR w) (ktrTop dp un gd cn cs L a ccd cl outer) (call (.ref 28) [.ref D]) Q E s := by
  obtain ⟨rest, hoff, hsub, hg, hr⟩ := upd_rest U
  obtain ⟨xs', x', rfl, hx1, hx2⟩ := hx.snoc
  have hkey : ∀ u, u ∈ xs' ++ [x'] → RepI u (ival u) := by
    intro u hu
    obtain ⟨y, _, r⟩ := hx.mem hu
    rw [r.val]; exact r
  have emap : xs'.map ival = ks := hx1.map_eq fun _ _ r => r.val
  refine heappop_ctr w mean mg mb (fun v u => ilt (ival v) (ival u)) D xs' x' n rest hoff ((cmp_ival w rest).sub fun u hu => ⟨_, hkey u hu⟩) (by simp at hlen; first | exact Nat.le_succ_of_le hlen | (trace "OMEGA"; omega))
    dp un gd cn cs a ccd cl outer A₀ base h₀ L m s Q E S.B S.F S.X (kst_newsOf N hsub) S.T S.k S.d S.u ?_
  intro _ h' tk' _ F' N'
  have pm := popL_map (lt := fun v u => ilt (ival v) (ival u)) (lt' := ilt) (f := ival) (fun _ _ => rfl) x' xs'
  rw [emap, hx2.val] at pm
  have hp := popL_perm (lt := fun v u => ilt (ival v) (ival u)) (y := x') (ys := xs')
  refine h _ _ h' tk' ?_ (All2.of_map' (f := ival) (fun u hu => hkey u (hp.mem_iff.mp (by simp [hu]))) pm.2) F' (kst_newsOf N' (hg _))
  rw [← pm.1]
  exact hkey _ (hp.mem_iff.mp (by simp))
theorem pp_ints {ks : List Int} {k : Int} {v : Value} (S : Site w mean mg mb dp un 3 cs outer A₀ base h₀ L m s.heap) (N : News h₀ L s.heap news) (U : UpdF D (listOf xs.toArray n) news g) (hx : All2 RepI xs ks) (hv : RepI v k) (hlen : xs.length ≤ 900)
    (h : ∀ v' ys h' tk', RepI v' (ppL ilt k ks).1 → All2 RepI ys (ppL ilt k ks).2 → Fr h₀ L h' m → News h₀ L h' (g (listOf ys.toArray n)) → Q v' { s with heap := h', toks := tk' }) :
    wpAny (model PR w) (ktrTop dp un gd cn cs L a ccd cl outer) (call (.ref 35) [.ref D, v]) Q E s := by
  obtain ⟨rest, hoff, hsub, hg, hr⟩ := upd_rest U
  have hkey : ∀ u, u ∈ v :: xs → RepI u (ival u) := by
    intro u hu
    rcases List.mem_cons.mp hu with rfl | q
    · rw [hv.val]; exact hv
    · obtain ⟨y, _, r⟩ := hx.mem q
      rw [r.val]; exact r
  have emap : xs.map ival = ks := hx.map_eq fun _ _ r => r.val
  refine heappushpop_ctr w mean mg mb (fun v u => ilt (ival v) (ival u)) D xs n rest v hoff ((cmp_ival w rest).sub fun u hu => ⟨_, hkey u hu⟩) hlen
    dp un gd cn cs a ccd cl outer A₀ base h₀ L m s Q E S.B S.F S.X (kst_newsOf N hsub) S.T S.k S.d S.u ?_
  intro _ h' tk' _ F' N'
  have pm := ppL_map (lt := fun v u => ilt (ival v) (ival u)) (lt' := ilt) (f := ival) (fun _ _ => rfl) v xs
  rw [emap, hv.val] at pm
  have hp := ppL_perm (lt := fun v u => ilt (ival v) (ival u)) (v := v) (xs := xs)
  refine h _ _ h' tk' ?_ (All2.of_map' (f := ival) (fun u hu => hkey u (hp.mem_iff.mp (by simp [hu]))) pm.2) F' (kst_newsOf N' (hg _))
  rw [← pm.1]
  exact hkey _ (hp.mem_iff.mp (by simp))
end
end
/-! ## MEq -/
section
open PySem PySem.W PySem.SeqAt PyProof.Rows
def Ok (x : Str) : Prop := ∀ c ∈ cs x, c < 0x110000
theorem Ok.str {x : Str} (h : Ok x) : PyData.strOk x = true := by
  unfold PyData.strOk
  rw [← Array.all_toList, List.all_eq_true]
  intro c hc
  exact decide_eq_true (h c hc)
theorem Ok.app {a b : Str} (h : Ok a) (h' : Ok b) : Ok (a ++ b) := fun c hc => by
  rw [cs_app] at hc
  rcases List.mem_append.mp hc with q | q
  · exact h c q
  · exact h' c q
theorem Ok.of {x : Str} {l : List Nat} (h : cs x = l) (hl : (l.all fun c => decide (c < 0x110000)) = true) : Ok x := fun c hc => by
  rw [h] at hc
  exact of_decide_eq_true (List.all_eq_true.mp hl c hc)
theorem mark_ok (r : Int) : Ok (markOf r) := by
  obtain ⟨m, hm, hmm⟩ := mark_cs r
  intro c hc
  rw [hm] at hc
  simp at hc
  omega
theorem plain_ok {x : Str} (h : Plain (cs x)) : Ok x := fun c hc => by have := h c hc; omega
theorem inside_ok {port r : Int} (h0 : 0 ≤ port) : Ok (insideOf port r) :=
  (((((((mark_ok r).app (plain_ok (one_plain r))).app (mark_ok r)).app (plain_ok (two_plain r))).app (mark_ok r)).app (plain_ok (AllDigits.plain (port_digits h0)))).app (mark_ok r))
theorem head_ok (k : Int) : Ok (headOf k) := by
  unfold headOf Ok
  split
  · decide +kernel
  · split
    · decide +kernel
    · split <;> decide +kernel
theorem tail_ok (k : Int) : Ok (tailOf k) := by
  unfold tailOf Ok
  split
  · decide +kernel
  · split
    · decide +kernel
    · split <;> decide +kernel
theorem reply_ok {port r : Int} (h0 : 0 ≤ port) : Ok (replyOf port r) := by
  have hi := inside_ok (r := r) h0
  have hm := mark_ok r
  have hp := plain_ok (AllDigits.plain (port_digits h0))
  have h1 : Ok (Str.ofString "227 (") := .of cs_1 rfl
  have h2 : Ok (Str.ofString "229 (") := .of cs_2 rfl
  have h3 : Ok (Str.ofString "229 [") := .of cs_3 rfl
  have h4 : Ok (Str.ofString "229 ) (") := .of cs_4 rfl
  have h5 : Ok (Str.ofString "229 ") := .of cs_5 rfl
  have h6 : Ok (Str.ofString ")") := .of cs_6 rfl
  have h7 : Ok (Str.ofString "(") := .of cs_7 rfl
  have h8 : Ok (Str.ofString ".)") := .of cs_8 rfl
  have h9 : Ok (Str.ofString "o") := .of cs_9 rfl
  have hs : Ok (Txt.slice (insideOf port r) none (some (-1))) := by
    obtain ⟨m, hmm, _⟩ := mark_cs r
    have hc := inside_cs (port := port) hmm
    have hi' : cs (insideOf port r) = (m :: (cs (oneOf r) ++ m :: (cs (twoOf r) ++ m :: cs (Str.ofString (toString port))))) ++ [m] := by rw [hc]; simp
    intro c hc'
    rw [slice_butlast hi'] at hc'
    exact hi c (by rw [hi']; exact List.mem_append_left _ hc')
  unfold replyOf repText tabOf
  split
  · exact (h1.app hi).app h6
  · split
    · exact ((((h2.app hm).app hm).app hp).app hm).app h6
    · split
      · exact (((h2.app hs).app h9).app hm).app h6
      · split
        · split
          · exact (h3.app hi).app h6
          · split
            · exact h4.app hi
            · split
              · exact ((h2.app hm).app hi).app h6
              · exact (h2.app hi).app h8
        · exact ((((h5.app (head_ok _)).app h7).app hi).app h6).app (tail_ok _)
/-- the object that _law_reply awaits and that _law_read gives -/
inductive DObj (reply host : Str) (t1 t2 : Tok) : ROut → Obj → Prop where
  | reply {t : Tok} : DObj reply host t1 t2 .reply (listOf [.str (Str.ofString "reply") t, .str reply t1].toArray 0)
  | proto {t : Tok} : DObj reply host t1 t2 .proto (listOf [.str (Str.ofString "proto") t, .str reply t1].toArray 0)
  | value {t : Tok} : DObj reply host t1 t2 .value (listOf [.str (Str.ofString "value") t].toArray 0)
  | port {t : Tok} {n : Int} : DObj reply host t1 t2 (.port n) (tupOf [.str host t2, .int n t] 0)
theorem RGot.obj {reply host : Str} {t1 t2 : Tok} {news : Led} {out : ROut} {o : Value × Led} (h : RGot reply host t1 t2 news out o) : ∃ a ob, o = (.ref a, (a, ob) :: news) ∧ (∀ p ∈ news, p.1 < a) ∧ DObj reply host t1 t2 out ob := by
  cases h with
  | reply h => exact ⟨_, _, rfl, h, .reply⟩
  | proto h => exact ⟨_, _, rfl, h, .proto⟩
  | value h => exact ⟨_, _, rfl, h, .value⟩
  | port h => exact ⟨_, _, rfl, h, .port⟩
def dueData (reply host : Str) : ROut → PyData
  | .reply => .list [.str (Str.ofString "reply"), .str reply]
  | .proto => .list [.str (Str.ofString "proto"), .str reply]
  | .value => .list [.str (Str.ofString "value")]
  | .port n => .tuple [.str host, .int n]
theorem DObj.reads {reply host : Str} {t1 t2 : Tok} {out : ROut} {o : Obj} {h : Heap} {a : Addr} (d : DObj reply host t1 t2 out o) (ho : h.get? a = some o) : ∃ as, Reads h (.ref a) (dueData reply host out) as := by
  cases d with
  | reply => exact ⟨_, .list ho rfl rfl (.cons (.str _ _) (.cons (.str _ _) .nil))⟩
  | proto => exact ⟨_, .list ho rfl rfl (.cons (.str _ _) (.cons (.str _ _) .nil))⟩
  | value => exact ⟨_, .list ho rfl rfl (.cons (.str _ _) .nil)⟩
  | port => exact ⟨_, .tuple ho rfl rfl (.cons (.str _ _) (.cons (.int _ _) .nil))⟩
theorem dueData_shaped {reply host : Str} (hr : PyData.strOk reply = true) (hh : PyData.strOk host = true) (out : ROut) : shaped (dueData reply host out) = true := by
  have h1 : PyData.strOk (Str.ofString "reply") = true := by decide +kernel
  have h2 : PyData.strOk (Str.ofString "proto") = true := by decide +kernel
  have h3 : PyData.strOk (Str.ofString "value") = true := by decide +kernel
  cases out <;> simp [dueData, shaped, PyData.canLay0, PyData.canLayAll0, PyData.depth, PyData.depthAll, hr, hh, h1, h2, h3]
theorem dueData_eqv (reply host : Str) (out : ROut) : PyData.eqv (dueData reply host out) (dueData reply host out) = true := by
  cases out <;> simp [dueData, PyData.eqv, PyData.eqvAll]
theorem ne_due {w : World} {A : Around} {E : Value → Shared → Prop} {s : Shared} {h₀ : Heap} {L a d : Addr} {news : Led} {reply host : Str} {t1 t2 t3 t4 : Tok} {out : ROut} {o1 o2 : Obj} {Q : Value → Shared → Prop} (N : News h₀ L s.heap news) (h1 : (a, o1) ∈ news) (h2 : (d, o2) ∈ news) (d1 : DObj reply host t1 t2 out o1) (d2 : DObj reply host t3 t4 out o2)
    (hr : PyData.strOk reply = true) (hh : PyData.strOk host = true) (hu : A.units + 64 < cLine) (h : Q (.bool false) s) : wpAny (model PR w) A (compareOp .NotEq (.ref a) (.ref d)) Q E s := by
  obtain ⟨as, r1⟩ := d1.reads (N _ h1).1
  obtain ⟨bs, r2⟩ := d2.reads (N _ h2).1
  refine ne_dataH r1 r2 (dueData_shaped hr hh _) (dueData_shaped hr hh _) hu ?_
  rw [dueData_eqv]
  exact h
theorem read_all_ctr (w : World) (mean : ExcName → Option Value) (mg mb : Str → Option Value) (news : Led) (port r : Int) (reply host : Str) (t1 t2 : Tok) (pa : Addr) (pr : List Value) (pn : Nat)
    (hid : Hidden (reply = replyOf port r)) (h0 : 0 ≤ port) (h1 : port < 100000) (hpr : pr.length ≤ 10) (hpa : (pa, tupOf (.str host t2 :: pr) pn) ∈ news) :
    CtrT (σ := Value × Led) w mean mg mb 107 3 news [.str reply t1, .ref pa] (RGot reply host t1 t2 news (dueOf port (kindOf r))) (fun o => o.1) (fun o => o.2) := by
  obtain ⟨rfl⟩ := hid
  have hr := read_reply (r := r) h0 h1
  by_cases hk : kindOf r = 9
  · have hv := (value_reply (r := r) h0 hk).1
    have := read_bad_ctr w mean mg mb news (replyOf port r) host t1 t2 pa pr pn (reply_len h0 h1) hpr hpa hv (value_repr h0 h1 hk)
    rw [← hr, hv]
    exact this
  · rw [← hr]
    refine read_ctr w mean mg mb news (replyOf port r) host t1 t2 pa pr pn (reply_len h0 h1) hpr hpa ?_
    rw [hr]
    unfold dueOf
    intro h
    split at h
    · cases h
    · split at h
      · cases h
      · split at h <;> cases h
end
section
open PySem PySem.W PyProof.Rows
local macro_rules | `(tactic| walk_at $x:str) => if ["WPost", "FPost", "CPost"].contains x.getString then `(tactic| dsimp only [WPost, FPost, CPost]) else Lean.Macro.throwUnsupported
/-! ## MServed -/
section
open PySem PySem.W PyProof.Rows
set_option maxRecDepth 100000
theorem fill8 : PySem.Challenge.rw_mr0107_01 = PySem.Challenge.rw_mr0107_01 ∧ hd.heap_39 = hd.heap_39 := by
  k_fill
  w_top off
  exact ⟨rfl, rfl⟩
def RepT (led : Led) (v : Value) (k : Int × Int × Int) : Prop := Ex5 fun a t u x n => Al2 (v = .ref a) ((a, tupOf [.int k.1 t, .int k.2.1 u, .int k.2.2 x] n) ∈ led)
structure SSt where
  (Df Dr Dw : Addr) (fs rs ws : List Value) (nf nr nw : Nat) (th : Tok) (tl : Led) (free : List Int) (running : List (Int × Int)) (row : List (Int × Int × Int)) (hour : Int)
def SSt.led (c : SSt) : Led := (c.Df, listOf c.fs.toArray c.nf) :: (c.Dr, listOf c.rs.toArray c.nr) :: (c.Dw, listOf c.ws.toArray c.nw) :: c.tl
structure SOk (news : Led) (first : Int) (i : Nat) (c : SSt) : Prop where
  inv : PInv first i c.free c.running c.row c.hour
  fs : All2 RepI c.fs c.free
  rs : All2 (RepP c.tl) c.rs c.running
  ws : All2 (RepT c.tl) c.ws c.row
  sub : ∀ p ∈ news, p ∈ c.tl
  d1 : c.Df < c.Dr
  d2 : c.Dr < c.Dw
  off : ∀ p ∈ c.tl, p.1 ≠ c.Df ∧ p.1 ≠ c.Dr ∧ p.1 ≠ c.Dw
  h0 : 0 ≤ c.hour
  h1 : c.hour ≤ 2 * i
/-- the ground of a loop, turned since g' -/
structure Gnd (w : World) (mean : ExcName → Option Value) (mg mb : Str → Option Value) (A₀ : Around) (base : Heap) (outer : List Env) (g' g : Heap) : Prop where
  turn : KtsTurn (outer.filterMap (·.frame)) g' g
  B : Below A₀ base outer g
  X : (hd.heap_39 w.params).In g
  T : Top hd.view_39 (looseW hd.view_39 []) mean mg mb g
  D : KtsDicts (outer.filterMap (·.frame)) g
def SSt.ps (nl : Addr) (first : Int) (tf : Tok) (pa : Addr) (c : SSt) : List (Str × Value) := [(Str.ofString "numbers", .ref nl), (Str.ofString "first", .int first tf), (Str.ofString "peer", .ref pa), (Str.ofString "free", .ref c.Df), (Str.ofString "running", .ref c.Dr), (Str.ofString "row", .ref c.Dw), (Str.ofString "hour", .int c.hour c.th)]
theorem all7 {α : Type} {P : α → Prop} {a b c d e f g : α} (h0 : P a) (h1 : P b) (h2 : P c) (h3 : P d) (h4 : P e) (h5 : P f) (h6 : P g) : ∀ x ∈ [a, b, c, d, e, f, g], P x :=
  List.forall_mem_cons.mpr ⟨h0, all6 h1 h2 h3 h4 h5 h6⟩
theorem all9 {α : Type} {P : α → Prop} {y z a b c d e f g : α} (hy : P y) (hz : P z) (h0 : P a) (h1 : P b) (h2 : P c) (h3 : P d) (h4 : P e) (h5 : P f) (h6 : P g) : ∀ x ∈ [y, z, a, b, c, d, e, f, g], P x :=
  List.forall_mem_cons.mpr ⟨hy, List.forall_mem_cons.mpr ⟨hz, all7 h0 h1 h2 h3 h4 h5 h6⟩⟩
structure WSt where
  (cvs : List Value) (nc : Nat) (rs : List Value) (nr : Nat) (coming : List Int) (running : List (Int × Int))
def WSt.led (c : SSt) (Dc I : Addr) (o : Obj) (x : WSt) : Led := (Dc, listOf x.cvs.toArray x.nc) :: (I, o) :: (c.Df, listOf c.fs.toArray c.nf) :: (c.Dr, listOf x.rs.toArray x.nr) :: (c.Dw, listOf c.ws.toArray c.nw) :: c.tl
structure WOk (c : SSt) (c0 hour : Int) (x : WSt) : Prop where
  cv : All2 RepI x.cvs x.coming
  rr : All2 (RepP c.tl) x.rs x.running
  pop : Popped c.running c0 hour x.coming x.running
def nms9 (nl : Addr) (first : Int) (tf : Tok) (pa : Addr) (c : SSt) (hour q : Int) (th tq : Tok) (Dc : Addr) : List (Str × Value) :=
  [(Str.ofString "numbers", .ref nl), (Str.ofString "first", .int first tf), (Str.ofString "peer", .ref pa), (Str.ofString "free", .ref c.Df), (Str.ofString "running", .ref c.Dr), (Str.ofString "row", .ref c.Dw), (Str.ofString "hour", .int hour th), (Str.ofString "q", .int q tq), (Str.ofString "coming", .ref Dc)]
theorem Popped.len {r₀ : List (Int × Int)} {c0 hour : Int} {coming : List Int} {r : List (Int × Int)} (h : Popped r₀ c0 hour coming r) : coming.length + r.length = r₀.length + 1 := by
  obtain ⟨gone, rfl, hp, _⟩ := h.ex
  have := hp.length_eq
  simp at this ⊢
  omega
theorem PInv.len2 {first : Int} {i : Nat} {free : List Int} {r : List (Int × Int)} {row : List (Int × Int × Int)} {hour : Int} (h : PInv first i free r row hour) : free.length + r.length = i := by
  have := h.perm.length_eq
  simpa [ports] using this
theorem tup_at' {prog : Program} {w : World} {A : Around} {E : Value → Shared → Prop} {s : Shared} {h₀ : Heap} {L D : Addr} {news : Led} {value slice : PySem.Expr} {vs : List Value} {n : Nat} {k : Nat} {u : Tok} {x : Value} {Q : Value → Shared → Prop}
    (N : News h₀ L s.heap news) (hm : (D, tupOf vs n) ∈ news) (hx : vs[k]? = some x) (hb : vs.length ≤ 1000) (h : Q x s)
    (hs : subscripted slice false (.ref D) (.int (k : Int) u) = operate [.ref D, .int (k : Int) u] (getItem (.ref D) (.int (k : Int) u)) := by with_unfolding_all rfl) :
    wpAny (model prog w) A (halt (subscriptTail value slice (.ref D) (.int (k : Int) u))) Q E s :=
  go (kba_turn (value' := PySem.Expr.Name (PySem.Str.ofString "_") ⟨0, 0, 0, 0⟩) (fun _ => rfl) (tup_at N hm hx hb h hs (fun _ => rfl)))
theorem slice_init {prog : Program} {w : World} {A : Around} {E : Value → Shared → Prop} {s : Shared} {h₀ : Heap} {L D : Addr} {m : Str → Option Value} {news : Led} {value slice : PySem.Expr} {xs : List Value} {x : Value} {n : Nat} {t : Tok} {Q : Value → Shared → Prop}
    (F : Fr h₀ L s.heap m) (N : News h₀ L s.heap news) (hm : (D, listOf (xs ++ [x]).toArray n) ∈ news) (hz : xs.length ≤ 1000)
    (h : ∀ D' h', Fr h₀ L h' m → News h₀ L h' ((D', listOf xs.toArray 0) :: news) → (∀ p ∈ news, p.1 < D') → Q (.ref D') { s with heap := h' })
    (hs : subscripted slice false (.ref D) (.ref s.heap.objs.size) = operate [.ref s.heap.objs.size, .ref D] (getItem (.ref D) (.ref s.heap.objs.size)) := by with_unfolding_all rfl) (ht : ∀ r, letTemporaryGo value (.ref D) r = pure () := by intro _; with_unfolding_all rfl) :
    wpAny (model prog w) A (halt (subscriptTail value slice (.ref D) (.ref s.heap.objs.size))) Q E { s with heap := s.heap.push { cls := .type "slice", data := .fields #[.none, .int (-1) t, .none] } } := by
  have hl : s.heap.IsList D (xs ++ [x]).toArray := ⟨_, (N _ hm).1, rfl, n, rfl⟩
  refine go (kmk_slice_lit (zs := xs) F N hl IsPart.none (IsPart.int _ _) ?_ h hs ht (by rw [sizeLine_eq]; simp; omega))
  have e : sliceBounds none (some (-1)) none (xs ++ [x]).toArray.size = (((0 : Nat) : Int), ((xs.length : Nat) : Int), 1) := by
    simp only [sliceBounds, Option.getD_none, show (1 : Int) > 0 by decide, if_true, if_pos (show (-1 : Int) < 0 by decide)]
    congr 1
    congr 1
    simp
    omega
  rw [kmk_pick_nat _ e]
  simp
theorem sb1 {f r i co ru rs : Nat} (h1 : f + r = i) (h2 : co + ru = r + 1) (hi : i ≤ 20) (h3 : rs = ru) : rs ≤ 21 := by
  rw [h3]
  exact Nat.le_trans (Nat.le_add_left ru co) (h2 ▸ Nat.succ_le_succ (Nat.le_trans (Nat.le_add_left r f) (h1 ▸ hi)))
theorem sb2 {f r i co ru cv : Nat} (h1 : f + r = i) (h2 : co + ru = r + 1) (hi : i ≤ 20) (h3 : cv = co) : cv ≤ 21 := by
  rw [h3]
  exact Nat.le_trans (Nat.le_add_right co ru) (h2 ▸ Nat.succ_le_succ (Nat.le_trans (Nat.le_add_left r f) (h1 ▸ hi)))
theorem sb4 {fs fr cf te e : Nat} (h : fs = fr) (h2 : fr = cf + te) (h3 : te ≤ e) (hc : cf ≤ 20) (he : e ≤ 20) : fs ≤ 40 := by
  rw [h, h2]
  exact Nat.add_le_add hc (Nat.le_trans h3 he)
theorem sb5 {p f : Int} {i : Nat} (h : p ≤ f + i) (hf : f < 60000) (hi : i ≤ 20) : p < 100000 := by omega
theorem sb6 {zs f r i : Nat} (h : zs = f) (h2 : f + r = i) (hi : i ≤ 20) : zs ≤ 20 := by
  rw [h]
  exact Nat.le_trans (Nat.le_add_right f r) (h2 ▸ hi)
theorem sb7 {h m : Int} {i : Nat} (h1 : h ≤ 2 * i) (hm : m < 3) : h + m ≤ 2 * ((i + 1 : Nat) : Int) := by omega
theorem sb8 {a b : Int} (hb : 0 ≤ b) : a < a + 1 + b := by omega
theorem apart_of {l l' : Led} {I : Addr} (e : l'.map (·.1) = l.map (·.1)) (h : ∀ p ∈ l, p.1 < I) : ∀ p ∈ l', p.1 ≠ I := fun p hp => by
  have : p.1 ∈ l.map (·.1) := e ▸ List.mem_map.mpr ⟨p, hp, rfl⟩
  obtain ⟨q, hq, e'⟩ := List.mem_map.mp this
  exact e' ▸ Nat.ne_of_lt (h q hq)
theorem m_itemLast {prog : Program} {w : World} {A : Around} {E : Value → Shared → Prop} {s : Shared} {h₀ : Heap} {L D : Addr} {news : Led} {value slice : PySem.Expr} {xs : List Value} {x : Value} {n : Nat} {u : Tok} {Q : Value → Shared → Prop}
    (N : News h₀ L s.heap news) (hm : (D, listOf (xs ++ [x]).toArray n) ∈ news) (hb : (xs ++ [x]).length ≤ 1000) (h : Q x s)
    (hs : subscripted slice false (.ref D) (.int (-1) u) = operate [.ref D, .int (-1) u] (getItem (.ref D) (.int (-1) u)) := by with_unfolding_all rfl) (hg : ∀ r, letTemporaryGo value (.ref D) r = pure () := by intro _; with_unfolding_all rfl) :
    wpAny (model prog w) A (subscriptTail value slice (.ref D) (.int (-1) u)) Q E s := by
  have e : ((-1 : Int) + ((xs ++ [x]).length : Int)).toNat = xs.length := by rw [List.length_append]; simp; omega
  exact kim_back (l := xs ++ [x]) N hm rfl rfl (by omega) (by simp; omega) (by omega) (by rw [e]; simp) h hs hg
theorem mem7 {α : Type} {p a b c d e f g : α} {l : List α} (h : p ∈ l) : p ∈ a :: b :: c :: d :: e :: f :: g :: l := .tail _ (.tail _ (.tail _ (.tail _ (.tail _ (.tail _ (.tail _ h))))))
theorem DObj.two {reply host : Str} {t1 t2 : Tok} {port k : Int} {o : Obj} (h : DObj reply host t1 t2 (dueOf port k) o) : (∃ its : List Value, o = listOf its.toArray 0) ∨ ∃ t, o = tupOf [.str host t2, .int port t] 0 := by
  unfold dueOf at h
  split at h
  · cases h; exact .inl ⟨_, rfl⟩
  · split at h
    · cases h; exact .inl ⟨_, rfl⟩
    · split at h
      · cases h; exact .inl ⟨_, rfl⟩
      · split at h
        · cases h; exact .inl ⟨_, rfl⟩
        · cases h; exact .inr ⟨_, rfl⟩
theorem Lent.len2 {first : Int} {i : Nat} {free : List Int} {r : List (Int × Int)} {row : List (Int × Int × Int)} {hour port : Int} (h : Lent first i free r row hour port) : free.length + r.length = i := by
  have := h.perm.length_eq
  simp [ports] at this
  omega
theorem apart_ne {l l' : Led} {I : Addr} (e : l'.map (·.1) = l.map (·.1)) (h : ∀ p ∈ l, p.1 ≠ I) : ∀ p ∈ l', p.1 ≠ I := fun p hp => by
  have : p.1 ∈ l.map (·.1) := e ▸ List.mem_map.mpr ⟨p, hp, rfl⟩
  obtain ⟨q, hq, e'⟩ := List.mem_map.mp this
  exact e' ▸ h q hq
theorem sub9 {α : Type} {x a b c d e f g h : α} {l : List α} (hl : ∀ p ∈ l, p ∈ l) : ∀ p ∈ x :: l, p ∈ x :: a :: b :: c :: d :: e :: f :: g :: h :: l := fun p hp => by
  rcases List.mem_cons.mp hp with rfl | hp
  · exact .head _
  · exact .tail _ (.tail _ (.tail _ (.tail _ (.tail _ (.tail _ (.tail _ (.tail _ (.tail _ (hl p hp)))))))))
theorem sub_end {α : Type} {io f r w tw tn a b c d : α} {l : List α} : ∀ p ∈ io :: f :: r :: w :: tw :: tn :: l, p ∈ tw :: tn :: a :: b :: c :: d :: io :: f :: r :: w :: l :=
  List.forall_mem_cons.mpr ⟨.tail _ (.tail _ (.tail _ (.tail _ (.tail _ (.tail _ (.head _)))))), List.forall_mem_cons.mpr ⟨.tail _ (.tail _ (.tail _ (.tail _ (.tail _ (.tail _ (.tail _ (.head _))))))), List.forall_mem_cons.mpr ⟨.tail _ (.tail _ (.tail _ (.tail _ (.tail _ (.tail _ (.tail _ (.tail _ (.head _)))))))), List.forall_mem_cons.mpr ⟨.tail _ (.tail _ (.tail _ (.tail _ (.tail _ (.tail _ (.tail _ (.tail _ (.tail _ (.head _))))))))), List.forall_mem_cons.mpr ⟨.head _, List.forall_mem_cons.mpr ⟨.tail _ (.head _), fun p hp => .tail _ (.tail _ (.tail _ (.tail _ (.tail _ (.tail _ (.tail _ (.tail _ (.tail _ (.tail _ (hp))))))))))⟩⟩⟩⟩⟩⟩
theorem apart5 {I a1 a2 a3 a4 a5 : Addr} {o1 o2 o3 o4 o5 : Obj} {l : Led} (h1 : a1 ≠ I) (h2 : a2 ≠ I) (h3 : a3 ≠ I) (h4 : a4 ≠ I) (h5 : a5 ≠ I) (hl : ∀ p ∈ l, p.1 ≠ I) : ∀ p ∈ (a1, o1) :: (a2, o2) :: (a3, o3) :: (a4, o4) :: (a5, o5) :: l, p.1 ≠ I :=
  List.forall_mem_cons.mpr ⟨h1, List.forall_mem_cons.mpr ⟨h2, List.forall_mem_cons.mpr ⟨h3, List.forall_mem_cons.mpr ⟨h4, List.forall_mem_cons.mpr ⟨h5, hl⟩⟩⟩⟩⟩
theorem RepT.mono {led led' : Led} {v : Value} {k : Int × Int × Int} (h : RepT led v k) (hs : ∀ p ∈ led, p ∈ led') : RepT led' v k := by
  obtain ⟨a, t, u, x, n, e, hm⟩ := h
  exact ⟨a, t, u, x, n, e, hs _ hm⟩
set_option maxHeartbeats 4000000 in
theorem served_ctr (w : World) (mean : ExcName → Option Value) (mg mb : Str → Option Value) (news : Led) (nl : Addr) (nvs : List Value) (nk : Nat) (ns : List Int) (first : Int) (tf : Tok) (host : Str) (t2 : Tok) (pa : Addr) (pr : List Value) (pn : Nat)
    (hnl : (nl, listOf nvs.toArray nk) ∈ news) (hns : All2 RepI nvs ns) (hn : ns.length ≤ 20) (hf0 : 0 ≤ first) (hf1 : first < 60000) (hpr : pr.length ≤ 10) (hpa : (pa, tupOf (.str host t2 :: pr) pn) ∈ news) (hh : host.length ≤ 100) (hho : PyData.strOk host = true) :
    CtrT (σ := Addr × SSt) w mean mg mb 114 20 news [.ref nl, .int first tf, .ref pa] (fun o => SOk news first ns.length o.2 ∧ ∀ p ∈ o.2.led, p.1 ≠ o.1) (fun o => .ref o.1) (fun o => (o.1, tupOf [.ref o.2.Df, .ref o.2.Dr, .ref o.2.Dw, .int o.2.hour o.2.th] 0) :: o.2.led) := by
  intro dp un gd cn cs a ccd cl outer A₀ base h₀ L m s Q E B F X N T hk XB TB D hd hu hret
  refine wpC_call ?_
  k_dflt (refine' codeC_enter ?k1 ?k2 ?k3 ?k4 ?k5 ?XB ?TB ?D ?kA ?kf ?cK ?k6 ?k7 ?k8 ?k9 ?kB ?_ ?c2 ?c3 ?c4 ?c5; (case kA => exact rfl); (case k2 => k_asm); (case k1 => k_asm); (case kf => exact rfl); (case XB => assumption); (case TB => assumption); (case D => assumption); (case k3 => k_asm); (case k4 => k_asm); (case k5 => k_asm); (case k6 => k_is); (case k7 => k_is); (case k8 => first | exact room hd 0 (by decide) | exact room hd 1 (by decide) | exact room hd 2 (by decide) | exact room hd 3 (by decide) | exact room hd 4 (by decide) | exact room hd 5 (by decide) | (trace "KTRROOM"; ktr_room)); (case k9 => exact BindsTo.of_eq rfl); (case kB => exact locs rfl); (case cK => first | assumption | exact rfl); (case c2 => exact rfl); (case c3 => exact rfl); (case c4 => exact rfl); (case c5 => decide); k_whole; intro g' L' h' FG' F' N' B' X' T' D' bk1; (try dsimp only); (try k_lift B'))
  refine hideC ?_
  intro QQ hQQ
  rw [execs_split 1]
  simp only [List.take_succ_cons, List.take_zero, List.drop_succ_cons, List.drop_zero]
  have hnv : nvs.length = ns.length := hns.length
  refine cutC (fun s' => Ex4 fun (h : Heap) (tk : Nat) (u : Str → Option Value) (c : SSt) => Al4 (s' = { s with heap := h, toks := tk }) (Fr g' L' h (kstB u (c.ps nl first tf pa))) (News g' L' h c.led) (SOk news first 0 c)) ?_ ?_
  · intro Q1 hQ1
    k_steps
    rename Fr _ _ _ _ => lF
    rename News _ _ _ _ => lN
    rename (∀ p ∈ news, p.1 < _) => q1
    rename (_ < _ ∧ AllLt _ news) => q2
    rename (_ < _ ∧ _ < _ ∧ AllLt _ news) => q3
    refine hQ1 _ ⟨_, _, _, ⟨_, _, _, [], [], [], 0, 0, 0, _, news, [], [], [], 0⟩, rfl, fr_kst lF _ (all7 rfl rfl rfl rfl rfl rfl rfl), ?_, ⟨.zero first, trivial, trivial, trivial, fun _ h => h, q2.1, q3.1, ?_, Int.le_refl _, Int.le_refl _⟩⟩
    · intro p hp
      simp only [SSt.led, List.mem_cons] at hp
      rcases hp with rfl | rfl | rfl | hp
      · exact lN _ (.tail _ (.tail _ (.tail _ (.head _))))
      · exact lN _ (.tail _ (.tail _ (.head _)))
      · exact lN _ (.tail _ (.head _))
      · exact lN _ (.tail _ (.tail _ (.tail _ (.tail _ hp))))
    · intro p hp
      exact ⟨Nat.ne_of_lt (q1 p hp), Nat.ne_of_lt (allLt_mem q2.2 p hp), Nat.ne_of_lt (allLt_mem q3.2.2 p hp)⟩
  · refine fun _ qa => Ex4.elim qa fun h1 tk1 u1 c1 qb => Al4.elim qb fun e lF lN hc1 => ?_
    clear qa qb
    subst e
    refine wpC_execs_cons (wpC_For ?_)
    k_steps
    refine m_len (xs := nvs) (n := nk) (by k_asm) (.tail _ (.tail _ (.tail _ (hc1.sub _ hnl)))) (by first | exact Nat.le_trans (Nat.le_of_eq hnv) (Nat.le_trans hn (by decide)) | (trace "OMEGA 167"; omega)) ?_
    k_steps
    rename IsRange _ _ _ _ _ _ _ _ => lR
    rename Fr _ _ _ _ => rF
    rename News _ _ _ _ => rN
    rw [hnv] at lR
    refine go (c_iterRange (σ := SSt) (Gr := Gnd w mean mg mb (ktrTop dp un gd cn cs L a ccd cl outer) base (envX cn cs L a ccd cl :: outer) g') SSt.led (SSt.ps nl first tf pa) (fun i c => SOk news first i c) rfl lR (by first | exact Nat.le_trans hn (by decide) | (trace "OMEGA 173"; omega))
      c1 ⟨.refl, by assumption, by assumption, by assumption, by assumption⟩ rF rN (all7 rfl rfl rfl rfl rfl rfl rfl) hc1 ?_ ?_)
    · clear hQQ; (try clear hret); (try clear bk1); (try clear F'); (try clear N'); (try clear B'); (try clear X'); (try clear T'); (try clear D'); (try clear FG'); (try clear lF); (try clear lN); (try clear hc1); (try clear rF); (try clear rN); (try clear lR); (try clear F); (try clear N); (try clear B); (try clear X); (try clear T); (try clear D)
      intro I hI g i tt c u o h tk hG hi hP hoff hst kFr kN
      dsimp only
      have gB := hG.B
      have gX := hG.X
      have gT := hG.T
      k_steps
      refine hideC ?_
      intro Q5 hQ5
      rw [execs_split 3]
      simp only [List.take_succ_cons, List.take_zero, List.drop_succ_cons, List.drop_zero]
      obtain ⟨nn, hnn⟩ : ∃ nn, ns[i]? = some nn := ⟨_, List.getElem?_eq_getElem hi⟩
      have hi20 : i ≤ 20 := Nat.le_of_lt (Nat.lt_of_lt_of_le hi hn)
      obtain ⟨nv, hnvi⟩ : ∃ nv, nvs[i]? = some nv := ⟨_, List.getElem?_eq_getElem (by first | exact hnv.symm ▸ hi | (trace "OMEGA 188"; omega))⟩
      obtain ⟨_, hy, tn, rfl⟩ := hns.get hnvi
      obtain rfl : nn = _ := Option.some.inj (hnn.symm.trans hy)
      clear hy
      refine cutC (fun s' => Ex7 fun (h : Heap) (tk : Nat) (u : Str → Option Value) (th tq tc : Tok) (Dc : Addr) => Al4 (s' = { s with heap := h, toks := tk }) (Fr g L' h (kstB u (nms9 nl first tf pa c (c.hour + nn.fmod 3) (nn.fdiv 3) th tq Dc))) (News g L' h ((Dc, listOf [.int (first + i) tc].toArray 0) :: (I, o) :: c.led)) ((∀ p ∈ (I, o) :: c.led, p.1 < Dc))) ?_ ?_
      · intro Q1 hQ1
        k_steps
        refine go (m_item (pos := i) (by k_asm) (.tail _ (.tail _ (.tail _ (.tail _ (hP.sub _ hnl))))) rfl (by first | exact Nat.le_trans (Nat.le_of_eq hnv) (Nat.le_trans hn (by decide)) | (trace "OMEGA 195"; omega)) hnvi ?_)
        k_steps
        refine go (m_item (pos := i) (by k_asm) (.tail _ (.tail _ (.tail _ (.tail _ (hP.sub _ hnl))))) rfl (by first | exact Nat.le_trans (Nat.le_of_eq hnv) (Nat.le_trans hn (by decide)) | (trace "OMEGA 197"; omega)) hnvi ?_)
        k_steps
        rename Fr _ _ _ _ => zF
        rename News _ _ _ _ => zN
        rename (I < _ ∧ AllLt _ (SSt.led c)) => q1
        exact hQ1 _ ⟨_, _, _, _, _, _, _, rfl, fr_kst zF _ (all9 rfl rfl rfl rfl rfl rfl rfl rfl rfl), zN, lt_cons q1⟩
      · (try clear F'); (try clear N'); (try clear kFr); (try clear kN); (try clear hI)
        refine fun _ qa => Ex7.elim qa fun h2 tk2 u2 th tq tc Dc qb => Al4.elim qb fun e F2 N2 hDc => ?_
        clear qa qb
        subst e
        have dI : @LT.lt Nat _ I Dc := hDc _ (.head _)
        have dF : @LT.lt Nat _ c.Df Dc := hDc _ (.tail _ (.head _))
        have dR : @LT.lt Nat _ c.Dr Dc := hDc _ (.tail _ (.tail _ (.head _)))
        have dW : @LT.lt Nat _ c.Dw Dc := hDc _ (.tail _ (.tail _ (.tail _ (.head _))))
        have dT : ∀ p ∈ c.tl, p.1 ≠ Dc := fun p hp => Nat.ne_of_lt (hDc _ (.tail _ (.tail _ (.tail _ (.tail _ hp)))))
        have dT2 : ∀ p ∈ c.tl, p.1 ≠ c.Dr := fun p hp => (hP.off p hp).2.1
        have e1 : @Ne Nat c.Df I := hoff _ (.head _)
        have e2 : @Ne Nat c.Dr I := hoff _ (.tail _ (.head _))
        have e3 : @Ne Nat c.Dw I := hoff _ (.tail _ (.tail _ (.head _)))
        have e4 : @LT.lt Nat _ c.Df c.Dr := hP.d1
        have e5 : @LT.lt Nat _ c.Dr c.Dw := hP.d2
        have dT3 : ∀ p ∈ c.tl, p.1 ≠ c.Df := fun p hp => (hP.off p hp).1
        have dT4 : ∀ p ∈ c.tl, p.1 ≠ c.Dw := fun p hp => (hP.off p hp).2.2
        have e6 : @LT.lt Nat _ c.Df c.Dw := Nat.lt_trans e4 e5
        rw [execs_split 1]
        simp only [List.take_succ_cons, List.take_zero, List.drop_succ_cons, List.drop_zero]
        refine cutC (fun s' => Ex4 fun (h : Heap) (tk : Nat) (u : Str → Option Value) (x : WSt) => Al5 (s' = { s with heap := h, toks := tk }) (Fr g L' h (kstB u (nms9 nl first tf pa c (c.hour + nn.fmod 3) (nn.fdiv 3) th tq Dc))) (News g L' h (WSt.led c Dc I o x)) (WOk c (first + i) (c.hour + nn.fmod 3) x) ((x.running = [] ∨ ∃ z, x.running[0]? = some z ∧ c.hour + nn.fmod 3 < z.1))) ?_ ?_
        · intro Q1 hQ1
          k_steps
          refine go (m_whileS (σ := WSt) (WSt.led c Dc I o) (fun _ => nms9 nl first tf pa c (c.hour + nn.fmod 3) (nn.fdiv 3) th tq Dc) (WOk c (first + i) (c.hour + nn.fmod 3)) (fun x => x.rs.length) ⟨[.int (first + i) tc], 0, c.rs, c.nr, [first + i], c.running⟩ F2 N2 (all9 rfl rfl rfl rfl rfl rfl rfl rfl rfl) ⟨⟨⟨tc, rfl⟩, trivial⟩, hP.rs, .start hP.inv.hr⟩ ?_)
          intro x u5 h5 tk5 hx F5 N5
          dsimp only [WSt.led] at N5
          have hl1 := hP.inv.len2
          have hl2 := hx.pop.len
          have hl3 := hx.rr.length
          have hl4 := hx.cv.length
          have hl5 : x.rs.length ≤ 1000 := by first | exact Nat.le_trans (sb1 hl1 hl2 hi20 hl3) (by decide) | (trace "OMEGA 232"; omega)
          have hl6 : x.cvs.length ≤ 1000 := by first | exact Nat.le_trans (sb2 hl1 hl2 hi20 hl4) (by decide) | (trace "OMEGA 233"; omega)
          k_steps
          refine go (m_truthy (by k_asm) (by k_mem) hl5 ?_)
          k_steps
          · rename 0 < x.rs.length => hpos
            obtain ⟨ys, y, hys⟩ : ∃ ys y, x.running = ys ++ [y] := by
              rcases List.eq_nil_or_concat x.running with e | ⟨ys, y, e⟩
              · have e9 : x.running.length = 0 := by rw [e]; rfl
                first | exact absurd (hl3.trans e9) (Nat.ne_of_gt hpos) | (trace "OMEGA 241"; omega)
              · exact ⟨ys, y, by simpa using e⟩
            obtain ⟨v0, hv0⟩ : ∃ v0, x.rs[0]? = some v0 := ⟨_, List.getElem?_eq_getElem hpos⟩
            obtain ⟨k0, hk0, a0, t0, u0, n0, rfl, hm0⟩ := hx.rr.get hv0
            have hk1 : k0 = (popL klt y ys).1 := by
              rw [hys, popL_first] at hk0
              exact (Option.some.inj hk0).symm
            refine go (m_item (pos := 0) (by k_asm) (by k_mem) rfl hl5 hv0 ?_)
            k_steps
            refine tup_at' (k := 0) (by k_asm) (.tail _ (.tail _ (.tail _ (.tail _ (.tail _ hm0))))) rfl (by simp) ?_
            k_steps
            · rename k0.1 ≤ _ => hle
              refine go ?_
              k_dflt refine pop_pairs (tl := c.tl) (ks := ys) (k := y) ⟨gB, by k_asm, gX, gT, rfl, by first | exact room hd 0 (by decide) | exact room hd 1 (by decide) | exact room hd 2 (by decide) | exact room hd 3 (by decide) | exact room hd 4 (by decide) | exact room hd 5 (by decide) | (trace "KTRROOM"; ktr_room), by first | exact room hu 0 (by decide) | exact room hu 3 (by decide) | exact room hu 8 (by decide) | exact room hu 11 (by decide) | exact room hu 16 (by decide) | exact room hu 19 (by decide) | exact room hu 24 (by decide) | exact room hu 27 (by decide) | exact room hu 32 (by decide) | exact room hu 35 (by decide) | exact room hu 6 (by decide) | exact room hu 14 (by decide) | exact room hu 22 (by decide) | exact room hu 4 (by decide) | exact room hu 12 (by decide) | exact room hu 1 (by decide) | exact room hu 7 (by decide) | exact room hu 9 (by decide) | exact room hu 40 (by decide) | exact room hu 43 (by decide) | exact room hu 67 (by decide) | (trace "KTRUNITS"; ktr_units)⟩ (by k_asm) (by k_updF) (fun p hp => .tail _ (.tail _ (.tail _ (.tail _ (.tail _ hp))))) (by rw [← hys]; exact hx.rr) (by first | exact Nat.le_trans (sb1 hl1 hl2 hi20 hl3) (by decide) | (trace "OMEGA 254"; omega)) ?_
              rintro _ zs h6 tk6 ⟨a1, t1, u1, n1, rfl, hm1⟩ hzs F6 N6
              k_steps
              refine tup_at' (k := 1) (by k_asm) (.tail _ (.tail _ (.tail _ (.tail _ (.tail _ hm1))))) rfl (by simp) ?_
              k_steps
              refine go (m_append (by k_asm) (by k_asm) (by k_upd) hl6 ?_)
              intro h7 F7 N7
              k_steps
              rename Fr _ _ _ _ => zF
              rename News _ _ _ _ => zN
              have hpop := hx.pop
              rw [hys] at hpop
              have hz := hzs.length
              have hst := hpop.step (by rw [← hk1]; exact hle)
              have hsl := hst.len
              refine w_end zF zN ⟨(⟨x.cvs ++ [Value.int (popL klt y ys).1.2 u1], x.nc + 1, zs, x.nr + 1, x.coming ++ [(popL klt y ys).1.2], (popL klt y ys).2⟩ : WSt), (by intro p hp; exact hp), all9 rfl rfl rfl rfl rfl rfl rfl rfl rfl, ⟨hx.cv.append ⟨⟨_, rfl⟩, trivial⟩, hzs, hst⟩, ?_⟩
              simp only [List.length_append, List.length_cons, List.length_nil] at hsl
              show zs.length < x.rs.length
              omega
            · rename ¬ k0.1 ≤ _ => hle
              rename Fr _ _ _ _ => zF
              rename News _ _ _ _ => zN
              exact hQ1 _ ⟨_, _, _, x, rfl, fr_kst zF _ (all9 rfl rfl rfl rfl rfl rfl rfl rfl rfl), zN, hx, .inr ⟨k0, hk0, by first | exact Int.not_le.mp hle | (trace "OMEGA 276"; omega)⟩⟩
          · rename ¬ 0 < x.rs.length => hpos
            rename Fr _ _ _ _ => zF
            rename News _ _ _ _ => zN
            exact hQ1 _ ⟨_, _, _, x, rfl, fr_kst zF _ (all9 rfl rfl rfl rfl rfl rfl rfl rfl rfl), zN, hx, .inl (List.eq_nil_of_length_eq_zero (by first | exact Nat.eq_zero_of_not_pos (hl3 ▸ hpos) | (trace "OMEGA 280"; omega)))⟩
        · (try clear F2); (try clear N2)
          refine fun _ qa => Ex4.elim qa fun h3 tk3 u3 x qb => Al5.elim qb fun e F3 N3 hx hlate => ?_
          clear qa qb
          subst e
          rw [execs_split 1]
          simp only [List.take_succ_cons, List.take_zero, List.drop_succ_cons, List.drop_zero]
          have hl1 := hP.inv.len2
          have hl2 := hx.pop.len
          have hl3 := hx.rr.length
          have hl4 := hx.cv.length
          obtain ⟨early, last, hel⟩ : ∃ early last, x.coming = early ++ [last] := by
            obtain ⟨gone, e, _⟩ := hx.pop.ex
            rcases List.eq_nil_or_concat x.coming with e' | ⟨ys, y, e'⟩
            · rw [e] at e'; cases e'
            · exact ⟨ys, y, by simpa using e'⟩
          have hel' : x.coming.length = early.length + 1 := by rw [hel]; simp
          have her20 : early.length ≤ 20 := Nat.le_of_succ_le_succ (Nat.le_trans (Nat.le_of_eq hel'.symm) (sb2 hl1 hl2 hi20 rfl))
          have hfr20 : c.free.length ≤ 20 := Nat.le_trans (Nat.le_add_right _ _) (hl1 ▸ hi20)
          have hcv := hx.cv
          rw [hel] at hcv
          obtain ⟨evs, lv, hev, hevs, tlv, rfl⟩ := hcv.snoc
          refine cutC (fun s' => Ex6 fun (h : Heap) (tk : Nat) (u : Str → Option Value) (fs : List Value) (nf : Nat) (free : List Int) => Al6 (s' = { s with heap := h, toks := tk }) (Fr g L' h (kstB u (nms9 nl first tf pa c (c.hour + nn.fmod 3) (nn.fdiv 3) th tq Dc))) (News g L' h ((Dc, listOf (evs ++ [Value.int last tlv]).toArray x.nc) :: (I, o) :: (c.Df, listOf fs.toArray nf) :: (c.Dr, listOf x.rs.toArray x.nr) :: (c.Dw, listOf c.ws.toArray c.nw) :: c.tl)) (All2 RepI fs free) (IsHeap ilt free) (free.Perm (c.free ++ early))) ?_ ?_
          · intro Q1 hQ1
            dsimp only [WSt.led] at N3
            rw [hev] at N3
            k_steps
            refine go ?_
            refine wpAny_For ?_
            k_steps
            have hl5 : evs.length ≤ 1000 := by
              have := congrArg List.length hev
              rw [List.length_append] at this
              first | exact Nat.le_trans (Nat.le_trans (Nat.le_add_right _ _) (Nat.le_of_eq this.symm)) (Nat.le_trans (sb2 hl1 hl2 hi20 hl4) (by decide)) | (trace "OMEGA 310"; omega)
            k_dflt (refine' slice_init (xs := evs) (x := Value.int last tlv) ?k1 ?k2 ?k3 ?k4 ?_; (case k1 => k_asm); (case k2 => k_asm); (case k3 => k_mem); (case k4 => exact hl5))
            intro Ds h4 F4 N4 hDs
            k_steps
            refine go (m_iterList (σ := P3 (List Value) Nat (List Int)) (fun y => (Ds, listOf evs.toArray 0) :: (Dc, listOf (evs ++ [Value.int last tlv]).toArray x.nc) :: (I, o) :: (c.Df, listOf y.a.toArray y.b) :: (c.Dr, listOf x.rs.toArray x.nr) :: (c.Dw, listOf c.ws.toArray c.nw) :: c.tl) (fun _ => nms9 nl first tf pa c (c.hour + nn.fmod 3) (nn.fdiv 3) th tq Dc)
              (fun j y => Al3 (All2 RepI y.a y.c) (IsHeap ilt y.c) (y.c.Perm (c.free ++ early.take j))) rfl (fun _ _ _ => .head _) ⟨c.fs, c.nf, c.free⟩ F4 N4 (all9 rfl rfl rfl rfl rfl rfl rfl rfl rfl) ⟨hP.fs, hP.inv.hf, by simp⟩ ?_ ?_ (fun _ => let_name))
            · rintro I' hI' j v ⟨fs, nf, free⟩ u5 o5 h5 tk5 hj hv ⟨y1, y2, y3⟩ hoff5 hst5 F5 N5
              dsimp only at y1 y2 y3 N5 hoff5
              obtain ⟨pt, hpt, tv, rfl⟩ := hevs.get hv
              have s1 : @LT.lt Nat _ c.Df Ds := hDs _ (.tail _ (.tail _ (.head _)))
              have s2 : @LT.lt Nat _ c.Df I' := hI' _ (.tail _ (.tail _ (.tail _ (.head _))))
              have hfl := y1.length
              have hfl2 := y3.length_eq
              have hfl3 : (early.take j).length ≤ early.length := by rw [List.length_take]; exact Nat.min_le_right _ _
              have hfl4 := hevs.length
              k_steps
              refine go ?_
              k_dflt refine push_ints ⟨gB, by k_asm, gX, gT, rfl, by first | exact room hd 0 (by decide) | exact room hd 1 (by decide) | exact room hd 2 (by decide) | exact room hd 3 (by decide) | exact room hd 4 (by decide) | exact room hd 5 (by decide) | (trace "KTRROOM"; ktr_room), by first | exact room hu 0 (by decide) | exact room hu 3 (by decide) | exact room hu 8 (by decide) | exact room hu 11 (by decide) | exact room hu 16 (by decide) | exact room hu 19 (by decide) | exact room hu 24 (by decide) | exact room hu 27 (by decide) | exact room hu 32 (by decide) | exact room hu 35 (by decide) | exact room hu 6 (by decide) | exact room hu 14 (by decide) | exact room hu 22 (by decide) | exact room hu 4 (by decide) | exact room hu 12 (by decide) | exact room hu 1 (by decide) | exact room hu 7 (by decide) | exact room hu 9 (by decide) | exact room hu 40 (by decide) | exact room hu 43 (by decide) | exact room hu 67 (by decide) | (trace "KTRUNITS"; ktr_units)⟩ (by k_asm) (by k_updF) y1 ⟨_, rfl⟩ (by rw [List.length_append] at hfl2; first | exact Nat.le_trans (sb4 hfl hfl2 hfl3 hfr20 her20) (by decide) | (trace "OMEGA 328"; omega)) ?_
              intro zs h6 tk6 hzs F6 N6
              k_steps
              rename Fr _ _ _ _ => zF
              rename News _ _ _ _ => zN
              obtain ⟨p1, p2⟩ := pushL_spec (v := pt) ilt_ord y2
              refine f_end zF zN hst5 ⟨⟨zs, nf + 1, pushL ilt pt free⟩, (by intro p hp; exact hp), apart_of (e := by rfl) (h := hI'), all9 rfl rfl rfl rfl rfl rfl rfl rfl rfl, hzs, p1, ?_⟩
              refine p2.trans ((List.Perm.cons pt y3).trans ?_)
              rw [List.take_add_one, hpt, ← List.append_assoc]
              exact (List.perm_append_singleton _ _).symm
            · rintro ⟨fs, nf, free⟩ u5 h5 tk5 ⟨y1, y2, y3⟩ F5 N5
              dsimp only at y1 y2 y3 N5
              dsimp only
              refine wpAny_execs_nil ?_
              rw [List.take_of_length_le (Nat.le_of_eq hevs.length.symm)] at y3
              exact hQ1 _ ⟨_, _, _, fs, nf, free, rfl, F5, news_tail N5, y1, y2, y3⟩
          · refine fun _ qa => Ex6.elim qa fun h4 tk4 u4 fs nf free qb => Al6.elim qb fun e F4 N4 y1 y2 y3 => ?_
            clear qa qb
            subst e
            rw [execs_split 2]
            simp only [List.take_succ_cons, List.take_zero, List.drop_succ_cons, List.drop_zero]
            refine wpC_execs_app ?_
            have hfl := y1.length
            have hfl2 := y3.length_eq
            rw [List.length_append] at hfl2
            k_steps
            have hl5 := hevs.length
            refine go (m_itemLast (by k_asm) (by k_mem) (by rw [List.length_append]; first | exact Nat.le_trans (Nat.succ_le_succ (Nat.le_trans (Nat.le_of_eq hevs.length) her20)) (by decide) | (trace "OMEGA 354"; simp; omega)) ?_)
            k_steps
            refine go ?_
            k_dflt refine pp_ints ⟨gB, by k_asm, gX, gT, rfl, by first | exact room hd 0 (by decide) | exact room hd 1 (by decide) | exact room hd 2 (by decide) | exact room hd 3 (by decide) | exact room hd 4 (by decide) | exact room hd 5 (by decide) | (trace "KTRROOM"; ktr_room), by first | exact room hu 0 (by decide) | exact room hu 3 (by decide) | exact room hu 8 (by decide) | exact room hu 11 (by decide) | exact room hu 16 (by decide) | exact room hu 19 (by decide) | exact room hu 24 (by decide) | exact room hu 27 (by decide) | exact room hu 32 (by decide) | exact room hu 35 (by decide) | exact room hu 6 (by decide) | exact room hu 14 (by decide) | exact room hu 22 (by decide) | exact room hu 4 (by decide) | exact room hu 12 (by decide) | exact room hu 1 (by decide) | exact room hu 7 (by decide) | exact room hu 9 (by decide) | exact room hu 40 (by decide) | exact room hu 43 (by decide) | exact room hu 67 (by decide) | (trace "KTRUNITS"; ktr_units)⟩ (by k_asm) (by k_updF) y1 ⟨_, rfl⟩ (by first | exact Nat.le_trans (sb4 hfl hfl2 (Nat.le_refl _) hfr20 her20) (by decide) | (trace "OMEGA 357"; omega)) ?_
            rintro _ zs h6 tk6 ⟨tp, rfl⟩ hzs F6 N6
            have hm3 := Int.fmod_nonneg_of_pos nn (b := 3) (by omega)
            have hm3' := Int.fmod_lt_of_pos nn (b := 3) (by omega)
            have hlent : Lent first i (ppL ilt last free).2 x.running c.row (c.hour + nn.fmod 3) (ppL ilt last free).1 := lent hP.inv (by first | exact Int.le_add_of_nonneg_right hm3 | (trace "OMEGA 361"; omega)) hx.pop hlate hel y2 y3 rfl
            have hrange := hlent.range
            have hzl := hzs.length
            have hll := hlent.len2
            generalize (ppL ilt last free).1 = port at hlent hrange F6 N6 hzs ⊢
            generalize (ppL ilt last free).2 = free' at hlent hrange F6 N6 hzs hzl hll ⊢
            k_steps
            refine go (tup_at (k := 0) (by k_asm) (.tail _ (.tail _ (.tail _ (.tail _ (.tail _ (hP.sub _ hpa)))))) rfl (by first | exact Nat.le_trans (Nat.succ_le_succ hpr) (by decide) | (trace "OMEGA 368"; simp; omega)) ?_)
            k_steps
            have hp0 : 0 ≤ port := by first | exact Int.le_trans hf0 hrange.1 | (trace "OMEGA 370"; omega)
            have hp1 : port < 100000 := by first | exact sb5 hrange.2 hf1 hi20 | (trace "OMEGA 371"; omega)
            refine go ?_
            k_dflt refine reply_ctr w mean mg mb _ port ((nn.fdiv 3).fdiv 6) host _ _ _ hp0 hp1 hh _ _ _ _ _ _ _ _ _ _ _ _ _ _ _ _ _ (by k_asm) (by k_asm) (by k_asm) (by k_asm) (by k_asm) rfl (by first | exact room hd 0 (by decide) | exact room hd 1 (by decide) | exact room hd 2 (by decide) | exact room hd 3 (by decide) | exact room hd 4 (by decide) | exact room hd 5 (by decide) | (trace "KTRROOM"; ktr_room)) (by first | exact room hu 0 (by decide) | exact room hu 3 (by decide) | exact room hu 8 (by decide) | exact room hu 11 (by decide) | exact room hu 16 (by decide) | exact room hu 19 (by decide) | exact room hu 24 (by decide) | exact room hu 27 (by decide) | exact room hu 32 (by decide) | exact room hu 35 (by decide) | exact room hu 6 (by decide) | exact room hu 14 (by decide) | exact room hu 22 (by decide) | exact room hu 4 (by decide) | exact room hu 12 (by decide) | exact room hu 1 (by decide) | exact room hu 7 (by decide) | exact room hu 9 (by decide) | exact room hu 40 (by decide) | exact room hu 43 (by decide) | exact room hu 67 (by decide) | (trace "KTRUNITS"; ktr_units)) ?_
            rintro _ h7 tk7 ⟨⟨reply, tr, d, Tt, led, hid, hgot, hlt7, rfl⟩⟩ F7 N7
            obtain ⟨d', dob, e7, hd7, hdo⟩ := hgot.obj
            obtain ⟨e8, rfl⟩ := Prod.mk.inj e7
            obtain rfl : d = d' := Value.ref.inj e8
            clear e8
            clear e7 hgot
            dsimp only at F7 N7 ⊢
            k_steps
            refine wpC_execs_cons (wpC_Assign_Name (wpC_Call (wpC_any ?_)))
            k_steps
            refine wpC_callWith_K (by assumption) (by k_dflt k_is) ?_
            k_steps
            have gD := hG.D
            k_dflt refine read_all_ctr w mean mg mb _ port ((nn.fdiv 3).fdiv 6) reply host _ _ pa pr pn hid hp0 hp1 hpr (mem7 (hP.sub _ hpa)) _ _ _ _ _ _ _ _ _ _ _ _ _ _ _ _ _ gB (by k_asm) gX (by k_asm) gT rfl XB TB gD (by first | exact room hd 0 (by decide) | exact room hd 1 (by decide) | exact room hd 2 (by decide) | exact room hd 3 (by decide) | exact room hd 4 (by decide) | exact room hd 5 (by decide) | (trace "KTRROOM"; ktr_room)) (by first | exact room hu 0 (by decide) | exact room hu 3 (by decide) | exact room hu 8 (by decide) | exact room hu 11 (by decide) | exact room hu 16 (by decide) | exact room hu 19 (by decide) | exact room hu 24 (by decide) | exact room hu 27 (by decide) | exact room hu 32 (by decide) | exact room hu 35 (by decide) | exact room hu 6 (by decide) | exact room hu 14 (by decide) | exact room hu 22 (by decide) | exact room hu 4 (by decide) | exact room hu 12 (by decide) | exact room hu 1 (by decide) | exact room hu 7 (by decide) | exact room hu 9 (by decide) | exact room hu 40 (by decide) | exact room hu 43 (by decide) | exact room hu 67 (by decide) | (trace "KTRUNITS"; ktr_units)) ?_
            rintro _ h8 tk8 hgot ⟨g2, hT2, F8, N8, B8, X8, T8, D8⟩
            obtain ⟨ga, gob, rfl, hga, hgo⟩ := hgot.obj
            have hG2 : Gnd w mean mg mb (ktrTop dp un gd cn cs L a ccd cl outer) base (envX cn cs L a ccd cl :: outer) g' g2 := ⟨hG.turn.trans hT2, B8, X8, T8, D8⟩
            clear hgot hG hT2 gB gX gT gD D8
            (try clear F'); (try clear N')
            dsimp only at F8 N8 ⊢
            refine wpC_any ?_
            k_steps
            refine wpC_any ?_
            k_steps
            have f1 : @LT.lt Nat _ c.Df d := hd7 _ (.tail _ (.tail _ (.head _)))
            have f2 : @LT.lt Nat _ c.Dr d := hd7 _ (.tail _ (.tail _ (.tail _ (.head _))))
            have f3 : @LT.lt Nat _ c.Dw d := hd7 _ (.tail _ (.tail _ (.tail _ (.tail _ (.head _)))))
            have f4 : @LT.lt Nat _ d Tt := hlt7 _ (.head _)
            have f5 : @LT.lt Nat _ Tt ga := hga _ (.head _)
            have g1 : @LT.lt Nat _ c.Df Tt := Nat.lt_trans f1 f4
            have g2 : @LT.lt Nat _ c.Dr Tt := Nat.lt_trans f2 f4
            have g3 : @LT.lt Nat _ c.Dw Tt := Nat.lt_trans f3 f4
            have g4 : @LT.lt Nat _ c.Df ga := Nat.lt_trans g1 f5
            have g5 : @LT.lt Nat _ c.Dr ga := Nat.lt_trans g2 f5
            have g6 : @LT.lt Nat _ c.Dw ga := Nat.lt_trans g3 f5
            have hrok : PyData.strOk reply = true := by rw [hid.1]; exact (reply_ok hp0).str
            refine go (ne_due (by k_asm) (.head _) (.tail _ (.tail _ (.head _))) hgo hdo hrok hho (by first | exact room hu 0 (by decide) | exact room hu 3 (by decide) | exact room hu 8 (by decide) | exact room hu 11 (by decide) | exact room hu 16 (by decide) | exact room hu 19 (by decide) | exact room hu 24 (by decide) | exact room hu 27 (by decide) | exact room hu 32 (by decide) | exact room hu 35 (by decide) | exact room hu 6 (by decide) | exact room hu 14 (by decide) | exact room hu 22 (by decide) | exact room hu 4 (by decide) | exact room hu 12 (by decide) | exact room hu 1 (by decide) | exact room hu 7 (by decide) | exact room hu 9 (by decide) | exact room hu 40 (by decide) | exact room hu 43 (by decide) | exact room hu 67 (by decide) | (trace "KTRUNITS"; ktr_units)) ?_)
            have hsm : c.ws.length ≤ 1000 := by
              have h1 := hP.ws.length
              have h2 := hP.inv.len
              first | exact Nat.le_trans (Nat.le_of_eq h1) (Nat.le_trans h2 (Nat.le_trans hi20 (by decide))) | (trace "OMEGA 408"; omega)
            have hq6 := Int.fmod_nonneg_of_pos (nn.fdiv 3) (b := 6) (by omega)
            rcases hgo.two with ⟨its, rfl⟩ | ⟨tg, rfl⟩
            · clear hgo hdo
              k_steps
              refine go ?_
              k_dflt refine push_ints ⟨B8, by k_asm, X8, T8, rfl, by first | exact room hd 0 (by decide) | exact room hd 1 (by decide) | exact room hd 2 (by decide) | exact room hd 3 (by decide) | exact room hd 4 (by decide) | exact room hd 5 (by decide) | (trace "KTRROOM"; ktr_room), by first | exact room hu 0 (by decide) | exact room hu 3 (by decide) | exact room hu 8 (by decide) | exact room hu 11 (by decide) | exact room hu 16 (by decide) | exact room hu 19 (by decide) | exact room hu 24 (by decide) | exact room hu 27 (by decide) | exact room hu 32 (by decide) | exact room hu 35 (by decide) | exact room hu 6 (by decide) | exact room hu 14 (by decide) | exact room hu 22 (by decide) | exact room hu 4 (by decide) | exact room hu 12 (by decide) | exact room hu 1 (by decide) | exact room hu 7 (by decide) | exact room hu 9 (by decide) | exact room hu 40 (by decide) | exact room hu 43 (by decide) | exact room hu 67 (by decide) | (trace "KTRUNITS"; ktr_units)⟩ (by k_asm) (by k_updF) hzs ⟨_, rfl⟩ (by first | exact Nat.le_trans (sb6 hzl hll hi20) (by decide) | (trace "OMEGA 414"; omega)) ?_
              intro ys h9 tk9 hys F9 N9
              k_steps
              rename Fr _ _ _ _ => zF
              rename News _ _ _ _ => zN
              exact hQ5 _ _ (c_end hG2 zF zN hst ⟨⟨c.Df, c.Dr, c.Dw, ys, x.rs, c.ws, nf + 1, x.nr, c.nw, th, c.tl, pushL ilt port free', x.running, c.row, c.hour + nn.fmod 3⟩, (fun p hp => .tail _ (.tail _ (.tail _ (.tail _ hp)))), apart_ne (e := by rfl) (h := hoff), all7 rfl rfl rfl rfl rfl rfl rfl,
                ⟨hlent.back, hys, hx.rr, hP.ws, hP.sub, hP.d1, hP.d2, hP.off, Int.add_nonneg hP.h0 hm3, sb7 hP.h1 hm3'⟩⟩)
            · clear hgo hdo
              k_steps
              refine go (tup_at (k := 1) (by k_asm) (.head _) rfl (by simp) ?_)
              k_steps
              rename_i Tn h9 F9 N9 q1
              have t1 : @LT.lt Nat _ c.Df Tn := by first | exact q1.1 | exact q1.2.1 | exact q1.2.2.1 | exact q1.2.2.2.1 | exact q1.2.2.2.2.1 | exact q1.2.2.2.2.2.1 | exact q1.2.2.2.2.2.2.1 | exact q1.2.2.2.2.2.2.2.1 | exact q1.2.2.2.2.2.2.2.2.1 | exact q1.2.2.2.2.2.2.2.2.2.1
              have t2 : @LT.lt Nat _ c.Dr Tn := by first | exact q1.1 | exact q1.2.1 | exact q1.2.2.1 | exact q1.2.2.2.1 | exact q1.2.2.2.2.1 | exact q1.2.2.2.2.2.1 | exact q1.2.2.2.2.2.2.1 | exact q1.2.2.2.2.2.2.2.1 | exact q1.2.2.2.2.2.2.2.2.1 | exact q1.2.2.2.2.2.2.2.2.2.1
              have t3 : @LT.lt Nat _ c.Dw Tn := by first | exact q1.1 | exact q1.2.1 | exact q1.2.2.1 | exact q1.2.2.2.1 | exact q1.2.2.2.2.1 | exact q1.2.2.2.2.2.1 | exact q1.2.2.2.2.2.2.1 | exact q1.2.2.2.2.2.2.2.1 | exact q1.2.2.2.2.2.2.2.2.1 | exact q1.2.2.2.2.2.2.2.2.2.1
              have mT : ∀ (ob : Obj) (v : Value) (k : Int × Int), RepP c.tl v k → RepP ((Tn, ob) :: c.tl) v k := fun ob v k r => r.mono fun p hp => .tail _ hp
              refine go ?_
              k_dflt refine push_pairs (tl := (Tn, tupOf [Value.int (c.hour + nn.fmod 3 + 1 + (nn.fdiv 3).fmod 6) _, Value.int port tg] 0) :: c.tl) (k := (c.hour + nn.fmod 3 + 1 + (nn.fdiv 3).fmod 6, port)) ⟨B8, by k_asm, X8, T8, rfl, by first | exact room hd 0 (by decide) | exact room hd 1 (by decide) | exact room hd 2 (by decide) | exact room hd 3 (by decide) | exact room hd 4 (by decide) | exact room hd 5 (by decide) | (trace "KTRROOM"; ktr_room), by first | exact room hu 0 (by decide) | exact room hu 3 (by decide) | exact room hu 8 (by decide) | exact room hu 11 (by decide) | exact room hu 16 (by decide) | exact room hu 19 (by decide) | exact room hu 24 (by decide) | exact room hu 27 (by decide) | exact room hu 32 (by decide) | exact room hu 35 (by decide) | exact room hu 6 (by decide) | exact room hu 14 (by decide) | exact room hu 22 (by decide) | exact room hu 4 (by decide) | exact room hu 12 (by decide) | exact room hu 1 (by decide) | exact room hu 7 (by decide) | exact room hu 9 (by decide) | exact room hu 40 (by decide) | exact room hu 43 (by decide) | exact room hu 67 (by decide) | (trace "KTRUNITS"; ktr_units)⟩ (by k_asm) (by k_updF) (sub9 (fun _ h => h)) (hx.rr.imp fun v k r => mT _ v k r) ⟨Tn, _, _, 0, rfl, .head _⟩ (by first | exact Nat.le_trans (sb1 hl1 hl2 hi20 hl3) (by decide) | (trace "OMEGA 428"; omega)) ?_
              intro ys h10 tk10 hys F10 N10
              k_steps
              refine go (tup_at (k := 1) (by k_asm) (.tail _ (.head _)) rfl (by simp) ?_)
              k_steps
              rename_i Tw h11 F11 N11 q2
              have t4 : @LT.lt Nat _ c.Dw Tw := by first | exact q2.1 | exact q2.2.1 | exact q2.2.2.1 | exact q2.2.2.2.1 | exact q2.2.2.2.2.1 | exact q2.2.2.2.2.2.1 | exact q2.2.2.2.2.2.2.1 | exact q2.2.2.2.2.2.2.2.1 | exact q2.2.2.2.2.2.2.2.2.1 | exact q2.2.2.2.2.2.2.2.2.2.1
              refine go (m_append (by k_asm) (by k_asm) (by k_upd) hsm ?_)
              intro h12 F12 N12
              k_steps
              exact hQ5 _ _ (c_end hG2 F12 N12 hst ⟨⟨c.Df, c.Dr, c.Dw, zs, ys, c.ws ++ [Value.ref Tw], nf, x.nr + 1, c.nw + 1, th, (Tw, tupOf [Value.int (c.hour + nn.fmod 3) _, Value.int (c.hour + nn.fmod 3 + 1 + (nn.fdiv 3).fmod 6) _, Value.int port tg] 0) :: (Tn, tupOf [Value.int (c.hour + nn.fmod 3 + 1 + (nn.fdiv 3).fmod 6) _, Value.int port tg] 0) :: c.tl, free', pushL klt (c.hour + nn.fmod 3 + 1 + (nn.fdiv 3).fmod 6, port) x.running, c.row ++ [(c.hour + nn.fmod 3, c.hour + nn.fmod 3 + 1 + (nn.fdiv 3).fmod 6, port)], c.hour + nn.fmod 3⟩,
                sub_end, apart5 e1 e2 e3 (by first | exact Nat.ne_of_gt q2.1 | exact Nat.ne_of_gt q2.2.1 | exact Nat.ne_of_gt q2.2.2.1 | exact Nat.ne_of_gt q2.2.2.2.1 | exact Nat.ne_of_gt q2.2.2.2.2.1 | exact Nat.ne_of_gt q2.2.2.2.2.2.1 | exact Nat.ne_of_gt q2.2.2.2.2.2.2.1 | exact Nat.ne_of_gt q2.2.2.2.2.2.2.2.1 | exact Nat.ne_of_gt q2.2.2.2.2.2.2.2.2.1 | exact Nat.ne_of_gt q2.2.2.2.2.2.2.2.2.2.1) (by first | exact Nat.ne_of_gt q1.1 | exact Nat.ne_of_gt q1.2.1 | exact Nat.ne_of_gt q1.2.2.1 | exact Nat.ne_of_gt q1.2.2.2.1 | exact Nat.ne_of_gt q1.2.2.2.2.1 | exact Nat.ne_of_gt q1.2.2.2.2.2.1 | exact Nat.ne_of_gt q1.2.2.2.2.2.2.1 | exact Nat.ne_of_gt q1.2.2.2.2.2.2.2.1 | exact Nat.ne_of_gt q1.2.2.2.2.2.2.2.2.1 | exact Nat.ne_of_gt q1.2.2.2.2.2.2.2.2.2.1) (fun p hp => hoff _ (.tail _ (.tail _ (.tail _ hp)))), all7 rfl rfl rfl rfl rfl rfl rfl,
                ⟨hlent.on (by first | exact sb8 hq6 | (trace "OMEGA 439"; omega)), hzs, hys.imp fun v k r => r.mono fun p hp => .tail _ hp, (hP.ws.imp fun v k r => r.mono fun p hp => .tail _ (.tail _ hp)).append ⟨⟨Tw, _, _, _, 0, rfl, .head _⟩, trivial⟩, fun p hp => .tail _ (.tail _ (hP.sub p hp)), hP.d1, hP.d2,
                  List.forall_mem_cons.mpr ⟨⟨by first | exact Nat.ne_of_gt q2.1 | exact Nat.ne_of_gt q2.2.1 | exact Nat.ne_of_gt q2.2.2.1 | exact Nat.ne_of_gt q2.2.2.2.1 | exact Nat.ne_of_gt q2.2.2.2.2.1 | exact Nat.ne_of_gt q2.2.2.2.2.2.1 | exact Nat.ne_of_gt q2.2.2.2.2.2.2.1 | exact Nat.ne_of_gt q2.2.2.2.2.2.2.2.1 | exact Nat.ne_of_gt q2.2.2.2.2.2.2.2.2.1 | exact Nat.ne_of_gt q2.2.2.2.2.2.2.2.2.2.1, by first | exact Nat.ne_of_gt q2.1 | exact Nat.ne_of_gt q2.2.1 | exact Nat.ne_of_gt q2.2.2.1 | exact Nat.ne_of_gt q2.2.2.2.1 | exact Nat.ne_of_gt q2.2.2.2.2.1 | exact Nat.ne_of_gt q2.2.2.2.2.2.1 | exact Nat.ne_of_gt q2.2.2.2.2.2.2.1 | exact Nat.ne_of_gt q2.2.2.2.2.2.2.2.1 | exact Nat.ne_of_gt q2.2.2.2.2.2.2.2.2.1 | exact Nat.ne_of_gt q2.2.2.2.2.2.2.2.2.2.1, by first | exact Nat.ne_of_gt q2.1 | exact Nat.ne_of_gt q2.2.1 | exact Nat.ne_of_gt q2.2.2.1 | exact Nat.ne_of_gt q2.2.2.2.1 | exact Nat.ne_of_gt q2.2.2.2.2.1 | exact Nat.ne_of_gt q2.2.2.2.2.2.1 | exact Nat.ne_of_gt q2.2.2.2.2.2.2.1 | exact Nat.ne_of_gt q2.2.2.2.2.2.2.2.1 | exact Nat.ne_of_gt q2.2.2.2.2.2.2.2.2.1 | exact Nat.ne_of_gt q2.2.2.2.2.2.2.2.2.2.1⟩, List.forall_mem_cons.mpr ⟨⟨by first | exact Nat.ne_of_gt q1.1 | exact Nat.ne_of_gt q1.2.1 | exact Nat.ne_of_gt q1.2.2.1 | exact Nat.ne_of_gt q1.2.2.2.1 | exact Nat.ne_of_gt q1.2.2.2.2.1 | exact Nat.ne_of_gt q1.2.2.2.2.2.1 | exact Nat.ne_of_gt q1.2.2.2.2.2.2.1 | exact Nat.ne_of_gt q1.2.2.2.2.2.2.2.1 | exact Nat.ne_of_gt q1.2.2.2.2.2.2.2.2.1 | exact Nat.ne_of_gt q1.2.2.2.2.2.2.2.2.2.1, by first | exact Nat.ne_of_gt q1.1 | exact Nat.ne_of_gt q1.2.1 | exact Nat.ne_of_gt q1.2.2.1 | exact Nat.ne_of_gt q1.2.2.2.1 | exact Nat.ne_of_gt q1.2.2.2.2.1 | exact Nat.ne_of_gt q1.2.2.2.2.2.1 | exact Nat.ne_of_gt q1.2.2.2.2.2.2.1 | exact Nat.ne_of_gt q1.2.2.2.2.2.2.2.1 | exact Nat.ne_of_gt q1.2.2.2.2.2.2.2.2.1 | exact Nat.ne_of_gt q1.2.2.2.2.2.2.2.2.2.1, by first | exact Nat.ne_of_gt q1.1 | exact Nat.ne_of_gt q1.2.1 | exact Nat.ne_of_gt q1.2.2.1 | exact Nat.ne_of_gt q1.2.2.2.1 | exact Nat.ne_of_gt q1.2.2.2.2.1 | exact Nat.ne_of_gt q1.2.2.2.2.2.1 | exact Nat.ne_of_gt q1.2.2.2.2.2.2.1 | exact Nat.ne_of_gt q1.2.2.2.2.2.2.2.1 | exact Nat.ne_of_gt q1.2.2.2.2.2.2.2.2.1 | exact Nat.ne_of_gt q1.2.2.2.2.2.2.2.2.2.1⟩, hP.off⟩⟩,
                  Int.add_nonneg hP.h0 hm3, sb7 hP.h1 hm3'⟩⟩)
    · intro g c u h tk hG hP kFr kN
      have gB := hG.B
      have gX := hG.X
      have gT := hG.T
      have hT := hG.turn
      dsimp only
      refine wpC_any ?_
      (try clear F'); (try clear N'); (try clear B'); (try clear X'); (try clear T'); (try clear D'); (try clear lF); (try clear lN); (try clear rF); (try clear rN); (try clear lR); (try clear F); (try clear N); (try clear B); (try clear X); (try clear T); (try clear D)
      k_steps
      rename Fr _ _ _ _ => zF
      rename News _ _ _ _ => zN
      rename (∀ p ∈ SSt.led c, p.1 < _) => q1
      exact hQQ _ _ (hret (_, c) _ _ ⟨hP, fun p hp => Nat.ne_of_lt (q1 p hp)⟩ (bk1 _ _ _ _ _ hT zF zN))
end
/-! ## MTold -/
section
open PySem PySem.W PyProof.Rows PyProof.Rows.LCg PyProof.Rows.LCt
set_option maxRecDepth 100000
theorem fill9 : PySem.Challenge.rw_mr0107_01 = PySem.Challenge.rw_mr0107_01 ∧ hd.heap_39 = hd.heap_39 := by
  k_fill
  w_top off
  exact ⟨rfl, rfl⟩
structure TSt where
  (co : Obj) (ds : List Value) (nd : Nat) (dtl : Led) (due : List (Int × Int))
def TSt.led (C Dd : Addr) (news : Led) (c : TSt) : Led := (C, c.co) :: (Dd, listOf c.ds.toArray c.nd) :: (c.dtl ++ news)
structure TOk (first : Int) (row : List (Int × Int × Int)) (Dd : Addr) (j : Nat) (c : TSt) : Prop where
  cell : ∃ v, c.co.data = .cell v
  ds : All2 (RepP c.dtl) c.ds c.due
  told : Told first (row.take j) c.due
  far : ∀ p ∈ c.dtl, Dd < p.1
structure TOut where
  (Dd : Addr) (ds : List Value) (nd : Nat) (dtl : Led) (due : List (Int × Int))
section
variable {prog : Program} {w : World} {A : Around} {s : Shared} {h₀ : Heap} {L : Addr} {m : Str → Option Value} {env : Env}
/-- a comprehension with a test, by an invariant -/
theorem restT {σ : Type} {ct elt : PySem.Expr} {x : Str} {scope : Scope} {cl : List (Str × Addr)} {S : Led → Prop} {P : Nat → Value → Prop} {Fin : List Value → Led → Prop} (Ld : σ → Led) (J : Nat → List Value → σ → Prop) (n : Nat)
    (turn : ∀ (i : Nat) (ys : List Value) (c : σ) v I oI C oC D m₂ h tk (E' : Value → Shared → Prop), i < n → J i ys c → P i v → NsObj oC m₂ → m₂ x = some v → Fr h₀ L h m → News h₀ L h ((I, oI) :: (C, oC) :: (D, lst ys) :: Ld c) → Off3 I C D (Ld c) → ((@Ne Nat I C) ∧ (@Ne Nat I D) ∧ (@Ne Nat C D)) →
      wpAny (model prog w) A (isTrue ct (compEnvC scope cl C env) (eval ct (compEnvC scope cl C env))) (fun ok s' => if ok = true then
        wpAny (model prog w) A (eval elt (compEnvC scope cl C env)) (CompEnd h₀ L m { s with heap := h, toks := tk } I oI C oC D (lst ys) S (fun y news' => ∃ c', news' = Ld c' ∧ J (i + 1) (ys ++ [y]) c')) E' s'
        else CompEnd h₀ L m { s with heap := h, toks := tk } I oI C oC D (lst ys) S (fun _ news' => ∃ c', news' = Ld c' ∧ J (i + 1) ys c') Value.none s') E' { s with heap := h, toks := tk })
    (fin : ∀ ys c, J n ys c → Fin ys (Ld c)) : ∀ (k i : Nat) (ys : List Value) (c : σ), i + k = n → J i ys c → CompRestT prog w A h₀ L m env ct elt x scope cl s S P Fin k i ys (Ld c) := by
  intro k
  induction k with
  | zero =>
    intro i ys c hi hJ
    have : i = n := by omega
    subst this
    exact CompRestT.zero (fin ys c hJ)
  | succ k ih =>
    intro i ys c hi hJ
    refine CompRestT.succ fun v I oI C oC D m₂ h tk E' hP hN hx F N hO hA => ?_
    refine wpAny_mono (turn i ys c v I oI C oC D m₂ h tk E' (by omega) hJ hP hN hx F N hO hA) (fun ok s' q => ?_) fun _ _ y => y
    cases ok with
    | true =>
      simp only [if_true] at q ⊢
      refine wpAny_mono q (fun y s'' q => ?_) fun _ _ y => y
      obtain ⟨h', tk', news', e1, F', N', o', hS, c', rfl, hJ'⟩ := q
      exact ⟨h', tk', _, e1, F', N', o', hS, ih (i + 1) _ c' (by omega) hJ'⟩
    | false =>
      simp only [Bool.false_eq_true, if_false] at q ⊢
      obtain ⟨h', tk', news', e1, F', N', o', hS, c', rfl, hJ'⟩ := q
      exact ⟨h', tk', _, e1, F', N', o', hS, ih (i + 1) _ c' (by omega) hJ'⟩
end
theorem Told.length {first : Int} {row : List (Int × Int × Int)} {due : List (Int × Int)} (h : Told first row due) : due.length = row.length := by
  induction h with
  | nil => rfl
  | snoc _ _ ih => simp [ih]
theorem held_yes {due : List (Int × Int)} {h : Int} {i : Nat} {k : Int × Int} (hk : due[i]? = some k) (hl : h < k.1) : heldAt (due.take (i + 1)) h = heldAt (due.take i) h ++ [k.2] := by
  unfold heldAt
  rw [List.take_add_one, hk]
  simp [List.filter_append, hl]
theorem held_no {due : List (Int × Int)} {h : Int} {i : Nat} {k : Int × Int} (hk : due[i]? = some k) (hl : ¬ h < k.1) : heldAt (due.take (i + 1)) h = heldAt (due.take i) h := by
  unfold heldAt
  rw [List.take_add_one, hk]
  simp [List.filter_append, hl]
theorem ints_ok : ∀ {ys : List Value} {ns : List Int}, All2 RepI ys ns → kf_ints ys = true
  | [], [], _ => rfl
  | y :: ys, n :: ns, h => by
    obtain ⟨t, rfl⟩ := h.1
    have := ints_ok (ys := ys) (ns := ns) h.2
    simpa [kf_ints] using this
  | [], _ :: _, h => h.elim
  | _ :: _, [], h => h.elim
theorem ints_any {k : Int} : ∀ {ys : List Value} {ns : List Int}, All2 RepI ys ns → ys.any (isInt k) = decide (k ∈ ns)
  | [], [], _ => rfl
  | y :: ys, n :: ns, h => by
    obtain ⟨t, rfl⟩ := h.1
    have := ints_any (k := k) (ys := ys) (ns := ns) h.2
    rw [List.any_cons, this]
    by_cases e : n = k
    · simp [isInt, e]
    · have e' : ¬ k = n := fun q => e q.symm
      simp [isInt, e, e']
  | [], _ :: _, h => h.elim
  | _ :: _, [], h => h.elim
theorem in_held {w : World} {A : Around} {E : Value → Shared → Prop} {s : Shared} {h₀ : Heap} {L D : Addr} {news : Led} {ys : List Value} {ns : List Int} {k : Int} {t : Tok} {Q : Value → Shared → Prop} (N : News h₀ L s.heap news) (hm : (D, lst ys) ∈ news) (hy : All2 RepI ys ns) (h : Q (.bool (decide (k ∈ ns))) s) :
    wpAny (model PR w) A (compareOp .In (.int k t) (.ref D)) Q E s :=
  kf_in (its := ys.toArray) (n := ys.length) N hm (ints_ok hy) (ints_any hy) h
theorem filter_less {l : Int} {xs : List Int} (h : l ∈ xs) : (xs.filter fun k => decide (l + 1 ≤ k)).length < (xs.filter fun k => decide (l ≤ k)).length := by
  induction xs with
  | nil => simp at h
  | cons a r ih =>
    have hle : (r.filter fun k => decide (l + 1 ≤ k)).length ≤ (r.filter fun k => decide (l ≤ k)).length := by
      rw [← List.countP_eq_length_filter, ← List.countP_eq_length_filter]
      refine List.countP_mono_left fun x _ hx => ?_
      simp at hx ⊢
      omega
    rcases List.mem_cons.mp h with rfl | h
    · rw [List.filter_cons, List.filter_cons, if_neg (by simp; omega), if_pos (by simp)]
      simp
      omega
    · have := ih h
      rw [List.filter_cons, List.filter_cons]
      split
      · rename_i h1
        rw [if_pos (by simp at h1 ⊢; omega)]
        simp
        omega
      · split
        · simp
          omega
        · omega
theorem told_sub {io c2 d t x : Addr × Obj} {l r : Led} : ∀ p ∈ io :: c2 :: d :: ((t :: l) ++ r), p ∈ t :: x :: io :: c2 :: d :: (l ++ r) :=
  List.forall_mem_cons.mpr ⟨.tail _ (.tail _ (.head _)), List.forall_mem_cons.mpr ⟨.tail _ (.tail _ (.tail _ (.head _))), List.forall_mem_cons.mpr ⟨.tail _ (.tail _ (.tail _ (.tail _ (.head _)))), List.forall_mem_cons.mpr ⟨.head _, fun p hp => .tail _ (.tail _ (.tail _ (.tail _ (.tail _ (hp)))))⟩⟩⟩⟩
theorem cells_swap {a b : Addr × Obj} {l : Led} : ∀ p ∈ b :: a :: ([] ++ l), p ∈ a :: b :: l := fun p hp => by
  simp only [List.nil_append, List.mem_cons] at hp ⊢
  rcases hp with h | h | h <;> simp [h]
set_option maxHeartbeats 4000000 in
theorem told_ctr (w : World) (mean : ExcName → Option Value) (mg mb : Str → Option Value) (news tl : Led) (Dw : Addr) (ws : List Value) (nw : Nat) (row : List (Int × Int × Int)) (first : Int) (tf : Tok)
    (hm : (Dw, listOf ws.toArray nw) ∈ news) (hs : ∀ p ∈ tl, p ∈ news) (hw : All2 (RepT tl) ws row) (hlen : row.length ≤ 20) :
    Ctr (σ := TOut) w mean mg mb 119 20 news [.ref Dw, .int first tf] (fun o => Told first row o.due ∧ All2 (RepP o.dtl) o.ds o.due ∧ (∀ p ∈ news, p.1 < o.Dd) ∧ (∀ p ∈ o.dtl, o.Dd < p.1)) (fun o => .ref o.Dd) (fun o => (o.Dd, listOf o.ds.toArray o.nd) :: (o.dtl ++ news)) := by
  intro dp un gd cn cs a ccd cl outer A₀ base h₀ L m s Q E B F X N T hk hd hu hret
  refine wpAny_call ?_
  k_dflt (refine' code_defC ?k1 ?k2 ?k3 ?k4 ?k5 ?kA ?kF ?kK ?k6 ?k7 ?k8 ?k9 ?kB ?kD ?_ ?c2 ?c3 ?c4; (case kA => exact rfl); (case kF => exact rfl); (case kK => assumption); (case k1 => k_asm); (case k2 => k_asm); (case k3 => k_asm); (case k4 => k_asm); (case k5 => k_asm); (case k6 => k_is); (case k7 => k_is); (case k8 => first | exact room hd 0 (by decide) | exact room hd 1 (by decide) | exact room hd 2 (by decide) | exact room hd 3 (by decide) | exact room hd 4 (by decide) | exact room hd 5 (by decide) | (trace "KTRROOM"; ktr_room)); (case k9 => exact BindsTo.of_eq rfl); (case kB => exact rfl); (case kD => decide +kernel); (case c2 => exact rfl); (case c3 => exact rfl); (case c4 => exact rfl); k_whole; intro g' L' h' tk' cells' FG' F' N' Y' B' X' T' l1; k_cells Y'; (try simp only [List.cons_append, List.nil_append] at N'); (try dsimp only); (try k_lift B'); (try k_fold))
  k_steps
  rename_i o1 d1 Dd h8 q8 h9 F9 N9
  refine go ?_
  refine wpAny_For ?_
  k_steps
  have hwl := hw.length
  refine go (m_iterList (σ := TSt) (TSt.led (L' + 1) Dd news) (fun _ => [(Str.ofString "row", .ref Dw), (Str.ofString "first", .int first tf), (Str.ofString "due", .ref Dd)]) (TOk first row Dd) rfl (fun _ _ _ => .tail _ (.tail _ (List.mem_append_right _ hm)))
    ⟨o1, [], 0, [], []⟩ F9 (kst_newsOf N9 cells_swap) (all3 rfl rfl rfl) ⟨⟨_, d1⟩, trivial, .nil, fun _ h => nomatch h⟩ ?_ ?_ (fun _ => let_tuple))
  · (try clear hret); (try clear F'); (try clear N'); (try clear FG'); (try clear F9); (try clear N9); (try clear F); (try clear N); (try clear B); (try clear X); (try clear T)
    rintro I hI j v c u o h tk hj hv hP hoff hst kFr kN
    obtain ⟨⟨rh, re, rp⟩, hrow, av, t1, t2, t3, n1, rfl, hav⟩ := hw.get hv
    dsimp only [TSt.led] at kN
    obtain ⟨cv, hcv⟩ := hP.cell
    have kN := kst_newsOf kN (l' := (av, tupOf [Value.int rh t1, Value.int re t2, Value.int rp t3] n1) :: (I, o) :: (L' + 1, c.co) :: (Dd, listOf c.ds.toArray c.nd) :: (c.dtl ++ news)) (List.forall_mem_cons.mpr ⟨.tail _ (.tail _ (.tail _ (List.mem_append_right _ (hs _ hav)))), fun p hp => hp⟩)
    have z1 : @LT.lt Nat _ av L' := l1 _ (hs _ hav)
    have z2 : @Ne Nat I (L' + 1) := Ne.symm (hoff _ (.head _))
    have z3 : @LT.lt Nat _ (L' + 1) Dd := q8.1
    have z4 : ∀ p ∈ c.dtl ++ news, p.1 ≠ L' + 1 := fun p hp => by
      rcases List.mem_append.mp hp with q | q
      · have y1 : @LT.lt Nat _ Dd p.1 := hP.far p q
        exact Nat.ne_of_gt (Nat.lt_trans z3 y1)
      · have y1 : @LT.lt Nat _ p.1 L' := l1 p q
        exact Nat.ne_of_lt (Nat.lt_succ_of_lt y1)
    have z5 : ∀ p ∈ c.dtl ++ news, p.1 ≠ Dd := fun p hp => by
      rcases List.mem_append.mp hp with q | q
      · exact Ne.symm (Nat.ne_of_lt (hP.far p q))
      · exact Nat.ne_of_lt (allLt_mem q8.2 p q)
    have z6 : @Ne Nat I Dd := Ne.symm (hoff _ (.tail _ (.head _)))
    have hwlen := hP.ds.length
    have htl := hP.told.length
    k_steps
    rename_i hA hB o2 d2 hC hD F2 N2
    have N2 := news_tail N2
    refine go ?_
    k_dflt (refine LCt.Assign_ListComp_T (F₀ := F2) (by rfl) (by with_unfolding_all rfl) (by with_unfolding_all rfl) (by decide) (by rfl) (by decide) (by rfl) (by rfl) (by rfl) ?_)
    k_steps
    have hdl : c.ds.length ≤ 1000 := by
      have : (row.take j).length ≤ row.length := tk_le _ _
      first | exact Nat.le_trans (Nat.le_of_eq (hwlen.trans htl)) (Nat.le_trans this (Nat.le_trans hlen (by decide))) | (trace "OMEGA"; omega)
    refine CompSrcT.ledger (its := c.ds.toArray) (k := c.nd) rfl F2 N2 (.tail _ (.tail _ (.head _))) (by rw [sizeLine_eq, List.size_toArray]; first | exact Nat.le_trans hdl (by decide) | (trace "OMEGA"; omega)) ?_
    intro gg
    refine restT (σ := Unit) (fun _ => (I, o) :: (L' + 1, o2) :: (Dd, listOf c.ds.toArray c.nd) :: (c.dtl ++ news)) (fun i ys _ => All2 RepI ys (heldAt (c.due.take i) rh)) c.ds.length ?_ ?_ _ 0 [] () (by simp) trivial
    · intro i ys _ v I2 oI2 C2 oC2 D2 m2 h3 tk3 E' hi hJ hv3 hNs hmx F3 N3 hO hA3
      obtain ⟨⟨ke, kp⟩, hk3, a3, t4, t5, n3, rfl, hm3⟩ := hP.ds.get (x := v) (i := i) (by simpa using hv3)
      k_steps
      refine go (tup_at (k := 0) (by k_asm) (.tail _ (.tail _ (.tail _ (.tail _ (.tail _ (.tail _ (List.mem_append_left _ hm3))))))) rfl (by simp) ?_)
      k_steps
      · rename rh < _ => hlt
        refine go (tup_at (k := 1) (by k_asm) (.tail _ (.tail _ (.tail _ (.tail _ (.tail _ (.tail _ (List.mem_append_left _ hm3))))))) rfl (by simp) ?_)
        k_steps
        exact CompEnd.intro F3 N3 _ (fun p hp => hp) hO (.inr ⟨_, .tail _ (.tail _ (.head _)), rfl, _, rfl⟩) ⟨(), rfl, by rw [held_yes hk3 hlt]; exact hJ.append ⟨⟨_, rfl⟩, trivial⟩⟩
      · rename ¬ rh < _ => hlt
        exact CompEnd.intro F3 N3 _ (fun p hp => hp) hO (.inr ⟨_, .tail _ (.tail _ (.head _)), rfl, _, rfl⟩) ⟨(), rfl, by rw [held_no hk3 hlt]; exact hJ⟩
    · intro ys cc hJ
      rw [hwlen, List.take_length] at hJ
      intro D h3 tk3 F3 N3 hO
      k_steps
      rename_i h4 F4 N4
      refine go (m_whileS (σ := Int × Tok) (fun _ => (D, lst ys) :: (I, o) :: (L' + 1, o2) :: (Dd, listOf c.ds.toArray c.nd) :: (c.dtl ++ news)) (fun x => [(Str.ofString "row", .ref Dw), (Str.ofString "first", .int first tf), (Str.ofString "due", .ref Dd), (Str.ofString "end", .int re t2), (Str.ofString "held", .ref D), (Str.ofString "least", .int x.1 x.2)])
        (fun x => first ≤ x.1 ∧ ∀ k, first ≤ k → k < x.1 → k ∈ heldAt c.due rh) (fun x => ((heldAt c.due rh).filter fun k => decide (x.1 ≤ k)).length) (first, tf) F4 N4 (all6 rfl rfl rfl rfl rfl rfl) ⟨Int.le_refl _, fun k h1 h2 => absurd h2 (by show ¬ k < first; omega)⟩ ?_)
      rintro ⟨l, tl'⟩ u5 h5 tk5 ⟨hl1, hl2⟩ F5 N5
      dsimp only at hl1 hl2
      k_steps
      have zD : @Ne Nat Dd D := hO.2.2.1
      refine go (in_held (by k_asm) (.head _) hJ ?_)
      k_steps
      · rename l ∈ _ => hin
        rename_i h6 F6 N6
        refine w_end F6 N6 ⟨(l + 1, _), fun p hp => hp, all6 rfl rfl rfl rfl rfl rfl, ⟨?_, ?_⟩, ?_⟩
        · show first ≤ l + 1
          first | exact Int.le_trans hl1 (Int.le_of_lt (Int.lt_succ _)) | (trace "OMEGA"; omega)
        · intro k h1 h2
          have h2' : k < l + 1 := h2
          by_cases e : k = l
          · rw [e]; exact hin
          · exact hl2 k h1 (by omega)
        · exact filter_less hin
      · rename ¬ l ∈ _ => hin
        rename_i Tn h6 F6 N6 q6
        refine go (m_append (by k_asm) (by k_asm) (by k_upd) hdl ?_)
        intro h7 F7 N7
        k_steps
        refine f_end F7 N7 hst ⟨⟨o2, c.ds ++ [Value.ref Tn], c.nd + 1, (Tn, tupOf [Value.int re t2, Value.int l tl'] 0) :: c.dtl, c.due ++ [(re, l)]⟩, told_sub, ?_, all3 rfl rfl rfl, ⟨⟨_, d2⟩, ?_, ?_, ?_⟩⟩
        · intro p hp
          dsimp only [TSt.led] at hp
          rcases List.mem_cons.mp hp with rfl | hp
          · exact hoff (L' + 1, c.co) (.head _)
          rcases List.mem_cons.mp hp with rfl | hp
          · exact hoff (Dd, listOf c.ds.toArray c.nd) (.tail _ (.head _))
          rcases List.mem_cons.mp hp with rfl | hp
          · exact (by first | exact Nat.ne_of_gt q6.1 | exact Nat.ne_of_gt q6.2.1 | exact Nat.ne_of_gt q6.2.2.1 | exact Nat.ne_of_gt q6.2.2.2.1 | exact Nat.ne_of_gt q6.2.2.2.2.1 | exact Nat.ne_of_gt q6.2.2.2.2.2.1 | exact Nat.ne_of_gt q6.2.2.2.2.2.2.1 | exact Nat.ne_of_gt q6.2.2.2.2.2.2.2.1 | exact Nat.ne_of_gt q6.2.2.2.2.2.2.2.2.1 | exact Nat.ne_of_gt q6.2.2.2.2.2.2.2.2.2.1 | omega)
          · exact hoff _ (.tail _ (.tail _ hp))
        · exact (hP.ds.imp fun v k r => r.mono fun p hp => .tail _ hp).append ⟨⟨Tn, _, _, 0, rfl, .head _⟩, trivial⟩
        · rw [List.take_add_one, hrow]
          exact .snoc hP.told ⟨hl1, hin, hl2⟩
        · exact List.forall_mem_cons.mpr ⟨(by first | exact q6.1 | exact q6.2.1 | exact q6.2.2.1 | exact q6.2.2.2.1 | exact q6.2.2.2.2.1 | exact q6.2.2.2.2.2.1 | exact q6.2.2.2.2.2.2.1 | exact q6.2.2.2.2.2.2.2.1 | exact q6.2.2.2.2.2.2.2.2.1 | exact q6.2.2.2.2.2.2.2.2.2.1 | omega), hP.far⟩
  · rintro c u h tk9 hP kFr kN
    dsimp only
    dsimp only [TSt.led] at kN
    (try clear F'); (try clear N'); (try clear F9); (try clear N9)
    k_steps
    have ht := hP.told
    rw [hwl, List.take_length] at ht
    rename Fr h₀ _ _ _ => zF
    rename News h₀ _ _ _ => zN
    exact hret ⟨Dd, c.ds, c.nd, c.dtl, c.due⟩ _ _ ⟨ht, hP.ds, fun p hp => allLt_mem q8.2 p hp, hP.far⟩ zF (news_tail zN)
end
/-! ## MEnter -/
section
open PySem PySem.W PySem.Calls PyProof.Rows
section
variable {prog : Program} {w : World} {A : Around} {R : Result → Shared → Prop} {s : Shared}
theorem codeC_cells {name : Str} {params : Arguments} {body : List Stmt} {scope : Scope} {pm cd doc : Value} {a : Addr} {o : Obj} {args : List Value} {binds : List (Str × Value)}
    (hroom : A.depth < recursionLimit) (ho : s.heap.get? a = some o) (hdata : o.data = .func (docDef name params body scope pm cd doc)) (hlim : s.heap.NoLimit) (hcd : s.heap.CodeRec cd name)
    (hbind : bindArgs (docDef name params body scope pm cd doc) ⟨args, []⟩ = pure binds)
    (hkind : ∀ x ∈ binds, scope.names.lookup x.1 = some .local ∨ (scope.names.lookup x.1 = some .cell ∧ ((cellsFrom (s.heap.objs.size + 1) scope.names []).lookup x.1).isSome = true))
    (hnd : ((cellsFrom 0 scope.names []).map (·.1)).Nodup)
    (h : ∀ h₁ tk cells, Fr s.heap s.heap.objs.size h₁ (bindL (envOfC name scope s.heap.objs.size a cd).kindOf binds fun _ => none) → News s.heap s.heap.objs.size h₁ cells →
      CellsAre (bindC (envOfC name scope s.heap.objs.size a cd).kindOf binds fun _ => none) (cellsFrom (s.heap.objs.size + 1) scope.names []) cells →
      wpC (model prog w) (A.deeper (envOfC name scope s.heap.objs.size a cd)) (execs body (envOfC name scope s.heap.objs.size a cd))
        (fun f s' => R (.ok (.ret (match f with | .ret v => v | _ => .none))) s')
        (fun e s' => wpAny (model prog w) (A.deeper (envOfC name scope s.heap.objs.size a cd)) (leaving (envOfC name scope s.heap.objs.size a cd) e)
          (fun _ s'' => R (.error e) s'') (fun e' s'' => R (.error e') s'') s')
        { s with heap := h₁, toks := tk })
    (hco : scope.isCoroutine = false := by rfl) (hgen : scope.isGenerator = false := by rfl) (hk : scope.kind = .function := by rfl) :
    codeC (model prog w) A (.call (.ref a) ⟨args, []⟩) R s := by
  refine codeC_call_function (fd := docDef name params body scope pm cd doc) hroom ho hdata hco hgen rfl hcd ?_
  rw [hbind]
  refine wpAny_pure (wpAny_newFunctionEnv_cells hk hkind fun env' he s' x => ?_)
  subst he
  refine ⟨hlim.keeps x.toInCall.keep, codeC_func ?_⟩
  obtain ⟨h₁, tk, rfl, _⟩ := x.done
  obtain ⟨cells, NC, Y⟩ := Cl.news (h₀ := s.heap) (Nat.le_refl _) fun n c hm => ⟨x.cell n c (lookup_of_mem_nodup (cellsFrom_names scope.names 0 (s.heap.objs.size + 1) [] [] rfl ▸ hnd) hm), x.above n c hm⟩
  exact h h₁ tk cells ⟨x.toInCall.ns, x.toInCall.keep, x.toInCall.fresh⟩ NC Y
end
section
theorem enterC {M : Model} {A : Around} {s : Shared} {f : Value} {pos : List Value} {c : ClaimW} {cl : Str → Option Addr} {mean : ExcName → Option Value} {args : List WData} {s₁ : Shared}
    (h : codeC M A (.call f ⟨pos, []⟩) (GoodWG c cl mean args s₁) s) : wpC M A (PySem.call f pos) (fun v s' => GoodWG c cl mean args s₁ (.ok (.ret v)) s') (fun e s' => GoodWG c cl mean args s₁ (.error e) s') s :=
  wpC_call (codeC_mono h fun res s' g => by rcases g.1 with ⟨v, _, _, rfl, _⟩ | ⟨e, _, _, rfl, _⟩ <;> exact g)
end
end
/-! ## MComp -/
section
open PySem PySem.W PySem.Calls PyProof.Rows PyProof.Rows.LCg PyProof.Rows.LCt
section
variable {prog : Program} {w : World} {A : Around} {E : Value → Shared → Prop} {s : Shared} {h₀ : Heap} {L : Addr} {m : Str → Option Value} {env : Env}
/-- a comprehension without a test, by an invariant -/
theorem restU {σ : Type} {elt : PySem.Expr} {x : Str} {scope : Scope} {cl : List (Str × Addr)} {S : Led → Prop} {P : Nat → Value → Prop} {Fin : List Value → Led → Prop} (Ld : σ → Led) (J : Nat → List Value → σ → Prop) (n : Nat)
    (turn : ∀ (i : Nat) (ys : List Value) (c : σ) v I oI C oC D m₂ h tk (E' : Value → Shared → Prop), i < n → J i ys c → P i v → NsObj oC m₂ → m₂ x = some v → Fr h₀ L h m → News h₀ L h ((I, oI) :: (C, oC) :: (D, lst ys) :: Ld c) → Off3 I C D (Ld c) → ((@Ne Nat I C) ∧ (@Ne Nat I D) ∧ (@Ne Nat C D)) →
      wpAny (model prog w) A (eval elt (compEnvC scope cl C env)) (CompEnd h₀ L m { s with heap := h, toks := tk } I oI C oC D (lst ys) S (fun y news' => ∃ c', news' = Ld c' ∧ J (i + 1) (ys ++ [y]) c')) E' { s with heap := h, toks := tk })
    (fin : ∀ ys c, J n ys c → Fin ys (Ld c)) : ∀ (k i : Nat) (ys : List Value) (c : σ), i + k = n → J i ys c → CompRest prog w A h₀ L m env elt x scope cl s S P Fin k i ys (Ld c) := by
  intro k
  induction k with
  | zero =>
    intro i ys c hi hJ
    have : i = n := by omega
    subst this
    exact CompRest.zero (fin ys c hJ)
  | succ k ih =>
    intro i ys c hi hJ
    refine CompRest.succ fun v I oI C oC D m₂ h tk E' hP hN hx F N hO hA => ?_
    refine wpAny_mono (turn i ys c v I oI C oC D m₂ h tk E' (by omega) hJ hP hN hx F N hO hA) (fun y s' q => ?_) fun _ _ y => y
    obtain ⟨h', tk', news', e1, F', N', o', hS, c', rfl, hJ'⟩ := q
    exact ⟨h', tk', _, e1, F', N', o', hS, ih (i + 1) _ c' (by omega) hJ'⟩
/-- a comprehension that takes triples apart -/
theorem comp3 {elt iter : PySem.Expr} {x y z : Str} {px py pz tp : Pos} {kk : Nat} {scope : Scope} {cl : List (Str × Addr)} {pos : Pos} {Q : Value → Shared → Prop} {ax : Addr} {vs : List Value} {kn : Nat} {Ld : Led} (V : Nat → Value → Value → Value → Prop) (J : Nat → List Value → Led → Prop) (hh : A.handled = none)
    (hcell : ∀ y ∈ scope.names, y.2 ≠ .cell) (hkind : scope.kind = .function) (hx : scope.names.lookup x = some .local) (hy : scope.names.lookup y = some .local) (hz : scope.names.lookup z = some .local) (hxy : x ≠ y) (hxz : x ≠ z) (hyz : y ≠ z)
    (F : Fr h₀ L s.heap m) (N : News h₀ L s.heap Ld) (hax : (ax, listOf vs.toArray kn) ∈ Ld) (hvs : vs.length ≤ 1000) (hJ : J 0 [] [])
    (tup : ∀ (i : Nat) (v : Value), vs[i]? = some v → Ex5 fun (t : Addr) (v1 v2 v3 : Value) (n : Nat) => Al3 (v = Value.ref t) ((t, tupOf [v1, v2, v3] n) ∈ Ld) (V i v1 v2 v3))
    (turn : ∀ (i : Nat) (ys : List Value) (c : Led) (t : Addr) (v1 v2 v3 : Value) (n : Nat) I oI C oC D m₂ h tk (E' : Value → Shared → Prop), i < vs.length → V i v1 v2 v3 → J i ys c → NsObj oC m₂ → m₂ x = some v1 → m₂ y = some v2 → m₂ z = some v3 → Fr h₀ L h m → News h₀ L h ((I, oI) :: (C, oC) :: (D, lst ys) :: (c ++ Ld)) → Off3 I C D (c ++ Ld) → ((@Ne Nat I C) ∧ (@Ne Nat I D) ∧ (@Ne Nat C D)) →
      wpAny (model prog w) A (eval elt (compEnvC scope cl C env)) (CompEnd h₀ L m { s with heap := h, toks := tk } I oI C oC D (lst ys) (fun _ => True) (fun y news' => ∃ c', news' = c' ++ Ld ∧ J (i + 1) (ys ++ [y]) c')) E' { s with heap := h, toks := tk })
    (fin : ∀ ys c D h tk, J vs.length ys c → Fr h₀ L h m → News h₀ L h ((D, lst ys) :: (c ++ Ld)) → Off1 D (c ++ Ld) → Q (.ref D) { s with heap := h, toks := tk }) :
    wpAny (model prog w) A (pyIter (.ref ax)) (fun it s₂ => wpAny (model prog w) A (newList []) (fun acc s₃ => wpAny (model prog w) A (newFunctionEnv scope env.globals cl [] env.qual none .none (some env)) (fun cenv s₄ =>
      codeAny (model prog w) A (.compStart (.ListComp elt [⟨.Tuple [.Name x px, .Name y py, .Name z pz] kk tp, iter, [], 0⟩] scope pos) 0 it acc { cenv with scope := relabel scope env }) (compPost (model prog w) A E none Q acc cenv.locals) s₄) E s₃) E s₂) E s := by
  have hl : s.heap.IsList ax vs.toArray := ⟨_, (N _ hax).1, rfl, kn, rfl⟩
  refine wpAny_pyIter_list hl ?_
  refine wpAny_newObj_type (wpAny_newFunctionEnv hcell (by intro y hy; simp at hy) (fun h₁ hns₁ hsb₁ => ?_) hkind)
  dsimp only at hns₁ hsb₁ ⊢
  generalize hH1 : s.heap.push { cls := .type "list_iterator", data := .fields #[.ref ax, .int 0 0] } = H1 at hns₁ hsb₁ ⊢
  have hs1 : H1.objs.size = s.heap.objs.size + 1 := by rw [← hH1, Heap.size_push]
  generalize hH2 : H1.push { cls := .type "list", dict := none, data := .seq ([] : List Value).toArray } = H2 at hns₁ hsb₁ ⊢
  have hs2 : H2.objs.size = s.heap.objs.size + 1 + 1 := by rw [← hH2, Heap.size_push, hs1]
  have up2 : ∀ b o, H2.get? b = some o → h₁.get? b = some o := fun b o e => hsb₁.extBut b o (Nat.ne_of_lt (Heap.lt_size e)) (Heap.get?_push_of_some _ e)
  have up1 : ∀ b o, H1.get? b = some o → h₁.get? b = some o := fun b o e => up2 b o (hH2 ▸ Heap.get?_push_of_some _ e)
  have up : ∀ b o, s.heap.get? b = some o → h₁.get? b = some o := fun b o e => up1 b o (hH1 ▸ Heap.get?_push_of_some _ e)
  have itAt : h₁.get? s.heap.objs.size = some { cls := .type "list_iterator", data := .fields #[.ref ax, .int 0 0] } := up1 _ _ (hH1 ▸ Heap.get?_push_size _ rfl)
  have accAt : h₁.get? H1.objs.size = some (lst []) := up2 _ _ (hH2 ▸ Heap.get?_push_size _ rfl)
  have nI : h₀.get? s.heap.objs.size = none := next_is_new F
  have no : ∀ a, s.heap.objs.size ≤ a → h₀.get? a = none := fun a ha => by
    cases e : h₀.get? a with
    | none => rfl
    | some o => exact absurd (Heap.lt_size (F.keep a o e)) (Nat.not_lt.mpr ha)
  have nD : h₀.get? H1.objs.size = none := no _ (by rw [hs1]; exact Nat.le_succ _)
  have nC : h₀.get? H2.objs.size = none := no _ (by rw [hs2]; exact Nat.le_trans (Nat.le_succ _) (Nat.le_succ _))
  have lL : L < s.heap.objs.size := F.ns.lt
  have aI : s.heap.objs.size ≠ L := Ne.symm (Nat.ne_of_lt lL)
  have aD : H1.objs.size ≠ L := by rw [hs1]; exact Ne.symm (Nat.ne_of_lt (Nat.lt_succ_of_lt lL))
  have aC : H2.objs.size ≠ L := by rw [hs2]; exact Ne.symm (Nat.ne_of_lt (Nat.lt_succ_of_lt (Nat.lt_succ_of_lt lL)))
  have dIC : s.heap.objs.size ≠ H2.objs.size := by rw [hs2]; exact Nat.ne_of_lt (Nat.lt_succ_of_lt (Nat.lt_succ_self _))
  have dID : s.heap.objs.size ≠ H1.objs.size := by rw [hs1]; exact Nat.ne_of_lt (Nat.lt_succ_self _)
  have dCD : H2.objs.size ≠ H1.objs.size := by rw [hs2, hs1]; exact Ne.symm (Nat.ne_of_lt (Nat.lt_succ_self _))
  have offs : ∀ p ∈ Ld, p.1 ≠ s.heap.objs.size ∧ p.1 ≠ H2.objs.size ∧ p.1 ≠ H1.objs.size := fun p hp => by
    have := Heap.lt_size (N p hp).1
    refine ⟨Nat.ne_of_lt this, ?_, ?_⟩
    · rw [hs2]; exact Nat.ne_of_lt (Nat.lt_succ_of_lt (Nat.lt_succ_of_lt this))
    · rw [hs1]; exact Nat.ne_of_lt (Nat.lt_succ_of_lt this)
  generalize s.heap.objs.size = I at *
  generalize H2.objs.size = C at *
  generalize H1.objs.size = D at *
  have loop : codeAny (model prog w) A (.compLoop (.ListComp elt [⟨.Tuple [.Name x px, .Name y py, .Name z pz] kk tp, iter, [], 0⟩] scope pos) 0 (.ref I) (.ref D) (compEnvC scope cl C env)) (compPost (model prog w) A E none Q (.ref D) C)
      { s with heap := h₁, toks := s.toks + ([] : List (Str × Value)).length } := by
    have nx := Nexts.list (prog := prog) (w := w) (A := A) hh (I := I) (D := ax) vs kn
    refine LCp.codeAny_compLoop_pair (fun k s' => Ex7 fun h' tk i ys m' c o => Al10 (s' = { s with heap := h', toks := tk }) (i ≤ vs.length) (k = vs.length + 1 - i) (ys.length = i) (Fr h₀ L h' m) (h'.Ns C m') (News h₀ L h' ((I, o) :: (D, lst ys) :: (c ++ Ld))) (literOf ax i o) (Off3 I C D (c ++ Ld)) (J i ys c)) ?_ (vs.length + 1)
      ⟨h₁, _, 0, [], _, [], { cls := .type "list_iterator", data := .fields #[.ref ax, .int 0 0] }, rfl, Nat.zero_le _, rfl, rfl, F.keeps up, hns₁, ?_, ⟨rfl, rfl⟩, Off3.of offs, hJ⟩
    · rintro k s' ⟨h', tk, i, ys, m', c, o, rfl, hi, rfl, hyl, F', hn', N', hit, hO, hJ'⟩
      have hO' := hO.mem
      have hneed : ∀ p ∈ [(ax, listOf vs.toArray kn)], h'.get? p.1 = some p.2 := fun p hp => by
        rw [List.mem_singleton.mp hp]
        exact (N' _ (.tail _ (.tail _ (List.mem_append_right _ hax)))).1
      by_cases hlt : i < vs.length
      · refine nx.item i _ _ _ o hlt (N' (I, o) (.head _)).1 hit hneed fun v h₂ tk₂ o' hv ho' hit' hs₂ => ?_
        obtain ⟨t, v1, v2, v3, nn, rfl, htm, hV⟩ := tup i v hv
        have N₂ : ∀ p ∈ (D, lst ys) :: (c ++ Ld), h₂.get? p.1 = some p.2 := fun p hp => by
          refine hs₂.extBut _ _ ?_ (N' p (.tail _ hp)).1
          rcases List.mem_cons.mp hp with rfl | hp
          · exact Ne.symm dID
          · exact (hO' p hp).1
        refine let_tuple _ _ _ _ _ ho' (nx.plain _ _ hit') ?_
        have ht : IsTup h₂ t #[v1, v2, v3] := ⟨_, N₂ _ (.tail _ (List.mem_append_right _ htm)), rfl, nn, rfl⟩
        refine assign_Tuple_tuple hh ht rfl rfl fun h₅ he => ?_
        have he' : ∀ b o, h₂.get? b = some o → h₅.get? b = some o := fun b o e => he b o (Nat.ne_of_lt (Heap.lt_size e)) e
        have hk0 : (compEnvC scope cl C env).scope.kind = .function := hkind
        have hp : ((compEnvC scope cl C env).scope.kind == .class || ((compEnvC scope cl C env).scope.kind == .module && (compEnvC scope cl C env).locals != (compEnvC scope cl C env).globals)) = false := by rw [hk0]; rfl
        refine assignInOrder_cons (wpAny_assign_Name (wpAny_storeName_local (lookup_relabel_local hx) ((hn'.at' fun o e => hs₂.extBut _ o (Ne.symm dIC) e).at' fun o e => he' _ o e) (fun h₆ hn₆ hs₆ => ?_) hp))
        refine assignInOrder_cons (wpAny_assign_Name (wpAny_storeName_local (lookup_relabel_local hy) hn₆ (fun h₇ hn₇ hs₇ => ?_) hp))
        refine assignInOrder_cons (wpAny_assign_Name (wpAny_storeName_local (lookup_relabel_local hz) hn₇ (fun h₃ hn₃ hs₃ => ?_) hp))
        refine assignInOrder_nil ?_
        have stay : ∀ b o, b ≠ C → h₂.get? b = some o → h₃.get? b = some o := fun b o hb e => hs₃.extBut b o hb (hs₇.extBut b o hb (hs₆.extBut b o hb (he' b o e)))
        obtain ⟨oC, heC, hoC⟩ := ns_obj hn₃
        have F₂ : Fr h₀ L h₂ m := fr_other F' aI nI hs₂.extBut
        have F₃ : Fr h₀ L h₃ m := ⟨F₂.ns.at' fun o e => stay _ o (Ne.symm aC) e, fun b o e => stay b o (fun q => by rw [q, nC] at e; cases e) (F₂.keep b o e), F₂.above⟩
        have N₃ : News h₀ L h₃ ((I, o') :: (C, oC) :: (D, lst ys) :: (c ++ Ld)) := fun p hp => by
          rcases List.mem_cons.mp hp with rfl | hp
          · exact ⟨stay _ _ dIC ho', aI, nI⟩
          · rcases List.mem_cons.mp hp with rfl | hp
            · exact ⟨heC, aC, nC⟩
            · refine ⟨stay _ _ ?_ (N₂ p hp), (N' p (.tail _ hp)).2⟩
              rcases List.mem_cons.mp hp with rfl | hp
              · exact Ne.symm dCD
              · exact (hO' p hp).2.1
        refine wpAny_mono (turn i ys c t v1 v2 v3 nn I o' C oC D _ h₃ _ _ hlt hV hJ' hoC (by simp [hxy, hxz]) (by simp [hyz]) (by simp) F₃ N₃ hO ⟨dIC, dID, dCD⟩) (fun yv s₄ q => ?_) fun _ _ e => e
        obtain ⟨h₄, tk₄, news₄, rfl, F₄, N₄, off₄, _, c', rfl, hJ₄⟩ := q
        have zD := (N₄ (D, lst ys) (.tail _ (.tail _ (.head _)))).1
        have off4 := off₄.mem
        refine append_at (hsz := by rw [sizeLine_eq]; simp; omega) zD fun h₅ hs₅ hD₅ => ?_
        refine ⟨vs.length + 1 - (i + 1), by first | exact Nat.sub_lt_sub_left (Nat.lt_succ_of_lt hlt) (Nat.lt_succ_self i) | (trace "OMEGA"; omega), h₅, tk₄, i + 1, ys ++ [yv], _, c', o', rfl, hlt, rfl, by simp [hyl], F₄.change hs₅ aD nD, (hoC.ns (N₄ (C, oC) (.tail _ (.head _))).1).sameBut hs₅ dCD, fun p hp => ?_, hit', off₄, hJ₄⟩
        rcases List.mem_cons.mp hp with rfl | hp
        · exact ⟨hs₅.extBut _ _ dID (N₄ (I, o') (.head _)).1, aI, nI⟩
        · rcases List.mem_cons.mp hp with rfl | hp
          · exact ⟨hD₅.trans (congrArg some (lst_snoc ys yv)), aD, nD⟩
          · exact ⟨hs₅.extBut _ _ (off4 p hp).2.2 (N₄ p (.tail _ (.tail _ (.tail _ hp)))).1, (N₄ p (.tail _ (.tail _ (.tail _ hp)))).2⟩
      · have hin : i = vs.length := by first | exact Nat.le_antisymm hi (Nat.le_of_not_lt hlt) | (trace "OMEGA"; omega)
        subst hin
        refine nx.stop _ _ _ o (N' (I, o) (.head _)).1 hit hneed fun h₂ hk₂ => ?_
        refine ⟨m', hn'.at' fun o e => hk₂ _ o (Ne.symm dIC) e, fun h'' hs'' => ?_⟩
        have F₂ : Fr h₀ L h₂ m := fr_other F' aI nI hk₂
        refine fin ys c D h'' tk hJ' (F₂.change hs'' aC nC) (fun p hp => ?_) hO.one
        refine ⟨hs''.extBut _ _ ?_ (hk₂ _ _ ?_ (N' p (.tail _ hp)).1), (N' p (.tail _ hp)).2⟩
        · rcases List.mem_cons.mp hp with rfl | hp
          · exact Ne.symm dCD
          · exact (hO' p hp).2.1
        · rcases List.mem_cons.mp hp with rfl | hp
          · exact Ne.symm dID
          · exact (hO' p hp).1
    · intro p hp
      rcases List.mem_cons.mp hp with rfl | hp
      · exact ⟨itAt, aI, nI⟩
      · rcases List.mem_cons.mp hp with rfl | hp
        · exact ⟨accAt, aD, nD⟩
        · exact ⟨up _ _ (N p hp).1, (N p hp).2⟩
  exact codeAny_compStart_list loop (wpAny_pyIter_listiter ⟨_, itAt, rfl, rfl⟩ loop)
end
section
open SeqAt
def pd (k : Int × Int) : PyData := .tuple [.int k.1, .int k.2]
theorem pairs_reads {h₀ h : Heap} {L : Addr} {led : Led} (N : News h₀ L h led) : ∀ {vs : List Value} {ks : List (Int × Int)}, All2 (RepP led) vs ks → ∃ as, ReadsAll h vs (ks.map pd) as
  | [], [], _ => ⟨_, .nil⟩
  | v :: vs, k :: ks, hx => by
    obtain ⟨as, r⟩ := pairs_reads N (vs := vs) (ks := ks) hx.2
    obtain ⟨a, t, u, n, rfl, hm⟩ := hx.1
    exact ⟨_, .cons (.tuple (N _ hm).1 rfl rfl (.cons (.int _ _) (.cons (.int _ _) .nil))) r⟩
  | [], _ :: _, hx => hx.elim
  | _ :: _, [], hx => hx.elim
theorem pd_lay : ∀ ks : List (Int × Int), PyData.canLayAll0 (ks.map pd) = true
  | [] => by simp [PyData.canLayAll0]
  | k :: r => by simp [PyData.canLayAll0, PyData.canLay0, pd, pd_lay r]
theorem pd_depth : ∀ ks : List (Int × Int), PyData.depthAll (ks.map pd) ≤ 3
  | [] => by simp [PyData.depthAll]
  | k :: r => by
    have := pd_depth r
    have h2 : (pd k).depth ≤ 3 := by simp [pd, PyData.depth, PyData.depthAll]
    simp only [List.map_cons, PyData.depthAll]
    omega
theorem pd_shaped (ks : List (Int × Int)) : shaped (.list (ks.map pd)) = true := by
  have h1 := pd_depth ks
  have h2 : PyData.depth (.list (ks.map pd)) ≤ 64 := by simp only [PyData.depth]; omega
  show (PyData.canLay0 (.list (ks.map pd)) && decide (PyData.depth (.list (ks.map pd)) ≤ 64)) = true
  rw [Bool.and_eq_true]
  exact ⟨by simp only [PyData.canLay0]; exact pd_lay ks, decide_eq_true h2⟩
theorem pd_eqv : ∀ ks : List (Int × Int), PyData.eqvAll (ks.map pd) (ks.map pd) = true
  | [] => by simp [PyData.eqvAll]
  | k :: r => by simp [PyData.eqvAll, pd, PyData.eqv, pd_eqv r]
/-- two lists of like pairs -/
theorem ne_pairs {w : World} {A : Around} {E : Value → Shared → Prop} {s : Shared} {h₀ : Heap} {L a b : Addr} {news l1 l2 : Led} {xs ys : List Value} {n1 n2 : Nat} {ks : List (Int × Int)} {Q : Value → Shared → Prop} (N : News h₀ L s.heap news) (ha : (a, listOf xs.toArray n1) ∈ news) (hb : (b, listOf ys.toArray n2) ∈ news)
    (s1 : ∀ p ∈ l1, p ∈ news) (s2 : ∀ p ∈ l2, p ∈ news) (hx : All2 (RepP l1) xs ks) (hy : All2 (RepP l2) ys ks) (hu : A.units + 64 < cLine) (h : Q (.bool false) s) : wpAny (model PR w) A (compareOp .NotEq (.ref a) (.ref b)) Q E s := by
  obtain ⟨as, r1⟩ := pairs_reads (kst_newsOf N s1) hx
  obtain ⟨bs, r2⟩ := pairs_reads (kst_newsOf N s2) hy
  refine ne_dataH (.list (N _ ha).1 rfl rfl (by simpa using r1)) (.list (N _ hb).1 rfl rfl (by simpa using r2)) (pd_shaped ks) (pd_shaped ks) hu ?_
  rw [show PyData.eqv (.list (ks.map pd)) (.list (ks.map pd)) = true from by simp only [PyData.eqv]; exact pd_eqv ks]
  exact h
end
end
/-! ## MSort -/
section
open PySem PySem.W PyProof.Rows
section
variable {lt : Nat → Nat → Bool} {n : Nat} {cmp : Nat → Nat → (Bool → Shared → Prop) → Shared → Prop} {s : Shared}
/-- the place's number -/
def Kp (p : Array Nat) (k : Nat) : Nat := p.getD k 0
theorem Kp_eq (p : Array Nat) (k : Nat) : Kp p k = (p[k]?).getD 0 := by unfold Kp; simp [Array.getD]; split <;> simp_all
theorem Kp_of {p q : Array Nat} {i j : Nat} (h : p[i]? = q[j]?) : Kp p i = Kp q j := by rw [Kp_eq, Kp_eq, h]
structure PO (n : Nat) (p : Array Nat) : Prop where
  perm : p.toList.Perm (List.range n)
theorem PO.size {p : Array Nat} (h : PO n p) : p.size = n := by have := h.perm.length_eq; simpa using this
theorem PO.below {p : Array Nat} (h : PO n p) (h0 : 0 < n) (i : Nat) : Kp p i < n := by
  rw [Kp_eq]
  cases e : p[i]? with
  | none => simpa using h0
  | some v =>
    have : v ∈ p.toList := by
      have e' : p.toList[i]? = some v := by simpa using e
      exact List.mem_of_getElem? e'
    exact List.mem_range.mp (h.perm.mem_iff.mp this)
theorem PO.range (n : Nat) : PO n (List.toArray (List.range n)) := ⟨by simp⟩
theorem PO.of {p q : Array Nat} (h : PO n p) (hp : q.Perm p) : PO n q := ⟨(Array.perm_iff_toList_perm.mp hp).trans h.perm⟩
def Srt (lt : Nat → Nat → Bool) (p : Array Nat) (m : Nat) : Prop := ∀ i j, i ≤ j → j < m → lt (Kp p j) (Kp p i) = false
def Dsc (lt : Nat → Nat → Bool) (p : Array Nat) (m : Nat) : Prop := ∀ i j, i ≤ j → j < m → lt (Kp p i) (Kp p j) = false
def Eqb (lt : Nat → Nat → Bool) (p : Array Nat) (a b : Nat) : Prop := ∀ i j, a ≤ i → i < b → a ≤ j → j < b → lt (Kp p i) (Kp p j) = false
/-- the compares answer as lt does -/
def Says (cmp : Nat → Nat → (Bool → Shared → Prop) → Shared → Prop) (lt : Nat → Nat → Bool) (n : Nat) (s : Shared) : Prop := ∀ i j C, i < n → j < n → C (lt i j) s → cmp i j C s
theorem rev_at {p : Array Nat} {i j : Nat} (hj : j ≤ p.size) (k : Nat) : Kp (kas_rev p i j) k = if i ≤ k ∧ k < j then Kp p (i + j - 1 - k) else Kp p k := by
  have e := getElem?_mirror_all (i := i) hj k
  unfold kas_rev
  split
  · rename_i h; rw [if_pos h] at e; exact Kp_of e
  · rename_i h; rw [if_neg h] at e; exact Kp_of e
theorem rev_po {p : Array Nat} (h : PO n p) (i j : Nat) : PO n (kas_rev p i j) := h.of (mirror_perm _ _ _ _)
theorem bub_at {p : Array Nat} {k l : Nat} (hk : k < p.size) (hl : l ≤ k) (x : Nat) : Kp (bubble p k (k - l)) x = if x = l then Kp p k else if l < x ∧ x ≤ k then Kp p (x - 1) else Kp p x := by
  have e := getElem?_bubble hk (k - l) (by exact Nat.sub_le _ _) x
  have e1 : k - (k - l) = l := by first | exact Nat.sub_sub_self hl | (trace "OMEGA"; omega)
  rw [e1] at e
  split
  · rename_i h; rw [if_pos h] at e; exact Kp_of e
  · rename_i h
    rw [if_neg h] at e
    split
    · rename_i h2; rw [if_pos h2] at e; exact Kp_of e
    · rename_i h2; rw [if_neg h2] at e; exact Kp_of e
theorem lt_of_lt_le (O : Ord lt) {a b c : Nat} (h1 : lt a b = true) (h2 : lt c b = false) : lt a c = true := by
  cases h : lt a c with
  | true => rfl
  | false => rw [O.tr b c a h2 h] at h1; cases h1
theorem asc_wp (O : Ord lt) (hn : 0 < n) (H : Says cmp lt n s) {p : Array Nat} (hp : PO n p) : ∀ (f a : Nat) (Q : Nat → Shared → Prop), 1 ≤ a → Srt lt p a → (∀ m, a ≤ m → m ≤ a + f → Srt lt p m → (m = a + f ∨ lt (Kp p m) (Kp p (m - 1)) = true) → Q m s) → (kas_asc p f a).kasWp cmp Q s
  | 0, a, Q, _, hs, hQ => hQ a (Nat.le_refl _) (Nat.le_refl _) hs (.inl rfl)
  | f + 1, a, Q, h1, hs, hQ => by
    refine H _ _ _ (hp.below hn a) (hp.below hn (a - 1)) ?_
    show KasT.kasWp cmp (if lt (Kp p a) (Kp p (a - 1)) = true then .ret a else kas_asc p f (a + 1)) Q s
    cases hc : lt (Kp p a) (Kp p (a - 1)) with
    | true => exact hQ a (Nat.le_refl _) (by (trace "OMEGA"; omega)) hs (.inr hc)
    | false =>
      refine asc_wp O hn H hp f (a + 1) Q (by exact Nat.succ_pos _) (fun i j hij hj => ?_) (fun m hm1 hm2 hm3 hm4 => hQ m (by exact Nat.le_of_lt (by assumption)) (by exact ar29 (by assumption)) hm3 (hm4.imp (fun e => by omega) id))
      by_cases e : j = a
      · subst e
        by_cases e2 : i = j
        · subst e2; exact O.rfl' _
        · exact O.tr _ _ _ (hs i (j - 1) (by exact ar5 (by assumption) (by assumption)) (by exact ar4 (by assumption))) hc
      · exact hs i j hij (by exact ar1 (by assumption) (by assumption))
theorem place_wp (O : Ord lt) (hn : 0 < n) (H : Says cmp lt n s) {p : Array Nat} (hp : PO n p) {k : Nat} (hs : Srt lt p k) : ∀ (f l r : Nat) (Q : Nat → Shared → Prop), l ≤ r → r ≤ k → r - l ≤ f → (∀ i, i < l → lt (Kp p k) (Kp p i) = false) → (∀ i, r ≤ i → i < k → lt (Kp p k) (Kp p i) = true) →
    (∀ l', l' ≤ k → (∀ i, i < l' → lt (Kp p k) (Kp p i) = false) → (∀ i, l' ≤ i → i < k → lt (Kp p k) (Kp p i) = true) → Q l' s) → (kas_place p k f l r).kasWp cmp Q s
  | 0, l, r, Q, h1, h2, h3, hlo, hhi, hQ => by
    have e : l = r := by exact ar60 (by assumption) (by assumption)
    subst e
    exact hQ l h2 hlo hhi
  | f + 1, l, r, Q, h1, h2, h3, hlo, hhi, hQ => by
    unfold kas_place
    by_cases hlr : l ≥ r
    · rw [if_pos hlr]
      have e : l = r := by first | exact Nat.le_antisymm (by assumption) (by assumption) | (trace "OMEGA"; omega)
      subst e
      exact hQ l h2 hlo hhi
    · rw [if_neg hlr]
      refine H _ _ _ (hp.below hn k) (hp.below hn ((l + r) / 2)) ?_
      show KasT.kasWp cmp (if lt (Kp p k) (Kp p ((l + r) / 2)) = true then kas_place p k f l ((l + r) / 2) else kas_place p k f ((l + r) / 2 + 1) r) Q s
      cases hc : lt (Kp p k) (Kp p ((l + r) / 2)) with
      | true =>
        rw [if_pos rfl]
        refine place_wp O hn H hp hs f l _ Q (by exact ar16 (by assumption)) (by exact ar53 (by assumption) (by assumption)) (by exact ar35 (by assumption) (by assumption)) hlo (fun i hi hik => ?_) hQ
        exact lt_of_lt_le O hc (hs _ i hi hik)
      | false =>
        rw [if_neg (by simp)]
        refine place_wp O hn H hp hs f _ r Q (by exact ar17 (by assumption)) h2 (by exact ar34 (by assumption) (by assumption)) (fun i hi => ?_) hhi hQ
        exact O.tr _ _ _ (hs i ((l + r) / 2) (by exact Nat.le_of_lt_succ (by assumption)) (by exact ar18 (by assumption) (by assumption))) hc
theorem bin_wp (O : Ord lt) (hn : 0 < n) (H : Says cmp lt n s) : ∀ (f : Nat) (p : Array Nat) (k : Nat) (Q : Array Nat → Shared → Prop), PO n p → k + f ≤ n → Srt lt p k → (∀ q, PO n q → Srt lt q (k + f) → Q q s) → (kas_bin f p k).kasWp cmp Q s
  | 0, p, k, Q, hp, _, hs, hQ => hQ p hp hs
  | f + 1, p, k, Q, hp, hk, hs, hQ => by
    have hz := hp.size
    unfold kas_bin
    rw [KasT.kasWp_bind]
    refine place_wp O hn H hp hs k 0 k _ (Nat.zero_le _) (Nat.le_refl _) (by exact Nat.le_refl _) (fun i hi => absurd hi (by (trace "OMEGA"; omega))) (fun i h1 h2 => absurd h1 (by (trace "OMEGA"; omega))) fun l hl hlo hhi => ?_
    refine bin_wp O hn H f _ (k + 1) Q (hp.of (bubble_perm _ _ _)) (by exact ar28 (by assumption)) (fun i j hij hj => ?_) (fun q h1 h2 => hQ q h1 (by rw [show k + (f + 1) = k + 1 + f by omega]; exact h2))
    rw [bub_at (by exact ar57 (by assumption) (by assumption)) hl, bub_at (by exact ar57 (by assumption) (by assumption)) hl]
    by_cases ei : i = l
    · rw [if_pos ei]
      by_cases ej : j = l
      · rw [if_pos ej]; exact O.rfl' _
      · rw [if_neg ej, if_pos (by exact ar26 (by assumption) (by assumption) (by assumption) (by assumption))]
        exact O.le_of_lt (hhi (j - 1) (by exact ar39 (by assumption) (by assumption) (by assumption)) (by exact ar40 (by assumption) (by assumption) (by assumption) (by assumption)))
    · rw [if_neg ei]
      by_cases ej : j = l
      · rw [if_pos ej, if_neg (by (trace "OMEGA"; omega))]
        exact hlo i (by exact ar24 (by assumption) (by assumption) (by assumption))
      · rw [if_neg ej]
        by_cases c1 : l < i ∧ i ≤ k
        · rw [if_pos c1, if_pos (by exact ar43 (by assumption) (by assumption) (by assumption))]
          exact hs (i - 1) (j - 1) (by exact ar22 (by assumption)) (by exact ar41 (by assumption) (by assumption) (by assumption))
        · rw [if_neg c1]
          by_cases c2 : l < j ∧ j ≤ k
          · rw [if_pos c2]
            exact hs i (j - 1) (by exact ar27 (by assumption) (by assumption) (by assumption)) (by exact ar42 (by assumption))
          · rw [if_neg c2]
            exact hs i j hij (by exact ar37 (by assumption) (by assumption) (by assumption) (by assumption))
theorem rev_dsc {p : Array Nat} {x a : Nat} (ha : a ≤ p.size) (hx : x ≤ a) (hd : Dsc lt p a) (he : Eqb lt p x a) : Dsc lt (kas_rev p x a) a := by
  intro i j hij hj
  rw [rev_at ha, rev_at ha]
  by_cases ci : x ≤ i ∧ i < a
  · rw [if_pos ci, if_pos (by exact ar47 (by assumption) (by assumption) (by assumption))]
    exact he _ _ (by exact ar45 (by assumption)) (by exact ar44 (by assumption)) (by exact ar12 (by assumption)) (by exact ar46 (by assumption) (by assumption) (by assumption))
  · rw [if_neg ci]
    by_cases cj : x ≤ j ∧ j < a
    · rw [if_pos cj]
      exact hd i _ (by exact ar38 (by assumption) (by assumption) (by assumption)) (by exact ar44 (by assumption))
    · rw [if_neg cj]
      exact hd i j hij hj
theorem dsc_more (O : Ord lt) {p : Array Nat} {a : Nat} (h1 : 1 ≤ a) (hd : Dsc lt p a) (hc : lt (Kp p (a - 1)) (Kp p a) = false) : Dsc lt p (a + 1) := by
  intro i j hij hj
  by_cases e : j = a
  · subst e
    by_cases e2 : i = j
    · subst e2; exact O.rfl' _
    · exact O.tr _ _ _ hc (hd i (j - 1) (by exact ar5 (by assumption) (by assumption)) (by exact ar4 (by assumption)))
  · exact hd i j hij (by exact ar1 (by assumption) (by assumption))
theorem desc_wp (O : Ord lt) (hn : 0 < n) (H : Says cmp lt n s) : ∀ (f : Nat) (p : Array Nat) (a q : Nat) (Q : Array Nat × Nat × Nat → Shared → Prop), PO n p → a + f ≤ n → q + 1 ≤ a → Dsc lt p a → Eqb lt p (a - (q + 1)) a →
    (∀ p' a' q', PO n p' → a ≤ a' → a' ≤ a + f → q' + 1 ≤ a' → Dsc lt p' a' → Eqb lt p' (a' - (q' + 1)) a' → Q (p', a', q') s) → (kas_desc f p a q).kasWp cmp Q s
  | 0, p, a, q, Q, hp, _, hq, hd, he, hQ => hQ p a q hp (Nat.le_refl _) (Nat.le_refl _) hq hd he
  | f + 1, p, a, q, Q, hp, hf, hq, hd, he, hQ => by
    have hz := hp.size
    unfold kas_desc
    refine H _ _ _ (hp.below hn a) (hp.below hn (a - 1)) ?_
    show KasT.kasWp cmp (if lt (Kp p a) (Kp p (a - 1)) = true then _ else _) Q s
    cases hc : lt (Kp p a) (Kp p (a - 1)) with
    | true =>
      rw [if_pos rfl]
      by_cases h0 : q > 0
      · rw [if_pos h0]
        have hd2 := rev_dsc (lt := lt) (p := p) (x := a - (q + 1)) (a := a) (by exact ar58 (by assumption) (by assumption)) (by exact Nat.sub_le _ _) hd he
        have hc2 : lt (Kp (kas_rev p (a - (q + 1)) a) (a - 1)) (Kp (kas_rev p (a - (q + 1)) a) a) = false := by
          rw [rev_at (by exact ar58 (by assumption) (by assumption)), rev_at (by exact ar58 (by assumption) (by assumption)), if_pos (by exact ar33 (by assumption)), if_neg (by (trace "OMEGA"; omega))]
          have e1 := he (a - (q + 1) + a - 1 - (a - 1)) (a - 1) (by exact ar32 (by assumption)) (by exact ar31 (by assumption)) (by exact ar3) (by exact ar4 (by assumption))
          exact O.tr _ _ _ (O.le_of_lt hc) e1
        refine desc_wp O hn H f _ (a + 1) 0 Q (rev_po hp _ _) (by exact ar28 (by assumption)) (by exact Nat.succ_pos _) (dsc_more O (by (trace "OMEGA"; omega)) hd2 hc2) (fun i j h1 h2 h3 h4 => ?_) (fun p' a' q' h1 h2 h3 h4 h5 h6 => hQ p' a' q' h1 (by exact Nat.le_of_lt (by assumption)) (by exact ar29 (by assumption)) h4 h5 h6)
        have e : i = j := by exact ar8 (by assumption) (by assumption) (by assumption) (by assumption)
        subst e; exact O.rfl' _
      · rw [if_neg h0]
        refine desc_wp O hn H f _ (a + 1) 0 Q hp (by exact ar28 (by assumption)) (by exact Nat.succ_pos _) (dsc_more O (by (trace "OMEGA"; omega)) hd (O.le_of_lt hc)) (fun i j h1 h2 h3 h4 => ?_) (fun p' a' q' h1 h2 h3 h4 h5 h6 => hQ p' a' q' h1 (by exact Nat.le_of_lt (by assumption)) (by exact ar29 (by assumption)) h4 h5 h6)
        have e : i = j := by exact ar8 (by assumption) (by assumption) (by assumption) (by assumption)
        subst e; exact O.rfl' _
    | false =>
      rw [if_neg (by simp)]
      refine H _ _ _ (hp.below hn (a - 1)) (hp.below hn a) ?_
      show KasT.kasWp cmp (if lt (Kp p (a - 1)) (Kp p a) = true then _ else _) Q s
      cases hc2 : lt (Kp p (a - 1)) (Kp p a) with
      | true =>
        rw [if_pos rfl]
        exact hQ p a q hp (Nat.le_refl _) (by (trace "OMEGA"; omega)) hq hd he
      | false =>
        rw [if_neg (by simp)]
        refine desc_wp O hn H f p (a + 1) (q + 1) Q hp (by exact ar28 (by assumption)) (by exact Nat.succ_le_succ (by assumption)) (dsc_more O (by (trace "OMEGA"; omega)) hd hc2) (fun i j h1 h2 h3 h4 => ?_) (fun p' a' q' h1 h2 h3 h4 h5 h6 => hQ p' a' q' h1 (by exact Nat.le_of_lt (by assumption)) (by exact ar29 (by assumption)) h4 h5 h6)
        by_cases ei : i = a
        · by_cases ej : j = a
          · rw [ei, ej]; exact O.rfl' _
          · rw [ei]
            exact O.tr _ _ _ (he (a - 1) j (by exact ar3) (by exact ar4 (by assumption)) (by exact ar2 (by assumption)) (by exact ar1 (by assumption) (by assumption))) hc
        · by_cases ej : j = a
          · rw [ej]
            exact O.tr _ _ _ hc2 (he i (a - 1) (by exact ar2 (by assumption)) (by exact ar1 (by assumption) (by assumption)) (by exact ar3) (by exact ar4 (by assumption)))
          · exact he i j (by exact ar2 (by assumption)) (by exact ar1 (by assumption) (by assumption)) (by exact ar2 (by assumption)) (by exact ar1 (by assumption) (by assumption))
theorem tail3_wp (O : Ord lt) (hn : 0 < n) (H : Says cmp lt n s) {p : Array Nat} {a : Nat} {Q : Nat × Array Nat → Shared → Prop} (hp : PO n p) (h1 : 1 ≤ a) (ha : a ≤ n) (hd : Dsc lt p a) (hQ : ∀ m q, PO n q → 1 ≤ m → m ≤ n → Srt lt q m → Q (m, q) s) : (kas_tail3 a n p).kasWp cmp Q s := by
  have hz := hp.size
  unfold kas_tail3
  rw [KasT.kasWp_bind]
  refine asc_wp O hn H (rev_po hp 0 a) (n - a) a _ h1 (fun i j hij hj => ?_) fun m hm1 hm2 hm3 _ => hQ m _ (rev_po hp 0 a) (by exact ar20 (by assumption) (by assumption)) (by exact ar19 (by assumption) (by assumption)) hm3
  rw [rev_at (by first | exact Nat.le_trans ha (Nat.le_of_eq hz.symm) | (trace "OMEGA"; omega)), rev_at (by first | exact Nat.le_trans ha (Nat.le_of_eq hz.symm) | (trace "OMEGA"; omega)), if_pos (by (trace "OMEGA"; omega)), if_pos (by exact ar51 (by assumption) (by assumption))]
  exact hd _ _ (by exact ar14 (by assumption)) (by exact ar49 (by assumption) (by assumption))
theorem descPart_wp (O : Ord lt) (hn : 0 < n) (H : Says cmp lt n s) {p : Array Nat} {a : Nat} {Q : Nat × Array Nat → Shared → Prop} (hp : PO n p) (ha : a + 1 ≤ n) (hd : Dsc lt p (a + 1)) (hQ : ∀ m q, PO n q → 1 ≤ m → m ≤ n → Srt lt q m → Q (m, q) s) : (kas_descPart a n p).kasWp cmp Q s := by
  unfold kas_descPart
  rw [KasT.kasWp_bind]
  refine desc_wp O hn H (n - (a + 1)) p (a + 1) 0 _ hp (by first | exact Nat.le_of_eq (Nat.add_sub_cancel' ha) | (trace "OMEGA"; omega)) (by exact Nat.succ_pos _) hd (fun i j h1 h2 h3 h4 => ?_) fun p' a' q' g1 g2 g3 g4 g5 g6 => ?_
  · have e : i = j := by exact ar8 (by assumption) (by assumption) (by assumption) (by assumption)
    subst e; exact O.rfl' _
  · have hz := g1.size
    dsimp only
    by_cases h0 : q' > 0
    · rw [if_pos h0]
      exact tail3_wp O hn H (rev_po g1 _ _) (by (trace "OMEGA"; omega)) (by exact ar19 (by assumption) (by assumption)) (rev_dsc (by exact ar50 (by assumption) (by assumption) (by assumption)) (by exact Nat.sub_le _ _) g5 g6) hQ
    · rw [if_neg h0]
      exact tail3_wp O hn H g1 (by (trace "OMEGA"; omega)) (by exact ar19 (by assumption) (by assumption)) g5 hQ
theorem count_wp (O : Ord lt) (hn : 0 < n) (H : Says cmp lt n s) {p : Array Nat} {Q : Nat × Array Nat → Shared → Prop} (hp : PO n p) (hQ : ∀ m q, PO n q → 1 ≤ m → m ≤ n → Srt lt q m → Q (m, q) s) : (kas_count n p).kasWp cmp Q s := by
  have hz := hp.size
  unfold kas_count
  rw [KasT.kasWp_bind]
  refine asc_wp O hn H hp (n - 1) 1 _ (Nat.le_refl _) (fun i j hij hj => ?_) fun m hm1 hm2 hm3 hm4 => ?_
  · have e : i = j := by (trace "OMEGA"; omega)
    subst e; exact O.rfl' _
  · by_cases hmn : (m == n) = true
    · rw [if_pos hmn]
      exact hQ m p hp hm1 (by simp at hmn; omega) hm3
    · rw [if_neg hmn]
      have hm : m < n := by simp at hmn; omega
      have hlt : lt (Kp p m) (Kp p (m - 1)) = true := hm4.resolve_left (by (trace "OMEGA"; omega))
      by_cases h1 : m > 1
      · rw [if_pos h1]
        refine H _ _ _ (hp.below hn 0) (hp.below hn (m - 1)) ?_
        show KasT.kasWp cmp (if lt (Kp p 0) (Kp p (m - 1)) = true then _ else _) Q s
        cases hc : lt (Kp p 0) (Kp p (m - 1)) with
        | true =>
          rw [if_pos rfl]
          exact hQ m p hp hm1 (by exact Nat.le_of_lt (by assumption)) hm3
        | false =>
          rw [if_neg (by simp)]
          have heq : ∀ i j, i < m → j < m → lt (Kp p i) (Kp p j) = false := fun i j hi hj => by
            have a1 := hm3 0 i (by (trace "OMEGA"; omega)) hi
            have a2 := hm3 j (m - 1) (by exact ar15 (by assumption)) (by exact ar4 (by assumption))
            exact O.tr _ _ _ (O.tr _ _ _ a2 hc) a1
          refine descPart_wp O hn H (rev_po hp 0 m) (by assumption) (dsc_more O (by assumption) (fun i j hij hj => ?_) ?_) hQ
          · rw [rev_at (by exact ar50 (by assumption) (by assumption) (by assumption)), rev_at (by exact ar50 (by assumption) (by assumption) (by assumption)), if_pos (by exact ar51 (by assumption) (by assumption)), if_pos (by (trace "OMEGA"; omega))]
            exact heq _ _ (by exact ar49 (by assumption) (by assumption)) (by exact ar48 (by assumption))
          · rw [rev_at (by exact ar50 (by assumption) (by assumption) (by assumption)), rev_at (by exact ar50 (by assumption) (by assumption) (by assumption)), if_pos (by exact ar54 (by assumption)), if_neg (by (trace "OMEGA"; omega))]
            exact O.tr _ _ _ (O.le_of_lt hlt) (heq _ _ (by exact ar55 (by assumption)) (by exact ar4 (by assumption)))
      · rw [if_neg h1]
        have e : m = 1 := by (trace "OMEGA"; omega)
        subst e
        refine descPart_wp O hn H hp (by assumption) (dsc_more O (by assumption) (fun i j hij hj => ?_) (O.le_of_lt hlt)) hQ
        have e : i = j := by (trace "OMEGA"; omega)
        subst e; exact O.rfl' _
theorem sort_wp (O : Ord lt) (hn : 0 < n) (H : Says cmp lt n s) {Q : Array Nat → Shared → Prop} (hQ : ∀ q, PO n q → Srt lt q n → Q q s) : (kas_sort n).kasWp cmp Q s := by
  unfold kas_sort
  rw [KasT.kasWp_bind]
  refine count_wp O hn H (PO.range n) fun m q hq hm1 hm2 hs => ?_
  dsimp only
  by_cases hmn : m < n
  · rw [if_pos hmn]
    have e : max m 1 = m := by first | exact Nat.max_eq_left hm1 | (trace "OMEGA"; omega)
    rw [e]
    exact bin_wp O hn H (n - m) q m _ hq (by first | exact Nat.le_of_eq (Nat.add_sub_cancel' hm2) | (trace "OMEGA"; omega)) hs fun r hr hrs => hQ r hr (by rw [Nat.add_sub_cancel' hm2] at hrs; exact hrs)
  · rw [if_neg hmn]
    have e : m = n := by first | exact Nat.le_antisymm hm2 (Nat.le_of_not_lt hmn) | (trace "OMEGA"; omega)
    subst e
    exact hQ q hq hs
end
end
/-! ## MSorted -/
section
open PySem PySem.W PySem.Calls PyProof.Rows
section
variable {prog : Program} {w : World} {A : Around} {E : Value → Shared → Prop} {s : Shared}
theorem sort_short {a : Addr} {vs : List Value} {n : Nat} {P : PySem.Fin → Shared → Prop} (h2 : vs.length < 2) (ho : s.heap.get? a = some (seqObj "list" vs.toArray n))
    (h : ∀ h' n', Heap.ExtBut a s.heap h' → h'.get? a = some (seqObj "list" vs.toArray n') → P (.done (.ret .none)) { s with heap := h' }) : wpAny (model prog w) A (Builtin.«list.sort» ⟨[.ref a], []⟩) P E s := by
  obtain ⟨e1, ho1⟩ : ∃ e1, (s.heap.update a (Obj.mapSeq fun _ => (#[] : Array Value))).get? a = some (seqObj "list" #[] e1) := ⟨_, get?_update_seq ho fun _ => #[]⟩
  have hs1 := Heap.SameBut.update s.heap a (Obj.mapSeq fun _ => (#[] : Array Value))
  rw [list_sort_plain]
  refine wpAny_bind (listItems_at ho rfl ?_)
  refine wpAny_bind (listUpdate_at ho rfl ?_ (by rw [List.size_toArray, sizeLine_eq]; omega) (Nat.zero_le _))
  refine wpAny_bind (seqEpoch_at ho1 rfl ?_)
  refine wpAny_bind (wpAny_newTuple ?_ (by show vs.length ≤ _; rw [sizeLine_eq]; omega))
  refine wpAny_bind (wpAny_newList ?_ (Nat.zero_le _))
  refine wpAny_holding ?_
  have hn2 : vs.toArray.size < 2 := by rw [List.size_toArray]; exact h2
  dsimp only
  rw [if_pos hn2, if_pos hn2]
  have ho2 : (((s.heap.update a (Obj.mapSeq fun _ => (#[] : Array Value))).push (seqObj "tuple" vs.toArray 0)).push (seqObj "list" #[] 0)).get? a = some (seqObj "list" #[] e1) := Heap.get?_push_of_some _ (Heap.get?_push_of_some _ ho1)
  refine wpAny_bind (wpAny_pure (wpAny_bind (wpAny_pure ?_)))
  dsimp only
  refine wpAny_bind (seqEpoch_at ho2 rfl ?_)
  have hout : (arrOf (SortSt.mk' general' (vs.toArray.zip vs.toArray) #[] 7 none)).map (·.2) = vs.toArray := by
    show (vs.toArray.zip vs.toArray).map (·.2) = vs.toArray
    apply Array.toList_inj.mp
    simp
    exact List.map_snd_zip (by simp)
  rw [hout]
  refine wpAny_bind (listUpdate_at ho2 rfl ?_ (Nat.zero_le _) (by rw [List.size_toArray, sizeLine_eq]; omega))
  simp only [bne_self_eq_false, Bool.false_eq_true, if_false]
  obtain ⟨c2, hc2⟩ : ∃ c2, ((((s.heap.update a (Obj.mapSeq fun _ => (#[] : Array Value))).push (seqObj "tuple" vs.toArray 0)).push (seqObj "list" #[] 0)).update a (Obj.mapSeq fun _ => vs.toArray)).get? a = some (seqObj "list" vs.toArray c2) := ⟨_, get?_update_seq ho2 fun _ => vs.toArray⟩
  refine wpAny_pure (h _ c2 (fun b o hb e => ?_) hc2)
  exact (Heap.SameBut.update ..).extBut b o hb (Heap.get?_push_of_some _ (Heap.get?_push_of_some _ (hs1.extBut b o hb e)))
theorem sorted_short {h₀ : Heap} {L l : Addr} {m : Str → Option Value} {news : Led} {vs : List Value} {Q : Value → Shared → Prop} (F : Fr h₀ L s.heap m) (N : News h₀ L s.heap news) (hl : s.heap.IsList l vs.toArray) (h2 : vs.length < 2)
    (h : ∀ D h' n', Fr h₀ L h' m → News h₀ L h' ((D, listOf vs.toArray n') :: news) → (∀ q ∈ news, q.1 < D) → Q (.ref D) { s with heap := h' }) : wpAny (model prog w) A (call (.builtin "sorted") [.ref l]) Q E s := by
  refine Calls.call_function_entry kind_sorted plain_sorted entry_sorted (args_sorted1 _) ?_
  unfold Builtin.«sorted»
  refine wpAny_bind (m := checkCount "sorted" 1 1 _) (wpAny_pure ?_)
  refine wpAny_bind (collect_list hl ?_ (by rw [sizeLine_eq]; omega))
  refine wpAny_bind (wpAny_newList ?_ (by rw [sizeLine_eq]; omega))
  have hsz : ((s.heap.push (seqObj "list" #[] 0)).update s.heap.objs.size (Obj.mapSeq (· ++ vs.toArray))).objs.size = s.heap.objs.size + 1 := by
    rw [Heap.size_update, size_push']
  have hoL : (((s.heap.push (seqObj "list" #[] 0)).update s.heap.objs.size (Obj.mapSeq (· ++ vs.toArray))).push (seqObj "list" vs.toArray 0)).get? (s.heap.objs.size + 1) = some (seqObj "list" vs.toArray 0) := by
    rw [← hsz]; exact Heap.get?_push_size _ rfl
  have keep : ∀ b o, s.heap.get? b = some o → (((s.heap.push (seqObj "list" #[] 0)).update s.heap.objs.size (Obj.mapSeq (· ++ vs.toArray))).push (seqObj "list" vs.toArray 0)).get? b = some o := fun b o q => by
    have hlt : b < s.heap.objs.size := Heap.lt_size q
    rw [Heap.get?_push_ne _ _ _ (by rw [hsz]; exact Nat.ne_of_lt (Nat.lt_succ_of_lt hlt)), Heap.get?_update_ne _ _ _ _ (Nat.ne_of_lt hlt), Heap.get?_push_ne _ _ _ (Nat.ne_of_lt hlt)]
    exact q
  have hL : L < s.heap.objs.size := F.ns.lt
  show wpAny _ _ _ _ _ { s with heap := ((s.heap.push (seqObj "list" #[] 0)).update s.heap.objs.size (Obj.mapSeq (· ++ vs.toArray))).push (seqObj "list" vs.toArray 0) }
  rw [hsz]
  refine wpAny_bind (wpAny_holding (wpAny_call_entry slot_list_sort ⟨_, hoL, rfl⟩ entry_list_sort (sort_short h2 hoL fun h' n' hx hD => ⟨_, rfl, wpAny_pure ⟨_, rfl, ?_⟩⟩) (args_list_sort _)))
  have n0 : h₀.get? (s.heap.objs.size + 1) = none := Heap.get?_none_of_le (Nat.le_trans F.above (Nat.le_succ_of_le (Nat.le_of_lt hL)))
  have nL : s.heap.objs.size + 1 ≠ L := Nat.ne_of_gt (Nat.lt_succ_of_lt hL)
  have old : ∀ b o, s.heap.get? b = some o → h'.get? b = some o := fun b o e => hx b o (Nat.ne_of_lt (Nat.lt_succ_of_lt (Heap.lt_size e))) (keep b o e)
  refine h _ h' n' (F.kept old) (fun p hp => ?_) fun q hq => Nat.lt_succ_of_lt (Heap.lt_size (N q hq).1)
  rcases List.mem_cons.mp hp with rfl | hp
  · exact ⟨hD, nL, n0⟩
  · exact ⟨old _ _ (N p hp).1, (N p hp).2⟩
/-- two pairs of the heap by the sort's own compare -/
theorem key_pairs {a b : Addr} {e1 p1 e2 p2 : Int} {t1 u1 t2 u2 : Tok} {n1 n2 : Nat} {C : Bool → Shared → Prop} (ha : s.heap.get? a = some (tupOf [.int e1 t1, .int p1 u1] n1)) (hb : s.heap.get? b = some (tupOf [.int e2 t2, .int p2 u2] n2)) (h : C (klt (e1, p1) (e2, p2)) s) :
    wpAny (model prog w) A (keyLt' (tuples' true) (.ref a) (.ref b)) C E s := by
  refine kat_lt ha rfl hb rfl ?_
  show KatLex prog w A true _ C [(Value.int e1 t1, Value.int e2 t2), (Value.int p1 u1, Value.int p2 u2)] 0 s
  refine kat_cons (wpAny_eqBool_int ?_)
  unfold klt at h
  dsimp only at h
  by_cases he : e1 = e2
  · rw [show (e1 == e2) = true by simp [he]]
    rw [if_pos he] at h
    refine kat_yes (kat_cons (wpAny_eqBool_int ?_))
    by_cases hp : p1 = p2
    · rw [show (p1 == p2) = true by simp [hp]]
      refine kat_yes (kat_nil ?_)
      rw [show decide (p1 < p2) = false by simp [hp]] at h
      exact h
    · rw [show (p1 == p2) = false by simp [hp]]
      refine kat_no ?_
      show wpAny _ _ (oneLt' false _ _) _ _ _
      exact kat_one _ _ (wpAny_lt_int h)
  · rw [show (e1 == e2) = false by simp [he]]
    rw [if_neg he] at h
    refine kat_no ?_
    show wpAny _ _ (oneLt' true _ _) _ _ _
    exact oneLt_int h
theorem pairs_tups {h₀ h : Heap} {L : Addr} {tl : Led} (N : News h₀ L h tl) : ∀ {vs : List Value} {ks : List (Int × Int)}, All2 (RepP tl) vs ks → ∃ fs, KatTups h vs fs ∧ fs.length = vs.length ∧ ∀ f ∈ fs, ∃ i t, f = Value.int i t
  | [], [], _ => ⟨[], KatTups.nil, rfl, fun _ h => nomatch h⟩
  | v :: vs, k :: ks, hx => by
    obtain ⟨fs, h1, h2, h3⟩ := pairs_tups N (vs := vs) (ks := ks) hx.2
    obtain ⟨a, t, u, n, rfl, hm⟩ := hx.1
    exact ⟨.int k.1 t :: fs, KatTups.cons (N _ hm).1 rfl rfl rfl h1, by simp [h2], List.forall_mem_cons.mpr ⟨⟨_, _, rfl⟩, h3⟩⟩
  | [], _ :: _, hx => hx.elim
  | _ :: _, [], hx => hx.elim
theorem pick_all {tl : Led} {vs : List Value} {ks : List (Int × Int)} (hx : All2 (RepP tl) vs ks) (d : Int × Int) : ∀ (l : List Nat), (∀ i ∈ l, i < vs.length) → All2 (RepP tl) (l.map fun i => vs.getD i Value.none) (l.map fun i => ks.getD i d)
  | [], _ => trivial
  | i :: l, h => by
    have hi := h i (by simp)
    obtain ⟨k, hk, r⟩ := hx.get (List.getElem?_eq_getElem hi)
    refine ⟨?_, pick_all hx d l fun j hj => h j (by simp [hj])⟩
    have e1 : vs.getD i Value.none = vs[i] := by simp [hi]
    have e2 : ks.getD i d = k := by rw [List.getD_eq_getElem?_getD, hk]; rfl
    show RepP tl (vs.getD i Value.none) (ks.getD i d)
    rw [e1, e2]
    exact r
theorem pick_range {α : Type} (ks : List α) (d : α) : (List.range ks.length).map (fun i => ks.getD i d) = ks := by
  apply List.ext_getElem?
  intro i
  rw [List.getElem?_map]
  by_cases hi : i < ks.length
  · rw [List.getElem?_range hi, List.getElem?_eq_getElem hi]
    simp [hi]
  · rw [List.getElem?_eq_none (by simpa using hi), List.getElem?_eq_none (by omega)]
    rfl
/-- sorted() of a list of pairs -/
theorem sorted_pairs {h₀ : Heap} {L l : Addr} {m : Str → Option Value} {news tl : Led} {vs : List Value} {ks : List (Int × Int)} {kn : Nat} {Q : Value → Shared → Prop} (F : Fr h₀ L s.heap m) (N : News h₀ L s.heap news) (hm : (l, listOf vs.toArray kn) ∈ news) (hs : ∀ p ∈ tl, p ∈ news) (hx : All2 (RepP tl) vs ks) (h64 : vs.length < 64)
    (h : ∀ D out ks' h' n' tk, All2 (RepP tl) out ks' → ks'.Perm ks → (ks'.Pairwise fun a b => klt b a = false) → Fr h₀ L h' m → News h₀ L h' ((D, listOf out.toArray n') :: news) → (∀ q ∈ news, q.1 < D) → Q (.ref D) { s with heap := h', toks := tk }) : wpAny (model prog w) A (call (.builtin "sorted") [.ref l]) Q E s := by
  have hl : s.heap.IsList l vs.toArray := ⟨_, (N _ hm).1, rfl, kn, rfl⟩
  have hkl := hx.length
  by_cases h2 : vs.length < 2
  · refine sorted_short F N hl h2 fun D h' n' F' N' hD => h D vs ks h' n' s.toks hx (.refl _) ?_ F' N' hD
    rw [hkl] at h2
    match ks, h2 with
    | [], _ => exact .nil
    | [_], _ => simp
    | _ :: _ :: _, h2 => exact absurd h2 (by simp)
  · refine kat_sorted F N hl (by omega) h64 fun D e1 h' F' N' hD => ?_
    have NT : News h₀ L h' tl := fun p hp => N' p (.tail _ (hs p hp))
    obtain ⟨fs, t1, t2, t3⟩ := pairs_tups NT hx
    refine kat_kind (T := .type "int") t1 (by omega) (fun v hv => ?_) (by decide) ?_
    · obtain ⟨i, t, rfl⟩ := t3 v hv
      exact Looks.of_pure rfl
    · show (kas_sort vs.length).kasWp (kas_ask prog w A.in1.in1 (tuples' true) vs) _ _
      let lt : Nat → Nat → Bool := fun i j => klt (ks.getD i (0, 0)) (ks.getD j (0, 0))
      have O : Ord lt := ⟨fun a b c => klt_ord.tr _ _ _, fun a b => klt_ord.tot _ _⟩
      refine sort_wp (lt := lt) O (by omega) ?_ fun p hp hsrt => ?_
      · intro i j C hi hj hC
        obtain ⟨k1, e1', a, q1, q2, q3, r1, m1⟩ := hx.get (List.getElem?_eq_getElem hi)
        obtain ⟨k2, e2', b, q4, q5, q6, r2, m2⟩ := hx.get (List.getElem?_eq_getElem hj)
        have g1 : vs.getD i Value.none = .ref a := by rw [← r1]; simp [hi]
        have g2 : vs.getD j Value.none = .ref b := by rw [← r2]; simp [hj]
        have g3 : ks.getD i (0, 0) = k1 := by rw [List.getD_eq_getElem?_getD, e1']; rfl
        have g4 : ks.getD j (0, 0) = k2 := by rw [List.getD_eq_getElem?_getD, e2']; rfl
        show wpAny _ _ (keyLt' _ (vs.getD i Value.none) (vs.getD j Value.none)) _ _ _
        rw [g1, g2]
        refine key_pairs (NT _ m1).1 (NT _ m2).1 ?_
        have : lt i j = klt (k1.1, k1.2) (k2.1, k2.2) := by show klt (ks.getD i (0, 0)) (ks.getD j (0, 0)) = _; rw [g3, g4]
        rw [← this]
        exact hC
      · have hz := hp.size
        have hin : ∀ i ∈ p.toList, i < vs.length := fun i hi => List.mem_range.mp (hp.perm.mem_iff.mp hi)
        have key : ∀ i, i < p.toList.length → Kp p i = p.toList.getD i 0 := fun i hi => by rw [Kp_eq, List.getD_eq_getElem?_getD]; simp
        refine KasFin.intro F' N' (.head fun q hq => Nat.ne_of_lt (hD q hq)) fun h'' c F'' N'' => ?_
        refine h D _ (p.toList.map fun i => ks.getD i (0, 0)) h'' c _ (pick_all hx _ p.toList hin) ?_ ?_ F'' N'' hD
        · have e := hp.perm.map (fun i => ks.getD i (0, 0))
          rw [hkl, pick_range] at e
          exact e
        · rw [List.pairwise_map]
          rw [List.pairwise_iff_getElem]
          intro i j hi hj hij
          have e := hsrt i j (by omega) (by simp at hj; omega)
          rw [key i hi, key j hj] at e
          have e1 : p.toList.getD i 0 = p.toList[i] := by simp at hi; simp [hi]
          have e2 : p.toList.getD j 0 = p.toList[j] := by simp at hj; simp [hj]
          rw [e1, e2] at e
          exact e
end
end
/-! ## MBody -/
section
open PySem PySem.W PyProof.Rows PyProof.Rows.LCg PyProof.Rows.LCt
set_option maxRecDepth 100000
theorem fill10 : PySem.Challenge.rw_mr0107_01 = PySem.Challenge.rw_mr0107_01 ∧ hd.heap_39 = hd.heap_39 := by
  k_fill
  w_top off
  exact ⟨rfl, rfl⟩
theorem ints_all : ∀ {vs : List Value} {ns : List Int}, IntsAre vs ns → All2 RepI vs ns
  | _, _, .nil => trivial
  | _, _, .cons n t r => ⟨⟨t, rfl⟩, ints_all r⟩
theorem ints_are : ∀ {vs : List Value} {ns : List Int}, All2 RepI vs ns → IntsAre vs ns
  | [], [], _ => .nil
  | v :: vs, n :: ns, h => by
    obtain ⟨t, rfl⟩ := h.1
    exact .cons n t (ints_are (vs := vs) (ns := ns) h.2)
  | [], _ :: _, h => h.elim
  | _ :: _, [], h => h.elim
theorem ilt_anti {a b : Int} (h : ilt a b = false) (h' : ilt b a = false) : a = b := by
  have e1 := ilt_le h
  have e2 := ilt_le h'
  omega
theorem ports_ilt (first : Int) (i : Nat) : (ports first i).Pairwise fun a b => ilt b a = false :=
  (ports_sorted first i).imp fun {a b} h => by unfold ilt; simp only [decide_eq_false_iff_not]; omega
theorem sel5 {α : Type} {a1 a2 a3 a4 a5 nums b1 b2 c1 c2 c3 pe : α} (h : pe ∈ [a1, a2, a3, a4, a5, nums, b1, b2, c1, c2, c3]) : ∀ p ∈ [nums, pe, c1, c2, c3], p ∈ [a1, a2, a3, a4, a5, nums, b1, b2, c1, c2, c3] :=
  List.forall_mem_cons.mpr ⟨.tail _ (.tail _ (.tail _ (.tail _ (.tail _ (.head _))))), List.forall_mem_cons.mpr ⟨h, List.forall_mem_cons.mpr ⟨.tail _ (.tail _ (.tail _ (.tail _ (.tail _ (.tail _ (.tail _ (.tail _ (.head _)))))))), List.forall_mem_cons.mpr ⟨.tail _ (.tail _ (.tail _ (.tail _ (.tail _ (.tail _ (.tail _ (.tail _ (.tail _ (.head _))))))))), List.forall_mem_cons.mpr ⟨.tail _ (.tail _ (.tail _ (.tail _ (.tail _ (.tail _ (.tail _ (.tail _ (.tail _ (.tail _ (.head _)))))))))), List.forall_mem_nil _⟩⟩⟩⟩⟩
def offC (L : Nat) (p : Addr × Obj) : Bool := decide (@Ne Nat p.1 (L + 1 + 1 + 1)) && decide (@Ne Nat p.1 (L + 1 + 1)) && decide (@Ne Nat p.1 (L + 1))
theorem keep_tup {g h : Heap} {L : Addr} {tl : Led} {o1 o2 o3 : Obj} (N : News g L h tl) (h1 : (L + 1 + 1 + 1, o1) ∈ tl) (h2 : (L + 1 + 1, o2) ∈ tl) (h3 : (L + 1, o3) ∈ tl) (d1 : ∃ v, o1.data = .cell v) (d2 : ∃ v, o2.data = .cell v) (d3 : ∃ v, o3.data = .cell v) :
    ∀ (a : Addr) (vs : List Value) (n : Nat), (a, tupOf vs n) ∈ tl → (a, tupOf vs n) ∈ tl.filter (offC L) := by
  intro a vs n hm
  have key : ∀ (b : Addr) (o : Obj), (b, o) ∈ tl → (∃ v, o.data = .cell v) → a ≠ b := by
    rintro b o hb ⟨v, hv⟩ rfl
    have e1 := (N _ hm).1
    have e2 := (N _ hb).1
    dsimp only at e1 e2
    rw [e1] at e2
    have e3 := Option.some.inj e2
    rw [← e3] at hv
    cases hv
  refine List.mem_filter.mpr ⟨hm, ?_⟩
  have k1 : @Ne Nat a (L + 1 + 1 + 1) := key _ _ h1 d1
  have k2 : @Ne Nat a (L + 1 + 1) := key _ _ h2 d2
  have k3 : @Ne Nat a (L + 1) := key _ _ h3 d3
  simp [offC, k1, k2, k3]
theorem sub_led {t f r w c1 c2 c3 : Addr × Obj} {tl tl' : Led} (h1 : c1 ∈ tl) (h2 : c2 ∈ tl) (h3 : c3 ∈ tl) (hs : ∀ p ∈ tl', p ∈ tl) : ∀ p ∈ t :: f :: r :: w :: c1 :: c2 :: c3 :: tl', p ∈ t :: f :: r :: w :: tl :=
  List.forall_mem_cons.mpr ⟨.head _, List.forall_mem_cons.mpr ⟨.tail _ (.head _), List.forall_mem_cons.mpr ⟨.tail _ (.tail _ (.head _)), List.forall_mem_cons.mpr ⟨.tail _ (.tail _ (.tail _ (.head _))), List.forall_mem_cons.mpr ⟨.tail _ (.tail _ (.tail _ (.tail _ (h1)))), List.forall_mem_cons.mpr ⟨.tail _ (.tail _ (.tail _ (.tail _ (h2)))), List.forall_mem_cons.mpr ⟨.tail _ (.tail _ (.tail _ (.tail _ (h3)))), fun p hp => .tail _ (.tail _ (.tail _ (.tail _ (hs p hp))))⟩⟩⟩⟩⟩⟩⟩
theorem told_led {d t f r w c1 c2 c3 : Addr × Obj} {l tl : Led} : ∀ p ∈ d :: f :: r :: w :: c1 :: c2 :: c3 :: (l ++ tl), p ∈ d :: (l ++ (t :: f :: r :: w :: c1 :: c2 :: c3 :: tl)) :=
  List.forall_mem_cons.mpr ⟨.head _, List.forall_mem_cons.mpr ⟨.tail _ (List.mem_append_right _ (.tail _ (.head _))), List.forall_mem_cons.mpr ⟨.tail _ (List.mem_append_right _ (.tail _ (.tail _ (.head _)))), List.forall_mem_cons.mpr ⟨.tail _ (List.mem_append_right _ (.tail _ (.tail _ (.tail _ (.head _))))), List.forall_mem_cons.mpr ⟨.tail _ (List.mem_append_right _ (.tail _ (.tail _ (.tail _ (.tail _ (.head _)))))), List.forall_mem_cons.mpr ⟨.tail _ (List.mem_append_right _ (.tail _ (.tail _ (.tail _ (.tail _ (.tail _ (.head _))))))), List.forall_mem_cons.mpr ⟨.tail _ (List.mem_append_right _ (.tail _ (.tail _ (.tail _ (.tail _ (.tail _ (.tail _ (.head _)))))))), fun p hp => .tail _ ((List.mem_append.mp hp).elim (fun q => List.mem_append_left _ q) fun q => List.mem_append_right _ (.tail _ (.tail _ (.tail _ (.tail _ (.tail _ (.tail _ (.tail _ (q)))))))))⟩⟩⟩⟩⟩⟩⟩
theorem rot3 {α : Type} {a b c t : α} {l : List α} : ∀ p ∈ a :: b :: c :: t :: l, p ∈ t :: a :: b :: c :: l :=
  List.forall_mem_cons.mpr ⟨.tail _ (.head _), List.forall_mem_cons.mpr ⟨.tail _ (.tail _ (.head _)), List.forall_mem_cons.mpr ⟨.tail _ (.tail _ (.tail _ (.head _))), List.forall_mem_cons.mpr ⟨.head _, fun p hp => .tail _ (.tail _ (.tail _ (.tail _ (hp))))⟩⟩⟩⟩
structure Opq (P : Prop) : Prop where
  it : P
theorem opq {α : Type} {M : Model} {A : Around} {t : Sem α} {Q : α → Shared → Prop} {E : Value → Shared → Prop} {s : Shared} (h : wpAny M A t (fun v s => Opq (Q v s)) E s) : wpAny M A t Q E s := wpAny_mono h (fun _ _ q => q.it) fun _ _ x => x
theorem drop_two {α : Type} {q d f r w c1 c2 c3 : α} {l : List α} : ∀ p ∈ q :: d :: f :: c1 :: c2 :: c3 :: l, p ∈ q :: d :: f :: r :: w :: c1 :: c2 :: c3 :: l :=
  List.forall_mem_cons.mpr ⟨.head _, List.forall_mem_cons.mpr ⟨.tail _ (.head _), List.forall_mem_cons.mpr ⟨.tail _ (.tail _ (.head _)), List.forall_mem_cons.mpr ⟨.tail _ (.tail _ (.tail _ (.tail _ (.tail _ (.head _))))), List.forall_mem_cons.mpr ⟨.tail _ (.tail _ (.tail _ (.tail _ (.tail _ (.tail _ (.head _)))))), List.forall_mem_cons.mpr ⟨.tail _ (.tail _ (.tail _ (.tail _ (.tail _ (.tail _ (.tail _ (.head _))))))), fun p hp => .tail _ (.tail _ (.tail _ (.tail _ (.tail _ (.tail _ (.tail _ (.tail _ (hp))))))))⟩⟩⟩⟩⟩⟩
theorem drop_some {α : Type} {e d q x f c1 c2 c3 : α} {l : List α} : ∀ p ∈ q :: f :: c1 :: c2 :: c3 :: l, p ∈ e :: d :: q :: x :: f :: c1 :: c2 :: c3 :: l :=
  List.forall_mem_cons.mpr ⟨.tail _ (.tail _ (.head _)), List.forall_mem_cons.mpr ⟨.tail _ (.tail _ (.tail _ (.tail _ (.head _)))), List.forall_mem_cons.mpr ⟨.tail _ (.tail _ (.tail _ (.tail _ (.tail _ (.head _))))), List.forall_mem_cons.mpr ⟨.tail _ (.tail _ (.tail _ (.tail _ (.tail _ (.tail _ (.head _)))))), List.forall_mem_cons.mpr ⟨.tail _ (.tail _ (.tail _ (.tail _ (.tail _ (.tail _ (.tail _ (.head _))))))), fun p hp => .tail _ (.tail _ (.tail _ (.tail _ (.tail _ (.tail _ (.tail _ (.tail _ (hp))))))))⟩⟩⟩⟩⟩
theorem run_yes {due : List (Int × Int)} {h : Int} {i : Nat} {k : Int × Int} (hk : due[i]? = some k) (hl : h < k.1) : (due.take (i + 1)).filter (fun x => decide (h < x.1)) = (due.take i).filter (fun x => decide (h < x.1)) ++ [k] := by
  rw [List.take_add_one, hk]
  simp [List.filter_append, hl]
theorem run_no {due : List (Int × Int)} {h : Int} {i : Nat} {k : Int × Int} (hk : due[i]? = some k) (hl : ¬ h < k.1) : (due.take (i + 1)).filter (fun x => decide (h < x.1)) = (due.take i).filter (fun x => decide (h < x.1)) := by
  rw [List.take_add_one, hk]
  simp [List.filter_append, hl]
theorem sc1 {rs run out fr : Nat} (h : rs = run) (h2 : out + run = fr) (h3 : fr ≤ 17) : rs ≤ 17 := by
  rw [h]
  exact Nat.le_trans (Nat.le_add_left _ _) (h2 ▸ h3)
theorem sc2 {i n m o r : Nat} (h1 : i < n) (h2 : n = m) (h3 : o = i) (h4 : o + r = m) (h5 : r = 0) : False := by
  subst h5; subst h3; subst h2
  exact Nat.ne_of_lt h1 h4
theorem sc3 {n m o r : Nat} (h3 : o = n) (h2 : n = m) (h4 : o + r = m) : r = 0 := by
  subst h2; subst h3
  exact Nat.add_left_cancel h4
theorem sc4 {fs fr cf te e : Nat} (h : fs = fr) (h2 : fr = cf + te) (h3 : te ≤ e) (hc : cf ≤ 17) (he : e ≤ 17) : fs ≤ 34 := by
  rw [h, h2]
  exact Nat.add_le_add hc (Nat.le_trans h3 he)
theorem small_from {a : Int} {n : Nat} (h0 : 0 ≤ a) (h1 : a < 60000) (h : n ≤ 1000) : Builtin.Range.small a (a + (n : Int)) 1 = true ∧ Builtin.Range.rangeSize a (a + (n : Int)) 1 = (n : Int) := by
  have e : Builtin.Range.rangeSize a (a + (n : Int)) 1 = (n : Int) := by
    unfold Builtin.Range.rangeSize
    split
    · split <;> omega
    · omega
  exact ⟨small_one (by omega) (by omega) (by omega) (by omega), e⟩
/-- a peer of the table -/
structure PeerOk (d : Addr) (host : Str) (t : Tok) (pr : List Value) (n : Nat) (news : Led) : Prop where
  mem : (d, tupOf (.str host t :: pr) n) ∈ news
  len : pr.length ≤ 10
  hlen : host.length ≤ 100
  ok : PyData.strOk host = true
theorem tabPeer {w : World} {A : Around} {E : Value → Shared → Prop} {s : Shared} {h₀ : Heap} {L D : Addr} {news : Led} {n : Nat} {value slice : PySem.Expr} {r : Int} {u : Tok} {d1 d2 d3 : Addr} {x1 x2 x3 : Str} {t1 t2 t3 : Tok} {p1 p2 p3 : List Value} {n1 n2 n3 : Nat} {Q : Value → Shared → Prop} (N : News h₀ L s.heap news) (hm : (D, listOf [Value.ref d1, .ref d2, .ref d3].toArray n) ∈ news)
    (h1 : PeerOk d1 x1 t1 p1 n1 news) (h2 : PeerOk d2 x2 t2 p2 n2 news) (h3 : PeerOk d3 x3 t3 p3 n3 news)
    (h : ∀ d host t pr n, PeerOk d host t pr n news → (d = d1 ∨ d = d2 ∨ d = d3) → Q (.ref d) s)
    (hs : subscripted slice false (.ref D) (.int (r.fmod 3) u) = operate [.ref D, .int (r.fmod 3) u] (getItem (.ref D) (.int (r.fmod 3) u)) := by with_unfolding_all rfl) :
    wpAny (model PR w) A (halt (subscriptTail value slice (.ref D) (.int (r.fmod 3) u))) Q E s := by
  have hx : Ex5 fun d host t pr n => Al3 ([Value.ref d1, .ref d2, .ref d3][(r.fmod 3).toNat]? = some (.ref d)) (PeerOk d host t pr n news) ((d = d1 ∨ d = d2 ∨ d = d3)) := by
    rcases fmod3 r with e | e | e
    · exact ⟨d1, _, _, _, _, by rw [e]; rfl, h1, .inl rfl⟩
    · exact ⟨d2, _, _, _, _, by rw [e]; rfl, h2, .inr (.inl rfl)⟩
    · exact ⟨d3, _, _, _, _, by rw [e]; rfl, h3, .inr (.inr rfl)⟩
  obtain ⟨d, host, t, pr, n', hx, hm', hd'⟩ := hx
  exact go (kba_turn (value' := PySem.Expr.Name (PySem.Str.ofString "_") ⟨0, 0, 0, 0⟩) (fun _ => rfl) (m_item (pos := (r.fmod 3).toNat) N hm (Int.toNat_of_nonneg (Int.fmod_nonneg_of_pos _ (by decide))).symm (by simp) hx (h d host t pr n' hm' hd') hs (fun _ => rfl)))
set_option maxHeartbeats 8000000 in
theorem body_try : PySem.Challenge.rw_mr0107_01.Holds := hd (by
  k_fill
  intro w s₀ s₁ mg mb G Y fa o pm cd doc dV kV ho hd hcd hD hmg hg args vals as hpre hlay hrd hwl hlo
  have KX := kIn_of Y
  have X := (Ground.X G).1
  have V := (Ground.X G).2
  refine Ground.open G ?_
  intro T B D TE TW
  wrow_args hpre hlay hrd hwl hlo
  rename_i ns hs hlay0 hL hr hl2 as1 as2 sl vs as3 hLs ra w1 r0 hI hr2 hc1 hc2
  refine enterC ?_
  have he := Dflts.none hD rfl
  subst he
  have he := Dflts.noKw hD
  subst he
  refine codeC_cells (by decide) ho (fd_plain hd) (Top.nolimit T) hcd rfl (kinds_of (by kinds_ok)) (by decide) fun h₁ tk₁ cells F N0 X0 => ?_
  obtain ⟨o1, o2, o3, rfl, d1, d2, d3⟩ := X0.three
  clear X0 hd hD hmg
  generalize hLL : s₁.heap.objs.size = L at *
  dsimp only at F hcd ⊢
  refine hideC ?_
  intro QB hQB
  rw [execs_split 2]
  simp only [List.take_succ_cons, List.take_zero, List.drop_succ_cons, List.drop_zero]
  refine cutC (fun s' => Ex13 fun (h : Heap) (tk : Nat) (u : Str → Option Value) (nl pa : Addr) (nvs : List Value) (nk : Nat) (numbers : List Int) (tf t2 : Tok) (host : Str) (pr : List Value) (pn : Nat) => Al10 (s' = { s₁ with heap := h, toks := tk }) (Fr s₁.heap L h (kstB u [(Str.ofString "numbers", .ref nl), (Str.ofString "first", .int (ns.sum.fmod 60000) tf), (Str.ofString "peer", .ref pa)])) (News s₁.heap L h [(nl, listOf nvs.toArray nk), (pa, tupOf (.str host t2 :: pr) pn), (L + 1 + 1 + 1, o1), (L + 1 + 1, o2), (L + 1, o3)]) (All2 RepI nvs numbers) (numbers.length ≤ 17) (pr.length ≤ 10) (host.length ≤ 100) (PyData.strOk host = true) ((@LT.lt Nat _ (L + 1 + 1 + 1) nl)) ((@LT.lt Nat _ (L + 1 + 1 + 1) pa))) ?_ ?_
  · intro Q' hQ
    k_steps
    rename Fr _ _ _ _ => lF
    rename News _ _ _ _ => lN
    refine tabPeer lN (.head _) ⟨by k_mem, by simp, by decide +kernel, by decide +kernel⟩ ⟨by k_mem, by simp, by decide +kernel, by decide +kernel⟩ ⟨by k_mem, by simp, by decide +kernel, by decide +kernel⟩ ?_
    intro d host t pr n hpo hd'
    dsimp only
    have hp1 := hpo.mem
    k_steps
    rename Fr _ _ _ _ => zF
    rename News _ _ _ _ => zN
    rename IntsAre _ (_ ++ _) => hI'
    refine hQ _ ⟨_, _, _, _, d, _, _, _, _, t, host, pr, n, rfl, fr_kst zF _ (all3 rfl rfl rfl), kst_newsOf zN (sel5 hp1), ints_all hI', ?_, hpo.len, hpo.hlen, hpo.ok, ?_, ?_⟩
    · rw [List.length_append, List.length_take]
      simp
      omega
    · omega
    · rcases hd' with rfl | rfl | rfl <;> omega
  · have hfirst0 : 0 ≤ ns.sum.fmod 60000 := Int.fmod_nonneg_of_pos _ (by omega)
    have hfirst1 : ns.sum.fmod 60000 < 60000 := Int.fmod_lt_of_pos _ (by omega)
    generalize ns.sum.fmod 60000 = first at hfirst0 hfirst1 ⊢
    refine fun _ qa => Ex13.elim qa fun h2 tk2 u2 nl pa nvs nk numbers tf t2 host pr pn qb => Al10.elim qb fun e F2 N2 hnum hnl hpr hhl hho q1 q2 => ?_
    clear qa qb
    subst e
    have B0 := below_caller s₁.heap
    refine wpC_execs_cons (wpC_Assign_Name (wpC_Call (wpC_any ?_)))
    k_steps
    refine wpC_callWith_K (by assumption) (by k_dflt k_is) ?_
    k_steps
    k_dflt refine served_ctr w _ mg mb _ nl nvs nk numbers first tf host t2 pa pr pn (.head _) hnum (by first | exact Nat.le_trans hnl (by decide) | (trace "OMEGA 176"; omega)) hfirst0 hfirst1 hpr (.tail _ (.head _)) hhl hho _ _ _ _ _ _ _ _ _ _ _ _ _ _ _ _ _ B0 (by k_asm) KX (by k_asm) T rfl KX T (fun b hb => nomatch hb) (by ktr_room) (by ktr_units) ?_
    rintro ⟨T4, c⟩ h3 tk3 ⟨hok, hT4⟩ ⟨g2, hT2, F3, N3, B3, X3, T3, D3⟩
    dsimp only at hok hT4 F3 N3 ⊢
    have hc1 : (L + 1 + 1 + 1, o1) ∈ c.tl := hok.sub _ (.tail _ (.tail _ (.head _)))
    have hc2' : (L + 1 + 1, o2) ∈ c.tl := hok.sub _ (.tail _ (.tail _ (.tail _ (.head _))))
    have hc3 : (L + 1, o3) ∈ c.tl := hok.sub _ (.tail _ (.tail _ (.tail _ (.tail _ (.head _)))))
    have hnl' : (nl, listOf nvs.toArray nk) ∈ c.tl := hok.sub _ (.head _)
    have NT : News g2 L h3 c.tl := kst_newsOf N3 fun p hp => .tail _ (.tail _ (.tail _ (.tail _ hp)))
    obtain ⟨tl, htl⟩ : ∃ tl, tl = c.tl.filter (offC L) := ⟨_, rfl⟩
    have hsub : ∀ p ∈ tl, p ∈ c.tl := fun p hp => by rw [htl] at hp; exact (List.mem_filter.mp hp).1
    have hoff : ∀ p ∈ tl, p.1 ≠ L + 1 + 1 + 1 ∧ p.1 ≠ L + 1 + 1 ∧ p.1 ≠ L + 1 := fun p hp => by
      rw [htl] at hp
      have := (List.mem_filter.mp hp).2
      simp [offC] at this
      exact ⟨this.1.1, this.1.2, this.2⟩
    have hk1 := htl ▸ keep_tup NT hc1 hc2' hc3 ⟨_, d1⟩ ⟨_, d2⟩ ⟨_, d3⟩
    have hrs : All2 (RepP tl) c.rs c.running := hok.rs.imp fun v k r => by
      obtain ⟨a, t, u, n, e, hm⟩ := r
      exact ⟨a, t, u, n, e, hk1 a _ _ hm⟩
    have hws : All2 (RepT tl) c.ws c.row := hok.ws.imp fun v k r => by
      obtain ⟨a, t, u, x, n, e, hm⟩ := r
      exact ⟨a, t, u, x, n, e, hk1 a _ _ hm⟩
    have hnm : (nl, listOf nvs.toArray nk) ∈ tl := by
      rw [htl]
      refine List.mem_filter.mpr ⟨hnl', ?_⟩
      simp [offC]
      omega
    have N4 := kst_newsOf N3 (l' := (T4, tupOf [Value.ref c.Df, Value.ref c.Dr, Value.ref c.Dw, Value.int c.hour c.th] 0) :: (c.Df, listOf c.fs.toArray c.nf) :: (c.Dr, listOf c.rs.toArray c.nr) :: (c.Dw, listOf c.ws.toArray c.nw) :: (L + 1 + 1 + 1, o1) :: (L + 1 + 1, o2) :: (L + 1, o3) :: tl) (sub_led hc1 hc2' hc3 hsub)
    have e1 := hok.off _ hc1
    have e2 := hok.off _ hc2'
    have e3 := hok.off _ hc3
    have f1 : @Ne Nat (L + 1 + 1 + 1) c.Df := e1.1
    have f1r : @Ne Nat (L + 1 + 1 + 1) c.Dr := e1.2.1
    have f1w : @Ne Nat (L + 1 + 1 + 1) c.Dw := e1.2.2
    have f2 : @Ne Nat (L + 1 + 1) c.Df := e2.1
    have f2r : @Ne Nat (L + 1 + 1) c.Dr := e2.2.1
    have f2w : @Ne Nat (L + 1 + 1) c.Dw := e2.2.2
    have f3 : @Ne Nat (L + 1) c.Df := e3.1
    have f3r : @Ne Nat (L + 1) c.Dr := e3.2.1
    have f3w : @Ne Nat (L + 1) c.Dw := e3.2.2
    have f4 : @Ne Nat (L + 1 + 1 + 1) T4 := hT4 _ (.tail _ (.tail _ (.tail _ hc1)))
    have f5 : @Ne Nat (L + 1 + 1) T4 := hT4 _ (.tail _ (.tail _ (.tail _ hc2')))
    have f6 : @Ne Nat (L + 1) T4 := hT4 _ (.tail _ (.tail _ (.tail _ hc3)))
    have g1 : ∀ p ∈ tl, p.1 ≠ L + 1 + 1 + 1 := fun p hp => (hoff p hp).1
    have g3 : ∀ p ∈ tl, p.1 ≠ L + 1 + 1 := fun p hp => (hoff p hp).2.1
    have g4 : ∀ p ∈ tl, p.1 ≠ L + 1 := fun p hp => (hoff p hp).2.2
    clear N3 NT hk1 htl
    (try clear F2); (try clear N2)
    have hrl := hws.length
    have hil := hok.inv.len
    refine wpC_any ?_
    k_steps
    refine wpC_any ?_
    rw [execs_split 3]
    simp only [List.take_succ_cons, List.take_zero, List.drop_succ_cons, List.drop_zero]
    refine cutA (fun s' => Ex10 fun (h : Heap) (tk : Nat) (u : Str → Option Value) (p1 p2 p3 : Obj) (Dd : Addr) (ds : List Value) (nd : Nat) (dtl : Led) => Al13 (s' = { s₁ with heap := h, toks := tk }) (Fr g2 L h (kstB u [(Str.ofString "numbers", .ref nl), (Str.ofString "first", .int first tf), (Str.ofString "row", .ref c.Dw), (Str.ofString "due", .ref Dd)])) (News g2 L h ((Dd, listOf ds.toArray nd) :: (c.Df, listOf c.fs.toArray c.nf) :: (c.Dr, listOf c.rs.toArray c.nr) :: (c.Dw, listOf c.ws.toArray c.nw) :: (L + 1 + 1 + 1, p1) :: (L + 1 + 1, p2) :: (L + 1, p3) :: (dtl ++ tl))) (p1.data = .cell (some (.int c.hour c.th))) (p2.data = .cell (some (.ref c.Dr))) (p3.data = .cell (some (.ref c.Df))) (All2 (RepP dtl) ds (c.row.map endPort)) ((∀ p ∈ dtl, Dd < p.1)) ((@LT.lt Nat _ c.Df Dd)) ((@LT.lt Nat _ c.Dr Dd)) ((@LT.lt Nat _ c.Dw Dd)) ((@LT.lt Nat _ (L + 1 + 1 + 1) Dd)) (∀ p ∈ tl, p.1 < Dd)) ?_ ?_
    · intro Q' hQ
      k_steps
      rename_i hA oA dA hB oB dB hC hD oC FC NC dC
      refine go ?_
      k_dflt refine told_ctr w _ mg mb _ tl c.Dw c.ws c.nw c.row first tf (.tail _ (.tail _ (.tail _ (.head _)))) (fun p hp => .tail _ (.tail _ (.tail _ (.tail _ (.tail _ (.tail _ (.tail _ hp))))))) hws (by first | exact Nat.le_trans hil (Nat.le_trans hnl (by decide)) | (trace "OMEGA 236"; omega)) _ _ _ _ _ _ _ _ _ _ _ _ _ _ _ _ _ B3 FC X3 NC T3 rfl (by ktr_room) (by ktr_units) ?_
      rintro ⟨Dd, ds, nd, dtl, due⟩ h5 tk5 ⟨ht, hds, hlt, hfar⟩ F5 N5
      dsimp only at ht hds hlt hfar F5 N5 ⊢
      have hdue : due = c.row.map endPort := Told.unique _ rfl ht hok.inv.told
      rw [hdue] at hds
      k_steps
      rename Fr _ _ _ _ => zF
      rename News _ _ _ _ => zN
      exact hQ _ ⟨_, _, _, oC, oB, oA, Dd, ds, nd, dtl, rfl, fr_kst zF _ (List.forall_mem_cons.mpr ⟨rfl, all3 rfl rfl rfl⟩), kst_newsOf zN told_led, dC, dB, dA, hds, hfar, hlt _ (.tail _ (.head _)), hlt _ (.tail _ (.tail _ (.head _))), hlt _ (.tail _ (.tail _ (.tail _ (.head _)))), hlt _ (.tail _ (.tail _ (.tail _ (.tail _ (.head _))))), fun p hp => hlt p (.tail _ (.tail _ (.tail _ (.tail _ (.tail _ (.tail _ (.tail _ hp)))))))⟩
    · (try clear F2); (try clear N2); (try clear F3); (try clear N4); (try clear F); (try clear N0)
      refine fun _ qa => Ex10.elim qa fun h6 tk6 u6 p1 p2 p3 Dd ds nd dtl qb => Al13.elim qb fun e F6 N6 dp1 dp2 dp3 hds hfar z1 z2 z3 z4 z5 => ?_
      clear qa qb
      subst e
      have hdl := hds.length
      rw [List.length_map] at hdl
      rw [execs_split 1]
      simp only [List.take_succ_cons, List.take_zero, List.drop_succ_cons, List.drop_zero]
      refine cutA (fun s' => Ex3 fun (h : Heap) (tk : Nat) (u : Str → Option Value) => Al3 (s' = { s₁ with heap := h, toks := tk }) (Fr g2 L h (kstB u [(Str.ofString "numbers", .ref nl), (Str.ofString "first", .int first tf), (Str.ofString "row", .ref c.Dw), (Str.ofString "due", .ref Dd)])) (News g2 L h ((Dd, listOf ds.toArray nd) :: (c.Df, listOf c.fs.toArray c.nf) :: (c.Dr, listOf c.rs.toArray c.nr) :: (c.Dw, listOf c.ws.toArray c.nw) :: (L + 1 + 1 + 1, p1) :: (L + 1 + 1, p2) :: (L + 1, p3) :: (dtl ++ tl)))) ?_ ?_
      · intro Q' hQ
        k_steps
        refine go ?_
        rw [eval_ListComp]
        refine wpAny_comprehension_free (use := none) rfl (fun _ => rfl) (by with_unfolding_all rfl) (by rfl) (by decide) ?_
        show wpAny _ _ (eval (PySem.Expr.Name (PySem.Str.ofString "row") ⟨132, 44, 132, 47⟩) _) _ _ _
        k_steps
        refine go ?_
        k_dflt (refine comp3 (vs := c.ws) (kn := c.nw) (fun i _ v2 v3 => ∃ k, c.row[i]? = some k ∧ RepI v2 k.2.1 ∧ RepI v3 k.2.2) (fun i ys l => All2 (RepP l) ys ((c.row.map endPort).take i)) rfl (by decide) (by rfl) (by rfl) (by rfl) (by rfl) (by decide +kernel) (by decide +kernel) (by decide +kernel) F6 N6 (.tail _ (.tail _ (.tail _ (.head _)))) (by first | exact Nat.le_trans (Nat.le_of_eq hrl) (Nat.le_trans hil (Nat.le_trans hnl (by decide))) | (trace "OMEGA 261"; omega)) trivial ?_ ?_ ?_)
        · intro i v hv
          obtain ⟨k, hk, a, t, u, x, n, e, hm⟩ := hws.get hv
          exact ⟨a, _, _, _, n, e, .tail _ (.tail _ (.tail _ (.tail _ (.tail _ (.tail _ (.tail _ (List.mem_append_right _ hm))))))), k, hk, ⟨_, rfl⟩, ⟨_, rfl⟩⟩
        · rintro i ys l t v1 v2 v3 n I oI C oC D m2 h7 tk7 E' hi ⟨k, hk, ⟨t2', rfl⟩, t3', rfl⟩ hJ hNs hm1 hm2 hm3 F7 N7 hO hA
          k_steps
          rename_i Tn h8 F8 N8 q8
          refine CompEnd.intro F8 N8 ((Tn, tupOf [Value.int k.2.1 t2', Value.int k.2.2 t3'] 0) :: (l ++ _)) rot3 ⟨⟨(by first | exact Nat.ne_of_gt q8.1 | exact Nat.ne_of_gt q8.2.1 | exact Nat.ne_of_gt q8.2.2.1 | exact Nat.ne_of_gt q8.2.2.2.1 | exact Nat.ne_of_gt q8.2.2.2.2.1 | exact Nat.ne_of_gt q8.2.2.2.2.2.1 | exact Nat.ne_of_gt q8.2.2.2.2.2.2.1 | exact Nat.ne_of_gt q8.2.2.2.2.2.2.2.1 | exact Nat.ne_of_gt q8.2.2.2.2.2.2.2.2.1 | exact Nat.ne_of_gt q8.2.2.2.2.2.2.2.2.2.1 | omega), (by first | exact Nat.ne_of_gt q8.1 | exact Nat.ne_of_gt q8.2.1 | exact Nat.ne_of_gt q8.2.2.1 | exact Nat.ne_of_gt q8.2.2.2.1 | exact Nat.ne_of_gt q8.2.2.2.2.1 | exact Nat.ne_of_gt q8.2.2.2.2.2.1 | exact Nat.ne_of_gt q8.2.2.2.2.2.2.1 | exact Nat.ne_of_gt q8.2.2.2.2.2.2.2.1 | exact Nat.ne_of_gt q8.2.2.2.2.2.2.2.2.1 | exact Nat.ne_of_gt q8.2.2.2.2.2.2.2.2.2.1 | omega), (by first | exact Nat.ne_of_gt q8.1 | exact Nat.ne_of_gt q8.2.1 | exact Nat.ne_of_gt q8.2.2.1 | exact Nat.ne_of_gt q8.2.2.2.1 | exact Nat.ne_of_gt q8.2.2.2.2.1 | exact Nat.ne_of_gt q8.2.2.2.2.2.1 | exact Nat.ne_of_gt q8.2.2.2.2.2.2.1 | exact Nat.ne_of_gt q8.2.2.2.2.2.2.2.1 | exact Nat.ne_of_gt q8.2.2.2.2.2.2.2.2.1 | exact Nat.ne_of_gt q8.2.2.2.2.2.2.2.2.2.1 | omega)⟩, hO⟩ trivial ⟨(Tn, tupOf [Value.int k.2.1 t2', Value.int k.2.2 t3'] 0) :: l, rfl, ?_⟩
          rw [List.take_add_one, List.getElem?_map, hk]
          exact (hJ.imp fun v k r => r.mono fun p hp => .tail _ hp).append ⟨⟨Tn, _, _, 0, rfl, .head _⟩, trivial⟩
        · intro ys l D h7 tk7 hJ F7 N7 hO
          rw [hrl, List.take_of_length_le (by rw [List.length_map]; exact Nat.le_refl _)] at hJ
          k_steps
          refine go (ne_pairs (n1 := ys.length) N7 (.head _) (.tail _ (List.mem_append_right _ (.head _))) (fun p hp => .tail _ (List.mem_append_left _ hp)) (fun p hp => .tail _ (List.mem_append_right _ (.tail _ (.tail _ (.tail _ (.tail _ (.tail _ (.tail _ (.tail _ (List.mem_append_left _ hp)))))))))) hJ hds (by ktr_units) ?_)
          k_steps
          exact hQ _ ⟨_, _, _, rfl, fr_kst F7 _ (List.forall_mem_cons.mpr ⟨rfl, all3 rfl rfl rfl⟩), fun p hp => N7 p (.tail _ (List.mem_append_right _ hp))⟩
      · (try clear F6); (try clear N6)
        refine fun _ qa => Ex3.elim qa fun h7 tk7 u7 qb => Al3.elim qb fun e F7 N7 => ?_
        clear qa qb
        subst e
        have hrl2 := hrs.length
        have hlen2 := hok.inv.len2
        have hrun17 : c.running.length ≤ 17 := Nat.le_trans (Nat.le_trans (Nat.le_add_left _ _) (Nat.le_of_eq hlen2)) hnl
        have hfree17 : c.free.length ≤ 17 := Nat.le_trans (Nat.le_trans (Nat.le_add_right _ _) (Nat.le_of_eq hlen2)) hnl
        have hb1 : c.rs.length ≤ 1000 := by first | exact Nat.le_trans (Nat.le_of_eq hrl2) (Nat.le_trans hrun17 (by decide)) | (trace "OMEGA 281"; omega)
        have y1 : ∀ p ∈ dtl ++ tl, p.1 ≠ c.Dr := fun p hp => by
          rcases List.mem_append.mp hp with q | q
          · exact Ne.symm (Nat.ne_of_lt (Nat.lt_trans z2 (hfar p q)))
          · exact (hok.off p (hsub p q)).2.1
        have y2 : ∀ p ∈ dtl ++ tl, p.1 ≠ c.Df := fun p hp => by
          rcases List.mem_append.mp hp with q | q
          · exact Ne.symm (Nat.ne_of_lt (Nat.lt_trans z1 (hfar p q)))
          · exact (hok.off p (hsub p q)).1
        have y3 : @LT.lt Nat _ c.Df c.Dr := hok.d1
        have y4 : @LT.lt Nat _ c.Dr c.Dw := hok.d2
        rw [execs_split 1]
        simp only [List.take_succ_cons, List.take_zero, List.drop_succ_cons, List.drop_zero]
        refine cutA (fun s' => Ex7 fun (h : Heap) (tk : Nat) (u : Str → Option Value) (Dq : Addr) (qs : List Value) (nr : Nat) (out : List (Int × Int)) => Al6 (s' = { s₁ with heap := h, toks := tk }) (Fr g2 L h (kstB u [(Str.ofString "numbers", .ref nl), (Str.ofString "first", .int first tf), (Str.ofString "due", .ref Dd), (Str.ofString "rest", .ref Dq)])) (News g2 L h ((Dq, lst qs) :: (Dd, listOf ds.toArray nd) :: (c.Df, listOf c.fs.toArray c.nf) :: (L + 1 + 1 + 1, p1) :: (L + 1 + 1, p2) :: (L + 1, p3) :: (dtl ++ tl))) (All2 (RepP tl) qs out) (Drawn klt c.running out []) (@Ne Nat c.Df Dq)) ?_ ?_
        · intro Q' hQ
          k_steps
          refine go ?_
          k_dflt (refine LCg.Assign_ListComp_U (F₀ := F7) (by rfl) (by with_unfolding_all rfl) (by with_unfolding_all rfl) (by decide) (by rfl) (by decide) (by rfl) (by rfl) (by rfl) ?_)
          refine opq ?_
          k_steps
          refine m_len (by k_asm) (by k_mem) hb1 ?_
          k_steps
          refine ⟨?_⟩
          rename IsRange _ _ _ _ _ _ _ _ => lR
          rename Fr _ _ _ _ => rF
          rename News _ _ _ _ => rN
          obtain ⟨q1', q2'⟩ := small_range (n := c.rs.length) (by first | exact hb1 | (trace "OMEGA 308"; omega))
          refine CompSrc.range (n := c.rs.length) rfl rF rN lR q1' q2' (by rw [sizeLine_eq]; first | exact Nat.le_trans hb1 (by decide) | (trace "OMEGA 309"; omega)) ?_
          intro gg
          refine restU (σ := P4 (List Value) Nat (List (Int × Int)) (List (Int × Int))) (fun st => (Dd, listOf ds.toArray nd) :: (c.Df, listOf c.fs.toArray c.nf) :: (c.Dr, listOf st.a.toArray st.b) :: (c.Dw, listOf c.ws.toArray c.nw) :: (L + 1 + 1 + 1, p1) :: (L + 1 + 1, p2) :: (L + 1, p3) :: (dtl ++ tl))
            (fun i ys st => Al4 (Drawn klt c.running st.c st.d) (All2 (RepP tl) ys st.c) (All2 (RepP tl) st.a st.d) (st.c.length = i)) c.rs.length ?_ ?_ _ 0 [] ⟨c.rs, c.nr, [], c.running⟩ (by simp) ⟨.start hok.inv.hr, trivial, hrs, rfl⟩
          · rintro i ys ⟨rs, nr, out, run⟩ v I oI C oC D m2 h8 tk8 E' hi ⟨j1, j2, j3, j4⟩ hv hNs hmx F8 N8 hO hA
            dsimp only at j1 j2 j3 j4 N8 hO
            have hdl2 := j1.len
            obtain ⟨ks, k, hks⟩ : ∃ ks k, run = ks ++ [k] := by
              rcases List.eq_nil_or_concat run with e | ⟨ys, y, e⟩
              · have e9 : run.length = 0 := by rw [e]; rfl
                first | exact (sc2 hi hrl2 j4 hdl2 e9).elim | (trace "OMEGA 319"; omega)
              · exact ⟨ys, y, by simpa using e⟩
            have o1' : @Ne Nat c.Dr I := hO.2.2.1.1
            have o2' : @Ne Nat c.Dr C := hO.2.2.1.2.1
            have o3' : @Ne Nat c.Dr D := hO.2.2.1.2.2
            have hj3 := j3.length
            (try clear rF); (try clear rN); (try clear F7); (try clear N7)
            k_steps
            refine go ?_
            k_dflt refine pop_pairs (tl := tl) (ks := ks) (k := k) ⟨B3, by k_asm, X3, T3, rfl, by ktr_room, by ktr_units⟩ (by k_asm) (by k_updF) (fun p hp => .tail _ (.tail _ (.tail _ (.tail _ (.tail _ (.tail _ (.tail _ (.tail _ (.tail _ (.tail _ (List.mem_append_right _ hp))))))))))) (by rw [← hks]; exact j3) (by first | exact Nat.le_trans (sc1 hj3 hdl2 hrun17) (by decide) | (trace "OMEGA 328"; omega)) ?_
            intro v' rs' h9 tk9 hv' hrs' F9 N9
            k_steps
            rw [hks] at j1
            exact CompEnd.intro F9 N9 _ (fun p hp => hp) hO trivial ⟨⟨rs', nr + 1, out ++ [(popL klt k ks).1], (popL klt k ks).2⟩, rfl, j1.step klt_ord, j2.append ⟨hv', trivial⟩, hrs', by simp [j4]⟩
          · rintro ys ⟨rs, nr, out, run⟩ ⟨j1, j2, j3, j4⟩
            intro D h9 tk9 F9 N9 hO9
            dsimp only at j1 j2 j3 j4 N9 hO9
            have hdl2 := j1.len
            have hrun : run = [] := List.eq_nil_of_length_eq_zero (by first | exact sc3 j4 hrl2 hdl2 | (trace "OMEGA 337"; omega))
            subst hrun
            k_steps
            exact hQ _ ⟨_, _, _, D, ys, nr, out, rfl, fr_kst F9 _ (List.forall_mem_cons.mpr ⟨rfl, all3 rfl rfl rfl⟩), kst_newsOf N9 drop_two, j2, j1, hO9.2.1⟩
        · (try clear F7); (try clear N7)
          refine fun _ qa => Ex7.elim qa fun h8 tk8 u8 Dq qs nr out qb => Al6.elim qb fun e F8 N8 hqs hdr hDq => ?_
          clear qa qb
          subst e
          rw [execs_split 1]
          simp only [List.take_succ_cons, List.take_zero, List.drop_succ_cons, List.drop_zero]
          refine cutA (fun s' => Ex3 fun (h : Heap) (tk : Nat) (u : Str → Option Value) => Al3 (s' = { s₁ with heap := h, toks := tk }) (Fr g2 L h (kstB u [(Str.ofString "numbers", .ref nl), (Str.ofString "first", .int first tf), (Str.ofString "rest", .ref Dq)])) (News g2 L h ((Dq, lst qs) :: (c.Df, listOf c.fs.toArray c.nf) :: (L + 1 + 1 + 1, p1) :: (L + 1 + 1, p2) :: (L + 1, p3) :: (dtl ++ tl)))) ?_ ?_
          · intro Q' hQ
            k_steps
            refine go ?_
            k_dflt (refine LCt.ListComp_T (F₀ := F8) (by with_unfolding_all rfl) (by decide) (by rfl) (by decide) (by rfl) ?_)
            refine opq ?_
            k_steps
            refine ⟨?_⟩
            refine CompSrcT.ledger (its := ds.toArray) (k := nd) rfl F8 N8 (.tail _ (.head _)) (by rw [sizeLine_eq, List.size_toArray]; first | exact Nat.le_trans (Nat.le_of_eq hdl) (Nat.le_trans hil (Nat.le_trans hnl (by decide))) | (trace "OMEGA 354"; omega)) ?_
            intro gg
            refine restT (σ := Unit) (fun _ => (Dq, lst qs) :: (Dd, listOf ds.toArray nd) :: (c.Df, listOf c.fs.toArray c.nf) :: (L + 1 + 1 + 1, p1) :: (L + 1 + 1, p2) :: (L + 1, p3) :: (dtl ++ tl)) (fun i ys _ => All2 (RepP dtl) ys (((c.row.map endPort).take i).filter fun x => decide (c.hour < x.1))) ds.length ?_ ?_ _ 0 [] () (by simp) trivial
            · intro i ys _ v I oI C oC D m2 h9 tk9 E' hi hJ hv9 hNs hmx F9 N9 hO hA9
              obtain ⟨⟨ke, kp⟩, hk9, a9, t4, t5, n9, rfl, hm9⟩ := hds.get (x := v) (i := i) (by simpa using hv9)
              k_steps
              refine go (tup_at (k := 0) (by k_asm) (.tail _ (.tail _ (.tail _ (.tail _ (.tail _ (.tail _ (.tail _ (.tail _ (.tail _ (List.mem_append_left _ hm9)))))))))) rfl (by simp) ?_)
              k_steps
              · rename c.hour < _ => hlt
                exact CompEnd.intro F9 N9 _ (fun p hp => hp) hO (.inr ⟨_, .tail _ (.head _), rfl, _, rfl⟩) ⟨(), rfl, by rw [run_yes hk9 hlt]; exact hJ.append ⟨⟨a9, t4, t5, n9, rfl, hm9⟩, trivial⟩⟩
              · rename ¬ c.hour < _ => hlt
                exact CompEnd.intro F9 N9 _ (fun p hp => hp) hO (.inr ⟨_, .tail _ (.head _), rfl, _, rfl⟩) ⟨(), rfl, by rw [run_no hk9 hlt]; exact hJ⟩
            · intro ys _ hJ
              intro D h9 tk9 F9 N9 hO9
              rw [hdl, List.take_of_length_le (by rw [List.length_map]; exact Nat.le_refl _)] at hJ
              have hyl : ys.length ≤ 20 := by
                have e1 := hJ.length
                have e2 := List.length_filter_le (fun x : Int × Int => decide (c.hour < x.1)) (c.row.map endPort)
                rw [List.length_map] at e2
                first | exact Nat.le_trans (Nat.le_of_eq e1) (Nat.le_trans e2 (Nat.le_trans hil (Nat.le_trans hnl (by decide)))) | (trace "OMEGA 373"; omega)
              k_steps
              refine go (sorted_pairs (tl := dtl) (kn := ys.length) F9 N9 (.head _) (fun p hp => .tail _ (.tail _ (.tail _ (.tail _ (.tail _ (.tail _ (.tail _ (List.mem_append_left _ hp)))))))) hJ (by first | exact Nat.lt_of_le_of_lt hyl (by decide) | (trace "OMEGA 375"; omega)) ?_)
              intro D2 out2 ks' h10 n' tk10 hout hperm hsrt F10 N10 hlt
              have hsame : ks' = out := sorted_unique (fun a b => klt_anti) (hperm.trans (hok.inv.run.symm.trans (by have := hdr.perm; simpa using this.symm))) hsrt hdr.srt
              subst hsame
              k_steps
              refine go (ne_pairs (n1 := qs.length) N10 (.tail _ (.tail _ (.head _))) (.head _) (l1 := tl) (l2 := dtl) (fun p hp => .tail _ (.tail _ (.tail _ (.tail _ (.tail _ (.tail _ (.tail _ (.tail _ (List.mem_append_right _ hp))))))))) (fun p hp => .tail _ (.tail _ (.tail _ (.tail _ (.tail _ (.tail _ (.tail _ (.tail _ (List.mem_append_left _ hp))))))))) hqs hout (by ktr_units) ?_)
              k_steps
              exact hQ _ ⟨_, _, _, rfl, fr_kst F10 _ (all3 rfl rfl rfl), kst_newsOf N10 drop_some⟩
          · (try clear F8); (try clear N8)
            refine fun _ qa => Ex3.elim qa fun h9 tk9 u9 qb => Al3.elim qb fun e F9 N9 => ?_
            clear qa qb
            subst e
            rw [execs_split 1]
            simp only [List.take_succ_cons, List.take_zero, List.drop_succ_cons, List.drop_zero]
            refine cutA (fun s' => Ex6 fun (h : Heap) (tk : Nat) (u : Str → Option Value) (fs : List Value) (nf : Nat) (free : List Int) => Al6 (s' = { s₁ with heap := h, toks := tk }) (Fr g2 L h (kstB u [(Str.ofString "numbers", .ref nl), (Str.ofString "first", .int first tf)])) (News g2 L h ((c.Df, listOf fs.toArray nf) :: (L + 1 + 1 + 1, p1) :: (L + 1 + 1, p2) :: (L + 1, p3) :: (dtl ++ tl))) (All2 RepI fs free) (IsHeap ilt free) (free.Perm (ports first numbers.length))) ?_ ?_
            · intro Q' hQ
              k_steps
              refine go ?_
              refine wpAny_For ?_
              k_steps
              refine go (m_iterList (σ := P3 (List Value) Nat (List Int)) (fun st => (Dq, lst qs) :: (c.Df, listOf st.a.toArray st.b) :: (L + 1 + 1 + 1, p1) :: (L + 1 + 1, p2) :: (L + 1, p3) :: (dtl ++ tl)) (fun _ => [(Str.ofString "numbers", .ref nl), (Str.ofString "first", .int first tf)])
                (fun j st => Al3 (All2 RepI st.a st.c) (IsHeap ilt st.c) (st.c.Perm (c.free ++ (out.take j).map (·.2)))) (vs := qs) (kn := qs.length) rfl (fun _ _ _ => .head _) ⟨c.fs, c.nf, c.free⟩ F9 N9 (List.forall_mem_cons.mpr ⟨rfl, List.forall_mem_cons.mpr ⟨rfl, List.forall_mem_nil _⟩⟩) ⟨hok.fs, hok.inv.hf, by simp⟩ ?_ ?_ (fun _ => let_tuple))
              · (try clear F9); (try clear N9)
                rintro I hI j v ⟨fs, nf, free⟩ u o h tk hj hv ⟨j1, j2, j3⟩ hoff hst kFr kN
                obtain ⟨⟨ke, kp⟩, hk9, av, t4, t5, n9, rfl, hav⟩ := hqs.get hv
                dsimp only at j1 j2 j3 kN hoff
                have kN := kst_newsOf kN (l' := (av, tupOf [Value.int ke t4, Value.int kp t5] n9) :: (I, o) :: (Dq, lst qs) :: (c.Df, listOf fs.toArray nf) :: (L + 1 + 1 + 1, p1) :: (L + 1 + 1, p2) :: (L + 1, p3) :: (dtl ++ tl)) (List.forall_mem_cons.mpr ⟨.tail _ (.tail _ (.tail _ (.tail _ (.tail _ (.tail _ (List.mem_append_right _ hav)))))), fun p hp => hp⟩)
                have zI : @Ne Nat c.Df I := hoff _ (.tail _ (.head _))
                have za : @Ne Nat av c.Df := y2 _ (List.mem_append_right _ hav)
                k_steps
                refine go ?_
                have hfl := j1.length
                have hfl2 := j3.length_eq
                have hfl3 : (out.take j).length ≤ out.length := by rw [List.length_take]; exact Nat.min_le_right _ _
                have hfl4 := hdr.len
                rw [List.length_append, List.length_map] at hfl2
                k_dflt refine push_ints ⟨B3, by k_asm, X3, T3, rfl, by ktr_room, by ktr_units⟩ (by k_asm) (by k_updF) j1 ⟨_, rfl⟩ (by first | exact Nat.le_trans (sc4 hfl hfl2 hfl3 hfree17 (Nat.le_trans (Nat.le_trans (Nat.le_add_right _ _) (Nat.le_of_eq hfl4)) hrun17)) (by decide) | (trace "OMEGA 411"; omega)) ?_
                intro zs h6 tk6 hzs F6 N6
                k_steps
                rename Fr _ _ _ _ => zF
                rename News _ _ _ _ => zN
                obtain ⟨w1', w2'⟩ := pushL_spec (v := kp) ilt_ord j2
                refine f_end zF zN hst ⟨⟨zs, nf + 1, pushL ilt kp free⟩, (fun p hp => .tail _ hp), apart_of (e := by rfl) (h := hI), all2 rfl rfl, hzs, w1', ?_⟩
                refine w2'.trans ((List.Perm.cons kp j3).trans ?_)
                rw [List.take_add_one, hk9, List.map_append, ← List.append_assoc]
                exact (List.perm_append_singleton _ _).symm
              · rintro ⟨fs, nf, free⟩ u5 h5 tk5 ⟨j1, j2, j3⟩ F5 N5
                dsimp only at j1 j2 j3 N5
                dsimp only
                refine wpAny_execs_nil ?_
                rw [List.take_of_length_le (Nat.le_of_eq hqs.length.symm)] at j3
                refine hQ _ ⟨_, _, _, fs, nf, free, rfl, F5, news_tail N5, j1, j2, j3.trans (List.Perm.trans (List.Perm.append_left _ ?_) hok.inv.perm)⟩
                have := hdr.perm
                rw [List.append_nil] at this
                exact this.map _
            · (try clear F9); (try clear N9)
              refine fun _ qa => Ex6.elim qa fun h10 tk10 u10 fs nf free qb => Al6.elim qb fun e F10 N10 hfs hfh hfp => ?_
              clear qa qb
              subst e
              k_steps
              refine go ?_
              have hfl := hfs.length
              have hfl2 := hfp.length_eq
              have hpl : (ports first numbers.length).length = numbers.length := by unfold ports; simp
              have hnl2 := hnum.length
              have hfr17 : free.length ≤ 17 := Nat.le_trans (Nat.le_of_eq (hfl2.trans hpl)) hnl
              have hb2 : fs.length ≤ 1000 := by first | exact Nat.le_trans (Nat.le_of_eq hfl) (Nat.le_trans hfr17 (by decide)) | (trace "OMEGA 439"; omega)
              k_dflt (refine LCg.ListComp_U (F₀ := F10) (by with_unfolding_all rfl) (by decide) (by rfl) (by decide) (by rfl) ?_)
              refine opq ?_
              k_steps
              refine m_len (by k_asm) (by k_mem) hb2 ?_
              k_steps
              refine ⟨?_⟩
              rename IsRange _ _ _ _ _ _ _ _ => lR
              rename Fr _ _ _ _ => rF
              rename News _ _ _ _ => rN
              obtain ⟨q1', q2'⟩ := small_range (n := fs.length) (by first | exact hb2 | (trace "OMEGA 449"; omega))
              refine CompSrc.range (n := fs.length) rfl rF rN lR q1' q2' (by rw [sizeLine_eq]; first | exact Nat.le_trans hb2 (by decide) | (trace "OMEGA 450"; omega)) ?_
              intro gg
              refine restU (σ := P4 (List Value) Nat (List Int) (List Int)) (fun st => (c.Df, listOf st.a.toArray st.b) :: (L + 1 + 1 + 1, p1) :: (L + 1 + 1, p2) :: (L + 1, p3) :: (dtl ++ tl))
                (fun i ys st => Al4 (Drawn ilt free st.c st.d) (All2 RepI ys st.c) (All2 RepI st.a st.d) (st.c.length = i)) fs.length ?_ ?_ _ 0 [] ⟨fs, nf, [], free⟩ (by simp) ⟨.start hfh, trivial, hfs, rfl⟩
              · rintro i ys ⟨rs, nr, out, run⟩ v I oI C oC D m2 h8 tk8 E' hi ⟨j1, j2, j3, j4⟩ hv hNs hmx F8 N8 hO hA
                dsimp only at j1 j2 j3 j4 N8 hO
                have hdl2 := j1.len
                obtain ⟨ks, k, hks⟩ : ∃ ks k, run = ks ++ [k] := by
                  rcases List.eq_nil_or_concat run with e | ⟨ys, y, e⟩
                  · have e9 : run.length = 0 := by rw [e]; rfl
                    first | exact (sc2 hi hfl j4 hdl2 e9).elim | (trace "OMEGA 460"; omega)
                  · exact ⟨ys, y, by simpa using e⟩
                have o1' : @Ne Nat c.Df I := hO.1.1
                have o2' : @Ne Nat c.Df C := hO.1.2.1
                have o3' : @Ne Nat c.Df D := hO.1.2.2
                have hj3 := j3.length
                (try clear rF); (try clear rN); (try clear F10); (try clear N10)
                k_steps
                refine go ?_
                k_dflt refine pop_ints (ks := ks) (k := k) ⟨B3, by k_asm, X3, T3, rfl, by ktr_room, by ktr_units⟩ (by k_asm) (by k_updF) (by rw [← hks]; exact j3) (by first | exact Nat.le_trans (sc1 hj3 hdl2 hfr17) (by decide) | (trace "OMEGA 469"; omega)) ?_
                intro v' rs' h9 tk9 hv' hrs' F9 N9
                k_steps
                rw [hks] at j1
                exact CompEnd.intro F9 N9 _ (fun p hp => hp) hO trivial ⟨⟨rs', nr + 1, out ++ [(popL ilt k ks).1], (popL ilt k ks).2⟩, rfl, j1.step ilt_ord, j2.append ⟨hv', trivial⟩, hrs', by simp [j4]⟩
              · rintro ys ⟨rs, nr, out, run⟩ ⟨j1, j2, j3, j4⟩
                intro D h9 tk9 F9 N9 hO9
                dsimp only at j1 j2 j3 j4 N9 hO9
                have hdl2 := j1.len
                have hrun : run = [] := List.eq_nil_of_length_eq_zero (by first | exact sc3 j4 hfl hdl2 | (trace "OMEGA 478"; omega))
                subst hrun
                have N9 := kst_newsOf N9 (l' := (nl, listOf nvs.toArray nk) :: [(D, lst ys)]) (List.forall_mem_cons.mpr ⟨.tail _ (.tail _ (.tail _ (.tail _ (.tail _ (List.mem_append_right _ hnm))))), List.forall_mem_cons.mpr ⟨.head _, List.forall_mem_nil _⟩⟩)
                have hb4 : nvs.length ≤ 1000 := by first | exact Nat.le_trans (Nat.le_of_eq hnl2) (Nat.le_trans hnl (by decide)) | (trace "OMEGA 481"; omega)
                (try clear rF); (try clear rN); (try clear F10); (try clear N10)
                k_steps
                refine m_len (by k_asm) (by k_mem) hb4 ?_
                k_steps
                rename IsRange _ _ _ _ _ _ _ _ => lR2
                rename Fr _ _ _ _ => tF
                rename News _ _ _ _ => tN
                obtain ⟨q3', q4'⟩ := small_from (n := nvs.length) hfirst0 hfirst1 hb4
                refine go (kll_range (n := nvs.length) rfl tF tN lR2 q3' q4' (by first | exact Nat.le_trans hb4 (by decide) | (trace "OMEGA 490"; omega)) ?_)
                intro D3 us c3 h11 tk11 F11 N11 hlt3 hI3
                k_steps
                have hout : out = rangeKs first nvs.length := by
                  have e1 := j1.perm
                  rw [List.append_nil] at e1
                  rw [hnl2]
                  exact sorted_unique (fun a b => ilt_anti) (e1.trans hfp) j1.srt (ports_ilt first _)
                refine go (eq_intsK (ns := out) ⟨_, (N11 _ (.tail _ (.tail _ (.head _)))).1, rfl, _, rfl⟩ (ints_are j2) ⟨_, (N11 _ (.head _)).1, rfl, c3, rfl⟩ hI3 (by ktr_units) ?_)
                rw [decide_eq_true hout]
                refine hQB _ _ ?_
                refine ⟨.inl ⟨_, _, [], rfl, fun _ => rfl, ReadsW.bool true, (by first | rfl | wrow_post | with_unfolding_all rfl), fun _ => ⟨List.nodup_nil, fun _ hm => nomatch hm⟩⟩, .of_keep fun b o e => F11.keep b o (hT2.other b o e ?_), rfl, .of_eq hg⟩
                exact fun hm => nomatch hm)
end
end
end Mine
end
set_option maxRecDepth 100000 in
set_option maxHeartbeats 8000000 in
theorem PySem.Challenge.cw_mr0107_01_holds : PySem.Challenge.rw_mr0107_01.Holds :=
  Mine.body_try
