import Derived.Test.Qxb6604298aWe
import Derived.Test.Qxb6604298aWg
/-! The plain law of the sums: no Go in sight but the wraps. -/
namespace Go.Proofs.Qxb6604298a
open Go.RowKit

/-- Five sums over a list of metadata. -/
structure T5 where
  s : Int
  p : Int
  c : Int
  i : Int
  o : Int

def T5.zero : T5 := ⟨0, 0, 0, 0, 0⟩
def T5.plus (x y : T5) : T5 := ⟨x.s + y.s, x.p + y.p, x.c + y.c, x.i + y.i, x.o + y.o⟩
def t1 (m : Mt) : T5 := ⟨m.s, m.p, m.c + m.t, isum m.pd, isum m.cd⟩
def t5 : List Mt → T5
  | [] => T5.zero
  | m :: ms => (t1 m).plus (t5 ms)

theorem T5.plus_zero (x : T5) : x.plus T5.zero = x := by cases x; simp [T5.plus, T5.zero]
theorem T5.zero_plus (x : T5) : T5.zero.plus x = x := by cases x; simp [T5.plus, T5.zero]
theorem T5.plus_comm (x y : T5) : x.plus y = y.plus x := by cases x; cases y; simp [T5.plus, Int.add_comm]
theorem T5.plus_assoc (x y z : T5) : (x.plus y).plus z = x.plus (y.plus z) := by cases x; cases y; cases z; simp [T5.plus, Int.add_assoc]
theorem t5_append (xs ys : List Mt) : t5 (xs ++ ys) = (t5 xs).plus (t5 ys) := by
  induction xs with
  | nil => simp [t5, T5.zero_plus]
  | cons x xs ih => simp only [List.cons_append, t5, ih, T5.plus_assoc]
theorem t5_snoc (ms : List Mt) (k : Nat) (h : k < ms.length) : t5 (ms.take (k + 1)) = (t5 (ms.take k)).plus (t1 ms[k]) := by
  rw [List.take_succ_eq_append_getElem h, t5_append]; simp [t5, T5.plus_zero]
theorem t5_drop (ms : List Mt) (k : Nat) (h : k < ms.length) : t5 (ms.drop k) = (t5 (ms.drop (k + 1))).plus (t1 ms[k]) := by
  rw [List.drop_eq_getElem_cons h]; simp only [t5]; rw [T5.plus_comm]

/-- The usage u has the counts of the sums t. -/
structure SumIs (t : T5) (u : Im) : Prop where
  tot : u.tot = wrap64 t.s
  inp : u.inp = wrap64 t.p
  out : u.out = wrap64 t.c
  it : u.it = wrap64 (t.p - t.i)
  ii : u.ii = wrap64 t.i
  ot : u.ot = wrap64 (t.c - t.o)
  oi : u.oi = wrap64 t.o

theorem SumIs.zero : SumIs T5.zero Im.zero := by
  constructor <;> simp [T5.zero, Im.zero, wrap64_zero]
theorem SumIs.add {t : T5} {u : Im} (h : SumIs t u) (m : Mt) : SumIs (t.plus (t1 m)) (u.add m) := by
  obtain ⟨h1, h2, h3, h4, h5, h6, h7⟩ := h
  constructor <;> simp only [T5.plus, t1, Im.add, h1, h2, h3, h4, h5, h6, h7] <;> unfold wrap64 <;> omega
theorem SumIs.eq {t : T5} {u v : Im} (h : SumIs t u) (k : SumIs t v) : u = v := by
  obtain ⟨h1, h2, h3, h4, h5, h6, h7⟩ := h
  obtain ⟨k1, k2, k3, k4, k5, k6, k7⟩ := k
  cases u; cases v
  simp_all

/-! The joined metadata -/
def catP : List Mt → Ds
  | [] => []
  | m :: ms => m.pd ++ catP ms
def catC : List Mt → Ds
  | [] => []
  | m :: ms => m.cd ++ catC ms
theorem catP_append (xs ys : List Mt) : catP (xs ++ ys) = catP xs ++ catP ys := by
  induction xs with
  | nil => simp [catP]
  | cons x xs ih => simp [catP, ih]
theorem catC_append (xs ys : List Mt) : catC (xs ++ ys) = catC xs ++ catC ys := by
  induction xs with
  | nil => simp [catC]
  | cons x xs ih => simp [catC, ih]
theorem catP_snoc (ms : List Mt) (k : Nat) (h : k < ms.length) : catP (ms.take (k + 1)) = catP (ms.take k) ++ ms[k].pd := by
  rw [List.take_succ_eq_append_getElem h, catP_append]; simp [catP]
theorem catC_snoc (ms : List Mt) (k : Nat) (h : k < ms.length) : catC (ms.take (k + 1)) = catC (ms.take k) ++ ms[k].cd := by
  rw [List.take_succ_eq_append_getElem h, catC_append]; simp [catC]
theorem catP_le (ms : List Mt) (k : Nat) : (catP (ms.take k)).length ≤ (catP ms).length := by
  have := catP_append (ms.take k) (ms.drop k)
  rw [List.take_append_drop] at this
  rw [this, List.length_append]; omega
theorem catC_le (ms : List Mt) (k : Nat) : (catC (ms.take k)).length ≤ (catC ms).length := by
  have := catC_append (ms.take k) (ms.drop k)
  rw [List.take_append_drop] at this
  rw [this, List.length_append]; omega
theorem isum_catP (ms : List Mt) : isum (catP ms) = (t5 ms).i := by
  induction ms with
  | nil => simp [catP, isum, t5, T5.zero]
  | cons m ms ih => simp [catP, isum_append, t5, T5.plus, t1, ih]
theorem isum_catC (ms : List Mt) : isum (catC ms) = (t5 ms).o := by
  induction ms with
  | nil => simp [catC, isum, t5, T5.zero]
  | cons m ms ih => simp [catC, isum_append, t5, T5.plus, t1, ih]

/-- The four counts, summed apart. -/
def sP : List Mt → Int
  | [] => 0
  | m :: ms => m.p + sP ms
def sC : List Mt → Int
  | [] => 0
  | m :: ms => m.c + sC ms
def sT : List Mt → Int
  | [] => 0
  | m :: ms => m.t + sT ms
def sS : List Mt → Int
  | [] => 0
  | m :: ms => m.s + sS ms
theorem sP_snoc (ms : List Mt) (k : Nat) (h : k < ms.length) : sP (ms.take (k + 1)) = sP (ms.take k) + ms[k].p := by
  have ap : ∀ xs ys : List Mt, sP (xs ++ ys) = sP xs + sP ys := fun xs ys => by
    induction xs with
    | nil => simp [sP]
    | cons x xs ih => simp only [List.cons_append, sP, ih]; omega
  rw [List.take_succ_eq_append_getElem h, ap]; simp [sP]
theorem sC_snoc (ms : List Mt) (k : Nat) (h : k < ms.length) : sC (ms.take (k + 1)) = sC (ms.take k) + ms[k].c := by
  have ap : ∀ xs ys : List Mt, sC (xs ++ ys) = sC xs + sC ys := fun xs ys => by
    induction xs with
    | nil => simp [sC]
    | cons x xs ih => simp only [List.cons_append, sC, ih]; omega
  rw [List.take_succ_eq_append_getElem h, ap]; simp [sC]
theorem sT_snoc (ms : List Mt) (k : Nat) (h : k < ms.length) : sT (ms.take (k + 1)) = sT (ms.take k) + ms[k].t := by
  have ap : ∀ xs ys : List Mt, sT (xs ++ ys) = sT xs + sT ys := fun xs ys => by
    induction xs with
    | nil => simp [sT]
    | cons x xs ih => simp only [List.cons_append, sT, ih]; omega
  rw [List.take_succ_eq_append_getElem h, ap]; simp [sT]
theorem sS_snoc (ms : List Mt) (k : Nat) (h : k < ms.length) : sS (ms.take (k + 1)) = sS (ms.take k) + ms[k].s := by
  have ap : ∀ xs ys : List Mt, sS (xs ++ ys) = sS xs + sS ys := fun xs ys => by
    induction xs with
    | nil => simp [sS]
    | cons x xs ih => simp only [List.cons_append, sS, ih]; omega
  rw [List.take_succ_eq_append_getElem h, ap]; simp [sS]
theorem t5_parts (ms : List Mt) : (t5 ms).s = sS ms ∧ (t5 ms).p = sP ms ∧ (t5 ms).c = sC ms + sT ms := by
  induction ms with
  | nil => simp [t5, T5.zero, sS, sP, sC, sT]
  | cons m ms ih => obtain ⟨h1, h2, h3⟩ := ih; refine ⟨?_, ?_, ?_⟩ <;> simp only [t5, T5.plus, t1, sS, sP, sC, sT, h1, h2, h3]; omega

/-- The usage of the joined metadata. -/
theorem joined_is (ms : List Mt) (pa ca : Option Addr) (pc cc : Nat) :
    SumIs (t5 ms) (Im.zero.add ⟨wrap64 (sP ms), wrap64 (sC ms), wrap64 (sT ms), wrap64 (sS ms), pa, pc, catP ms, ca, cc, catC ms⟩) := by
  obtain ⟨h1, h2, h3⟩ := t5_parts ms
  constructor <;> simp only [Im.add, Im.zero, h1, h2, h3, isum_catP, isum_catC] <;> unfold wrap64 <;> omega
theorem wrap_fit (n : Int) : Fit (wrap64 n) := by unfold Fit wrap64; omega
theorem cat_lens (ms : List Mt) : (catP ms).length + (catC ms).length = lens ms := by
  induction ms with
  | nil => simp [catP, catC, lens]
  | cons m ms ih => simp only [catP, catC, lens, List.length_append]; omega
end Go.Proofs.Qxb6604298a
