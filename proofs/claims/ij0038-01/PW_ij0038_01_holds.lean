import PyProof.Rows.All
import Wide.All
import OpenK.AllK
import Wide.FinOn
import PySem.Challenge.RW_ij0038_01
open PySem PySem.W PyProof.Rows PySem.Calls PySem.Spec
set_option Elab.async false
set_option maxRecDepth 100000
set_option maxHeartbeats 8000000
set_option linter.unusedVariables false
set_option compiler.extract_closed false
set_option linter.all false
namespace Mine
local macro_rules | `(tactic| omega) => `(tactic| lia)
inductive Cj3 (p1 p2 p3 : Prop) : Prop | mk : p1 → p2 → p3 → Cj3 p1 p2 p3
inductive Cj4 (p1 p2 p3 p4 : Prop) : Prop | mk : p1 → p2 → p3 → p4 → Cj4 p1 p2 p3 p4
inductive Cj5 (p1 p2 p3 p4 p5 : Prop) : Prop | mk : p1 → p2 → p3 → p4 → p5 → Cj5 p1 p2 p3 p4 p5
inductive Cj6 (p1 p2 p3 p4 p5 p6 : Prop) : Prop | mk : p1 → p2 → p3 → p4 → p5 → p6 → Cj6 p1 p2 p3 p4 p5 p6
inductive Cj7 (p1 p2 p3 p4 p5 p6 p7 : Prop) : Prop | mk : p1 → p2 → p3 → p4 → p5 → p6 → p7 → Cj7 p1 p2 p3 p4 p5 p6 p7
inductive Cj8 (p1 p2 p3 p4 p5 p6 p7 p8 : Prop) : Prop | mk : p1 → p2 → p3 → p4 → p5 → p6 → p7 → p8 → Cj8 p1 p2 p3 p4 p5 p6 p7 p8
inductive Cj9 (p1 p2 p3 p4 p5 p6 p7 p8 p9 : Prop) : Prop | mk : p1 → p2 → p3 → p4 → p5 → p6 → p7 → p8 → p9 → Cj9 p1 p2 p3 p4 p5 p6 p7 p8 p9
inductive Cj11 (p1 p2 p3 p4 p5 p6 p7 p8 p9 p10 p11 : Prop) : Prop | mk : p1 → p2 → p3 → p4 → p5 → p6 → p7 → p8 → p9 → p10 → p11 → Cj11 p1 p2 p3 p4 p5 p6 p7 p8 p9 p10 p11
inductive Cj12 (p1 p2 p3 p4 p5 p6 p7 p8 p9 p10 p11 p12 : Prop) : Prop | mk : p1 → p2 → p3 → p4 → p5 → p6 → p7 → p8 → p9 → p10 → p11 → p12 → Cj12 p1 p2 p3 p4 p5 p6 p7 p8 p9 p10 p11 p12
inductive Cj13 (p1 p2 p3 p4 p5 p6 p7 p8 p9 p10 p11 p12 p13 : Prop) : Prop | mk : p1 → p2 → p3 → p4 → p5 → p6 → p7 → p8 → p9 → p10 → p11 → p12 → p13 → Cj13 p1 p2 p3 p4 p5 p6 p7 p8 p9 p10 p11 p12 p13
inductive Xs2 {T1 T2 : Type} (p : T1 → T2 → Prop) : Prop | mk (x1 : T1) (x2 : T2) (h : p x1 x2) : Xs2 p
inductive Xs3 {T1 T2 T3 : Type} (p : T1 → T2 → T3 → Prop) : Prop | mk (x1 : T1) (x2 : T2) (x3 : T3) (h : p x1 x2 x3) : Xs3 p
inductive Xs4 {T1 T2 T3 T4 : Type} (p : T1 → T2 → T3 → T4 → Prop) : Prop | mk (x1 : T1) (x2 : T2) (x3 : T3) (x4 : T4) (h : p x1 x2 x3 x4) : Xs4 p
inductive Xs5 {T1 T2 T3 T4 T5 : Type} (p : T1 → T2 → T3 → T4 → T5 → Prop) : Prop | mk (x1 : T1) (x2 : T2) (x3 : T3) (x4 : T4) (x5 : T5) (h : p x1 x2 x3 x4 x5) : Xs5 p
inductive Xs6 {T1 T2 T3 T4 T5 T6 : Type} (p : T1 → T2 → T3 → T4 → T5 → T6 → Prop) : Prop | mk (x1 : T1) (x2 : T2) (x3 : T3) (x4 : T4) (x5 : T5) (x6 : T6) (h : p x1 x2 x3 x4 x5 x6) : Xs6 p
inductive Xs7 {T1 T2 T3 T4 T5 T6 T7 : Type} (p : T1 → T2 → T3 → T4 → T5 → T6 → T7 → Prop) : Prop | mk (x1 : T1) (x2 : T2) (x3 : T3) (x4 : T4) (x5 : T5) (x6 : T6) (x7 : T7) (h : p x1 x2 x3 x4 x5 x6 x7) : Xs7 p
inductive Xs8 {T1 T2 T3 T4 T5 T6 T7 T8 : Type} (p : T1 → T2 → T3 → T4 → T5 → T6 → T7 → T8 → Prop) : Prop | mk (x1 : T1) (x2 : T2) (x3 : T3) (x4 : T4) (x5 : T5) (x6 : T6) (x7 : T7) (x8 : T8) (h : p x1 x2 x3 x4 x5 x6 x7 x8) : Xs8 p
theorem ltk1 {a0 d : Nat} {o0 : Obj} (h : ∀ p ∈ ([(a0, o0)] : List (Addr × Obj)), p.1 < d) : @LT.lt Nat _ a0 d := h _ (.head _)
theorem ltk2 {a0 a1 d : Nat} {o0 o1 : Obj} (h : ∀ p ∈ ([(a0, o0), (a1, o1)] : List (Addr × Obj)), p.1 < d) : @LT.lt Nat _ a0 d ∧ @LT.lt Nat _ a1 d := ⟨h _ (.head _), h _ (.tail _ (.head _))⟩
theorem ltk3 {a0 a1 a2 d : Nat} {o0 o1 o2 : Obj} (h : ∀ p ∈ ([(a0, o0), (a1, o1), (a2, o2)] : List (Addr × Obj)), p.1 < d) : @LT.lt Nat _ a0 d ∧ @LT.lt Nat _ a1 d ∧ @LT.lt Nat _ a2 d := ⟨h _ (.head _), h _ (.tail _ (.head _)), h _ (.tail _ (.tail _ (.head _)))⟩
theorem ltk4 {a0 a1 a2 a3 d : Nat} {o0 o1 o2 o3 : Obj} (h : ∀ p ∈ ([(a0, o0), (a1, o1), (a2, o2), (a3, o3)] : List (Addr × Obj)), p.1 < d) : @LT.lt Nat _ a0 d ∧ @LT.lt Nat _ a1 d ∧ @LT.lt Nat _ a2 d ∧ @LT.lt Nat _ a3 d := ⟨h _ (.head _), h _ (.tail _ (.head _)), h _ (.tail _ (.tail _ (.head _))), h _ (.tail _ (.tail _ (.tail _ (.head _))))⟩
theorem ltk5 {a0 a1 a2 a3 a4 d : Nat} {o0 o1 o2 o3 o4 : Obj} (h : ∀ p ∈ ([(a0, o0), (a1, o1), (a2, o2), (a3, o3), (a4, o4)] : List (Addr × Obj)), p.1 < d) : @LT.lt Nat _ a0 d ∧ @LT.lt Nat _ a1 d ∧ @LT.lt Nat _ a2 d ∧ @LT.lt Nat _ a3 d ∧ @LT.lt Nat _ a4 d := ⟨h _ (.head _), h _ (.tail _ (.head _)), h _ (.tail _ (.tail _ (.head _))), h _ (.tail _ (.tail _ (.tail _ (.head _)))), h _ (.tail _ (.tail _ (.tail _ (.tail _ (.head _)))))⟩
theorem ltk6 {a0 a1 a2 a3 a4 a5 d : Nat} {o0 o1 o2 o3 o4 o5 : Obj} (h : ∀ p ∈ ([(a0, o0), (a1, o1), (a2, o2), (a3, o3), (a4, o4), (a5, o5)] : List (Addr × Obj)), p.1 < d) : @LT.lt Nat _ a0 d ∧ @LT.lt Nat _ a1 d ∧ @LT.lt Nat _ a2 d ∧ @LT.lt Nat _ a3 d ∧ @LT.lt Nat _ a4 d ∧ @LT.lt Nat _ a5 d := ⟨h _ (.head _), h _ (.tail _ (.head _)), h _ (.tail _ (.tail _ (.head _))), h _ (.tail _ (.tail _ (.tail _ (.head _)))), h _ (.tail _ (.tail _ (.tail _ (.tail _ (.head _))))), h _ (.tail _ (.tail _ (.tail _ (.tail _ (.tail _ (.head _))))))⟩
theorem ltk7 {a0 a1 a2 a3 a4 a5 a6 d : Nat} {o0 o1 o2 o3 o4 o5 o6 : Obj} (h : ∀ p ∈ ([(a0, o0), (a1, o1), (a2, o2), (a3, o3), (a4, o4), (a5, o5), (a6, o6)] : List (Addr × Obj)), p.1 < d) : @LT.lt Nat _ a0 d ∧ @LT.lt Nat _ a1 d ∧ @LT.lt Nat _ a2 d ∧ @LT.lt Nat _ a3 d ∧ @LT.lt Nat _ a4 d ∧ @LT.lt Nat _ a5 d ∧ @LT.lt Nat _ a6 d := ⟨h _ (.head _), h _ (.tail _ (.head _)), h _ (.tail _ (.tail _ (.head _))), h _ (.tail _ (.tail _ (.tail _ (.head _)))), h _ (.tail _ (.tail _ (.tail _ (.tail _ (.head _))))), h _ (.tail _ (.tail _ (.tail _ (.tail _ (.tail _ (.head _)))))), h _ (.tail _ (.tail _ (.tail _ (.tail _ (.tail _ (.tail _ (.head _)))))))⟩
theorem ltk8 {a0 a1 a2 a3 a4 a5 a6 a7 d : Nat} {o0 o1 o2 o3 o4 o5 o6 o7 : Obj} (h : ∀ p ∈ ([(a0, o0), (a1, o1), (a2, o2), (a3, o3), (a4, o4), (a5, o5), (a6, o6), (a7, o7)] : List (Addr × Obj)), p.1 < d) : @LT.lt Nat _ a0 d ∧ @LT.lt Nat _ a1 d ∧ @LT.lt Nat _ a2 d ∧ @LT.lt Nat _ a3 d ∧ @LT.lt Nat _ a4 d ∧ @LT.lt Nat _ a5 d ∧ @LT.lt Nat _ a6 d ∧ @LT.lt Nat _ a7 d := ⟨h _ (.head _), h _ (.tail _ (.head _)), h _ (.tail _ (.tail _ (.head _))), h _ (.tail _ (.tail _ (.tail _ (.head _)))), h _ (.tail _ (.tail _ (.tail _ (.tail _ (.head _))))), h _ (.tail _ (.tail _ (.tail _ (.tail _ (.tail _ (.head _)))))), h _ (.tail _ (.tail _ (.tail _ (.tail _ (.tail _ (.tail _ (.head _))))))), h _ (.tail _ (.tail _ (.tail _ (.tail _ (.tail _ (.tail _ (.tail _ (.head _))))))))⟩
theorem ltk9 {a0 a1 a2 a3 a4 a5 a6 a7 a8 d : Nat} {o0 o1 o2 o3 o4 o5 o6 o7 o8 : Obj} (h : ∀ p ∈ ([(a0, o0), (a1, o1), (a2, o2), (a3, o3), (a4, o4), (a5, o5), (a6, o6), (a7, o7), (a8, o8)] : List (Addr × Obj)), p.1 < d) : @LT.lt Nat _ a0 d ∧ @LT.lt Nat _ a1 d ∧ @LT.lt Nat _ a2 d ∧ @LT.lt Nat _ a3 d ∧ @LT.lt Nat _ a4 d ∧ @LT.lt Nat _ a5 d ∧ @LT.lt Nat _ a6 d ∧ @LT.lt Nat _ a7 d ∧ @LT.lt Nat _ a8 d := ⟨h _ (.head _), h _ (.tail _ (.head _)), h _ (.tail _ (.tail _ (.head _))), h _ (.tail _ (.tail _ (.tail _ (.head _)))), h _ (.tail _ (.tail _ (.tail _ (.tail _ (.head _))))), h _ (.tail _ (.tail _ (.tail _ (.tail _ (.tail _ (.head _)))))), h _ (.tail _ (.tail _ (.tail _ (.tail _ (.tail _ (.tail _ (.head _))))))), h _ (.tail _ (.tail _ (.tail _ (.tail _ (.tail _ (.tail _ (.tail _ (.head _)))))))), h _ (.tail _ (.tail _ (.tail _ (.tail _ (.tail _ (.tail _ (.tail _ (.tail _ (.head _)))))))))⟩
theorem ltk10 {a0 a1 a2 a3 a4 a5 a6 a7 a8 a9 d : Nat} {o0 o1 o2 o3 o4 o5 o6 o7 o8 o9 : Obj} (h : ∀ p ∈ ([(a0, o0), (a1, o1), (a2, o2), (a3, o3), (a4, o4), (a5, o5), (a6, o6), (a7, o7), (a8, o8), (a9, o9)] : List (Addr × Obj)), p.1 < d) : @LT.lt Nat _ a0 d ∧ @LT.lt Nat _ a1 d ∧ @LT.lt Nat _ a2 d ∧ @LT.lt Nat _ a3 d ∧ @LT.lt Nat _ a4 d ∧ @LT.lt Nat _ a5 d ∧ @LT.lt Nat _ a6 d ∧ @LT.lt Nat _ a7 d ∧ @LT.lt Nat _ a8 d ∧ @LT.lt Nat _ a9 d := ⟨h _ (.head _), h _ (.tail _ (.head _)), h _ (.tail _ (.tail _ (.head _))), h _ (.tail _ (.tail _ (.tail _ (.head _)))), h _ (.tail _ (.tail _ (.tail _ (.tail _ (.head _))))), h _ (.tail _ (.tail _ (.tail _ (.tail _ (.tail _ (.head _)))))), h _ (.tail _ (.tail _ (.tail _ (.tail _ (.tail _ (.tail _ (.head _))))))), h _ (.tail _ (.tail _ (.tail _ (.tail _ (.tail _ (.tail _ (.tail _ (.head _)))))))), h _ (.tail _ (.tail _ (.tail _ (.tail _ (.tail _ (.tail _ (.tail _ (.tail _ (.head _))))))))), h _ (.tail _ (.tail _ (.tail _ (.tail _ (.tail _ (.tail _ (.tail _ (.tail _ (.tail _ (.head _))))))))))⟩
theorem ltk11 {a0 a1 a2 a3 a4 a5 a6 a7 a8 a9 a10 d : Nat} {o0 o1 o2 o3 o4 o5 o6 o7 o8 o9 o10 : Obj} (h : ∀ p ∈ ([(a0, o0), (a1, o1), (a2, o2), (a3, o3), (a4, o4), (a5, o5), (a6, o6), (a7, o7), (a8, o8), (a9, o9), (a10, o10)] : List (Addr × Obj)), p.1 < d) : @LT.lt Nat _ a0 d ∧ @LT.lt Nat _ a1 d ∧ @LT.lt Nat _ a2 d ∧ @LT.lt Nat _ a3 d ∧ @LT.lt Nat _ a4 d ∧ @LT.lt Nat _ a5 d ∧ @LT.lt Nat _ a6 d ∧ @LT.lt Nat _ a7 d ∧ @LT.lt Nat _ a8 d ∧ @LT.lt Nat _ a9 d ∧ @LT.lt Nat _ a10 d := ⟨h _ (.head _), h _ (.tail _ (.head _)), h _ (.tail _ (.tail _ (.head _))), h _ (.tail _ (.tail _ (.tail _ (.head _)))), h _ (.tail _ (.tail _ (.tail _ (.tail _ (.head _))))), h _ (.tail _ (.tail _ (.tail _ (.tail _ (.tail _ (.head _)))))), h _ (.tail _ (.tail _ (.tail _ (.tail _ (.tail _ (.tail _ (.head _))))))), h _ (.tail _ (.tail _ (.tail _ (.tail _ (.tail _ (.tail _ (.tail _ (.head _)))))))), h _ (.tail _ (.tail _ (.tail _ (.tail _ (.tail _ (.tail _ (.tail _ (.tail _ (.head _))))))))), h _ (.tail _ (.tail _ (.tail _ (.tail _ (.tail _ (.tail _ (.tail _ (.tail _ (.tail _ (.head _)))))))))), h _ (.tail _ (.tail _ (.tail _ (.tail _ (.tail _ (.tail _ (.tail _ (.tail _ (.tail _ (.tail _ (.head _)))))))))))⟩
theorem ltk12 {a0 a1 a2 a3 a4 a5 a6 a7 a8 a9 a10 a11 d : Nat} {o0 o1 o2 o3 o4 o5 o6 o7 o8 o9 o10 o11 : Obj} (h : ∀ p ∈ ([(a0, o0), (a1, o1), (a2, o2), (a3, o3), (a4, o4), (a5, o5), (a6, o6), (a7, o7), (a8, o8), (a9, o9), (a10, o10), (a11, o11)] : List (Addr × Obj)), p.1 < d) : @LT.lt Nat _ a0 d ∧ @LT.lt Nat _ a1 d ∧ @LT.lt Nat _ a2 d ∧ @LT.lt Nat _ a3 d ∧ @LT.lt Nat _ a4 d ∧ @LT.lt Nat _ a5 d ∧ @LT.lt Nat _ a6 d ∧ @LT.lt Nat _ a7 d ∧ @LT.lt Nat _ a8 d ∧ @LT.lt Nat _ a9 d ∧ @LT.lt Nat _ a10 d ∧ @LT.lt Nat _ a11 d := ⟨h _ (.head _), h _ (.tail _ (.head _)), h _ (.tail _ (.tail _ (.head _))), h _ (.tail _ (.tail _ (.tail _ (.head _)))), h _ (.tail _ (.tail _ (.tail _ (.tail _ (.head _))))), h _ (.tail _ (.tail _ (.tail _ (.tail _ (.tail _ (.head _)))))), h _ (.tail _ (.tail _ (.tail _ (.tail _ (.tail _ (.tail _ (.head _))))))), h _ (.tail _ (.tail _ (.tail _ (.tail _ (.tail _ (.tail _ (.tail _ (.head _)))))))), h _ (.tail _ (.tail _ (.tail _ (.tail _ (.tail _ (.tail _ (.tail _ (.tail _ (.head _))))))))), h _ (.tail _ (.tail _ (.tail _ (.tail _ (.tail _ (.tail _ (.tail _ (.tail _ (.tail _ (.head _)))))))))), h _ (.tail _ (.tail _ (.tail _ (.tail _ (.tail _ (.tail _ (.tail _ (.tail _ (.tail _ (.tail _ (.head _))))))))))), h _ (.tail _ (.tail _ (.tail _ (.tail _ (.tail _ (.tail _ (.tail _ (.tail _ (.tail _ (.tail _ (.tail _ (.head _))))))))))))⟩
theorem nq0 {a d : Nat} {r : Prop} (h : @LT.lt Nat _ a d ∧ r) : a ≠ d := Nat.ne_of_lt h.1
theorem nl0 {a d : Nat} (h : @LT.lt Nat _ a d) : a ≠ d := Nat.ne_of_lt h
theorem rq0 {a d : Nat} {r : Prop} (h : @LT.lt Nat _ a d ∧ r) : d ≠ a := Nat.ne_of_gt h.1
theorem nq1 {a d : Nat} {r : Prop} {x0 : Prop} (h : x0 ∧ @LT.lt Nat _ a d ∧ r) : a ≠ d := Nat.ne_of_lt h.2.1
theorem nl1 {a d : Nat} {x0 : Prop} (h : x0 ∧ @LT.lt Nat _ a d) : a ≠ d := Nat.ne_of_lt h.2
theorem rq1 {a d : Nat} {r : Prop} {x0 : Prop} (h : x0 ∧ @LT.lt Nat _ a d ∧ r) : d ≠ a := Nat.ne_of_gt h.2.1
theorem rl1 {a d : Nat} {x0 : Prop} (h : x0 ∧ @LT.lt Nat _ a d) : d ≠ a := Nat.ne_of_gt h.2
theorem nq2 {a d : Nat} {r : Prop} {x0 x1 : Prop} (h : x0 ∧ x1 ∧ @LT.lt Nat _ a d ∧ r) : a ≠ d := Nat.ne_of_lt h.2.2.1
theorem nl2 {a d : Nat} {x0 x1 : Prop} (h : x0 ∧ x1 ∧ @LT.lt Nat _ a d) : a ≠ d := Nat.ne_of_lt h.2.2
theorem rq2 {a d : Nat} {r : Prop} {x0 x1 : Prop} (h : x0 ∧ x1 ∧ @LT.lt Nat _ a d ∧ r) : d ≠ a := Nat.ne_of_gt h.2.2.1
theorem rl2 {a d : Nat} {x0 x1 : Prop} (h : x0 ∧ x1 ∧ @LT.lt Nat _ a d) : d ≠ a := Nat.ne_of_gt h.2.2
theorem nq3 {a d : Nat} {r : Prop} {x0 x1 x2 : Prop} (h : x0 ∧ x1 ∧ x2 ∧ @LT.lt Nat _ a d ∧ r) : a ≠ d := Nat.ne_of_lt h.2.2.2.1
theorem rq3 {a d : Nat} {r : Prop} {x0 x1 x2 : Prop} (h : x0 ∧ x1 ∧ x2 ∧ @LT.lt Nat _ a d ∧ r) : d ≠ a := Nat.ne_of_gt h.2.2.2.1
theorem rl3 {a d : Nat} {x0 x1 x2 : Prop} (h : x0 ∧ x1 ∧ x2 ∧ @LT.lt Nat _ a d) : d ≠ a := Nat.ne_of_gt h.2.2.2
theorem nq4 {a d : Nat} {r : Prop} {x0 x1 x2 x3 : Prop} (h : x0 ∧ x1 ∧ x2 ∧ x3 ∧ @LT.lt Nat _ a d ∧ r) : a ≠ d := Nat.ne_of_lt h.2.2.2.2.1
theorem nq5 {a d : Nat} {r : Prop} {x0 x1 x2 x3 x4 : Prop} (h : x0 ∧ x1 ∧ x2 ∧ x3 ∧ x4 ∧ @LT.lt Nat _ a d ∧ r) : a ≠ d := Nat.ne_of_lt h.2.2.2.2.2.1
theorem nq6 {a d : Nat} {r : Prop} {x0 x1 x2 x3 x4 x5 : Prop} (h : x0 ∧ x1 ∧ x2 ∧ x3 ∧ x4 ∧ x5 ∧ @LT.lt Nat _ a d ∧ r) : a ≠ d := Nat.ne_of_lt h.2.2.2.2.2.2.1
theorem nl6 {a d : Nat} {x0 x1 x2 x3 x4 x5 : Prop} (h : x0 ∧ x1 ∧ x2 ∧ x3 ∧ x4 ∧ x5 ∧ @LT.lt Nat _ a d) : a ≠ d := Nat.ne_of_lt h.2.2.2.2.2.2
theorem nq7 {a d : Nat} {r : Prop} {x0 x1 x2 x3 x4 x5 x6 : Prop} (h : x0 ∧ x1 ∧ x2 ∧ x3 ∧ x4 ∧ x5 ∧ x6 ∧ @LT.lt Nat _ a d ∧ r) : a ≠ d := Nat.ne_of_lt h.2.2.2.2.2.2.2.1
theorem nl7 {a d : Nat} {x0 x1 x2 x3 x4 x5 x6 : Prop} (h : x0 ∧ x1 ∧ x2 ∧ x3 ∧ x4 ∧ x5 ∧ x6 ∧ @LT.lt Nat _ a d) : a ≠ d := Nat.ne_of_lt h.2.2.2.2.2.2.2
theorem nq8 {a d : Nat} {r : Prop} {x0 x1 x2 x3 x4 x5 x6 x7 : Prop} (h : x0 ∧ x1 ∧ x2 ∧ x3 ∧ x4 ∧ x5 ∧ x6 ∧ x7 ∧ @LT.lt Nat _ a d ∧ r) : a ≠ d := Nat.ne_of_lt h.2.2.2.2.2.2.2.2.1
theorem nl8 {a d : Nat} {x0 x1 x2 x3 x4 x5 x6 x7 : Prop} (h : x0 ∧ x1 ∧ x2 ∧ x3 ∧ x4 ∧ x5 ∧ x6 ∧ x7 ∧ @LT.lt Nat _ a d) : a ≠ d := Nat.ne_of_lt h.2.2.2.2.2.2.2.2
theorem nl9 {a d : Nat} {x0 x1 x2 x3 x4 x5 x6 x7 x8 : Prop} (h : x0 ∧ x1 ∧ x2 ∧ x3 ∧ x4 ∧ x5 ∧ x6 ∧ x7 ∧ x8 ∧ @LT.lt Nat _ a d) : a ≠ d := Nat.ne_of_lt h.2.2.2.2.2.2.2.2.2


section
variable {prog : Program} {w : World} {A : Around} {s : Shared} {K : Frag} {Q E : Value → Shared → Prop} {name qual : Str} {params : Arguments} {body : List Stmt} {scope : Scope} {dV kV doc pm cdv ct oc : Value} {an od : Option Addr} {osl : Array (Option Value)} {f : Addr} {args : List Value} {binds : List (Str × Value)}
theorem enter_plain
    (X : K.In s.heap) (T : s.heap.NoLimit) (hroom : A.depth < recursionLimit)
    (ho : K.lookup f = some ⟨oc, od, .func (fnOf name qual params body scope dV kV doc pm an cdv ct), osl⟩) (hcd : codeIn K cdv qual = true)
    (hbind : BindsTo s (fnOf name qual params body scope dV kV doc pm an cdv ct) ⟨args, []⟩ binds)
    (hloc : ∀ y ∈ binds, scope.names.lookup y.1 = some .local) (hcell : ∀ x ∈ scope.names, x.2 ≠ .cell)
    (h : ∀ h₁, Fr s.heap s.heap.objs.size h₁ (fun x => binds.reverse.lookup x) → News s.heap s.heap.objs.size h₁ [] →
      wpAny (model prog w) (A.deeper (envX qual scope s.heap.objs.size f cdv [])) (execs body (envX qual scope s.heap.objs.size f cdv [])) (fun fl s' => Q (match fl with | .ret v => v | _ => .none) s') (fun _ _ => False) { s with heap := h₁, toks := s.toks + binds.length })
    (hco : scope.isCoroutine = false) (hgen : scope.isGenerator = false) (hk : scope.kind = .function) :
    wpAny (model prog w) A (call (.ref f) args) Q E s := by
  refine wpAny_call (codeAny_call_def (fd := fnOf name qual params body scope dV kV doc pm an cdv ct) (body := body) (binds := binds) hroom (X _ _ ho) rfl T (codeRec_of X hcd) rfl hbind hcell hloc (fun h₁ hns hk₁ => ?_) hco hgen hk)
  exact wpAny_mono (h h₁ ⟨hns, hk₁, Nat.le_refl _⟩ News.nil) (fun _ _ q => q) (fun _ _ q => q.elim)

theorem enter_cells
    (X : K.In s.heap) (T : s.heap.NoLimit) (hroom : A.depth < recursionLimit)
    (ho : K.lookup f = some ⟨oc, od, .func (fnOf name qual params body scope dV kV doc pm an cdv ct), osl⟩) (hcd : codeIn K cdv qual = true)
    (hbind : BindsTo s (fnOf name qual params body scope dV kV doc pm an cdv ct) ⟨args, []⟩ binds)
    (hkind : (binds.all fun y => scope.names.lookup y.1 == some .local || scope.names.lookup y.1 == some .cell) = true)
    (hnd : ((cellsFrom 0 scope.names []).map (·.1)).Nodup)
    (h : ∀ h₁ tk cells, Fr s.heap s.heap.objs.size h₁ (bindL (envOfC qual scope s.heap.objs.size f cdv).kindOf binds fun _ => none) → News s.heap s.heap.objs.size h₁ cells →
      CellsAre (bindC (envOfC qual scope s.heap.objs.size f cdv).kindOf binds fun _ => none) (cellsFrom (s.heap.objs.size + 1) scope.names []) cells →
      wpAny (model prog w) (A.deeper (envOfC qual scope s.heap.objs.size f cdv)) (execs body (envOfC qual scope s.heap.objs.size f cdv)) (fun fl s' => Q (match fl with | .ret v => v | _ => .none) s') (fun _ _ => False) { s with heap := h₁, toks := tk })
    (hco : scope.isCoroutine = false) (hgen : scope.isGenerator = false) (hk : scope.kind = .function) :
    wpAny (model prog w) A (call (.ref f) args) Q E s := by
  refine wpAny_call (codeAny_call_function hroom (X _ _ ho) rfl hco hgen rfl (codeRec_of X hcd) (hbind _ _ _ _ ?_))
  refine wpAny_newFunctionEnv_cells hk (kindsX hkind _) fun env' he s' x => ?_
  subst he
  refine ⟨T.keeps x.toInCall.keep, codeAny_func ?_⟩
  obtain ⟨h₁, tk, rfl, _⟩ := x.done
  have hk₁ := x.toInCall.keep
  obtain ⟨cells, NC, Y⟩ := Cl.news (h₀ := s.heap) (Nat.le_refl _) fun n c hm => ⟨x.cell n c (lookup_of_mem_nodup (cellsFrom_names scope.names 0 (s.heap.objs.size + 1) [] [] rfl ▸ hnd) hm), x.above n c hm⟩
  exact wpAny_mono (h h₁ tk cells ⟨x.toInCall.ns, hk₁, Nat.le_refl _⟩ NC Y) (fun _ _ q => q) (fun _ _ q => q.elim)
end

noncomputable def Reps {α : Type} (R : Heap → Value → α → Prop) (h : Heap) : List Value → List α → Prop
  | [], [] => True
  | v :: vs, x :: xs => R h v x ∧ Reps R h vs xs
  | _, _ => False
noncomputable abbrev Pres (h h' : Heap) : Prop := ∀ b o, h.get? b = some o → h'.get? b = some o
theorem Reps.len {α : Type} {R : Heap → Value → α → Prop} {h : Heap} : ∀ {vs : List Value} {xs : List α}, Reps R h vs xs → vs.length = xs.length
  | [], [], _ => rfl
  | _ :: _, _ :: _, h => congrArg (· + 1) (Reps.len h.2)
  | [], _ :: _, h => h.elim
  | _ :: _, [], h => h.elim
theorem Reps.get {α : Type} {R : Heap → Value → α → Prop} {h : Heap} : ∀ {vs : List Value} {xs : List α}, Reps R h vs xs → ∀ {i : Nat} {x : α}, xs[i]? = some x → ∃ v, vs[i]? = some v ∧ R h v x
  | [], [], _, i, x, e => by simp at e
  | v :: _, y :: _, h, 0, x, e => by simp at e; subst e; exact ⟨v, rfl, h.1⟩
  | _ :: _, _ :: _, h, i + 1, x, e => by simpa using Reps.get h.2 (i := i) (x := x) (by simpa using e)
  | [], _ :: _, h, _, _, _ => h.elim
  | _ :: _, [], h, _, _, _ => h.elim
theorem Reps.keeps {α : Type} {R : Heap → Value → α → Prop} {h h' : Heap} (k : ∀ v x, R h v x → R h' v x) : ∀ {vs : List Value} {xs : List α}, Reps R h vs xs → Reps R h' vs xs
  | [], [], _ => trivial
  | _ :: _, _ :: _, x => ⟨k _ _ x.1, Reps.keeps k x.2⟩
  | [], _ :: _, h => h.elim
  | _ :: _, [], h => h.elim
theorem Reps.snoc {α : Type} {R : Heap → Value → α → Prop} {h : Heap} {v : Value} {x : α} (hx : R h v x) : ∀ {vs : List Value} {xs : List α}, Reps R h vs xs → Reps R h (vs ++ [v]) (xs ++ [x])
  | [], [], _ => ⟨hx, trivial⟩
  | _ :: _, _ :: _, y => ⟨y.1, Reps.snoc hx y.2⟩
  | [], _ :: _, h => h.elim
  | _ :: _, [], h => h.elim
noncomputable def RList {α : Type} (R : Heap → Value → α → Prop) (h : Heap) (v : Value) (xs : List α) : Prop := ∃ a vs, v = .ref a ∧ h.IsList a vs.toArray ∧ Reps R h vs xs
theorem isList_keeps {h h' : Heap} (k : Pres h h') {a : Addr} {items : Array Value} (x : h.IsList a items) : h'.IsList a items := let ⟨o, e, r⟩ := x; ⟨o, k _ _ e, r⟩
theorem isTup_keeps {h h' : Heap} (k : Pres h h') {a : Addr} {items : Array Value} (x : IsTup h a items) : IsTup h' a items := IsTup.keeps x k
theorem RList.keeps {α : Type} {R : Heap → Value → α → Prop} {h h' : Heap} (k : Pres h h') (kR : ∀ v x, R h v x → R h' v x) {v : Value} {xs : List α} (x : RList R h v xs) : RList R h' v xs :=
  let ⟨a, vs, e, l, r⟩ := x; ⟨a, vs, e, isList_keeps k l, r.keeps kR⟩
noncomputable def RStr (_h : Heap) (v : Value) (x : Str) : Prop := ∃ t, v = .str x t
noncomputable def RPair (h : Heap) (v : Value) (p : Str × Str) : Prop := ∃ a t u, v = .ref a ∧ IsTup h a #[.str p.1 t, .str p.2 u]
theorem RPair.keeps {h h' : Heap} (k : Pres h h') {v : Value} {p : Str × Str} (x : RPair h v p) : RPair h' v p := let ⟨a, t, u, e, r⟩ := x; ⟨a, t, u, e, isTup_keeps k r⟩
noncomputable abbrev Sign := Bool × List (Str × Str)
noncomputable def RSign (h : Heap) (v : Value) (x : Sign) : Prop := ∃ a l, v = .ref a ∧ IsTup h a #[.bool x.1, l] ∧ RList RPair h l x.2
theorem RSign.keeps {h h' : Heap} (k : Pres h h') {v : Value} {p : Sign} (x : RSign h v p) : RSign h' v p := let ⟨a, l, e, r, q⟩ := x; ⟨a, l, e, isTup_keeps k r, q.keeps k fun _ _ => RPair.keeps k⟩
noncomputable abbrev RRun := RList RSign
theorem RRun.keeps {h h' : Heap} (k : Pres h h') {v : Value} {p : List Sign} (x : RRun h v p) : RRun h' v p := RList.keeps k (fun _ _ => RSign.keeps k) x
noncomputable abbrev RRuns := RList RRun
theorem RRuns.keeps {h h' : Heap} (k : Pres h h') {v : Value} {p : List (List Sign)} (x : RRuns h v p) : RRuns h' v p := RList.keeps k (fun _ _ => RRun.keeps k) x
section
variable {prog : Program} {w : World} {A : Around} {s : Shared} {Q E : Value → Shared → Prop} {h₀ : Heap} {L : Addr} {m : Str → Option Value}
theorem len_list {l : Addr} {items : Array Value} (F : Fr h₀ L s.heap m) (hl : h₀.IsList l items) (hfit : items.size < 2 ^ 62) (h : Q (.int items.size (s.toks + 1)) { s with toks := s.toks + 1 + 1 }) :
    wpAny (model prog w) A (call (.builtin "len") [.ref l]) Q E s := call_len_list (isList_keeps F.keep hl) (by omega) h
end
theorem ite_b {b : Bool} {X Y : Prop} (h1 : b = true → X) (h2 : b = false → Y) : if b = true then X else Y := by
  cases b with
  | true => exact h1 rfl
  | false => exact h2 rfl
theorem ite_t {X Y : Prop} (h : X) : if true = true then X else Y := h
theorem ite_f {X Y : Prop} (h : Y) : if false = true then X else Y := h
theorem ite_tt {b : Bool} {X Y : Prop} (hb : b = true) (h : X) : if b = true then X else Y := by rw [if_pos hb]; exact h
theorem ite_ff {b : Bool} {X Y : Prop} (hb : b = false) (h : Y) : if b = true then X else Y := by rw [hb]; exact h
theorem ite_nt {X Y : Prop} (h : Y) : if (!true) = true then X else Y := h
theorem ite_nf {X Y : Prop} (h : X) : if (!false) = true then X else Y := h
theorem ite_d {p : Prop} [Decidable p] {X Y : Prop} (h1 : p → X) (h2 : ¬ p → Y) : if decide p = true then X else Y := by
  by_cases h : p
  · rw [if_pos (decide_eq_true h)]; exact h1 h
  · rw [if_neg (by rw [decide_eq_false h]; exact Bool.false_ne_true)]; exact h2 h
section
variable {prog : Program} {w : World} {A : Around} {s : Shared} {E : Value → Shared → Prop} {h₀ : Heap} {L : Addr} {m : Str → Option Value} {news : List (Addr × Obj)}
noncomputable abbrev rangeObj (n : Int) (t : Tok) : Obj := { cls := .type "range", data := .fields #[.int 0 0, .int n t, .int 1 0] }
end
theorem seqIndex_nat {i n : Nat} (h : i < n) : seqIndex? (i : Int) n = some i := by
  unfold seqIndex?
  have h1 : ¬ ((i : Int) < 0) := by omega
  have h2 : ((i : Int) < (n : Int)) := by omega
  simp only [if_neg h1, h2, decide_true, Bool.and_true]
  rw [if_pos (by simp)]
  simp
section
variable {prog : Program} {w : World} {A : Around} {s : Shared} {E : Value → Shared → Prop} {Q : Value → Shared → Prop} {h₀ : Heap} {L : Addr} {m : Str → Option Value} {news : List (Addr × Obj)} {value slice : PySem.Expr}
theorem item_list {a : Addr} {vs : List Value} {i : Nat} {k : Int} {u : Tok} {x : Value} (hl : s.heap.IsList a vs.toArray) (hx : vs[i]? = some x) (hk : k = (i : Int)) (hi : i < 2 ^ 62) (h : Q x s)
    (hs : subscripted slice false (.ref a) (.int k u) = operate [.ref a, .int k u] (getItem (.ref a) (.int k u))) :
    wpAny (model prog w) A (subscriptTail value slice (.ref a) (.int k u)) Q E s := by
  subst hk
  exact PyProof.Rows.tail_any hl.typeIs slot_list_getitem.lookup (wpAny_getItem_list hl (by omega) (by omega) (by simpa using hx) h) hs
theorem item_tup {a : Addr} {vs : List Value} {i : Nat} {k : Int} {u : Tok} {x : Value} (hl : IsTup s.heap a vs.toArray) (hx : vs[i]? = some x) (hk : k = (i : Int)) (hi : i < 2 ^ 62) (h : Q x s)
    (hs : subscripted slice false (.ref a) (.int k u) = operate [.ref a, .int k u] (getItem (.ref a) (.int k u))) :
    wpAny (model prog w) A (subscriptTail value slice (.ref a) (.int k u)) Q E s := by
  subst hk
  have hlt : i < vs.length := by
    rcases Nat.lt_or_ge i vs.length with q | q
    · exact q
    · rw [List.getElem?_eq_none q] at hx; cases hx
  exact item_tupleT (j := i) hl (by omega) (by omega) (seqIndex_nat hlt) hx h hs
theorem item_neg1 {a : Addr} {vs : List Value} {u : Tok} {x : Value} (hl : s.heap.IsList a (vs ++ [x]).toArray) (hlen : vs.length < 2 ^ 60) (h : Q x s)
    (hs : subscripted slice false (.ref a) (.int (-1) u) = operate [.ref a, .int (-1) u] (getItem (.ref a) (.int (-1) u))) :
    wpAny (model prog w) A (subscriptTail value slice (.ref a) (.int (-1) u)) Q E s := by
  refine PyProof.Rows.tail_any hl.typeIs slot_list_getitem.lookup (wpAny_getItem_list_neg (x := x) hl (by omega) (by simp; omega) (by omega) ?_ h) hs
  have e : ((-1 : Int) + ((vs ++ [x]).toArray.size : Nat)).toNat = vs.length := by simp; omega
  rw [e]; simp
theorem item_last {a : Addr} {vs : List Value} {u : Tok} {x : Value} (hl : s.heap.IsList a vs.toArray) (hx : vs.getLast? = some x) (hlen : vs.length < 2 ^ 60) (h : Q x s)
    (hs : subscripted slice false (.ref a) (.int (-1) u) = operate [.ref a, .int (-1) u] (getItem (.ref a) (.int (-1) u))) :
    wpAny (model prog w) A (subscriptTail value slice (.ref a) (.int (-1) u)) Q E s := by
  obtain ⟨ys, rfl⟩ := List.getLast?_eq_some_iff.mp hx
  exact item_neg1 hl (by simp at hlen; omega) h hs
theorem str_at {x : Str} {t u : Tok} {i c : Nat} {k : Int} (hx : x.cps[i]? = some c) (hk : k = (i : Int)) (hi : i < 2 ^ 62) (h : Q (.str ⟨#[c]⟩ s.toks) { s with toks := s.toks + 1 })
    (hs : subscripted slice false (.str x t) (.int k u) = operate [.str x t, .int k u] (getItem (.str x t) (.int k u))) :
    wpAny (model prog w) A (subscriptTail value slice (.str x t) (.int k u)) Q E s := by
  subst hk
  refine PyProof.Rows.tail_any (typeIs_str s x t) F.slot_str_getitem.lookup (P.getItem_str (c := c) (by simp; omega) ?_ h) hs
  have hlt : i < x.length := by
    rcases Nat.lt_or_ge i x.cps.size with q | q
    · exact q
    · rw [Array.getElem?_eq_none q] at hx; cases hx
  rw [seqIndex_nat hlt]; exact hx
end
theorem ledN0 {h₀ h : Heap} {L a : Addr} {o : Obj} {r : List (Addr × Obj)} (_ : News h₀ L h ((a, o) :: r)) : ∃ x, x = a := ⟨_, rfl⟩
theorem ledN1 {h₀ h : Heap} {L b : Addr} {p : Addr × Obj} {o : Obj} {r : List (Addr × Obj)} (_ : News h₀ L h (p :: (b, o) :: r)) : ∃ x, x = b := ⟨_, rfl⟩
theorem ledN2 {h₀ h : Heap} {L b : Addr} {p q : Addr × Obj} {o : Obj} {r : List (Addr × Obj)} (_ : News h₀ L h (p :: q :: (b, o) :: r)) : ∃ x, x = b := ⟨_, rfl⟩
theorem upd_hit {x : Str} {inst : Decidable (x = x)} {a b : Option Value} : (@ite _ (x = x) inst a b) = a := if_pos rfl
theorem upd_miss {x z : Str} {inst : Decidable (z = x)} {a b r : Option Value} (h : z ≠ x) (e : b = r) : (@ite _ (z = x) inst a b) = r := (if_neg h).trans e
theorem upd_eq {x : Str} {v : Value} {m : Str → Option Value} : (fun y => if y = x then some v else m y) x = some v := if_pos rfl
theorem upd_ne {x z : Str} {v : Value} {m : Str → Option Value} {r : Option Value} (h : z ≠ x) (e : m z = r) : (fun y => if y = x then some v else m y) z = r := (if_neg h).trans e
theorem off3 {a b c I : Nat} {x y z : Obj} (h : ∀ p ∈ [((a : Addr), x), (b, y), (c, z)], p.1 ≠ I) : a ≠ I ∧ b ≠ I ∧ c ≠ I :=
  ⟨h _ (.head _), h _ (.tail _ (.head _)), h _ (.tail _ (.tail _ (.head _)))⟩
section
variable {M : Model} {A : Around} {E : Value → Shared → Prop} {s : Shared} {K : Frag} {hB : Heap} {C c : Addr} {m mg mb : Str → Option Value} {news : List (Addr × Obj)} {scope : Scope} {cl : List (Str × Addr)} {env : Env} {x : Str} {pos : Pos} {v : Value} {o : Obj} {p : Program} {loose : List Str}
theorem nameC_L {Q : Value → Shared → Prop} (F : Fr hB C s.heap m) (hv : m x = some v) (h : Q v s) (hk : (compEnvC scope cl C env).scope.kind = .function) (hx : (compEnvC scope cl C env).kindOf x = some .local) (hb : (x == ("__debug__" : Str)) = false) :
    wpAny M A (eval (.Name x pos) (compEnvC scope cl C env)) Q E s := wpAny_Name (wpAny_loadName_local hk hx F.ns hv h) hb
theorem nameC_C {Q : Value → Shared → Prop} (F : Fr hB C s.heap m) (hc : cl.lookup x = some c) (ho : hB.get? c = some o) (hd : o.data = .cell (some v)) (h : Q v s)
    (hk : (compEnvC scope cl C env).scope.kind = .function) (hx : (compEnvC scope cl C env).kindOf x = some .cell) (hb : (x == ("__debug__" : Str)) = false) :
    wpAny M A (eval (.Name x pos) (compEnvC scope cl C env)) Q E s := wpAny_Name (wpAny_loadName_cell hk hx hc ⟨o, F.keep _ _ ho, hd⟩ h) hb
theorem nameC_K {Q : Value → Shared → Prop} (F : Fr hB C s.heap m) (X : K.In hB) (T : TopRead p loose mg mb hB) (hG : env.globals = mainGlobals) (e : nsIn K mainGlobals x = some (some v)) (h : Q v s)
    (hk : (compEnvC scope cl C env).scope.kind = .function) (hx : (compEnvC scope cl C env).kindOf x = some .globalImplicit) (hd : (x == ("__debug__" : Str)) = false) :
    wpAny M A (eval (.Name x pos) (compEnvC scope cl C env)) Q E s :=
  Name_function_global hk hx (loadGlobal_global (env := compEnvC scope cl C env) (by show s.heap.Ns env.globals mg; rw [hG]; exact T.g.keeps F.keep) (mg_of X T.g e) h) hd
theorem nameC_B {Q : Value → Shared → Prop} (F : Fr hB C s.heap m) (X : K.In hB) (T : TopRead p loose mg mb hB) (hG : env.globals = mainGlobals) (hU : env.builtins = builtinsNs) (e : nsIn K mainGlobals x = some none) (hv : bootBuiltins x = some v) (hn : x ≠ "__name__") (h : Q v s)
    (hk : (compEnvC scope cl C env).scope.kind = .function) (hx : (compEnvC scope cl C env).kindOf x = some .globalImplicit) (hd : (x == ("__debug__" : Str)) = false) :
    wpAny M A (eval (.Name x pos) (compEnvC scope cl C env)) Q E s :=
  Name_function_global hk hx (loadGlobal_builtin (env := compEnvC scope cl C env) (by show s.heap.Ns env.globals mg; rw [hG]; exact T.g.keeps F.keep) (mg_none_of X T.g e) (by show s.heap.Ns env.builtins mb; rw [hU]; exact T.b.keeps F.keep) ((T.builtins x hn).trans hv) h) hd
theorem storeC_L {Q : Unit → Shared → Prop} (F : Fr hB C s.heap m) (N : News hB C s.heap news)
    (h : ∀ h', Fr hB C h' (fun y => if y = x then some v else m y) → News hB C h' news → Q () { s with heap := h', toks := s.toks + 1 })
    (hk : scope.kind = .function) (hx : (compEnvC scope cl C env).kindOf x = some .local) : wpAny M A (storeName (compEnvC scope cl C env) x v) Q E s :=
  wpAny_storeName_local hx F.ns (fun h' hn hs => h h' (F.set hn hs) (N.set hs)) (by show (scope.kind == .class || (scope.kind == .module && _)) = false; rw [hk]; rfl)
end
section
variable {prog : Program} {w : World} {A : Around} {s : Shared} {E : Value → Shared → Prop} {Q : Value → Shared → Prop} {h₀ : Heap} {L : Addr} {m : Str → Option Value} {news : List (Addr × Obj)}
theorem newList_P {vs : List Value} (F : Fr h₀ L s.heap m) (N : News h₀ L s.heap news)
    (h : ∀ l h', Fr h₀ L h' m → News h₀ L h' ((l, PySem.W.listOf vs.toArray 0) :: news) → (∀ p ∈ news, p.1 < l) → Q (.ref l) { s with heap := h' }) (hsz : vs.length ≤ sizeLine) :
    wpAny (model prog w) A (newList vs) Q E s := newList_N F N (fun h' F' N' => h _ h' F' N' fun p hp => Heap.lt_size (N p hp).1) hsz
theorem loadX_Lm {cn : Str} {cs : Scope} {a : Addr} {ccd : Value} {cl : List (Str × Addr)} {x : Str} {v : Value} {M : Model} (F : Fr h₀ L s.heap m) (hv : m x = some v) (h : Q v s)
    (hk : cs.kind = .function) (hx : (envX cn cs L a ccd cl).kindOf x = some .local) : wpAny M A (loadName (envX cn cs L a ccd cl) x) Q E s := wpAny_loadName_local hk hx F.ns hv h
theorem add_lists_P {l b : Addr} {vs ws : List Value} (F : Fr h₀ L s.heap m) (N : News h₀ L s.heap news) (hl : s.heap.IsList l vs.toArray) (hb : s.heap.IsList b ws.toArray)
    (h : ∀ c h', Fr h₀ L h' m → News h₀ L h' ((c, PySem.W.listOf (vs ++ ws).toArray 0) :: news) → (∀ p ∈ news, p.1 < c) → Q (.ref c) { s with heap := h' })
    (hsz : vs.length + ws.length ≤ sizeLine) :
    wpAny (model prog w) A (binaryOp .Add (.ref l) (.ref b)) Q E s :=
  add_lists F N hl hb (fun h' F' N' => h _ h' F' N' fun p hp => Heap.lt_size (N p hp).1) hsz
theorem slice_list_P {value slice : PySem.Expr} {l : Addr} {items : Array Value} {vl vu : Value} {lo hi : Option Int} (ws : List Value) (F : Fr h₀ L s.heap m) (N : News h₀ L s.heap news) (hl : s.heap.IsList l items) (pl : IsPart vl lo) (pu : IsPart vu hi) (hw : slicePick items lo hi none = ws.toArray)
    (h : ∀ l h', Fr h₀ L h' m → News h₀ L h' ((l, PySem.W.listOf ws.toArray 0) :: news) → (∀ p ∈ news, p.1 < l) → Q (.ref l) { s with heap := h' })
    (hs : subscripted slice false (.ref l) (.ref s.heap.objs.size) = operate [.ref s.heap.objs.size, .ref l] (getItem (.ref l) (.ref s.heap.objs.size)))
    (ht : ∀ r, letTemporaryGo value (.ref l) r = pure ())
    (hsz : items.size ≤ sizeLine) :
    wpAny (model prog w) A (subscriptTail value slice (.ref l) (.ref s.heap.objs.size)) Q E { s with heap := s.heap.push { cls := .type "slice", data := .fields #[vl, vu, .none] } } := by
  refine slice_list F N hl pl pu (fun h' F' N' => ?_) hs ht hsz
  rw [hw] at N'
  exact h _ h' F' N' fun p hp => Nat.lt_succ_of_lt (Heap.lt_size (N p hp).1)
theorem newTuple_P {vs : List Value} (F : Fr h₀ L s.heap m) (N : News h₀ L s.heap news)
    (h : ∀ l h', Fr h₀ L h' m → News h₀ L h' ((l, { cls := .type "tuple", data := .seq vs.toArray }) :: news) → (∀ p ∈ news, p.1 < l) → Q (.ref l) { s with heap := h' }) (hsz : vs.length ≤ sizeLine) :
    wpAny (model prog w) A (newTuple vs) Q E s := newTuple_N F N (fun h' F' N' => h _ h' F' N' fun p hp => Heap.lt_size (N p hp).1) hsz
end
theorem intsAre_snoc {k : Int} {t : Tok} : ∀ {vs : List Value} {ns : List Int}, IntsAre vs ns → IntsAre (vs ++ [.int k t]) (ns ++ [k])
  | _, _, .nil => .cons k t .nil
  | _, _, .cons a u r => .cons a u (intsAre_snoc r)
section
variable {prog : Program} {w : World} {A : Around} {s : Shared} {env : Env} {h₀ : Heap} {m : Str → Option Value} {news : List (Addr × Obj)}

noncomputable def ownOf (h₀ h : Heap) (fp : List Addr) : List (Addr × Obj) := fp.filterMap fun b => match h₀.get? b, h.get? b with | none, some o => some (b, o) | _, _ => none
theorem ownOf_mem {h₀ h : Heap} {fp : List Addr} {p : Addr × Obj} (hp : p ∈ ownOf h₀ h fp) : p.1 ∈ fp ∧ h₀.get? p.1 = none ∧ h.get? p.1 = some p.2 := by
  obtain ⟨b, hb, e⟩ := List.mem_filterMap.mp hp
  split at e
  · cases e; exact ⟨hb, by assumption, by assumption⟩
  · cases e
theorem mem_ownOf {h₀ h : Heap} {fp : List Addr} {b : Addr} {o : Obj} (hb : b ∈ fp) (h0 : h₀.get? b = none) (h1 : h.get? b = some o) : (b, o) ∈ ownOf h₀ h fp :=
  List.mem_filterMap.mpr ⟨b, hb, by rw [h0, h1]⟩

noncomputable def ForEnd (h₀ : Heap) (L : Addr) (I : Addr) (oI : Obj) (fp : List Addr) (h : Heap) (s : Shared) (J : (Str → Option Value) → List (Addr × Obj) → Prop) (s₃ : Shared) : Prop :=
  ∃ h' tk' m₂ news₂ led, s₃ = { s with heap := h', toks := tk' } ∧ Fr h₀ L h' m₂ ∧ News h₀ L h' led ∧ (I, oI) ∈ led ∧ (∀ p ∈ news₂, p ∈ led) ∧ (∀ p ∈ news₂, p.1 ≠ I) ∧ (∀ b ∈ fp, b ≠ I → ∀ o, h.get? b = some o → h'.get? b = some o) ∧ J m₂ news₂
theorem forEnd_intro {h₀ : Heap} {L I : Addr} {oI : Obj} {fp : List Addr} {h h' : Heap} {s : Shared} {J : (Str → Option Value) → List (Addr × Obj) → Prop} {m₂ : Str → Option Value} {news₂ : List (Addr × Obj)} {tk' : Nat}
    (F : Fr h₀ L h' m₂) (N : News h₀ L h' ((I, oI) :: news₂)) (hs : ∀ p ∈ news₂, p.1 ≠ I) (hfp : ∀ b ∈ fp, b ≠ I → ∀ o, h.get? b = some o → h'.get? b = some o) (hJ : J m₂ news₂) :
    ForEnd h₀ L I oI fp h s J { s with heap := h', toks := tk' } :=
  ⟨h', tk', m₂, news₂, _, rfl, F, N, .head _, fun _ hp => .tail _ hp, hs, hfp, hJ⟩
noncomputable def ForPost (h₀ : Heap) (L : Addr) (I : Addr) (oI : Obj) (fp : List Addr) (h : Heap) (s : Shared) (J : (Str → Option Value) → List (Addr × Obj) → Prop) (R : Result → Shared → Prop) (f : Flow) (s₃ : Shared) : Prop :=
  match f with
  | .brk => R (.ok .next) s₃
  | .ret v => R (.ok (.ret v)) s₃
  | _ => ForEnd h₀ L I oI fp h s J s₃
theorem for_walk {target : Expr} {body : List Stmt} {I : Addr} {fp : List Addr} {n : Nat} {P : Nat → Value → Prop} {St : Nat → Heap → Prop} {R : Result → Shared → Prop}
    (W : Walks prog w A I fp [I] n P St) (hL : env.locals ≠ I) (hI0 : h₀.get? I = none)
    (F : Fr h₀ env.locals s.heap m) (N : News h₀ env.locals s.heap news) (hoff : ∀ p ∈ news, p.1 ≠ I) (hst : St 0 s.heap) (hlive : ∀ i h, St i h → ∃ o, h.get? I = some o)
    (J : Nat → (Str → Option Value) → List (Addr × Obj) → Prop) (h0 : J 0 m news)
    (turn : ∀ i v m₁ news₁ oI h tk, i < n → P i v → J i m₁ news₁ → (∀ p ∈ news₁, p.1 ≠ I) → Fr h₀ env.locals h m₁ → News h₀ env.locals h ((I, oI) :: news₁) →
      wpAny (model prog w) A (assign target env v) (fun _ s₂ => wpAny (model prog w) A (execs body env) (ForPost h₀ env.locals I oI fp h s (J (i + 1)) R) (fun _ _ => False) s₂) (fun _ _ => False) { s with heap := h, toks := tk })
    (done : ∀ m₁ news₁ h tk, J n m₁ news₁ → (∀ p ∈ news₁, p.1 ≠ I) → Fr h₀ env.locals h m₁ → News h₀ env.locals h news₁ → R (.ok .next) { s with heap := h, toks := tk })
    (ht : ∀ v, letOwnedTupleGo target (.ref I) v = pure ()) :
    codeAny (model prog w) A (.forLoop target (.ref I) body [] env) R s := by
  have toI : ∀ {b : Addr}, b ≠ I → b ∉ [I] := fun h hm => h (List.mem_singleton.mp hm)
  have hIf : I ∈ fp := W.sub _ (List.mem_singleton.mpr rfl)
  refine codeAny_forLoop (fun k s' => Xs5 fun h tk m₁ news₁ i => Cj8 (s' = { s with heap := h, toks := tk }) (St i h) (Fr h₀ env.locals h m₁) (News h₀ env.locals h news₁) (∀ p ∈ news₁, p.1 ≠ I) (J i m₁ news₁) (i ≤ n) (k = n + 1 - i)) ?_ (n + 1) ⟨s.heap, s.toks, m, news, 0, rfl, hst, F, N, hoff, h0, Nat.zero_le _, rfl⟩ ht
  rintro k s' ⟨h, tk, m₁, news₁, i, rfl, hst', F₁, N₁, hoff₁, hJ, hi, rfl⟩
  have up : ∀ h', (∀ b o, b ∉ [I] → h.get? b = some o → h'.get? b = some o) → Fr h₀ env.locals h' m₁ ∧ News h₀ env.locals h' news₁ := fun h' hk =>
    ⟨⟨F₁.ns.at' fun o e => hk _ o (toI hL) e, fun b o e => hk b o (toI fun hb => by rw [hb, hI0] at e; cases e) (F₁.keep b o e), F₁.above⟩, fun p hp => ⟨hk _ _ (toI (hoff₁ p hp)) (N₁ p hp).1, (N₁ p hp).2⟩⟩
  by_cases hlt : i < n
  · refine W.item i _ _ _ hlt hst' fun v h₁ tk₁ hPv hst₁ hk₁ => ?_
    obtain ⟨F₂, N₂⟩ := up h₁ hk₁
    obtain ⟨oI, hoI⟩ := hlive _ _ hst₁
    have NN : News h₀ env.locals h₁ ((I, oI) :: news₁) := fun p hp => by
      rcases List.mem_cons.mp hp with rfl | hp
      · exact ⟨hoI, fun e => hL e.symm, hI0⟩
      · exact N₂ p hp
    refine wpAny_noRaise (wpAny_mono (turn i v m₁ news₁ oI h₁ tk₁ hlt hPv hJ hoff₁ F₂ NN) (fun _ s₂ h₂ => ?_) fun _ _ e => e)
    refine wpAny_noRaise (wpAny_mono h₂ (fun f s₃ h₃ => ?_) fun _ _ e => e)
    have fin : ForEnd h₀ env.locals I oI fp h₁ s (J (i + 1)) s₃ →
          ∃ m, m < n + 1 - i ∧ Xs5 fun h tk m₁ news₁ i => Cj8 (s₃ = { s with heap := h, toks := tk }) (St i h) (Fr h₀ env.locals h m₁) (News h₀ env.locals h news₁) (∀ p ∈ news₁, p.1 ≠ I) (J i m₁ news₁) (i ≤ n) (m = n + 1 - i) := by
        rintro ⟨h', tk', m₂, news₂, led, rfl, F₃, N₃, hown, hnew, hoff₂, hfpk, hJ₂⟩
        refine ⟨n + 1 - (i + 1), by omega, h', tk', m₂, news₂, i + 1, rfl, W.frame _ _ _ hst₁ fun b hb o e => ?_, F₃, fun p hp => N₃ p (hnew p hp), hoff₂, hJ₂, hlt, rfl⟩
        by_cases hbI : b = I
        · subst hbI; rw [hoI] at e; cases e; exact (N₃ _ hown).1
        · exact hfpk b hb hbI o e
    cases f with
    | next => exact fin h₃
    | cont => exact fin h₃
    | brk => exact h₃
    | ret v => exact h₃
  · have hin : i = n := by omega
    subst hin
    refine W.done _ _ _ hst' fun h₁ tk₁ hk₁ => wpAny_execs_nil ?_
    obtain ⟨F₂, N₂⟩ := up h₁ hk₁
    exact done m₁ news₁ h₁ tk₁ hJ hoff₁ F₂ N₂

theorem for_range {target : Expr} {body : List Stmt} {r : Addr} {n : Nat} {t u v : Tok} {R : Result → Shared → Prop} {E : Value → Shared → Prop} (hh : A.handled = none) (hr : IsRange s.heap r 0 n 1 t u v) (hn : n < 2 ^ 20)
    (F : Fr h₀ env.locals s.heap m) (N : News h₀ env.locals s.heap news) (ht : ∀ I v, letOwnedTupleGo target (.ref I) v = pure ())
    (J : Nat → (Str → Option Value) → List (Addr × Obj) → Prop) (h0 : J 0 m news)
    (turn : ∀ i I t m₁ news₁ oI h tk, i < n → (∀ p ∈ news, p.1 < I) → J i m₁ news₁ → (∀ p ∈ news₁, p.1 ≠ I) → Fr h₀ env.locals h m₁ → News h₀ env.locals h ((I, oI) :: news₁) →
      wpAny (model prog w) A (assign target env (.int (i : Int) t)) (fun _ s₂ => wpAny (model prog w) A (execs body env) (ForPost h₀ env.locals I oI [] h s (J (i + 1)) R) (fun _ _ => False) s₂) (fun _ _ => False) { s with heap := h, toks := tk })
    (done : ∀ m₁ news₁ h tk, J n m₁ news₁ → Fr h₀ env.locals h m₁ → News h₀ env.locals h news₁ → R (.ok .next) { s with heap := h, toks := tk }) :
    wpAny (model prog w) A (pyIter (.ref r)) (fun it s₂ => codeAny (model prog w) A (.forLoop target it body [] env) R s₂) E s := by
  refine wpAny_pyIter_range hr (small_one (by omega) (by omega) (by omega) (by omega)) ?_
  have hI0 : s.heap.get? s.heap.objs.size = none := by
    cases e : s.heap.get? s.heap.objs.size with
    | none => rfl
    | some x => exact absurd (Heap.lt_size e) (Nat.lt_irrefl _)
  have hI1 : h₀.get? s.heap.objs.size = none := by
    cases e : h₀.get? s.heap.objs.size with
    | none => rfl
    | some x => rw [F.keep _ _ e] at hI0; cases hI0
  have lt : ∀ p ∈ news, p.1 < s.heap.objs.size := fun p hp => Heap.lt_size (N p hp).1
  refine for_walk (Walks.range (prog := prog) (w := w) hh s.heap.objs.size 0 1 n) (Nat.ne_of_lt F.ns.lt) hI1 (F.push _) (fun p hp => ⟨Heap.get?_push_of_some _ (N p hp).1, (N p hp).2⟩) (fun p hp => Nat.ne_of_lt (lt p hp)) ?_ (fun i h st => ⟨_, st⟩) J h0 ?_ (fun m₁ news₁ h tk hJ _ F N => done m₁ news₁ h tk hJ F N) (ht _)
  · rw [rangeSize_one]
    have : (if (0 : Int) < n then (n : Int) - 0 else 0) = (n : Int) := by split <;> omega
    rw [this]
    exact (by simpa using Heap.get?_push_size _ rfl)
  · rintro i v m₁ news₁ oI h tk hi ⟨t, rfl⟩ hJ hoff F N
    have e : (0 : Int) + (i : Int) * 1 = i := by omega
    rw [e]
    refine wpAny_mono (turn i _ t m₁ news₁ oI h tk hi lt hJ hoff F N) (fun _ s₂ h₂ => wpAny_mono h₂ (fun f s₃ h₃ => ?_) fun _ _ e => e) fun _ _ e => e
    have fin : ForEnd h₀ env.locals s.heap.objs.size oI [] h s (J (i + 1)) s₃ → ForEnd h₀ env.locals s.heap.objs.size oI [s.heap.objs.size] h s (J (i + 1)) s₃ := by
      rintro ⟨h', tk', m₂, news₂, led, a, b, c, d, e, f, _, g⟩
      exact ⟨h', tk', m₂, news₂, led, a, b, c, d, e, f, fun b hb hne => absurd (List.mem_singleton.mp hb) hne, g⟩
    cases f with
    | next => exact fin h₃
    | cont => exact fin h₃
    | brk => exact h₃
    | ret v => exact h₃

theorem for_list {target : Expr} {body : List Stmt} {r : Addr} {vs : List Value} {R : Result → Shared → Prop} {E : Value → Shared → Prop} (hh : A.handled = none) (hl : s.heap.IsList r vs.toArray)
    (F : Fr h₀ env.locals s.heap m) (N : News h₀ env.locals s.heap news) (ht : ∀ I v, letOwnedTupleGo target (.ref I) v = pure ())
    (J : Nat → (Str → Option Value) → List (Addr × Obj) → Prop) (h0 : J 0 m news)
    (turn : ∀ i I v m₁ news₁ oI h tk, vs[i]? = some v → (∀ p ∈ news, p.1 < I) → J i m₁ news₁ → (∀ p ∈ news₁, p.1 ≠ I) → Fr h₀ env.locals h m₁ → News h₀ env.locals h ((I, oI) :: news₁) →
      wpAny (model prog w) A (assign target env v) (fun _ s₂ => wpAny (model prog w) A (execs body env) (ForPost h₀ env.locals I oI [r] h s (J (i + 1)) R) (fun _ _ => False) s₂) (fun _ _ => False) { s with heap := h, toks := tk })
    (done : ∀ m₁ news₁ h tk, J vs.length m₁ news₁ → Fr h₀ env.locals h m₁ → News h₀ env.locals h news₁ → R (.ok .next) { s with heap := h, toks := tk }) :
    wpAny (model prog w) A (pyIter (.ref r)) (fun it s₂ => codeAny (model prog w) A (.forLoop target it body [] env) R s₂) E s := by
  refine wpAny_pyIter_list hl ?_
  have hI0 : s.heap.get? s.heap.objs.size = none := by
    cases e : s.heap.get? s.heap.objs.size with
    | none => rfl
    | some x => exact absurd (Heap.lt_size e) (Nat.lt_irrefl _)
  have hI1 : h₀.get? s.heap.objs.size = none := by
    cases e : h₀.get? s.heap.objs.size with
    | none => rfl
    | some x => rw [F.keep _ _ e] at hI0; cases hI0
  have lt : ∀ p ∈ news, p.1 < s.heap.objs.size := fun p hp => Heap.lt_size (N p hp).1
  obtain ⟨ol, hol, _⟩ := id hl
  have hne : r ≠ s.heap.objs.size := Nat.ne_of_lt (Heap.lt_size hol)
  have W := Walks.list (prog := prog) (w := w) hh s.heap.objs.size r hne vs.toArray
  have e : vs.toArray.size = vs.length := by simp
  rw [e] at W
  refine for_walk W (Nat.ne_of_lt F.ns.lt) hI1 (F.push _) (fun p hp => ⟨Heap.get?_push_of_some _ (N p hp).1, (N p hp).2⟩) (fun p hp => Nat.ne_of_lt (lt p hp)) ⟨⟨_, Heap.get?_push_size _ rfl, rfl, rfl⟩, hl.push _⟩ (fun i h st => let ⟨o, e, _⟩ := st.1; ⟨o, e⟩) J h0 ?_ (fun m₁ news₁ h tk hJ _ F N => done m₁ news₁ h tk hJ F N) (ht _)
  rintro i v m₁ news₁ oI h tk hi hv hJ hoff F N
  refine wpAny_mono (turn i _ v m₁ news₁ oI h tk (by simpa using hv) lt hJ hoff F N) (fun _ s₂ h₂ => wpAny_mono h₂ (fun f s₃ h₃ => ?_) fun _ _ e => e) fun _ _ e => e
  have fin : ForEnd h₀ env.locals s.heap.objs.size oI [r] h s (J (i + 1)) s₃ → ForEnd h₀ env.locals s.heap.objs.size oI [s.heap.objs.size, r] h s (J (i + 1)) s₃ := by
      rintro ⟨h', tk', m₂, news₂, led, a, b, c, d, e, f, k, g⟩
      exact ⟨h', tk', m₂, news₂, led, a, b, c, d, e, f, fun b hb hne => k b ((List.mem_cons.mp hb).resolve_left hne) hne, g⟩
  cases f with
  | next => exact fin h₃
  | cont => exact fin h₃
  | brk => exact h₃
  | ret v => exact h₃

theorem compLoop_gen {elt target iter : Expr} {ifs : List Expr} {scope : Scope} {pos : Pos} {it acc : Value} {R : Result → Shared → Prop} (I : Nat → Shared → Prop)
    (turn : ∀ n s, I n s → wpAny (model prog w) A (pyNext it) (fun r s₁ => match r with
      | none => R (.ok .next) s₁
      | some v => wpAny (model prog w) A (letOwnedTupleGo target it v) (fun _ s₁' => wpAny (model prog w) A (assign target env v) (fun _ s₂ =>
          wpAny (model prog w) A (forIn ifs true fun c r => if r = true then do let ok ← isTrue c env (eval c env); pure (ForInStep.yield ok) else pure (ForInStep.yield r)) (fun ok s₃ =>
            if ok = true then wpAny (model prog w) A (eval elt env) (fun x s₄ =>
              wpAny (model prog w) A (call (.builtin "list.append") [acc, x]) (fun _ s₅ => ∃ m, m < n ∧ I m s₅) (fun _ _ => False) s₄) (fun _ _ => False) s₃
            else ∃ m, m < n ∧ I m s₃) (fun _ _ => False) s₂) (fun _ _ => False) s₁') (fun _ _ => False) s₁) (fun _ _ => False) s)
    (n : Nat) (h : I n s) :
    codeAny (model prog w) A (.compLoop (.ListComp elt [⟨target, iter, ifs, 0⟩] scope pos) 0 it acc env) R s := by
  refine codeAny_loop rfl I (fun n s hI => ?_) n h
  show wpAny _ A ((compTurn (.ListComp elt [⟨target, iter, ifs, 0⟩] scope pos) 0 it acc env).onRaise (fun x => do noteFrame x env; theTreesLotGoes x)) _ _ s
  refine wpAny_noted ?_
  rw [compTurn_list]
  refine wpAny_noRaise (wpAny_bind (wpAny_standAt (wpAny_bind (wpAny_mono (turn n s hI) (fun r s₁ h₁ => ?_) fun _ _ h' => h'))))
  cases r with
  | none => exact wpAny_pure h₁
  | some v =>
    refine wpAny_bind (wpAny_mono h₁ (fun _ s₁' h₁' => wpAny_bind (wpAny_mono h₁' (fun _ s₂ h₂ => wpAny_bind (wpAny_mono h₂ (fun ok s₃ h₃ => ?_) fun _ _ h' => h')) fun _ _ h' => h')) fun _ _ h' => h')
    cases ok with
    | false => exact wpAny_pure ⟨rfl, h₃⟩
    | true => exact wpAny_bind (wpAny_bind (wpAny_mono h₃ (fun x s₄ h₄ => wpAny_bind (wpAny_mono h₄ (fun _ s₅ h₅ => wpAny_pure (wpAny_pure ⟨rfl, h₅⟩)) fun _ _ h' => h')) fun _ _ h' => h'))
end
section
variable {prog : Program} {w : World} {A : Around} {E : Value → Shared → Prop} {env : Env}
noncomputable def notPair (nm : String) : Bool := !(["enumerate", "zip", "dict_itemiterator", "dict_reverseitemiterator", "odict_iterator", "itertools.zip_longest", "itertools.pairwise"] : List String).contains nm
theorem letOwned_skip {M : Model} {E : Value → Shared → Prop} {s : Shared} {target : Expr} {I : Addr} {o : Obj} {nm : String} {v : Value} {Q : Unit → Shared → Prop} (ho : s.heap.get? I = some o) (hc : o.cls = .type nm) (hn : notPair nm = true) (h : Q () s) :
    wpAny M A (letOwnedTupleGo target (.ref I) v) Q E s := by
  obtain ⟨c, d, dt, sl⟩ := o
  simp only at hc
  subst hc
  have hn' : (["enumerate", "zip", "dict_itemiterator", "dict_reverseitemiterator", "odict_iterator", "itertools.zip_longest", "itertools.pairwise"] : List String).contains nm = false := by
    unfold notPair at hn; simpa using hn
  unfold letOwnedTupleGo
  split
  all_goals first
    | exact wpAny_pure h
    | (split
       · rename_i r a e
         cases e
         refine wpAny_bind (wpAny_load ho ?_)
         dsimp only
         cases dt <;> first
           | exact wpAny_pure h
           | (simp only [hn', Bool.false_and, Bool.false_eq_true, if_false]; exact wpAny_pure h)
       · exact wpAny_pure h)
noncomputable def LCEnd (hB : Heap) (C : Addr) (own : List (Addr × Obj)) (s₂ : Shared) (J : List (Addr × Obj) → Prop) (sd : Shared) : Prop :=
  ∃ h' tk' m' led' all, sd = { s₂ with heap := h', toks := tk' } ∧ Fr hB C h' m' ∧ News hB C h' all ∧ (∀ p ∈ own, p ∈ all) ∧ (∀ p ∈ led', p ∈ all) ∧ (∀ p ∈ led', ∀ q ∈ own, p.1 ≠ q.1) ∧ J led'

noncomputable def LCTurn (prog : Program) (w : World) (A : Around) (env : Env) (elt target : Expr) (ifs : List Expr) (scope : Scope) (cl : List (Str × Addr)) (I : Addr) (n : Nat) (P : Nat → Value → Prop) (hB : Heap) (s₂ : Shared) (J : Nat → List Value → List (Addr × Obj) → Prop) : Prop :=
  ∀ i v ys led C own h m₁ tk, i < n → P i v → J i ys led → (∀ p ∈ led, ∀ q ∈ own, p.1 ≠ q.1) → (∃ o nm, (I, o) ∈ own ∧ o.cls = .type nm ∧ notPair nm = true) → Fr hB C h m₁ → News hB C h (own ++ led) →
     wpAny (model prog w) A (letOwnedTupleGo target (.ref I) v) (fun _ sa => wpAny (model prog w) A (assign target (compEnvC scope cl C env) v) (fun _ sb =>
      wpAny (model prog w) A (forIn ifs true fun c r => if r = true then do let ok ← isTrue c (compEnvC scope cl C env) (eval c (compEnvC scope cl C env)); pure (ForInStep.yield ok) else pure (ForInStep.yield r)) (fun ok sc =>
        if ok = true then wpAny (model prog w) A (eval elt (compEnvC scope cl C env)) (fun y sd => LCEnd hB C own s₂ (J (i + 1) (ys ++ [y])) sd) (fun _ _ => False) sc
        else LCEnd hB C own s₂ (J (i + 1) ys) sc) (fun _ _ => False) sb) (fun _ _ => False) sa) (fun _ _ => False) { s₂ with heap := h, toks := tk }

theorem lc_block {elt target iter : Expr} {ifs : List Expr} {scope : Scope} {cl : List (Str × Addr)} {pos : Pos} {s₂ : Shared} {I : Addr} {fp : List Addr} {n : Nat} {P : Nat → Value → Prop}
    {St : Nat → Heap → Prop} (W : Walks prog w A I fp [I] n P St) (hsz : n ≤ sizeLine) {hB : Heap} {RR : Value → Addr → Result → Shared → Prop}
    (hcell : ∀ y ∈ scope.names, y.2 ≠ .cell) (hkind : scope.kind = .function) (hst : St 0 s₂.heap) (hfp' : ∀ b ∈ fp, ∃ o, s₂.heap.get? b = some o) (hlive : ∀ i h, St i h → ∃ o nm, h.get? I = some o ∧ o.cls = .type nm ∧ notPair nm = true) (hBI : hB.get? I = none)
    (hB1 : ∀ b o, hB.get? b = some o → s₂.heap.get? b = some o) (hB2 : ∀ b o, b ≠ I → s₂.heap.get? b = some o → hB.get? b = some o) (hB3 : hB.objs.size ≤ s₂.heap.objs.size)
    (J : Nat → List Value → List (Addr × Obj) → Prop) (h0 : J 0 [] []) (hJl : ∀ i ys led, J i ys led → ys.length ≤ i)
    (turn : LCTurn prog w A env elt target ifs scope cl I n P hB s₂ J)
    (hRR : ∀ D C h' tk m' ys led k, J n ys led → s₂.heap.objs.size ≤ D → s₂.heap.get? D = none → s₂.heap.get? C = none → D ≠ C → h'.Ns C m' → h'.get? D = some (PySem.W.listOf ys.toArray k) → (∀ p ∈ led, h'.get? p.1 = some p.2 ∧ p.1 ≠ C ∧ p.1 ≠ D ∧ hB.get? p.1 = none) →
      (∀ b o, b ≠ I → s₂.heap.get? b = some o → h'.get? b = some o) → RR (.ref D) C (.ok .next) { s₂ with heap := h', toks := tk }) :
    wpAny (model prog w) A (newList []) (fun acc s₃ => wpAny (model prog w) A (newFunctionEnv scope env.globals cl [] env.qual none .none (some env)) (fun cenv s₄ =>
      codeAny (model prog w) A (.compStart (.ListComp elt [⟨target, iter, ifs, 0⟩] scope pos) 0 (.ref I) acc { cenv with scope := relabel scope env }) (RR acc cenv.locals) s₄) E s₃) E s₂ := by
  have hfp : ∀ b ∈ fp, b < s₂.heap.objs.size := fun b hb => let ⟨o, e⟩ := hfp' b hb; Heap.lt_size e
  refine wpAny_newObj_type (wpAny_newFunctionEnv hcell (by intro y hy; simp at hy) (fun h₁ hns₁ hsb₁ => ?_) hkind)
  dsimp only at hns₁ hsb₁ ⊢
  generalize hH2 : s₂.heap.push { cls := .type "list", dict := none, data := .seq ([] : List Value).toArray } = H2 at hns₁ hsb₁ ⊢
  have hC : H2.objs.size = s₂.heap.objs.size + 1 := by rw [← hH2, Heap.size_push]
  generalize hCC : H2.objs.size = C at hns₁ hsb₁ hC ⊢
  generalize hDD : s₂.heap.objs.size = D at hC ⊢
  have hDC : D ≠ C := by rw [hC]; exact Nat.ne_of_lt (Nat.lt_succ_self _)
  have below : ∀ b, b < s₂.heap.objs.size → b ≠ C ∧ b ≠ D := fun b hb => ⟨by rw [hC]; rw [hDD] at hb; exact Nat.ne_of_lt (Nat.lt_succ_of_lt hb), by rw [hDD] at hb; exact Nat.ne_of_lt hb⟩
  have hDf : D ∉ fp := fun hm => absurd rfl (below _ (hfp _ hm)).2
  have hCf : C ∉ fp := fun hm => absurd rfl (below _ (hfp _ hm)).1
  have old : ∀ b o, s₂.heap.get? b = some o → h₁.get? b = some o := fun b o e => hsb₁.extBut b o (below b (Heap.lt_size e)).1 (Heap.get?_push_of_some _ (hH2 ▸ Heap.get?_push_of_some _ e))
  have hacc : h₁.get? D = some (PySem.W.listOf #[] 0) := hsb₁.extBut _ _ hDC (Heap.get?_push_of_some _ (hH2 ▸ hDD ▸ Heap.get?_push_size _ rfl))
  have hst₁ : St 0 h₁ := W.frame _ _ _ hst fun b _ o e => old b o e
  have fresh : ∀ a, D ≤ a → s₂.heap.get? a = none := fun a ha => by
    cases e : s₂.heap.get? a with
    | none => rfl
    | some o' => exact absurd (Heap.lt_size e) (Nat.not_lt.mpr (hDD ▸ ha))
  have hD0 : s₂.heap.get? D = none := fresh _ (Nat.le_refl _)
  have hC0 : s₂.heap.get? C = none := fresh _ (by rw [hC]; exact Nat.le_succ _)
  have hIf : I ∈ fp := W.sub _ (List.mem_singleton.mpr rfl)
  have hCw : C ≠ I := fun h => hCf (h ▸ hIf)
  have hDw : D ≠ I := fun h => hDf (h ▸ hIf)
  have toI : ∀ {b : Addr}, b ≠ I → b ∉ [I] := fun h hm => h (List.mem_singleton.mp hm)
  have hBD : hB.get? D = none := by cases e : hB.get? D with | none => rfl | some o => rw [hB1 _ _ e] at hD0; cases hD0
  have hBC : hB.get? C = none := by cases e : hB.get? C with | none => rfl | some o => rw [hB1 _ _ e] at hC0; cases hC0
  have hBs : hB.objs.size ≤ C := by rw [hC]; rw [hDD] at hB3; exact Nat.le_succ_of_le hB3
  have loop : codeAny (model prog w) A (.compLoop (.ListComp elt [⟨target, iter, ifs, 0⟩] scope pos) 0 (.ref I) (.ref D) (compEnvC scope cl C env))
        (RR (.ref D) C) { s₂ with heap := h₁, toks := s₂.toks + ([] : List (Str × Value)).length } := by
    refine compLoop_gen (env := compEnvC scope cl C env) (fun k s' => Xs7 fun h tk m₁ ys led i k' => Cj9 (s' = { s₂ with heap := h, toks := tk }) (St i h) (h.get? D = some (PySem.W.listOf (ys : List Value).toArray k')) (h.Ns C m₁) (J i ys led) (∀ p ∈ led, h.get? p.1 = some p.2 ∧ p.1 ≠ C ∧ p.1 ≠ D ∧ p.1 ≠ I ∧ hB.get? p.1 = none) (i ≤ n) (k = n + 1 - i) (∀ b o, b ≠ I → s₂.heap.get? b = some o → h.get? b = some o)) ?_ (n + 1)
      ⟨h₁, _, _, [], [], 0, 0, rfl, hst₁, hacc, hns₁, h0, fun _ h => (nomatch h), Nat.zero_le _, rfl, fun b o _ e => old b o e⟩
    rintro k s' ⟨h, tk, m₁, ys, led, i, k', rfl, hst', hD', hn', hJ, hled, hi, rfl, hk⟩
    by_cases hlt : i < n
    · refine W.item i _ _ _ hlt hst' fun v h₂ tk₂ hPv hst₂ hk₂ => ?_
      have F₂ : Fr hB C h₂ m₁ := ⟨hn'.at' fun o e => hk₂ _ o (toI hCw) e, fun b o e => have hb : b ≠ I := fun hb => (by rw [hb, hBI] at e; cases e); hk₂ b o (toI hb) (hk b o hb (hB1 b o e)), hBs⟩
      have N₂ : News hB C h₂ (ownOf hB h₂ (D :: fp) ++ led) := fun p hp => by
        rcases List.mem_append.mp hp with hp | hp
        · obtain ⟨a, b, c⟩ := ownOf_mem hp
          exact ⟨c, fun e => (List.mem_cons.mp (e ▸ a)).elim (fun q => hDC q.symm) hCf, b⟩
        · exact ⟨hk₂ _ _ (toI (hled p hp).2.2.2.1) (hled p hp).1, (hled p hp).2.1, (hled p hp).2.2.2.2⟩
      have hsep : ∀ p ∈ led, ∀ q ∈ ownOf hB h₂ (D :: fp), p.1 ≠ q.1 := fun p hp q hq e => by
        obtain ⟨a, b, c⟩ := ownOf_mem hq
        rcases List.mem_cons.mp a with a | a
        · exact (hled p hp).2.2.1 (e.trans a)
        · by_cases hqw : q.1 = I
          · exact (hled p hp).2.2.2.1 (e.trans hqw)
          · obtain ⟨o, ho⟩ := hfp' _ a
            rw [hB2 _ _ hqw ho] at b; cases b
      obtain ⟨oI, nm, hoI, hcI, hnI⟩ := hlive _ _ hst₂
      have hIown : (I, oI) ∈ ownOf hB h₂ (D :: fp) := mem_ownOf (List.mem_cons_of_mem _ hIf) hBI hoI
      refine wpAny_mono (turn i v ys led C (ownOf hB h₂ (D :: fp)) h₂ m₁ tk₂ hlt hPv hJ hsep ⟨oI, nm, hIown, hcI, hnI⟩ F₂ N₂) (fun _ sa ha => wpAny_mono ha (fun _ sb hb => wpAny_mono hb (fun ok sc hc => ?_) fun _ _ e => e) fun _ _ e => e) fun _ _ e => e
      have hDown : (D, listOf ys.toArray k') ∈ ownOf hB h₂ (D :: fp) := mem_ownOf (List.mem_cons_self ..) hBD (hk₂ _ _ (toI hDw) hD')
      have fin : ∀ {sd : Shared} {J' : List (Addr × Obj) → Prop}, LCEnd hB C (ownOf hB h₂ (D :: fp)) s₂ J' sd → ∃ h' tk' m' led', sd = { s₂ with heap := h', toks := tk' } ∧ St (i + 1) h' ∧ h'.get? D = some (PySem.W.listOf ys.toArray k') ∧ h'.Ns C m' ∧
          (∀ p ∈ led', h'.get? p.1 = some p.2 ∧ p.1 ≠ C ∧ p.1 ≠ D ∧ p.1 ≠ I ∧ hB.get? p.1 = none) ∧ (∀ b o, b ≠ I → s₂.heap.get? b = some o → h'.get? b = some o) ∧ J' led' := by
        rintro sd J' ⟨h', tk', m', led', all, rfl, F₃, N₃, hown, hnew, hoff, hJ'⟩
        refine ⟨h', tk', m', led', rfl, W.frame _ _ _ hst₂ fun b hb o e => ?_, (N₃ _ (hown _ hDown)).1, F₃.ns, fun p hp => ⟨(N₃ _ (hnew p hp)).1, (N₃ _ (hnew p hp)).2.1, hoff p hp _ hDown, hoff p hp _ hIown, (N₃ _ (hnew p hp)).2.2⟩, fun b o hbw e => F₃.keep _ _ (hB2 b o hbw e), hJ'⟩
        · cases hq : hB.get? b with
          | none => exact (N₃ _ (hown _ (mem_ownOf (List.mem_cons_of_mem _ hb) hq e))).1
          | some o' => rw [F₂.keep b o' hq] at e; cases e; exact F₃.keep b _ hq
      cases ok with
      | false =>
        simp only [Bool.false_eq_true, if_false] at hc ⊢
        obtain ⟨h', tk', m', led', rfl, a1, a2, a3, a4, a5, a6⟩ := fin hc
        exact ⟨n + 1 - (i + 1), by omega, h', tk', m', ys, led', i + 1, k', rfl, a1, a2, a3, a6, a4, hlt, rfl, a5⟩
      | true =>
        simp only [if_true] at hc ⊢
        refine wpAny_mono hc (fun y sd hd => ?_) fun _ _ e => e
        obtain ⟨h', tk', m', led', rfl, a1, a2, a3, a4, a5, a6⟩ := fin hd
        have hyl := hJl _ _ _ a6
        rw [List.length_append, List.length_singleton] at hyl
        have hl : h'.IsList D ys.toArray := ⟨_, a2, rfl, _, rfl⟩
        refine wpAny_call_entry slot_list_append (Heap.IsList.typeIs (s := { s₂ with heap := h', toks := tk' }) hl) entry_list_append ?_ (args_list_append _ _)
        show wpAny _ _ (updateSeq D (·.push y) >>= fun _ => ret .none) _ _ _
        refine wpAny_bind (wpAny_updateSeq (s := { s₂ with heap := h', toks := tk' }) a2 rfl (wpAny_pure ⟨.none, rfl, ?_⟩) (by rw [List.size_toArray]; exact Nat.le_trans (Nat.le_of_lt (by omega)) hsz))
        have sb : Heap.SameBut D h' (h'.update D (Obj.mapSeq (·.push y))) := Heap.SameBut.update ..
        refine ⟨n + 1 - (i + 1), by omega, _, tk', m', ys ++ [y], led', i + 1, k' + 1, rfl, W.frame _ _ _ a1 fun b hb o e => sb.extBut b o (fun q => hDf (q ▸ hb)) e, ?_, a3.sameBut sb hDC.symm, a6, fun p hp => ⟨sb.extBut _ _ (a4 p hp).2.2.1 (a4 p hp).1, (a4 p hp).2⟩, hlt, rfl, fun b o hb e => sb.extBut b o (fun q => by rw [q, hD0] at e; cases e) (a5 b o hb e)⟩
        refine (Heap.get?_update_self _ a2 rfl).trans ?_
        show some (Obj.mapSeq _ _) = _
        simp [Obj.mapSeq, PySem.W.listOf]
    · have hin : i = n := by omega
      subst hin
      refine W.done _ _ _ hst' fun h₂ tk₂ hk₂ => ?_
      exact hRR D C h₂ tk₂ m₁ ys led k' hJ (Nat.le_of_eq hDD) hD0 hC0 hDC (hn'.at' fun o e => hk₂ _ o (toI hCw) e) (hk₂ _ _ (toI hDw) hD') (fun p hp => ⟨hk₂ _ _ (toI (hled p hp).2.2.2.1) (hled p hp).1, (hled p hp).2.1, (hled p hp).2.2.1, (hled p hp).2.2.2.2⟩) fun b o hb e => hk₂ b o (toI hb) (hk b o hb e)
  exact codeAny_compStart_list loop (W.self 0 _ _ _ hst₁ loop)
end
section
variable {prog : Program} {w : World} {A : Around} {E : Value → Shared → Prop} {env : Env} {s : Shared} {h₀ : Heap} {m : Str → Option Value} {news : List (Addr × Obj)}
  {elt target iter : Expr} {ifs : List Expr} {scope : Scope} {cl : List (Str × Addr)} {pos : Pos} {Q : Value → Shared → Prop}
noncomputable def LCAt (prog : Program) (w : World) (A : Around) (env : Env) (elt target iter : Expr) (ifs : List Expr) (scope : Scope) (cl : List (Str × Addr)) (pos : Pos) (Q : Value → Shared → Prop) (E : Value → Shared → Prop) (it : Value) (s₂ : Shared) : Prop :=
  wpAny (model prog w) A (newList []) (fun acc s₃ => wpAny (model prog w) A (newFunctionEnv scope env.globals cl [] env.qual none .none (some env)) (fun cenv s₄ =>
      codeAny (model prog w) A (.compStart (.ListComp elt [⟨target, iter, ifs, 0⟩] scope pos) 0 it acc { cenv with scope := relabel scope env }) (compPost (model prog w) A E none Q acc cenv.locals) s₄) E s₃) E s₂
theorem lc_node (hclos : closureFor scope env = pure cl) (hkind : scope.kind = .function) (hnames : ∀ x ∈ scope.names, x.2 = .local → scope.names.lookup x.1 = some .local)
    (hs : ∀ x, foldedSetIterable iter env x = pure x)
    (h : wpAny (model prog w) A (eval iter env) (fun xv s₁ => wpAny (model prog w) A (pyIter xv) (fun it s₂ => LCAt prog w A env elt target iter ifs scope cl pos Q E it s₂) E s₁) E s) :
    wpAny (model prog w) A (eval (.ListComp elt [⟨target, iter, ifs, 0⟩] scope pos) env) Q E s := by
  rw [eval_ListComp]
  exact wpAny_comprehension_free (use := none) rfl hs hclos hkind hnames h

theorem lc_walk {I : Addr} {fp : List Addr} {n : Nat} {P : Nat → Value → Prop} {St : Nat → Heap → Prop} {o : Obj} {tk : Nat} (W : Walks prog w A I fp [I] n P St) (hsz : n ≤ sizeLine)
    (hcell : ∀ y ∈ scope.names, y.2 ≠ .cell) (hkind : scope.kind = .function) (hI : I = s.heap.objs.size) (hst : St 0 (s.heap.push o)) (hfp' : ∀ b ∈ fp, ∃ x, (s.heap.push o).get? b = some x) (hlive : ∀ i h, St i h → ∃ o nm, h.get? I = some o ∧ o.cls = .type nm ∧ notPair nm = true)
    (F : Fr h₀ env.locals s.heap m) (N : News h₀ env.locals s.heap news)
    (J : Nat → List Value → List (Addr × Obj) → Prop) (h0 : J 0 [] []) (hJl : ∀ i ys led, J i ys led → ys.length ≤ i)
    (turn : ∀ I, LCTurn prog w A env elt target ifs scope cl I n P s.heap s J)
    (done : ∀ D ys led h' tk k, J n ys led → Fr h₀ env.locals h' m → News h₀ env.locals h' ((D, PySem.W.listOf ys.toArray k) :: (led ++ news)) → (∀ p ∈ led, p.1 ≠ D) → (∀ p ∈ news, p.1 < D) → Q (.ref D) { s with heap := h', toks := tk }) :
    LCAt prog w A env elt target iter ifs scope cl pos Q E (.ref I) { s with heap := s.heap.push o, toks := tk } := by
  have hI0 : s.heap.get? I = none := by
    cases e : s.heap.get? I with
    | none => rfl
    | some x => exact absurd (Heap.lt_size e) (by rw [hI]; exact Nat.lt_irrefl _)
  refine lc_block (s₂ := { s with heap := s.heap.push o, toks := tk }) (hB := s.heap) W hsz hcell hkind hst hfp' hlive hI0 (fun b x e => Heap.get?_push_of_some _ e) (fun b x hb e => ?_) (by show s.heap.objs.size ≤ (s.heap.push o).objs.size; rw [Heap.size_push]; exact Nat.le_succ _) J h0 hJl (turn I) ?_
  · have e' : (s.heap.push o).get? b = some x := e
    rwa [Heap.get?_push_ne s.heap b o (by rw [← hI]; exact hb)] at e'
  · intro D C h' tk' m' ys led k hJ hDs hD hC hDC hn hDo hled hk
    refine ⟨m', hn, fun h'' hs'' => ?_⟩
    have keep : ∀ b x, s.heap.get? b = some x → h''.get? b = some x := fun b x e => by
      have hb : b ≠ I := fun q => by rw [q, hI0] at e; cases e
      have e2 : (s.heap.push o).get? b = some x := Heap.get?_push_of_some _ e
      exact hs''.extBut b x (fun q => by rw [← q] at hC; exact absurd (hC.symm.trans e2) (by simp)) (hk b x hb e2)
    have hDlt : s.heap.objs.size < D := by
      have : (s.heap.push o).objs.size ≤ D := hDs
      rw [Heap.size_push] at this; exact this
    have nD : s.heap.get? D = none := by
      cases e : s.heap.get? D with
      | none => rfl
      | some x => exact absurd (Heap.lt_size e) (Nat.not_lt.mpr (Nat.le_of_lt hDlt))
    have hLt : env.locals < s.heap.objs.size := F.ns.lt
    have up0 : ∀ b, s.heap.get? b = none → h₀.get? b = none := fun b e => by
      cases q : h₀.get? b with
      | none => rfl
      | some x => rw [F.keep _ _ q] at e; cases e
    have hL : ∀ b, s.heap.get? b = none → b ≠ env.locals := fun b e q => by
      obtain ⟨oL, _, _, ho, _⟩ := F.ns
      rw [q, ho] at e; cases e
    refine done D ys led h'' tk' k hJ ⟨F.ns.keeps keep, fun b x e => keep b x (F.keep b x e), F.above⟩ (fun p hp => ?_) (fun p hp => (hled p hp).2.2.1) (fun p hp => Nat.lt_trans (Heap.lt_size (N p hp).1) hDlt)
    rcases List.mem_cons.mp hp with rfl | hp
    · exact ⟨hs''.extBut _ _ hDC hDo, hL _ nD, up0 _ nD⟩
    · rcases List.mem_append.mp hp with hp | hp
      · exact ⟨hs''.extBut _ _ (hled p hp).2.1 (hled p hp).1, hL _ (hled p hp).2.2.2, up0 _ (hled p hp).2.2.2⟩
      · exact ⟨keep _ _ (N p hp).1, (N p hp).2⟩

theorem lc_list {r : Addr} {vs : List Value} (hh : A.handled = none) (hl : s.heap.IsList r vs.toArray) (hsz : vs.length ≤ sizeLine) (hcell : ∀ y ∈ scope.names, y.2 ≠ .cell) (hkind : scope.kind = .function)
    (F : Fr h₀ env.locals s.heap m) (N : News h₀ env.locals s.heap news)
    (J : Nat → List Value → List (Addr × Obj) → Prop) (h0 : J 0 [] []) (hJl : ∀ i ys led, J i ys led → ys.length ≤ i)
    (turn : ∀ I, LCTurn prog w A env elt target ifs scope cl I vs.length (fun i v => vs[i]? = some v) s.heap s J)
    (done : ∀ D ys led h' tk k, J vs.length ys led → Fr h₀ env.locals h' m → News h₀ env.locals h' ((D, PySem.W.listOf ys.toArray k) :: (led ++ news)) → (∀ p ∈ led, p.1 ≠ D) → (∀ p ∈ news, p.1 < D) → Q (.ref D) { s with heap := h', toks := tk }) :
    wpAny (model prog w) A (pyIter (.ref r)) (fun it s₂ => LCAt prog w A env elt target iter ifs scope cl pos Q E it s₂) E s := by
  refine wpAny_pyIter_list hl ?_
  obtain ⟨ol, hol, _⟩ := id hl
  have hne : r ≠ s.heap.objs.size := Nat.ne_of_lt (Heap.lt_size hol)
  have W := Walks.list (prog := prog) (w := w) hh s.heap.objs.size r hne vs.toArray
  have e : vs.toArray.size = vs.length := by simp
  rw [e] at W
  refine lc_walk W hsz hcell hkind rfl ⟨⟨_, Heap.get?_push_size _ rfl, rfl, rfl⟩, hl.push _⟩ (fun b hb => ?_) (fun i h st => let ⟨o, e, c, _⟩ := st.1; ⟨o, _, e, c, by decide⟩) F N J h0 hJl (fun I => ?_) done
  · rcases List.mem_cons.mp hb with rfl | hb
    · exact ⟨_, Heap.get?_push_size _ rfl⟩
    · rw [List.mem_singleton.mp hb]; exact ⟨_, Heap.get?_push_of_some _ hol⟩
  · have t := turn I
    have e2 : (fun (i : Nat) (v : Value) => vs.toArray[i]? = some v) = fun i v => vs[i]? = some v := by funext i v; simp
    rw [e2]; exact t

theorem lc_range {r : Addr} {n : Nat} {t u v : Tok} (hh : A.handled = none) (hr : IsRange s.heap r 0 n 1 t u v) (hn : n < 2 ^ 20) (hcell : ∀ y ∈ scope.names, y.2 ≠ .cell) (hkind : scope.kind = .function)
    (F : Fr h₀ env.locals s.heap m) (N : News h₀ env.locals s.heap news)
    (J : Nat → List Value → List (Addr × Obj) → Prop) (h0 : J 0 [] []) (hJl : ∀ i ys led, J i ys led → ys.length ≤ i)
    (turn : ∀ I, LCTurn prog w A env elt target ifs scope cl I n (fun (i : Nat) v => ∃ t, v = .int (i : Int) t) s.heap s J)
    (done : ∀ D ys led h' tk k, J n ys led → Fr h₀ env.locals h' m → News h₀ env.locals h' ((D, PySem.W.listOf ys.toArray k) :: (led ++ news)) → (∀ p ∈ led, p.1 ≠ D) → (∀ p ∈ news, p.1 < D) → Q (.ref D) { s with heap := h', toks := tk }) :
    wpAny (model prog w) A (pyIter (.ref r)) (fun it s₂ => LCAt prog w A env elt target iter ifs scope cl pos Q E it s₂) E s := by
  refine wpAny_pyIter_range hr (small_one (by omega) (by omega) (by omega) (by omega)) ?_
  have W := Walks.range (prog := prog) (w := w) hh s.heap.objs.size 0 1 n
  refine lc_walk W (by rw [sizeLine_eq]; omega) hcell hkind rfl ?_ (fun b hb => by rw [List.mem_singleton.mp hb]; exact ⟨_, Heap.get?_push_size _ rfl⟩) (fun i h st => ⟨_, _, st, rfl, by decide⟩) F N J h0 hJl (fun I => ?_) done
  · rw [rangeSize_one]
    have : (if (0 : Int) < n then (n : Int) - 0 else 0) = (n : Int) := by split <;> omega
    rw [this]
    exact (by simpa using Heap.get?_push_size _ rfl)
  · have t := turn I
    have e2 : (fun (i : Nat) (v : Value) => ∃ t, v = Value.int (0 + (i : Int) * 1) t) = fun (i : Nat) v => ∃ t, v = Value.int (i : Int) t := by funext i v; simp
    rw [e2]; exact t
end
section
variable {prog : Program} {w : World} {A : Around} {E : Value → Shared → Prop} {env : Env} {s : Shared} {h₀ : Heap} {m : Str → Option Value} {news : List (Addr × Obj)}
theorem for_rangeN {target : Expr} {body : List Stmt} {n : Nat} {t : Tok} {R : Result → Shared → Prop} (hh : A.handled = none) (hn : n < 2 ^ 20)
    (F : Fr h₀ env.locals s.heap m) (N : News h₀ env.locals s.heap news) (ht : ∀ I v, letOwnedTupleGo target (.ref I) v = pure ())
    (J : Nat → (Str → Option Value) → List (Addr × Obj) → Prop) (h0 : J 0 m news)
    (turn : ∀ i I t m₁ news₁ oI h tk, i < n → (∀ p ∈ news, p.1 < I) → J i m₁ news₁ → (∀ p ∈ news₁, p.1 ≠ I) → Fr h₀ env.locals h m₁ → News h₀ env.locals h ((I, oI) :: news₁) →
      wpAny (model prog w) A (assign target env (.int (i : Int) t)) (fun _ s₂ => wpAny (model prog w) A (execs body env) (ForPost h₀ env.locals I oI [] h s (J (i + 1)) R) (fun _ _ => False) s₂) (fun _ _ => False) { s with heap := h, toks := tk })
    (done : ∀ m₁ news₁ h tk, J n m₁ news₁ → Fr h₀ env.locals h m₁ → News h₀ env.locals h news₁ → R (.ok .next) { s with heap := h, toks := tk }) :
    wpAny (model prog w) A (call (.type "range") [.int (n : Int) t]) (fun x s₁ => wpAny (model prog w) A (pyIter x) (fun it s₂ => codeAny (model prog w) A (.forLoop target it body [] env) R s₂) E s₁) E s :=
  call_range_1 (for_range (s := { s with heap := s.heap.push { cls := .type "range", data := .fields #[.int 0 s.toks, .int n t, .int 1 (s.toks + 1)] }, toks := s.toks + 1 + 1 }) hh (IsRange.new _ _ _ _ _ _ _) hn (F.push _) (fun p hp => ⟨Heap.get?_push_of_some _ (N p hp).1, (N p hp).2⟩) ht J h0 turn done)
theorem lc_str {elt target iter : Expr} {ifs : List Expr} {scope : Scope} {cl : List (Str × Addr)} {pos : Pos} {Q : Value → Shared → Prop} {x : Str} {t : Tok} (hh : A.handled = none) (hsz : x.cps.size ≤ sizeLine) (hcell : ∀ y ∈ scope.names, y.2 ≠ .cell) (hkind : scope.kind = .function)
    (F : Fr h₀ env.locals s.heap m) (N : News h₀ env.locals s.heap news)
    (J : Nat → List Value → List (Addr × Obj) → Prop) (h0 : J 0 [] []) (hJl : ∀ i ys led, J i ys led → ys.length ≤ i)
    (turn : ∀ I, LCTurn prog w A env elt target ifs scope cl I x.cps.size (SignAt x) s.heap s J)
    (done : ∀ D ys led h' tk k, J x.cps.size ys led → Fr h₀ env.locals h' m → News h₀ env.locals h' ((D, PySem.W.listOf ys.toArray k) :: (led ++ news)) → (∀ p ∈ led, p.1 ≠ D) → (∀ p ∈ news, p.1 < D) → Q (.ref D) { s with heap := h', toks := tk }) :
    wpAny (model prog w) A (pyIter (.str x t)) (fun it s₂ => LCAt prog w A env elt target iter ifs scope cl pos Q E it s₂) E s := by
  cases ha : x.cps.all (· < 128)
  · exact wpAny_pyIter_wide ha (lc_walk (Walks.strWide (prog := prog) (w := w) (A := A) hh s.heap.objs.size x t) hsz hcell hkind rfl ⟨_, Heap.get?_push_size _ rfl, rfl, rfl⟩ (fun b hb => by have e := List.mem_singleton.mp hb; subst e; exact ⟨_, Heap.get?_push_size _ rfl⟩) (fun i h st => let ⟨o, e, c, _⟩ := st; ⟨o, _, e, c, by decide⟩) F N J h0 hJl turn done)
  · exact wpAny_pyIter_ascii ha (lc_walk (Walks.strAscii (prog := prog) (w := w) (A := A) hh s.heap.objs.size x t) hsz hcell hkind rfl ⟨_, Heap.get?_push_size _ rfl, rfl, rfl⟩ (fun b hb => by have e := List.mem_singleton.mp hb; subst e; exact ⟨_, Heap.get?_push_size _ rfl⟩) (fun i h st => let ⟨o, e, c, _⟩ := st; ⟨o, _, e, c, by decide⟩) F N J h0 hJl turn done)
theorem lc_rangeN {elt target iter : Expr} {ifs : List Expr} {scope : Scope} {cl : List (Str × Addr)} {pos : Pos} {Q : Value → Shared → Prop} {n : Nat} {t : Tok} (hh : A.handled = none) (hn : n < 2 ^ 20) (hcell : ∀ y ∈ scope.names, y.2 ≠ .cell) (hkind : scope.kind = .function)
    (F : Fr h₀ env.locals s.heap m) (N : News h₀ env.locals s.heap news)
    (J : Nat → List Value → List (Addr × Obj) → Prop) (h0 : J 0 [] []) (hJl : ∀ i ys led, J i ys led → ys.length ≤ i)
    (turn : ∀ I hB, (∀ b o, s.heap.get? b = some o → hB.get? b = some o) → LCTurn prog w A env elt target ifs scope cl I n (fun (i : Nat) v => ∃ t, v = .int (i : Int) t) hB s J)
    (done : ∀ D ys led h' tk k, J n ys led → Fr h₀ env.locals h' m → News h₀ env.locals h' ((D, PySem.W.listOf ys.toArray k) :: (led ++ news)) → (∀ p ∈ led, p.1 ≠ D) → (∀ p ∈ news, p.1 < D) → Q (.ref D) { s with heap := h', toks := tk }) :
    wpAny (model prog w) A (call (.type "range") [.int (n : Int) t]) (fun x s₁ => wpAny (model prog w) A (pyIter x) (fun it s₂ => LCAt prog w A env elt target iter ifs scope cl pos Q E it s₂) E s₁) E s :=
  call_range_1 (lc_range (s := { s with heap := s.heap.push { cls := .type "range", data := .fields #[.int 0 s.toks, .int n t, .int 1 (s.toks + 1)] }, toks := s.toks + 1 + 1 }) hh (IsRange.new _ _ _ _ _ _ _) hn hcell hkind (F.push _) (fun p hp => ⟨Heap.get?_push_of_some _ (N p hp).1, (N p hp).2⟩) J h0 hJl
    (fun I => turn I _ fun b o e => Heap.get?_push_of_some _ e) done)
end
noncomputable abbrev S (l : List Nat) : Str := ⟨l.toArray⟩
theorem S_len (l : List Nat) : (S l).length = l.length := by simp [Str.length]
theorem S_get (l : List Nat) (i : Nat) : (S l).cps[i]? = l[i]? := by simp
theorem S_list (l : List Nat) : (S l).cps.toList = l := by simp
theorem S_append (a b : List Nat) : S a ++ S b = S (a ++ b) := by
  show (⟨_⟩ : Str) = _; simp [S]
theorem S_beq (a b : List Nat) : (S a == S b) = decide (a = b) := by
  rw [Bool.eq_iff_iff]; simp [S]
theorem S_eta (x : Str) : S x.cps.toList = x := by cases x; simp [S]
theorem clip_hi (x : Str) (i : Nat) (b : Nat) (h : x.length ≤ b) : Txt.slice x (some (i : Int)) (some (b : Int)) = Txt.slice x (some (i : Int)) (some (x.length : Int)) := by
  have e : Builtin.Str.strSliceIndices (some (i : Int)) (some (b : Int)) 1 x.length = Builtin.Str.strSliceIndices (some (i : Int)) (some (x.length : Int)) 1 x.length := by
    unfold Builtin.Str.strSliceIndices
    simp only [show (1 : Int) > 0 by decide, if_true]
    congr 1
    rw [if_neg (by omega), if_neg (by omega)]; omega
  unfold Txt.slice; rw [e]
theorem cut_at (pre suf : List Nat) (k : Nat) : Txt.slice (S (pre ++ suf)) (some (pre.length : Int)) (some ((pre.length : Int) + (k : Int))) = S (suf.take k) := by
  have go : ∀ b : Nat, pre.length ≤ b → b ≤ (pre ++ suf).length → Txt.slice (S (pre ++ suf)) (some (pre.length : Int)) (some (b : Int)) = S (suf.take (b - pre.length)) := by
    intro b h1 h2
    have := PyProof.Rows.slice_closes (x := S (pre ++ suf)) (i := pre.length) (j := b) ⟨by omega, by omega, by rw [S_list]; omega⟩
    rw [beq_iff_eq] at this
    rw [this, S_list]
    have : ((b : Int) - (pre.length : Int)).toNat = b - pre.length := by omega
    rw [this]; simp
  rw [show ((pre.length : Int) + (k : Int)) = ((pre.length + k : Nat) : Int) by omega]
  rcases Nat.le_total (pre.length + k) (pre ++ suf).length with h | h
  · rw [go _ (by omega) h]; congr 2; omega
  · rw [clip_hi _ _ _ (by rw [S_len]; exact h), S_len, go _ (by simp) (Nat.le_refl _)]
    simp at h
    rw [List.take_of_length_le (by simp), List.take_of_length_le (by omega)]
theorem cut_from (pre suf : List Nat) : Txt.slice (S (pre ++ suf)) (some (pre.length : Int)) none = S suf := by
  rw [PyProof.Rows.slice_from_eq (b := (pre ++ suf).length) (by omega) (by rw [S_len, List.length_append]; omega) (by rw [S_len]), S_list, List.length_append]
  simp only [Int.toNat_natCast, List.drop_left]
  rw [List.take_of_length_le (by omega)]
theorem cut_to (pre suf : List Nat) : Txt.slice (S (pre ++ suf)) none (some (pre.length : Int)) = S pre := by
  have := PyProof.Rows.slice_closes_to (x := S (pre ++ suf)) (j := pre.length) ⟨by omega, by rw [S_list, List.length_append]; omega⟩
  rw [beq_iff_eq] at this
  rw [this, S_list]
  simp
theorem cut_mid (pre mid suf : List Nat) (a b : Int) (ha : a = pre.length) (hb : b = (pre.length + mid.length : Nat)) : Txt.slice (S (pre ++ (mid ++ suf))) (some a) (some b) = S mid := by
  subst ha hb
  rw [show ((pre.length + mid.length : Nat) : Int) = (pre.length : Int) + (mid.length : Int) by omega, cut_at]
  simp
theorem cut_last (pre suf : List Nat) (h : 1 ≤ suf.length) : Txt.slice (S (pre ++ suf)) (some (-(suf.length : Int))) none = S suf := by
  have e : Txt.slice (S (pre ++ suf)) (some (-(suf.length : Int))) none = Txt.slice (S (pre ++ suf)) (some (-(suf.length : Int) + (S (pre ++ suf)).length)) none :=
    StrLaws.sliceText_neg_lo (S (pre ++ suf)) none (by omega) (by rw [S_len]; simp; omega)
  rw [e, S_len, show (-(suf.length : Int) + ((pre ++ suf).length : Int)) = (pre.length : Int) by simp; omega, cut_from]
theorem occ_one (pre mid suf : List Nat) (c : Nat) (h : c ∉ mid) : Builtin.Str.occurrences (S (pre ++ (mid ++ c :: suf))) (S [c]) pre.length (S (pre ++ (mid ++ c :: suf))).length 1 = [pre.length + mid.length] := by
  have hn : ∀ i, pre.length ≤ i → i < pre.length + mid.length → Builtin.Str.subAt (S (pre ++ (mid ++ c :: suf))) (S [c]) i = false := by
    intro i h1 h2
    cases e : Builtin.Str.subAt (S (pre ++ (mid ++ c :: suf))) (S [c]) i with
    | false => rfl
    | true =>
      have := (StrLaws.subAt_one (S (pre ++ (mid ++ c :: suf))) c i).mp ⟨by rw [S_len, S_len]; simp; omega, e⟩
      rw [S_list, List.getElem?_append_right h1, List.getElem?_append_left (by omega)] at this
      exact absurd (List.mem_of_getElem? this) h
  have hy : Builtin.Str.subAt (S (pre ++ (mid ++ c :: suf))) (S [c]) (pre.length + mid.length) = true :=
    ((StrLaws.subAt_one (S (pre ++ (mid ++ c :: suf))) c (pre.length + mid.length)).mpr (by rw [S_list, List.getElem?_append_right (by omega), List.getElem?_append_right (by omega)]; simp)).2
  rw [StrLaws.occ_eq]
  have e1 : (S (pre ++ (mid ++ c :: suf))).length + 1 - pre.length = mid.length + (suf.length + 2) := by rw [S_len]; simp; omega
  rw [e1]
  generalize hx : S (pre ++ (mid ++ c :: suf)) = x at hn hy
  have hxl : x.length = pre.length + mid.length + suf.length + 1 := by rw [← hx, S_len]; simp; omega
  clear hx e1
  have skip : ∀ (m : Nat) (p : Nat) (free : Nat), (∀ i, p ≤ i → i < p + m → Builtin.Str.subAt x (S [c]) i = false) → ∀ r,
      (forIn (List.range' p (m + r)) ((#[] : Array Nat), free) (StrLaws.occBody x (S [c]) x.length 1)).run = (forIn (List.range' (p + m) r) ((#[] : Array Nat), free) (StrLaws.occBody x (S [c]) x.length 1)).run := by
    intro m
    induction m with
    | zero => intro p free _ r; simp
    | succ m ih =>
      intro p free hp r
      rw [show m + 1 + r = (m + r) + 1 by omega, List.range'_succ, List.forIn_cons]
      have h0 := hp p (Nat.le_refl _) (by omega)
      have : StrLaws.occBody x (S [c]) x.length 1 p (#[], free) = pure (ForInStep.yield (#[], free)) := by
        unfold StrLaws.occBody; rw [h0]; simp
      rw [this]
      have := ih (p + 1) free (fun i h1 h2 => hp i (by omega) (by omega)) r
      rw [show p + (m + 1) = p + 1 + m by omega]
      exact this
  rw [skip mid.length pre.length pre.length hn (suf.length + 2), List.range'_succ, List.forIn_cons]
  have hb : StrLaws.occBody x (S [c]) x.length 1 (pre.length + mid.length) (#[], pre.length) = pure (ForInStep.yield (#[pre.length + mid.length], pre.length + mid.length + 1)) := by
    unfold StrLaws.occBody; rw [hy]; rw [if_pos ⟨⟨⟨by simp, by simp⟩, by rw [S_len]; simp; omega⟩, rfl⟩]; simp [Str.length]
  rw [hb]
  have stay : ∀ (l : List Nat) (free : Nat), (forIn l ((#[pre.length + mid.length] : Array Nat), free) (StrLaws.occBody x (S [c]) x.length 1)).run = (#[pre.length + mid.length], free) := by
    intro l
    induction l with
    | nil => intro free; rfl
    | cons a l ih =>
      intro free
      rw [List.forIn_cons]
      have : StrLaws.occBody x (S [c]) x.length 1 a (#[pre.length + mid.length], free) = pure (ForInStep.yield (#[pre.length + mid.length], free)) := by
        unfold StrLaws.occBody; rw [if_neg (by simp)]
      rw [this]; exact ih free
  have := stay (List.range' (pre.length + mid.length + 1) (suf.length + 1)) (pre.length + mid.length + 1)
  show (forIn (List.range' (pre.length + mid.length + 1) (suf.length + 1)) ((#[pre.length + mid.length] : Array Nat), pre.length + mid.length + 1) (StrLaws.occBody x (S [c]) x.length 1)).run.fst.toList = _
  rw [this]
theorem no_occ (l : List Nat) (c m : Nat) (h : c ∉ l) : Builtin.Str.occurrences (S l) (S [c]) 0 (S l).length m = [] := by
  rw [StrLaws.occ_eq]
  have hn : ∀ i, Builtin.Str.subAt (S l) (S [c]) i = true → i + 1 ≤ (S l).length → False := by
    intro i e h2
    have := (StrLaws.subAt_one (S l) c i).mp ⟨h2, e⟩
    rw [S_list] at this
    exact h (List.mem_of_getElem? this)
  have stay : ∀ (js : List Nat) (free : Nat), (forIn js ((#[] : Array Nat), free) (StrLaws.occBody (S l) (S [c]) (S l).length m)).run = (#[], free) := by
    intro js
    induction js with
    | nil => intro free; rfl
    | cons a js ih =>
      intro free
      rw [List.forIn_cons]
      have : StrLaws.occBody (S l) (S [c]) (S l).length m a (#[], free) = pure (ForInStep.yield (#[], free)) := by
        unfold StrLaws.occBody
        rw [if_neg (fun hc => hn a hc.2 hc.1.2)]
      rw [this]; exact ih free
  have := stay (List.range' 0 ((S l).length + 1 - 0)) 0
  show (forIn (List.range' 0 ((S l).length + 1 - 0)) ((#[] : Array Nat), 0) (StrLaws.occBody (S l) (S [c]) (S l).length m)).run.fst.toList = _
  rw [this]
theorem cutk (pre suf : List Nat) (k : Nat) {a K : Int} (ha : a = pre.length) (hK : K = k) : Txt.slice (S (pre ++ suf)) (some a) (some (a + K)) = S (suf.take k) := by
  subst ha hK; exact cut_at pre suf k
theorem cutl (pre suf : List Nat) {K : Int} (h : 1 ≤ suf.length) (hK : K = -(suf.length : Int)) : Txt.slice (S (pre ++ suf)) (some K) none = S suf := by
  subst hK; exact cut_last pre suf h
theorem cuth (pre suf : List Nat) {K : Int} (hK : K = (pre.length : Int)) : Txt.slice (S (pre ++ suf)) none (some K) = S pre := by
  subst hK; exact cut_to pre suf
section
variable {prog : Program} {w : World} {A : Around} {s : Shared} {E : Value → Shared → Prop} {Q : Value → Shared → Prop}
theorem find_from {x y : Str} {t u v : Tok} {i : Int} (k : Nat) (h : Builtin.Str.occurrences x y i.toNat x.length 1 = [k]) (hi : 0 ≤ i) (hQ : Q (.int (k : Int) s.toks) { s with toks := s.toks + 1 }) :
    wpAny (model prog w) A (call (.builtin "str.find") [.str x t, .str y u, .int i v]) Q E s := by
  refine call_gives F.slot_str_find (typeIs_str _ _ _) F.entry_str_find (F.args_str_find_3 _ _ _) (gives_str_find_from x y i t u v) ?_
  have e : fromIndex x.length i = i.toNat := by unfold fromIndex; rw [if_neg (by omega)]; omega
  rw [e, h]
  exact hQ
theorem repl_none {x y z : Str} {t u v : Tok} (h : (Builtin.Str.occurrences x y 0 x.length (x.length + 1)).isEmpty = true) (hQ : Q (.str x t) s) :
    wpAny (model prog w) A (call (.builtin "str.replace") [.str x t, .str y u, .str z v]) Q E s := by
  refine call_gives F.slot_str_replace (typeIs_str _ _ _) F.entry_str_replace (F.args_str_replace_3 _ _ _) (gives_str_replace x y z t u v fun e => by rw [h] at e; cases e) ?_
  rw [h]
  exact hQ
end
noncomputable abbrev hhCode : Array Nat := #[14, 8, 1, 3, 3, 1, 1, 61, 0, 16, 61, 24, 16, 2, 2, 13, 11, 9, 0, 67043328, 126, 126, 0, 0, 0, 0, 0, 1, 1]
noncomputable def stepN : Nat → Sre.M → Sre.M
  | 0, m => m
  | n + 1, m => stepN n m.step
theorem step_done {m : Sre.M} (h : m.outcome.isSome = true) : m.step = m := by unfold Sre.M.step; rw [if_pos h]
theorem stepN_done {m : Sre.M} (h : m.outcome.isSome = true) : ∀ n, stepN n m = m
  | 0 => rfl
  | n + 1 => by rw [stepN, step_done h]; exact stepN_done h n
theorem stepN_add : ∀ (a b : Nat) (m : Sre.M), stepN (a + b) m = stepN b (stepN a m)
  | 0, b, m => by rw [Nat.zero_add]; rfl
  | a + 1, b, m => by rw [show a + 1 + b = (a + b) + 1 by omega, stepN, stepN, stepN_add a b]
theorem runFor_eq : ∀ (n : Nat) (m : Sre.M), m.runFor n = stepN n m
  | 0, _ => rfl
  | n + 1, m => by
    unfold Sre.M.runFor
    by_cases h : m.outcome.isSome = true
    · rw [if_pos h, stepN_done h]
    · rw [if_neg h]; exact runFor_eq n m.step
section
variable {M : Model} {A : Around} {E : Value → Shared → Prop} {s : Shared}
theorem wp_drive {Q : Sre.M → Shared → Prop} : ∀ (turns n : Nat) (m : Sre.M), (stepN n m).outcome.isSome = true → n ≤ 4 * turns → 0 < turns → Q (stepN n m) s → wpAny M A (Builtin.Re.reDrive turns m) Q E s
  | 0, _, _, _, _, h0, _ => absurd h0 (Nat.lt_irrefl _)
  | t + 1, n, m, h, hn, _, hQ => by
    unfold Builtin.Re.reDrive
    simp only [runFor_eq, Builtin.Re.reTurnSteps]
    by_cases h4 : (stepN 4 m).outcome.isSome = true
    · rw [if_pos h4]
      have : stepN 4 m = stepN n m := by
        rcases Nat.le_total n 4 with k | k
        · obtain ⟨d, e⟩ : ∃ d, 4 = n + d := ⟨4 - n, by omega⟩
          rw [e, stepN_add, stepN_done h]
        · obtain ⟨d, rfl⟩ : ∃ d, n = 4 + d := ⟨n - 4, by omega⟩
          rw [stepN_add 4 d, stepN_done h4]
      rw [this]; exact wpAny_pure hQ
    · rw [if_neg h4]
      have k : 4 < n := by
        rcases Nat.lt_or_ge 4 n with k | k
        · exact k
        · obtain ⟨d, e⟩ : ∃ d, 4 = n + d := ⟨4 - n, by omega⟩
          rw [e, stepN_add, stepN_done h] at h4; exact absurd h h4
      obtain ⟨d, rfl⟩ : ∃ d, n = 4 + d := ⟨n - 4, by omega⟩
      rw [stepN_add 4 d] at h hQ
      refine wpAny_bind (wpAny_rule ?_)
      exact wp_drive t d _ h (by omega) (by omega) hQ
theorem wp_told {Q : Unit → Shared → Prop} (c : Nat → Bool) (nm : Nat → String) : ∀ (l : List Nat), Q () s → wpAny M A (forIn l PUnit.unit fun i (_ : PUnit) => if c i = true then do rule (nm i); pure (ForInStep.yield PUnit.unit) else pure (ForInStep.yield PUnit.unit)) (fun _ s' => Q () s') E s
  | [], h => by rw [List.forIn_nil]; exact wpAny_pure h
  | i :: l, h => by
    rw [List.forIn_cons]
    refine wpAny_bind ?_
    cases c i with
    | true => exact wpAny_bind (wpAny_rule (wpAny_pure (wp_told c nm l h)))
    | false => exact wpAny_pure (wp_told c nm l h)
theorem wp_toEnd {Q : Option Sre.M → Shared → Prop} {m : Sre.M} (n : Nat) (hn : n ≤ 2 ^ 64)
    (h : (∃ (_ : (stepN n m).outcome = some .matched), Q (some (stepN n m)) s) ∨ ((stepN n m).outcome = some .failed ∧ Q none s)) : wpAny M A (Builtin.Re.reRunToEnd m) Q E s := by
  unfold Builtin.Re.reRunToEnd
  refine wpAny_bind (wp_drive (2 ^ 64) n m ?_ (by omega) (by decide) ?_)
  · rcases h with ⟨e, _⟩ | ⟨e, _⟩ <;> rw [e] <;> rfl
  · refine wpAny_bind (wpAny_mono (Q := fun _ s' => s' = s) ?_ (fun _ s' e => ?_) fun _ _ e => e)
    · exact wp_told (Q := fun _ s' => s' = s) (fun i => (stepN n m).seen.has i) (fun i => Sre.names.getD i "") _ rfl
    · subst e
      rcases h with ⟨e, q⟩ | ⟨e, q⟩ <;> rw [e] <;> exact wpAny_pure q
end
noncomputable abbrev hhFr (s : Nat) (b : Bool) : Sre.Frame := { wait := .nextStart, pc := 9, pos := s, outermost := b }
noncomputable abbrev hhAt (text : Array Nat) (s : Nat) (b ma : Bool) (seen : Sre.Seen) : Sre.M :=
  { code := hhCode, text, lim := text.size, start := s, lastStart := text.size, mustAdvance := ma, pc := 9, pos := s, handed := s, outermost := b, marks := #[], frames := [hhFr s b], weight := 1, seen }
noncomputable def hexSign (c : Nat) : Bool := decide (c < 256) && (hhCode.getD (18 + c / 32) 0).testBit (c % 32)
noncomputable def hhHere (text : Array Nat) (s : Nat) : Bool := decide (s + 3 ≤ text.size) && (text.getD s 0 == 61) && (hexSign (text.getD (s + 1) 0) && hexSign (text.getD (s + 2) 0))
noncomputable abbrev hhEnd (text : Array Nat) (s : Nat) (m : Sre.M) : Prop := m.outcome = some .matched ∧ m.start = s ∧ m.handed = s + 3 ∧ m.lastmark = -1 ∧ m.lastindex = -1
theorem hh_in (c : Nat) (seen : Sre.Seen) : ∃ seen', Sre.accepts hhCode 15 c seen = .ok (hexSign c, seen') := by
  unfold hexSign
  cases h : (decide (c < 256) && (hhCode.getD (18 + c / 32) 0).testBit (c % 32)) with
  | true =>
    refine ⟨seen.add 9, ?_⟩
    show (if (decide (c < 256) && (hhCode.getD (17 + (1 + c / 32)) 0).testBit (c % 32)) = true then _ else _) = _
    rw [show 17 + (1 + c / 32) = 18 + c / 32 by omega, if_pos h]; rfl
  | false =>
    refine ⟨(seen.add 9).add 0, ?_⟩
    show (if (decide (c < 256) && (hhCode.getD (17 + (1 + c / 32)) 0).testBit (c % 32)) = true then _ else _) = _
    rw [show 17 + (1 + c / 32) = 18 + c / 32 by omega, if_neg (by rw [h]; simp)]; rfl
theorem hh_no (text : Array Nat) (s : Nat) (b ma : Bool) (seen : Sre.Seen) (m : Sre.M) (pc pos handed : Nat) (bb : Bool) (hs : s ≤ text.size) :
    m = { hhAt text s b ma seen with answer := some false, pc := pc, pos := pos, handed := handed, outermost := bb } →
    (s < text.size ∧ ∃ seen', m.step = hhAt text (s + 1) false false seen') ∨ (s = text.size ∧ (stepN 2 m).outcome = some .failed) := by
  rintro rfl
  rcases Nat.lt_or_ge s text.size with h | h
  · left
    refine ⟨h, seen, ?_⟩
    show (if s < text.size then _ else _) = _
    rw [if_pos h]; rfl
  · right
    refine ⟨by omega, ?_⟩
    have e : ({ hhAt text s b ma seen with answer := some false, pc := pc, pos := pos, handed := handed, outermost := bb } : Sre.M).step = { hhAt text s b ma seen with answer := some false, handed := handed, frames := [], weight := 0 } := by
      show (if s < text.size then _ else _) = _
      rw [if_neg (by omega)]; rfl
    rw [stepN, e]; rfl

theorem hh_run (text : Array Nat) (p : Nat) (seen : Sre.Seen) : ∃ k seen', Sre.run hhCode text 15 2 p 0 seen = .ok (k, seen') ∧ ((hexSign (text.getD p 0) && hexSign (text.getD (p + 1) 0)) = true → k = 2) ∧ ((hexSign (text.getD p 0) && hexSign (text.getD (p + 1) 0)) = false → k < 2) := by
  obtain ⟨s1, e1⟩ := hh_in (text.getD p 0) seen
  unfold Sre.run
  rw [e1]
  cases h1 : hexSign (text.getD p 0) with
  | false => exact ⟨0, s1, rfl, by simp, by simp⟩
  | true =>
    obtain ⟨s2, e2⟩ := hh_in (text.getD (p + 1) 0) s1
    show ∃ k seen', Sre.run hhCode text 15 1 (p + 1) 1 s1 = _ ∧ _
    unfold Sre.run
    rw [e2]
    cases h2 : hexSign (text.getD (p + 1) 0) with
    | false => exact ⟨1, s2, rfl, by simp, by simp⟩
    | true => exact ⟨2, s2, rfl, by simp, by simp⟩
theorem hh_one (text : Array Nat) (s : Nat) (b ma : Bool) (seen : Sre.Seen) (hs : s ≤ text.size) :
    (hhHere text s = true ∧ hhEnd text s (stepN 6 (hhAt text s b ma seen))) ∨
    (hhHere text s = false ∧ ((s < text.size ∧ ∃ n seen', n ≤ 6 ∧ stepN n (hhAt text s b ma seen) = hhAt text (s + 1) false false seen') ∨ (s = text.size ∧ ∃ n, n ≤ 6 ∧ (stepN n (hhAt text s b ma seen)).outcome = some .failed))) := by
  have no : ∀ (k : Nat) (m : Sre.M), k ≤ 4 → stepN k (hhAt text s b ma seen) = m → (∃ seen pc pos handed bb, m = { hhAt text s b ma seen with answer := some false, pc := pc, pos := pos, handed := handed, outermost := bb }) →
      ((s < text.size ∧ ∃ n seen', n ≤ 6 ∧ stepN n (hhAt text s b ma seen) = hhAt text (s + 1) false false seen') ∨ (s = text.size ∧ ∃ n, n ≤ 6 ∧ (stepN n (hhAt text s b ma seen)).outcome = some .failed)) := by
    rintro k m hk e ⟨seen', pc, pos, handed, bb, hm⟩
    rcases hh_no text s b ma seen' m pc pos handed bb hs hm with ⟨h, se, q⟩ | ⟨h, q⟩
    · exact .inl ⟨h, k + 1, se, by omega, by rw [stepN_add, e]; exact q⟩
    · exact .inr ⟨h, k + 2, by omega, by rw [stepN_add, e]; exact q⟩
  by_cases hlim : s ≥ text.size
  · right
    refine ⟨by unfold hhHere; simp; omega, no 1 _ (by omega) rfl ⟨seen.add 16, 9, s, s, b, ?_⟩⟩
    show (if s ≥ text.size then _ else _) = _
    rw [if_pos hlim]; rfl
  cases hc : (text.getD s 0 == 61) with
  | false =>
    right
    refine ⟨by unfold hhHere; rw [hc]; simp, no 1 _ (by omega) rfl ⟨seen.add 16, 9, s, s, b, ?_⟩⟩
    show (if s ≥ text.size then _ else match (Except.ok (text.getD s 0 == 61, seen.add 16) : Except String (Bool × Sre.Seen)) with | .error why => _ | .ok (false, se) => _ | .ok (true, se) => _) = _
    rw [if_neg hlim, hc]; rfl
  | true =>
    have e1 : (hhAt text s b ma seen).step = { hhAt text s b ma (seen.add 16) with pc := 11, pos := s + 1 } := by
      show (if s ≥ text.size then _ else match (Except.ok (text.getD s 0 == 61, seen.add 16) : Except String (Bool × Sre.Seen)) with | .error why => _ | .ok (false, se) => _ | .ok (true, se) => _) = _
      rw [if_neg hlim, hc]; rfl
    by_cases hroom : (2 : Int) > (text.size : Int) - ((s + 1 : Nat) : Int)
    · right
      refine ⟨by unfold hhHere; simp; omega, no 2 _ (by omega) (by rw [stepN, e1, stepN, stepN]) ⟨(seen.add 16).add 24, 11, s + 1, s, b, ?_⟩⟩
      show (if (2 : Int) > (text.size : Int) - ((s + 1 : Nat) : Int) then _ else _) = _
      rw [if_pos hroom]; rfl
    have hmin : min 2 ((text.size : Int) - ((s + 1 : Nat) : Int)).toNat = 2 := by omega
    obtain ⟨k, se, hr, hk2, hk1⟩ := hh_run text (s + 1) (((seen.add 16).add 24).add 13)
    have e2 : ({ hhAt text s b ma (seen.add 16) with pc := 11, pos := s + 1 } : Sre.M).step =
        if k < 2 then { hhAt text s b ma se with answer := some false, pc := 11, pos := s + 1 }
        else Sre.M.afterRun { hhAt text s b ma se with pc := 11, pos := s + 1 + k } .giveBack k { lastmark := -1, lastindex := -1, whole := false, marks := #[] } := by
      show (if (2 : Int) > (text.size : Int) - ((s + 1 : Nat) : Int) then _ else match Sre.run hhCode text 15 (min 2 ((text.size : Int) - ((s + 1 : Nat) : Int)).toNat) (s + 1) 0 (((seen.add 16).add 24).add 13) with | .error why => _ | .ok (n, se) => _) = _
      rw [if_neg hroom, hmin, hr]
      rfl
    cases hh : (hexSign (text.getD (s + 1) 0) && hexSign (text.getD (s + 2) 0)) with
    | false =>
      right
      refine ⟨by unfold hhHere; rw [hh]; simp, no 2 _ (by omega) (by rw [stepN, e1, stepN, stepN, e2, if_pos (hk1 hh)]) ⟨se, 11, s + 1, s, b, rfl⟩⟩
    | true =>
      left
      have hk := hk2 hh
      subst hk
      refine ⟨by unfold hhHere; rw [hh, hc]; simp; omega, ?_⟩
      rw [if_neg (by omega)] at e2
      have e3 : (Sre.M.afterRun { hhAt text s b ma se with pc := 11, pos := s + 1 + 2 } .giveBack 2 { lastmark := -1, lastindex := -1, whole := false, marks := #[] }).step =
          { hhAt text s b ma (se.add 1) with pc := 28, pos := s + 3, handed := s + 3, weight := 2, answer := some true, frames := [{ wait := .giveBack, pc := 11, pos := s + 3, outermost := b, count := 2, kept := { lastmark := -1, lastindex := -1, whole := false, marks := #[] } }, hhFr s b] } := by
        have : (b && ((false && (s + 3 != text.size)) || (ma && (s + 3 == s)))) = false := by
          have : (s + 3 == s) = false := by simp
          rw [this]; simp
        show (if (b && ((false && (s + 3 != text.size)) || (ma && (s + 3 == s)))) = true then _ else _) = _
        rw [if_neg (by rw [this]; simp)]; rfl
      have e6 : stepN 6 (hhAt text s b ma seen) = stepN 3 { hhAt text s b ma (se.add 1) with pc := 28, pos := s + 3, handed := s + 3, weight := 2, answer := some true, frames := [{ wait := .giveBack, pc := 11, pos := s + 3, outermost := b, count := 2, kept := { lastmark := -1, lastindex := -1, whole := false, marks := #[] } }, hhFr s b] } := by
        rw [stepN, e1, stepN, e2, stepN]; exact congrArg (stepN 3) e3
      rw [e6]
      exact ⟨rfl, rfl, rfl, rfl, rfl⟩
theorem hh_search (text : Array Nat) : ∀ (d s : Nat) (b ma : Bool) (seen : Sre.Seen), s + d = text.size →
    (∃ p n, s ≤ p ∧ hhHere text p = true ∧ (∀ q, s ≤ q → q < p → hhHere text q = false) ∧ n ≤ 6 * (d + 1) ∧ hhEnd text p (stepN n (hhAt text s b ma seen))) ∨
    ((∀ q, s ≤ q → hhHere text q = false) ∧ ∃ n, n ≤ 6 * (d + 1) ∧ (stepN n (hhAt text s b ma seen)).outcome = some .failed) := by
  intro d
  induction d with
  | zero =>
    intro s b ma seen hs
    rcases hh_one text s b ma seen (by omega) with ⟨h, e⟩ | ⟨h, ⟨h2, _⟩ | ⟨_, n, hn, e⟩⟩
    · exact .inl ⟨s, 6, Nat.le_refl _, h, fun q h1 h2 => absurd h2 (by omega), by omega, e⟩
    · omega
    · refine .inr ⟨fun q hq => ?_, n, by omega, e⟩
      unfold hhHere; simp; omega
  | succ d ih =>
    intro s b ma seen hs
    rcases hh_one text s b ma seen (by omega) with ⟨h, e⟩ | ⟨h, ⟨_, n, se, hn, e⟩ | ⟨h2, _⟩⟩
    · exact .inl ⟨s, 6, Nat.le_refl _, h, fun q h1 h2 => absurd h2 (by omega), by omega, e⟩
    · rcases ih (s + 1) false false se (by omega) with ⟨p, n2, h1, h2, h3, h4, h5⟩ | ⟨h3, n2, h4, h5⟩
      · refine .inl ⟨p, n + n2, by omega, h2, fun q a b => ?_, by omega, by rw [stepN_add, e]; exact h5⟩
        rcases Nat.lt_or_ge s q with k | k
        · exact h3 q k b
        · have : q = s := by omega
          rw [this]; exact h
      · refine .inr ⟨fun q a => ?_, n + n2, by omega, by rw [stepN_add, e]; exact h5⟩
        rcases Nat.lt_or_ge s q with k | k
        · exact h3 q k
        · have : q = s := by omega
          rw [this]; exact h
    · omega
theorem hh_found {M : Model} {A : Around} {E : Value → Shared → Prop} {s : Shared} {Q : Option Sre.M → Shared → Prop} (t : Builtin.Re.ReTarget) (hcode : t.code = hhCode) (hgr : t.groups = 0) (hlim : t.lim = t.text.size) (start : Nat) (must : Bool)
    (hst : start ≤ t.text.size) (hsz : t.text.size < 2 ^ 50)
    (hno : (∀ q, start ≤ q → hhHere t.text q = false) → Q none s)
    (hyes : ∀ p m, start ≤ p → hhHere t.text p = true → (∀ q, start ≤ q → q < p → hhHere t.text q = false) → hhEnd t.text p m → Q (some m) s) :
    wpAny M A (Builtin.Re.reNextFound t start must) Q E s := by
  unfold Builtin.Re.reNextFound
  rw [hcode, hgr, hlim]
  by_cases hshort : start > t.text.size ∨ t.text.size - start < 3
  · have e : Sre.forSearch hhCode t.text 0 start t.text.size must = ({ hhAt t.text start true must (({} : Sre.Seen).add 14) with answer := some false, frames := [], weight := 0, lastStart := 0 } : Sre.M) := by
      show (if (decide (start > t.text.size) || decide (t.text.size - start < 3)) = true then _ else _) = _
      rw [if_pos (by simpa using hshort)]; rfl
    rw [e]
    exact wp_toEnd 1 (by decide) (.inr ⟨rfl, hno fun q hq => by unfold hhHere; simp; omega⟩)
  · have e : Sre.forSearch hhCode t.text 0 start t.text.size must = hhAt t.text start true must (({} : Sre.Seen).add 14) := by
      show (if (decide (start > t.text.size) || decide (t.text.size - start < 3)) = true then _ else _) = _
      rw [if_neg (by simpa using hshort)]; rfl
    rw [e]
    rcases hh_search t.text (t.text.size - start) start true must (({} : Sre.Seen).add 14) (by omega) with ⟨p, n, h1, h2, h3, h4, h5⟩ | ⟨h3, n, h4, h5⟩
    · exact wp_toEnd n (by omega) (.inl ⟨h5.1, hyes p _ h1 h2 h3 h5⟩)
    · exact wp_toEnd n (by omega) (.inr ⟨h5, hno h3⟩)
noncomputable abbrev opCode : Array Nat := #[14, 14, 4, 1, 1, 9, 0, 64, 0, 1342177280, 0, 0, 0, 0, 0, 17, 0, 13, 11, 9, 0, 64, 0, 1342177280, 0, 0, 0, 0, 0, 17, 1, 1]
noncomputable def opSign (c : Nat) : Bool := decide (c < 256) && (opCode.getD (6 + c / 32) 0).testBit (c % 32)
theorem op_in (c : Nat) (seen : Sre.Seen) (h : opSign c = false) : ∃ seen', Sre.inSet opCode c opCode.size 5 true seen = .ok (false, seen') := by
  refine ⟨(seen.add 9).add 0, ?_⟩
  show (if (decide (c < 256) && (opCode.getD (5 + (1 + c / 32)) 0).testBit (c % 32)) = true then _ else _) = _
  rw [show 5 + (1 + c / 32) = 6 + c / 32 by omega]
  rw [opSign] at h
  rw [if_neg (by rw [h]; simp)]; rfl
theorem op_none (m : Sre.M) (hc : m.code = opCode) (hno : ∀ i, opSign (m.text.getD i 0) = false) : ∀ (fuel s : Nat) (seen : Sre.Seen), ∃ seen', Sre.M.admitted m fuel s seen = .ok (none, seen')
  | 0, s, seen => ⟨seen, rfl⟩
  | fuel + 1, s, seen => by
    unfold Sre.M.admitted
    by_cases h : s ≥ m.lim
    · rw [if_pos h]; exact ⟨_, rfl⟩
    · rw [if_neg h, hc]
      obtain ⟨s2, e⟩ := op_in (m.text.getD s 0) seen (hno s)
      rw [e]
      exact op_none m hc hno fuel (s + 1) s2
theorem op_found {M : Model} {A : Around} {E : Value → Shared → Prop} {s : Shared} {Q : Option Sre.M → Shared → Prop} (t : Builtin.Re.ReTarget) (hcode : t.code = opCode) (hgr : t.groups = 1) (hlim : t.lim = t.text.size)
    (hno : ∀ i, opSign (t.text.getD i 0) = false) (hQ : Q none s) : wpAny M A (Builtin.Re.reNextFound t 0 false) Q E s := by
  unfold Builtin.Re.reNextFound
  rw [hcode, hgr, hlim]
  have key : (stepN 1 (Sre.forSearch opCode t.text 1 0 t.text.size false)).outcome = some .failed := by
    by_cases hs : t.text.size = 0
    · have e : Sre.forSearch opCode t.text 1 0 t.text.size false = _ := (show (if (decide (0 > t.text.size) || decide (t.text.size - 0 < 1)) = true then _ else _) = _ from if_pos (by simp [hs]))
      rw [e]; rfl
    · have e : Sre.forSearch opCode t.text 1 0 t.text.size false = _ := (show (if (decide (0 > t.text.size) || decide (t.text.size - 0 < 1)) = true then _ else _) = _ from if_neg (by simp only [Bool.or_eq_true, decide_eq_true_eq]; omega))
      rw [e]
      obtain ⟨se, e2⟩ := op_none { code := opCode, text := t.text, lim := t.text.size, start := 0, pc := 15, pos := 0, handed := 0, marks := Array.replicate 2 none, mustAdvance := false, seen := ({} : Sre.Seen).add 14, lastStart := t.text.size } rfl hno (t.text.size + 1 - 0) 0 (({} : Sre.Seen).add 14)
      have e3 : stepN 1 (Sre.M.attemptFrom { code := opCode, text := t.text, lim := t.text.size, start := 0, pc := 15, pos := 0, handed := 0, marks := Array.replicate 2 none, mustAdvance := false, seen := ({} : Sre.Seen).add 14, lastStart := t.text.size } 0 true) =
        stepN 1 (match Sre.M.admitted { code := opCode, text := t.text, lim := t.text.size, start := 0, pc := 15, pos := 0, handed := 0, marks := Array.replicate 2 none, mustAdvance := false, seen := ({} : Sre.Seen).add 14, lastStart := t.text.size } (t.text.size + 1 - 0) 0 (({} : Sre.Seen).add 14) with
          | .ok (some s, seen) => Sre.M.attemptAt { code := opCode, text := t.text, lim := t.text.size, start := 0, pc := 15, pos := 0, handed := 0, marks := Array.replicate 2 none, mustAdvance := false, seen := seen, lastStart := t.text.size } s true
          | .ok (none, seen) => Sre.M.say { code := opCode, text := t.text, lim := t.text.size, start := 0, pc := 15, pos := 0, handed := 0, marks := Array.replicate 2 none, mustAdvance := false, seen := seen, lastStart := t.text.size } false
          | .error why => Sre.M.stick { code := opCode, text := t.text, lim := t.text.size, start := 0, pc := 15, pos := 0, handed := 0, marks := Array.replicate 2 none, mustAdvance := false, seen := ({} : Sre.Seen).add 14, lastStart := t.text.size } why) := rfl
      rw [e2] at e3
      exact congrArg Sre.M.outcome e3
  exact wp_toEnd 1 (by decide) (.inr ⟨key, hQ⟩)
theorem plainAttrs_pat : PlainAttrs "re.Pattern" :=
  ⟨⟨"object.__getattribute__", by rw [typeLookup_type, builtinLookup_eq_fast]; kernel_rfl, by decide +kernel⟩, by rw [typeLookup_type, builtinLookup_eq_fast]; kernel_rfl⟩
theorem owner_pat : Manifest.owners.lookup (String.ofList ['n', 'r', 'e', 't', 't', 'a', 'P', '.', 'e', 'r'].reverse) = some Manifest.sig_re_Pattern := by kernel_rfl
theorem slot_pat_sub : Slot "re.Pattern" "sub" "re.Pattern.sub" :=
  .of (owner := "re.Pattern") (n := "sub") (by rw [typeLookup_type, builtinLookup_eq_fast]; kernel_rfl) (by decide +kernel) (by decide +kernel) (by decide +kernel)
    (by first | exact .inl (by decide +kernel) | exact .inr (by decide +kernel)) (by rw [isSubtype_type]; kernel_rfl)
theorem type_pat_sub : typeOf (.builtin "re.Pattern.sub") = pure (.type "method_descriptor") := by show builtinType _ = _; rw [builtinType_eq_fast]; kernel_rfl
theorem entry_pat_sub : entryFor table "re.Pattern.sub" = some Builtin.«re.Pattern.sub» := entryFor_of_tree (by kernel_rfl)
theorem entry_pat_loop : entryFor table "re.Pattern.sub.loop" = some Builtin.«re.Pattern.sub.loop» := entryFor_of_tree (by kernel_rfl)
theorem args_pat_sub (a b c : Value) : argsOk "re.Pattern.sub" ⟨[a, b, c], []⟩ := by
  unfold argsOk; rw [signature?_of (id := "re.Pattern.sub") (n := ['b', 'u', 's']) (o := ['n', 'r', 'e', 't', 't', 'a', 'P', '.', 'e', 'r']) (by kernel_rfl) owner_pat]; kernel_rfl
theorem plainAttrs_match : PlainAttrs "re.Match" :=
  ⟨⟨"object.__getattribute__", by rw [typeLookup_type, builtinLookup_eq_fast]; kernel_rfl, by decide +kernel⟩, by rw [typeLookup_type, builtinLookup_eq_fast]; kernel_rfl⟩
theorem slot_match_group : Slot "re.Match" "group" "re.Match.group" :=
  .of (owner := "re.Match") (n := "group") (by rw [typeLookup_type, builtinLookup_eq_fast]; kernel_rfl) (by decide +kernel) (by decide +kernel) (by decide +kernel)
    (by first | exact .inl (by decide +kernel) | exact .inr (by decide +kernel)) (by rw [isSubtype_type]; kernel_rfl)
theorem type_match_group : typeOf (.builtin "re.Match.group") = pure (.type "method_descriptor") := by show builtinType _ = _; rw [builtinType_eq_fast]; kernel_rfl
theorem entry_match_group : entryFor table "re.Match.group" = some Builtin.«re.Match.group» := entryFor_of_tree (by kernel_rfl)
theorem args_match_group (a b : Value) : argsOk "re.Match.group" ⟨[a, b], []⟩ := by unfold argsOk; kernel_rfl
noncomputable def hexD (k : Nat) : Nat := if k < 10 then 48 + k else 55 + k
noncomputable abbrev hx (o : Nat) : List Nat := [hexD (o / 16), hexD (o % 16)]
noncomputable def isVal (n : (int_private% "Numeral")) (o : Int) : Bool := (int_private% "Numeral.casesOn") (motive := fun _ => Bool) n false (fun _ => false) false (fun i => i == o)
theorem isVal_eq {n : (int_private% "Numeral")} {o : Int} (h : isVal n o = true) : n = (int_private% "Numeral.value") o := by
  cases n with
  | value i => exact congrArg _ (by simpa [isVal] using h)
  | _ => simp [isVal] at h
theorem read_hx {o : Nat} (h : o < 256) : (int_private% "readNumeral") 0 16 (hx o) = (int_private% "Numeral.value") (o : Int) := by
  have all : (List.range 256).all (fun o => isVal ((int_private% "readNumeral") 0 16 (hx o)) (o : Int)) = true := by decide +kernel
  exact isVal_eq (List.all_eq_true.mp all o (List.mem_range.mpr h))
theorem conv_16 (x : Str) (u t : Tok) : argsOk "int.__new__" ⟨[.type "int", .str x u, .int 16 t], []⟩ := by unfold argsOk; kernel_rfl
theorem wp_text16 {M : Model} {A : Around} {E : Value → Shared → Prop} {s : Shared} {Q : Value → Shared → Prop} {v : Value} {text : List Nat} {n : Int}
    (hs : (text.takeWhile (· != 0)).length ≤ 640) (hr : (int_private% "readNumeral") 0 16 (text.takeWhile (· != 0)) = (int_private% "Numeral.value") n)
    (ha : ((text.takeWhile (· != 0)).length == text.length) = true) (h : Q (.int n s.toks) { s with toks := s.toks + 1 }) :
    wpAny M A ((int_private% "intFromText") v text 16) Q E s := by
  obtain ⟨hp, g, d, tk, os⟩ := s
  repeat (any_goals (first
    | assumption
    | (with_reducible refine wpAny_ite_true (decide_eq_true hs) ?_)
    | (with_reducible refine wpAny_ite_true (decide_eq_true ha) ?_)
    | wp_step))
  all_goals (try rw [hr])
  all_goals (try dsimp only)
  repeat (any_goals (first
    | assumption
    | (with_reducible refine wpAny_ite_true (decide_eq_true hs) ?_)
    | (with_reducible refine wpAny_ite_true (decide_eq_true ha) ?_)
    | wp_step))
theorem hexD_ok (k : Nat) : hexD k ≠ 0 := by unfold hexD; split <;> omega
theorem hexD_lt {k : Nat} (h : k < 16) : hexD k < 128 := by unfold hexD; split <;> omega
theorem gives_hex {o : Nat} (ho : o < 256) (u t : Tok) : Gives (Builtin.«int.__new__» ⟨[.type "int", .str (S (hx o)) u, .int 16 t], []⟩) (.int (o : Int)) :=
  .of_wp fun M A E s Q h => by
    obtain ⟨hp, g, d, tk, os⟩ := s
    have f1 := F.conv_sub_int
    have f2 := F.madeHere_int
    have ht : (hx o).takeWhile (· != 0) = hx o := by simp [List.takeWhile_cons, hexD_ok]
    have hall : ((S (hx o)).cps.all (· < 128)) = true := by simp [hexD_lt (show o / 16 < 16 by omega), hexD_lt (show o % 16 < 16 by omega)]
    repeat (any_goals (first
      | assumption
      | ((with_reducible show wpAny _ _ ((int_private% "intFromText") _ _ _) _ _ _); (rw [if_pos hall]); refine wp_text16 (n := (o : Int)) (by rw [S_list, ht]; simp) (by rw [S_list, ht]; exact read_hx ho) (by rw [S_list, ht]; simp) ?_)
      | wp_step))
    all_goals first | exact ⟨_, rfl, h⟩ | skip
theorem newCall_int_2 (a b : Value) : checkBuiltinCall "int.__new__" ⟨[.type "int", a, b], []⟩ = pure () := by kernel_rfl
theorem typeCall_int_2 (a b : Value) : checkTypeCall "int" ⟨[a, b], []⟩ = pure () := by kernel_rfl
theorem args_object_init_3 (a b c : Value) : argsOk "object.__init__" ⟨[a, b, c], []⟩ := by unfold argsOk; kernel_rfl
section
variable {prog : Program} {w : World} {A : Around} {E : Value → Shared → Prop} {s : Shared} {Q : Value → Shared → Prop}
theorem call_hex {o : Nat} (ho : o < 256) {u t : Tok} (h : Q (.int (o : Int) s.toks) { s with toks := s.toks + 1 }) : wpAny (model prog w) A (call (.type "int") [.str (S (hx o)) u, .int 16 t]) Q E s :=
  callType_new F.called_int F.newNe_int (typeCall_int_2 _ _) (newCall_int_2 _ _) (fun obj => args_object_init_3 obj _ _) F.entry_int_new (gives_hex ho u t).meets (show (Made.int (o : Int)).post _ s from ⟨rfl, h⟩)
end
section
variable {prog : Program} {w : World} {A : Around} {E : Value → Shared → Prop} {s : Shared} {g : Heap} {L c P : Addr} {ps : Array Value} {m mg : Str → Option Value} {news : List (Addr × Obj)} {env : Env}
theorem lam_any {Q : Value → Shared → Prop} {params : Arguments} {body : Expr} {scope : Scope} {pos : Pos} {clos : List (Str × Addr)} (F : Fr g L s.heap m) (N : News g L s.heap ((P, tabObj ps) :: news)) (ht : TriplesOk ps.toList) (hne : ∀ p ∈ news, p.1 ≠ P)
    (C : CodeHd g c P) (hcode : env.code = .ref c) (hge0 : env.globals = mainGlobals) (hcl : closureFor scope env = pure clos) (hg : g.Ns mainGlobals mg) (hb : g.BuiltinsAt mg P) (hdef : defaultsOf params env = ([], []))
    (h : ∀ f oF ps' h' tk, oF.cls = .type "function" → Fr g L h' m → News g L h' ((f, oF) :: (P, tabObj ps') :: news) → TriplesOk ps'.toList → (∀ p ∈ (P, tabObj ps') :: news, p.1 < f) → Q (.ref f) { s with heap := h', toks := tk }) :
    wpAny (model prog w) A (eval (.Lambda params body scope pos) env) Q E s := by
  refine kla_eval hdef ?_
  have hm := N (P, tabObj ps) (.head _)
  obtain ⟨bm, ob, b1, b2, b3, b4, b5, b6, b7, b8⟩ := hb
  have hgP : mainGlobals ≠ P := fun q => by
    obtain ⟨o, es, ep, e, hd, _⟩ := hg
    have e2 := F.keep _ _ e
    rw [q, hm.1] at e2; cases e2; cases hd
  have hb' : s.heap.BuiltinsAt mg P := ⟨bm, ob, b1, b2, b3, b4, F.keep _ _ b5, b6, b7, b8⟩
  have hg' := hg.keeps F.keep
  have hLs : @LT.lt Nat _ L s.heap.objs.size := F.ns.lt
  have hPs : @LT.lt Nat _ P s.heap.objs.size := Heap.lt_size hm.1
  have fresh : ∀ b, L < b → g.get? b = none := fun b hb => Heap.get?_none_of_le (Nat.le_trans F.above (Nat.le_of_lt hb))
  cases hnf : codeAmong pos ps.toList with
  | none =>
    refine kla_makeFunction hcl hge0 hg' hcode (C.keeps F.keep) hm.1 ht hnf hgP hb' fun c' ctv h' tk hx hge hlt hrec htb => ?_
    have hge' : @LE.le Nat _ s.heap.objs.size c' := hge
    have hlt' : @LT.lt Nat _ c' h'.objs.size := hlt
    refine h h'.objs.size (kla_obj "<lambda>" (env.qual ++ "<lambda>") params body scope clos ((mg "__name__").getD .none) c' ctv) (ps ++ #[rawInt pos.line, rawInt pos.col, .ref c']) _ tk rfl ⟨(F.ns.extBut hx hm.2.1.symm).push _, fun b o e => Heap.get?_push_of_some _ (hx b o (fun q => by rw [q, hm.2.2] at e; cases e) (F.keep b o e)), F.above⟩
      (fun q hq => ?_) (by simpa using TriplesOk_snoc _ _ _ _ ht) (fun q hq => ?_)
    · rcases List.mem_cons.mp hq with rfl | hq
      · exact ⟨Heap.get?_push_size _ rfl, Nat.ne_of_gt (show @LT.lt Nat _ L h'.objs.size by omega), fresh _ (show @LT.lt Nat _ L h'.objs.size by omega)⟩
      rcases List.mem_cons.mp hq with rfl | hq
      · exact ⟨Heap.get?_push_of_some _ htb, hm.2⟩
      · have n := N q (.tail _ hq)
        exact ⟨Heap.get?_push_of_some _ (hx _ _ (hne q hq) n.1), n.2⟩
    · rcases List.mem_cons.mp hq with rfl | hq
      · show @LT.lt Nat _ P h'.objs.size; omega
      · have t : @LT.lt Nat _ q.1 s.heap.objs.size := Heap.lt_size (N q (.tail _ hq)).1
        show @LT.lt Nat _ q.1 h'.objs.size; omega
  | some cv =>
    refine kla_makeFunctionHit hcl hge0 hg' hcode (C.keeps F.keep) hm.1 ht hnf hb' fun ctv h' tk hk hsz => ?_
    refine h h'.objs.size { cls := .type "function", data := .func (kla_fn "<lambda>" (env.qual ++ "<lambda>") params body scope clos ((mg "__name__").getD .none) cv ctv) } ps _ tk rfl ⟨(F.ns.keeps hk).push _, fun b o e => Heap.get?_push_of_some _ (hk b o (F.keep b o e)), F.above⟩ (fun q hq => ?_) ht (fun q hq => ?_)
    · rcases List.mem_cons.mp hq with rfl | hq
      · exact ⟨Heap.get?_push_size _ rfl, Nat.ne_of_gt (show @LT.lt Nat _ L h'.objs.size by omega), fresh _ (show @LT.lt Nat _ L h'.objs.size by omega)⟩
      · exact ⟨Heap.get?_push_of_some _ (hk _ _ (N q hq).1), (N q hq).2⟩
    · rcases List.mem_cons.mp hq with rfl | hq
      · show @LT.lt Nat _ P h'.objs.size; omega
      · have t : @LT.lt Nat _ q.1 s.heap.objs.size := Heap.lt_size (N q (.tail _ hq)).1
        show @LT.lt Nat _ q.1 h'.objs.size; omega

theorem gen_list {Q : Value → Shared → Prop} {elt iter : Expr} {x : Str} {px pos : Pos} {scope : Scope} {f : Str → Str} {l : Addr} {vs : List Value} {ts : List Str}
    (hh : A.handled = none) (F : Fr g L s.heap m) (N : News g L s.heap ((P, tabObj ps) :: news)) (ht : TriplesOk ps.toList) (hne : ∀ p ∈ news, p.1 ≠ P)
    (C : CodeHd g c P) (hcode : env.code = .ref c) (hge0 : env.globals = mainGlobals) (hg : g.Ns mainGlobals mg) (hb : g.BuiltinsAt mg P) (G : AllBare s.gens) (hlim : g.NoLimit)
    (hl : s.heap.IsList l vs.toArray) (hv : StrsAre vs ts)
    (hiter : ∀ R : Value → Shared → Prop, R (.ref l) s → wpAny (model prog w) A (eval iter env) R E s)
    (helt : ∀ (C : Addr) (code : Value) (A' : Around) E' (a : Str) (t : Tok) (s₂ : Shared) m₂, a ∈ ts → A'.handled = none → s₂.heap.Ns (genEnv scope [] C code builtinsNs env).locals m₂ → m₂ x = some (.str a t) →
      wpAny (model prog w) A' (eval elt (genEnv scope [] C code builtinsNs env)) (fun y s₃ => Carried y (.str (f a)) ∧ Keeps s₂ s₃) E' s₂)
    (h : ∀ a s₅ ps' K, Fr g L s₅.heap m → News g L s₅.heap ((P, tabObj ps') :: news) → TriplesOk ps'.toList → AllBare s₅.gens → s₅.os = s.os → L ≤ K → (∀ p ∈ (P, tabObj ps') :: news, p.1 ≤ K) →
      GenOnS prog w A K a ts (fun _ => true) (fun k => .str (f k)) s₅ → Q (.ref a) s₅)
    (hs : ∀ x, genFold iter env x = pure x) (hco : scope.isCoroutine = false) (hclos : closureFor scope env = pure []) (hcell : ∀ y ∈ scope.names, y.2 ≠ .cell) (h0 : scope.names.lookup (".0" : Str) = some NameKind.local)
    (hx : scope.names.lookup x = some .local) (hkind : scope.kind = .function) (hroom : A.depth < recursionLimit) :
    wpAny (model prog w) A (eval (.GeneratorExp elt [⟨.Name x px, iter, [], 0⟩] scope pos) env) Q E s := by
  refine wpAny_GeneratorExp_walksQD (E := E) hh hco hclos hcell h0 hx hkind hroom (hiter _ ?_) hs
  refine wpAny_pyIter_list hl ?_
  have hm := N (P, tabObj ps) (.head _)
  obtain ⟨bm, ob, b1, b2, b3, b4, b5, b6, b7, b8⟩ := hb
  have hgP : mainGlobals ≠ P := fun q => by
    obtain ⟨o, es, ep, e, hd, _⟩ := hg
    have e2 := F.keep _ _ e
    rw [q, hm.1] at e2; cases e2; cases hd
  have hLs : @LT.lt Nat _ L s.heap.objs.size := F.ns.lt
  have hPs : @LT.lt Nat _ P s.heap.objs.size := Heap.lt_size hm.1
  have hlt : @LT.lt Nat _ l s.heap.objs.size := by obtain ⟨_, e, _⟩ := hl; exact Heap.lt_size e
  have hlP : l ≠ P := fun e => by
    obtain ⟨o, ho, hc, _⟩ := hl
    rw [e, hm.1] at ho; cases ho; exact absurd hc (by simp)
  generalize hs2 : s.heap.push _ = H
  have hHs : H.objs.size = s.heap.objs.size + 1 := by rw [← hs2, Heap.size_push]
  have kH : ∀ b o, s.heap.get? b = some o → H.get? b = some o := fun b o e => by rw [← hs2]; exact Heap.get?_push_of_some _ e
  have hlimH : H.NoLimit := (hlim.keeps F.keep).keeps kH
  have hcP : cStatics ≠ P := fun e => by
    obtain ⟨_, hns, _⟩ := hlimH
    obtain ⟨o, es, ep, ho, hd, _⟩ := hns
    rw [e, kH _ _ hm.1] at ho; cases ho; cases hd
  have hcl : @LT.lt Nat _ cStatics s.heap.objs.size := by
    obtain ⟨_, hns, _⟩ := hlim.keeps F.keep
    exact hns.lt
  have hstart : H.IsListIter s.heap.objs.size l 0 ∧ H.IsList l vs.toArray := by
    rw [← hs2]; exact ⟨⟨_, Heap.get?_push_size _ rfl, rfl, rfl⟩, hl.push _⟩
  have W : ∀ A' : Around, A'.handled = none → _ := fun A' hA => Walks.list (prog := prog) (w := w) (A := A') hA s.heap.objs.size l (Nat.ne_of_lt hlt) vs.toArray
  have hat : ∀ (i : Nat) (v : Value), vs.toArray[i]? = some v → ∃ t, v = Value.str (ts.getD i "") t ∧ ts.getD i "" ∈ ts := fun i v hv' => by
    have hv2 : vs[i]? = some v := by simpa using hv'
    have hlt : i < ts.length := by rw [← hv.length]; exact (List.getElem?_eq_some_iff.mp hv2).1
    obtain ⟨t, ht⟩ := hv.get i ts[i] (List.getElem?_eq_getElem hlt)
    rw [hv2] at ht
    exact ⟨t, by rw [Option.some.inj ht]; simp [List.getD_eq_getElem?_getD, hlt], by simp [List.getD_eq_getElem?_getD, hlt]⟩
  obtain ⟨K, hK⟩ : ∃ K, s.heap.objs.size = K + 1 := ⟨s.heap.objs.size - 1, by omega⟩
  -- what follows the code object
  have rest : ∀ (code : Value) (h₃ : Heap) (tk₃ : Nat) (ps' : Array Value), Heap.ExtBut P H h₃ → H.objs.size ≤ h₃.objs.size → h₃.get? P = some (tabObj ps') → TriplesOk ps'.toList →
      wpAny (model prog w) A (builtinsFor env.globals env.builtins) (fun bi s₄ =>
        ∃ I fp wr n₀ P St₀ pz F, Value.ref s.heap.objs.size = .ref I ∧ (∀ A' : Around, A'.handled = none → Walks prog w A' I fp wr n₀ P St₀) ∧ St₀ 0 s₄.heap ∧ (∀ b ∈ fp, b < s₄.heap.objs.size) ∧ s₄.heap.NoLimit ∧ cStatics ∉ wr ∧
          (∀ href : Heap, (∀ b o, s₄.heap.get? b = some o → href.get? b = some o) →
            QuietGenD prog w (genEnv scope [] s₄.heap.objs.size code bi env) x [] elt (List.range s₄.heap.objs.size) wr P pz F href (A.depth + 1) (A.units + 8)) ∧
          (∀ a h₅ tk gs, gs.bare = true → s₄.heap.objs.size < a → h₅.objs.size = a + 1 → (∀ b o, s₄.heap.get? b = some o → h₅.get? b = some o) →
            WalksS prog w A.in4 a (a :: s₄.heap.objs.size :: List.range s₄.heap.objs.size) (s₄.heap.objs.size :: wr) (GenOnlyQ s₄.gens.size) (passing pz n₀ 0).length
              (fun j y => ∃ i, (passing pz n₀ 0)[j]? = some i ∧ F i y) (GenAt prog w A.in4 a s₄.gens.size s₄.heap.objs.size (List.range s₄.heap.objs.size) wr pz n₀ F) →
            GenAt prog w A.in4 a s₄.gens.size s₄.heap.objs.size (List.range s₄.heap.objs.size) wr pz n₀ F 0 { s₄ with gens := s₄.gens.push gs, toks := tk, heap := h₅ } →
            Q (.ref a) { s₄ with gens := s₄.gens.push gs, toks := tk, heap := h₅ })) E { s with heap := h₃, toks := tk₃ } := by
    intro code h₃ tk₃ ps' hx hsz htb htr
    have k3 : ∀ b o, b ≠ P → s.heap.get? b = some o → h₃.get? b = some o := fun b o hb e => hx b o hb (kH b o e)
    have kg : ∀ b o, g.get? b = some o → h₃.get? b = some o := fun b o e => k3 b o (fun q => by rw [q, hm.2.2] at e; cases e) (F.keep b o e)
    rw [hge0]
    refine wpAny_builtinsFor (hg.keeps kg) b1 b2 (kg _ _ b5) b6 b7 b8 ?_
    refine ⟨_, _, _, _, _, _, (fun _ => true), (fun i y => Carried y (.str (f (ts.getD i "")))), rfl, W, (W A hh).frame _ _ _ hstart (fun b hb o e => hx b o (fun q => ?_) e), (fun b hb => ?_), hlimH.extBut hx hcP, (fun hmem => ?_), (fun href hk => ⟨fun A' E' i v s₂ m₂ hA _ _ hP hn hm' _ => ?_, fun A' E' i v s₂ m₂ hA _ _ hP _ hn hm' _ => ?_⟩), ?_⟩
    · rcases List.mem_cons.mp hb with e | hb
      · exact Nat.ne_of_lt hPs (q.symm.trans e)
      · exact hlP ((List.mem_singleton.mp hb).symm.trans q)
    · show @LT.lt Nat _ b h₃.objs.size
      rcases List.mem_cons.mp hb with rfl | hb
      · omega
      · rw [List.mem_singleton.mp hb]; omega
    · exact Nat.ne_of_lt hcl (List.mem_singleton.mp hmem)
    · exact wpAny_tests_nil ⟨rfl, ⟨_, _, rfl, fun _ _ e => e⟩⟩
    · obtain ⟨t, rfl, hmem⟩ := hat i v hP
      exact helt _ code A' E' _ t s₂ m₂ hmem hA hn hm'
    · intro a h₅ tk gs hgb hag hsz₅ hk₅ WS hgat
      have hag' : @LT.lt Nat _ h₃.objs.size a := hag
      have hLK : @LE.le Nat _ L K := by omega
      have hn2 : passOnS ts (fun _ => true) = passing (fun _ => true) vs.toArray.size 0 := by simp [passOnS, hv.length]
      refine h a _ ps' K ⟨(F.ns.extBut k3 hm.2.1.symm).keeps hk₅, fun b o e => hk₅ b o (kg b o e), F.above⟩ (fun p hp => ?_) htr (G.push hgb) rfl hLK (fun p hp => ?_) ?_
      · rcases List.mem_cons.mp hp with rfl | hp
        · exact ⟨hk₅ _ _ htb, hm.2⟩
        · have n := N p (.tail _ hp)
          exact ⟨hk₅ _ _ (k3 _ _ (hne p hp) n.1), n.2⟩
      · rcases List.mem_cons.mp hp with rfl | hp
        · show @LE.le Nat _ P K; omega
        · have t : @LT.lt Nat _ p.1 s.heap.objs.size := Heap.lt_size (N p (.tail _ hp)).1
          show @LE.le Nat _ p.1 K; omega
      · unfold GenOnS
        rw [hn2]
        refine ⟨_, _, _, _, WS, hgat, (fun i s' st => st.1.typeIs), List.mem_cons_self, ?_, ?_⟩
        · intro b hb
          show @LT.lt Nat _ b h₅.objs.size
          rw [hsz₅]
          rcases List.mem_cons.mp hb with rfl | hb
          · exact Nat.lt_succ_self _
          rcases List.mem_cons.mp hb with rfl | hb
          · exact Nat.lt_succ_of_lt hag'
          · exact Nat.lt_succ_of_lt (Nat.lt_trans (List.mem_range.mp hb) hag')
        · intro b hb
          rcases List.mem_cons.mp hb with rfl | hb
          · show @LT.lt Nat _ K h₃.objs.size; omega
          · rw [List.mem_singleton.mp hb]; show @LT.lt Nat _ K s.heap.objs.size; omega
  refine ⟨hlimH, ?_⟩
  have CH : CodeHd H c P := (C.keeps F.keep).keeps kH
  cases hnf : codeAmong pos ps.toList with
  | none =>
    exact wpAny_genexprCodeX hcode (CH.code (kH _ _ hm.1) ht) (CH.tab (kH _ _ hm.1)) hnf fun c' h₃ tk₃ hx₃ hge hlt hcode₃ _ htab₃ _ => rest _ h₃ tk₃ _ hx₃ (Nat.le_trans hge (Nat.le_of_lt hlt)) htab₃.2 (by simpa using TriplesOk_snoc _ _ _ _ ht)
  | some cv => exact wpAny_genexprCode_hit hcode (CH.code (kH _ _ hm.1) ht) hnf (rest _ H _ ps (fun _ _ _ e => e) (Nat.le_refl _) (kH _ _ hm.1) ht)
theorem join_led {Q : Value → Shared → Prop} {K a : Addr} {ts : List Str} {f : Str → Str} {sep : Str} {t : Tok} (F : Fr g L s.heap m) (N : News g L s.heap news) (G : AllBare s.gens) (hLK : L ≤ K) (hnK : ∀ p ∈ news, p.1 ≤ K)
    (X : GenOnS prog w A K a ts (fun _ => true) (fun k => .str (f k)) s) (hok : JoinOk sep (ts.map f) = true) (hsz : ts.length ≤ sizeLine)
    (h : ∀ s' t', Fr g L s'.heap m → News g L s'.heap news → AllBare s'.gens → s'.os = s.os → Q (.str (Txt.join sep (ts.map f)) t') s') :
    wpAny (model prog w) A (call (.builtin "str.join") [.str sep t, .ref a]) Q E s := by
  have e : ts.filter (fun _ => true) = ts := List.filter_eq_self.mpr fun _ _ => rfl
  refine join_genSK F G X hLK (by rw [e]; exact hok) (fun s' t' F' G' hos hk => ?_) hsz
  rw [e]
  exact h s' t' F' (fun p hp => ⟨hk _ _ (hnK p hp) (N p hp).1, (N p hp).2⟩) G' hos
end
section
variable {prog : Program} {w : World} {A : Around} {E : Value → Shared → Prop} {s : Shared} {Q : Value → Shared → Prop}
theorem sub_KeyError : isSubtype (.type "KeyError") (.type "LookupError") = pure true := by rw [isSubtype_type]; kernel_rfl
theorem look_keep {d : Addr} {f : Int → Option Value} {c : Nat} {Q : Builtin.Str.Mapped → Shared → Prop} (hm : s.heap.MapOf (intKind prog w) d f) (hd : (d == sysModules) = false) (hh : A.handled = none) (hv : f (c : Int) = none)
    (h : ∀ h' tk, Pres s.heap h' → Q .keep { s with heap := h', toks := tk }) : wpAny (model prog w) A (Builtin.Str.tableLookup (.ref d) c) Q E s := by
  unfold Builtin.Str.tableLookup
  refine wpAny_bind (wpAny_attempt (wpAny_bind ?_))
  refine wpAny_mkInt ?_
  refine wpAny_getItem_missing_of (knd := intKind prog w) (k := (c : Int)) (s := { s with toks := s.toks + 1 }) (by simp [intKind, Value.isInt]) hd hh hm hv fun h' e he => ?_
  obtain ⟨ob, t, ho, hc, _⟩ := he.there
  exact wpAny_bind (wpAny_isInstance (T := "KeyError") ⟨ob, ho, hc⟩ sub_KeyError (wpAny_bind (wpAny_rule (wpAny_pure (h _ _ he.keeps)))))
noncomputable def outOf (mp : Nat → Builtin.Str.Mapped) (c : Nat) : List Nat := match mp c with | .text t => t.cps.toList | _ => [c]
theorem trans_all {table : Value} {x : List Nat} {t : Tok} {mp : Nat → Builtin.Str.Mapped} (hx : x ≠ []) (hlen : x.length < 1000) (hk : ∀ c ∈ x, mp c = .keep ∨ ∃ t, mp c = .text t ∧ t.length ≤ 1000)
    (look : ∀ c ∈ x, ∀ (s' : Shared) (Q : Builtin.Str.Mapped → Shared → Prop), Pres s.heap s'.heap → (∀ h' tk, Pres s'.heap h' → Q (mp c) { s' with heap := h', toks := tk }) → wpAny (model prog w) A.in1 (Builtin.Str.tableLookup table c) Q E s')
    (h : ∀ h' tk t', Pres s.heap h' → Q (.str (S (x.flatMap (outOf mp))) t') { s with heap := h', toks := tk }) : wpAny (model prog w) A (call (.builtin "str.translate") [.str (S x) t, table]) Q E s := by
  refine wpAny_call_entry F.slot_str_translate (typeIs_str _ _ _) F.entry_str_translate ?_ (F.args_str_translate_2 _ _)
  show wpAny _ _ (if (S x).length == 0 then _ else _) _ _ _
  rw [if_neg (by rw [S_len]; simpa using hx)]
  refine wpAny_bind (wpAny_forIn_array' _ (fun rest b s' => ∃ done, Cj7 (x = done ++ rest) (Pres s.heap s'.heap) (s' = { s with heap := s'.heap, toks := s'.toks }) (b.2.2.2.2 = false) (b.1.reverse.flatMap (·.cps.toList) = done.flatMap (outOf mp)) (b.2.1 ≤ done.length * 1000) (∀ c a, b.2.2.2.1.lookup c = some a → ∃ d, a = some d ∧ outOf mp c = [d])) _ ?turn ?fin _ _ ?h)
  case h => exact ⟨[], by simp, fun _ _ e => e, rfl, rfl, rfl, Nat.le_refl _, fun c a e => by simp at e⟩
  case fin =>
    rintro ⟨pieces, total, fast, known, aft⟩ s' ⟨done, hx2, hp, hs, _, hpc, ht, _⟩
    dsimp only at hpc ht ⊢
    rw [List.append_nil] at hx2
    subst hx2
    have htl : Builtin.Str.tooLong total = false := by unfold Builtin.Str.tooLong; simp only [sizeLine_eq, decide_eq_false_iff_not]; omega
    rw [htl, if_neg (by simp)]
    have efold : ∀ (l : List Str) (acc : Array Nat), (l.foldl (fun acc p => acc ++ p.cps) acc) = acc ++ (l.flatMap (·.cps.toList)).toArray := by
      intro l
      induction l with
      | nil => intro acc; simp
      | cons a l ih => intro acc; rw [List.foldl_cons, ih, List.flatMap_cons]; apply Array.ext'; simp
    rw [efold, hpc]
    have e2 : (⟨#[] ++ (x.flatMap (outOf mp)).toArray⟩ : Str) = S (x.flatMap (outOf mp)) := by simp [S]
    rw [e2]
    have hsm : (x.flatMap (outOf mp)).length ≤ x.length * 1000 := by
      have : ∀ l : List Nat, (∀ c ∈ l, c ∈ x) → (l.flatMap (outOf mp)).length ≤ l.length * 1000 := by
        intro l
        induction l with
        | nil => intro _; simp
        | cons a l ih =>
          intro hl
          rw [List.flatMap_cons, List.length_append, List.length_cons]
          have := ih fun c hc => hl c (.tail _ hc)
          have h1 : (outOf mp a).length ≤ 1000 := by
            unfold outOf
            rcases hk a (hl a (.head _)) with e | ⟨t, e, ht⟩ <;> rw [e]
            · simp
            · exact ht
          omega
      exact this x fun _ h => h
    rw [hs]
    exact wpAny_bind (wpAny_mkStr (wpAny_pure ⟨_, rfl, h _ _ _ hp⟩) (by rw [S_len, sizeLine_eq]; omega))
  case turn =>
    rintro c rest ⟨pieces, total, fast, known, aft⟩ s' ⟨done, hx2, hp, hs, haft, hpc, ht, hkn⟩
    dsimp only at haft hpc ht hkn ⊢
    subst haft
    have hcx : c ∈ x := by rw [hx2]; simp
    have hdl : done.length < 1000 := by rw [hx2] at hlen; simp at hlen; omega
    have htl : Builtin.Str.tooLong total = false := by unfold Builtin.Str.tooLong; simp only [sizeLine_eq, decide_eq_false_iff_not]; omega
    rw [htl, if_neg (by simp)]
    have next : ∀ (ps : Str) (total' : Nat) (fast' : Bool) (known' : List (Nat × Option Nat)) (h' : Heap) (tk : Nat), ps.cps.toList = outOf mp c → total' ≤ total + 1000 → (∀ c a, known'.lookup c = some a → ∃ d, a = some d ∧ outOf mp c = [d]) → Pres s.heap h' →
        ∃ done', Cj7 (x = done' ++ rest) (Pres s.heap h') (({ s with heap := h', toks := tk } : Shared) = { s with heap := h', toks := tk }) (false = false) ((ps :: pieces).reverse.flatMap (·.cps.toList) = done'.flatMap (outOf mp)) (total' ≤ done'.length * 1000) (∀ c a, known'.lookup c = some a → ∃ d, a = some d ∧ outOf mp c = [d]) := by
      intro ps total' fast' known' h' tk e1 e2 e3 e4
      refine ⟨done ++ [c], by rw [hx2]; simp, e4, rfl, rfl, ?_, by simp; omega, e3⟩
      simp only [List.reverse_cons, List.flatMap_append, hpc, List.flatMap_cons, List.flatMap_nil, List.append_nil, e1]
    have slow : ∀ (fast' : Bool) (known' : List (Nat × Option Nat)) (s₂ : Shared), Pres s.heap s₂.heap → s₂ = { s with heap := s₂.heap, toks := s₂.toks } → (∀ c a, known'.lookup c = some a → ∃ d, a = some d ∧ outOf mp c = [d]) → ∀ R : ForInStep (List Str × Nat × Bool × List (Nat × Option Nat) × Bool) → Shared → Prop,
        (∀ ps total' h' tk, ps.cps.toList = outOf mp c → total' ≤ total + 1000 → Pres s.heap h' → R (.yield (ps :: pieces, total', fast', known', false)) { s with heap := h', toks := tk }) →
        wpAny (model prog w) A.in1 (do
          let l ← Builtin.Str.tableLookup table c
          match l with
            | .keep => pure (ForInStep.yield (({ cps := #[c] } : Str) :: pieces, total + 1, fast', known', false))
            | .drop => pure (ForInStep.yield (pieces, total, fast', known', true))
            | .char d => pure (ForInStep.yield (({ cps := #[d] } : Str) :: pieces, total + 1, fast', known', false))
            | .text t => pure (ForInStep.yield (t :: pieces, total + t.length, fast', known', false))) R E s₂ := by
      intro fast' known' s₂ hp₂ hs₂ hkn' R hR
      refine wpAny_bind (look c hcx s₂ _ hp₂ fun h' tk hp' => ?_)
      have hp3 : Pres s.heap h' := fun b o e => hp' b o (hp₂ b o e)
      rw [hs₂]
      rcases hk c hcx with e | ⟨t, e, htl⟩
      · rw [e]
        exact wpAny_pure (hR _ _ h' tk (by simp [outOf, e]) (by omega) hp3)
      · rw [e]
        exact wpAny_pure (hR _ _ h' tk (by simp [outOf, e]) (by omega) hp3)
    cases fast with
    | false => exact slow false known s' hp hs hkn _ fun ps total' h' tk e1 e2 e4 => next ps total' false known h' tk e1 e2 hkn e4
    | true =>
      show wpAny _ _ (match List.lookup c known with | some a => _ | none => _) _ _ _
      cases hl : List.lookup c known with
      | some a =>
        obtain ⟨d, rfl, hd⟩ := hkn c a hl
        refine wpAny_bind (wpAny_pure ?_)
        rw [hs]
        exact wpAny_pure (next ⟨#[d]⟩ (total + 1) true known s'.heap s'.toks (by rw [hd]) (by omega) hkn hp)
      | none =>
        refine wpAny_bind (look c hcx s' _ hp fun h' tk hp' => ?_)
        have hp3 : Pres s.heap h' := fun b o e => hp' b o (hp b o e)
        rw [hs]
        have kadd : ∀ d, outOf mp c = [d] → ∀ c' a, ((c, some d) :: known).lookup c' = some a → ∃ d, a = some d ∧ outOf mp c' = [d] := by
          intro d hd c' a e
          rw [List.lookup_cons] at e
          cases hcc : c' == c with
          | true => rw [hcc] at e; cases e; rw [eq_of_beq hcc]; exact ⟨d, rfl, hd⟩
          | false => rw [hcc] at e; exact hkn c' a e
        rcases hk c hcx with e | ⟨t, e, htl⟩
        · rw [e]
          have hd : outOf mp c = [c] := by simp [outOf, e]
          exact wpAny_bind (wpAny_pure (wpAny_pure (next ⟨#[c]⟩ (total + 1) true _ h' tk (by rw [hd]) (by omega) (kadd c hd) hp3)))
        · rw [e]
          dsimp only
          cases h1 : (t.length == 1 && t.cps.all fun x => decide (x < 128)) with
          | true =>
            have h1' : t.cps.size = 1 := by simp at h1; exact h1.1
            obtain ⟨d, hd⟩ : ∃ d, t.cps = #[d] := by
              obtain ⟨l⟩ := t
              obtain ⟨l⟩ := l
              match l, h1' with
              | [d], _ => exact ⟨d, rfl⟩
            have ho : outOf mp c = [d] := by simp [outOf, e, hd]
            rw [if_pos rfl, hd]
            exact wpAny_bind (wpAny_pure (wpAny_pure (next ⟨#[d]⟩ (total + 1) true _ h' tk (by rw [ho]) (by omega) (kadd d ho) hp3)))
          | false =>
            rw [if_neg (by simp)]
            exact wpAny_bind (wpAny_pure (wpAny_bind (wpAny_rule (slow false known { s with heap := h', toks := tk } hp3 rfl hkn _ fun ps total' h' tk e1 e2 e4 => next ps total' false known h' tk e1 e2 hkn e4))))
end
noncomputable abbrev appBound (D : Addr) : Obj := { cls := .type "builtin_function_or_method", data := .fields #[.builtin "list.append", .ref D] }
theorem slot_md_get : Slot "method_descriptor" "__get__" "method_descriptor.__get__" :=
  .of (owner := "method_descriptor") (n := "__get__") (by rw [typeLookup_type, builtinLookup_eq_fast]; kernel_rfl) (by decide +kernel) (by decide +kernel) (by decide +kernel)
    (by first | exact .inl (by decide +kernel) | exact .inr (by decide +kernel)) (by rw [isSubtype_type]; kernel_rfl)
theorem entry_md_get : entryFor table "method_descriptor.__get__" = some Builtin.«method_descriptor.__get__» := entryFor_of_tree (by kernel_rfl)
theorem args_md_get (a b c : Value) : argsOk "method_descriptor.__get__" ⟨[a, b, c], []⟩ := by unfold argsOk; kernel_rfl
theorem md_noset : typeLookup (.type "method_descriptor") "__set__" = pure none := by rw [typeLookup_type, builtinLookup_eq_fast]; kernel_rfl
theorem md_nodel : typeLookup (.type "method_descriptor") "__delete__" = pure none := by rw [typeLookup_type, builtinLookup_eq_fast]; kernel_rfl
theorem append_told : Manifest.toldItsClass.contains "list.append" = false := by decide +kernel
theorem owner_append : ".".intercalate ("list.append".cutAt '.').dropLast = "list" := by decide +kernel
theorem sub_append : isSubtype (.type "list") (.type (".".intercalate ("list.append".cutAt '.').dropLast)) = pure true := by rw [owner_append]; exact sub_list_self
section
variable {prog : Program} {w : World} {A : Around} {E : Value → Shared → Prop} {h : Heap} {g : Array GenState} {d : Drawn} {t : Nat} {os : OsState} {D : Addr} {o : Obj}
theorem md_get_call {R : Result → Shared → Prop} (ho : h.get? D = some o) (hc : o.cls = .type "list") (hq : R (.ok (.ret (.ref h.objs.size))) ⟨h.push (appBound D), g, d, t, os⟩) :
    codeAny (model prog w) A (.call (.builtin "method_descriptor.__get__") ⟨[.builtin "list.append", .ref D, .type "list"], []⟩) R ⟨h, g, d, t, os⟩ := by
  have hT : (⟨h, g, d, t, os⟩ : Shared).TypeIs (.ref D) "list" := ⟨o, ho, hc⟩
  have hT5 : (⟨h, g, d, t, os⟩ : Shared).TypeIs (.builtin "list.append") "method_descriptor" := PySem.F.type_list_append
  have f1 := sub_append
  have f2 := append_told
  refine codeAny_call_builtin slot_md_get.plain entry_md_get (slot_md_get.check _ _ _ _ _ _ _ _ hT5 (args_md_get _ _ _) ?_)
  repeat (any_goals (first | assumption | wp_step))

theorem append_entry {tk : Tok} {vs : Array Value} {k : Nat} {Q : Fin → Shared → Prop} (ho : h.get? D = some (PySem.W.listOf vs k)) (hq : Q (.done (.ret (.ref h.objs.size))) ⟨h.push (appBound D), g, d, t, os⟩) :
    wpAny (model prog w) A (Builtin.«object.__getattribute__» ⟨[.ref D, .str "append" tk], []⟩) Q E ⟨h, g, d, t, os⟩ := by
  have hT : (⟨h, g, d, t, os⟩ : Shared).TypeIs (.ref D) "list" := ⟨_, ho, rfl⟩
  have hT5 : (⟨h, g, d, t, os⟩ : Shared).TypeIs (.builtin "list.append") "method_descriptor" := PySem.F.type_list_append
  have f4 := PySem.F.slot_list_append.lookup
  have f5 := PySem.F.type_list_append
  have f6 := slot_md_get.lookup
  have f7 := md_noset
  have f8 := md_nodel
  repeat (any_goals (first | assumption | wp_step))
  refine md_get_call ho rfl ?_
  repeat (any_goals (first | assumption | wp_step))
theorem append_call {tk : Tok} {vs : Array Value} {k : Nat} {R : Result → Shared → Prop} (ho : h.get? D = some (PySem.W.listOf vs k)) (hq : R (.ok (.ret (.ref h.objs.size))) ⟨h.push (appBound D), g, d, t, os⟩) :
    codeAny (model prog w) A (.call (.builtin "list.__getattribute__") ⟨[.ref D, .str "append" tk], []⟩) R ⟨h, g, d, t, os⟩ :=
  codeAny_call_builtin PySem.F.slot_list_getattribute.plain PySem.F.entry_list_ga (PySem.F.slot_list_getattribute.check _ _ _ _ _ _ _ _ (show (⟨h, g, d, t, os⟩ : Shared).TypeIs (.ref D) "list" from ⟨_, ho, rfl⟩) (PySem.F.args_list_getattribute_2 _ _) (append_entry ho hq))
theorem append_attr {vs : Array Value} {k : Nat} {Q : Value → Shared → Prop} (ho : h.get? D = some (PySem.W.listOf vs k)) (hq : Q (.ref h.objs.size) ⟨h.push (appBound D), g, d, t + 1, os⟩) :
    wpAny (model prog w) A (getAttr (.ref D) "append" true) Q E ⟨h, g, d, t, os⟩ := by
  have hT : (⟨h, g, d, t, os⟩ : Shared).TypeIs (.ref D) "list" := ⟨_, ho, rfl⟩
  have f2 := PySem.F.slot_list_getattribute.lookup
  have f3 := PySem.F.slot_list_getattribute.bind (.ref D)
  unfold getAttr
  repeat (any_goals (first | assumption | wp_step))
  refine append_call ho ?_
  repeat (any_goals (first | assumption | wp_step))
end

theorem sub_list_module : isSubtype (.type "list") (.type "module") = pure false := by rw [isSubtype_type]; kernel_rfl
theorem append_sig : Manifest.signature? "list.append" = some ⟨.oneArg, "list.append", "append", .self, [⟨"object", .posOnly, true⟩]⟩ := by
  rw [signature?_of (id := "list.append") (n := ['d', 'n', 'e', 'p', 'p', 'a']) (o := ['t', 's', 'i', 'l']) (by kernel_rfl) PySem.F.owner_list]; kernel_rfl
theorem append_args (a b : Value) : Bind.checkArgs "list.append" ⟨.oneArg, toString (Bind.lastOf "list") ++ toString "." ++ toString (Bind.lastOf "list.append"), "append", .self, [⟨"object", .posOnly, true⟩]⟩ ⟨[a, b], []⟩ = pure () := by
  kernel_rfl
theorem append_kind : builtinKind "list.append" = some .method := by decide +kernel
theorem append_varargs : Manifest.varargsMethods.contains "list.append" = false := by decide +kernel
section
variable {prog : Program} {w : World} {M : Model} {A : Around} {E : Value → Shared → Prop} {s : Shared} {g : Heap} {L a D : Addr} {m : Str → Option Value} {news news' : List (Addr × Obj)}
theorem check_app {x : Value} {Q : Unit → Shared → Prop} {vs : Array Value} {k : Nat} (ho : s.heap.get? D = some (PySem.W.listOf vs k)) (h : Q () s) : wpAny M A (checkBoundCall "list.append" ⟨[.ref D, x], []⟩) Q E s := by
  unfold checkBoundCall
  rw [append_sig]
  simp only [append_kind]
  show wpAny _ _ (isInstance (.ref D) (.type "module") >>= _) _ _ _
  refine wpAny_bind (wpAny_isInstance (T := "list") ⟨_, ho, rfl⟩ sub_list_module ?_)
  rw [append_varargs]
  show wpAny _ _ ((isType (.ref D)) >>= _) _ _ _
  have hT : s.TypeIs (.ref D) "list" := ⟨_, ho, rfl⟩
  have e2 := append_args
  obtain ⟨hp, gs, dr, tk, os⟩ := s
  repeat (any_goals (first | assumption | wp_step))
theorem call_app {x : Value} {its : Array Value} {n : Nat} {Q : Value → Shared → Prop} (F : Fr g L s.heap m) (N : News g L s.heap news) (hm : (a, appBound D) ∈ news) (U : Upd D (PySem.W.listOf its n) (PySem.W.listOf (its.push x) (n + 1)) news news')
    (h : ∀ h', Fr g L h' m → News g L h' news' → Q .none { s with heap := h' }) (hsz : its.size ≤ sizeLine) : wpAny (model prog w) A (call (.ref a) [x]) Q E s := by
  obtain ⟨pre, post, rfl, rfl, q1, q2⟩ := U.split
  have z := N (D, PySem.W.listOf its n) (List.mem_append.mpr (.inr (.head _)))
  have ho := (N _ hm).1
  refine wpAny_call (codeAny_of_tree ?_)
  show wpAny _ A.in1 (callAny (.ref a) ⟨[x], []⟩) _ _ s
  simp only [callAny]
  refine wpAny_bind (wpAny_load ho ?_)
  simp only [appBound]
  rw [if_pos (by decide)]
  show wpAny _ _ (if (Value.type "builtin_function_or_method" != Value.type "method") = true then _ else _) _ _ _
  rw [if_pos (by decide)]
  refine wpAny_bind (check_app z.1 ?_)
  refine wpAny_pure ⟨Code.quiet_builtin _ (by decide +kernel), codeAny_builtin PySem.F.entry_list_append ?_⟩
  show wpAny _ _ (updateSeq D (·.push x) >>= fun _ => ret .none) _ _ _
  refine wpAny_bind (wpAny_updateSeq z.1 rfl ?_ hsz (by rw [Array.size_push]; omega))
  have hs : Heap.SameBut D s.heap (s.heap.update D (Obj.mapSeq (·.push x))) := Heap.SameBut.update ..
  refine wpAny_pure (h _ (F.change hs z.2.1 z.2.2) (news_set N q1 q2 hs ((Heap.get?_update_self _ z.1 rfl).trans ?_)))
  simp [Obj.mapSeq, PySem.W.listOf]
theorem callWith_appF {pos : Pos} {args : List (Bool × Sem Value)} {Q : Value → Shared → Prop} (hplain : args.any (·.1) = false)
    (h : wpAny M A (evalArgs (.ref a) true args []) (fun x s₁ => (∃ D, s₁.heap.get? a = some (appBound D)) ∧ wpAny M A (call (.ref a) ([] ++ x.pos) x.kw) Q E s₁) E s) : wpAny M A (callWith pos (.ref a) [] args []) Q E s := by
  unfold callWith
  refine wpAny_bind (wpAny_holding (wpAny_mono h (fun x s₁ h₁ => wpAny_bind (wpAny_standAt ?_)) fun _ _ x => x))
  obtain ⟨⟨D, ho⟩, hcall⟩ := h₁
  simp only [hplain, List.any_nil, Bool.or_false]
  refine wpAny_bind (m := keeperOf (.ref a)) ?_
  unfold keeperOf
  refine wpAny_bind (wpAny_load ho ?_)
  simp only [show (Value.type "builtin_function_or_method" != Value.type "method") = true by decide, show (Value.type "builtin_function_or_method" == Value.type "builtin_function_or_method" || Value.type "builtin_function_or_method" == Value.type "method-wrapper") = true by decide, if_true]
  refine wpAny_pure ?_
  exact wpAny_bind (wpAny_mono hcall (fun r s₂ hr => wpAny_bind (wpAny_holding (wpAny_point (wpAny_pure hr)))) fun _ _ x => x)
theorem callWith_app {pos : Pos} {e : Expr} {env : Env} {Q : Value → Shared → Prop}
    (h : wpAny M A (spliced (backTo pos (starEach [e] env))) (fun vs s₁ => (∃ D, s₁.heap.get? a = some (appBound D)) ∧ wpAny M A (call (.ref a) vs) Q E s₁) E s)
    (he : starEach [e] env = (false, eval e env) :: starEach [] env := by rfl) (hplain : (backTo pos (starEach [] env)).any (·.1) = false := by rfl) :
    wpAny M A (callWith pos (.ref a) [] (backTo pos (starEach [e] env)) []) Q E s := by
  rw [he] at h ⊢
  refine callWith_appF (by show (false || (backTo pos (starEach [] env)).any (·.1)) = false; rw [hplain]; rfl) ?_
  exact Calls.evalArgs_plain h
end
section
variable {prog : Program} {w : World} {A : Around} {E : Value → Shared → Prop} {s : Shared} {g : Heap} {L a D : Addr} {m : Str → Option Value} {news news' : List (Addr × Obj)}
theorem attr_app {its : Array Value} {n : Nat} {Q : Value → Shared → Prop} (F : Fr g L s.heap m) (N : News g L s.heap news) (hm : (D, PySem.W.listOf its n) ∈ news)
    (h : ∀ l h', Fr g L h' m → News g L h' ((l, appBound D) :: news) → (∀ p ∈ news, p.1 < l) → Q (.ref l) { s with heap := h', toks := s.toks + 1 }) : wpAny (model prog w) A (getAttr (.ref D) "append" true) Q E s := by
  obtain ⟨hp, gs, dr, tk, os⟩ := s
  refine append_attr (h := hp) (N _ hm).1 ?_
  exact h hp.objs.size (hp.push (appBound D)) (F.push _) (News.push F N _) fun p hp => Heap.lt_size (N p hp).1
theorem app_there {h : Heap} (N : News g L h news) (hm : (a, appBound D) ∈ news) : ∃ D, h.get? a = some (appBound D) := ⟨D, (N _ hm).1⟩
theorem getm_trans {x : Str} {t : Tok} {pl : Sem Bool} {Q : Value × List Value → Shared → Prop} (h : Q (.builtin "str.translate", [.str x t]) s) : wpAny (model prog w) A (getMethod (.str x t) "translate" pl) Q E s := by
  with_reducible exact GM.of (.str x t) (typeIs_str _ _ _) PySem.F.slot_str_translate PySem.F.type_str_translate GM.noRef h
end
section
variable {prog : Program} {w : World} {A : Around} {Q : Flow → Shared → Prop} {s : Shared} {env : Env} {h₀ : Heap} {L : Addr} {test : Expr} {body : List Stmt} {pos : Pos}
noncomputable def WhileAt (prog : Program) (w : World) (A : Around) (test : Expr) (body : List Stmt) (env : Env) (Q : Flow → Shared → Prop) (s : Shared) : Prop :=
  codeAny (model prog w) A (.whileLoop test body [] env) (fun r s' => match r with | .ok f => Q f s' | .error e => cameBackBy (model prog w) A env (fun _ _ => False) e s') s
theorem while_enter (h : WhileAt prog w A test body env Q s) : wpAny (model prog w) A (exec (.While test body [] pos) env) Q (fun _ _ => False) s := wpAny_While h
theorem while_turn (h : wpAny (model prog w) A (isTrue test env (eval test env)) (fun b s₂ => if b = true then wpAny (model prog w) A (execs body env) (fun f s₃ => match f with
      | .next | .cont => WhileAt prog w A test body env Q s₃
      | .brk => Q .next s₃
      | .ret v => Q (.ret v) s₃) (fun _ _ => False) s₂ else Q .next s₂) (fun _ _ => False) s) : WhileAt prog w A test body env Q s := by
  unfold WhileAt
  refine codeAny_of_tree ?_
  show wpAny _ A ((whileTurn test body [] env).onRaise (fun x => do noteFrame x env; theTreesLotGoes x)) _ _ s
  refine wpAny_noted ?_
  simp only [whileTurn]
  refine wpAny_bind (wpAny_mono h (fun b s₂ h₂ => ?_) fun _ _ e => e.elim)
  cases b with
  | false =>
    simp only [Bool.false_eq_true, if_false] at h₂ ⊢
    exact wpAny_bind (wpAny_execs_nil (wpAny_pure h₂))
  | true =>
    simp only [if_true] at h₂ ⊢
    refine wpAny_bind (wpAny_mono h₂ (fun f s₃ h₃ => ?_) fun _ _ e => e.elim)
    cases f with
    | next => exact wpAny_pure ⟨rfl, h₃⟩
    | cont => exact wpAny_pure ⟨rfl, h₃⟩
    | brk => exact wpAny_pure h₃
    | ret v => exact wpAny_pure h₃
noncomputable def WhileStep3 (h₀ : Heap) (L : Addr) (J : Nat → Shared → (Str → Option Value) → List (Addr × Obj) → Prop) (Q : Flow → Shared → Prop) (n : Nat) (f : Flow) (s₃ : Shared) : Prop :=
  match f with
  | .next | .cont => ∃ m₂ news₂ n', Fr h₀ L s₃.heap m₂ ∧ News h₀ L s₃.heap news₂ ∧ n' < n ∧ J n' s₃ m₂ news₂
  | .brk => Q .next s₃
  | .ret v => Q (.ret v) s₃
theorem while_inv (J : Nat → Shared → (Str → Option Value) → List (Addr × Obj) → Prop)
    (turn : ∀ n s₁ m₁ news₁, Fr h₀ L s₁.heap m₁ → News h₀ L s₁.heap news₁ → J n s₁ m₁ news₁ →
      wpAny (model prog w) A (isTrue test env (eval test env)) (fun b s₂ => if b = true then wpAny (model prog w) A (execs body env) (WhileStep3 h₀ L J Q n) (fun _ _ => False) s₂ else Q .next s₂) (fun _ _ => False) s₁) :
    ∀ (n : Nat) (s₁ : Shared) (m₁ : Str → Option Value) (news₁ : List (Addr × Obj)), Fr h₀ L s₁.heap m₁ → News h₀ L s₁.heap news₁ → J n s₁ m₁ news₁ → WhileAt prog w A test body env Q s₁ := by
  intro n
  induction n using Nat.strongRecOn with
  | ind n ih =>
    intro s₁ m₁ news₁ F N hJ
    refine while_turn (wpAny_mono (turn n s₁ m₁ news₁ F N hJ) (fun b s₂ h₂ => ?_) fun _ _ e => e)
    cases b with
    | false => exact h₂
    | true =>
      refine wpAny_mono (Q := WhileStep3 h₀ L J Q n) h₂ (fun f s₃ h₃ => ?_) fun _ _ e => e
      cases f with
      | next => obtain ⟨m₂, news₂, n', F₂, N₂, hn, J₂⟩ := h₃; exact ih n' hn s₃ m₂ news₂ F₂ N₂ J₂
      | cont => obtain ⟨m₂, news₂, n', F₂, N₂, hn, J₂⟩ := h₃; exact ih n' hn s₃ m₂ news₂ F₂ N₂ J₂
      | brk => exact h₃
      | ret v => exact h₃
end
section
variable {M : Model} {A : Around} {E : Value → Shared → Prop} {Q : Flow → Shared → Prop} {s : Shared} {env : Env}
theorem execs_cut {st : Stmt} {rest : List Stmt} (P : Shared → Prop) (h1 : wpAny M A (exec st env) (fun f s' => f = .next ∧ P s') E s) (h2 : ∀ s', P s' → wpAny M A (execs rest env) Q E s') : wpAny M A (execs (st :: rest) env) Q E s :=
  wpAny_execs_cons (wpAny_mono h1 (fun f s' h => by obtain ⟨rfl, h⟩ := h; exact h2 s' h) fun _ _ e => e)
end
section
variable {h h' : Heap} {P L : Addr} {ps : Array Value} {m mg mb : Str → Option Value} {K : Frag} {p : Program} {loose : List Str}
theorem under_fr (F : Fr h L h' m) : Fr (hideAll h [P]) L h' m := ⟨F.ns, fun b o e => F.keep b o (of_hideAll _ e), Nat.le_trans (Nat.le_of_eq (hideAll_size _ _)) F.above⟩
theorem under_news (F : Fr h L h' m) (hP : h.get? P = some (tabObj ps)) : News (hideAll h [P]) L h' [(P, tabObj ps)] := fun p hp => by
  rw [List.mem_singleton.mp hp]
  exact ⟨F.keep _ _ hP, Nat.ne_of_lt (Nat.lt_of_lt_of_le (Heap.lt_size hP) F.above), hideAll_none _ (.head _)⟩
theorem under_get {b : Addr} {o : Obj} (hP : h.get? P = some (tabObj ps)) (e : h.get? b = some o) (hn : o ≠ tabObj ps) : (hideAll h [P]).get? b = some o :=
  hideAll_get _ e fun q => by rw [List.mem_singleton.mp q, hP] at e; exact hn (Option.some.inj e).symm
theorem under_ns {a : Addr} {mm : Str → Option Value} (hP : h.get? P = some (tabObj ps)) (x : h.Ns a mm) : (hideAll h [P]).Ns a mm :=
  let ⟨o, es, ep, e, hd, r⟩ := x; ⟨o, es, ep, under_get hP e (fun q => by rw [q] at hd; cases hd), hd, r⟩
theorem under_K (X : K.In h) (hK : K.lookup P = none) : K.In (hideAll h [P]) := fun a o e => hideAll_get _ (X a o e) fun q => by rw [List.mem_singleton.mp q, hK] at e; cases e
theorem under_top (hP : h.get? P = some (tabObj ps)) (T : TopRead p loose mg mb h) : TopRead p loose mg mb (hideAll h [P]) :=
  ⟨under_ns hP T.g, under_ns hP T.b, let ⟨mc, a, r⟩ := T.nolimit; ⟨mc, under_ns hP a, r⟩, T.builtins, T.free⟩
theorem under_builtins (hP : h.get? P = some (tabObj ps)) (B : h.BuiltinsAt mg P) : (hideAll h [P]).BuiltinsAt mg P :=
  let ⟨bm, ob, b1, b2, b3, b4, b5, r⟩ := B; ⟨bm, ob, b1, b2, b3, b4, hideAll_get _ b5 fun q => b4 (List.mem_singleton.mp q), r⟩
noncomputable def TabOk (P : Addr) (h : Heap) : Prop := ∃ ps, h.get? P = some (tabObj ps) ∧ TriplesOk ps.toList
noncomputable abbrev PresBut (P : Addr) (h h' : Heap) : Prop := ∀ b o, b ≠ P → h.get? b = some o → h'.get? b = some o
theorem under_keep (F : Fr (hideAll h [P]) L h' m) : PresBut P h h' := fun b o hb e => F.keep b o (hideAll_get _ e fun q => hb (List.mem_singleton.mp q))
end
inductive PatAt (h : Heap) (P : Addr) (code : Array Nat) (groups : Nat) : Prop
  | mk (oP : Obj) (fs : Array Value) (c : Addr) (oc : Obj) (xs : Array Value) (n : Nat) (e1 : h.get? P = some oP) (e2 : oP.cls = .type "re.Pattern") (e3 : oP.dict = none) (e4 : oP.data = .fields fs) (e5 : fs.getD 5 .none = .ref c) (e6 : Builtin.Re.reRawNat (fs.getD 6 .none) = 0) (e7 : Builtin.Re.reRawNat (fs.getD 2 .none) = groups)
    (e8 : h.get? c = some oc) (e9 : oc.data = .seq xs n) (e10 : (xs.map Builtin.Re.reRawOf).map (·.toNat) = code) : PatAt h P code groups
theorem PatAt.keeps {h h' : Heap} {P : Addr} {code : Array Nat} {groups : Nat} (x : PatAt h P code groups) (k : Pres h h') : PatAt h' P code groups := by
  cases x with | mk oP fs c oc xs n e1 e2 e3 e4 e5 e6 e7 e8 e9 e10 => exact ⟨oP, fs, c, oc, xs, n, k _ _ e1, e2, e3, e4, e5, e6, e7, k _ _ e8, e9, e10⟩
theorem PatAt.typeIs {s : Shared} {P : Addr} {code : Array Nat} {groups : Nat} (x : PatAt s.heap P code groups) : s.TypeIs (.ref P) "re.Pattern" := by
  cases x with | mk oP fs c oc xs n e1 e2 => exact ⟨oP, e1, e2⟩
noncomputable abbrev patTarget (P : Addr) (x : Str) (t : Tok) (code : Array Nat) (groups : Nat) : Builtin.Re.ReTarget := { pattern := .ref P, string := .str x t, code, text := x.cps, kind := 0, groups, pos := 0, lim := x.cps.size }
theorem fn_call : typeLookup (.type "function") "__call__" = pure (some (.builtin "function.__call__")) := by rw [typeLookup_type, builtinLookup_eq_fast]; kernel_rfl

section
variable {prog : Program} {w : World} {A : Around} {E : Value → Shared → Prop} {s : Shared} {P f : Addr} {code : Array Nat} {groups : Nat} {x : Str} {t : Tok}
theorem getm_sub {pl : Sem Bool} {Q : Value × List Value → Shared → Prop} (X : PatAt s.heap P code groups) (h : Q (.builtin "re.Pattern.sub", [.ref P]) s) : wpAny (model prog w) A (getMethod (.ref P) "sub" pl) Q E s := by
  have hT := X.typeIs
  obtain ⟨oP, fs, c, oc, xs, n, e1, e2, e3⟩ := X
  with_reducible exact getMethod_builtin hT plainAttrs_pat slot_pat_sub type_pat_sub (fun a e => ⟨oP, by injection e with e; rw [← e]; exact e1, e3⟩) h
theorem wp_target {Q : Builtin.Re.ReTarget → Shared → Prop} (X : PatAt s.heap P code groups) (h : Q (patTarget P x t code groups) s) : wpAny (model prog w) A (Builtin.Re.reWholeTarget (.ref P) (.str x t)) Q E s := by
  obtain ⟨oP, fs, c, oc, xs, n, e1, e2, e3, e4, e5, e6, e7, e8, e9, e10⟩ := X
  unfold Builtin.Re.reWholeTarget
  refine wpAny_bind (wpAny_fieldsOf e1 e4 ?_)
  refine wpAny_bind (wpAny_of_eq (a := (x.cps, 0)) rfl ?_)
  simp only [e6, e7, e5]
  show wpAny _ _ (Builtin.Re.reRawItems (.ref c) >>= _) _ _ _
  unfold Builtin.Re.reRawItems
  refine wpAny_bind (wpAny_bind ?_)
  unfold seqItems?
  refine wpAny_bind (wpAny_load e8 ?_)
  rw [e9]
  refine wpAny_pure (wpAny_pure (wpAny_pure ?_))
  simp only [Option.getD_some, e10]
  exact h
theorem sub_start {R : Result → Shared → Prop} (X : PatAt s.heap P code groups) {of : Obj} (hf : s.heap.get? f = some of) (hfc : of.cls = .type "function")
    (h : ∀ tk, codeAny (model prog w) A (.builtin "re.Pattern.sub.loop" ⟨[.ref P, .str x t, .ref f, rawInt 1, rawInt 0, rawInt 0, rawInt 0, rawInt 0, .bool false, .ref s.heap.objs.size, .bool false], []⟩) R { s with heap := s.heap.push (PySem.W.listOf #[] 0), toks := tk }) :
    codeAny (model prog w) A (.call (.builtin "re.Pattern.sub") ⟨[.ref P, .ref f, .str x t], []⟩) R s := by
  have hTf : s.TypeIs (.ref f) "function" := ⟨of, hf, hfc⟩
  have X2 := X
  refine codeAny_call_builtin slot_pat_sub.plain entry_pat_sub (slot_pat_sub.check _ _ _ _ _ _ _ _ X.typeIs (args_pat_sub _ _ _) ?_)
  show wpAny _ _ (Builtin.Re.reNamed "re.Pattern.sub" "sub" ["repl", "string", "count"] 2 [.ref f, .str x t] [] >>= _) _ _ _
  refine wpAny_bind (wpAny_of_eq (a := [some (.ref f), some (.str x t), none]) (by kernel_rfl) ?_)
  refine wpAny_bind (wpAny_of_eq (a := 0) rfl ?_)
  refine wpAny_bind (wpAny_specialOf hTf fn_call ?_)
  simp only [Option.isSome_some, if_true]
  refine wpAny_bind (wpAny_pure ?_)
  refine wpAny_bind (wpAny_pure ?_)
  refine wpAny_bind (wpAny_holding (wp_target X ?_))
  refine wpAny_ite_true rfl ?_
  unfold Builtin.Re.reNotHeld
  refine wpAny_bind (wpAny_bind (wpAny_isInstance (typeIs_str _ _ _) PySem.F.sub_str_bytearray ?_))
  rw [if_neg (by simp)]
  refine wpAny_bind (wpAny_pure ?_)
  refine wpAny_pure ?_
  refine wpAny_bind (wpAny_newObj_type ?_)
  exact wpAny_pure ⟨Code.quiet_builtin _ (by decide +kernel), h _⟩
end
noncomputable abbrev SubSeg := List Nat × List Nat × List Nat
noncomputable def segText : List SubSeg → List Nat
  | [] => []
  | (a, m, _) :: r => a ++ (m ++ segText r)
noncomputable def segOut : List SubSeg → List Nat
  | [] => []
  | (a, _, o) :: r => a ++ (o ++ segOut r)
theorem join_nil_flat : ∀ (us : List Str), Txt.join ⟨#[]⟩ us = S (us.flatMap (·.cps.toList)) := by
  intro us
  unfold Txt.join
  rw [StrLaws.glued_eq_join]
  induction us with
  | nil => rfl
  | cons a r ih =>
    cases r with
    | nil => show a = _; simp [S_eta]
    | cons b r =>
      show a ++ ⟨#[]⟩ ++ Str.join ⟨#[]⟩ (b :: r) = _
      have e : a ++ (⟨#[]⟩ : Str) = a := by show (⟨a.cps ++ #[]⟩ : Str) = a; simp
      rw [ih, e]
      simp only [List.flatMap_cons, ← S_append, S_eta]
section
variable {prog : Program} {w : World} {A : Around} {E : Value → Shared → Prop} {s0 : Shared} {P f L : Addr} {code : Array Nat} {groups : Nat} {whole tail : List Nat} {t : Tok}
theorem sub_fin {R : Fin → Shared → Prop} {A' : Around} {text : Array Nat} {n : Int} {us : List Str} {vs : List Value} {k : Nat} {s : Shared} {total : List Nat} (hL : s.heap.get? L = some (PySem.W.listOf vs.toArray k)) (hu : StrsAre vs us) (hul : us.length < 4000) (htot : total.length < 1000)
    (hres : us.flatMap (·.cps.toList) = total) (hR : ∀ tk t', R (.done (.ret (.str (S total) t'))) { s with toks := tk }) :
    wpAny (model prog w) A' (do
      let joiner ← Builtin.Re.reSlice text 0 0 0
      let l ← seqItems? (Value.ref L)
      if (l.getD #[]).isEmpty = true then do
        let text ← pure joiner
        if false = true then do
          let a ← holding [text] (do let b ← mkInt n; newTuple [text, b])
          ret a
        else ret text
      else do
        let text ← call (Value.builtin (if (0 == 0) = true then "str.join" else "bytes.join")) [joiner, Value.ref L]
        if false = true then do
          let a ← holding [text] (do let b ← mkInt n; newTuple [text, b])
          ret a
        else ret text) R E s := by
  unfold Builtin.Re.reSlice
  refine wpAny_bind (wpAny_ite_true rfl (wpAny_mkStr ?_ (by simp [Str.length, sizeLine_eq])))
  unfold seqItems?
  refine wpAny_bind (wpAny_bind (wpAny_load hL ?_))
  refine wpAny_pure ?_
  have e0 : (⟨text.extract 0 0⟩ : Str) = ⟨#[]⟩ := by simp
  rw [e0]
  cases vs with
  | nil =>
    have : us = [] := by have := hu.length; cases us with | nil => rfl | cons _ _ => simp at this
    subst this
    refine wpAny_ite_true rfl (wpAny_bind (wpAny_pure ?_))
    refine wpAny_ite_false rfl (wpAny_pure ?_)
    simp at hres
    subst hres
    exact hR _ _
  | cons v vs =>
    refine wpAny_ite_false rfl ?_
    refine wpAny_bind ?_
    show wpAny _ _ (call (Value.builtin "str.join") [_, Value.ref L]) _ _ _
    have hl : (fun us : List Str => (us.map (·.length)).sum) us ≤ total.length := by
      rw [← hres]
      show (us.map (·.length)).sum ≤ _
      clear hres hu hul hL
      induction us with
      | nil => simp
      | cons a r ih => simp only [List.map_cons, List.sum_cons, List.flatMap_cons, List.length_append]; have : a.length = a.cps.toList.length := by simp [Str.length]
                       omega
    refine join_list (items := (v :: vs).toArray) ⟨_, hL, rfl, _, rfl⟩ (by simpa using hu) ?_ (fun t' kk => ?_)
    · dsimp only at hl; simp only [Str.length, List.size_toArray, List.length_nil]; simp only [Str.length] at hl; omega
    · rw [join_nil_flat, hres]
      exact wpAny_ite_false rfl (wpAny_pure (hR _ _))
noncomputable abbrev matchObj (P : Addr) (x : Str) (t : Tok) (tp : Addr) : Obj := { cls := .type "re.Match", data := .fields #[.str x t, .ref P, rawInt 0, rawInt x.cps.size, rawInt (-1), .ref tp] }
theorem sub_hit {R : Fin → Shared → Prop} {A' : Around} {mm : Sre.M} {vs : List Value} {k : Nat} {s : Shared} {o : List Nat} {c : Code} (hmi : mm.lastindex = -1) (hL : s.heap.get? L = some (PySem.W.listOf vs.toArray k)) (hvl : vs.length < 4000)
    (hcall : ∀ (s' : Shared) (a tp : Addr) (Q : Value → Shared → Prop), Pres s.heap s'.heap → s'.heap.get? a = some (matchObj P (S whole) t tp) → s'.heap.get? tp = some { cls := .type "tuple", data := .seq #[rawInt mm.start, rawInt mm.handed] } →
      (∀ h' tk ty, Pres s'.heap h' → Q (.str (S o) ty) { s' with heap := h', toks := tk }) → wpAny (model prog w) A' (call (.ref f) [.ref a]) Q E s')
    (hR : ∀ h' h2 tk ty, Pres s.heap h2 → Heap.SameBut L h2 h' → h'.get? L = some (PySem.W.listOf (vs ++ [Value.str (S o) ty]).toArray (k + 1)) → R (.again c) { s with heap := h', toks := tk }) :
    wpAny (model prog w) A' (do
      let found ← Builtin.Re.reNewMatch (Value.ref P) (Value.str (S whole) t) 0 0 whole.toArray.size mm
      let item ← holding [found] (if ((1 : Int) == 1) = true then call (Value.ref f) [found] else do let d ← Builtin.Re.reFound found; Builtin.Re.reExpand (Value.ref f) d)
      if (item != Value.none) = true then do
        updateSeq L fun x => x.push item
        again c
      else again c) R E s := by
  unfold Builtin.Re.reNewMatch
  simp only [List.range_zero, List.flatMap_nil, List.any_nil]
  refine wpAny_bind ?_
  refine wpAny_ite_false rfl ?_
  unfold newTuple newFields
  refine wpAny_bind (wpAny_newObj_type ?_)
  refine wpAny_newObj_type ?_
  rw [hmi]
  refine wpAny_bind (wpAny_holding (wpAny_ite_true rfl ?_))
  refine hcall _ _ s.heap.objs.size _ (fun b o e => Heap.get?_push_of_some _ (Heap.get?_push_of_some _ e)) (Heap.get?_push_size _ rfl) (Heap.get?_push_of_some _ (Heap.get?_push_size _ rfl)) fun h' tk ty hp => ?_
  refine wpAny_ite_true (by rfl) ?_
  have hp2 : Pres s.heap h' := fun b o e => hp b o (Heap.get?_push_of_some _ (Heap.get?_push_of_some _ e))
  have hL2 := hp2 _ _ hL
  refine wpAny_bind (wpAny_updateSeq hL2 rfl ?_ (by simp only [List.size_toArray, sizeLine_eq]; omega) (by simp only [Array.size_push, List.size_toArray, sizeLine_eq]; omega))
  refine wpAny_pure (hR _ h' _ ty hp2 (Heap.SameBut.update ..) ?_)
  refine (Heap.get?_update_self _ hL2 rfl).trans ?_
  simp [Obj.mapSeq, PySem.W.listOf]
theorem sub_run {R : Result → Shared → Prop} {h0 : Heap} (G : List Nat → List Nat → List Nat → Prop) (X : PatAt h0 P code groups) (hL0 : h0.get? L = none) (hlen : whole.length < 1000) (total : List Nat) (htot : total.length < 1000)
    (hno : ∀ (pre : List Nat) (s : Shared) (E : Value → Shared → Prop) (Q : Option Sre.M → Shared → Prop), whole = pre ++ tail → Q none s → wpAny (model prog w) A.in1 (Builtin.Re.reNextFound (patTarget P (S whole) t code groups) pre.length false) Q E s)
    (hyes : ∀ (pre a m o : List Nat) (r : List SubSeg) (s : Shared) (E : Value → Shared → Prop) (Q : Option Sre.M → Shared → Prop), whole = pre ++ (a ++ (m ++ (segText r ++ tail))) → G a m o → (∀ mm : Sre.M, mm.start = pre.length + a.length → mm.handed = pre.length + a.length + m.length → mm.lastmark = -1 → mm.lastindex = -1 → Q (some mm) s) →
      wpAny (model prog w) A.in1 (Builtin.Re.reNextFound (patTarget P (S whole) t code groups) pre.length false) Q E s)
    (hcall : ∀ (pre a m o : List Nat) (r : List SubSeg) (s' : Shared) (y tp : Addr) (E : Value → Shared → Prop) (Q : Value → Shared → Prop), whole = pre ++ (a ++ (m ++ (segText r ++ tail))) → G a m o → Pres h0 s'.heap → s'.heap.get? y = some (matchObj P (S whole) t tp) →
      s'.heap.get? tp = some { cls := .type "tuple", data := .seq #[rawInt ((pre.length + a.length : Nat) : Int), rawInt ((pre.length + a.length + m.length : Nat) : Int)] } →
      (∀ h' tk ty, Pres s'.heap h' → Q (.str (S o) ty) { s' with heap := h', toks := tk }) → wpAny (model prog w) A.in1 (call (.ref f) [.ref y]) Q E s') :
    ∀ (segs : List SubSeg) (pre : List Nat) (us : List Str) (vs : List Value) (k : Nat) (n : Int) (s : Shared), (segs = [] ∨ groups = 0) → (∀ q ∈ segs, q.2.1 ≠ [] ∧ G q.1 q.2.1 q.2.2) → whole = pre ++ (segText segs ++ tail) → Pres h0 s.heap → s.heap.get? L = some (PySem.W.listOf vs.toArray k) → StrsAre vs us → us.length ≤ 2 * pre.length →
      us.flatMap (·.cps.toList) ++ (segOut segs ++ tail) = total → s = { s0 with heap := s.heap, toks := s.toks } →
      (∀ h' tk t', Pres h0 h' → R (.ok (.ret (.str (S total) t'))) { s0 with heap := h', toks := tk }) →
      codeAny (model prog w) A (.builtin "re.Pattern.sub.loop" ⟨[.ref P, .str (S whole) t, .ref f, rawInt 1, rawInt 0, rawInt n, rawInt pre.length, rawInt pre.length, .bool false, .ref L, .bool false], []⟩) R s := by
  intro segs
  induction segs with
  | nil =>
    intro pre us vs k n s hg hm hw hp hL hu hul hres hs hR
    refine codeAny_builtin entry_pat_loop ?_
    rw [Around.under_plainId (by decide +kernel)]
    show wpAny _ _ (Builtin.Re.reWholeTarget (.ref P) (.str (S whole) t) >>= _) _ _ _
    refine wpAny_bind (wp_target (X.keeps hp) ?_)
    refine wpAny_ite_false rfl ?_
    dsimp only
    refine wpAny_bind ?_
    refine wpAny_ite_false rfl ?_
    rw [Int.toNat_natCast]
    refine hno pre s _ _ (by simpa [segText] using hw) ?_
    dsimp only
    have hwl : whole.length = pre.length + tail.length := by rw [hw]; simp [segText]
    have hul2 : us.length < 3000 := by omega
    simp only [segOut, List.nil_append] at hres
    by_cases hlt : pre.length < whole.toArray.size
    case' pos =>
      rw [if_pos hlt]
      unfold Builtin.Re.reSlice
      refine wpAny_bind (wpAny_ite_true rfl (wpAny_mkStr ?_ ?_))
      case' refine_2 => simp only [Str.length, Array.size_extract, List.size_toArray, sizeLine_eq]; omega
      have ecut : (⟨whole.toArray.extract pre.length whole.toArray.size⟩ : Str) = S tail := by
        rw [hw]; simp [segText, S]
      rw [ecut]
      refine wpAny_bind (wpAny_updateSeq hL rfl ?_ ?_ ?_)
      case' refine_2 => have := hu.length; simp only [List.size_toArray, sizeLine_eq]; omega
      case' refine_3 => have := hu.length; simp only [Array.size_push, List.size_toArray, sizeLine_eq]; omega
      have hs' : Heap.SameBut L s.heap (s.heap.update L (Obj.mapSeq fun x => x.push (Value.str (S tail) s.toks))) := Heap.SameBut.update ..
      refine sub_fin (us := us ++ [S tail]) (vs := vs ++ [.str (S tail) s.toks]) (k := k + 1) ?_ (hu.append' (.cons _ _ .nil)) (by simp; omega) htot (by simpa using hres) fun tk t' => ?_
      case' refine_1 =>
        refine (Heap.get?_update_self _ hL rfl).trans ?_
        simp [Obj.mapSeq, PySem.W.listOf]
      case' refine_2 =>
        rw [hs]
        exact hR _ _ _ fun b o e => hs'.extBut b o (fun q => by rw [q, hL0] at e; cases e) (hp b o e)
    case' neg =>
      rw [if_neg hlt]
      have : tail = [] := by
        have : tail.length = 0 := by simp only [List.size_toArray] at hlt; omega
        exact List.length_eq_zero_iff.mp this
      subst this
      refine sub_fin (us := us) hL hu (by omega) htot (by simpa using hres) fun tk t' => ?_
      rw [hs]
      exact hR _ _ _ hp
  | cons q r ih =>
    obtain ⟨a, mt, o⟩ := q
    intro pre us vs k n s hg hm hw hp hL hu hul hres hs hR
    have hg0 : groups = 0 := hg.resolve_left (by simp)
    subst hg0
    have hmt := hm _ (.head _)
    simp only [segText, segOut, List.append_assoc] at hw hres
    have hwl : whole.length = pre.length + (a.length + (mt.length + ((segText r).length + tail.length))) := by rw [hw]; simp
    have hul2 : us.length < 3000 := by omega
    have hvl : vs.length = us.length := hu.length
    have hmt1 : 1 ≤ mt.length := by
      have := hmt.1
      cases mt with
      | nil => exact absurd rfl this
      | cons _ _ => simp
    refine codeAny_builtin entry_pat_loop ?_
    rw [Around.under_plainId (by decide +kernel)]
    show wpAny _ _ (Builtin.Re.reWholeTarget (.ref P) (.str (S whole) t) >>= _) _ _ _
    refine wpAny_bind (wp_target (X.keeps hp) ?_)
    refine wpAny_ite_false rfl ?_
    dsimp only
    refine wpAny_bind ?_
    refine wpAny_ite_false rfl ?_
    rw [Int.toNat_natCast]
    refine hyes pre a mt o r s _ _ hw hmt.2 fun mm h1 h2 h3 h4 => ?_
    dsimp only
    have hmust : (mm.handed == mm.start) = false := by rw [beq_eq_false_iff_ne, h1, h2]; omega
    rw [hmust, h2]
    have step : ∀ (us1 : List Str) (vs1 : List Value) (k1 : Nat) (s1 : Shared), Pres h0 s1.heap → s1.heap.get? L = some (PySem.W.listOf vs1.toArray k1) → StrsAre vs1 us1 → us1.length ≤ us.length + 1 → us1.flatMap (·.cps.toList) = us.flatMap (·.cps.toList) ++ a → s1 = { s0 with heap := s1.heap, toks := s1.toks } →
        wpAny (model prog w) A.in1 (do
          let found ← Builtin.Re.reNewMatch (Value.ref P) (Value.str (S whole) t) 0 0 whole.toArray.size mm
          let item ← holding [found] (if ((1 : Int) == 1) = true then call (Value.ref f) [found] else do let d ← Builtin.Re.reFound found; Builtin.Re.reExpand (Value.ref f) d)
          if (item != Value.none) = true then do
            updateSeq L fun x => x.push item
            again (Code.builtin "re.Pattern.sub.loop" ⟨[.ref P, .str (S whole) t, .ref f, rawInt 1, rawInt 0, rawInt (n + 1), rawInt ((pre.length + a.length + mt.length : Nat) : Int), rawInt ((pre.length + a.length + mt.length : Nat) : Int), .bool false, .ref L, .bool false], []⟩)
          else again (Code.builtin "re.Pattern.sub.loop" ⟨[.ref P, .str (S whole) t, .ref f, rawInt 1, rawInt 0, rawInt (n + 1), rawInt ((pre.length + a.length + mt.length : Nat) : Int), rawInt ((pre.length + a.length + mt.length : Nat) : Int), .bool false, .ref L, .bool false], []⟩))
          (fun fin s' => match fin with | .done f => R (.ok f) s' | .again c' => c'.quiet = true ∧ codeAny (model prog w) A c' R s') (fun e s' => R (.error e) s') s1 := by
      intro us1 vs1 k1 s1 hp1 hL1 hu1 hul1 hf1 hs1
      refine sub_hit (o := o) h4 hL1 (by have := hu1.length; omega) (fun s' y tp Q hp' hy htp hQ => ?_) (fun h' h2' tk ty hp2 hs2 hL2 => ⟨Code.quiet_builtin _ (by decide +kernel), ?_⟩)
      · rw [h1, h2] at htp
        exact hcall pre a mt o r s' y tp _ Q hw hmt.2 (fun b o e => hp' b o (hp1 b o e)) hy htp hQ
      · have e3 : pre.length + a.length + mt.length = (pre ++ (a ++ mt)).length := by simp; omega
        rw [e3]
        refine ih (pre ++ (a ++ mt)) (us1 ++ [S o]) (vs1 ++ [.str (S o) ty]) (k1 + 1) (n + 1) _ (.inr rfl) (fun q hq => hm q (.tail _ hq)) (by rw [hw]; simp) (fun b o e => hs2.extBut b o (fun q => by rw [q, hL0] at e; cases e) (hp2 b o (hp1 b o e))) hL2 (hu1.append' (.cons _ _ .nil)) (by simp; omega) ?_ ?_ hR
        · rw [List.flatMap_append, hf1, ← hres]; simp
        · rw [hs1]
    by_cases ha : pre.length < mm.start
    · rw [if_pos ha]
      unfold Builtin.Re.reSlice
      refine wpAny_bind (wpAny_ite_true rfl (wpAny_mkStr ?_ ?_))
      case' refine_2 => simp only [Str.length, Array.size_extract, List.size_toArray, sizeLine_eq]; omega
      have ecut : (⟨whole.toArray.extract pre.length mm.start⟩ : Str) = S a := by
        rw [h1, hw]; simp [S]
      rw [ecut]
      refine wpAny_bind (wpAny_updateSeq hL rfl ?_ ?_ ?_)
      case' refine_2 => simp only [List.size_toArray, sizeLine_eq]; omega
      case' refine_3 => simp only [Array.size_push, List.size_toArray, sizeLine_eq]; omega
      have hs' : Heap.SameBut L s.heap (s.heap.update L (Obj.mapSeq fun x => x.push (Value.str (S a) s.toks))) := Heap.SameBut.update ..
      refine wpAny_ite_false rfl ?_
      refine step (us ++ [S a]) (vs ++ [.str (S a) s.toks]) (k + 1) _ (fun b o e => hs'.extBut b o (fun q => by rw [q, hL0] at e; cases e) (hp b o e)) ?_ (hu.append' (.cons _ _ .nil)) (by simp) (by simp) (by rw [hs])
      refine (Heap.get?_update_self _ hL rfl).trans ?_
      simp [Obj.mapSeq, PySem.W.listOf]
    · rw [if_neg ha]
      have : a = [] := List.length_eq_zero_iff.mp (by omega)
      subst this
      refine wpAny_ite_false rfl ?_
      exact step us vs k s hp hL hu (by omega) (by simp) hs
theorem sub_none {s : Shared} {Q : Value → Shared → Prop} {l : List Nat} (X : PatAt s.heap P code groups) {of : Obj} (hf : s.heap.get? f = some of) (hfc : of.cls = .type "function") (hlen : l.length < 1000)
    (hno : ∀ (s : Shared) (E : Value → Shared → Prop) (Q : Option Sre.M → Shared → Prop), Q none s → wpAny (model prog w) A.in1 (Builtin.Re.reNextFound (patTarget P (S l) t code groups) 0 false) Q E s)
    (h : ∀ h' tk t', Pres s.heap h' → Q (.str (S l) t') { s with heap := h', toks := tk }) : wpAny (model prog w) A (call (.builtin "re.Pattern.sub") [.ref P, .ref f, .str (S l) t]) Q E s := by
  refine wpAny_call (sub_start X hf hfc fun tk => ?_)
  have hL0 : s.heap.get? s.heap.objs.size = none := Heap.get?_none_of_le (Nat.le_refl _)
  exact sub_run (s0 := s) (tail := l) (fun _ _ _ => False) X hL0 hlen l hlen (fun pre s' E' Q' hw hq => by
      have : pre = [] := by have := congrArg List.length hw; simpa using this
      subst this
      exact hno s' E' Q' hq) (fun _ _ _ _ _ _ _ _ _ hF => hF.elim) (fun _ _ _ _ _ _ _ _ _ _ _ hF => hF.elim)
    [] [] [] [] 0 0 _ (.inl rfl) (by simp) (by simp [segText]) (fun b o e => Heap.get?_push_of_some _ e) (Heap.get?_push_size _ rfl) .nil (by simp) (by simp [segOut]) rfl (fun h' tk t' hp => h h' tk t' hp)
end
section
variable {prog : Program} {w : World} {A : Around} {E : Value → Shared → Prop} {s : Shared} {env : Env}
theorem sl_app (a b : Str) : (a ++ b).length = a.length + b.length := by
  show (a.cps ++ b.cps).size = a.cps.size + b.cps.size
  exact Array.size_append
theorem fstr3 {a b : Str} {ka kb : Nat} {va : Expr} {p1 p2 p3 pos : Pos} {Q : Value → Shared → Prop} (ha : a.length ≤ 100) (hb : b.length ≤ 100)
    (h : ∀ tk, wpAny (model prog w) A (eval va env) (fun y s₁ => Xs2 fun l t => Cj3 (y = .str (S l) t) (l.length ≤ 100000) (∀ t' tk, Q (.str (a ++ S l ++ b) t') { s₁ with toks := tk })) E { s with toks := tk }) :
    wpAny (model prog w) A (eval (.JoinedStr [.Constant (.str a) ka p1, .FormattedValue va (-1) none p2, .Constant (.str b) kb p3] pos) env) Q E s := by
  refine JoinedStr_many (joinParts_cons (Calls.Constant_str ?_))
  have e0 : Str.empty ++ a = a := Str.empty_append a
  dsimp only
  rw [e0]
  refine ⟨by rw [sizeLine_eq]; omega, joinParts_cons (FormattedValue_plain (wpAny_mono (h _) (fun y s₁ h₁ => ?_) fun _ _ e => e))⟩
  obtain ⟨l, t, rfl, hl, hq⟩ := h₁
  have e1 : (a ++ S l).length = a.length + l.length := by rw [sl_app, S_len l]
  have e2 : (a ++ S l ++ b).length = a.length + l.length + b.length := by rw [sl_app, e1]
  refine formatField_str (fun t' tk => ?_) (by rw [S_len, sizeLine_eq]; omega)
  dsimp only
  refine ⟨by rw [e1, sizeLine_eq]; omega, joinParts_cons (Calls.Constant_str ?_)⟩
  dsimp only
  refine ⟨by rw [e2, sizeLine_eq]; omega, joinParts_nil (hq _ _) (by rw [e2, sizeLine_eq]; omega)⟩
theorem add_S {a b : List Nat} {t u : Tok} {Q : Value → Shared → Prop} (hz : a.length + b.length ≤ 100000) (h : ∀ t' tk', Q (.str (S (a ++ b)) t') { s with toks := tk' }) : wpAny (model prog w) A (binaryOp .Add (.str (S a) t) (.str (S b) u)) Q E s := by
  refine PyProof.Rows.add_str (fun t' tk' => ?_) (by rw [S_len, S_len, sizeLine_eq]; omega)
  rw [S_append]; exact h t' tk'
end
section
variable {prog : Program} {w : World} {M : Model} {A : Around} {E : Value → Shared → Prop} {s : Shared}
theorem ite_cut {α : Type} {c : Bool} {t1 t2 : Sem α} {Q : α → Shared → Prop} (P : α → Shared → Prop) (h1 : c = true → wpAny M A t1 P E s) (h2 : c = false → wpAny M A t2 P E s) (h : ∀ v s', P v s' → Q v s') : if c = true then wpAny M A t1 Q E s else wpAny M A t2 Q E s := by
  cases c with
  | true => exact wpAny_mono (h1 rfl) h fun _ _ e => e
  | false => exact wpAny_mono (h2 rfl) h fun _ _ e => e
theorem gives_find4 (x y : Str) (i j : Int) (t u v v2 : Tok) : Gives (Builtin.«str.find» ⟨[.str x t, .str y u, .int i v, .int j v2], []⟩) (.int (match Builtin.Str.occurrences x y (fromIndex x.length i) (min (fromIndex x.length j) x.length) 1 with | k :: _ => (k : Int) | [] => -1)) := by
  show Gives (match Builtin.Str.occurrences x y (fromIndex x.length i) (min (fromIndex x.length j) x.length) 1 with | k :: _ => retInt k | [] => (do rule "str.find.not-found"; retInt (-1))) _
  cases Builtin.Str.occurrences x y (fromIndex x.length i) (min (fromIndex x.length j) x.length) 1 with
  | nil => exact .rule (.of_eq rfl)
  | cons k _ => exact .of_eq rfl
theorem find_in {x y : Str} {t u v v2 : Tok} {i j : Nat} {Q : Value → Shared → Prop} (k : Nat) (h : Builtin.Str.occurrences x y i j 1 = [k]) (hj : j ≤ x.length) (hQ : Q (.int (k : Int) s.toks) { s with toks := s.toks + 1 }) :
    wpAny (model prog w) A (call (.builtin "str.find") [.str x t, .str y u, .int (i : Int) v, .int (j : Int) v2]) Q E s := by
  refine call_gives F.slot_str_find (typeIs_str _ _ _) F.entry_str_find (F.args_str_find_4 _ _ _ _) (gives_find4 x y i j t u v v2) ?_
  have e : ∀ n : Nat, fromIndex x.length (n : Int) = n := fun n => by unfold fromIndex; rw [if_neg (by omega)]; omega
  rw [e, e, Nat.min_eq_left hj, h]
  exact hQ
theorem find_out {x y : Str} {t u v v2 : Tok} {i j : Nat} {Q : Value → Shared → Prop} (hij : j + 1 ≤ i) (hj : j ≤ x.length) (hQ : Q (.int (-1) s.toks) { s with toks := s.toks + 1 }) :
    wpAny (model prog w) A (call (.builtin "str.find") [.str x t, .str y u, .int (i : Int) v, .int (j : Int) v2]) Q E s := by
  refine call_gives F.slot_str_find (typeIs_str _ _ _) F.entry_str_find (F.args_str_find_4 _ _ _ _) (gives_find4 x y i j t u v v2) ?_
  have e : ∀ n : Nat, fromIndex x.length (n : Int) = n := fun n => by unfold fromIndex; rw [if_neg (by omega)]; omega
  have h : Builtin.Str.occurrences x y i j 1 = [] := by
    rw [StrLaws.occ_eq, show j + 1 - i = 0 by omega]; rfl
  rw [e, e, Nat.min_eq_left hj, h]
  exact hQ
theorem occ_here {x : Str} {c i j : Nat} (hx : x.cps[i]? = some c) (hij : i + 1 ≤ j) (hj : j ≤ x.length) : Builtin.Str.occurrences x ⟨#[c]⟩ i j 1 = [i] := by
  rw [StrLaws.occ_eq]
  obtain ⟨d, hd⟩ : ∃ d, j + 1 - i = d + 1 := ⟨j - i, by omega⟩
  rw [hd, List.range'_succ, List.forIn_cons]
  have hs : Builtin.Str.subAt x ⟨#[c]⟩ i = true := ((StrLaws.subAt_one x c i).mpr (by simpa using hx)).2
  have hb : StrLaws.occBody x ⟨#[c]⟩ j 1 i (#[], i) = pure (ForInStep.yield (#[i], i + 1)) := by
    unfold StrLaws.occBody; rw [hs]; rw [if_pos ⟨⟨⟨by simp, by simp⟩, by simp [Str.length]; omega⟩, rfl⟩]; simp [Str.length]
  rw [hb]
  have stay : ∀ (l : List Nat) (free : Nat), (forIn l ((#[i] : Array Nat), free) (StrLaws.occBody x ⟨#[c]⟩ j 1)).run = (#[i], free) := by
    intro l
    induction l with
    | nil => intro free; rfl
    | cons a l ih =>
      intro free
      rw [List.forIn_cons]
      have : StrLaws.occBody x ⟨#[c]⟩ j 1 a (#[i], free) = pure (ForInStep.yield (#[i], free)) := by
        unfold StrLaws.occBody; rw [if_neg (by simp)]
      rw [this]; exact ih free
  have := stay (List.range' (i + 1) d) (i + 1)
  show (forIn (List.range' (i + 1) d) ((#[i] : Array Nat), i + 1) (StrLaws.occBody x ⟨#[c]⟩ j 1)).run.fst.toList = _
  rw [this]
end
section
variable {prog : Program} {w : World} {A : Around} {s : Shared} {env : Env} {h₀ : Heap} {m : Str → Option Value} {news : List (Addr × Obj)}
theorem len_here {E : Value → Shared → Prop} {Q : Value → Shared → Prop} {l : Addr} {items : Array Value} (hl : s.heap.IsList l items) (hfit : items.size < 2 ^ 62) (h : Q (.int items.size (s.toks + 1)) { s with toks := s.toks + 1 + 1 }) :
    wpAny (model prog w) A (call (.builtin "len") [.ref l]) Q E s := call_len_list hl (by omega) h
theorem for_down {target : Expr} {body : List Stmt} {r : Addr} {t u v : Tok} {R : Result → Shared → Prop} {E : Value → Shared → Prop} (hh : A.handled = none) (hr : IsRange s.heap r 1 0 (-1) t u v)
    (F : Fr h₀ env.locals s.heap m) (N : News h₀ env.locals s.heap news) (ht : ∀ I v, letOwnedTupleGo target (.ref I) v = pure ())
    (J : Nat → (Str → Option Value) → List (Addr × Obj) → Prop) (h0 : J 0 m news)
    (turn : ∀ I t m₁ news₁ oI h tk, (∀ p ∈ news, p.1 < I) → J 0 m₁ news₁ → (∀ p ∈ news₁, p.1 ≠ I) → Fr h₀ env.locals h m₁ → News h₀ env.locals h ((I, oI) :: news₁) →
      wpAny (model prog w) A (assign target env (.int 1 t)) (fun _ s₂ => wpAny (model prog w) A (execs body env) (ForPost h₀ env.locals I oI [] h s (J 1) R) (fun _ _ => False) s₂) (fun _ _ => False) { s with heap := h, toks := tk })
    (done : ∀ m₁ news₁ h tk, J 1 m₁ news₁ → Fr h₀ env.locals h m₁ → News h₀ env.locals h news₁ → R (.ok .next) { s with heap := h, toks := tk }) :
    wpAny (model prog w) A (pyIter (.ref r)) (fun it s₂ => codeAny (model prog w) A (.forLoop target it body [] env) R s₂) E s := by
  refine wpAny_pyIter_range hr (by decide +kernel) ?_
  have hI0 : s.heap.get? s.heap.objs.size = none := Heap.get?_none_of_le (Nat.le_refl _)
  have hI1 : h₀.get? s.heap.objs.size = none := by
    cases e : h₀.get? s.heap.objs.size with
    | none => rfl
    | some x => rw [F.keep _ _ e] at hI0; cases hI0
  have lt : ∀ p ∈ news, p.1 < s.heap.objs.size := fun p hp => Heap.lt_size (N p hp).1
  refine for_walk (Walks.range (prog := prog) (w := w) hh s.heap.objs.size 1 (-1) 1) (Nat.ne_of_lt F.ns.lt) hI1 (F.push _) (fun p hp => ⟨Heap.get?_push_of_some _ (N p hp).1, (N p hp).2⟩) (fun p hp => Nat.ne_of_lt (lt p hp)) ?_ (fun i h st => ⟨_, st⟩) J h0 ?_ (fun m₁ news₁ h tk hJ _ F N => done m₁ news₁ h tk hJ F N) (ht _)
  · have e1 : Builtin.Range.rangeSize 1 0 (-1) = 1 := by decide +kernel
    rw [e1]
    exact Heap.get?_push_size _ rfl
  · rintro i v m₁ news₁ oI h tk hi ⟨t, rfl⟩ hJ hoff F N
    obtain rfl : i = 0 := by omega
    have e : (1 : Int) + ((0 : Nat) : Int) * (-1) = 1 := by omega
    rw [e]
    refine wpAny_mono (turn _ t m₁ news₁ oI h tk lt hJ hoff F N) (fun _ s₂ h₂ => wpAny_mono h₂ (fun f s₃ h₃ => ?_) fun _ _ e => e) fun _ _ e => e
    have fin : ForEnd h₀ env.locals s.heap.objs.size oI [] h s (J 1) s₃ → ForEnd h₀ env.locals s.heap.objs.size oI [s.heap.objs.size] h s (J (0 + 1)) s₃ := by
      rintro ⟨h', tk', m₂, news₂, led, a, b, c, d, e, f, _, g⟩
      exact ⟨h', tk', m₂, news₂, led, a, b, c, d, e, f, fun b hb hne => absurd (List.mem_singleton.mp hb) hne, g⟩
    cases f with
    | next => exact fin h₃
    | cont => exact fin h₃
    | brk => exact h₃
    | ret v => exact h₃
end
section
variable {prog : Program} {w : World} {A : Around} {E : Value → Shared → Prop} {s : Shared} {g : Heap} {L D : Addr} {m : Str → Option Value} {news news' : List (Addr × Obj)} {its : Array Value} {n : Nat} {Q : Unit → Shared → Prop}
theorem blank_ok (D v : Value) (k : Int) (t : Tok) : Builtin.List.listBlankSlotArgs "__setitem__" 2 ⟨[D, .int k t, v], []⟩ = pure (D, [.int k t, v]) := by rfl
theorem set_plain {kz : Int} {t : Tok} {v : Value} (ho : s.heap.get? D = some (PySem.W.listOf its n)) (h0 : 0 ≤ kz) (hfit : Builtin.List.listFitsIndex kz = true) (hlt : kz < its.size)
    (h : Q () { s with heap := s.heap.update D (Obj.mapSeq (·.setIfInBounds kz.toNat v)) }) : wpAny (model prog w) A (setItem (.ref D) (.int kz t) v) Q E s := by
  have hT : s.TypeIs (.ref D) "list" := ⟨_, ho, rfl⟩
  unfold setItem
  refine wpAny_holding (wpAny_bind (wpAny_sequenceKey hT (by decide) (wpAny_bind (wpAny_callSpecial?_slot (name := Str.ofString "__setitem__") hT PySem.F.slot_list_setitem (wpAny_call_entry PySem.F.slot_list_setitem hT PySem.F.entry_list_setitem ?_ (PySem.F.args_list_setitem_3 _ _ _))))))
  unfold Builtin.«list.__setitem__»
  rw [blank_ok]
  simp only [pure_bind]
  refine wpAny_bind (wpAny_listSubscript_int hfit ?_)
  clear hfit
  obtain ⟨k, rfl⟩ := Int.eq_ofNat_of_zero_le h0
  have hk : k < its.size := by omega
  have hx : its[k]? = some its[k] := Array.getElem?_eq_getElem hk
  show wpAny _ _ ((seqItemAt D k >>= fun r => pure (r.map (k, ·))) >>= _) _ _ s
  refine wpAny_bind (wpAny_bind (wpAny_seqItemAt ho rfl (wpAny_pure ?_)))
  rw [hx]
  show wpAny _ _ (setSeqItemAt D k v >>= _) _ _ s
  refine wpAny_bind (wpAny_setSeqItemAt ho rfl ?_)
  first
    | exact wpAny_pure ⟨.none, rfl, wpAny_pure h⟩
    | exact wpAny_bind (wpAny_pure (wpAny_pure ⟨.none, rfl, wpAny_pure h⟩))
theorem set_led {k : Nat} {t : Tok} {v : Value} (F : Fr g L s.heap m) (N : News g L s.heap news) (U : Upd D (PySem.W.listOf its n) (PySem.W.listOf (its.setIfInBounds k v) n) news news') (hk : k < its.size) (hk2 : k < 2 ^ 62)
    (h : ∀ h', Fr g L h' m → News g L h' news' → Q () { s with heap := h' }) : wpAny (model prog w) A (setItem (.ref D) (.int (k : Int) t) v) Q E s := by
  obtain ⟨pre, post, rfl, rfl, q1, q2⟩ := U.split
  have z := N (D, PySem.W.listOf its n) (List.mem_append.mpr (.inr (.head _)))
  have hs : Heap.SameBut D s.heap (s.heap.update D (Obj.mapSeq (·.setIfInBounds k v))) := Heap.SameBut.update ..
  refine set_plain z.1 (by omega) (fitsIndex_of (by omega) (by omega)) (by omega) (h _ (F.change hs z.2.1 z.2.2) (news_set N q1 q2 hs ((Heap.get?_update_self _ z.1 rfl).trans ?_)))
  simp [Obj.mapSeq, PySem.W.listOf]
theorem del_led {k : Nat} {t : Tok} (F : Fr g L s.heap m) (N : News g L s.heap news) (U : Upd D (PySem.W.listOf its n) (PySem.W.listOf (its.eraseIdxIfInBounds k) (n + 1)) news news') (hk : k < its.size) (hk2 : its.size < 2 ^ 20)
    (h : ∀ h', Fr g L h' m → News g L h' news' → Q () { s with heap := h' }) : wpAny (model prog w) A (delItem (.ref D) (.int (k : Int) t)) Q E s := by
  obtain ⟨pre, post, rfl, rfl, q1, q2⟩ := U.split
  have z := N (D, PySem.W.listOf its n) (List.mem_append.mpr (.inr (.head _)))
  have hs : Heap.SameBut D s.heap (s.heap.update D (Obj.mapSeq fun xs => xs.eraseIdxIfInBounds k)) := Heap.SameBut.update ..
  refine PySem.P.delItem_list (n := n) z.1 (fitsIndex_of (by omega) (by omega)) (seqIndex_nat hk) (h _ (F.change hs z.2.1 z.2.2) (news_set N q1 q2 hs ((Heap.get?_update_self _ z.1 rfl).trans ?_))) (by rw [sizeLine_eq]; omega)
  have hsz : ((its.eraseIdxIfInBounds k).size == its.size) = false := by
    rw [beq_eq_false_iff_ne]; unfold Array.eraseIdxIfInBounds; rw [dif_pos hk, Array.size_eraseIdx]; omega
  simp [Obj.mapSeq, PySem.W.listOf, hsz]
end
section
variable {prog : Program} {w : World} {A : Around} {E : Value → Shared → Prop} {s : Shared} {Q : Value → Shared → Prop} {value slice : PySem.Expr}
theorem str_lastS {l : List Nat} {t u : Tok} {c : Nat} (hx : l.getLast? = some c) (hlen : l.length < 2 ^ 60) (h : Q (.str ⟨#[c]⟩ s.toks) { s with toks := s.toks + 1 })
    (hs : subscripted slice false (.str (S l) t) (.int (-1) u) = operate [.str (S l) t, .int (-1) u] (getItem (.str (S l) t) (.int (-1) u))) :
    wpAny (model prog w) A (subscriptTail value slice (.str (S l) t) (.int (-1) u)) Q E s := by
  refine PyProof.Rows.tail_any (typeIs_str s (S l) t) F.slot_str_getitem.lookup (PySem.P.getItem_str (c := c) (by decide) ?_ h) hs
  have hpos : 1 ≤ l.length := by cases l with | nil => simp at hx | cons _ _ => simp
  have e : seqIndex? (-1) (S l).length = some (l.length - 1) := by
    rw [S_len]
    unfold seqIndex?
    have h1 : ((-1 : Int) < 0) := by decide
    simp only [if_pos h1]
    have h2 : (0 : Int) ≤ -1 + (l.length : Int) := by omega
    have h3 : -1 + (l.length : Int) < (l.length : Int) := by omega
    simp only [h2, h3, decide_true, Bool.and_self, if_true]
    congr 1; omega
  rw [e]
  show (S l).cps[l.length - 1]? = some c
  rw [S_get, ← List.getLast?_eq_getElem?]; exact hx
end
structure Px where
  prog : Program
  w : World
  A : Around
  cn : Str
  cs : Scope
  a : Addr
  ccd : Value
  cl : List (Str × Addr)
  L : Addr
  g : Heap
  news : List (Addr × Obj)
noncomputable abbrev Px.env (c : Px) : Env := envX c.cn c.cs c.L c.a c.ccd c.cl
inductive PV
  | ii (n : Int)
  | ss (x : Str)
  | vv (v : Value)
@[reducible] noncomputable def PV.all : PV → (Value → Prop) → Prop
  | .ii n, P => ∀ t, P (.int n t)
  | .ss x, P => ∀ t, P (.str x t)
  | .vv v, P => P v
theorem PV.all_i {n : Int} {P : Value → Prop} (h : ∀ t, P (.int n t)) : (PV.ii n).all P := h
theorem PV.all_s {x : Str} {P : Value → Prop} (h : ∀ t, P (.str x t)) : (PV.ss x).all P := h
theorem PV.all_v {v : Value} {P : Value → Prop} (h : P v) : (PV.vv v).all P := h
structure PE (c : Px) (m : Str → Option Value) (f : Bool) (e : Expr) (r : PV) : Prop where
  go : ∀ (s : Shared) (Q E : Value → Shared → Prop), Fr c.g c.L s.heap m → News c.g c.L s.heap c.news →
    (∀ h' tk', (f = false → h' = s.heap) → Fr c.g c.L h' m → News c.g c.L h' c.news → r.all fun v => Q v { s with heap := h', toks := tk' }) →
    wpAny (model c.prog c.w) c.A (eval e c.env) Q E s
structure PT (c : Px) (m : Str → Option Value) (f : Bool) (e : Expr) (b : Bool) : Prop where
  go : ∀ (s : Shared) (Q : Bool → Shared → Prop) (E : Value → Shared → Prop), Fr c.g c.L s.heap m → News c.g c.L s.heap c.news →
    (∀ h' tk', (f = false → h' = s.heap) → Fr c.g c.L h' m → News c.g c.L h' c.news → Q b { s with heap := h', toks := tk' }) →
    wpAny (model c.prog c.w) c.A (PySem.isTrue e c.env (eval e c.env)) Q E s
noncomputable def cmpI (op : CmpOp) (a b : Int) : Option Bool := match op with
  | .Lt => some (decide (a < b)) | .Gt => some (decide (b < a)) | .LtE => some (decide (a ≤ b)) | .GtE => some (decide (b ≤ a)) | .Eq => some (a == b) | .NotEq => some (a != b)
  | _ => none
noncomputable def cmpS (op : CmpOp) (x y : Str) : Option Bool := match op with
  | .Eq => some (x.cps.toList == y.cps.toList) | .NotEq => some (x.cps.toList != y.cps.toList)
  | .Lt => some (decide (x.cps.toList < y.cps.toList)) | .Gt => some (decide (y.cps.toList < x.cps.toList))
  | .LtE => some (!decide (y.cps.toList < x.cps.toList)) | .GtE => some (!decide (x.cps.toList < y.cps.toList))
  | .In => some (!(Builtin.Str.occurrences y x 0 y.length 1).isEmpty) | .NotIn => some (!!(Builtin.Str.occurrences y x 0 y.length 1).isEmpty)
  | _ => none
section
variable {prog : Program} {w : World} {A : Around} {cn : Str} {cs : Scope} {a L : Addr} {ccd : Value} {cl : List (Str × Addr)} {g h : Heap} {news : List (Addr × Obj)} {m : Str → Option Value} {e : Expr} {E : Value → Shared → Prop}
  {gs : Array GenState} {dr : Drawn} {tk : Nat} {o : OsState}
noncomputable def At (f : Bool) (g : Heap) (L : Addr) (h : Heap) (m : Str → Option Value) (news : List (Addr × Obj)) (P : Heap → Nat → Prop) : Prop := ∀ h' tk', (f = false → h' = h) → Fr g L h' m → News g L h' news → P h' tk'
theorem At.same {f : Bool} {P : Heap → Nat → Prop} (hf : f = false) (k : ∀ tk', P h tk') : At f g L h m news P := fun h' tk' e _ _ => by have := e hf; subst this; exact k tk'
theorem At.any {f : Bool} {P : Heap → Nat → Prop} (k : ∀ h' tk', Fr g L h' m → News g L h' news → P h' tk') : At f g L h m news P := fun h' tk' _ F N => k h' tk' F N
theorem pe_eval {r : PV} {f : Bool} {Q : Value → Shared → Prop} (F : Fr g L h m) (N : News g L h news) (pe : PE ⟨prog, w, A, cn, cs, a, ccd, cl, L, g, news⟩ m f e r)
    (k : At f g L h m news fun h' tk' => r.all fun v => Q v ⟨h', gs, dr, tk', o⟩) : wpAny (model prog w) A (eval e (envX cn cs L a ccd cl)) Q E ⟨h, gs, dr, tk, o⟩ :=
  pe.go _ Q E F N k
theorem pt_test {b f : Bool} {Q : Bool → Shared → Prop} (F : Fr g L h m) (N : News g L h news) (pt : PT ⟨prog, w, A, cn, cs, a, ccd, cl, L, g, news⟩ m f e b)
    (k : At f g L h m news fun h' tk' => Q b ⟨h', gs, dr, tk', o⟩) : wpAny (model prog w) A (PySem.isTrue e (envX cn cs L a ccd cl) (eval e (envX cn cs L a ccd cl))) Q E ⟨h, gs, dr, tk, o⟩ :=
  pt.go _ Q E F N k
end
theorem off2 {f f' : Bool} {h h1 h2 : Heap} (e1 : f = false → h1 = h) (e2 : f' = false → h2 = h1) (q : (f || f') = false) : h2 = h := by
  cases f with
  | true => cases q
  | false => exact (e2 q).trans (e1 rfl)
theorem slTail_ok (v : Expr) (x : Str) (t : Tok) : ∀ r : Value, letTemporaryGo v (Value.str x t) r = pure () := by
  intro r; unfold letTemporaryGo; split <;> first | rfl | (rename_i h; cases h)
section
variable {c : Px} {m : Str → Option Value} {f f' : Bool}
noncomputable def Px.loc (c : Px) (x : Str) : Prop := c.cs.kind = .function ∧ c.env.kindOf x = some .local ∧ (x == ("__debug__" : Str)) = false
theorem PE.name {x : Str} {p : PySem.Pos} {v : Value} (ok : c.loc x) (hv : m x = some v) : PE c m false (.Name x p) (.vv v) := .mk fun s Q E F N k =>
  nameX_L F hv (k s.heap s.toks (fun _ => rfl) F N) ok.1 ok.2.1 ok.2.2
theorem PE.nameI {x : Str} {p : PySem.Pos} {n : Int} {t : Tok} (ok : c.loc x) (hv : m x = some (.int n t)) : PE c m false (.Name x p) (.ii n) := .mk fun s Q E F N k =>
  nameX_L F hv (k s.heap s.toks (fun _ => rfl) F N t) ok.1 ok.2.1 ok.2.2
theorem PE.nameS {x : Str} {p : PySem.Pos} {y : Str} {t : Tok} (ok : c.loc x) (hv : m x = some (.str y t)) : PE c m false (.Name x p) (.ss y) := .mk fun s Q E F N k =>
  nameX_L F hv (k s.heap s.toks (fun _ => rfl) F N t) ok.1 ok.2.1 ok.2.2
theorem PE.int {n : Int} {k : _} {p : PySem.Pos} : PE c m false (.Constant (.int n) k p) (.ii n) := .mk fun s Q E F N k =>
  wpAny_Constant_int (k s.heap _ (fun _ => rfl) F N _)
theorem PE.str {x : Str} {k : _} {p : PySem.Pos} : PE c m false (.Constant (.str x) k p) (.ss x) := .mk fun s Q E F N k =>
  Calls.Constant_str (k s.heap _ (fun _ => rfl) F N _)
theorem PE.add {l r : Expr} {p : PySem.Pos} {x y : Int} (hl : PE c m f l (.ii x)) (hr : PE c m f' r (.ii y)) : PE c m (f || f') (.BinOp l .Add r p) (.ii (x + y)) := .mk fun s Q E F N k =>
  wpAny_BinOp (hl.go s _ _ F N fun h1 t1 e1 F1 N1 t => hr.go _ _ _ F1 N1 fun h2 t2 e2 F2 N2 u => PyProof.Rows.add_int (k h2 _ (off2 e1 e2) F2 N2 _))
theorem PE.sub {l r : Expr} {p : PySem.Pos} {x y : Int} (hl : PE c m f l (.ii x)) (hr : PE c m f' r (.ii y)) : PE c m (f || f') (.BinOp l .Sub r p) (.ii (x - y)) := .mk fun s Q E F N k =>
  wpAny_BinOp (hl.go s _ _ F N fun h1 t1 e1 F1 N1 t => hr.go _ _ _ F1 N1 fun h2 t2 e2 F2 N2 u => PyProof.Rows.sub_int (k h2 _ (off2 e1 e2) F2 N2 _))
theorem PE.mod {l r : Expr} {p : PySem.Pos} {x y : Int} (hl : PE c m f l (.ii x)) (hr : PE c m f' r (.ii y)) (hb : y ≠ 0) : PE c m (f || f') (.BinOp l .Mod r p) (.ii (x.fmod y)) := .mk fun s Q E F N k =>
  wpAny_BinOp (hl.go s _ _ F N fun h1 t1 e1 F1 N1 t => hr.go _ _ _ F1 N1 fun h2 t2 e2 F2 N2 u => PyProof.Rows.mod_int' hb (k h2 _ (off2 e1 e2) F2 N2 _))
theorem PE.neg {l : Expr} {p : PySem.Pos} {x : Int} (hl : PE c m f l (.ii x)) : PE c m f (.UnaryOp .USub l p) (.ii (-x)) := .mk fun s Q E F N k =>
  PyProof.Rows.UnaryOp_ (hl.go s _ _ F N fun h1 t1 e1 F1 N1 t => PyProof.Rows.neg_int (k h1 _ e1 F1 N1 _))
theorem cmpI_ok {prog : Program} {w : World} {A : Around} {E Q : Value → Shared → Prop} {s : Shared} {op : CmpOp} {x y : Int} {t u : Tok} {z : Bool} (hz : cmpI op x y = some z) (h : Q (.bool z) s) : wpAny (model prog w) A (compareOp op (.int x t) (.int y u)) Q E s := by
  cases op <;> simp only [cmpI, Option.some.injEq, reduceCtorEq] at hz <;> subst hz
  · exact PyProof.Rows.eq_int h
  · exact PyProof.Rows.ne_int h
  · exact PyProof.Rows.lt_int h
  · exact le_int h
  · exact PyProof.Rows.gt_int h
  · exact ge_int h
theorem cmpS_ok {prog : Program} {w : World} {A : Around} {E Q : Value → Shared → Prop} {s : Shared} {op : CmpOp} {x y : Str} {t u : Tok} {z : Bool} (hz : cmpS op x y = some z) (h : Q (.bool z) s) : wpAny (model prog w) A (compareOp op (.str x t) (.str y u)) Q E s := by
  cases op <;> simp only [cmpS, Option.some.injEq, reduceCtorEq] at hz <;> subst hz
  · exact P.eq_str h
  · exact P.ne_str h
  · exact P.lt_str h
  · exact P.le_str h
  · exact P.gt_str h
  · exact P.ge_str h
  · exact P.in_str h
  · exact P.notIn_str h
theorem PE.cmpI {l r : Expr} {p : PySem.Pos} {op : CmpOp} {x y : Int} {z : Bool} (hl : PE c m f l (.ii x)) (hr : PE c m f' r (.ii y)) (hz : Mine.cmpI op x y = some z) (hm : behindInMarks op r = false) : PE c m (f || f') (.Compare l [op] [r] p) (.vv (.bool z)) := .mk fun s Q E F N k =>
  wpAny_Compare1 (hl.go s _ _ F N fun h1 t1 e1 F1 N1 t => hr.go _ _ _ F1 N1 fun h2 t2 e2 F2 N2 u => cmpI_ok hz (k h2 _ (off2 e1 e2) F2 N2)) hm
theorem PE.cmpS {l r : Expr} {p : PySem.Pos} {op : CmpOp} {x y : Str} {z : Bool} (hl : PE c m f l (.ss x)) (hr : PE c m f' r (.ss y)) (hz : Mine.cmpS op x y = some z) (hm : behindInMarks op r = false) : PE c m (f || f') (.Compare l [op] [r] p) (.vv (.bool z)) := .mk fun s Q E F N k =>
  wpAny_Compare1 (hl.go s _ _ F N fun h1 t1 e1 F1 N1 t => hr.go _ _ _ F1 N1 fun h2 t2 e2 F2 N2 u => cmpS_ok hz (k h2 _ (off2 e1 e2) F2 N2)) hm
theorem PT.cmpI {l r : Expr} {p : PySem.Pos} {op : CmpOp} {x y : Int} {z : Bool} (hl : PE c m f l (.ii x)) (hr : PE c m f' r (.ii y)) (hz : Mine.cmpI op x y = some z) (hm : behindInMarks op r = false) : PT c m (f || f') (.Compare l [op] [r] p) z := .mk fun s Q E F N k =>
  wpAny_isTrue_Compare1 (hl.go s _ _ F N fun h1 t1 e1 F1 N1 t => hr.go _ _ _ F1 N1 fun h2 t2 e2 F2 N2 u => cmpI_ok hz (wpAny_truthy_bool (k h2 _ (off2 e1 e2) F2 N2))) hm
theorem PT.cmpS {l r : Expr} {p : PySem.Pos} {op : CmpOp} {x y : Str} {z : Bool} (hl : PE c m f l (.ss x)) (hr : PE c m f' r (.ss y)) (hz : Mine.cmpS op x y = some z) (hm : behindInMarks op r = false) : PT c m (f || f') (.Compare l [op] [r] p) z := .mk fun s Q E F N k =>
  wpAny_isTrue_Compare1 (hl.go s _ _ F N fun h1 t1 e1 F1 N1 t => hr.go _ _ _ F1 N1 fun h2 t2 e2 F2 N2 u => cmpS_ok hz (wpAny_truthy_bool (k h2 _ (off2 e1 e2) F2 N2))) hm
theorem PT.not {e : Expr} {p : PySem.Pos} {b : Bool} (h : PT c m f e b) : PT c m f (.UnaryOp .Not e p) (!b) := .mk fun s Q E F N k =>
  isTrue_not (h.go s _ _ F N k)
theorem PT.and {x y : Expr} {p : PySem.Pos} {b b' : Bool} (ha : PT c m f x b) (hb : b = true → PT c m f' y b') : PT c m (f || f') (.BoolOp .And [x, y] p) (b && b') := .mk fun s Q E F N k =>
  isTrue_and (ha.go s _ _ F N fun h1 t1 e1 F1 N1 => by
    cases b with
    | false => exact k h1 t1 (fun q => e1 (by cases f; rfl; cases q)) F1 N1
    | true => exact isTrue_and ((hb rfl).go _ _ _ F1 N1 fun h2 t2 e2 F2 N2 => by
        have k := k h2 t2 (off2 e1 e2) F2 N2
        cases b' with
        | false => exact k
        | true => exact isTrue_and_nil k))
theorem PT.or {x y : Expr} {p : PySem.Pos} {b b' : Bool} (ha : PT c m f x b) (hb : b = false → PT c m f' y b') : PT c m (f || f') (.BoolOp .Or [x, y] p) (b || b') := .mk fun s Q E F N k =>
  isTrue_or (ha.go s _ _ F N fun h1 t1 e1 F1 N1 => by
    cases b with
    | true => exact k h1 t1 (fun q => e1 (by cases f; rfl; cases q)) F1 N1
    | false => exact isTrue_or ((hb rfl).go _ _ _ F1 N1 fun h2 t2 e2 F2 N2 => by
        have k := k h2 t2 (off2 e1 e2) F2 N2
        cases b' with
        | true => exact k
        | false => exact isTrue_or_nil k))
theorem PE.cond {t x y : Expr} {p : PySem.Pos} {b f'' : Bool} {r : PV} (ht : PT c m f t b) (h1 : b = true → PE c m f' x r) (h2 : b = false → PE c m f'' y r) : PE c m true (.IfExp t x y p) r := .mk fun s Q E F N k =>
  wpAny_IfExp (ht.go s _ _ F N fun h1' t1 e1 F1 N1 => by
    cases b with
    | false => exact (h2 rfl).go _ _ _ F1 N1 fun h' t' _ F' N' => k h' t' nofun F' N'
    | true => exact (h1 rfl).go _ _ _ F1 N1 fun h' t' _ F' N' => k h' t' nofun F' N')
theorem PE.eq {e : Expr} {r r' : PV} (h : PE c m f e r) (q : r = r') : PE c m f e r' := q ▸ h
theorem PT.eq {e : Expr} {b b' : Bool} (h : PT c m f e b) (q : b = b') : PT c m f e b' := q ▸ h
theorem PT.nameB {x : Str} {p : PySem.Pos} {b : Bool} (ok : c.loc x) (hv : m x = some (.bool b)) : PT c m false (.Name x p) b := .mk fun s Q E F N k =>
  PyProof.Rows.isTrue_plain ((PE.name ok hv).go s _ _ F N fun h1 t1 e1 F1 N1 => wpAny_truthy_bool (k h1 t1 e1 F1 N1)) rfl
theorem PE.slSS {l a b : Expr} {p q : PySem.Pos} {x : Str} {i j : Int} {f'' : Bool} (hl : PE c m f l (.ss x)) (ha : PE c m f' a (.ii i)) (hb : PE c m f'' b (.ii j)) (hz : x.length ≤ sizeLine) : PE c m true (.Subscript l (.Slice (some a) (some b) none q) p) (.ss (Txt.slice x (some i) (some j))) := .mk fun s Q E F N k =>
  Subscript_ (hl.go s _ _ F N fun h1 t1 e1 F1 N1 t => wpAny_Slice (evalPart_some_step (ha.go _ _ _ F1 N1 fun h2 t2 e2 F2 N2 u => evalPart_some_step (hb.go _ _ _ F2 N2 fun h3 t3 e3 F3 N3 v => evalPart_none_step
    (slice_strN_ss F3 N3 (fun h' t' k' F' N' => k h' k' nofun F' N' t') (ht := slTail_ok _ _ _) (hsz := hz))))))
theorem PE.slNS {l b : Expr} {p q : PySem.Pos} {x : Str} {j : Int} {f'' : Bool} (hl : PE c m f l (.ss x)) (hb : PE c m f'' b (.ii j)) (hz : x.length ≤ sizeLine) : PE c m true (.Subscript l (.Slice none (some b) none q) p) (.ss (Txt.slice x none (some j))) := .mk fun s Q E F N k =>
  Subscript_ (hl.go s _ _ F N fun h1 t1 e1 F1 N1 t => wpAny_Slice (evalPart_none_step (evalPart_some_step (hb.go _ _ _ F1 N1 fun h3 t3 e3 F3 N3 v => evalPart_none_step
    (slice_strN_ns F3 N3 (fun h' t' k' F' N' => k h' k' nofun F' N' t') (ht := slTail_ok _ _ _) (hsz := hz))))))
theorem PE.slSN {l a : Expr} {p q : PySem.Pos} {x : Str} {i : Int} (hl : PE c m f l (.ss x)) (ha : PE c m f' a (.ii i)) (hz : x.length ≤ sizeLine) : PE c m true (.Subscript l (.Slice (some a) none none q) p) (.ss (Txt.slice x (some i) none)) := .mk fun s Q E F N k =>
  Subscript_ (hl.go s _ _ F N fun h1 t1 e1 F1 N1 t => wpAny_Slice (evalPart_some_step (ha.go _ _ _ F1 N1 fun h2 t2 e2 F2 N2 u => evalPart_none_step (evalPart_none_step
    (slice_strN_sn F2 N2 (fun h' t' k' F' N' => k h' k' nofun F' N' t') (ht := slTail_ok _ _ _) (hsz := hz))))))
noncomputable def plainSub : Expr → Bool
  | .Name .. | .Constant .. | .BinOp .. | .UnaryOp .. => true
  | _ => false
theorem plainSub_ok {sl : Expr} (h : plainSub sl = true) : ∀ x i, subscripted sl false x i = operate [x, i] (getItem x i) := by
  intro x i
  cases sl <;> first | (cases h; done) | with_unfolding_all rfl
theorem PE.chAt {l b : Expr} {p : PySem.Pos} {x : Str} {k : Int} {i ch : Nat} (hl : PE c m f l (.ss x)) (hb : PE c m f' b (.ii k)) (hx : x.cps[i]? = some ch) (hk : k = (i : Int)) (hi : i < 2 ^ 62) (hs : plainSub b = true) : PE c m (f || f') (.Subscript l b p) (.ss ⟨#[ch]⟩) := .mk fun s Q E F N K =>
  Subscript_ (hl.go s _ _ F N fun h1 t1 e1 F1 N1 t => hb.go _ _ _ F1 N1 fun h2 t2 e2 F2 N2 u => str_at hx hk hi (K h2 _ (off2 e1 e2) F2 N2 _) (plainSub_ok hs _ _))
noncomputable def Px.lst (c : Px) (a : Addr) (vs : List Value) : Prop := ∀ h m, Fr c.g c.L h m → News c.g c.L h c.news → h.IsList a vs.toArray
noncomputable def Px.tup (c : Px) (a : Addr) (vs : List Value) : Prop := ∀ h m, Fr c.g c.L h m → News c.g c.L h c.news → IsTup h a vs.toArray
theorem Px.lst_old {a : Addr} {vs : List Value} (x : c.g.IsList a vs.toArray) : c.lst a vs := fun _ _ F _ => isList_keeps F.keep x
theorem Px.tup_old {a : Addr} {vs : List Value} (x : IsTup c.g a vs.toArray) : c.tup a vs := fun _ _ F _ => isTup_keeps F.keep x
theorem Px.lst_new {a : Addr} {vs : List Value} {n : Nat} (x : (a, PySem.W.listOf vs.toArray n) ∈ c.news) : c.lst a vs := fun _ _ _ N => News.isList N x
theorem Px.tup_new {a : Addr} {vs : List Value} (x : (a, ({ cls := .type "tuple", data := .seq vs.toArray } : Obj)) ∈ c.news) : c.tup a vs := fun _ _ _ N => News.isTup N x
theorem PE.itemL {l b : Expr} {p : PySem.Pos} {a : Addr} {vs : List Value} {k : Int} {i : Nat} {v : Value} (hl : PE c m f l (.vv (.ref a))) (hb : PE c m f' b (.ii k)) (hv : c.lst a vs) (hx : vs[i]? = some v) (hk : k = (i : Int)) (hi : i < 2 ^ 62) (hs : plainSub b = true) : PE c m (f || f') (.Subscript l b p) (.vv v) := .mk fun s Q E F N K =>
  Subscript_ (hl.go s _ _ F N fun h1 t1 e1 F1 N1 => hb.go _ _ _ F1 N1 fun h2 t2 e2 F2 N2 u => Mine.item_list (hv _ _ F2 N2) hx hk hi (K h2 _ (off2 e1 e2) F2 N2) (plainSub_ok hs _ _))
theorem PE.itemT {l b : Expr} {p : PySem.Pos} {a : Addr} {vs : List Value} {k : Int} {i : Nat} {v : Value} (hl : PE c m f l (.vv (.ref a))) (hb : PE c m f' b (.ii k)) (hv : c.tup a vs) (hx : vs[i]? = some v) (hk : k = (i : Int)) (hi : i < 2 ^ 62) (hs : plainSub b = true) : PE c m (f || f') (.Subscript l b p) (.vv v) := .mk fun s Q E F N K =>
  Subscript_ (hl.go s _ _ F N fun h1 t1 e1 F1 N1 => hb.go _ _ _ F1 N1 fun h2 t2 e2 F2 N2 u => Mine.item_tup (hv _ _ F2 N2) hx hk hi (K h2 _ (off2 e1 e2) F2 N2) (plainSub_ok hs _ _))
theorem PE.itemZ {l : Expr} {p q r : PySem.Pos} {k : _} {a : Addr} {vs : List Value} {v : Value} (hl : PE c m f l (.vv (.ref a))) (hv : c.lst a vs) (hx : vs.getLast? = some v) (hi : vs.length < 2 ^ 60) : PE c m f (.Subscript l (.UnaryOp .USub (.Constant (.int 1) k q) r) p) (.vv v) := .mk fun s Q E F N K =>
  Subscript_ (hl.go s _ _ F N fun h1 t1 e1 F1 N1 => (PE.neg (PE.int (c := c))).go _ _ _ F1 N1 fun h2 t2 e2 F2 N2 u => Mine.item_last (hv _ _ F2 N2) hx hi (K h2 _ (by cases e2 rfl; exact e1) F2 N2) (by with_unfolding_all rfl))
noncomputable def isStarred : Expr → Bool
  | .Starred .. => true
  | _ => false
theorem starEach_one {e : Expr} {es : List Expr} {env : Env} (h : isStarred e = false) : starEach (e :: es) env = (false, eval e env) :: starEach es env := by
  cases e <;> first | rfl | (cases h; done)
theorem call_one {y : Str} {q : PySem.Pos} {a : Expr} {p : PySem.Pos} {id : String} {s : Shared} {Q E : Value → Shared → Prop} {r : PV} {f : Bool} (hf : PE c m false (.Name y q) (.vv (.builtin id))) (ha : PE c m f a r) (F : Fr c.g c.L s.heap m) (N : News c.g c.L s.heap c.news)
    (k : ∀ h' tk', (f = false → h' = s.heap) → Fr c.g c.L h' m → News c.g c.L h' c.news → r.all fun v => wpAny (model c.prog c.w) c.A (call (.builtin id) [v]) Q E { s with heap := h', toks := tk' })
    (hs : isStarred a = false) : wpAny (model c.prog c.w) c.A (eval (.Call (.Name y q) [a] [] p) c.env) Q E s :=
  Call_ (hf.go s _ _ F N fun h1 t1 e1 F1 N1 => PyProof.Rows.callWith_method1 (first := []) (spliced_more (ha.go _ _ _ F1 N1 fun h2 t2 e2 F2 N2 => by
    have := k h2 t2 (fun q => (e2 q).trans (e1 rfl)) F2 N2
    cases r
    · exact fun t => spliced_none (this t)
    · exact fun t => spliced_none (this t)
    · exact spliced_none this) (starEach_one hs)) (starEach_one hs) rfl)
theorem PE.lenS {q : PySem.Pos} {a : Expr} {p : PySem.Pos} {x : Str} (hf : PE c m false (.Name (Str.ofString "len") q) (.vv (.builtin "len"))) (ha : PE c m f a (.ss x)) (hz : x.length < 2 ^ 62)
    (hs : isStarred a = false) : PE c m f (.Call (.Name (Str.ofString "len") q) [a] [] p) (.ii (x.length : Nat)) := .mk fun s Q E F N K =>
  call_one hf ha F N (fun h2 t2 e2 F2 N2 t => PySem.P.len_str (by omega) (K h2 _ e2 F2 N2 _)) hs
theorem PE.lenL {q : PySem.Pos} {a : Expr} {p : PySem.Pos} {l : Addr} {vs : List Value} (hf : PE c m false (.Name (Str.ofString "len") q) (.vv (.builtin "len"))) (ha : PE c m f a (.vv (.ref l))) (hv : c.lst l vs) (hz : vs.length < 2 ^ 62)
    (hs : isStarred a = false) : PE c m f (.Call (.Name (Str.ofString "len") q) [a] [] p) (.ii (vs.length : Nat)) := .mk fun s Q E F N K =>
  call_one hf ha F N (fun h2 t2 e2 F2 N2 => len_here (hv _ _ F2 N2) (by simpa using hz) (by simpa using K h2 _ e2 F2 N2 _)) hs
theorem PE.lenB {K : Frag} {p : Program} {loose : List Str} {mg mb : Str → Option Value} {pos : PySem.Pos} (X : K.In c.g) (T : TopRead p loose mg mb c.g)
    (ok : c.cs.kind = .function ∧ c.env.kindOf (Str.ofString "len") = some .globalImplicit) (e : nsIn K mainGlobals (Str.ofString "len") = some none) : PE c m false (.Name (Str.ofString "len") pos) (.vv (.builtin "len")) := .mk fun s Q E F N k =>
  nameX_B F X T e PySem.boot_len (by decide) (k s.heap s.toks (fun _ => rfl) F N) ok.1 ok.2 (by decide)
theorem PE.toI {e : Expr} {n : Int} {t : Tok} (h : PE c m f e (.vv (.int n t))) : PE c m f e (.ii n) := .mk fun s Q E F N k => h.go s Q E F N fun h' tk' e' F' N' => k h' tk' e' F' N' t
theorem PE.toS {e : Expr} {x : Str} {t : Tok} (h : PE c m f e (.vv (.str x t))) : PE c m f e (.ss x) := .mk fun s Q E F N k => h.go s Q E F N fun h' tk' e' F' N' => k h' tk' e' F' N' t
end
noncomputable def upd (m : Str → Option Value) (x : Str) (v : Value) : Str → Option Value := fun y => if y = x then some v else m y
theorem upd_at {m : Str → Option Value} {x : Str} {v : Value} : upd m x v x = some v := if_pos rfl
theorem upd_off {m : Str → Option Value} {x z : Str} {v : Value} {r : Option Value} (h : z ≠ x) (e : m z = r) : upd m x v z = r := (if_neg h).trans e
section
variable {M : Model} {A : Around} {env : Env} {E : Value → Shared → Prop} {s : Shared} {st : Stmt} {rest : List Stmt} {Q : Flow → Shared → Prop} {v : Value}
noncomputable def Kx (M : Model) (A : Around) (env : Env) (E : Value → Shared → Prop) (rest : List Stmt) (Q : Flow → Shared → Prop) (f : Flow) (s : Shared) : Prop := match f with
  | .next => wpAny M A (execs rest env) Q E s
  | f => Q f s
theorem execs_k (h : wpAny M A (exec st env) (Kx M A env E rest Q) E s) : wpAny M A (execs (st :: rest) env) Q E s := wpAny_execs_cons (wpAny_mono h (fun f _ h => by cases f <;> exact h) fun _ _ e => e)
theorem execs_1 (h : wpAny M A (exec st env) Q E s) : wpAny M A (execs [st] env) Q E s := wpAny_execs_cons (wpAny_mono h (fun f _ h => by
  cases f
  case next => exact wpAny_execs_nil h
  all_goals exact h) fun _ _ e => e)
theorem wp_opq {α : Type} {t : Sem α} {Q : α → Shared → Prop} (h : ∀ R : α → Shared → Prop, (∀ v s', Q v s' → R v s') → wpAny M A t R E s) : wpAny M A t Q E s := h Q fun _ _ q => q
theorem execs_cutO (P : Shared → Prop) (h1 : ∀ R : Flow → Shared → Prop, (∀ s', P s' → R .next s') → wpAny M A (exec st env) R E s) (h2 : ∀ s', P s' → wpAny M A (execs rest env) Q E s') : wpAny M A (execs (st :: rest) env) Q E s :=
  wpAny_execs_cons (wpAny_mono (h1 (fun f s' => f = .next ∧ P s') fun _ p => ⟨rfl, p⟩) (fun f s' h => by obtain ⟨rfl, h⟩ := h; exact h2 s' h) fun _ _ e => e)
theorem Kx_next (h : wpAny M A (execs rest env) Q E s) : Kx M A env E rest Q .next s := h
theorem Kx_ret (h : Q (.ret v) s) : Kx M A env E rest Q (.ret v) s := h
theorem Kx_brk (h : Q .brk s) : Kx M A env E rest Q .brk s := h
theorem Kx_cont (h : Q .cont s) : Kx M A env E rest Q .cont s := h
end
section
variable {prog : Program} {w : World} {A : Around} {cn : Str} {cs : Scope} {a L : Addr} {ccd : Value} {cl : List (Str × Addr)} {g h : Heap} {news : List (Addr × Obj)} {m : Str → Option Value} {e : Expr} {E : Value → Shared → Prop} {Q : Flow → Shared → Prop}
  {gs : Array GenState} {dr : Drawn} {tk : Nat} {o : OsState} {x : Str} {p' pos : PySem.Pos} {r : PV} {f : Bool}
theorem exec_asg (F : Fr g L h m) (N : News g L h news) (pe : PE ⟨prog, w, A, cn, cs, a, ccd, cl, L, g, news⟩ m f e r) (k1 : cs.kind = .function) (k2 : (envX cn cs L a ccd cl).kindOf x = some .local) (hs : swapsWith e (some (.Name x p')) pos.line (envX cn cs L a ccd cl) = pure false)
    (k : ∀ h' tk', r.all fun v => Fr g L h' (upd m x v) → News g L h' news → Q .next ⟨h', gs, dr, tk', o⟩) :
    wpAny (model prog w) A (exec (.Assign [.Name x p'] e pos) (envX cn cs L a ccd cl)) Q E ⟨h, gs, dr, tk, o⟩ :=
  wpAny_Assign_Name (pe.go ⟨h, gs, dr, tk, o⟩ _ _ F N fun h1 t1 _ F1 N1 => by
    cases r
    · exact fun t => storeX_L F1 N1 (fun h2 F2 N2 => k h2 _ t F2 N2) k1 k2
    · exact fun t => storeX_L F1 N1 (fun h2 F2 N2 => k h2 _ t F2 N2) k1 k2
    · exact storeX_L F1 N1 (fun h2 F2 N2 => k h2 _ F2 N2) k1 k2) hs
theorem exec_aug {n j : Int} {t : Tok} (F : Fr g L h m) (N : News g L h news) (hv : m x = some (.int n t)) (pe : PE ⟨prog, w, A, cn, cs, a, ccd, cl, L, g, news⟩ m f e (.ii j)) (k1 : cs.kind = .function) (k2 : (envX cn cs L a ccd cl).kindOf x = some .local)
    (k : ∀ h' tk' t, Fr g L h' (upd m x (.int (n + j) t)) → News g L h' news → Q .next ⟨h', gs, dr, tk', o⟩) :
    wpAny (model prog w) A (exec (.AugAssign (.Name x p') .Add e pos) (envX cn cs L a ccd cl)) Q E ⟨h, gs, dr, tk, o⟩ :=
  wpAny_AugAssign_Name (loadX_Lm F hv (pe.go ⟨h, gs, dr, tk, o⟩ _ _ F N fun h1 t1 _ F1 N1 u => PyProof.Rows.iadd_int (storeX_L F1 N1 (fun h2 F2 N2 => k h2 _ _ F2 N2) k1 k2)) k1 k2)
theorem exec_if {b : Bool} {body orelse : List Stmt} (F : Fr g L h m) (N : News g L h news) (pt : PT ⟨prog, w, A, cn, cs, a, ccd, cl, L, g, news⟩ m f e b)
    (k : At f g L h m news fun h' tk' => if b = true then wpAny (model prog w) A (execs body (envX cn cs L a ccd cl)) Q E ⟨h', gs, dr, tk', o⟩ else wpAny (model prog w) A (execs orelse (envX cn cs L a ccd cl)) Q E ⟨h', gs, dr, tk', o⟩) :
    wpAny (model prog w) A (exec (.If e body orelse pos) (envX cn cs L a ccd cl)) Q E ⟨h, gs, dr, tk, o⟩ :=
  wpAny_If (pt.go ⟨h, gs, dr, tk, o⟩ _ _ F N k)
end
section
variable {prog : Program} {w : World} {A : Around} {K : Frag} {Q E : Value → Shared → Prop} {name qual : Str} {params : Arguments} {body : List Stmt} {scope : Scope} {dV kV doc pm cdv ct oc : Value} {an od : Option Addr} {osl : Array (Option Value)} {f : Addr} {args : List Value} {binds : List (Str × Value)}
  {g : Heap} {gs : Array GenState} {dr : Drawn} {tk₀ : Nat} {o : OsState}
theorem enter_go
    (X : K.In g) (T : g.NoLimit) (hroom : A.depth < recursionLimit)
    (ho : K.lookup f = some ⟨oc, od, .func (fnOf name qual params body scope dV kV doc pm an cdv ct), osl⟩) (hcd : codeIn K cdv qual = true)
    (hbind : BindsTo ⟨g, gs, dr, tk₀, o⟩ (fnOf name qual params body scope dV kV doc pm an cdv ct) ⟨args, []⟩ binds)
    (hloc : ∀ y ∈ binds, scope.names.lookup y.1 = some .local) (hcell : ∀ x ∈ scope.names, x.2 ≠ .cell)
    (h : ∀ h₁ tk A1 L m0 (R : Flow → Shared → Prop), A1.depth = A.depth + 1 → A1.units = A.units + 3 → A1.handled = A.handled → (∀ fl s', Q (match fl with | .ret v => v | _ => .none) s' → R fl s') → m0 = (fun x => binds.reverse.lookup x) → Fr g L h₁ m0 → News g L h₁ [] →
      wpAny (model prog w) A1 (execs body (envX qual scope L f cdv [])) R (fun _ _ => False) ⟨h₁, gs, dr, tk, o⟩)
    (hco : scope.isCoroutine = false) (hgen : scope.isGenerator = false) (hk : scope.kind = .function) :
    wpAny (model prog w) A (call (.ref f) args) Q E ⟨g, gs, dr, tk₀, o⟩ :=
  enter_plain X T hroom ho hcd hbind hloc hcell (fun h₁ F N => h h₁ _ _ _ _ _ rfl rfl rfl (fun _ _ q => q) rfl F N) hco hgen hk
end
theorem obj_mro : mroOf (.type "object") = pure [.type "object"] := by rw [mroOf_type]; kernel_rfl
theorem obj_new : typeLookup (.type "object") "__new__" = pure (some (.builtin "object.__new__")) := by rw [typeLookup_type, builtinLookup_eq_fast]; kernel_rfl
theorem called_obj : TypeCalled "object" "object.__new__" "object.__init__" :=
  ⟨by decide +kernel, by decide +kernel, ⟨_, _, obj_mro⟩, madeBy_type obj_mro obj_new (by decide +kernel), by decide +kernel, F.sub_object_object, F.slot_object_init⟩
theorem obj_typeCall : checkTypeCall "object" ⟨[], []⟩ = pure () := by kernel_rfl
theorem obj_newCall : checkBuiltinCall "object.__new__" ⟨[.type "object"], []⟩ = pure () := by kernel_rfl
theorem obj_entry : entryFor table "object.__new__" = some Builtin.«object.__new__» := by first | exact entryFor_of_fast (by kernel_rfl) | exact entryFor_of_tree (by kernel_rfl)
theorem obj_made : Bind.madeHere "object.__new__" (.type "object") = pure () := by
  unfold Bind.madeHere
  have e : Bind.staticBase (.type "object") = pure (.type "object") := by first | rfl | kernel_rfl
  rw [e]
  simp only [pure_bind, called_obj.made]
  first | rfl | kernel_rfl | (simp; rfl)
noncomputable abbrev objO : Obj := { cls := .type "object", data := .plain }
theorem obj_meets : Meets (Builtin.«object.__new__» ⟨[.type "object"], []⟩) (fun _ R s => R (.ok (.ret (.ref s.heap.objs.size))) { s with heap := s.heap.push objO }) :=
  .of_wp fun prog w A R s h => by
    unfold Builtin.«object.__new__»
    refine wpAny_bind (wpAny_of_eq (a := true) rfl ?_)
    refine bm_if_false rfl ?_
    refine bm_if_false (by decide +kernel) ?_
    refine wpAny_bind (wpAny_of_eq obj_made ?_)
    refine bm_if_false rfl ?_
    refine wpAny_bind (wpAny_of_eq (a := none) rfl ?_)
    refine wpAny_bind (wpAny_newObj_type ?_)
    refine bm_if_false (by decide +kernel) ?_
    exact wpAny_pure ⟨_, rfl, h⟩
theorem obj_init_meets {self : Value} : Meets (Builtin.«object.__init__» ⟨[self], []⟩) (fun _ R s => R (.ok (.ret .none)) s) :=
  .of_wp fun prog w A R s h => wpAny_pure ⟨_, rfl, h⟩
theorem call_object {prog : Program} {w : World} {A : Around} {s : Shared} {Q E : Value → Shared → Prop} (h : Q (.ref s.heap.objs.size) { s with heap := s.heap.push objO }) :
   wpAny (model prog w) A (call (.type "object") []) Q E s :=
  callType_meets (Q₁ := fun obj s₁ => obj = .ref s.heap.objs.size ∧ s₁ = { s with heap := s.heap.push objO }) called_obj obj_typeCall obj_newCall obj_entry F.entry_object_init obj_meets ⟨rfl, rfl⟩ fun obj s₁ e => by
    obtain ⟨rfl, rfl⟩ := e
    exact ⟨⟨objO, Heap.get?_push_size _ rfl, rfl⟩, F.args_object_init_1 _, _, obj_init_meets, rfl, h⟩
theorem call_object_F {prog : Program} {w : World} {A : Around} {s : Shared} {Q E : Value → Shared → Prop} {h₀ : Heap} {L : Addr} {m : Str → Option Value} {news : List (Addr × Obj)}
   (F : Fr h₀ L s.heap m) (N : News h₀ L s.heap news)
   (h : ∀ h' (r : Addr), Fr h₀ L h' m → News h₀ L h' ((r, objO) :: news) → (∀ q ∈ news, q.1 < r) → Q (.ref r) { s with heap := h' }) :
   wpAny (model prog w) A (call (.type "object") []) Q E s :=
  call_object (h _ _ (F.keeps fun a o e => Heap.get?_push_of_some _ e) (news_pushed F N (fun a o e => Heap.get?_push_of_some _ e) (Heap.get?_push_size _ rfl) rfl) fun q hq => Heap.lt_size (N q hq).1)
theorem callWith_type0 {M : Model} {A : Around} {E : Value → Shared → Prop} {s : Shared} {env : Env} {pos : Pos} {T : String} {Q : Value → Shared → Prop} (h : wpAny M A (call (.type T) []) Q E s) :
   wpAny M A (callWith pos (.type T) [] (backTo pos (starEach [] env)) []) Q E s :=
  PyProof.Rows.callWith_type (args := []) rfl (PyProof.Rows.evalArgs_none (by simpa using h))
section
open Builtin
theorem lat_road {id : String} {b : Array UInt8} : _codecs.decodeRoad id b (Str.ofString "latin1") none [] = (_codecs.runDecoder id _codecs.latin1Decoder none true b 0 [] >>= fun r => mkStr ⟨r.1⟩) := by kernel_rfl
theorem lat_text {b : Array UInt8} {t t1 t2 : Tok} {d x : Str} {n : Nat} (hd : ∀ id, _codecs.runDecoder id _codecs.latin1Decoder none true b 0 [] = pure (x.cps, n)) :
    Meets («_codecs.decode.text» ⟨[.bytes b t, .str (Str.ofString "latin1") t1, .none, .str d t2], []⟩) (fun _ R s => x.length ≤ sizeLine ∧ R (.ok (.ret (.str x s.toks))) { s with toks := s.toks + 1 }) := by
  refine .of_wp fun prog w A R s hS => ?_
  obtain ⟨hsz, h⟩ := hS
  show wpAny _ _ (Bytes.bytesLike _ (.bytes b t) >>= fun r => _) _ _ s
  refine wpAny_bind (wpAny_of_eq KBd.like_eq ?_)
  refine wpAny_bind (wpAny_of_eq KBd.held_eq ?_)
  show wpAny _ _ (_codecs.decodeRoad _ b (Str.ofString "latin1") none [] >>= fun v => _) _ _ s
  rw [lat_road, hd]
  refine wpAny_bind (wpAny_bind (wpAny_pure ?_))
  exact wpAny_mkStr (wpAny_pure ⟨_, rfl, h⟩) hsz
theorem lat_entry {c : UInt8} {cs : List UInt8} {t u : Tok} : «bytes.decode» ⟨[.bytes (c :: cs).toArray t, .str (Str.ofString "latin1") u], []⟩ = (mkStr (Str.ofString "utf-8") >>= fun _ => mkStr (Str.ofString "latin1") >>= fun e => mkStr (Str.ofString "bytes.decode") >>= fun d =>
    call (.builtin "_codecs.decode.text") [.bytes (c :: cs).toArray t, e, .none, d] >>= fun v => ret v) := by kernel_rfl
theorem lat_args (a b : Value) : argsOk "bytes.decode" ⟨[a, b], []⟩ := by
  unfold argsOk; rw [signature?_of (id := "bytes.decode") (n := ['e', 'd', 'o', 'c', 'e', 'd']) (o := ['s', 'e', 't', 'y', 'b']) (by kernel_rfl) FB.owner_bytes]; kernel_rfl
theorem lat_meets {c : UInt8} {cs : List UInt8} {t u : Tok} {x : Str} {n : Nat} (hd : ∀ id, _codecs.runDecoder id _codecs.latin1Decoder none true (c :: cs).toArray 0 [] = pure (x.cps, n)) :
    Meets («bytes.decode» ⟨[.bytes (c :: cs).toArray t, .str (Str.ofString "latin1") u], []⟩) (fun _ R s => x.length ≤ sizeLine ∧ ∀ t' k, R (.ok (.ret (.str x t'))) { s with toks := k }) := by
  refine .of_wp fun prog w A R s hS => ?_
  obtain ⟨hsz, h⟩ := hS
  rw [lat_entry]
  refine wpAny_bind (wpAny_mkStr ?_ (by decide))
  refine wpAny_bind (wpAny_mkStr ?_ (by decide))
  refine wpAny_bind (wpAny_mkStr ?_ (by decide))
  exact wpAny_bind (call_function_meets KBd.kind_text KBd.plain_text KBd.entry_text (KBd.args_text _ _ _ _) (lat_text hd) ⟨hsz, wpAny_pure ⟨_, rfl, h _ _⟩⟩)
theorem lat_run1 (a : UInt8) (id : String) : _codecs.runDecoder id _codecs.latin1Decoder none true #[a] 0 [] = pure (#[a.toNat], 1) := by kernel_rfl
theorem lat_run2 (a b : UInt8) (id : String) : _codecs.runDecoder id _codecs.latin1Decoder none true #[a, b] 0 [] = pure (#[a.toNat, b.toNat], 2) := by kernel_rfl
theorem lat_run3 (a b c : UInt8) (id : String) : _codecs.runDecoder id _codecs.latin1Decoder none true #[a, b, c] 0 [] = pure (#[a.toNat, b.toNat, c.toNat], 3) := by kernel_rfl
theorem decode_lat {prog : Program} {w : World} {A : Around} {E : Value → Shared → Prop} {s : Shared} {Q : Value → Shared → Prop} {row : List Nat} {t u : Tok} (h1 : 1 ≤ row.length) (h3 : row.length ≤ 3) (hr : ∀ c ∈ row, c < 256) (h : ∀ t' k, Q (.str (S row) t') { s with toks := k }) :
    wpAny (model prog w) A (call (.builtin "bytes.decode") [.bytes (row.map Nat.toUInt8).toArray t, .str (Str.ofString "latin1") u]) Q E s := by
  have e : ∀ c ∈ row, c.toUInt8.toNat = c := fun c hc => Nat.mod_eq_of_lt (hr c hc)
  match row, h1, h3 with
  | [a], _, _ => exact call_meets FB.slot_bytes_decode (typeIs_bytes _ _ _) FB.entry_bytes_decode (lat_args _ _) (lat_meets (x := S [a]) (n := 1) fun id => (lat_run1 .. ).trans (by rw [e a (by simp)])) ⟨by rw [sizeLine_eq, S_len]; simp, h⟩
  | [a, b], _, _ => exact call_meets FB.slot_bytes_decode (typeIs_bytes _ _ _) FB.entry_bytes_decode (lat_args _ _) (lat_meets (x := S [a, b]) (n := 2) fun id => (lat_run2 .. ).trans (by rw [e a (by simp), e b (by simp)])) ⟨by rw [sizeLine_eq, S_len]; simp, h⟩
  | [a, b, c], _, _ => exact call_meets FB.slot_bytes_decode (typeIs_bytes _ _ _) FB.entry_bytes_decode (lat_args _ _) (lat_meets (x := S [a, b, c]) (n := 3) fun id => (lat_run3 .. ).trans (by rw [e a (by simp), e b (by simp), e c (by simp)])) ⟨by rw [sizeLine_eq, S_len]; simp, h⟩
end
section
open Builtin
theorem gnum (fs : Array Value) (b e : Int) (u : Tok) : Re.reGroupNumber ⟨fs, #[b, e]⟩ (.int 0 u) = pure 0 := by first | rfl | kernel_rfl
theorem gtext {x : Str} {t : Tok} {P tp : Addr} {i j k : Value} (b e : Nat) : Re.reGroupText ⟨#[.str x t, .ref P, i, j, k, .ref tp], #[(b : Int), (e : Int)]⟩ 0 .none = mkStr ⟨x.cps.extract b e⟩ := by
  unfold Re.reGroupText
  show (if (decide ((b : Int) < 0) || decide ((e : Int) < 0)) = true then pure Value.none else (Re.reTextOf (.str x t) >>= fun p => Re.reSlice p.1 p.2 (b : Int).toNat (e : Int).toNat)) = _
  rw [if_neg (by simp only [Bool.or_eq_true, decide_eq_true_eq]; omega)]
  show Re.reSlice x.cps 0 (b : Int).toNat (e : Int).toNat = _
  rw [Int.toNat_natCast, Int.toNat_natCast]
  rfl
theorem group_meets {y tp P : Addr} {x : Str} {t u : Tok} {b e : Nat} :
    Meets («re.Match.group» ⟨[.ref y, .int 0 u], []⟩) (fun _ R s => s.heap.get? y = some (matchObj P x t tp) ∧ s.heap.get? tp = some { cls := .type "tuple", data := .seq #[rawInt (b : Int), rawInt (e : Int)] } ∧ (x.cps.extract b e).size ≤ sizeLine ∧ ∀ t' k, R (.ok (.ret (.str ⟨x.cps.extract b e⟩ t'))) { s with toks := k }) :=
  .of_wp fun prog w A R s hS => by
    obtain ⟨h1, h2, h3, h⟩ := hS
    unfold Builtin.«re.Match.group»
    refine wpAny_bind (wpAny_of_eq (a := ()) rfl ?_)
    show wpAny _ _ (Re.reFound (.ref y) >>= _) _ _ _
    unfold Re.reFound
    refine wpAny_bind (wpAny_bind (wpAny_fieldsOf h1 rfl ?_))
    show wpAny _ _ (Re.reRawItems (.ref tp) >>= _) _ _ _
    unfold Re.reRawItems
    refine wpAny_bind (wpAny_bind ?_)
    unfold seqItems?
    refine wpAny_bind (wpAny_load h2 ?_)
    refine wpAny_pure (wpAny_pure (wpAny_pure ?_))
    have em : (#[rawInt (b : Int), rawInt (e : Int)].map Re.reRawOf) = #[(b : Int), (e : Int)] := by simp [Re.reRawOf, rawInt]
    show wpAny _ _ (Re.reGroupNumber ⟨_, #[rawInt (b : Int), rawInt (e : Int)].map Re.reRawOf⟩ _ >>= _) _ _ _
    rw [em]
    refine wpAny_bind (wpAny_of_eq (gnum _ _ _ _) ?_)
    refine wpAny_bind ?_
    show wpAny _ _ (Re.reGroupText ⟨_, #[rawInt (b : Int), rawInt (e : Int)].map Re.reRawOf⟩ 0 .none) _ _ _
    rw [em, gtext b e]
    exact wpAny_mkStr (wpAny_pure ⟨_, rfl, h _ _⟩) h3
theorem call_group0 {prog : Program} {w : World} {A : Around} {E : Value → Shared → Prop} {s : Shared} {Q : Value → Shared → Prop} {y tp P : Addr} {whole pre m post : List Nat} {t u : Tok} {b e : Nat}
    (h1 : s.heap.get? y = some (matchObj P (S whole) t tp)) (h2 : s.heap.get? tp = some { cls := .type "tuple", data := .seq #[rawInt (b : Int), rawInt (e : Int)] })
    (hw : whole = pre ++ (m ++ post)) (hb : b = pre.length) (he : e = pre.length + m.length) (hl : m.length < 1000) (h : ∀ t' k, Q (.str (S m) t') { s with toks := k }) :
    wpAny (model prog w) A (call (.builtin "re.Match.group") [.ref y, .int 0 u]) Q E s := by
  have ex : (⟨(S whole).cps.extract b e⟩ : Str) = S m := by
    subst hw hb he
    simp [List.extract_toArray, List.extract_eq_take_drop]
  refine call_meets slot_match_group ⟨_, h1, rfl⟩ entry_match_group (args_match_group _ _) group_meets ⟨h1, h2, ?_, ?_⟩
  · have : ((S whole).cps.extract b e).size = m.length := by rw [show ((S whole).cps.extract b e) = (S m).cps from congrArg Str.cps ex]; simp
    rw [this, sizeLine_eq]; omega
  · rw [ex]; exact h
theorem getm_group {prog : Program} {w : World} {A : Around} {E : Value → Shared → Prop} {s : Shared} {pl : Sem Bool} {Q : Value × List Value → Shared → Prop} {y tp P : Addr} {x : Str} {t : Tok} (h1 : s.heap.get? y = some (matchObj P x t tp)) (h : Q (.builtin "re.Match.group", [.ref y]) s) :
    wpAny (model prog w) A (getMethod (.ref y) "group" pl) Q E s := by
  have hT : s.TypeIs (.ref y) "re.Match" := ⟨_, h1, rfl⟩
  with_reducible exact getMethod_builtin hT plainAttrs_match slot_match_group type_match_group (fun a e => ⟨matchObj P x t tp, by injection e with e; rw [← e]; exact h1, rfl⟩) h
end
noncomputable def swapC (c d : Nat) (l : List Nat) : List Nat := l.map fun k => if k = c then d else k
theorem swap_free (c d : Nat) : ∀ l : List Nat, c ∉ l → swapC c d l = l
  | [], _ => rfl
  | k :: r, h => by
    have h1 : k ≠ c := fun e => h (e ▸ List.mem_cons_self ..)
    simp only [swapC, List.map_cons, if_neg h1]
    exact congrArg _ (swap_free c d r fun m => h (List.mem_cons_of_mem _ m))
theorem swap_join (c d : Nat) : ∀ parts : List Str, (∀ p ∈ parts, c ∉ p.cps.toList) → swapC c d (Str.join ⟨#[c]⟩ parts).cps.toList = (Str.join ⟨#[d]⟩ parts).cps.toList
  | [], _ => rfl
  | [p], h => swap_free c d _ (h p (List.mem_singleton.mpr rfl))
  | p :: q :: r, h => by
    have ih := swap_join c d (q :: r) fun a ha => h a (List.mem_cons_of_mem _ ha)
    have hp := swap_free c d _ (h p (List.mem_cons_self ..))
    show swapC c d (p ++ ⟨#[c]⟩ ++ Str.join ⟨#[c]⟩ (q :: r)).cps.toList = (p ++ ⟨#[d]⟩ ++ Str.join ⟨#[d]⟩ (q :: r)).cps.toList
    unfold swapC at ih hp ⊢
    simp only [Str.cps_append, Array.toList_append, List.map_append]
    rw [ih, hp]
    simp
theorem replace_swaps (l : List Nat) (c d : Nat) : Txt.replace (S l) ⟨#[c]⟩ ⟨#[d]⟩ = S (swapC c d l) := by
  rw [StrLaws.replace_one]
  have h := swap_join c d _ (StrLaws.split_free (S l) c)
  rw [StrLaws.join_split, S_list] at h
  rw [h, S_eta]
noncomputable def inPair (c : Nat) (q : Str × Str) : Bool := !(decide ((⟨#[c]⟩ : Str).cps.toList < q.1.cps.toList)) && !(decide (q.2.cps.toList < (⟨#[c]⟩ : Str).cps.toList))
noncomputable def signAt (run : List Sign) (name : Str) (p k : Nat) : Bool :=
  match run[k]?, name.cps[p]? with
  | some x, some c => (x.2.any (inPair c)) != x.1
  | _, _ => false
noncomputable def standsAt (run : List Sign) (name : Str) (p : Nat) : Bool := decide (p + run.length ≤ name.length) && (List.range run.length).all fun k => signAt run name (p + k) k
noncomputable def firstFit (run : List Sign) (name : Str) (at' : Nat) : Option Nat := (List.range (name.length + 1)).find? fun p => decide (at' ≤ p) && standsAt run name p
noncomputable def sharesGo (name : Str) : List (List Sign) → Nat → List Str → Option (List Str × Nat)
  | [], at', sh => some (sh, at')
  | r :: rs, at', sh => match firstFit r name at' with
    | none => none
    | some p => sharesGo name rs (p + r.length) (sh ++ [Txt.slice name (some at') (some p)])
noncomputable def sharesOf (runs : List (List Sign)) (name : Str) : Option (List Str) :=
  match runs with
  | [] => none
  | r0 :: rest => if standsAt r0 name 0 then
      match rest.getLast? with
      | none => if r0.length = name.length then some [] else none
      | some rl => match sharesGo name rest.dropLast r0.length [] with
        | none => none
        | some (sh, at') => if at' + rl.length ≤ name.length ∧ standsAt rl name (name.length - rl.length) = true then some (sh ++ [Txt.slice name (some at') (some ((name.length - rl.length : Nat) : Int))]) else none
    else none
theorem sharesGo_append (name : Str) : ∀ (a b : List (List Sign)) (p : Nat) (sh : List Str), sharesGo name (a ++ b) p sh = (sharesGo name a p sh).bind fun x => sharesGo name b x.2 x.1
  | [], _, _, _ => rfl
  | r :: rs, b, p, sh => by
    simp only [List.cons_append, sharesGo]
    cases firstFit r name p with
    | none => rfl
    | some q => exact sharesGo_append name rs b _ _
theorem standsAt_le {run : List Sign} {name : Str} {p : Nat} (h : standsAt run name p = true) : p + run.length ≤ name.length := by
  simp only [standsAt, Bool.and_eq_true, decide_eq_true_eq] at h; exact h.1
theorem firstFit_some {run : List Sign} {name : Str} {at' p : Nat} (ha : at' ≤ p) (hs : standsAt run name p = true) (hb : ∀ q, at' ≤ q → q < p → standsAt run name q = false) : firstFit run name at' = some p := by
  have hle := standsAt_le hs
  unfold firstFit
  rw [List.find?_eq_some_iff_getElem]
  refine ⟨by simp [ha, hs], p, by simp; omega, by simp, fun j hj => ?_⟩
  rw [List.getElem_range]
  rcases Nat.lt_or_ge j at' with q | q
  · simp; omega
  · simp [hb j q hj]
theorem firstFit_none {run : List Sign} {name : Str} {at' : Nat} (hb : ∀ q, at' ≤ q → standsAt run name q = false) : firstFit run name at' = none := by
  unfold firstFit
  rw [List.find?_eq_none]
  intro q _
  rcases Nat.lt_or_ge q at' with h | h
  · simp; omega
  · simp [hb q h]
theorem firstFit_inv {run : List Sign} {name : Str} {at' p : Nat} (h : firstFit run name at' = some p) : at' ≤ p ∧ standsAt run name p = true := by
  unfold firstFit at h
  have := List.find?_some h
  simpa using this
inductive PTok
  | star | any
  | lit (c : Nat)
  | set (b o : List Nat)
noncomputable def PTok.chars : PTok → List Nat
  | .star => [42]
  | .any => [63]
  | .lit c => [c]
  | .set b _ => 91 :: (b ++ [93])
noncomputable def PTok.item : PTok → Option (List Nat)
  | .star => none
  | .any => some [46]
  | .lit c => some [c]
  | .set _ o => some o
noncomputable def pchars (ts : List PTok) : List Nat := ts.flatMap PTok.chars
noncomputable abbrev plainSets : List (List Nat × List Nat) := [([63], [91, 63, 93]), ([117, 118], [91, 117, 118, 93]), ([33, 117], [91, 94, 117, 93])]
noncomputable abbrev dashSets : List (List Nat × List Nat) := [([117, 45, 118], [91, 117, 45, 118, 93]), ([33, 118, 45, 117], [46]), ([118, 45, 117], [40, 63, 33, 41])]
noncomputable def POk : Bool → List PTok → Prop
  | _, [] => True
  | b, .star :: r => b = false ∧ POk true r
  | _, .any :: r => POk false r
  | _, .lit c :: r => c ∈ [61, 113, 117, 118] ∧ POk false r
  | _, .set b o :: r => ((b, o) ∈ plainSets ∨ (b, o) ∈ dashSets) ∧ POk false r
inductive RTok
  | opn | cls | star
  | sg (cs : List Nat) (x : Sign)
noncomputable def RTok.chars : RTok → List Nat
  | .opn => [40, 63, 62, 46, 42, 63]
  | .cls => [41]
  | .star => [46, 42]
  | .sg cs _ => cs
noncomputable def rchars (ts : List RTok) : List Nat := ts.flatMap RTok.chars
noncomputable def readGo : List RTok → List (List Sign) → List Sign → List (List Sign)
  | [], fr, cur => fr ++ [cur]
  | .opn :: r, fr, cur => readGo r (fr ++ [cur]) []
  | .star :: r, fr, cur => readGo r (fr ++ [cur]) []
  | .cls :: r, fr, cur => readGo r fr cur
  | .sg _ x :: r, fr, cur => readGo r fr (cur ++ [x])
inductive Sgn : List Nat → Sign → Prop
  | never : Sgn [40, 63, 33, 41] (false, [])
  | any : Sgn [46] (true, [])
  | lit (c : Nat) (h : c ∈ [61, 117, 118, 113]) : Sgn [c] (false, [(S [c], S [c])])
  | set (b : Bool) (w : List Nat) (h : (b, w) ∈ [(false, [63]), (false, [117, 118]), (true, [117])]) : Sgn (91 :: ((if b then 94 :: w else w) ++ [93])) (b, w.map fun c => (S [c], S [c]))
  | rng : Sgn [91, 117, 45, 118, 93] (false, [(S [117], S [118])])
noncomputable def ROk : Bool → List RTok → Prop
  | held, [] => held = false
  | held, .opn :: r => held = false ∧ ROk true r
  | held, .cls :: r => held = true ∧ ROk false r ∧ ((∃ r', r = .star :: r') ∨ ∃ r', r = .opn :: r')
  | held, .star :: r => held = false ∧ ROk false r
  | held, .sg cs x :: r => held = true ∧ ROk true r ∧ Sgn cs x
noncomputable def blockItems (b : List (List Nat)) : List (Option (List Nat)) := none :: b.map some
noncomputable def joinItems (bs : List (List (List Nat))) : List (Option (List Nat)) := bs.flatMap blockItems ++ [none]
noncomputable def blockText (b : List (List Nat)) : List Nat := [40, 63, 62, 46, 42, 63] ++ (b.flatten ++ [41])
noncomputable def joinText (bs : List (List (List Nat))) : List Nat := [40, 63, 115, 58] ++ ((bs.flatMap blockText ++ [46, 42]) ++ [41, 92, 90])
noncomputable def okS (x : Sign) (c : Nat) : Bool := (x.2.any (inPair c)) != x.1
noncomputable def matchL : List Sign → List Nat → Bool
  | [], _ => true
  | _ :: _, [] => false
  | x :: r, c :: t => okS x c && matchL r t
theorem stands_match : ∀ (run : List Sign) (l : List Nat) (p : Nat), p ≤ l.length → standsAt run (S l) p = matchL run (l.drop p)
  | [], l, p, h => by simp [standsAt, matchL, S_len, h]
  | x :: r, l, p, h => by
    rcases Nat.lt_or_ge p l.length with q | q
    · have ih := stands_match r l (p + 1) q
      rw [List.drop_eq_getElem_cons q, matchL, ← ih]
      simp only [standsAt, S_len, List.length_cons, List.range_succ_eq_map, List.all_cons, List.all_map]
      have e0 : signAt (x :: r) (S l) (p + 0) 0 = okS x l[p] := by simp [signAt, okS, q]
      have e1 : ((fun k => signAt (x :: r) (S l) (p + k) k) ∘ Nat.succ) = fun k => signAt r (S l) (p + 1 + k) k := by
        funext k; simp [signAt, Nat.succ_eq_add_one, show p + (k + 1) = p + 1 + k by omega]
      rw [e0, e1, show p + (r.length + 1) = p + 1 + r.length by omega]
      cases okS x l[p] <;> cases decide (p + 1 + r.length ≤ l.length) <;> simp
    · have : p = l.length := by omega
      subst this
      simp only [standsAt, S_len, List.length_cons, List.drop_length, matchL]
      rw [decide_eq_false (by omega), Bool.false_and]
noncomputable def noFit (run : List Sign) : List Nat → List Nat → Prop
  | [], _ => True
  | c :: g, m => matchL run (c :: (g ++ m)) = false ∧ noFit run g m
theorem noFit_drop {run : List Sign} {m : List Nat} : ∀ {g : List Nat}, noFit run g m → ∀ i, i < g.length → matchL run ((g ++ m).drop i) = false
  | _ :: _, h, 0, _ => h.1
  | _ :: g, h, i + 1, hi => noFit_drop h.2 i (by simpa using hi)
theorem noFit_app {run : List Sign} {m : List Nat} : ∀ {a b : List Nat}, noFit run (a ++ b) m ↔ noFit run a (b ++ m) ∧ noFit run b m
  | [], b => by simp [noFit]
  | c :: a, b => by simp [noFit, noFit_app (a := a) (b := b), and_assoc]
theorem drop_at (pre l : List Nat) (i : Nat) : (pre ++ l).drop (pre.length + i) = l.drop i := by rw [List.drop_append]; simp
theorem fit_at {run : List Sign} {pre g m : List Nat} (hs : matchL run m = true) (hn : noFit run g m) : firstFit run (S (pre ++ (g ++ m))) pre.length = some (pre.length + g.length) := by
  refine firstFit_some (Nat.le_add_right _ _) ?_ ?_
  · rw [stands_match _ _ _ (by simp <;> omega), drop_at, List.drop_left]; exact hs
  · intro q h1 h2
    obtain ⟨i, rfl⟩ : ∃ i, q = pre.length + i := ⟨q - pre.length, by omega⟩
    rw [stands_match _ _ _ (by simp <;> omega), drop_at]; exact noFit_drop hn i (by omega)
theorem fit_no {run : List Sign} {pre g : List Nat} (hr : run ≠ []) (hn : noFit run g []) : firstFit run (S (pre ++ g)) pre.length = none := by
  refine firstFit_none fun q h1 => ?_
  obtain ⟨i, rfl⟩ : ∃ i, q = pre.length + i := ⟨q - pre.length, by omega⟩
  rcases Nat.lt_or_ge i g.length with h | h
  · rw [stands_match _ _ _ (by simp <;> omega), drop_at]; have := noFit_drop hn i h; rwa [List.append_nil] at this
  · cases run with
    | nil => exact absurd rfl hr
    | cons x r =>
      simp only [standsAt, S_len, List.length_append, List.length_cons]
      rw [decide_eq_false (by omega), Bool.false_and]
noncomputable abbrev litS (c : Nat) : Sign := (false, [(S [c], S [c])])
theorem one_lt' {d e : Nat} : [d] < [e] ↔ d < e := by rw [List.cons_lt_cons_iff]; simp
theorem okS_lit (c d : Nat) : okS (litS c) d = (d == c) := by
  simp only [okS, litS, inPair, List.any_cons, List.any_nil, Bool.or_false, one_lt']
  rcases Nat.lt_trichotomy d c with h | h | h
  · rw [decide_eq_true h]; simp <;> omega
  · subst h; simp
  · rw [decide_eq_true h]; simp <;> omega
noncomputable abbrev runA (ps : List Sign) : List Sign := litS 61 :: litS 63 :: (ps ++ [litS 63, litS 113, litS 63])
noncomputable abbrev runB : List Sign := [litS 63, litS 61]
noncomputable def safeC (c : Nat) : Bool := c == 45 || c == 33 || c == 42 || c == 43 || c == 47 || (decide (48 ≤ c) && decide (c ≤ 57)) || (decide (65 ≤ c) && decide (c ≤ 90)) || (decide (97 ≤ c) && decide (c ≤ 122))
noncomputable def encC (c : Nat) : List Nat := if c = 32 then [95] else if safeC c then [c] else 61 :: hx c
noncomputable def enc (row : List Nat) : List Nat := row.flatMap encC
noncomputable abbrev Piece := List Nat × List Nat × List Nat
noncomputable def wordL (cs row : List Nat) : List Nat := 61 :: 63 :: (cs ++ (63 :: 113 :: 63 :: (enc row ++ [63, 61])))
noncomputable def headL (tail : List Nat) : List Piece → List Nat
  | [] => tail
  | p :: r => p.1 ++ (wordL p.2.1 p.2.2 ++ headL tail r)
noncomputable def hitL : List Sign → List Nat → Bool
  | [], [] => true
  | x :: r, c :: t => okS x c && hitL r t
  | _, _ => false
noncomputable def hitsOf (ps : List Sign) (l : List Piece) : Nat := l.countP fun p => hitL ps p.2.1
noncomputable def rawGo (ps : List Sign) (tail : List Nat) : List Nat → List Piece → List (List Nat)
  | acc, [] => [acc ++ tail]
  | acc, p :: r => if hitL ps p.2.1 then (acc ++ p.1) :: enc p.2.2 :: rawGo ps tail [] r else rawGo ps tail (acc ++ (p.1 ++ wordL p.2.1 p.2.2)) r
noncomputable def toldGo (ps : List Sign) (tail : List Nat) : List Nat → List Piece → List (List Nat)
  | acc, [] => [acc ++ tail]
  | acc, p :: r => if hitL ps p.2.1 then (acc ++ p.1) :: p.2.2 :: toldGo ps tail [] r else toldGo ps tail (acc ++ (p.1 ++ wordL p.2.1 p.2.2)) r
structure PieceOk (p : Piece) : Prop where
  st : 63 ∉ p.1
  cs : ∀ c ∈ p.2.1, c = 117 ∨ c = 118 ∨ c = 119
  cl : 1 ≤ p.2.1.length ∧ p.2.1.length ≤ 2
  row : ∀ c ∈ p.2.2, c < 256
theorem noA_ne (ps : List Sign) {m : List Nat} : ∀ {g : List Nat}, 61 ∉ g → noFit (runA ps) g m
  | [], _ => trivial
  | c :: g, h => ⟨by
      have : (c == 61) = false := by simp; exact fun e => h (by simp [e])
      simp only [runA, matchL, okS_lit, this, Bool.false_and], noA_ne ps fun k => h (List.mem_cons_of_mem _ k)⟩
theorem noA_q (ps : List Sign) {m : List Nat} (hm : m.head? ≠ some 63) : ∀ {g : List Nat}, 63 ∉ g → noFit (runA ps) g m
  | [], _ => trivial
  | [c], h => ⟨by
      cases m with
      | nil => simp [runA, matchL]
      | cons d t =>
        have : (d == 63) = false := by simp at hm ⊢; exact hm
        simp only [runA, matchL, List.nil_append, okS_lit, this, Bool.false_and, Bool.and_false], trivial⟩
  | c :: d :: g, h => ⟨by
      have : (d == 63) = false := by simp at h ⊢; omega
      simp only [runA, matchL, List.cons_append, okS_lit, this, Bool.false_and, Bool.and_false], noA_q ps hm fun k => h (List.mem_cons_of_mem _ k)⟩
theorem hexD_big (k : Nat) (h : k < 16) : hexD k ≠ 63 ∧ hexD k ≠ 61 := by unfold hexD; split <;> omega
theorem enc_q {c : Nat} (h : c < 256) : 63 ∉ encC c := by
  have h1 := hexD_big (c / 16) (by omega)
  have h2 := hexD_big (c % 16) (by omega)
  unfold encC
  split
  · simp
  · split
    · rename_i hs; intro e; simp at e; subst e; revert hs; decide
    · simp only [hx, List.mem_cons, List.not_mem_nil, or_false]; omega
theorem encs_q {row : List Nat} (h : ∀ c ∈ row, c < 256) : 63 ∉ enc row := by
  unfold enc; rw [List.mem_flatMap]; rintro ⟨c, hc, e⟩; exact enc_q (h c hc) e
theorem enc_end {c : Nat} (h : c < 256) (ps : List Sign) (m : List Nat) : noFit (runA ps) (encC c) m := by
  have h1 := hexD_big (c / 16) (by omega)
  have h2 := hexD_big (c % 16) (by omega)
  unfold encC
  split
  · exact noA_ne ps (by simp)
  · split
    · rename_i hs; exact noA_ne ps (by intro e; simp at e; subst e; revert hs; decide)
    · refine ⟨?_, noA_ne ps (by simp only [hx, List.mem_cons, List.not_mem_nil, or_false]; omega)⟩
      have : (hexD (c / 16) == 63) = false := by simp; exact h1.1
      simp only [runA, matchL, hx, List.cons_append, okS_lit, this, Bool.false_and, Bool.and_false]
theorem noA_enc (ps : List Sign) : ∀ {row : List Nat} {m : List Nat}, (∀ c ∈ row, c < 256) → noFit (runA ps) (enc row) m
  | [], _, _ => trivial
  | c :: r, m, h => noFit_app.mpr ⟨enc_end (h c (List.mem_cons_self ..)) ps _, noA_enc ps fun d hd => h d (List.mem_cons_of_mem _ hd)⟩
theorem noB_enc {m : List Nat} : ∀ {g : List Nat}, 63 ∉ g → noFit runB g m
  | [], _ => trivial
  | c :: g, h => ⟨by
      have : (c == 63) = false := by simp; exact fun e => h (by simp [e])
      simp only [matchL, okS_lit, this, Bool.false_and], noB_enc fun k => h (List.mem_cons_of_mem _ k)⟩
theorem word_match {ps : List Sign} (hp : 1 ≤ ps.length ∧ ps.length ≤ 2) {cs row m : List Nat} (hc : ∀ c ∈ cs, c = 117 ∨ c = 118 ∨ c = 119) (hl : 1 ≤ cs.length ∧ cs.length ≤ 2) :
    matchL (runA ps) (wordL cs row ++ m) = hitL ps cs := by
  have q : ∀ c ∈ cs, (c == 63) = false := fun c h => by simp; have := hc c h; omega
  match ps, hp, cs, hl, q with
  | [a], _, [c], _, q => simp [matchL, wordL, hitL, okS_lit]
  | [a], _, [c, d], _, q =>
    have := q d (by simp)
    simp only [runA, matchL, wordL, hitL, List.cons_append, List.nil_append, okS_lit, this, Bool.false_and, Bool.and_false]
  | [a, b], _, [c], _, q => simp [matchL, wordL, hitL, okS_lit]
  | [a, b], _, [c, d], _, q => simp [matchL, wordL, hitL, okS_lit]
theorem noA_word {ps : List Sign} (hp : 1 ≤ ps.length ∧ ps.length ≤ 2) {p : Piece} (ok : PieceOk p) {m : List Nat} (hm : m.head? ≠ some 63) (hh : hitL ps p.2.1 = false) : noFit (runA ps) (wordL p.2.1 p.2.2) m := by
  have hc : 61 ∉ p.2.1 := fun e => by have := ok.cs _ e; omega
  refine ⟨?_, ?_⟩
  · have := word_match hp (row := p.2.2) (m := m) ok.cs ok.cl
    rw [hh] at this; exact this
  · rw [show (63 :: (p.2.1 ++ (63 :: 113 :: 63 :: (enc p.2.2 ++ [63, 61])))) = (63 :: (p.2.1 ++ [63, 113, 63])) ++ (enc p.2.2 ++ [63, 61]) by simp]
    refine noFit_app.mpr ⟨noA_ne ps (by simp [hc]), noFit_app.mpr ⟨noA_enc ps ok.row, ⟨?_, noA_q ps hm (by simp)⟩⟩⟩
    have : ((63 : Nat) == 61) = false := rfl
    simp only [runA, matchL, okS_lit, this, Bool.false_and]
theorem head_q {tail : List Nat} (ht : 63 ∉ tail) : ∀ {l : List Piece}, (∀ p ∈ l, PieceOk p) → (headL tail l).head? ≠ some 63
  | [], _ => by
    show tail.head? ≠ _
    intro e; exact ht (List.mem_of_head? e)
  | p :: r, h => by
    show (p.1 ++ _).head? ≠ _
    have := (h p (List.mem_cons_self ..)).st
    rcases p with ⟨st, cs, row⟩
    cases st with
    | nil => simp [wordL]
    | cons c t => simp at this ⊢; omega
noncomputable def reps (ps : List Sign) (n : Nat) : List (List Sign) := (List.replicate n [runA ps, runB]).flatten
theorem reps_succ (ps : List Sign) (n : Nat) : reps ps (n + 1) = runA ps :: runB :: reps ps n := by simp [reps, List.replicate_succ]
theorem reps_add (ps : List Sign) : ∀ n, reps ps (n + 1) = reps ps n ++ [runA ps, runB]
  | 0 => rfl
  | n + 1 => by
    have e := (reps_succ ps n).symm.trans (reps_add ps n)
    rw [reps_succ, reps_add ps n]
    show (runA ps :: runB :: reps ps n) ++ [runA ps, runB] = _
    rw [e]
theorem hit_len : ∀ {ps : List Sign} {cs : List Nat}, hitL ps cs = true → ps.length = cs.length
  | [], [], _ => rfl
  | _ :: ps, _ :: cs, h => by simp only [hitL, Bool.and_eq_true] at h; simp [hit_len h.2]
  | [], _ :: _, h => by simp [hitL] at h
  | _ :: _, [], h => by simp [hitL] at h
theorem go_raw {ps : List Sign} (hp : 1 ≤ ps.length ∧ ps.length ≤ 2) {tail : List Nat} (ht : 63 ∉ tail) : ∀ (l : List Piece) (acc pre : List Nat) (sh : List Str) (whole : List Nat), (∀ p ∈ l, PieceOk p) → noFit (runA ps) acc (headL tail l) → whole = pre ++ (acc ++ headL tail l) →
    ∃ xs x pre', rawGo ps tail acc l = xs ++ [x] ∧ whole = pre' ++ x ∧ noFit (runA ps) x [] ∧ sharesGo (S whole) (reps ps (hitsOf ps l)) pre.length sh = some (sh ++ xs.map S, pre'.length)
  | [], acc, pre, sh, whole, _, hn, hw => ⟨[], acc ++ tail, pre, rfl, hw, noFit_app.mpr ⟨by rw [List.append_nil]; exact hn, noA_q ps (by simp) ht⟩, by simp [hitsOf, reps, sharesGo]⟩
  | p :: r, acc, pre, sh, whole, hok, hn, hw => by
    have okp := hok p (List.mem_cons_self ..)
    have okr := fun q hq => hok q (List.mem_cons_of_mem _ hq)
    obtain ⟨st, cs, row⟩ := p
    have hst : noFit (runA ps) st (wordL cs row ++ headL tail r) := noA_q ps (by simp [wordL]) okp.st
    have hacc : noFit (runA ps) (acc ++ st) (wordL cs row ++ headL tail r) := noFit_app.mpr ⟨hn, hst⟩
    cases hh : hitL ps cs with
    | false =>
      have hword := noA_word hp okp (m := headL tail r) (head_q ht okr) hh
      obtain ⟨xs, x, pre', h1, h2, h3, h4⟩ := go_raw hp ht r (acc ++ (st ++ wordL cs row)) pre sh whole okr (by rw [← List.append_assoc]; exact noFit_app.mpr ⟨hacc, hword⟩) (by rw [hw]; simp [headL])
      refine ⟨xs, x, pre', by simp only [rawGo, hh]; exact h1, h2, h3, ?_⟩
      rw [← h4]; simp [hitsOf, hh]
    | true =>
      have hl := hit_len hh
      have hm := word_match hp (row := row) (m := headL tail r) okp.cs okp.cl
      rw [hh] at hm
      have hw1 : whole = pre ++ ((acc ++ st) ++ (wordL cs row ++ headL tail r)) := by rw [hw]; simp [headL]
      have f1 := fit_at (pre := pre) hm hacc
      rw [← hw1] at f1
      have s1 := cut_mid pre (acc ++ st) (wordL cs row ++ headL tail r) pre.length ((pre.length + (acc ++ st).length : Nat) : Int) rfl rfl
      rw [← hw1] at s1
      have hw2 : whole = (pre ++ ((acc ++ st) ++ (61 :: 63 :: (cs ++ [63, 113, 63])))) ++ (enc row ++ ([63, 61] ++ headL tail r)) := by rw [hw1]; simp [wordL]
      have hp2 : pre.length + (acc ++ st).length + (runA ps).length = (pre ++ ((acc ++ st) ++ (61 :: 63 :: (cs ++ [63, 113, 63])))).length := by simp [hl]; omega
      generalize pre ++ ((acc ++ st) ++ (61 :: 63 :: (cs ++ [63, 113, 63]))) = pre2 at hw2 hp2
      have f2 := fit_at (run := runB) (pre := pre2) (g := enc row) (m := [63, 61] ++ headL tail r) (by simp [matchL, okS_lit]) (noB_enc (encs_q okp.row))
      rw [← hw2] at f2
      have s2 := cut_mid pre2 (enc row) ([63, 61] ++ headL tail r) pre2.length ((pre2.length + (enc row).length : Nat) : Int) rfl rfl
      rw [← hw2] at s2
      have hw3 : whole = (pre2 ++ (enc row ++ [63, 61])) ++ ([] ++ headL tail r) := by rw [hw2]; simp
      obtain ⟨xs, x, pre', h1, h2, h3, h4⟩ := go_raw hp ht r [] (pre2 ++ (enc row ++ [63, 61])) (sh ++ [S (acc ++ st), S (enc row)]) whole okr trivial hw3
      refine ⟨(acc ++ st) :: enc row :: xs, x, pre', by simp only [rawGo, hh, if_true, h1]; rfl, h2, h3, ?_⟩
      have e : hitsOf ps ((st, cs, row) :: r) = hitsOf ps r + 1 := by simp [hitsOf, hh]
      rw [e, reps_succ]
      simp only [sharesGo, f1]
      rw [hp2]
      simp only [f2, s1, s2]
      rw [show pre2.length + (enc row).length + runB.length = (pre2 ++ (enc row ++ [63, 61])).length by simp; omega, List.append_assoc]
      rw [show [S (acc ++ st)] ++ [S (enc row)] = [S (acc ++ st), S (enc row)] from rfl, h4]
      simp
noncomputable def runsN (ps : List Sign) (n : Nat) : List (List Sign) := [] :: (reps ps n ++ [[]])
theorem cut_tail (pre x : List Nat) : Txt.slice (S (pre ++ x)) (some (pre.length : Int)) (some ((pre.length + x.length : Nat) : Int)) = S x := by
  have := cut_mid pre x [] pre.length ((pre.length + x.length : Nat) : Int) rfl rfl
  rwa [List.append_nil] at this
theorem shares_hit {ps : List Sign} (hp : 1 ≤ ps.length ∧ ps.length ≤ 2) {tail : List Nat} (ht : 63 ∉ tail) {l : List Piece} (hok : ∀ p ∈ l, PieceOk p) :
    sharesOf (runsN ps (hitsOf ps l)) (S (headL tail l)) = some ((rawGo ps tail [] l).map S) ∧ sharesOf (runsN ps (hitsOf ps l + 1)) (S (headL tail l)) = none := by
  obtain ⟨xs, x, pre', h1, h2, h3, h4⟩ := go_raw hp ht l [] [] [] _ hok trivial rfl
  simp only [List.nil_append, List.length_nil] at h2 h4
  have h0 : standsAt ([] : List Sign) (S (headL tail l)) 0 = true := by simp [standsAt]
  have hL : standsAt ([] : List Sign) (S (headL tail l)) (S (headL tail l)).length = true := by simp [standsAt]
  have hlen : (S (headL tail l)).length = pre'.length + x.length := by rw [S_len, h2]; simp
  constructor
  · unfold runsN sharesOf
    simp only [h0, if_true, List.getLast?_append, List.getLast?_singleton, Option.some_or, List.dropLast_concat, List.length_nil, h4, Nat.sub_zero, hL, and_true, Nat.add_zero]
    rw [if_pos (by omega), hlen, h1]
    have := cut_tail pre' x
    rw [← h2] at this
    rw [this]; simp
  · unfold runsN sharesOf
    simp only [h0, if_true, List.getLast?_append, List.getLast?_singleton, Option.some_or, List.dropLast_concat, List.length_nil]
    have fn := fit_no (run := runA ps) (pre := pre') (by simp) h3
    rw [← h2] at fn
    rw [reps_add, sharesGo_append, h4]
    simp only [Option.bind_some, sharesGo, fn]
theorem raw_len (ps : List Sign) (tail : List Nat) : ∀ (l : List Piece) (acc : List Nat), (rawGo ps tail acc l).length = 2 * hitsOf ps l + 1
  | [], acc => rfl
  | p :: r, acc => by
    cases hh : hitL ps p.2.1 <;> simp only [rawGo, hh, if_true, hitsOf, List.countP_cons, List.length_cons] <;> (first | rw [raw_len ps tail r] | (rw [if_neg (by simp), raw_len ps tail r])) <;> simp [hitsOf] <;> omega
theorem told_len (ps : List Sign) (tail : List Nat) : ∀ (l : List Piece) (acc : List Nat), (toldGo ps tail acc l).length = 2 * hitsOf ps l + 1
  | [], acc => rfl
  | p :: r, acc => by
    cases hh : hitL ps p.2.1 <;> simp only [toldGo, hh, if_true, hitsOf, List.countP_cons, List.length_cons] <;> (first | rw [told_len ps tail r] | (rw [if_neg (by simp), told_len ps tail r])) <;> simp [hitsOf] <;> omega
theorem raw_told (ps : List Sign) (tail : List Nat) : ∀ (l : List Piece) (acc : List Nat) (k : Nat) (x : List Nat), (rawGo ps tail acc l)[k]? = some x →
    if k % 2 = 1 then ∃ p ∈ l, x = enc p.2.2 ∧ (toldGo ps tail acc l)[k]? = some p.2.2 else (toldGo ps tail acc l)[k]? = some x
  | [], acc, 0, x, h => by simpa [rawGo, toldGo] using h
  | [], acc, k + 1, x, h => by simp [rawGo] at h
  | p :: r, acc, k, x, h => by
    cases hh : hitL ps p.2.1 with
    | false =>
      simp only [rawGo, toldGo, hh, Bool.false_eq_true, if_false] at h ⊢
      have := raw_told ps tail r _ k x h
      split at this
      · rename_i hk; rw [if_pos hk]; obtain ⟨q, hq, e⟩ := this; exact ⟨q, List.mem_cons_of_mem _ hq, e⟩
      · rename_i hk; rw [if_neg hk]; exact this
    | true =>
      simp only [rawGo, toldGo, hh, if_true] at h ⊢
      match k, h with
      | 0, h => simpa using h
      | 1, h => exact ⟨p, List.mem_cons_self .., by simpa using h.symm, rfl⟩
      | k + 2, h =>
        have := raw_told ps tail r _ k x (by simpa using h)
        rw [show (k + 2) % 2 = k % 2 by omega]
        split at this
        · rename_i hk; rw [if_pos hk]; obtain ⟨q, hq, e⟩ := this; exact ⟨q, List.mem_cons_of_mem _ hq, by simpa using e⟩
        · rename_i hk; rw [if_neg hk]; simpa using this
noncomputable def pcTok (k : Nat) : PTok := [.lit 117, .any, .set [117, 118] [91, 117, 118, 93], .set [33, 117] [91, 94, 117, 93], .set [117, 45, 118] [91, 117, 45, 118, 93], .set [33, 118, 45, 117] [46], .lit 118, .set [118, 45, 117] [40, 63, 33, 41]].getD k .any
noncomputable def pcSg (k : Nat) : List Nat × Sign := [([117], litS 117), ([46], (true, [])), ([91, 117, 118, 93], (false, [(S [117], S [117]), (S [118], S [118])])), ([91, 94, 117, 93], (true, [(S [117], S [117])])), ([91, 117, 45, 118, 93], (false, [(S [117], S [118])])), ([46], (true, [])), ([118], litS 118), ([40, 63, 33, 41], (false, []))].getD k ([46], (true, []))
noncomputable def pcCls (k : Nat) : List Nat := [[117], [117, 118, 119], [117, 118], [118, 119], [117, 118], [117, 118, 119], [118], []].getD k []
noncomputable abbrev qT : PTok := .set [63] [91, 63, 93]
noncomputable def unitT (as : List Nat) : List PTok := .star :: .lit 61 :: qT :: (as.map pcTok ++ [qT, .lit 113, qT, .star, qT, .lit 61])
noncomputable def patT (as : List Nat) (n : Nat) : List PTok := (List.replicate n (unitT as)).flatten ++ [.star]
noncomputable def blkA (as : List Nat) : List (List Nat) := [61] :: [91, 63, 93] :: (as.map (fun a => (pcSg a).1) ++ [[91, 63, 93], [113], [91, 63, 93]])
noncomputable abbrev blkB : List (List Nat) := [[91, 63, 93], [61]]
noncomputable def blks (as : List Nat) (n : Nat) : List (List (List Nat)) := (List.replicate n [blkA as, blkB]).flatten
noncomputable abbrev qS : RTok := .sg [91, 63, 93] (litS 63)
noncomputable def unitR (as : List Nat) : List RTok := .opn :: .sg [61] (litS 61) :: qS :: (as.map (fun a => RTok.sg (pcSg a).1 (pcSg a).2) ++ [qS, .sg [113] (litS 113), qS, .cls, .opn, qS, .sg [61] (litS 61), .cls])
noncomputable def regT (as : List Nat) (n : Nat) : List RTok := (List.replicate n (unitR as)).flatten ++ [.star]
noncomputable abbrev signsOf (as : List Nat) : List Sign := as.map fun a => (pcSg a).2
theorem lt8 {P : Nat → Prop} (h : ∀ k : Fin 8, P k.1) {k : Nat} (hk : k < 8) : P k := h ⟨k, hk⟩
theorem pc_ok {k : Nat} (hk : k < 8) : ∀ b r, POk b (pcTok k :: r) ↔ POk false r := by
  refine lt8 (P := fun k => ∀ b r, POk b (pcTok k :: r) ↔ POk false r) ?_ hk
  intro ⟨k, h⟩ b r
  match k, h with
  | 0, _ => simp [pcTok, POk]
  | 1, _ => simp [pcTok, POk]
  | 2, _ => simp [pcTok, POk]
  | 3, _ => simp [pcTok, POk]
  | 4, _ => simp [pcTok, POk]
  | 5, _ => simp [pcTok, POk]
  | 6, _ => simp [pcTok, POk]
  | 7, _ => simp [pcTok, POk]
theorem pcs_ok : ∀ {as : List Nat}, (∀ a ∈ as, a < 8) → ∀ r, POk false (as.map pcTok ++ r) ↔ POk false r
  | [], _, r => Iff.rfl
  | a :: as, h, r => (pc_ok (h a (List.mem_cons_self ..)) _ _).trans (pcs_ok (fun b hb => h b (List.mem_cons_of_mem _ hb)) r)
theorem pat_ok {as : List Nat} (h : ∀ a ∈ as, a < 8) : ∀ n, POk false (patT as n)
  | 0 => ⟨rfl, trivial⟩
  | n + 1 => by
    have ih := pat_ok h n
    simp only [patT, List.replicate_succ, List.flatten_cons, List.append_assoc] at ih ⊢
    simp only [unitT, List.cons_append, List.append_assoc, POk, List.nil_append]
    refine ⟨trivial, by simp, by simp, (pcs_ok h _).mpr ?_⟩
    simp only [POk]
    exact ⟨by simp, by simp, by simp, trivial, by simp, by simp, ih⟩
theorem pc_item {k : Nat} (hk : k < 8) : (pcTok k).item = some (pcSg k).1 := by
  refine lt8 (P := fun k => (pcTok k).item = some (pcSg k).1) ?_ hk
  decide
theorem pcs_item {as : List Nat} (h : ∀ a ∈ as, a < 8) : (as.map pcTok).map PTok.item = as.map fun a => some (pcSg a).1 := by
  rw [List.map_map]; exact List.map_congr_left fun a ha => pc_item (h a ha)
theorem pat_items {as : List Nat} (h : ∀ a ∈ as, a < 8) : ∀ n, (patT as n).map PTok.item = joinItems (blks as n)
  | 0 => rfl
  | n + 1 => by
    have ih := pat_items h n
    simp only [patT, blks, joinItems, List.replicate_succ, List.flatten_cons, List.append_assoc, List.map_append, List.flatMap_append] at ih ⊢
    rw [ih]
    simp only [unitT, List.map_cons, List.map_append, pcs_item h, PTok.item, blkA, List.flatMap_cons, blockItems, List.map_map, List.flatMap_nil, List.append_nil]
    simp [Function.comp_def]
theorem blks_ne {as : List Nat} {n : Nat} : ∀ b ∈ blks as n, b ≠ [] := by
  intro b hb
  simp only [blks, List.mem_flatten, List.mem_replicate] at hb
  obtain ⟨l, ⟨_, rfl⟩, hb⟩ := hb
  rcases List.mem_cons.mp hb with rfl | hb
  · simp [blkA]
  · rw [List.mem_singleton.mp hb]; simp
theorem reg_chars (as : List Nat) : ∀ n, (blks as n).flatMap blockText ++ [46, 42] = rchars (regT as n)
  | 0 => rfl
  | n + 1 => by
    have ih := reg_chars as n
    have e : ∀ as : List Nat, (as.map (fun a => (pcSg a).1)).flatten = (as.map (fun a => RTok.sg (pcSg a).1 (pcSg a).2)).flatMap RTok.chars := fun as => by
      induction as with
      | nil => rfl
      | cons a r ih => simp only [List.map_cons, List.flatten_cons, List.flatMap_cons, ih, RTok.chars]
    simp only [blks, regT, rchars, List.replicate_succ, List.flatten_cons, List.append_assoc, List.flatMap_append] at ih ⊢
    rw [ih]
    simp only [unitR, blkA, blockText, List.flatMap_cons, List.flatMap_append, List.flatten_cons, List.flatten_append, e, List.flatMap_nil, RTok.chars, List.append_nil, List.flatten_nil]
    simp
theorem pc_sgn {k : Nat} (hk : k < 8) : Sgn (pcSg k).1 (pcSg k).2 := by
  refine lt8 (P := fun k => Sgn (pcSg k).1 (pcSg k).2) ?_ hk
  intro ⟨k, h⟩
  match k, h with
  | 0, _ => exact .lit 117 (by simp)
  | 1, _ => exact .any
  | 2, _ => exact .set false [117, 118] (by simp)
  | 3, _ => exact .set true [117] (by simp)
  | 4, _ => exact .rng
  | 5, _ => exact .any
  | 6, _ => exact .lit 118 (by simp)
  | 7, _ => exact .never
theorem qSgn : Sgn [91, 63, 93] (litS 63) := .set false [63] (by simp)
theorem rcs_ok : ∀ {as : List Nat}, (∀ a ∈ as, a < 8) → ∀ r, ROk true r → ROk true (as.map (fun a => RTok.sg (pcSg a).1 (pcSg a).2) ++ r)
  | [], _, r, h => h
  | a :: as, h, r, hr => ⟨rfl, rcs_ok (fun b hb => h b (List.mem_cons_of_mem _ hb)) r hr, pc_sgn (h a (List.mem_cons_self ..))⟩
theorem reg_ok {as : List Nat} (h : ∀ a ∈ as, a < 8) : ∀ n, ROk false (regT as n) ∧ ((∃ r', regT as n = .star :: r') ∨ ∃ r', regT as n = .opn :: r')
  | 0 => ⟨⟨rfl, rfl⟩, .inl ⟨_, rfl⟩⟩
  | n + 1 => by
    have ih := reg_ok h n
    have e : regT as (n + 1) = unitR as ++ regT as n := by simp [regT, List.replicate_succ]
    rw [e]
    refine ⟨?_, .inr ⟨_, rfl⟩⟩
    simp only [unitR, List.cons_append, List.append_assoc, List.nil_append]
    refine ⟨rfl, rfl, ⟨rfl, rcs_ok h _ ?_, qSgn⟩, .lit 61 (by simp)⟩
    exact ⟨rfl, ⟨rfl, ⟨rfl, ⟨rfl, ⟨rfl, ⟨rfl, ⟨rfl, ⟨rfl, ih.1, ih.2⟩, .lit 61 (by simp)⟩, qSgn⟩⟩, .inr ⟨_, rfl⟩⟩, qSgn⟩, .lit 113 (by simp)⟩, qSgn⟩
theorem read_sgs : ∀ (as : List Nat) (r : List RTok) (fr : List (List Sign)) (cur : List Sign), readGo (as.map (fun a => RTok.sg (pcSg a).1 (pcSg a).2) ++ r) fr cur = readGo r fr (cur ++ signsOf as)
  | [], r, fr, cur => by simp
  | a :: as, r, fr, cur => by
    simp only [List.map_cons, List.cons_append, readGo]
    rw [read_sgs as]; simp
theorem read_reg (as : List Nat) : ∀ (n : Nat) (fr : List (List Sign)) (cur : List Sign), readGo (regT as n) fr cur = (fr ++ [cur]) ++ (reps (signsOf as) n ++ [[]])
  | 0, fr, cur => rfl
  | n + 1, fr, cur => by
    have e : regT as (n + 1) = unitR as ++ regT as n := by simp [regT, List.replicate_succ]
    rw [e]
    simp only [unitR, List.cons_append, List.append_assoc, List.nil_append, readGo]
    rw [read_sgs]
    simp only [readGo]
    rw [read_reg as n, reps_succ]
    simp
theorem read_runs (as : List Nat) (n : Nat) : readGo (regT as n) [] [] = runsN (signsOf as) n := read_reg as n [] []
theorem pc_len {k : Nat} (hk : k < 8) : (pcTok k).chars.length ≤ 6 ∧ (pcSg k).1.length ≤ 5 ∧ (pcSg k).2.2.length ≤ 2 := by
  refine lt8 (P := fun k => (pcTok k).chars.length ≤ 6 ∧ (pcSg k).1.length ≤ 5 ∧ (pcSg k).2.2.length ≤ 2) ?_ hk
  decide
theorem pat_len {as : List Nat} (h : ∀ a ∈ as, a < 8) (hl : as.length ≤ 2) (n : Nat) : (pchars (patT as n)).length ≤ 40 * n + 1 := by
  have hu : (pchars (unitT as)).length ≤ 40 := by
    match as, h, hl with
    | [], _, _ => decide
    | [a], h, _ =>
      have h1 := (pc_len (h a (by simp))).1
      show (42 :: 61 :: 91 :: 63 :: 93 :: ((pcTok a).chars ++ [91, 63, 93, 113, 91, 63, 93, 42, 91, 63, 93, 61])).length ≤ 40
      simp only [List.length_cons, List.length_append, List.length_nil]; omega
    | [a, b], h, _ =>
      have h1 := (pc_len (h a (by simp))).1
      have h2 := (pc_len (h b (by simp))).1
      show (42 :: 61 :: 91 :: 63 :: 93 :: ((pcTok a).chars ++ ((pcTok b).chars ++ [91, 63, 93, 113, 91, 63, 93, 42, 91, 63, 93, 61]))).length ≤ 40
      simp only [List.length_cons, List.length_append, List.length_nil]; omega
  induction n with
  | zero => simp [patT, pchars, PTok.chars]
  | succ n ih =>
    have e : patT as (n + 1) = unitT as ++ patT as n := by simp [patT, List.replicate_succ]
    rw [e]; simp only [pchars, List.flatMap_append, List.length_append] at *; omega
theorem reg_len {as : List Nat} (h : ∀ a ∈ as, a < 8) (hl : as.length ≤ 2) (n : Nat) : (rchars (regT as n)).length ≤ 60 * n + 2 := by
  have hu : (rchars (unitR as)).length ≤ 60 := by
    match as, h, hl with
    | [], _, _ => decide
    | [a], h, _ => have := (pc_len (h a (by simp))).2.1; simp [rchars, unitR, RTok.chars]; omega
    | [a, b], h, _ => have := (pc_len (h a (by simp))).2.1; have := (pc_len (h b (by simp))).2.1; simp [rchars, unitR, RTok.chars]; omega
  induction n with
  | zero => simp [regT, rchars, RTok.chars]
  | succ n ih =>
    have e : regT as (n + 1) = unitR as ++ regT as n := by simp [regT, List.replicate_succ]
    rw [e]; simp only [rchars, List.flatMap_append, List.length_append] at *; omega
theorem items_len {as : List Nat} (hl : as.length ≤ 2) (n : Nat) : (joinItems (blks as n)).length ≤ 12 * n + 1 := by
  induction n with
  | zero => simp [joinItems, blks]
  | succ n ih =>
    have e : blks as (n + 1) = blkA as :: blkB :: blks as n := by simp [blks, List.replicate_succ]
    rw [e]; simp only [joinItems, List.flatMap_cons, blockItems, List.length_append, List.length_cons, List.length_map, blkA, List.length_nil] at *; omega
theorem text_len {as : List Nat} (h : ∀ a ∈ as, a < 8) (hl : as.length ≤ 2) (n : Nat) : (joinText (blks as n)).length ≤ 60 * n + 20 := by
  have := reg_len h hl n
  unfold joinText; rw [reg_chars]; simp only [List.length_append, List.length_cons, List.length_nil]; omega
noncomputable abbrev stretchT : List (List Nat) := [[], [61], [97, 95], [91, 117], [113, 61], [93, 42], [117], [61, 117]]
noncomputable abbrev charT : List (List Nat) := [[117], [118], [119], [117, 118], [118, 117], [117, 119], [117, 117], [118, 119]]
noncomputable abbrev octT : List Nat := [63, 61, 32, 95, 42, 51, 70, 113]
noncomputable def octet (n k : Nat) : Nat := if n / [64, 1024, 16384].getD k 0 % 16 < 8 then octT.getD (n / [64, 1024, 16384].getD k 0 % 16) 0 else n / 256 ^ k / 262144 % 256
noncomputable def rowOf (n : Nat) : List Nat := (List.range (1 + n / 3 % 3)).map (octet n)
noncomputable def stretchOf (n : Nat) : List Nat := stretchT.getD (n % 8) []
noncomputable def charOf (n : Nat) : List Nat := charT.getD (n / 8 % 8) []
noncomputable def pieceOf (n : Nat) : Piece := (stretchOf n, charOf n, rowOf n)
theorem octT_lt {k : Nat} (hk : k < 8) : octT.getD k 0 < 256 := lt8 (P := fun k => octT.getD k 0 < 256) (by decide) hk
theorem octet_lt (n k : Nat) : octet n k < 256 := by
  unfold octet; split
  · rename_i h; exact octT_lt h
  · omega
theorem row_len (n : Nat) : 1 ≤ (rowOf n).length ∧ (rowOf n).length ≤ 3 := by simp [rowOf]; omega
theorem stretch_ok (n : Nat) : 63 ∉ stretchOf n ∧ (stretchOf n).length ≤ 2 := lt8 (P := fun k => 63 ∉ stretchT.getD k [] ∧ (stretchT.getD k []).length ≤ 2) (by decide) (Nat.mod_lt n (by decide))
theorem char_ok (n : Nat) : (∀ c ∈ charOf n, c = 117 ∨ c = 118 ∨ c = 119) ∧ 1 ≤ (charOf n).length ∧ (charOf n).length ≤ 2 := lt8 (P := fun k => (∀ c ∈ charT.getD k [], c = 117 ∨ c = 118 ∨ c = 119) ∧ 1 ≤ (charT.getD k []).length ∧ (charT.getD k []).length ≤ 2) (by decide) (Nat.mod_lt (n / 8) (by decide))
theorem piece_ok (n : Nat) : PieceOk (pieceOf n) := ⟨(stretch_ok n).1, (char_ok n).1, (char_ok n).2, fun c hc => by simp only [pieceOf, rowOf, List.mem_map] at hc; obtain ⟨k, _, rfl⟩ := hc; exact octet_lt n k⟩
theorem cls_ok {k c : Nat} (hk : k < 8) (hc : c = 117 ∨ c = 118 ∨ c = 119) : okS (pcSg k).2 c = (pcCls k).contains c := by
  refine lt8 (P := fun k => okS (pcSg k).2 c = (pcCls k).contains c) ?_ hk
  rcases hc with rfl | rfl | rfl <;> decide
theorem encC_len (c : Nat) : (encC c).length ≤ 3 := by unfold encC; (repeat' split) <;> simp [hx]
theorem enc_len (row : List Nat) : (enc row).length ≤ 3 * row.length := by
  induction row with
  | nil => simp [enc]
  | cons c r ih =>
    have := encC_len c
    simp only [enc, List.flatMap_cons, List.length_append, List.length_cons] at *; omega
noncomputable def decC (c : Nat) : List Nat := if c = 32 then [32] else if safeC c then [c] else 61 :: hx c
theorem safe_ne {c : Nat} (h : safeC c = true) : c ≠ 95 ∧ c ≠ 61 := by
  constructor <;> (rintro rfl; revert h; decide)
theorem hexD_us (k : Nat) (h : k < 16) : hexD k ≠ 95 := by unfold hexD; split <;> omega
theorem swap_enc {c : Nat} (h : c < 256) : swapC 95 32 (encC c) = decC c := by
  have h1 := hexD_us (c / 16) (by omega)
  have h2 := hexD_us (c % 16) (by omega)
  unfold encC decC
  split
  · rfl
  · split
    · rename_i hs; simp [swapC, (safe_ne hs).1]
    · simp [swapC, hx, h1, h2]
theorem swap_encs {row : List Nat} (h : ∀ c ∈ row, c < 256) : swapC 95 32 (enc row) = row.flatMap decC := by
  induction row with
  | nil => rfl
  | cons c r ih =>
    have := swap_enc (h c (List.mem_cons_self ..))
    have ih := ih fun d hd => h d (List.mem_cons_of_mem _ hd)
    simp only [swapC, enc, List.flatMap_cons, List.map_append] at *
    rw [this, ih]
noncomputable def segsOf : List Nat → List Nat → List SubSeg × List Nat
  | acc, [] => ([], acc)
  | acc, c :: r => if c = 32 ∨ safeC c = true then segsOf (acc ++ [c]) r else ((acc, 61 :: hx c, [c]) :: (segsOf [] r).1, (segsOf [] r).2)
noncomputable def GapHex (a m o : List Nat) : Prop := 61 ∉ a ∧ ∃ c, c < 256 ∧ m = 61 :: hx c ∧ o = [c]
theorem segs_text : ∀ (row acc : List Nat), segText (segsOf acc row).1 ++ (segsOf acc row).2 = acc ++ row.flatMap decC
  | [], acc => by simp [segsOf, segText]
  | c :: r, acc => by
    unfold segsOf
    by_cases h : c = 32 ∨ safeC c = true
    · rw [if_pos h, segs_text r]
      have : decC c = [c] := by unfold decC; rcases h with rfl | h; · rfl
                                by_cases q : c = 32; · subst q; rfl
                                rw [if_neg q, if_pos h]
      simp [this]
    · rw [if_neg h]
      have : decC c = 61 :: hx c := by unfold decC; rw [if_neg fun q => h (.inl q), if_neg fun q => h (.inr q)]
      simp only [segText, List.append_assoc, List.flatMap_cons, this, segs_text r []]
      simp
theorem segs_out : ∀ (row acc : List Nat), segOut (segsOf acc row).1 ++ (segsOf acc row).2 = acc ++ row
  | [], acc => by simp [segsOf, segOut]
  | c :: r, acc => by
    unfold segsOf
    by_cases h : c = 32 ∨ safeC c = true
    · rw [if_pos h, segs_out r]; simp
    · rw [if_neg h]; simp only [segOut, List.append_assoc, segs_out r []]; simp
theorem segs_ok : ∀ (row acc : List Nat), 61 ∉ acc → (∀ c ∈ row, c < 256) → (∀ q ∈ (segsOf acc row).1, q.2.1 ≠ [] ∧ GapHex q.1 q.2.1 q.2.2) ∧ 61 ∉ (segsOf acc row).2
  | [], acc, ha, _ => ⟨by simp [segsOf], ha⟩
  | c :: r, acc, ha, hr => by
    have hr' := fun d hd => hr d (List.mem_cons_of_mem _ hd)
    unfold segsOf
    by_cases h : c = 32 ∨ safeC c = true
    · rw [if_pos h]
      refine segs_ok r _ ?_ hr'
      have : c ≠ 61 := by rcases h with rfl | h; · decide
                          exact (safe_ne h).2
      simp [ha, this.symm]
    · rw [if_neg h]
      have ih := segs_ok r [] (by simp) hr'
      refine ⟨fun q hq => ?_, ih.2⟩
      rcases List.mem_cons.mp hq with rfl | hq
      · exact ⟨by simp, ha, c, hr c (List.mem_cons_self ..), rfl, rfl⟩
      · exact ih.1 q hq
theorem hexD_hex {k : Nat} (h : k < 16) : hexSign (hexD k) = true := by
  have : ∀ k : Fin 16, hexSign (hexD k.1) = true := by decide +kernel
  exact this ⟨k, h⟩
theorem here_not {pre tail : List Nat} (ht : 61 ∉ tail) {whole : List Nat} (hw : whole = pre ++ tail) (q : Nat) (hq : pre.length ≤ q) : hhHere whole.toArray q = false := by
  unfold hhHere
  have : (whole.toArray.getD q 0 == 61) = false := by
    rw [beq_eq_false_iff_ne]
    intro e
    rw [Array.getD_eq_getD_getElem?] at e
    subst hw
    simp only [List.getElem?_toArray, List.getElem?_append_right hq] at e
    cases h : tail[q - pre.length]? with
    | none => rw [h] at e; cases e
    | some c => rw [h] at e; have : c = 61 := e; subst this; exact ht (List.mem_of_getElem? h)
  rw [this]; simp
theorem here_gap {pre a m : List Nat} (ha : 61 ∉ a) {whole : List Nat} (hw : whole = pre ++ (a ++ m)) (q : Nat) (hq : pre.length ≤ q) (hq2 : q < pre.length + a.length) : hhHere whole.toArray q = false := by
  unfold hhHere
  have : (whole.toArray.getD q 0 == 61) = false := by
    rw [beq_eq_false_iff_ne]
    intro e
    rw [Array.getD_eq_getD_getElem?] at e
    subst hw
    simp only [List.getElem?_toArray, List.getElem?_append_right hq, List.getElem?_append_left (show q - pre.length < a.length by omega)] at e
    cases h : a[q - pre.length]? with
    | none => rw [h] at e; cases e
    | some c => rw [h] at e; have : c = 61 := e; subst this; exact ha (List.mem_of_getElem? h)
  rw [this]; simp
theorem here_yes {pre rest : List Nat} {c : Nat} (hc : c < 256) {whole : List Nat} (hw : whole = pre ++ (61 :: hexD (c / 16) :: hexD (c % 16) :: rest)) : hhHere whole.toArray pre.length = true := by
  subst hw
  have g : ∀ k, (pre ++ (61 :: hexD (c / 16) :: hexD (c % 16) :: rest)).toArray.getD (pre.length + k) 0 = (61 :: hexD (c / 16) :: hexD (c % 16) :: rest).toArray.getD k 0 := fun k => by
    rw [Array.getD_eq_getD_getElem?, Array.getD_eq_getD_getElem?]
    simp only [List.getElem?_toArray, List.getElem?_append_right (Nat.le_add_right _ _), Nat.add_sub_cancel_left]
  unfold hhHere
  rw [g 1, g 2, show (pre ++ (61 :: hexD (c / 16) :: hexD (c % 16) :: rest)).toArray.getD pre.length 0 = 61 from g 0]
  show (decide _ && true && (hexSign (hexD (c / 16)) && hexSign (hexD (c % 16)))) = true
  rw [hexD_hex (by omega), hexD_hex (by omega)]
  simp
section
variable {prog : Program} {w : World} {A : Around} {E : Value → Shared → Prop} {env : Env} {s : Shared} {h₀ : Heap} {m : Str → Option Value} {news : List (Addr × Obj)}
  {elt target iter : Expr} {ifs : List Expr} {scope : Scope} {cl : List (Str × Addr)} {pos : Pos} {Q : Flow → Shared → Prop} {y : Str} {py : Pos}
noncomputable def LCAtU (prog : Program) (w : World) (A : Around) (env : Env) (elt target iter : Expr) (ifs : List Expr) (scope : Scope) (cl : List (Str × Addr)) (pos : Pos) (y : Str) (py : Pos) (Q : Flow → Shared → Prop) (E : Value → Shared → Prop) (it : Value) (s₂ : Shared) : Prop :=
  wpAny (model prog w) A (newList []) (fun acc s₃ => wpAny (model prog w) A (newFunctionEnv scope env.globals cl [] env.qual none .none (some env)) (fun cenv s₄ =>
      codeAny (model prog w) A (.compStart (.ListComp elt [⟨target, iter, ifs, 0⟩] scope pos) 0 it acc { cenv with scope := relabel scope env }) (compPost (model prog w) A E (some (assign (.Name y py) env)) (fun _ s' => Q .next s') acc cenv.locals) s₄) E s₃) E s₂
theorem lcu_node {spos : Pos} (hsw : swapsWith (.ListComp elt [⟨target, iter, ifs, 0⟩] scope pos) (some (.Name y py)) spos.line env = pure true)
    (hclos : closureFor scope env = pure cl) (hkind : scope.kind = .function) (hnames : ∀ x ∈ scope.names, x.2 = .local → scope.names.lookup x.1 = some .local)
    (hs : ∀ x, foldedSetIterable iter env x = pure x)
    (h : wpAny (model prog w) A (eval iter env) (fun xv s₁ => wpAny (model prog w) A (pyIter xv) (fun it s₂ => LCAtU prog w A env elt target iter ifs scope cl pos y py Q E it s₂) E s₁) E s) :
    wpAny (model prog w) A (exec (.Assign [.Name y py] (.ListComp elt [⟨target, iter, ifs, 0⟩] scope pos) spos) env) Q E s := by
  rw [exec_Assign_Name_used _ _ _ _ hsw]
  refine wpAny_bind (wpAny_standAt (wpAny_bind ?_))
  show wpAny _ A (do let _ ← comprehension (.ListComp elt [⟨target, iter, ifs, 0⟩] scope pos) scope env _ (newList []) false (eval iter env) (some (assign (.Name y py) env))) _ _ s
  refine wpAny_bind (wpAny_mono (wpAny_comprehension_free (use := some (assign (.Name y py) env)) (Q := fun _ s' => Q .next s') rfl hs hclos hkind hnames h) (fun _ s' hq => wpAny_pure (wpAny_pure hq)) fun _ _ e => e)
theorem lcu_walk {I : Addr} {fp : List Addr} {n : Nat} {P : Nat → Value → Prop} {St : Nat → Heap → Prop} {o : Obj} {tk : Nat} (W : Walks prog w A I fp [I] n P St) (hsz : n ≤ sizeLine)
    (hcell : ∀ y ∈ scope.names, y.2 ≠ .cell) (hkind : scope.kind = .function) (hy : env.kindOf y = some .local) (hp : (env.scope.kind == .class || (env.scope.kind == .module && env.locals != env.globals)) = false) (hI : I = s.heap.objs.size) (hst : St 0 (s.heap.push o)) (hfp' : ∀ b ∈ fp, ∃ x, (s.heap.push o).get? b = some x) (hlive : ∀ i h, St i h → ∃ o nm, h.get? I = some o ∧ o.cls = .type nm ∧ notPair nm = true)
    (F : Fr h₀ env.locals s.heap m) (N : News h₀ env.locals s.heap news)
    (J : Nat → List Value → List (Addr × Obj) → Prop) (h0 : J 0 [] []) (hJl : ∀ i ys led, J i ys led → ys.length ≤ i)
    (turn : ∀ I, LCTurn prog w A env elt target ifs scope cl I n P s.heap s J)
    (done : ∀ D ys led h' tk k, J n ys led → Fr h₀ env.locals h' (fun z => if z = y then some (.ref D) else m z) → News h₀ env.locals h' ((D, PySem.W.listOf ys.toArray k) :: (led ++ news)) → (∀ p ∈ led, p.1 ≠ D) → (∀ p ∈ news, p.1 < D) → Q .next { s with heap := h', toks := tk }) :
    LCAtU prog w A env elt target iter ifs scope cl pos y py Q E (.ref I) { s with heap := s.heap.push o, toks := tk } := by
  have hI0 : s.heap.get? I = none := by
    cases e : s.heap.get? I with
    | none => rfl
    | some x => exact absurd (Heap.lt_size e) (by rw [hI]; exact Nat.lt_irrefl _)
  refine lc_block (s₂ := { s with heap := s.heap.push o, toks := tk }) (hB := s.heap) (RR := fun acc C => compPost (model prog w) A E (some (assign (.Name y py) env)) (fun _ s' => Q .next s') acc C) W hsz hcell hkind hst hfp' hlive hI0 (fun b x e => Heap.get?_push_of_some _ e) (fun b x hb e => ?_) (by show s.heap.objs.size ≤ (s.heap.push o).objs.size; rw [Heap.size_push]; exact Nat.le_succ _) J h0 hJl (turn I) ?_
  · have e' : (s.heap.push o).get? b = some x := e
    rwa [Heap.get?_push_ne s.heap b o (by rw [← hI]; exact hb)] at e'
  · intro D C h' tk' m' ys led k hJ hDs hD hC hDC hn hDo hled hk
    have keep : ∀ b x, s.heap.get? b = some x → h'.get? b = some x := fun b x e => by
      have hb : b ≠ I := fun q => by rw [q, hI0] at e; cases e
      exact hk b x hb (Heap.get?_push_of_some _ e)
    have hCs : s.heap.get? C = none := by
      cases e : s.heap.get? C with
      | none => rfl
      | some x =>
        have e2 : (s.heap.push o).get? C = some x := Heap.get?_push_of_some _ e
        have hC' : (s.heap.push o).get? C = none := hC
        rw [hC'] at e2; cases e2
    have hDlt : s.heap.objs.size < D := by
      have : (s.heap.push o).objs.size ≤ D := hDs
      rw [Heap.size_push] at this; exact this
    have nD : s.heap.get? D = none := by
      cases e : s.heap.get? D with
      | none => rfl
      | some x => exact absurd (Heap.lt_size e) (Nat.not_lt.mpr (Nat.le_of_lt hDlt))
    have up0 : ∀ b, s.heap.get? b = none → h₀.get? b = none := fun b e => by
      cases q : h₀.get? b with
      | none => rfl
      | some x => rw [F.keep _ _ q] at e; cases e
    have hL : ∀ b, s.heap.get? b = none → b ≠ env.locals := fun b e q => by
      obtain ⟨oL, _, _, ho, _⟩ := F.ns
      rw [q, ho] at e; cases e
    have F1 : Fr h₀ env.locals h' m := ⟨F.ns.keeps keep, fun b x e => keep b x (F.keep b x e), F.above⟩
    have N1 : News h₀ env.locals h' ((D, PySem.W.listOf ys.toArray k) :: (led ++ news)) := fun p hp => by
      rcases List.mem_cons.mp hp with rfl | hp
      · exact ⟨hDo, hL _ nD, up0 _ nD⟩
      · rcases List.mem_append.mp hp with hp | hp
        · exact ⟨(hled p hp).1, hL _ (hled p hp).2.2.2, up0 _ (hled p hp).2.2.2⟩
        · exact ⟨keep _ _ (N p hp).1, (N p hp).2⟩
    have hCn : ∀ p ∈ (D, PySem.W.listOf ys.toArray k) :: (led ++ news), p.1 ≠ C := fun p hp => by
      rcases List.mem_cons.mp hp with rfl | hp
      · exact hDC
      · rcases List.mem_append.mp hp with hp | hp
        · exact (hled p hp).2.1
        · intro q; have := (N p hp).1; rw [q, hCs] at this; cases this
    show wpAny _ A (assign (.Name y py) env (.ref D)) (fun _ s'' => ∃ m, s''.heap.Ns C m ∧ ∀ h3, Heap.SameBut C s''.heap h3 → Q .next { s'' with heap := h3 }) E _
    refine wpAny_assign_Name (wpAny_storeName_local hy F1.ns (fun h₂ hn₂ hs₂ => ⟨m', hn.sameBut hs₂ (hL C hCs), fun h₃ hs₃ => ?_⟩) hp)
    have F2 := F1.set hn₂ hs₂
    have N2 := N1.set hs₂
    refine done D ys led h₃ _ k hJ ⟨F2.ns.sameBut hs₃ (Ne.symm (hL C hCs)), fun b x e => hs₃.extBut b x (fun q => ?_) (F2.keep b x e), F2.above⟩ (fun p hp => ⟨hs₃.extBut _ _ (hCn p hp) (N2 p hp).1, (N2 p hp).2⟩) (fun p hp => (hled p hp).2.2.1) (fun p hp => Nat.lt_trans (Heap.lt_size (N p hp).1) hDlt)
    rw [q, up0 C hCs] at e; cases e
theorem lcu_list {r : Addr} {vs : List Value} (hh : A.handled = none) (hl : s.heap.IsList r vs.toArray) (hsz : vs.length ≤ sizeLine) (hcell : ∀ y ∈ scope.names, y.2 ≠ .cell) (hkind : scope.kind = .function) (hy : env.kindOf y = some .local) (hp : (env.scope.kind == .class || (env.scope.kind == .module && env.locals != env.globals)) = false)
    (F : Fr h₀ env.locals s.heap m) (N : News h₀ env.locals s.heap news)
    (J : Nat → List Value → List (Addr × Obj) → Prop) (h0 : J 0 [] []) (hJl : ∀ i ys led, J i ys led → ys.length ≤ i)
    (turn : ∀ I, LCTurn prog w A env elt target ifs scope cl I vs.length (fun i v => vs[i]? = some v) s.heap s J)
    (done : ∀ D ys led h' tk k, J vs.length ys led → Fr h₀ env.locals h' (fun z => if z = y then some (.ref D) else m z) → News h₀ env.locals h' ((D, PySem.W.listOf ys.toArray k) :: (led ++ news)) → (∀ p ∈ led, p.1 ≠ D) → (∀ p ∈ news, p.1 < D) → Q .next { s with heap := h', toks := tk }) :
    wpAny (model prog w) A (pyIter (.ref r)) (fun it s₂ => LCAtU prog w A env elt target iter ifs scope cl pos y py Q E it s₂) E s := by
  refine wpAny_pyIter_list hl ?_
  obtain ⟨ol, hol, _⟩ := id hl
  have hne : r ≠ s.heap.objs.size := Nat.ne_of_lt (Heap.lt_size hol)
  have W := Walks.list (prog := prog) (w := w) hh s.heap.objs.size r hne vs.toArray
  have e : vs.toArray.size = vs.length := by simp
  rw [e] at W
  refine lcu_walk W hsz hcell hkind hy hp rfl ⟨⟨_, Heap.get?_push_size _ rfl, rfl, rfl⟩, hl.push _⟩ (fun b hb => ?_) (fun i h st => let ⟨o, e, c, _⟩ := st.1; ⟨o, _, e, c, by decide⟩) F N J h0 hJl (fun I => ?_) done
  · rcases List.mem_cons.mp hb with rfl | hb
    · exact ⟨_, Heap.get?_push_size _ rfl⟩
    · rw [List.mem_singleton.mp hb]; exact ⟨_, Heap.get?_push_of_some _ hol⟩
  · have t := turn I
    have e2 : (fun (i : Nat) (v : Value) => vs.toArray[i]? = some v) = fun i v => vs[i]? = some v := by funext i v; simp
    rw [e2]; exact t
end
section
variable {prog : Program} {w : World} {A : Around} {E : Value → Shared → Prop} {s : Shared} {t u : Tok} {Q : Value → Shared → Prop}
theorem pow_lit {a b r : Int} (h0 : b ≥ 0) (h1 : ¬(b == 0) = true) (h2 : ¬(a == 0 || a == 1) = true) (h3 : ¬(a == -1) = true) (h4 : ¬Builtin.Int.intTooBig (((Builtin.Int.intBits a : Nat) : Int) * b) = true) (h5 : a ^ b.toNat = r) (h : Q (.int r s.toks) { s with toks := s.toks + 1 }) :
    wpAny (model prog w) A (binaryOp .Pow (.int a t) (.int b u)) Q E s := AutoIntOps.pow_4 h0 h1 h2 h3 h4 (by rw [h5]; exact h)
theorem pow_256 {k : Nat} (hk : k < 3) (h : Q (.int ((256 ^ k : Nat) : Int) s.toks) { s with toks := s.toks + 1 }) : wpAny (model prog w) A (binaryOp .Pow (.int 256 t) (.int (k : Int) u)) Q E s := by
  match k, hk with
  | 0, _ => exact AutoIntOps.pow_0 (by decide) rfl h
  | 1, _ => exact pow_lit (by decide) (by decide) (by decide) (by decide) (by decide) rfl h
  | 2, _ => exact pow_lit (by decide) (by decide) (by decide) (by decide) (by decide) rfl h
theorem sum_P {l : Addr} {vs : List Value} {ns : List Int} (hh : A.handled = none) (hl : s.heap.IsList l vs.toArray) (hi : IntsAre vs ns) (h : ∀ h' tk t', Pres s.heap h' → Q (.int ns.sum t') { s with heap := h', toks := tk }) :
    wpAny (model prog w) A (call (.builtin "sum") [.ref l]) Q E s := by
  obtain ⟨xs, hx⟩ := hi.allInts.items
  have hn : numsOf vs.toArray.toList = ns := by rw [show vs.toArray.toList = vs from rfl, hi.numsOf]
  rw [hx] at hl hn
  rw [nums_intItems] at hn
  refine sum_intListG hh hl fun h' tk t' hk => ?_
  have := h h' tk t' hk
  rw [preSum_eq, List.take_of_length_le (by simp), hn]
  exact this
end
theorem ints_take : ∀ {vs : List Value} {xs : List Int}, IntsAre vs xs → ∀ n, IntsAre (vs.take n) (xs.take n)
  | _, _, _, 0 => .nil
  | _, _, .nil, n + 1 => by simpa using IntsAre.nil
  | _, _, .cons _ _ h, n + 1 => .cons _ _ (ints_take h n)
theorem ints_get : ∀ {vs : List Value} {xs : List Int}, IntsAre vs xs → ∀ {i : Nat} {v : Value}, vs[i]? = some v → ∃ x t, xs[i]? = some x ∧ v = .int x t
  | _, _, .nil, i, v, h => by simp at h
  | _, _, .cons x t _, 0, v, h => ⟨x, t, rfl, by simpa using h.symm⟩
  | _, _, .cons _ _ r, i + 1, v, h => by simpa using ints_get r (i := i) (v := v) (by simpa using h)
noncomputable def numbersOf (x3 : List Int) : List Nat := (x3.map fun x => (x.fmod 10000000000000).toNat) ++ if x3.length < 2 then [103489, 211] else []
theorem fmod_nat (x3 : List Int) : (x3.map fun x => (x.fmod 10000000000000).toNat).map Int.ofNat = x3.map fun x => x.fmod 10000000000000 := by
  rw [List.map_map]; exact List.map_congr_left fun x _ => Int.toNat_of_nonneg (Int.fmod_nonneg_of_pos x (by decide))
theorem numbers_long {x3 : List Int} (h : 2 ≤ x3.length) : (numbersOf x3).map Int.ofNat = x3.map fun x => x.fmod 10000000000000 := by
  unfold numbersOf; rw [if_neg (by omega), List.append_nil, fmod_nat]
theorem numbers_short {x3 : List Int} (h : x3.length < 2) : (numbersOf x3).map Int.ofNat = (x3.map fun x => x.fmod 10000000000000) ++ [103489, 211] := by
  unfold numbersOf; rw [if_pos h, List.map_append, fmod_nat]; rfl
theorem numbers_len {x3 : List Int} (h : x3.length ≤ 3) : (numbersOf x3).length ≤ 3 := by
  unfold numbersOf; split <;> simp <;> omega
theorem ints_append : ∀ {vs : List Value} {xs : List Int}, IntsAre vs xs → ∀ {us : List Value} {ys : List Int}, IntsAre us ys → IntsAre (vs ++ us) (xs ++ ys)
  | _, _, .nil, _, _, h => h
  | _, _, .cons _ _ r, _, _, h => .cons _ _ (ints_append r h)
theorem div_mod (n a b : Nat) : ((Int.ofNat n).fdiv (a : Int)).fmod (b : Int) = ((n / a % b : Nat) : Int) := by
  rw [show Int.ofNat n = (n : Int) from rfl, ← Int.ofNat_fdiv, ← Int.ofNat_fmod]
theorem mod_nat (n b : Nat) : (Int.ofNat n).fmod (b : Int) = ((n % b : Nat) : Int) := by
  rw [show Int.ofNat n = (n : Int) from rfl, ← Int.ofNat_fmod]
theorem div_div_mod (n a b c : Nat) : (((Int.ofNat n).fdiv (a : Int)).fdiv (b : Int)).fmod (c : Int) = ((n / a / b % c : Nat) : Int) := by
  rw [show Int.ofNat n = (n : Int) from rfl, ← Int.ofNat_fdiv, ← Int.ofNat_fdiv, ← Int.ofNat_fmod]
section
variable {prog : Program} {w : World} {A : Around} {E : Value → Shared → Prop} {s : Shared} {g : Heap} {L D : Addr} {m : Str → Option Value} {news news' : List (Addr × Obj)} {pre : List Value} {x : Value} {n : Nat} {Q : Unit → Shared → Prop}
theorem set_neg1 {t : Tok} {v : Value} (ho : s.heap.get? D = some (PySem.W.listOf (pre ++ [x]).toArray n)) (hl : pre.length < 2 ^ 60)
    (h : Q () { s with heap := s.heap.update D (Obj.mapSeq (·.setIfInBounds pre.length v)) }) : wpAny (model prog w) A (setItem (.ref D) (.int (-1) t) v) Q E s := by
  have hT : s.TypeIs (.ref D) "list" := ⟨_, ho, rfl⟩
  unfold setItem
  refine wpAny_holding (wpAny_bind (wpAny_sequenceKey hT (by decide) (wpAny_bind (wpAny_callSpecial?_slot (name := Str.ofString "__setitem__") hT PySem.F.slot_list_setitem (wpAny_call_entry PySem.F.slot_list_setitem hT PySem.F.entry_list_setitem ?_ (PySem.F.args_list_setitem_3 _ _ _))))))
  unfold Builtin.«list.__setitem__»
  rw [blank_ok]
  simp only [pure_bind]
  refine wpAny_bind (wpAny_listSubscript_int (fitsIndex_neg (by decide) (by decide)) ?_)
  show wpAny _ _ ((Builtin.List.listItems (.ref D) >>= fun xs => pure ((seqIndex? (-1) xs.size).bind fun i => xs[i]?.map (i, ·))) >>= _) _ _ s
  refine wpAny_bind (wpAny_bind ?_)
  show wpAny _ _ (seqItems? (.ref D) >>= _) _ _ s
  refine wpAny_bind (wpAny_seqItems ho rfl (wpAny_pure (wpAny_pure ?_)))
  have e : ((-1 : Int) + ((pre ++ [x]).toArray.size : Nat)).toNat = pre.length := by simp; omega
  rw [seqIndex_neg (by decide) (by simp; omega), e]
  have hx : (pre ++ [x]).toArray[pre.length]? = some x := by simp
  simp only [Option.bind_some, hx, Option.map_some]
  show wpAny _ _ (setSeqItemAt D pre.length v >>= _) _ _ s
  refine wpAny_bind (wpAny_setSeqItemAt ho rfl ?_)
  first
    | exact wpAny_pure ⟨.none, rfl, wpAny_pure h⟩
    | exact wpAny_bind (wpAny_pure (wpAny_pure ⟨.none, rfl, wpAny_pure h⟩))
theorem set_last {t : Tok} {v : Value} (F : Fr g L s.heap m) (N : News g L s.heap news) (U : Upd D (PySem.W.listOf (pre ++ [x]).toArray n) (PySem.W.listOf (pre ++ [v]).toArray n) news news') (hl : pre.length < 2 ^ 60)
    (h : ∀ h', Fr g L h' m → News g L h' news' → Q () { s with heap := h' }) : wpAny (model prog w) A (setItem (.ref D) (.int (-1) t) v) Q E s := by
  obtain ⟨p1, p2, rfl, rfl, q1, q2⟩ := U.split
  have z := N (D, PySem.W.listOf (pre ++ [x]).toArray n) (List.mem_append.mpr (.inr (.head _)))
  have hs : Heap.SameBut D s.heap (s.heap.update D (Obj.mapSeq (·.setIfInBounds pre.length v))) := Heap.SameBut.update ..
  refine set_neg1 z.1 hl (h _ (F.change hs z.2.1 z.2.2) (news_set N q1 q2 hs ((Heap.get?_update_self _ z.1 rfl).trans ?_)))
  simp [Obj.mapSeq, PySem.W.listOf]
theorem get_last {Q : Value → Shared → Prop} {a : Addr} {t : Tok} (hl : s.heap.IsList a (pre ++ [x]).toArray) (hlen : pre.length < 2 ^ 60) (h : Q x s) : wpAny (model prog w) A (getItem (.ref a) (.int (-1) t)) Q E s := by
  refine wpAny_getItem_list_neg (x := x) hl (by omega) (by simp; omega) (by omega) ?_ h
  have e : ((-1 : Int) + ((pre ++ [x]).toArray.size : Nat)).toNat = pre.length := by simp; omega
  rw [e]; simp
theorem iadd_S {a b : List Nat} {t u : Tok} {Q : Value → Shared → Prop} (hz : a.length + b.length ≤ 100000) (h : ∀ t' tk', Q (.str (S (a ++ b)) t') { s with toks := tk' }) : wpAny (model prog w) A (inplaceOp .Add (.str (S a) t) (.str (S b) u)) Q E s := by
  refine PyProof.Rows.iadd_str (fun t' tk' => ?_) (by rw [S_len, S_len, sizeLine_eq]; omega)
  rw [S_append]; exact h t' tk'
end
theorem strs_snoc : ∀ {vs : List Value} {ini : List (List Nat)} {acc : List Nat}, StrsAre vs ((ini ++ [acc]).map S) → ∃ pre t, vs = pre ++ [.str (S acc) t] ∧ StrsAre pre (ini.map S)
  | [], [], _, h => nomatch h
  | [], _ :: _, _, h => nomatch h
  | [_], [], _, .cons _ t .nil => ⟨[], t, rfl, .nil⟩
  | _ :: _ :: _, [], _, .cons _ _ h => nomatch h
  | _ :: r, y :: ini, acc, .cons _ t h => by
    obtain ⟨pre, u, rfl, hp⟩ := strs_snoc (ini := ini) (acc := acc) h
    exact ⟨.str (S y) t :: pre, u, rfl, .cons _ _ hp⟩
theorem strs_add : ∀ {vs us : List Value} {xs ys : List Str}, StrsAre vs xs → StrsAre us ys → StrsAre (vs ++ us) (xs ++ ys)
  | _, _, _, _, .nil, h => h
  | _, _, _, _, .cons _ _ r, h => .cons _ _ (strs_add r h)
section
variable {prog : Program} {w : World} {A : Around} {E : Value → Shared → Prop} {s : Shared} {Q : Value → Shared → Prop}
theorem eq_strs_same {a b : Addr} {vs us : List Value} {ts : List Str} (hl : s.heap.IsList a vs.toArray) (hi : StrsAre vs ts) (hl' : s.heap.IsList b us.toArray) (hi' : StrsAre us ts) (hu : A.units < cLine) (h : Q (.bool true) s) :
    wpAny (model prog w) A (compareOp .Eq (.ref a) (.ref b)) Q E s := by
  have h1 := hi.length
  have h2 := hi'.length
  refine PySem.SeqAt.eq_listAt (e := fun _ => true) hl hl' (by simp; omega) hu (fun j j1 j2 => ?_) (by rw [show (List.range vs.toArray.size).all (fun _ => true) = true by simp]; exact h)
  simp only [List.size_toArray] at j1 j2
  obtain ⟨t, e1⟩ := hi.get j ts[j] (List.getElem?_eq_getElem (by omega))
  obtain ⟨u, e2⟩ := hi'.get j ts[j] (List.getElem?_eq_getElem (by omega))
  rw [List.getElem?_eq_getElem j1] at e1
  rw [List.getElem?_eq_getElem j2] at e2
  simp only [List.getElem_toArray]
  rw [Option.some.inj e1, Option.some.inj e2]
  have := PySem.SeqAt.EqAt.str_str (A := A.in1) (s := s) ts[j] t ts[j] u
  rwa [beq_self_eq_true] at this
theorem fold_app : ∀ (n : Nat) (x acc : Array Nat), (List.replicate n x).foldl (· ++ ·) acc = acc ++ ((List.replicate n x.toList).flatten).toArray
  | 0, x, acc => by simp
  | n + 1, x, acc => by
    rw [List.replicate_succ, List.foldl_cons, fold_app n x (acc ++ x), List.replicate_succ, List.flatten_cons]
    apply Array.toList_inj.mp
    simp
theorem mul_S (l : List Nat) (n : Nat) : Txt.mul (S l) (n : Int) = S (List.replicate n l).flatten := by
  unfold Txt.mul
  match n with
  | 0 => rfl
  | 1 => rw [if_neg (by decide), if_pos (by simp)]; simp
  | n + 2 =>
    rw [if_neg (by omega)]
    by_cases hl : l = []
    · subst hl
      rw [if_pos (by simp [S_len])]
      have : (List.replicate (n + 2) ([] : List Nat)).flatten = [] := by simp
      rw [this]
    · rw [if_neg (by simp [S_len, hl]; omega)]
      have e : ((n + 2 : Nat) : Int).toNat = n + 2 := Int.toNat_natCast _
      rw [e, fold_app]
      simp
theorem mul_P {l : List Nat} {n : Nat} {t u : Tok} (hl : l.length ≤ 1000) (hn : n ≤ 4) (h : ∀ t' k, Q (.str (S (List.replicate n l).flatten) t') { s with toks := k }) : wpAny (model prog w) A (binaryOp .Mult (.str (S l) t) (.int (n : Int) u)) Q E s := by
  refine SB.mul ⟨?_, fun _ _ => ?_, fun _ _ => ?_⟩ fun t' k => by rw [mul_S]; exact h t' k
  · rw [Bool.or_eq_false_iff, decide_eq_false_iff_not, decide_eq_false_iff_not]; omega
  · rw [S_len]
    rcases (by omega : n = 0 ∨ n = 1 ∨ n = 2 ∨ n = 3 ∨ n = 4) with rfl | rfl | rfl | rfl | rfl <;> omega
  · unfold Builtin.Str.tooLong
    rw [decide_eq_false_iff_not, S_len, Int.toNat_natCast, sizeLine_eq]
    have : l.length * n ≤ 1000 * 4 := Nat.mul_le_mul hl hn
    omega
end
theorem unit_text (as : List Nat) : pchars (unitT as) = [42, 61, 91, 63, 93] ++ (as.flatMap fun a => (pcTok a).chars) ++ [91, 63, 93, 113, 91, 63, 93, 42, 91, 63, 93, 61] := by
  have e : (as.map pcTok).flatMap PTok.chars = as.flatMap fun a => (pcTok a).chars := by rw [List.flatMap_map]
  simp only [unitT, pchars, List.flatMap_cons, List.flatMap_append, List.flatMap_nil, e, PTok.chars]
  simp
theorem pat_text (as : List Nat) : ∀ n, pchars (patT as n) = (List.replicate n (pchars (unitT as))).flatten ++ [42]
  | 0 => rfl
  | n + 1 => by
    have e : patT as (n + 1) = unitT as ++ patT as n := by simp [patT, List.replicate_succ]
    rw [e, pchars, List.flatMap_append]
    show pchars (unitT as) ++ pchars (patT as n) = _
    rw [pat_text as n, List.replicate_succ, List.flatten_cons, List.append_assoc]
theorem join_reg (as : List Nat) (n : Nat) : joinText (blks as n) = [40, 63, 115, 58] ++ (rchars (regT as n) ++ [41, 92, 90]) := by unfold joinText; rw [reg_chars]
noncomputable def GoodWB (c : ClaimW) (cl : Str → Option Addr) (args : List WData) (s₁ : Shared) (res : Result) (s' : Shared) : Prop :=
  (∃ v d as, res = .ok (.ret v) ∧ (∀ cls, c.raises args cls = false) ∧ ReadsW c.records cl s'.heap v d as ∧ c.post args d args = true ∧
      (c.unshared = true → as.Nodup ∧ ∀ a ∈ as, s₁.heap.get? a = none)) ∧
  (∀ b o, s₁.heap.get? b = some o → s'.heap.get? b = some o) ∧ s'.os = s₁.os ∧ AllBare s'.gens
theorem kn_postG {M : Model} {A : Around} {cd : Code} {s s₁ : Shared} {cw : ClaimW} {cl : Str → Option Addr} {mean : ExcName → Option Value} {args : List WData} {tabs : List (Addr × Addr)} (hT : TabsAt tabs s₁.heap)
    (h : codeAny M A cd (fun r s' => GoodWB cw cl args { s₁ with heap := ghostOf s₁.heap tabs } r s' ∧ GrownAll tabs s'.heap) s) : codeAny M A cd (GoodWG cw cl mean args s₁) s :=
  codeAny_mono h fun r s' ⟨⟨hc, hk, hos, hg⟩, hgr⟩ => by
    have keep : ∀ b o, b ∉ tabs.map (·.2) → s₁.heap.get? b = some o → s'.heap.get? b = some o := fun b o hb e => hk b o (ghost_ne e hb)
    have grown : ∀ b o, b ∈ tabs.map (·.2) → s₁.heap.get? b = some o → isCodeTable s₁.heap b ∧ o = tabObj #[] ∧ ∃ ps, s'.heap.get? b = some (tabObj ps) := fun b o hb e => by
      obtain ⟨q, hq, rfl⟩ := List.mem_map.mp hb
      have e2 := (hT q hq).2
      rw [e] at e2
      exact ⟨((hT q hq).1.tab (hT q hq).2).isCodeTable, Option.some.inj e2, hgr.get q hq⟩
    refine ⟨?_, ⟨fun b o e => ?_, fun b o e => ?_⟩, hos, hg⟩
    · obtain ⟨v, d, as, r1, r2, r3, r4, r5⟩ := hc
      refine .inl ⟨v, d, as, r1, r2, r3, r4, fun q => ⟨(r5 q).1, fun a ha => ?_⟩⟩
      cases q1 : s₁.heap.get? a with
      | none => rfl
      | some o =>
        by_cases hb : a ∈ tabs.map (·.2)
        · obtain ⟨_, _, ps, hP⟩ := grown a o hb q1
          exact absurd ha (readsW_apart hP rfl r3)
        · have e3 := (r5 q).2 a ha
          rw [show (ghostOf s₁.heap tabs).get? a = some o from ghost_ne q1 hb] at e3
          cases e3
    · by_cases hb : b ∈ tabs.map (·.2)
      · obtain ⟨ht, rfl, ps, hP⟩ := grown b o hb e
        exact .inr (.inl ⟨ht, rfl, #[], ps, rfl, by rw [Array.empty_append]; exact hP⟩)
      · exact .inl (keep b o hb e)
    · by_cases hb : b ∈ tabs.map (·.2)
      · obtain ⟨_, _, ps, hP⟩ := grown b o hb e
        exact ⟨_, hP⟩
      · exact ⟨o, keep b o hb e⟩
theorem builtins_of {p : Program} {loose : List Str} {mean : ExcName → Option Value} {mg mb : Str → Option Value} {h : Heap} (T : Top p loose mean mg mb h) {P : Addr} (hP : h.get? P = none) : h.BuiltinsAt mg P := by
  obtain ⟨bm, ob, b1, b2, b3, b4, b5, b6⟩ := T.bmain
  have hbP : bm ≠ P := fun q => by rw [q, hP] at b3; cases b3
  have hbG : bm ≠ mainGlobals := fun q => by
    obtain ⟨o, es, ep, e, hd, _⟩ := T.g
    rw [q, e] at b3; cases b3; rw [hd] at b6; cases b6
  exact ⟨bm, ob, b1, b2, hbG, hbP, b3, b4, b5, b6⟩
noncomputable def pr : Program := PySem.Challenge.pw_ij0038_01
noncomputable def bd : List Stmt := behindTheImports pr
noncomputable def en : Env := { scope := pr.main.scope, locals := mainNs, globals := mainNs, cells := [], code := .ref 30, frame := some 31 }
noncomputable def cE : Code := .body bd en
noncomputable def cell (i : Nat) : Stmt := pr.main.body.getD i (.Pass ⟨0, 0, 0, 0⟩)
noncomputable def fnD (i : Nat) (g : Addr) (d pm c : Value) : FuncData := match cell i with
  | .FunctionDef n a b _ _ _ sc _ _ _ => ⟨n, n, a, .stmts b, sc, g, [], d, .none, .none, pm, none, c, .none, 0⟩
  | _ => default
noncomputable def sts (a b : Nat) : List Stmt := (bd.drop a).take b
noncomputable abbrev q0 : PySem.Pos := ⟨0, 0, 0, 0⟩
noncomputable def pcs (a b : Nat) (q : PySem.Pos) : Thread := ⟨(Fast.tw12563942051412417395 (sts a b) en).wrap doneF deadEnd id id, cE, q, [topFrame q0]⟩
noncomputable def run (w : World) (n : Nat) (s : SharedT) (t : Thread) : Option (Flow × SharedT × Code × PySem.Pos) := Fast.tw10110043849684766642 Fast.tw14364793385576792824 pr w 28 (some (.ref 6)) 1 n s t
noncomputable def gop (w : World) (n : Nat) (s : SharedT) (t : Thread) : Option (SharedT × Thread) := Fast.tw10295753902157049106 Fast.tw14364793385576792824 pr w 28 (some (.ref 6)) 1 n s t
noncomputable def kk : Option (SharedT × Thread) → Result → Sem Fin
  | some (_, ⟨_, _, _, .ret k _ _ _ _ _ _ :: _⟩) => k
  | _ => fun _ => .unsupported ""
noncomputable def asgV : List Stmt → Expr
  | [.Assign _ v _] => v
  | _ => .Constant .none 0 q0
noncomputable def forC (it : Value) (e : Env) : List Stmt → Code
  | [.For t _ b o _] => .forLoop t it b o e
  | _ => cE
noncomputable def scC (x : List (Str × NameKind)) : Scope := { kind := .function, names := x, isGenerator := false, isCoroutine := false, more := [] }
noncomputable def lp (c : Code) (q : PySem.Pos) (k : Result → Sem Fin) (g : Bool) (l : List Value) (q1 : PySem.Pos) : Thread := ⟨Fast.tw11892475500146522536 Fast.tw14364793385576792824 c, c, q, [.ret k none g l cE q1 [], topFrame q0]⟩
@[reducible] noncomputable def de (P : Params) (k : Str) (t : Tok) (v : Value) : DictEntry := ⟨PyData.keyHash P k, .str k t, v⟩
noncomputable def f77 : List Value := [(.str "=00" 561), (.str "=01" 565), (.str "=02" 569), (.str "=03" 573), (.str "=04" 577), (.str "=05" 581), (.str "=06" 585), (.str "=07" 589), (.str "=08" 593), (.str "=09" 597), (.str "=0A" 601), (.str "=0B" 605), (.str "=0C" 609), (.str "=0D" 613), (.str "=0E" 617), (.str "=0F" 621), (.str "=10" 625), (.str "=11" 629), (.str "=12" 633), (.str "=13" 637), (.str "=14" 641), (.str "=15" 645), (.str "=16" 649), (.str "=17" 653), (.str "=18" 657), (.str "=19" 661), (.str "=1A" 665), (.str "=1B" 669), (.str "=1C" 673), (.str "=1D" 677), (.str "=1E" 681), (.str "=1F" 685), (.str "=20" 689), (.str "=21" 693), (.str "=22" 697), (.str "=23" 701), (.str "=24" 705), (.str "=25" 709), (.str "=26" 713), (.str "=27" 717), (.str "=28" 721), (.str "=29" 725), (.str "=2A" 729), (.str "=2B" 733), (.str "=2C" 737), (.str "=2D" 741), (.str "=2E" 745), (.str "=2F" 749), (.str "=30" 753), (.str "=31" 757), (.str "=32" 761), (.str "=33" 765), (.str "=34" 769), (.str "=35" 773), (.str "=36" 777), (.str "=37" 781), (.str "=38" 785), (.str "=39" 789), (.str "=3A" 793), (.str "=3B" 797), (.str "=3C" 801), (.str "=3D" 805), (.str "=3E" 809), (.str "=3F" 813), (.str "=40" 817), (.str "=41" 821), (.str "=42" 825), (.str "=43" 829), (.str "=44" 833), (.str "=45" 837), (.str "=46" 841), (.str "=47" 845), (.str "=48" 849), (.str "=49" 853), (.str "=4A" 857), (.str "=4B" 861), (.str "=4C" 865), (.str "=4D" 869), (.str "=4E" 873), (.str "=4F" 877), (.str "=50" 881), (.str "=51" 885), (.str "=52" 889), (.str "=53" 893), (.str "=54" 897), (.str "=55" 901), (.str "=56" 905), (.str "=57" 909), (.str "=58" 913), (.str "=59" 917), (.str "=5A" 921), (.str "=5B" 925), (.str "=5C" 929), (.str "=5D" 933), (.str "=5E" 937), (.str "=5F" 941), (.str "=60" 945), (.str "=61" 949), (.str "=62" 953), (.str "=63" 957), (.str "=64" 961), (.str "=65" 965), (.str "=66" 969), (.str "=67" 973), (.str "=68" 977), (.str "=69" 981), (.str "=6A" 985), (.str "=6B" 989), (.str "=6C" 993), (.str "=6D" 997), (.str "=6E" 1001), (.str "=6F" 1005), (.str "=70" 1009), (.str "=71" 1013), (.str "=72" 1017), (.str "=73" 1021), (.str "=74" 1025), (.str "=75" 1029), (.str "=76" 1033), (.str "=77" 1037), (.str "=78" 1041), (.str "=79" 1045), (.str "=7A" 1049), (.str "=7B" 1053), (.str "=7C" 1057), (.str "=7D" 1061), (.str "=7E" 1065), (.str "=7F" 1069), (.str "=80" 1073), (.str "=81" 1077), (.str "=82" 1081), (.str "=83" 1085), (.str "=84" 1089), (.str "=85" 1093), (.str "=86" 1097), (.str "=87" 1101), (.str "=88" 1105), (.str "=89" 1109), (.str "=8A" 1113), (.str "=8B" 1117), (.str "=8C" 1121), (.str "=8D" 1125), (.str "=8E" 1129), (.str "=8F" 1133), (.str "=90" 1137), (.str "=91" 1141), (.str "=92" 1145), (.str "=93" 1149), (.str "=94" 1153), (.str "=95" 1157), (.str "=96" 1161), (.str "=97" 1165), (.str "=98" 1169), (.str "=99" 1173), (.str "=9A" 1177), (.str "=9B" 1181), (.str "=9C" 1185), (.str "=9D" 1189), (.str "=9E" 1193), (.str "=9F" 1197), (.str "=A0" 1201), (.str "=A1" 1205), (.str "=A2" 1209), (.str "=A3" 1213), (.str "=A4" 1217), (.str "=A5" 1221), (.str "=A6" 1225), (.str "=A7" 1229), (.str "=A8" 1233), (.str "=A9" 1237), (.str "=AA" 1241), (.str "=AB" 1245), (.str "=AC" 1249), (.str "=AD" 1253), (.str "=AE" 1257), (.str "=AF" 1261), (.str "=B0" 1265), (.str "=B1" 1269), (.str "=B2" 1273), (.str "=B3" 1277), (.str "=B4" 1281), (.str "=B5" 1285), (.str "=B6" 1289), (.str "=B7" 1293), (.str "=B8" 1297), (.str "=B9" 1301), (.str "=BA" 1305), (.str "=BB" 1309), (.str "=BC" 1313), (.str "=BD" 1317), (.str "=BE" 1321), (.str "=BF" 1325), (.str "=C0" 1329), (.str "=C1" 1333), (.str "=C2" 1337), (.str "=C3" 1341), (.str "=C4" 1345), (.str "=C5" 1349), (.str "=C6" 1353), (.str "=C7" 1357), (.str "=C8" 1361), (.str "=C9" 1365), (.str "=CA" 1369), (.str "=CB" 1373), (.str "=CC" 1377), (.str "=CD" 1381), (.str "=CE" 1385), (.str "=CF" 1389), (.str "=D0" 1393), (.str "=D1" 1397), (.str "=D2" 1401), (.str "=D3" 1405), (.str "=D4" 1409), (.str "=D5" 1413), (.str "=D6" 1417), (.str "=D7" 1421), (.str "=D8" 1425), (.str "=D9" 1429), (.str "=DA" 1433), (.str "=DB" 1437), (.str "=DC" 1441), (.str "=DD" 1445), (.str "=DE" 1449), (.str "=DF" 1453), (.str "=E0" 1457), (.str "=E1" 1461), (.str "=E2" 1465), (.str "=E3" 1469), (.str "=E4" 1473), (.str "=E5" 1477), (.str "=E6" 1481), (.str "=E7" 1485), (.str "=E8" 1489), (.str "=E9" 1493), (.str "=EA" 1497), (.str "=EB" 1501), (.str "=EC" 1505), (.str "=ED" 1509), (.str "=EE" 1513), (.str "=EF" 1517), (.str "=F0" 1521), (.str "=F1" 1525), (.str "=F2" 1529), (.str "=F3" 1533), (.str "=F4" 1537), (.str "=F5" 1541), (.str "=F6" 1545), (.str "=F7" 1549), (.str "=F8" 1553), (.str "=F9" 1557), (.str "=FA" 1561), (.str "=FB" 1565), (.str "=FC" 1569), (.str "=FD" 1573), (.str "=FE" 1577), (.str "=FF" 1581)]
noncomputable def f82 : List Value := [(.str "=00" 561), (.str "=01" 565), (.str "=02" 569), (.str "=03" 573), (.str "=04" 577), (.str "=05" 581), (.str "=06" 585), (.str "=07" 589), (.str "=08" 593), (.str "=09" 597), (.str "=0A" 601), (.str "=0B" 605), (.str "=0C" 609), (.str "=0D" 613), (.str "=0E" 617), (.str "=0F" 621), (.str "=10" 625), (.str "=11" 629), (.str "=12" 633), (.str "=13" 637), (.str "=14" 641), (.str "=15" 645), (.str "=16" 649), (.str "=17" 653), (.str "=18" 657), (.str "=19" 661), (.str "=1A" 665), (.str "=1B" 669), (.str "=1C" 673), (.str "=1D" 677), (.str "=1E" 681), (.str "=1F" 685), (.str "_" 1803), (.str "!" 1607), (.str "=22" 697), (.str "=23" 701), (.str "=24" 705), (.str "=25" 709), (.str "=26" 713), (.str "=27" 717), (.str "=28" 721), (.str "=29" 725), (.str "*" 1610), (.str "+" 1613), (.str "=2C" 737), (.str "-" 1604), (.str "=2E" 745), (.str "/" 1616), (.str "0" 1775), (.str "1" 1778), (.str "2" 1781), (.str "3" 1784), (.str "4" 1787), (.str "5" 1790), (.str "6" 1793), (.str "7" 1796), (.str "8" 1799), (.str "9" 1802), (.str "=3A" 793), (.str "=3B" 797), (.str "=3C" 801), (.str "=3D" 805), (.str "=3E" 809), (.str "=3F" 813), (.str "=40" 817), (.str "A" 1697), (.str "B" 1700), (.str "C" 1703), (.str "D" 1706), (.str "E" 1709), (.str "F" 1712), (.str "G" 1715), (.str "H" 1718), (.str "I" 1721), (.str "J" 1724), (.str "K" 1727), (.str "L" 1730), (.str "M" 1733), (.str "N" 1736), (.str "O" 1739), (.str "P" 1742), (.str "Q" 1745), (.str "R" 1748), (.str "S" 1751), (.str "T" 1754), (.str "U" 1757), (.str "V" 1760), (.str "W" 1763), (.str "X" 1766), (.str "Y" 1769), (.str "Z" 1772), (.str "=5B" 925), (.str "=5C" 929), (.str "=5D" 933), (.str "=5E" 937), (.str "=5F" 941), (.str "=60" 945), (.str "a" 1619), (.str "b" 1622), (.str "c" 1625), (.str "d" 1628), (.str "e" 1631), (.str "f" 1634), (.str "g" 1637), (.str "h" 1640), (.str "i" 1643), (.str "j" 1646), (.str "k" 1649), (.str "l" 1652), (.str "m" 1655), (.str "n" 1658), (.str "o" 1661), (.str "p" 1664), (.str "q" 1667), (.str "r" 1670), (.str "s" 1673), (.str "t" 1676), (.str "u" 1679), (.str "v" 1682), (.str "w" 1685), (.str "x" 1688), (.str "y" 1691), (.str "z" 1694), (.str "=7B" 1053), (.str "=7C" 1057), (.str "=7D" 1061), (.str "=7E" 1065), (.str "=7F" 1069), (.str "=80" 1073), (.str "=81" 1077), (.str "=82" 1081), (.str "=83" 1085), (.str "=84" 1089), (.str "=85" 1093), (.str "=86" 1097), (.str "=87" 1101), (.str "=88" 1105), (.str "=89" 1109), (.str "=8A" 1113), (.str "=8B" 1117), (.str "=8C" 1121), (.str "=8D" 1125), (.str "=8E" 1129), (.str "=8F" 1133), (.str "=90" 1137), (.str "=91" 1141), (.str "=92" 1145), (.str "=93" 1149), (.str "=94" 1153), (.str "=95" 1157), (.str "=96" 1161), (.str "=97" 1165), (.str "=98" 1169), (.str "=99" 1173), (.str "=9A" 1177), (.str "=9B" 1181), (.str "=9C" 1185), (.str "=9D" 1189), (.str "=9E" 1193), (.str "=9F" 1197), (.str "=A0" 1201), (.str "=A1" 1205), (.str "=A2" 1209), (.str "=A3" 1213), (.str "=A4" 1217), (.str "=A5" 1221), (.str "=A6" 1225), (.str "=A7" 1229), (.str "=A8" 1233), (.str "=A9" 1237), (.str "=AA" 1241), (.str "=AB" 1245), (.str "=AC" 1249), (.str "=AD" 1253), (.str "=AE" 1257), (.str "=AF" 1261), (.str "=B0" 1265), (.str "=B1" 1269), (.str "=B2" 1273), (.str "=B3" 1277), (.str "=B4" 1281), (.str "=B5" 1285), (.str "=B6" 1289), (.str "=B7" 1293), (.str "=B8" 1297), (.str "=B9" 1301), (.str "=BA" 1305), (.str "=BB" 1309), (.str "=BC" 1313), (.str "=BD" 1317), (.str "=BE" 1321), (.str "=BF" 1325), (.str "=C0" 1329), (.str "=C1" 1333), (.str "=C2" 1337), (.str "=C3" 1341), (.str "=C4" 1345), (.str "=C5" 1349), (.str "=C6" 1353), (.str "=C7" 1357), (.str "=C8" 1361), (.str "=C9" 1365), (.str "=CA" 1369), (.str "=CB" 1373), (.str "=CC" 1377), (.str "=CD" 1381), (.str "=CE" 1385), (.str "=CF" 1389), (.str "=D0" 1393), (.str "=D1" 1397), (.str "=D2" 1401), (.str "=D3" 1405), (.str "=D4" 1409), (.str "=D5" 1413), (.str "=D6" 1417), (.str "=D7" 1421), (.str "=D8" 1425), (.str "=D9" 1429), (.str "=DA" 1433), (.str "=DB" 1437), (.str "=DC" 1441), (.str "=DD" 1445), (.str "=DE" 1449), (.str "=DF" 1453), (.str "=E0" 1457), (.str "=E1" 1461), (.str "=E2" 1465), (.str "=E3" 1469), (.str "=E4" 1473), (.str "=E5" 1477), (.str "=E6" 1481), (.str "=E7" 1485), (.str "=E8" 1489), (.str "=E9" 1493), (.str "=EA" 1497), (.str "=EB" 1501), (.str "=EC" 1505), (.str "=ED" 1509), (.str "=EE" 1513), (.str "=EF" 1517), (.str "=F0" 1521), (.str "=F1" 1525), (.str "=F2" 1529), (.str "=F3" 1533), (.str "=F4" 1537), (.str "=F5" 1541), (.str "=F6" 1545), (.str "=F7" 1549), (.str "=F8" 1553), (.str "=F9" 1557), (.str "=FA" 1561), (.str "=FB" 1565), (.str "=FC" 1569), (.str "=FD" 1573), (.str "=FE" 1577), (.str "=FF" 1581)]
noncomputable def f84 : List Value := [(.str "=00" 561), (.str "=01" 565), (.str "=02" 569), (.str "=03" 573), (.str "=04" 577), (.str "=05" 581), (.str "=06" 585), (.str "=07" 589), (.str "=08" 593), (.str "\t" 2091), (.str "=0A" 601), (.str "=0B" 605), (.str "=0C" 609), (.str "=0D" 613), (.str "=0E" 617), (.str "=0F" 621), (.str "=10" 625), (.str "=11" 629), (.str "=12" 633), (.str "=13" 637), (.str "=14" 641), (.str "=15" 645), (.str "=16" 649), (.str "=17" 653), (.str "=18" 657), (.str "=19" 661), (.str "=1A" 665), (.str "=1B" 669), (.str "=1C" 673), (.str "=1D" 677), (.str "=1E" 681), (.str "=1F" 685), (.str " " 1809), (.str "!" 1812), (.str "\"" 1815), (.str "#" 1818), (.str "$" 1821), (.str "%" 1824), (.str "&" 1827), (.str "'" 1830), (.str "(" 1833), (.str ")" 1836), (.str "*" 1839), (.str "+" 1842), (.str "," 1845), (.str "-" 1848), (.str "." 1851), (.str "/" 1854), (.str "0" 1857), (.str "1" 1860), (.str "2" 1863), (.str "3" 1866), (.str "4" 1869), (.str "5" 1872), (.str "6" 1875), (.str "7" 1878), (.str "8" 1881), (.str "9" 1884), (.str ":" 1887), (.str ";" 1890), (.str "<" 1893), (.str "=3D" 805), (.str ">" 1896), (.str "?" 1899), (.str "@" 1902), (.str "A" 1905), (.str "B" 1908), (.str "C" 1911), (.str "D" 1914), (.str "E" 1917), (.str "F" 1920), (.str "G" 1923), (.str "H" 1926), (.str "I" 1929), (.str "J" 1932), (.str "K" 1935), (.str "L" 1938), (.str "M" 1941), (.str "N" 1944), (.str "O" 1947), (.str "P" 1950), (.str "Q" 1953), (.str "R" 1956), (.str "S" 1959), (.str "T" 1962), (.str "U" 1965), (.str "V" 1968), (.str "W" 1971), (.str "X" 1974), (.str "Y" 1977), (.str "Z" 1980), (.str "[" 1983), (.str "\\" 1986), (.str "]" 1989), (.str "^" 1992), (.str "_" 1995), (.str "`" 1998), (.str "a" 2001), (.str "b" 2004), (.str "c" 2007), (.str "d" 2010), (.str "e" 2013), (.str "f" 2016), (.str "g" 2019), (.str "h" 2022), (.str "i" 2025), (.str "j" 2028), (.str "k" 2031), (.str "l" 2034), (.str "m" 2037), (.str "n" 2040), (.str "o" 2043), (.str "p" 2046), (.str "q" 2049), (.str "r" 2052), (.str "s" 2055), (.str "t" 2058), (.str "u" 2061), (.str "v" 2064), (.str "w" 2067), (.str "x" 2070), (.str "y" 2073), (.str "z" 2076), (.str "{" 2079), (.str "|" 2082), (.str "}" 2085), (.str "~" 2088), (.str "=7F" 1069), (.str "=80" 1073), (.str "=81" 1077), (.str "=82" 1081), (.str "=83" 1085), (.str "=84" 1089), (.str "=85" 1093), (.str "=86" 1097), (.str "=87" 1101), (.str "=88" 1105), (.str "=89" 1109), (.str "=8A" 1113), (.str "=8B" 1117), (.str "=8C" 1121), (.str "=8D" 1125), (.str "=8E" 1129), (.str "=8F" 1133), (.str "=90" 1137), (.str "=91" 1141), (.str "=92" 1145), (.str "=93" 1149), (.str "=94" 1153), (.str "=95" 1157), (.str "=96" 1161), (.str "=97" 1165), (.str "=98" 1169), (.str "=99" 1173), (.str "=9A" 1177), (.str "=9B" 1181), (.str "=9C" 1185), (.str "=9D" 1189), (.str "=9E" 1193), (.str "=9F" 1197), (.str "=A0" 1201), (.str "=A1" 1205), (.str "=A2" 1209), (.str "=A3" 1213), (.str "=A4" 1217), (.str "=A5" 1221), (.str "=A6" 1225), (.str "=A7" 1229), (.str "=A8" 1233), (.str "=A9" 1237), (.str "=AA" 1241), (.str "=AB" 1245), (.str "=AC" 1249), (.str "=AD" 1253), (.str "=AE" 1257), (.str "=AF" 1261), (.str "=B0" 1265), (.str "=B1" 1269), (.str "=B2" 1273), (.str "=B3" 1277), (.str "=B4" 1281), (.str "=B5" 1285), (.str "=B6" 1289), (.str "=B7" 1293), (.str "=B8" 1297), (.str "=B9" 1301), (.str "=BA" 1305), (.str "=BB" 1309), (.str "=BC" 1313), (.str "=BD" 1317), (.str "=BE" 1321), (.str "=BF" 1325), (.str "=C0" 1329), (.str "=C1" 1333), (.str "=C2" 1337), (.str "=C3" 1341), (.str "=C4" 1345), (.str "=C5" 1349), (.str "=C6" 1353), (.str "=C7" 1357), (.str "=C8" 1361), (.str "=C9" 1365), (.str "=CA" 1369), (.str "=CB" 1373), (.str "=CC" 1377), (.str "=CD" 1381), (.str "=CE" 1385), (.str "=CF" 1389), (.str "=D0" 1393), (.str "=D1" 1397), (.str "=D2" 1401), (.str "=D3" 1405), (.str "=D4" 1409), (.str "=D5" 1413), (.str "=D6" 1417), (.str "=D7" 1421), (.str "=D8" 1425), (.str "=D9" 1429), (.str "=DA" 1433), (.str "=DB" 1437), (.str "=DC" 1441), (.str "=DD" 1445), (.str "=DE" 1449), (.str "=DF" 1453), (.str "=E0" 1457), (.str "=E1" 1461), (.str "=E2" 1465), (.str "=E3" 1469), (.str "=E4" 1473), (.str "=E5" 1477), (.str "=E6" 1481), (.str "=E7" 1485), (.str "=E8" 1489), (.str "=E9" 1493), (.str "=EA" 1497), (.str "=EB" 1501), (.str "=EC" 1505), (.str "=ED" 1509), (.str "=EE" 1513), (.str "=EF" 1517), (.str "=F0" 1521), (.str "=F1" 1525), (.str "=F2" 1529), (.str "=F3" 1533), (.str "=F4" 1537), (.str "=F5" 1541), (.str "=F6" 1545), (.str "=F7" 1549), (.str "=F8" 1553), (.str "=F9" 1557), (.str "=FA" 1561), (.str "=FB" 1565), (.str "=FC" 1569), (.str "=FD" 1573), (.str "=FE" 1577), (.str "=FF" 1581)]
noncomputable def f107 : List Value := [(.str "=00" 561), (.str "=01" 565), (.str "=02" 569), (.str "=03" 573), (.str "=04" 577), (.str "=05" 581), (.str "=06" 585), (.str "=07" 589), (.str "=08" 593), (.str "\t" 2091), (.str "\n" 2116), (.str "=0B" 605), (.str "=0C" 609), (.str "\x0d" 2113), (.str "=0E" 617), (.str "=0F" 621), (.str "=10" 625), (.str "=11" 629), (.str "=12" 633), (.str "=13" 637), (.str "=14" 641), (.str "=15" 645), (.str "=16" 649), (.str "=17" 653), (.str "=18" 657), (.str "=19" 661), (.str "=1A" 665), (.str "=1B" 669), (.str "=1C" 673), (.str "=1D" 677), (.str "=1E" 681), (.str "=1F" 685), (.str " " 1809), (.str "!" 1812), (.str "\"" 1815), (.str "#" 1818), (.str "$" 1821), (.str "%" 1824), (.str "&" 1827), (.str "'" 1830), (.str "(" 1833), (.str ")" 1836), (.str "*" 1839), (.str "+" 1842), (.str "," 1845), (.str "-" 1848), (.str "." 1851), (.str "/" 1854), (.str "0" 1857), (.str "1" 1860), (.str "2" 1863), (.str "3" 1866), (.str "4" 1869), (.str "5" 1872), (.str "6" 1875), (.str "7" 1878), (.str "8" 1881), (.str "9" 1884), (.str ":" 1887), (.str ";" 1890), (.str "<" 1893), (.str "=3D" 805), (.str ">" 1896), (.str "?" 1899), (.str "@" 1902), (.str "A" 1905), (.str "B" 1908), (.str "C" 1911), (.str "D" 1914), (.str "E" 1917), (.str "F" 1920), (.str "G" 1923), (.str "H" 1926), (.str "I" 1929), (.str "J" 1932), (.str "K" 1935), (.str "L" 1938), (.str "M" 1941), (.str "N" 1944), (.str "O" 1947), (.str "P" 1950), (.str "Q" 1953), (.str "R" 1956), (.str "S" 1959), (.str "T" 1962), (.str "U" 1965), (.str "V" 1968), (.str "W" 1971), (.str "X" 1974), (.str "Y" 1977), (.str "Z" 1980), (.str "[" 1983), (.str "\\" 1986), (.str "]" 1989), (.str "^" 1992), (.str "_" 1995), (.str "`" 1998), (.str "a" 2001), (.str "b" 2004), (.str "c" 2007), (.str "d" 2010), (.str "e" 2013), (.str "f" 2016), (.str "g" 2019), (.str "h" 2022), (.str "i" 2025), (.str "j" 2028), (.str "k" 2031), (.str "l" 2034), (.str "m" 2037), (.str "n" 2040), (.str "o" 2043), (.str "p" 2046), (.str "q" 2049), (.str "r" 2052), (.str "s" 2055), (.str "t" 2058), (.str "u" 2061), (.str "v" 2064), (.str "w" 2067), (.str "x" 2070), (.str "y" 2073), (.str "z" 2076), (.str "{" 2079), (.str "|" 2082), (.str "}" 2085), (.str "~" 2088), (.str "=7F" 1069), (.str "=80" 1073), (.str "=81" 1077), (.str "=82" 1081), (.str "=83" 1085), (.str "=84" 1089), (.str "=85" 1093), (.str "=86" 1097), (.str "=87" 1101), (.str "=88" 1105), (.str "=89" 1109), (.str "=8A" 1113), (.str "=8B" 1117), (.str "=8C" 1121), (.str "=8D" 1125), (.str "=8E" 1129), (.str "=8F" 1133), (.str "=90" 1137), (.str "=91" 1141), (.str "=92" 1145), (.str "=93" 1149), (.str "=94" 1153), (.str "=95" 1157), (.str "=96" 1161), (.str "=97" 1165), (.str "=98" 1169), (.str "=99" 1173), (.str "=9A" 1177), (.str "=9B" 1181), (.str "=9C" 1185), (.str "=9D" 1189), (.str "=9E" 1193), (.str "=9F" 1197), (.str "=A0" 1201), (.str "=A1" 1205), (.str "=A2" 1209), (.str "=A3" 1213), (.str "=A4" 1217), (.str "=A5" 1221), (.str "=A6" 1225), (.str "=A7" 1229), (.str "=A8" 1233), (.str "=A9" 1237), (.str "=AA" 1241), (.str "=AB" 1245), (.str "=AC" 1249), (.str "=AD" 1253), (.str "=AE" 1257), (.str "=AF" 1261), (.str "=B0" 1265), (.str "=B1" 1269), (.str "=B2" 1273), (.str "=B3" 1277), (.str "=B4" 1281), (.str "=B5" 1285), (.str "=B6" 1289), (.str "=B7" 1293), (.str "=B8" 1297), (.str "=B9" 1301), (.str "=BA" 1305), (.str "=BB" 1309), (.str "=BC" 1313), (.str "=BD" 1317), (.str "=BE" 1321), (.str "=BF" 1325), (.str "=C0" 1329), (.str "=C1" 1333), (.str "=C2" 1337), (.str "=C3" 1341), (.str "=C4" 1345), (.str "=C5" 1349), (.str "=C6" 1353), (.str "=C7" 1357), (.str "=C8" 1361), (.str "=C9" 1365), (.str "=CA" 1369), (.str "=CB" 1373), (.str "=CC" 1377), (.str "=CD" 1381), (.str "=CE" 1385), (.str "=CF" 1389), (.str "=D0" 1393), (.str "=D1" 1397), (.str "=D2" 1401), (.str "=D3" 1405), (.str "=D4" 1409), (.str "=D5" 1413), (.str "=D6" 1417), (.str "=D7" 1421), (.str "=D8" 1425), (.str "=D9" 1429), (.str "=DA" 1433), (.str "=DB" 1437), (.str "=DC" 1441), (.str "=DD" 1445), (.str "=DE" 1449), (.str "=DF" 1453), (.str "=E0" 1457), (.str "=E1" 1461), (.str "=E2" 1465), (.str "=E3" 1469), (.str "=E4" 1473), (.str "=E5" 1477), (.str "=E6" 1481), (.str "=E7" 1485), (.str "=E8" 1489), (.str "=E9" 1493), (.str "=EA" 1497), (.str "=EB" 1501), (.str "=EC" 1505), (.str "=ED" 1509), (.str "=EE" 1513), (.str "=EF" 1517), (.str "=F0" 1521), (.str "=F1" 1525), (.str "=F2" 1529), (.str "=F3" 1533), (.str "=F4" 1537), (.str "=F5" 1541), (.str "=F6" 1545), (.str "=F7" 1549), (.str "=F8" 1553), (.str "=F9" 1557), (.str "=FA" 1561), (.str "=FB" 1565), (.str "=FC" 1569), (.str "=FD" 1573), (.str "=FE" 1577), (.str "=FF" 1581)]
noncomputable def k82 : List Nat := [45, 33, 42, 43, 47, 97, 98, 99, 100, 101, 102, 103, 104, 105, 106, 107, 108, 109, 110, 111, 112, 113, 114, 115, 116, 117, 118, 119, 120, 121, 122, 65, 66, 67, 68, 69, 70, 71, 72, 73, 74, 75, 76, 77, 78, 79, 80, 81, 82, 83, 84, 85, 86, 87, 88, 89, 90, 48, 49, 50, 51, 52, 53, 54, 55, 56, 57]
noncomputable def k84 : List Nat := [32, 33, 34, 35, 36, 37, 38, 39, 40, 41, 42, 43, 44, 45, 46, 47, 48, 49, 50, 51, 52, 53, 54, 55, 56, 57, 58, 59, 60, 62, 63, 64, 65, 66, 67, 68, 69, 70, 71, 72, 73, 74, 75, 76, 77, 78, 79, 80, 81, 82, 83, 84, 85, 86, 87, 88, 89, 90, 91, 92, 93, 94, 95, 96, 97, 98, 99, 100, 101, 102, 103, 104, 105, 106, 107, 108, 109, 110, 111, 112, 113, 114, 115, 116, 117, 118, 119, 120, 121, 122, 123, 124, 125, 126, 9]
noncomputable def mixL (l f : List Value) (ks : List Nat) : List Value := ks.foldl (fun l k => l.set k (f.getD k .none)) l
noncomputable def o_1 (P : Params) : Obj := ⟨(.type "dict"), none, (.dict #[(de P "builtins" 162 (.ref 4)), (de P "__main__" 163 (.ref 5)), (de P "_sre" 244 (.ref 12))] 3), #[]⟩
noncomputable def o_2 (P : Params) : Obj := ⟨.none, none, (.dict #[(de P "\x69mport.loaded._sre" 183 (.bool .true)), (de P "class._frozen_importlib.BuiltinImporter" 185 (.ref 14)), (de P "watched.\x69mport" 206 (.ref 18)), (de P "class._frozen_importlib.ModuleSpec" 216 (.ref 22)), (de P "sys.modules.booked-epoch" 245 (.int 3 0)), (de P "\x69mport.later-laid._sre" 270 (.bool .true)), (de P "watched.library" 272 (.ref 27)), (de P "watched.library-objects" 0 (.str "\x0c" 0)), (de P "watched.library-deep._sre" 273 (.str "\x04\x00\x00\x0b\x04\x00\x00\x0b\x04\x00\x00\x03\x04\x00\x00\x0b\x08\x04dict\x02" 0))] 9), #[]⟩
noncomputable def o_3 (P : Params) : Obj := ⟨(.type "dict"), none, (.dict #[(de P "__name__" 165 (.str "law_ij0038_01" 2132)), (de P "__doc__" 166 .none), (de P "__package__" 167 .none), (de P "__loader__" 168 (.builtin "__main__.__loader__#opaque")), (de P "__spec__" 169 .none), (de P "__annotations__" 170 (.ref 6)), (de P "__builtins__" 171 (.ref 4)), (de P "__file__" 173 (.str "/claim/cut.py" 172)), (de P "__cached__" 174 .none), (de P "_sre" 275 (.ref 12)), (de P "twin_re_1_fnmatch" 321 (.ref 36)), (de P "translate" 330 (.ref 43)), (de P "_special_chars_map" 478 (.ref 45)), (de P "escape" 485 (.ref 55)), (de P "_translate" 506 (.ref 62)), (de P "_join_translated_parts" 519 (.ref 69)), (de P "twin_re_1_quoprimime" 554 (.ref 74)), (de P "_QUOPRI_MAP" 1582 (.ref 77)), (de P "_QUOPRI_HEADER_MAP" 1583 (.ref 82)), (de P "_QUOPRI_BODY_MAP" 1584 (.ref 84)), (de P "ascii_lowercase" 1586 (.str "abcdefghijklmnopqrstuvwxyz" 1585)), (de P "ascii_uppercase" 1588 (.str "ABCDEFGHIJKLMNOPQRSTUVWXYZ" 1587)), (de P "ascii_letters" 1590 (.str "abcdefghijklmnopqrstuvwxyzABCDEFGHIJKLMNOPQRSTUVWXYZ" 1589)), (de P "digits" 1592 (.str "0123456789" 1591)), (de P "unquote" 2098 (.ref 97)), (de P "header_encode" 2108 (.ref 105)), (de P "_QUOPRI_BODY_ENCODE_MAP" 2109 (.ref 107)), (de P "_unquote_match" 2124 (.ref 117)), (de P "header_decode" 2131 (.ref 124)), (de P "_law_header" 2139 (.ref 129)), (de P "_law_read" 2145 (.ref 134)), (de P "_law_at" 2151 (.ref 139)), (de P "_law_shares" 2164 (.ref 146)), (de P "law" 2170 (.ref 151))] 36), #[]⟩
noncomputable def o_4 (_ : Params) : Obj := ⟨(.type "module"), (some 0), .plain, #[]⟩
noncomputable def o_5 (_ : Params) : Obj := ⟨(.type "module"), (some 3), .plain, #[]⟩
noncomputable def o_6 (_ : Params) : Obj := ⟨(.type "dict"), none, (.dict #[] 0), #[]⟩
noncomputable def o_7 (_ : Params) : Obj := ⟨(.type "tuple"), none, (.seq #[] 0), #[]⟩
noncomputable def o_8 (_ : Params) : Obj := ⟨.none, none, (.fields #[]), #[]⟩
noncomputable def o_9 (_ : Params) : Obj := ⟨(.type "code"), none, (.fields #[(.str "<module>" 176), (.str "<module>" 177), (.str "/claim/cut.py" 178), (.int 1 0), (.int 0 0), (.int 0 0), (.int 0 0), (.int 0 0), (.ref 7), (.bool .false), (.int 175 0), (.ref 8), .none, .none, .none, .none, (.int 179 0), (.int 1 0), (.str "/claim/cut.py" 180)]), #[]⟩
noncomputable def o_10 (_ : Params) : Obj := ⟨(.type "frame"), none, .plain, #[(some (.ref 9)), (some (.ref 3)), (some (.ref 3)), none, (some (.str "__main__" 164)), none, (some (.ref 0))]⟩
noncomputable def o_11 (P : Params) : Obj := ⟨(.type "dict"), none, (.dict #[(de P "__name__" 247 (.str "_sre" 246)), (de P "__doc__" 248 .none), (de P "__package__" 250 (.str "" 249)), (de P "__loader__" 251 (.builtin "off-the-table:_sre.__loader__:shared#opaque")), (de P "__spec__" 252 (.builtin "off-the-table:_sre.__spec__:shared#opaque")), (de P "compile" 253 (.builtin "_sre.compile")), (de P "template" 254 (.builtin "off-the-table:_sre.template:shared#opaque")), (de P "getcodesize" 255 (.builtin "off-the-table:_sre.getcodesize:shared#opaque")), (de P "ascii_iscased" 256 (.builtin "off-the-table:_sre.ascii_iscased:shared#opaque")), (de P "unicode_iscased" 257 (.builtin "off-the-table:_sre.unicode_iscased:shared#opaque")), (de P "ascii_tolower" 258 (.builtin "off-the-table:_sre.ascii_tolower:shared#opaque")), (de P "unicode_tolower" 259 (.builtin "off-the-table:_sre.unicode_tolower:shared#opaque")), (de P "MAGIC" 261 (.int 20230612 260)), (de P "CODESIZE" 263 (.int 4 262)), (de P "MAXREPEAT" 265 (.int 4294967295 264)), (de P "MAXGROUPS" 267 (.int 1073741823 266)), (de P "copyright" 269 (.str " SRE 2.2.2 Copyright (c) 1997-2002 by Secret Labs AB " 268))] 17), #[]⟩
noncomputable def o_12 (_ : Params) : Obj := ⟨(.type "module"), (some 11), .plain, #[]⟩
noncomputable def o_13 (P : Params) : Obj := ⟨(.type "dict"), none, (.dict #[(de P "__module__" 189 (.str "_frozen_importlib" 186)), (de P "__firstlineno__" 190 (.int 971 187)), (de P "__doc__" 191 (.builtin "_frozen_importlib.BuiltinImporter.__doc__:str#opaque")), (de P "_ORIGIN" 192 (.str "built-in" 188)), (de P "find_spec" 193 (.builtin "_frozen_importlib.BuiltinImporter.find_spec#opaque")), (de P "create_module" 194 (.builtin "_frozen_importlib.BuiltinImporter.create_module#opaque")), (de P "exec_module" 195 (.builtin "_frozen_importlib.BuiltinImporter.exec_module#opaque")), (de P "get_code" 196 (.builtin "_frozen_importlib.BuiltinImporter.get_code#opaque")), (de P "get_source" 197 (.builtin "_frozen_importlib.BuiltinImporter.get_source#opaque")), (de P "is_package" 198 (.builtin "_frozen_importlib.BuiltinImporter.is_package#opaque")), (de P "load_module" 199 (.builtin "_frozen_importlib.BuiltinImporter.load_module#opaque")), (de P "__static_attributes__" 200 (.ref 15)), (de P "__dict__" 202 (.ref 16)), (de P "__weakref__" 204 (.ref 17))] 14), #[]⟩
noncomputable def o_14 (_ : Params) : Obj := ⟨(.type "type"), none, (.cls ⟨"BuiltinImporter", [(.type "object")], [(.ref 14), (.type "object")], 13, "BuiltinImporter", .true, [], [], .false, none, .false⟩), #[]⟩
noncomputable def o_15 (_ : Params) : Obj := ⟨(.type "tuple"), none, (.seq #[] 0), #[]⟩
noncomputable def o_16 (_ : Params) : Obj := ⟨(.type "getset_descriptor"), none, (.fields #[(.str "__dict__" 201), (.ref 14), (.builtin "function.__dict__"), (.builtin "function.__dict__#set")]), #[]⟩
noncomputable def o_17 (_ : Params) : Obj := ⟨(.type "getset_descriptor"), none, (.fields #[(.str "__weakref__" 203), (.ref 14), (.builtin "ExceptionGroup.__weakref__"), .none]), #[]⟩
noncomputable def o_18 (_ : Params) : Obj := ⟨.none, none, (.seq #[(.int 13 0), (.str "\x06½\n__module__\x06º\x11_frozen_importlib\x06¾\x0f__firstlineno__\x04»\x00ϋ\x06¿\x07__doc__\t4_frozen_importlib.BuiltinImporter.__doc__:str#opaque\x06À\x07_ORIGIN\x06¼\x08built-in\x06Á\tfind_spec\t2_frozen_importlib.BuiltinImporter.find_spec#opaque\x06Â\x0dcreate_module\t6_frozen_importlib.BuiltinImporter.create_module#opaque\x06Ã\x0bexec_module\t4_frozen_importlib.BuiltinImporter.exec_module#opaque\x06Ä\x08get_code\t1_frozen_importlib.BuiltinImporter.get_code#opaque\x06Å\nget_source\t3_frozen_importlib.BuiltinImporter.get_source#opaque\x06Æ\nis_package\t3_frozen_importlib.BuiltinImporter.is_package#opaque\x06Ç\x0bload_module\t4_frozen_importlib.BuiltinImporter.load_module#opaque\x06È\x15__static_attributes__\x04\x00\x00\x0f\x06Ê\x08__dict__\x04\x00\x00\x10\x06Ì\x0b__weakref__\x04\x00\x00\x11" 0), (.bool .true), (.bool .true), (.str "" 205), (.int 21 0), (.str "\x06ã\n__module__\x06Ù\x11_frozen_importlib\x06ä\x0f__firstlineno__\x04Ú\x00Ȳ\x06å\x07__doc__\t/_frozen_importlib.ModuleSpec.__doc__:str#opaque\x06æ\x08__init__\t,_frozen_importlib.ModuleSpec.__init__#opaque\x06ç\x08__repr__\t,_frozen_importlib.ModuleSpec.__repr__#opaque\x06è\x06__eq__\t*_frozen_importlib.ModuleSpec.__eq__#opaque\x06é\x06cached\t*_frozen_importlib.ModuleSpec.cached#opaque\x06ê\x06parent\t*_frozen_importlib.ModuleSpec.parent#opaque\x06ë\x0chas_location\t0_frozen_importlib.ModuleSpec.has_location#opaque\x06ì\x15__static_attributes__\x04\x00\x00\x17\x06î\x08__dict__\x04\x00\x00\x18\x06ð\x0b__weakref__\x04\x00\x00\x19\x06ñ\x08__hash__\x00" 0), (.bool .true), (.bool .true), (.str "" 242)] 1), #[]⟩
noncomputable def o_19 (_ : Params) : Obj := ⟨(.type "list"), none, (.seq #[] 0), #[]⟩
noncomputable def o_20 (P : Params) : Obj := ⟨(.type "dict"), none, (.dict #[(de P "name" 208 (.str "_sre" 207)), (de P "loader" 209 (.ref 14)), (de P "origin" 210 (.str "built-in" 184)), (de P "loader_state" 211 .none), (de P "submodule_search_locations" 212 .none), (de P "_uninitialized_submodules" 213 (.ref 19)), (de P "_set_fileattr" 214 (.bool .false)), (de P "_cached" 215 .none), (de P "_initializing" 243 (.bool .false))] 9), #[]⟩
noncomputable def o_21 (P : Params) : Obj := ⟨(.type "dict"), none, (.dict #[(de P "__module__" 227 (.str "_frozen_importlib" 217)), (de P "__firstlineno__" 228 (.int 562 218)), (de P "__doc__" 229 (.builtin "_frozen_importlib.ModuleSpec.__doc__:str#opaque")), (de P "__init__" 230 (.builtin "_frozen_importlib.ModuleSpec.__init__#opaque")), (de P "__repr__" 231 (.builtin "_frozen_importlib.ModuleSpec.__repr__#opaque")), (de P "__eq__" 232 (.builtin "_frozen_importlib.ModuleSpec.__eq__#opaque")), (de P "cached" 233 (.builtin "_frozen_importlib.ModuleSpec.cached#opaque")), (de P "parent" 234 (.builtin "_frozen_importlib.ModuleSpec.parent#opaque")), (de P "has_location" 235 (.builtin "_frozen_importlib.ModuleSpec.has_location#opaque")), (de P "__static_attributes__" 236 (.ref 23)), (de P "__dict__" 238 (.ref 24)), (de P "__weakref__" 240 (.ref 25)), (de P "__hash__" 241 .none)] 13), #[]⟩
noncomputable def o_22 (_ : Params) : Obj := ⟨(.type "type"), none, (.cls ⟨"ModuleSpec", [(.type "object")], [(.ref 22), (.type "object")], 21, "ModuleSpec", .true, [], [], .false, none, .false⟩), #[]⟩
noncomputable def o_23 (_ : Params) : Obj := ⟨(.type "tuple"), none, (.seq #[(.str "_cached" 219), (.str "_set_fileattr" 220), (.str "_uninitialized_submodules" 221), (.str "loader" 222), (.str "loader_state" 223), (.str "name" 224), (.str "origin" 225), (.str "submodule_search_locations" 226)] 0), #[]⟩
noncomputable def o_24 (_ : Params) : Obj := ⟨(.type "getset_descriptor"), none, (.fields #[(.str "__dict__" 237), (.ref 22), (.builtin "function.__dict__"), (.builtin "function.__dict__#set")]), #[]⟩
noncomputable def o_25 (_ : Params) : Obj := ⟨(.type "getset_descriptor"), none, (.fields #[(.str "__weakref__" 239), (.ref 22), (.builtin "ExceptionGroup.__weakref__"), .none]), #[]⟩
noncomputable def o_26 (_ : Params) : Obj := ⟨(.ref 22), (some 20), .plain, #[]⟩
noncomputable def o_27 (_ : Params) : Obj := ⟨.none, none, (.seq #[(.int 11 0), (.str ⟨#[6, 247, 8, 95, 95, 110, 97, 109, 101, 95, 95, 6, 246, 4, 95, 115, 114, 101, 6, 248, 7, 95, 95, 100, 111, 99, 95, 95, 0, 6, 250, 11, 95, 95, 112, 97, 99, 107, 97, 103, 101, 95, 95, 6, 249, 0, 6, 251, 10, 95, 95, 108, 111, 97, 100, 101, 114, 95, 95, 4, 0, 0, 14, 6, 252, 8, 95, 95, 115, 112, 101, 99, 95, 95, 4, 0, 0, 26, 6, 253, 7, 99, 111, 109, 112, 105, 108, 101, 9, 12, 95, 115, 114, 101, 46, 99, 111, 109, 112, 105, 108, 101, 6, 254, 8, 116, 101, 109, 112, 108, 97, 116, 101, 9, 13, 95, 115, 114, 101, 46, 116, 101, 109, 112, 108, 97, 116, 101, 6, 255, 11, 103, 101, 116, 99, 111, 100, 101, 115, 105, 122, 101, 9, 16, 95, 115, 114, 101, 46, 103, 101, 116, 99, 111, 100, 101, 115, 105, 122, 101, 6, 256, 13, 97, 115, 99, 105, 105, 95, 105, 115, 99, 97, 115, 101, 100, 9, 18, 95, 115, 114, 101, 46, 97, 115, 99, 105, 105, 95, 105, 115, 99, 97, 115, 101, 100, 6, 257, 15, 117, 110, 105, 99, 111, 100, 101, 95, 105, 115, 99, 97, 115, 101, 100, 9, 20, 95, 115, 114, 101, 46, 117, 110, 105, 99, 111, 100, 101, 95, 105, 115, 99, 97, 115, 101, 100, 6, 258, 13, 97, 115, 99, 105, 105, 95, 116, 111, 108, 111, 119, 101, 114, 9, 18, 95, 115, 114, 101, 46, 97, 115, 99, 105, 105, 95, 116, 111, 108, 111, 119, 101, 114, 6, 259, 15, 117, 110, 105, 99, 111, 100, 101, 95, 116, 111, 108, 111, 119, 101, 114, 9, 20, 95, 115, 114, 101, 46, 117, 110, 105, 99, 111, 100, 101, 95, 116, 111, 108, 111, 119, 101, 114, 6, 261, 5, 77, 65, 71, 73, 67, 4, 260, 0, 20230612, 6, 263, 8, 67, 79, 68, 69, 83, 73, 90, 69, 4, 262, 0, 4, 6, 265, 9, 77, 65, 88, 82, 69, 80, 69, 65, 84, 4, 264, 0, 4294967295, 6, 267, 9, 77, 65, 88, 71, 82, 79, 85, 80, 83, 4, 266, 0, 1073741823, 6, 269, 9, 99, 111, 112, 121, 114, 105, 103, 104, 116, 6, 268, 53, 32, 83, 82, 69, 32, 50, 46, 50, 46, 50, 32, 67, 111, 112, 121, 114, 105, 103, 104, 116, 32, 40, 99, 41, 32, 49, 57, 57, 55, 45, 50, 48, 48, 50, 32, 98, 121, 32, 83, 101, 99, 114, 101, 116, 32, 76, 97, 98, 115, 32, 65, 66, 32]⟩ 0), (.bool .true), (.bool .false), (.str "_sre" 271)] 0), #[]⟩
noncomputable def o_28 (_ : Params) : Obj := ⟨(.type "tuple"), none, (.seq #[] 0), #[]⟩
noncomputable def o_29 (_ : Params) : Obj := ⟨.none, none, (.fields #[(.int 4 0), (.int 0 0), (.ref 42), (.int 10 0), (.int 0 0), (.ref 54), (.int 17 0), (.int 0 0), (.ref 61), (.int 79 0), (.int 0 0), (.ref 68), (.int 120 0), (.int 0 0), (.ref 96), (.int 122 0), (.int 0 0), (.ref 104), (.int 131 0), (.int 0 0), (.ref 116), (.int 134 0), (.int 0 0), (.ref 123), (.int 138 0), (.int 0 0), (.ref 128), (.int 166 0), (.int 0 0), (.ref 133), (.int 207 0), (.int 0 0), (.ref 138), (.int 215 0), (.int 0 0), (.ref 145), (.int 234 0), (.int 0 0), (.ref 150)]), #[]⟩
noncomputable def o_30 (_ : Params) : Obj := ⟨(.type "code"), none, (.fields #[(.str "<module>" 277), (.str "<module>" 278), (.str "/claim/cut.py" 279), (.int 1 0), (.int 0 0), (.int 0 0), (.int 0 0), (.int 0 0), (.ref 28), (.bool .false), (.int 276 0), (.ref 29), .none, .none, .none, .none, (.int 280 0), (.int 1 0), (.str "/claim/cut.py" 281)]), #[]⟩
noncomputable def o_31 (_ : Params) : Obj := ⟨(.type "frame"), none, .plain, #[(some (.ref 30)), (some (.ref 3)), (some (.ref 3)), none, (some (.str "__main__" 164)), none, (some (.ref 0))]⟩
noncomputable def o_32 (_ : Params) : Obj := ⟨(.type "list"), none, (.seq #[(.int 14 287), (.int 14 288), (.int 4 289), (.int 1 290), (.int 1 291), (.int 9 292), (.int 0 293), (.int 64 294), (.int 0 295), (.int 1342177280 296), (.int 0 297), (.int 0 298), (.int 0 299), (.int 0 300), (.int 0 301), (.int 17 302), (.int 0 303), (.int 13 304), (.int 11 305), (.int 9 306), (.int 0 307), (.int 64 308), (.int 0 309), (.int 1342177280 310), (.int 0 311), (.int 0 312), (.int 0 313), (.int 0 314), (.int 0 315), (.int 17 316), (.int 1 317), (.int 1 318)] 0), #[]⟩
noncomputable def o_33 (_ : Params) : Obj := ⟨(.type "dict"), none, (.dict #[] 0), #[]⟩
noncomputable def o_34 (_ : Params) : Obj := ⟨(.type "tuple"), none, (.seq #[.none, .none] 0), #[]⟩
noncomputable def o_35 (_ : Params) : Obj := ⟨(.type "tuple"), none, (.seq #[(.int 14 0), (.int 14 0), (.int 4 0), (.int 1 0), (.int 1 0), (.int 9 0), (.int 0 0), (.int 64 0), (.int 0 0), (.int 1342177280 0), (.int 0 0), (.int 0 0), (.int 0 0), (.int 0 0), (.int 0 0), (.int 17 0), (.int 0 0), (.int 13 0), (.int 11 0), (.int 9 0), (.int 0 0), (.int 64 0), (.int 0 0), (.int 1342177280 0), (.int 0 0), (.int 0 0), (.int 0 0), (.int 0 0), (.int 0 0), (.int 17 0), (.int 1 0), (.int 1 0)] 0), #[]⟩
noncomputable def o_36 (_ : Params) : Obj := ⟨(.type "re.Pattern"), none, (.fields #[(.str "([&~|])" 285), (.int 32 320), (.int 1 0), .none, .none, (.ref 35), (.int 0 0)]), #[]⟩
noncomputable def o_37 (_ : Params) : Obj := ⟨(.type "tuple"), none, (.seq #[] 0), #[]⟩
noncomputable def o_38 (_ : Params) : Obj := ⟨.none, none, (.fields #[]), #[]⟩
noncomputable def o_39 (_ : Params) : Obj := ⟨(.type "tuple"), none, (.seq #[(.str "pat" 325), (.str "STAR" 326), (.str "parts" 327)] 0), #[]⟩
noncomputable def o_40 (_ : Params) : Obj := ⟨(.type "tuple"), none, (.seq #[] 0), #[]⟩
noncomputable def o_41 (_ : Params) : Obj := ⟨.none, none, (.func (fnD 3 0 .none .none .none)), #[]⟩
noncomputable def o_42 (_ : Params) : Obj := ⟨(.type "code"), none, (.fields #[(.str "translate" 322), (.str "translate" 323), (.str "/claim/cut.py" 324), (.int 4 0), (.int 1 0), (.int 0 0), (.int 0 0), (.int 3 0), (.ref 37), (.bool .true), (.int 276 0), (.ref 38), .none, (.ref 39), (.ref 40), (.ref 41), (.int 328 0), (.int 4 0), (.str "/claim/cut.py" 329)]), #[]⟩
noncomputable def o_43 (_ : Params) : Obj := ⟨(.type "function"), none, (.func (fnD 3 3 .none (.str "cpy313.fnmatch" 282) (.ref 42))), #[]⟩
noncomputable def o_44 (_ : Params) : Obj := ⟨(.type "bytes_iterator"), none, (.fields #[.none, (.int 24 0)]), #[]⟩
noncomputable def o_45 (_ : Params) : Obj := ⟨(.type "dict"), none, (.dict #[⟨40, (.int 40 334), (.str "\\(" 338)⟩, ⟨41, (.int 41 340), (.str "\\)" 344)⟩, ⟨91, (.int 91 346), (.str "\\[" 350)⟩, ⟨93, (.int 93 352), (.str "\\]" 356)⟩, ⟨123, (.int 123 358), (.str "\\{" 362)⟩, ⟨125, (.int 125 364), (.str "\\}" 368)⟩, ⟨63, (.int 63 370), (.str "\\?" 374)⟩, ⟨42, (.int 42 376), (.str "\\*" 380)⟩, ⟨43, (.int 43 382), (.str "\\+" 386)⟩, ⟨45, (.int 45 388), (.str "\\-" 392)⟩, ⟨124, (.int 124 394), (.str "\\|" 398)⟩, ⟨94, (.int 94 400), (.str "\\^" 404)⟩, ⟨36, (.int 36 406), (.str "\\$" 410)⟩, ⟨92, (.int 92 412), (.str "\\\\" 416)⟩, ⟨46, (.int 46 418), (.str "\\." 422)⟩, ⟨38, (.int 38 424), (.str "\\&" 428)⟩, ⟨126, (.int 126 430), (.str "\\~" 434)⟩, ⟨35, (.int 35 436), (.str "\\#" 440)⟩, ⟨32, (.int 32 442), (.str "\\ " 446)⟩, ⟨9, (.int 9 448), (.str "\\\t" 452)⟩, ⟨10, (.int 10 454), (.str "\\\n" 458)⟩, ⟨13, (.int 13 460), (.str "\\\x0d" 464)⟩, ⟨11, (.int 11 466), (.str "\\\x0b" 470)⟩, ⟨12, (.int 12 472), (.str "\\\x0c" 476)⟩] 24), #[]⟩
noncomputable def o_46 (_ : Params) : Obj := ⟨(.type "dict"), none, (.dict #[] 2), #[]⟩
noncomputable def o_47 (_ : Params) : Obj := ⟨(.type "tuple"), none, (.seq #[] 0), #[]⟩
noncomputable def o_48 (_ : Params) : Obj := ⟨(.type "StopIteration"), none, (.fields #[(.ref 47), .none, .none, .none, (.bool .false), .none]), #[]⟩
noncomputable def o_49 (_ : Params) : Obj := ⟨(.type "tuple"), none, (.seq #[] 0), #[]⟩
noncomputable def o_50 (_ : Params) : Obj := ⟨.none, none, (.fields #[]), #[]⟩
noncomputable def o_51 (_ : Params) : Obj := ⟨(.type "tuple"), none, (.seq #[(.str "pattern" 482)] 0), #[]⟩
noncomputable def o_52 (_ : Params) : Obj := ⟨(.type "tuple"), none, (.seq #[] 0), #[]⟩
noncomputable def o_53 (_ : Params) : Obj := ⟨.none, none, (.func (fnD 6 0 .none .none .none)), #[]⟩
noncomputable def o_54 (_ : Params) : Obj := ⟨(.type "code"), none, (.fields #[(.str "escape" 479), (.str "escape" 480), (.str "/claim/cut.py" 481), (.int 10 0), (.int 1 0), (.int 0 0), (.int 0 0), (.int 3 0), (.ref 49), (.bool .true), (.int 276 0), (.ref 50), .none, (.ref 51), (.ref 52), (.ref 53), (.int 483 0), (.int 10 0), (.str "/claim/cut.py" 484)]), #[]⟩
noncomputable def o_55 (_ : Params) : Obj := ⟨(.type "function"), none, (.func (fnD 6 3 .none (.str "re" 331) (.ref 54))), #[]⟩
noncomputable def o_56 (_ : Params) : Obj := ⟨(.type "tuple"), none, (.seq #[] 0), #[]⟩
noncomputable def o_57 (_ : Params) : Obj := ⟨.none, none, (.fields #[]), #[]⟩
noncomputable def o_58 (_ : Params) : Obj := ⟨(.type "tuple"), none, (.seq #[(.str "pat" 491), (.str "STAR" 492), (.str "QUESTION_MARK" 493), (.str "res" 494), (.str "add" 495), (.str "i" 496), (.str "n" 497), (.str "c" 498), (.str "j" 499), (.str "stuff" 500), (.str "chunks" 501), (.str "k" 502), (.str "chunk" 503)] 0), #[]⟩
noncomputable def o_59 (_ : Params) : Obj := ⟨(.type "tuple"), none, (.seq #[] 0), #[]⟩
noncomputable def o_60 (_ : Params) : Obj := ⟨.none, none, (.func (fnD 8 0 .none .none .none)), #[]⟩
noncomputable def o_61 (_ : Params) : Obj := ⟨(.type "code"), none, (.fields #[(.str "_translate" 488), (.str "_translate" 489), (.str "/claim/cut.py" 490), (.int 17 0), (.int 3 0), (.int 0 0), (.int 0 0), (.int 3 0), (.ref 56), (.bool .true), (.int 276 0), (.ref 57), .none, (.ref 58), (.ref 59), (.ref 60), (.int 504 0), (.int 17 0), (.str "/claim/cut.py" 505)]), #[]⟩
noncomputable def o_62 (_ : Params) : Obj := ⟨(.type "function"), none, (.func (fnD 8 3 .none (.str "cpy313.fnmatch" 486) (.ref 61))), #[]⟩
noncomputable def o_63 (_ : Params) : Obj := ⟨(.type "tuple"), none, (.seq #[] 0), #[]⟩
noncomputable def o_64 (_ : Params) : Obj := ⟨.none, none, (.fields #[]), #[]⟩
noncomputable def o_65 (_ : Params) : Obj := ⟨(.type "tuple"), none, (.seq #[(.str "inp" 510), (.str "STAR" 511), (.str "res" 512), (.str "add" 513), (.str "i" 514), (.str "n" 515), (.str "fixed" 516)] 0), #[]⟩
noncomputable def o_66 (_ : Params) : Obj := ⟨(.type "tuple"), none, (.seq #[] 0), #[]⟩
noncomputable def o_67 (_ : Params) : Obj := ⟨.none, none, (.func (fnD 9 0 .none .none .none)), #[]⟩
noncomputable def o_68 (_ : Params) : Obj := ⟨(.type "code"), none, (.fields #[(.str "_join_translated_parts" 507), (.str "_join_translated_parts" 508), (.str "/claim/cut.py" 509), (.int 79 0), (.int 2 0), (.int 0 0), (.int 0 0), (.int 3 0), (.ref 63), (.bool .true), (.int 276 0), (.ref 64), .none, (.ref 65), (.ref 66), (.ref 67), (.int 517 0), (.int 79 0), (.str "/claim/cut.py" 518)]), #[]⟩
noncomputable def o_69 (_ : Params) : Obj := ⟨(.type "function"), none, (.func (fnD 9 3 .none (.str "cpy313.fnmatch" 486) (.ref 68))), #[]⟩
noncomputable def o_70 (_ : Params) : Obj := ⟨(.type "list"), none, (.seq #[(.int 14 523), (.int 8 524), (.int 1 525), (.int 3 526), (.int 3 527), (.int 1 528), (.int 1 529), (.int 61 530), (.int 0 531), (.int 16 532), (.int 61 533), (.int 24 534), (.int 16 535), (.int 2 536), (.int 2 537), (.int 13 538), (.int 11 539), (.int 9 540), (.int 0 541), (.int 67043328 542), (.int 126 543), (.int 126 544), (.int 0 545), (.int 0 546), (.int 0 547), (.int 0 548), (.int 0 549), (.int 1 550), (.int 1 551)] 0), #[]⟩
noncomputable def o_71 (_ : Params) : Obj := ⟨(.type "dict"), none, (.dict #[] 0), #[]⟩
noncomputable def o_72 (_ : Params) : Obj := ⟨(.type "tuple"), none, (.seq #[.none] 0), #[]⟩
noncomputable def o_73 (_ : Params) : Obj := ⟨(.type "tuple"), none, (.seq #[(.int 14 0), (.int 8 0), (.int 1 0), (.int 3 0), (.int 3 0), (.int 1 0), (.int 1 0), (.int 61 0), (.int 0 0), (.int 16 0), (.int 61 0), (.int 24 0), (.int 16 0), (.int 2 0), (.int 2 0), (.int 13 0), (.int 11 0), (.int 9 0), (.int 0 0), (.int 67043328 0), (.int 126 0), (.int 126 0), (.int 0 0), (.int 0 0), (.int 0 0), (.int 0 0), (.int 0 0), (.int 1 0), (.int 1 0)] 0), #[]⟩
noncomputable def o_74 (_ : Params) : Obj := ⟨(.type "re.Pattern"), none, (.fields #[(.str "=[a-fA-F0-9]{2}" 521), (.int 256 553), (.int 0 0), .none, .none, (.ref 73), (.int 0 0)]), #[]⟩
noncomputable def o_75 (_ : Params) : Obj := ⟨(.type "range"), none, (.fields #[(.int 0 556), (.int 256 555), (.int 1 557)]), #[]⟩
noncomputable def o_76 (_ : Params) : Obj := ⟨(.type "range_iterator"), none, (.fields #[(.int 256 0), (.int 0 0), (.int 1 0)]), #[]⟩
noncomputable def o_77 (_ : Params) : Obj := ⟨.type "list", none, .seq f77.toArray 256, #[]⟩
noncomputable def o_78 (_ : Params) : Obj := ⟨(.type "dict"), none, (.dict #[] 2), #[]⟩
noncomputable def o_79 (_ : Params) : Obj := ⟨(.type "tuple"), none, (.seq #[] 0), #[]⟩
noncomputable def o_80 (_ : Params) : Obj := ⟨(.type "StopIteration"), none, (.fields #[(.ref 79), .none, .none, .none, (.bool .false), .none]), #[]⟩
noncomputable def o_81 (_ : Params) : Obj := ⟨(.type "slice"), none, (.fields #[.none, .none, .none]), #[]⟩
noncomputable def o_82 (_ : Params) : Obj := ⟨.type "list", none, .seq f82.toArray 0, #[]⟩
noncomputable def o_83 (_ : Params) : Obj := ⟨(.type "slice"), none, (.fields #[.none, .none, .none]), #[]⟩
noncomputable def o_84 (_ : Params) : Obj := ⟨.type "list", none, .seq f84.toArray 0, #[]⟩
noncomputable def o_85 (_ : Params) : Obj := ⟨(.type "bytes_iterator"), none, (.fields #[.none, (.int 67 0)]), #[]⟩
noncomputable def o_86 (_ : Params) : Obj := ⟨(.type "tuple"), none, (.seq #[] 0), #[]⟩
noncomputable def o_87 (_ : Params) : Obj := ⟨(.type "StopIteration"), none, (.fields #[(.ref 86), .none, .none, .none, (.bool .false), .none]), #[]⟩
noncomputable def o_88 (_ : Params) : Obj := ⟨(.type "bytes_iterator"), none, (.fields #[.none, (.int 95 0)]), #[]⟩
noncomputable def o_89 (_ : Params) : Obj := ⟨(.type "tuple"), none, (.seq #[] 0), #[]⟩
noncomputable def o_90 (_ : Params) : Obj := ⟨(.type "StopIteration"), none, (.fields #[(.ref 89), .none, .none, .none, (.bool .false), .none]), #[]⟩
noncomputable def o_91 (_ : Params) : Obj := ⟨(.type "tuple"), none, (.seq #[] 0), #[]⟩
noncomputable def o_92 (_ : Params) : Obj := ⟨.none, none, (.fields #[]), #[]⟩
noncomputable def o_93 (_ : Params) : Obj := ⟨(.type "tuple"), none, (.seq #[(.str "s" 2095)] 0), #[]⟩
noncomputable def o_94 (_ : Params) : Obj := ⟨(.type "tuple"), none, (.seq #[] 0), #[]⟩
noncomputable def o_95 (_ : Params) : Obj := ⟨.none, none, (.func (fnD 22 0 .none .none .none)), #[]⟩
noncomputable def o_96 (_ : Params) : Obj := ⟨(.type "code"), none, (.fields #[(.str "unquote" 2092), (.str "unquote" 2093), (.str "/claim/cut.py" 2094), (.int 120 0), (.int 1 0), (.int 0 0), (.int 0 0), (.int 3 0), (.ref 91), (.bool .true), (.int 276 0), (.ref 92), .none, (.ref 93), (.ref 94), (.ref 95), (.int 2096 0), (.int 120 0), (.str "/claim/cut.py" 2097)]), #[]⟩
noncomputable def o_97 (_ : Params) : Obj := ⟨(.type "function"), none, (.func (fnD 22 3 .none (.str "cpy313.email.quoprimime" 1593) (.ref 96))), #[]⟩
noncomputable def o_98 (_ : Params) : Obj := ⟨(.type "tuple"), none, (.seq #[(.str "iso-8859-1" 2099)] 0), #[]⟩
noncomputable def o_99 (_ : Params) : Obj := ⟨(.type "tuple"), none, (.seq #[] 0), #[]⟩
noncomputable def o_100 (_ : Params) : Obj := ⟨.none, none, (.fields #[]), #[]⟩
noncomputable def o_101 (_ : Params) : Obj := ⟨(.type "tuple"), none, (.seq #[(.str "header_bytes" 2103), (.str "charset" 2104), (.str "encoded" 2105)] 0), #[]⟩
noncomputable def o_102 (_ : Params) : Obj := ⟨(.type "tuple"), none, (.seq #[] 0), #[]⟩
noncomputable def o_103 (_ : Params) : Obj := ⟨.none, none, (.func (fnD 23 0 .none .none .none)), #[]⟩
noncomputable def o_104 (_ : Params) : Obj := ⟨(.type "code"), none, (.fields #[(.str "header_encode" 2100), (.str "header_encode" 2101), (.str "/claim/cut.py" 2102), (.int 122 0), (.int 2 0), (.int 0 0), (.int 0 0), (.int 3 0), (.ref 99), (.bool .true), (.int 276 0), (.ref 100), .none, (.ref 101), (.ref 102), (.ref 103), (.int 2106 0), (.int 122 0), (.str "/claim/cut.py" 2107)]), #[]⟩
noncomputable def o_105 (_ : Params) : Obj := ⟨(.type "function"), none, (.func (fnD 23 3 (.ref 98) (.str "cpy313.email.quoprimime" 1593) (.ref 104))), #[]⟩
noncomputable def o_106 (_ : Params) : Obj := ⟨(.type "slice"), none, (.fields #[.none, .none, .none]), #[]⟩
noncomputable def o_107 (_ : Params) : Obj := ⟨.type "list", none, .seq f107.toArray 0, #[]⟩
noncomputable def o_108 (_ : Params) : Obj := ⟨(.type "bytes_iterator"), none, (.fields #[.none, (.int 2 0)]), #[]⟩
noncomputable def o_109 (_ : Params) : Obj := ⟨(.type "tuple"), none, (.seq #[] 0), #[]⟩
noncomputable def o_110 (_ : Params) : Obj := ⟨(.type "StopIteration"), none, (.fields #[(.ref 109), .none, .none, .none, (.bool .false), .none]), #[]⟩
noncomputable def o_111 (_ : Params) : Obj := ⟨(.type "tuple"), none, (.seq #[] 0), #[]⟩
noncomputable def o_112 (_ : Params) : Obj := ⟨.none, none, (.fields #[]), #[]⟩
noncomputable def o_113 (_ : Params) : Obj := ⟨(.type "tuple"), none, (.seq #[(.str "match" 2120), (.str "s" 2121)] 0), #[]⟩
noncomputable def o_114 (_ : Params) : Obj := ⟨(.type "tuple"), none, (.seq #[] 0), #[]⟩
noncomputable def o_115 (_ : Params) : Obj := ⟨.none, none, (.func (fnD 27 0 .none .none .none)), #[]⟩
noncomputable def o_116 (_ : Params) : Obj := ⟨(.type "code"), none, (.fields #[(.str "_unquote_match" 2117), (.str "_unquote_match" 2118), (.str "/claim/cut.py" 2119), (.int 131 0), (.int 1 0), (.int 0 0), (.int 0 0), (.int 3 0), (.ref 111), (.bool .true), (.int 276 0), (.ref 112), .none, (.ref 113), (.ref 114), (.ref 115), (.int 2122 0), (.int 131 0), (.str "/claim/cut.py" 2123)]), #[]⟩
noncomputable def o_117 (_ : Params) : Obj := ⟨(.type "function"), none, (.func (fnD 27 3 .none (.str "cpy313.email.quoprimime" 1593) (.ref 116))), #[]⟩
noncomputable def o_118 (_ : Params) : Obj := ⟨(.type "tuple"), none, (.seq #[] 0), #[]⟩
noncomputable def o_119 (_ : Params) : Obj := ⟨.none, none, (.fields #[]), #[]⟩
noncomputable def o_120 (_ : Params) : Obj := ⟨(.type "tuple"), none, (.seq #[(.str "s" 2128)] 0), #[]⟩
noncomputable def o_121 (_ : Params) : Obj := ⟨(.type "tuple"), none, (.seq #[] 0), #[]⟩
noncomputable def o_122 (_ : Params) : Obj := ⟨.none, none, (.func (fnD 28 0 .none .none .none)), #[]⟩
noncomputable def o_123 (_ : Params) : Obj := ⟨(.type "code"), none, (.fields #[(.str "header_decode" 2125), (.str "header_decode" 2126), (.str "/claim/cut.py" 2127), (.int 134 0), (.int 1 0), (.int 0 0), (.int 0 0), (.int 3 0), (.ref 118), (.bool .true), (.int 276 0), (.ref 119), .none, (.ref 120), (.ref 121), (.ref 122), (.int 2129 0), (.int 134 0), (.str "/claim/cut.py" 2130)]), #[]⟩
noncomputable def o_124 (_ : Params) : Obj := ⟨(.type "function"), none, (.func (fnD 28 3 .none (.str "cpy313.email.quoprimime" 1593) (.ref 123))), #[]⟩
noncomputable def o_125 (_ : Params) : Obj := ⟨(.type "tuple"), none, (.seq #[] 0), #[]⟩
noncomputable def o_126 (_ : Params) : Obj := ⟨.none, none, (.fields #[]), #[]⟩
noncomputable def o_127 (_ : Params) : Obj := ⟨.none, none, (.func (fnD 30 0 .none .none .none)), #[]⟩
noncomputable def o_128 (_ : Params) : Obj := ⟨(.type "code"), none, (.fields #[(.str "_law_header" 2134), (.str "_law_header" 2135), (.str "/claim/cut.py" 2136), (.int 138 0), (.int 1 0), (.int 0 0), (.int 0 0), (.int 3 0), (.ref 125), (.bool .true), (.int 276 0), (.ref 126), .none, .none, .none, (.ref 127), (.int 2137 0), (.int 138 0), (.str "/claim/cut.py" 2138)]), #[]⟩
noncomputable def o_129 (_ : Params) : Obj := ⟨(.type "function"), none, (.func (fnD 30 3 .none (.str "law_ij0038_01" 2132) (.ref 128))), #[]⟩
noncomputable def o_130 (_ : Params) : Obj := ⟨(.type "tuple"), none, (.seq #[] 0), #[]⟩
noncomputable def o_131 (_ : Params) : Obj := ⟨.none, none, (.fields #[]), #[]⟩
noncomputable def o_132 (_ : Params) : Obj := ⟨.none, none, (.func (fnD 31 0 .none .none .none)), #[]⟩
noncomputable def o_133 (_ : Params) : Obj := ⟨(.type "code"), none, (.fields #[(.str "_law_read" 2140), (.str "_law_read" 2141), (.str "/claim/cut.py" 2142), (.int 166 0), (.int 1 0), (.int 0 0), (.int 0 0), (.int 3 0), (.ref 130), (.bool .true), (.int 276 0), (.ref 131), .none, .none, .none, (.ref 132), (.int 2143 0), (.int 166 0), (.str "/claim/cut.py" 2144)]), #[]⟩
noncomputable def o_134 (_ : Params) : Obj := ⟨(.type "function"), none, (.func (fnD 31 3 .none (.str "law_ij0038_01" 2132) (.ref 133))), #[]⟩
noncomputable def o_135 (_ : Params) : Obj := ⟨(.type "tuple"), none, (.seq #[] 0), #[]⟩
noncomputable def o_136 (_ : Params) : Obj := ⟨.none, none, (.fields #[]), #[]⟩
noncomputable def o_137 (_ : Params) : Obj := ⟨.none, none, (.func (fnD 32 0 .none .none .none)), #[]⟩
noncomputable def o_138 (_ : Params) : Obj := ⟨(.type "code"), none, (.fields #[(.str "_law_at" 2146), (.str "_law_at" 2147), (.str "/claim/cut.py" 2148), (.int 207 0), (.int 3 0), (.int 0 0), (.int 0 0), (.int 3 0), (.ref 135), (.bool .true), (.int 276 0), (.ref 136), .none, .none, .none, (.ref 137), (.int 2149 0), (.int 207 0), (.str "/claim/cut.py" 2150)]), #[]⟩
noncomputable def o_139 (_ : Params) : Obj := ⟨(.type "function"), none, (.func (fnD 32 3 .none (.str "law_ij0038_01" 2132) (.ref 138))), #[]⟩
noncomputable def o_140 (_ : Params) : Obj := ⟨(.type "tuple"), none, (.seq #[] 0), #[]⟩
noncomputable def o_141 (_ : Params) : Obj := ⟨.none, none, (.fields #[]), #[]⟩
noncomputable def o_142 (_ : Params) : Obj := ⟨(.type "tuple"), none, (.seq #[(.str "runs" 2155), (.str "name" 2156), (.str "at" 2157), (.str "shares" 2158), (.str "run" 2159), (.str "here" 2160), (.str "last" 2161)] 0), #[]⟩
noncomputable def o_143 (_ : Params) : Obj := ⟨(.type "tuple"), none, (.seq #[] 0), #[]⟩
noncomputable def o_144 (_ : Params) : Obj := ⟨.none, none, (.func (fnD 33 0 .none .none .none)), #[]⟩
noncomputable def o_145 (_ : Params) : Obj := ⟨(.type "code"), none, (.fields #[(.str "_law_shares" 2152), (.str "_law_shares" 2153), (.str "/claim/cut.py" 2154), (.int 215 0), (.int 2 0), (.int 0 0), (.int 0 0), (.int 3 0), (.ref 140), (.bool .true), (.int 276 0), (.ref 141), .none, (.ref 142), (.ref 143), (.ref 144), (.int 2162 0), (.int 215 0), (.str "/claim/cut.py" 2163)]), #[]⟩
noncomputable def o_146 (_ : Params) : Obj := ⟨(.type "function"), none, (.func (fnD 33 3 .none (.str "law_ij0038_01" 2132) (.ref 145))), #[]⟩
noncomputable def o_147 (_ : Params) : Obj := ⟨(.type "tuple"), none, (.seq #[] 0), #[]⟩
noncomputable def o_148 (_ : Params) : Obj := ⟨.none, none, (.fields #[]), #[]⟩
noncomputable def o_149 (_ : Params) : Obj := ⟨.none, none, (.func (fnD 34 0 .none .none .none)), #[]⟩
noncomputable def o_150 (_ : Params) : Obj := ⟨(.type "code"), none, (.fields #[(.str "law" 2165), (.str "law" 2166), (.str "/claim/cut.py" 2167), (.int 234 0), (.int 1 0), (.int 0 0), (.int 0 0), (.int 3 0), (.ref 147), (.bool .true), (.int 276 0), (.ref 148), .none, .none, .none, (.ref 149), (.int 2168 0), (.int 234 0), (.str "/claim/cut.py" 2169)]), #[]⟩
noncomputable def o_151 (_ : Params) : Obj := ⟨(.type "function"), none, (.func (fnD 34 3 .none (.str "law_ij0038_01" 2132) (.ref 150))), #[]⟩
noncomputable def db_3 (P : Params) : Obj := ⟨(.type "dict"), none, (.dict #[(de P "__name__" 165 (.str "__main__" 164)), (de P "__doc__" 166 .none), (de P "__package__" 167 .none), (de P "__loader__" 168 (.builtin "__main__.__loader__#opaque")), (de P "__spec__" 169 .none), (de P "__annotations__" 170 (.ref 6)), (de P "__builtins__" 171 (.ref 4)), (de P "__file__" 173 (.str "/claim/cut.py" 172)), (de P "__cached__" 174 .none), (de P "_sre" 275 (.ref 12))] 10), #[]⟩
noncomputable def db_29 (_ : Params) : Obj := ⟨.none, none, (.fields #[]), #[]⟩
noncomputable def tr_0 (P : Params) (x3 x29 : Obj) : BT := (.node (boot_o_0 P) (.node (o_1 P) (.node (x3) (.node (o_7 P) (.node (o_15 P) (.node (o_31 P) .nil .nil) .nil) (.node (o_23 P) .nil .nil)) (.node (o_11 P) (.node (o_19 P) .nil .nil) (.node (o_27 P) .nil .nil))) (.node (o_5 P) (.node (o_9 P) (.node (o_17 P) .nil .nil) (.node (o_25 P) .nil .nil)) (.node (o_13 P) (.node (o_21 P) .nil .nil) (.node (x29) .nil .nil)))) (.node (o_2 P) (.node (o_4 P) (.node (o_8 P) (.node (o_16 P) .nil .nil) (.node (o_24 P) .nil .nil)) (.node (o_12 P) (.node (o_20 P) .nil .nil) (.node (o_28 P) .nil .nil))) (.node (o_6 P) (.node (o_10 P) (.node (o_18 P) .nil .nil) (.node (o_26 P) .nil .nil)) (.node (o_14 P) (.node (o_22 P) .nil .nil) (.node (o_30 P) .nil .nil)))))
noncomputable def tb (P : Params) : BT := tr_0 P (db_3 P) (db_29 P)
noncomputable def Sb (w : World) (os : OsState) : SharedT := ⟨tb w.params, 32, {}, #[], {}, 282, os⟩
noncomputable def d3_3 (P : Params) : Obj := ⟨(.type "dict"), none, (.dict #[(de P "__name__" 165 (.str "re" 331)), (de P "__doc__" 166 .none), (de P "__package__" 167 .none), (de P "__loader__" 168 (.builtin "__main__.__loader__#opaque")), (de P "__spec__" 169 .none), (de P "__annotations__" 170 (.ref 6)), (de P "__builtins__" 171 (.ref 4)), (de P "__file__" 173 (.str "/claim/cut.py" 172)), (de P "__cached__" 174 .none), (de P "_sre" 275 (.ref 12)), (de P "twin_re_1_fnmatch" 321 (.ref 36)), (de P "translate" 330 (.ref 43))] 12), #[]⟩
noncomputable def d3_29 (_ : Params) : Obj := ⟨.none, none, (.fields #[(.int 4 0), (.int 0 0), (.ref 42)]), #[]⟩
noncomputable def tr_1 (P : Params) (x3 x29 : Obj) : BT := (.node (boot_o_0 P) (.node (o_1 P) (.node (x3) (.node (o_7 P) (.node (o_15 P) (.node (o_31 P) .nil .nil) .nil) (.node (o_23 P) (.node (o_39 P) .nil .nil) .nil)) (.node (o_11 P) (.node (o_19 P) (.node (o_35 P) .nil .nil) .nil) (.node (o_27 P) (.node (o_43 P) .nil .nil) .nil))) (.node (o_5 P) (.node (o_9 P) (.node (o_17 P) (.node (o_33 P) .nil .nil) .nil) (.node (o_25 P) (.node (o_41 P) .nil .nil) .nil)) (.node (o_13 P) (.node (o_21 P) (.node (o_37 P) .nil .nil) .nil) (.node (x29) .nil .nil)))) (.node (o_2 P) (.node (o_4 P) (.node (o_8 P) (.node (o_16 P) (.node (o_32 P) .nil .nil) .nil) (.node (o_24 P) (.node (o_40 P) .nil .nil) .nil)) (.node (o_12 P) (.node (o_20 P) (.node (o_36 P) .nil .nil) .nil) (.node (o_28 P) .nil .nil))) (.node (o_6 P) (.node (o_10 P) (.node (o_18 P) (.node (o_34 P) .nil .nil) .nil) (.node (o_26 P) (.node (o_42 P) .nil .nil) .nil)) (.node (o_14 P) (.node (o_22 P) (.node (o_38 P) .nil .nil) .nil) (.node (o_30 P) .nil .nil)))))
noncomputable def t3 (P : Params) : BT := tr_1 P (d3_3 P) (d3_29 P)
noncomputable def S3 (w : World) (os : OsState) : SharedT := ⟨t3 w.params, 44, {}, #[], {}, 333, os⟩
noncomputable def d4_3 (P : Params) : Obj := ⟨(.type "dict"), none, (.dict #[(de P "__name__" 165 (.str "re" 331)), (de P "__doc__" 166 .none), (de P "__package__" 167 .none), (de P "__loader__" 168 (.builtin "__main__.__loader__#opaque")), (de P "__spec__" 169 .none), (de P "__annotations__" 170 (.ref 6)), (de P "__builtins__" 171 (.ref 4)), (de P "__file__" 173 (.str "/claim/cut.py" 172)), (de P "__cached__" 174 .none), (de P "_sre" 275 (.ref 12)), (de P "twin_re_1_fnmatch" 321 (.ref 36)), (de P "translate" 330 (.ref 43)), (de P "_special_chars_map" 478 (.ref 45))] 13), #[]⟩
noncomputable def tr_2 (P : Params) (x3 x29 : Obj) : BT := (.node (boot_o_0 P) (.node (o_1 P) (.node (x3) (.node (o_7 P) (.node (o_15 P) (.node (o_31 P) .nil .nil) (.node (o_47 P) .nil .nil)) (.node (o_23 P) (.node (o_39 P) .nil .nil) .nil)) (.node (o_11 P) (.node (o_19 P) (.node (o_35 P) .nil .nil) .nil) (.node (o_27 P) (.node (o_43 P) .nil .nil) .nil))) (.node (o_5 P) (.node (o_9 P) (.node (o_17 P) (.node (o_33 P) .nil .nil) .nil) (.node (o_25 P) (.node (o_41 P) .nil .nil) .nil)) (.node (o_13 P) (.node (o_21 P) (.node (o_37 P) .nil .nil) .nil) (.node (x29) (.node (o_45 P) .nil .nil) .nil)))) (.node (o_2 P) (.node (o_4 P) (.node (o_8 P) (.node (o_16 P) (.node (o_32 P) .nil .nil) (.node (o_48 P) .nil .nil)) (.node (o_24 P) (.node (o_40 P) .nil .nil) .nil)) (.node (o_12 P) (.node (o_20 P) (.node (o_36 P) .nil .nil) .nil) (.node (o_28 P) (.node (o_44 P) .nil .nil) .nil))) (.node (o_6 P) (.node (o_10 P) (.node (o_18 P) (.node (o_34 P) .nil .nil) .nil) (.node (o_26 P) (.node (o_42 P) .nil .nil) .nil)) (.node (o_14 P) (.node (o_22 P) (.node (o_38 P) .nil .nil) .nil) (.node (o_30 P) (.node (o_46 P) .nil .nil) .nil)))))
noncomputable def t4 (P : Params) : BT := tr_2 P (d4_3 P) (d3_29 P)
noncomputable def S4 (w : World) (os : OsState) : SharedT := ⟨t4 w.params, 49, {}, #[], {}, 479, os⟩
noncomputable def d9_3 (P : Params) : Obj := ⟨(.type "dict"), none, (.dict #[(de P "__name__" 165 (.str "cpy313.fnmatch" 486)), (de P "__doc__" 166 .none), (de P "__package__" 167 .none), (de P "__loader__" 168 (.builtin "__main__.__loader__#opaque")), (de P "__spec__" 169 .none), (de P "__annotations__" 170 (.ref 6)), (de P "__builtins__" 171 (.ref 4)), (de P "__file__" 173 (.str "/claim/cut.py" 172)), (de P "__cached__" 174 .none), (de P "_sre" 275 (.ref 12)), (de P "twin_re_1_fnmatch" 321 (.ref 36)), (de P "translate" 330 (.ref 43)), (de P "_special_chars_map" 478 (.ref 45)), (de P "escape" 485 (.ref 55)), (de P "_translate" 506 (.ref 62)), (de P "_join_translated_parts" 519 (.ref 69)), (de P "twin_re_1_quoprimime" 554 (.ref 74))] 17), #[]⟩
noncomputable def d9_29 (_ : Params) : Obj := ⟨.none, none, (.fields #[(.int 4 0), (.int 0 0), (.ref 42), (.int 10 0), (.int 0 0), (.ref 54), (.int 17 0), (.int 0 0), (.ref 61), (.int 79 0), (.int 0 0), (.ref 68)]), #[]⟩
noncomputable def tr_3 (P : Params) (x3 x29 : Obj) : BT := (.node (boot_o_0 P) (.node (o_1 P) (.node (x3) (.node (o_7 P) (.node (o_15 P) (.node (o_31 P) (.node (o_63 P) .nil .nil) .nil) (.node (o_47 P) .nil .nil)) (.node (o_23 P) (.node (o_39 P) (.node (o_71 P) .nil .nil) .nil) (.node (o_55 P) .nil .nil))) (.node (o_11 P) (.node (o_19 P) (.node (o_35 P) (.node (o_67 P) .nil .nil) .nil) (.node (o_51 P) .nil .nil)) (.node (o_27 P) (.node (o_43 P) .nil .nil) (.node (o_59 P) .nil .nil)))) (.node (o_5 P) (.node (o_9 P) (.node (o_17 P) (.node (o_33 P) (.node (o_65 P) .nil .nil) .nil) (.node (o_49 P) .nil .nil)) (.node (o_25 P) (.node (o_41 P) (.node (o_73 P) .nil .nil) .nil) (.node (o_57 P) .nil .nil))) (.node (o_13 P) (.node (o_21 P) (.node (o_37 P) (.node (o_69 P) .nil .nil) .nil) (.node (o_53 P) .nil .nil)) (.node (x29) (.node (o_45 P) .nil .nil) (.node (o_61 P) .nil .nil))))) (.node (o_2 P) (.node (o_4 P) (.node (o_8 P) (.node (o_16 P) (.node (o_32 P) (.node (o_64 P) .nil .nil) .nil) (.node (o_48 P) .nil .nil)) (.node (o_24 P) (.node (o_40 P) (.node (o_72 P) .nil .nil) .nil) (.node (o_56 P) .nil .nil))) (.node (o_12 P) (.node (o_20 P) (.node (o_36 P) (.node (o_68 P) .nil .nil) .nil) (.node (o_52 P) .nil .nil)) (.node (o_28 P) (.node (o_44 P) .nil .nil) (.node (o_60 P) .nil .nil)))) (.node (o_6 P) (.node (o_10 P) (.node (o_18 P) (.node (o_34 P) (.node (o_66 P) .nil .nil) .nil) (.node (o_50 P) .nil .nil)) (.node (o_26 P) (.node (o_42 P) (.node (o_74 P) .nil .nil) .nil) (.node (o_58 P) .nil .nil))) (.node (o_14 P) (.node (o_22 P) (.node (o_38 P) (.node (o_70 P) .nil .nil) .nil) (.node (o_54 P) .nil .nil)) (.node (o_30 P) (.node (o_46 P) .nil .nil) (.node (o_62 P) .nil .nil))))))
noncomputable def t9 (P : Params) : BT := tr_3 P (d9_3 P) (d9_29 P)
noncomputable def S9 (w : World) (os : OsState) : SharedT := ⟨t9 w.params, 75, {}, #[], {}, 555, os⟩
noncomputable def d10_3 (P : Params) : Obj := ⟨(.type "dict"), none, (.dict #[(de P "__name__" 165 (.str "cpy313.fnmatch" 486)), (de P "__doc__" 166 .none), (de P "__package__" 167 .none), (de P "__loader__" 168 (.builtin "__main__.__loader__#opaque")), (de P "__spec__" 169 .none), (de P "__annotations__" 170 (.ref 6)), (de P "__builtins__" 171 (.ref 4)), (de P "__file__" 173 (.str "/claim/cut.py" 172)), (de P "__cached__" 174 .none), (de P "_sre" 275 (.ref 12)), (de P "twin_re_1_fnmatch" 321 (.ref 36)), (de P "translate" 330 (.ref 43)), (de P "_special_chars_map" 478 (.ref 45)), (de P "escape" 485 (.ref 55)), (de P "_translate" 506 (.ref 62)), (de P "_join_translated_parts" 519 (.ref 69)), (de P "twin_re_1_quoprimime" 554 (.ref 74)), (de P "_QUOPRI_MAP" 1582 (.ref 77))] 18), #[]⟩
noncomputable def tr_4 (P : Params) (x3 x29 : Obj) : BT := (.node (boot_o_0 P) (.node (o_1 P) (.node (x3) (.node (o_7 P) (.node (o_15 P) (.node (o_31 P) (.node (o_63 P) .nil .nil) .nil) (.node (o_47 P) (.node (o_79 P) .nil .nil) .nil)) (.node (o_23 P) (.node (o_39 P) (.node (o_71 P) .nil .nil) .nil) (.node (o_55 P) .nil .nil))) (.node (o_11 P) (.node (o_19 P) (.node (o_35 P) (.node (o_67 P) .nil .nil) .nil) (.node (o_51 P) .nil .nil)) (.node (o_27 P) (.node (o_43 P) (.node (o_75 P) .nil .nil) .nil) (.node (o_59 P) .nil .nil)))) (.node (o_5 P) (.node (o_9 P) (.node (o_17 P) (.node (o_33 P) (.node (o_65 P) .nil .nil) .nil) (.node (o_49 P) .nil .nil)) (.node (o_25 P) (.node (o_41 P) (.node (o_73 P) .nil .nil) .nil) (.node (o_57 P) .nil .nil))) (.node (o_13 P) (.node (o_21 P) (.node (o_37 P) (.node (o_69 P) .nil .nil) .nil) (.node (o_53 P) .nil .nil)) (.node (x29) (.node (o_45 P) (.node (o_77 P) .nil .nil) .nil) (.node (o_61 P) .nil .nil))))) (.node (o_2 P) (.node (o_4 P) (.node (o_8 P) (.node (o_16 P) (.node (o_32 P) (.node (o_64 P) .nil .nil) .nil) (.node (o_48 P) (.node (o_80 P) .nil .nil) .nil)) (.node (o_24 P) (.node (o_40 P) (.node (o_72 P) .nil .nil) .nil) (.node (o_56 P) .nil .nil))) (.node (o_12 P) (.node (o_20 P) (.node (o_36 P) (.node (o_68 P) .nil .nil) .nil) (.node (o_52 P) .nil .nil)) (.node (o_28 P) (.node (o_44 P) (.node (o_76 P) .nil .nil) .nil) (.node (o_60 P) .nil .nil)))) (.node (o_6 P) (.node (o_10 P) (.node (o_18 P) (.node (o_34 P) (.node (o_66 P) .nil .nil) .nil) (.node (o_50 P) .nil .nil)) (.node (o_26 P) (.node (o_42 P) (.node (o_74 P) .nil .nil) .nil) (.node (o_58 P) .nil .nil))) (.node (o_14 P) (.node (o_22 P) (.node (o_38 P) (.node (o_70 P) .nil .nil) .nil) (.node (o_54 P) .nil .nil)) (.node (o_30 P) (.node (o_46 P) (.node (o_78 P) .nil .nil) .nil) (.node (o_62 P) .nil .nil))))))
noncomputable def t10 (P : Params) : BT := tr_4 P (d10_3 P) (d9_29 P)
noncomputable def S10 (w : World) (os : OsState) : SharedT := ⟨t10 w.params, 81, {}, #[], {}, 1583, os⟩
noncomputable def d17_3 (P : Params) : Obj := ⟨(.type "dict"), none, (.dict #[(de P "__name__" 165 (.str "cpy313.email.quoprimime" 1593)), (de P "__doc__" 166 .none), (de P "__package__" 167 .none), (de P "__loader__" 168 (.builtin "__main__.__loader__#opaque")), (de P "__spec__" 169 .none), (de P "__annotations__" 170 (.ref 6)), (de P "__builtins__" 171 (.ref 4)), (de P "__file__" 173 (.str "/claim/cut.py" 172)), (de P "__cached__" 174 .none), (de P "_sre" 275 (.ref 12)), (de P "twin_re_1_fnmatch" 321 (.ref 36)), (de P "translate" 330 (.ref 43)), (de P "_special_chars_map" 478 (.ref 45)), (de P "escape" 485 (.ref 55)), (de P "_translate" 506 (.ref 62)), (de P "_join_translated_parts" 519 (.ref 69)), (de P "twin_re_1_quoprimime" 554 (.ref 74)), (de P "_QUOPRI_MAP" 1582 (.ref 77)), (de P "_QUOPRI_HEADER_MAP" 1583 (.ref 82)), (de P "_QUOPRI_BODY_MAP" 1584 (.ref 84)), (de P "ascii_lowercase" 1586 (.str "abcdefghijklmnopqrstuvwxyz" 1585)), (de P "ascii_uppercase" 1588 (.str "ABCDEFGHIJKLMNOPQRSTUVWXYZ" 1587)), (de P "ascii_letters" 1590 (.str "abcdefghijklmnopqrstuvwxyzABCDEFGHIJKLMNOPQRSTUVWXYZ" 1589)), (de P "digits" 1592 (.str "0123456789" 1591))] 24), #[]⟩
noncomputable def d17_82 (_ : Params) : Obj := ⟨.type "list", none, .seq (mixL f77 f82 (k82.take 0)).toArray 0, #[]⟩
noncomputable def d17_84 (_ : Params) : Obj := ⟨.type "list", none, .seq (mixL f77 f84 (k84.take 0)).toArray 0, #[]⟩
noncomputable def tr_5 (P : Params) (x3 x29 x82 x84 : Obj) : BT := (.node (boot_o_0 P) (.node (o_1 P) (.node (x3) (.node (o_7 P) (.node (o_15 P) (.node (o_31 P) (.node (o_63 P) .nil .nil) .nil) (.node (o_47 P) (.node (o_79 P) .nil .nil) .nil)) (.node (o_23 P) (.node (o_39 P) (.node (o_71 P) .nil .nil) .nil) (.node (o_55 P) .nil .nil))) (.node (o_11 P) (.node (o_19 P) (.node (o_35 P) (.node (o_67 P) .nil .nil) .nil) (.node (o_51 P) (.node (o_83 P) .nil .nil) .nil)) (.node (o_27 P) (.node (o_43 P) (.node (o_75 P) .nil .nil) .nil) (.node (o_59 P) .nil .nil)))) (.node (o_5 P) (.node (o_9 P) (.node (o_17 P) (.node (o_33 P) (.node (o_65 P) .nil .nil) .nil) (.node (o_49 P) (.node (o_81 P) .nil .nil) .nil)) (.node (o_25 P) (.node (o_41 P) (.node (o_73 P) .nil .nil) .nil) (.node (o_57 P) .nil .nil))) (.node (o_13 P) (.node (o_21 P) (.node (o_37 P) (.node (o_69 P) .nil .nil) .nil) (.node (o_53 P) .nil .nil)) (.node (x29) (.node (o_45 P) (.node (o_77 P) .nil .nil) .nil) (.node (o_61 P) .nil .nil))))) (.node (o_2 P) (.node (o_4 P) (.node (o_8 P) (.node (o_16 P) (.node (o_32 P) (.node (o_64 P) .nil .nil) .nil) (.node (o_48 P) (.node (o_80 P) .nil .nil) .nil)) (.node (o_24 P) (.node (o_40 P) (.node (o_72 P) .nil .nil) .nil) (.node (o_56 P) .nil .nil))) (.node (o_12 P) (.node (o_20 P) (.node (o_36 P) (.node (o_68 P) .nil .nil) .nil) (.node (o_52 P) (.node (x84) .nil .nil) .nil)) (.node (o_28 P) (.node (o_44 P) (.node (o_76 P) .nil .nil) .nil) (.node (o_60 P) .nil .nil)))) (.node (o_6 P) (.node (o_10 P) (.node (o_18 P) (.node (o_34 P) (.node (o_66 P) .nil .nil) .nil) (.node (o_50 P) (.node (x82) .nil .nil) .nil)) (.node (o_26 P) (.node (o_42 P) (.node (o_74 P) .nil .nil) .nil) (.node (o_58 P) .nil .nil))) (.node (o_14 P) (.node (o_22 P) (.node (o_38 P) (.node (o_70 P) .nil .nil) .nil) (.node (o_54 P) .nil .nil)) (.node (o_30 P) (.node (o_46 P) (.node (o_78 P) .nil .nil) .nil) (.node (o_62 P) .nil .nil))))))
noncomputable def t17 (P : Params) : BT := tr_5 P (d17_3 P) (d9_29 P) (d17_82 P) (d17_84 P)
noncomputable def S17 (w : World) (os : OsState) : SharedT := ⟨t17 w.params, 85, {}, #[], {}, 1595, os⟩
noncomputable def m_11 (P : Params) (v : Value) : Obj := ⟨(.type "dict"), none, (.dict #[(de P "__name__" 165 (.str "cpy313.email.quoprimime" 1593)), (de P "__doc__" 166 .none), (de P "__package__" 167 .none), (de P "__loader__" 168 (.builtin "__main__.__loader__#opaque")), (de P "__spec__" 169 .none), (de P "__annotations__" 170 (.ref 6)), (de P "__builtins__" 171 (.ref 4)), (de P "__file__" 173 (.str "/claim/cut.py" 172)), (de P "__cached__" 174 .none), (de P "_sre" 275 (.ref 12)), (de P "twin_re_1_fnmatch" 321 (.ref 36)), (de P "translate" 330 (.ref 43)), (de P "_special_chars_map" 478 (.ref 45)), (de P "escape" 485 (.ref 55)), (de P "_translate" 506 (.ref 62)), (de P "_join_translated_parts" 519 (.ref 69)), (de P "twin_re_1_quoprimime" 554 (.ref 74)), (de P "_QUOPRI_MAP" 1582 (.ref 77)), (de P "_QUOPRI_HEADER_MAP" 1583 (.ref 82)), (de P "_QUOPRI_BODY_MAP" 1584 (.ref 84)), (de P "ascii_lowercase" 1586 (.str "abcdefghijklmnopqrstuvwxyz" 1585)), (de P "ascii_uppercase" 1588 (.str "ABCDEFGHIJKLMNOPQRSTUVWXYZ" 1587)), (de P "ascii_letters" 1590 (.str "abcdefghijklmnopqrstuvwxyzABCDEFGHIJKLMNOPQRSTUVWXYZ" 1589)), (de P "digits" 1592 (.str "0123456789" 1591)), (de P "c" 1603 v)] 25), #[]⟩
noncomputable def d18_82 (_ : Params) : Obj := ⟨.type "list", none, .seq (mixL f77 f82 (k82.take 67)).toArray 0, #[]⟩
noncomputable def tr_6 (P : Params) (x3 x29 x82 x84 : Obj) : BT := (.node (boot_o_0 P) (.node (o_1 P) (.node (x3) (.node (o_7 P) (.node (o_15 P) (.node (o_31 P) (.node (o_63 P) .nil .nil) .nil) (.node (o_47 P) (.node (o_79 P) .nil .nil) .nil)) (.node (o_23 P) (.node (o_39 P) (.node (o_71 P) .nil .nil) .nil) (.node (o_55 P) (.node (o_87 P) .nil .nil) .nil))) (.node (o_11 P) (.node (o_19 P) (.node (o_35 P) (.node (o_67 P) .nil .nil) .nil) (.node (o_51 P) (.node (o_83 P) .nil .nil) .nil)) (.node (o_27 P) (.node (o_43 P) (.node (o_75 P) .nil .nil) .nil) (.node (o_59 P) .nil .nil)))) (.node (o_5 P) (.node (o_9 P) (.node (o_17 P) (.node (o_33 P) (.node (o_65 P) .nil .nil) .nil) (.node (o_49 P) (.node (o_81 P) .nil .nil) .nil)) (.node (o_25 P) (.node (o_41 P) (.node (o_73 P) .nil .nil) .nil) (.node (o_57 P) .nil .nil))) (.node (o_13 P) (.node (o_21 P) (.node (o_37 P) (.node (o_69 P) .nil .nil) .nil) (.node (o_53 P) (.node (o_85 P) .nil .nil) .nil)) (.node (x29) (.node (o_45 P) (.node (o_77 P) .nil .nil) .nil) (.node (o_61 P) .nil .nil))))) (.node (o_2 P) (.node (o_4 P) (.node (o_8 P) (.node (o_16 P) (.node (o_32 P) (.node (o_64 P) .nil .nil) .nil) (.node (o_48 P) (.node (o_80 P) .nil .nil) .nil)) (.node (o_24 P) (.node (o_40 P) (.node (o_72 P) .nil .nil) .nil) (.node (o_56 P) .nil .nil))) (.node (o_12 P) (.node (o_20 P) (.node (o_36 P) (.node (o_68 P) .nil .nil) .nil) (.node (o_52 P) (.node (x84) .nil .nil) .nil)) (.node (o_28 P) (.node (o_44 P) (.node (o_76 P) .nil .nil) .nil) (.node (o_60 P) .nil .nil)))) (.node (o_6 P) (.node (o_10 P) (.node (o_18 P) (.node (o_34 P) (.node (o_66 P) .nil .nil) .nil) (.node (o_50 P) (.node (x82) .nil .nil) .nil)) (.node (o_26 P) (.node (o_42 P) (.node (o_74 P) .nil .nil) .nil) (.node (o_58 P) .nil .nil))) (.node (o_14 P) (.node (o_22 P) (.node (o_38 P) (.node (o_70 P) .nil .nil) .nil) (.node (o_54 P) (.node (o_86 P) .nil .nil) .nil)) (.node (o_30 P) (.node (o_46 P) (.node (o_78 P) .nil .nil) .nil) (.node (o_62 P) .nil .nil))))))
noncomputable def t18 (P : Params) : BT := tr_6 P (m_11 P (.int 57 1800)) (d9_29 P) (d18_82 P) (d17_84 P)
noncomputable def S18 (w : World) (os : OsState) : SharedT := ⟨t18 w.params, 88, {}, #[], {}, 1803, os⟩
noncomputable def tr_7 (P : Params) (x3 x29 x84 : Obj) : BT := (.node (boot_o_0 P) (.node (o_1 P) (.node (x3) (.node (o_7 P) (.node (o_15 P) (.node (o_31 P) (.node (o_63 P) .nil .nil) .nil) (.node (o_47 P) (.node (o_79 P) .nil .nil) .nil)) (.node (o_23 P) (.node (o_39 P) (.node (o_71 P) .nil .nil) .nil) (.node (o_55 P) (.node (o_87 P) .nil .nil) .nil))) (.node (o_11 P) (.node (o_19 P) (.node (o_35 P) (.node (o_67 P) .nil .nil) .nil) (.node (o_51 P) (.node (o_83 P) .nil .nil) .nil)) (.node (o_27 P) (.node (o_43 P) (.node (o_75 P) .nil .nil) .nil) (.node (o_59 P) .nil .nil)))) (.node (o_5 P) (.node (o_9 P) (.node (o_17 P) (.node (o_33 P) (.node (o_65 P) .nil .nil) .nil) (.node (o_49 P) (.node (o_81 P) .nil .nil) .nil)) (.node (o_25 P) (.node (o_41 P) (.node (o_73 P) .nil .nil) .nil) (.node (o_57 P) .nil .nil))) (.node (o_13 P) (.node (o_21 P) (.node (o_37 P) (.node (o_69 P) .nil .nil) .nil) (.node (o_53 P) (.node (o_85 P) .nil .nil) .nil)) (.node (x29) (.node (o_45 P) (.node (o_77 P) .nil .nil) .nil) (.node (o_61 P) .nil .nil))))) (.node (o_2 P) (.node (o_4 P) (.node (o_8 P) (.node (o_16 P) (.node (o_32 P) (.node (o_64 P) .nil .nil) .nil) (.node (o_48 P) (.node (o_80 P) .nil .nil) .nil)) (.node (o_24 P) (.node (o_40 P) (.node (o_72 P) .nil .nil) .nil) (.node (o_56 P) .nil .nil))) (.node (o_12 P) (.node (o_20 P) (.node (o_36 P) (.node (o_68 P) .nil .nil) .nil) (.node (o_52 P) (.node (x84) .nil .nil) .nil)) (.node (o_28 P) (.node (o_44 P) (.node (o_76 P) .nil .nil) .nil) (.node (o_60 P) .nil .nil)))) (.node (o_6 P) (.node (o_10 P) (.node (o_18 P) (.node (o_34 P) (.node (o_66 P) .nil .nil) .nil) (.node (o_50 P) (.node (o_82 P) .nil .nil) .nil)) (.node (o_26 P) (.node (o_42 P) (.node (o_74 P) .nil .nil) .nil) (.node (o_58 P) .nil .nil))) (.node (o_14 P) (.node (o_22 P) (.node (o_38 P) (.node (o_70 P) .nil .nil) .nil) (.node (o_54 P) (.node (o_86 P) .nil .nil) .nil)) (.node (o_30 P) (.node (o_46 P) (.node (o_78 P) .nil .nil) .nil) (.node (o_62 P) .nil .nil))))))
noncomputable def t19 (P : Params) : BT := tr_7 P (m_11 P (.int 57 1800)) (d9_29 P) (d17_84 P)
noncomputable def S19 (w : World) (os : OsState) : SharedT := ⟨t19 w.params, 88, {}, #[], {}, 1806, os⟩
noncomputable def tr_8 (P : Params) (x3 x29 : Obj) : BT := (.node (boot_o_0 P) (.node (o_1 P) (.node (x3) (.node (o_7 P) (.node (o_15 P) (.node (o_31 P) (.node (o_63 P) .nil .nil) .nil) (.node (o_47 P) (.node (o_79 P) .nil .nil) .nil)) (.node (o_23 P) (.node (o_39 P) (.node (o_71 P) .nil .nil) .nil) (.node (o_55 P) (.node (o_87 P) .nil .nil) .nil))) (.node (o_11 P) (.node (o_19 P) (.node (o_35 P) (.node (o_67 P) .nil .nil) .nil) (.node (o_51 P) (.node (o_83 P) .nil .nil) .nil)) (.node (o_27 P) (.node (o_43 P) (.node (o_75 P) .nil .nil) .nil) (.node (o_59 P) .nil .nil)))) (.node (o_5 P) (.node (o_9 P) (.node (o_17 P) (.node (o_33 P) (.node (o_65 P) .nil .nil) .nil) (.node (o_49 P) (.node (o_81 P) .nil .nil) .nil)) (.node (o_25 P) (.node (o_41 P) (.node (o_73 P) .nil .nil) .nil) (.node (o_57 P) (.node (o_89 P) .nil .nil) .nil))) (.node (o_13 P) (.node (o_21 P) (.node (o_37 P) (.node (o_69 P) .nil .nil) .nil) (.node (o_53 P) (.node (o_85 P) .nil .nil) .nil)) (.node (x29) (.node (o_45 P) (.node (o_77 P) .nil .nil) .nil) (.node (o_61 P) .nil .nil))))) (.node (o_2 P) (.node (o_4 P) (.node (o_8 P) (.node (o_16 P) (.node (o_32 P) (.node (o_64 P) .nil .nil) .nil) (.node (o_48 P) (.node (o_80 P) .nil .nil) .nil)) (.node (o_24 P) (.node (o_40 P) (.node (o_72 P) .nil .nil) .nil) (.node (o_56 P) (.node (o_88 P) .nil .nil) .nil))) (.node (o_12 P) (.node (o_20 P) (.node (o_36 P) (.node (o_68 P) .nil .nil) .nil) (.node (o_52 P) (.node (o_84 P) .nil .nil) .nil)) (.node (o_28 P) (.node (o_44 P) (.node (o_76 P) .nil .nil) .nil) (.node (o_60 P) .nil .nil)))) (.node (o_6 P) (.node (o_10 P) (.node (o_18 P) (.node (o_34 P) (.node (o_66 P) .nil .nil) .nil) (.node (o_50 P) (.node (o_82 P) .nil .nil) .nil)) (.node (o_26 P) (.node (o_42 P) (.node (o_74 P) .nil .nil) .nil) (.node (o_58 P) (.node (o_90 P) .nil .nil) .nil))) (.node (o_14 P) (.node (o_22 P) (.node (o_38 P) (.node (o_70 P) .nil .nil) .nil) (.node (o_54 P) (.node (o_86 P) .nil .nil) .nil)) (.node (o_30 P) (.node (o_46 P) (.node (o_78 P) .nil .nil) .nil) (.node (o_62 P) .nil .nil))))))
noncomputable def t20 (P : Params) : BT := tr_8 P (m_11 P (.int 9 2089)) (d9_29 P)
noncomputable def S20 (w : World) (os : OsState) : SharedT := ⟨t20 w.params, 91, {}, #[], {}, 2092, os⟩
noncomputable def tr_9 (P : Params) : BT := (.node (boot_o_0 P) (.node (o_1 P) (.node (o_3 P) (.node (o_7 P) (.node (o_15 P) (.node (o_31 P) (.node (o_63 P) (.node (o_127 P) .nil .nil) .nil) (.node (o_95 P) .nil .nil)) (.node (o_47 P) (.node (o_79 P) (.node (o_143 P) .nil .nil) .nil) (.node (o_111 P) .nil .nil))) (.node (o_23 P) (.node (o_39 P) (.node (o_71 P) (.node (o_135 P) .nil .nil) .nil) (.node (o_103 P) .nil .nil)) (.node (o_55 P) (.node (o_87 P) (.node (o_151 P) .nil .nil) .nil) (.node (o_119 P) .nil .nil)))) (.node (o_11 P) (.node (o_19 P) (.node (o_35 P) (.node (o_67 P) (.node (o_131 P) .nil .nil) .nil) (.node (o_99 P) .nil .nil)) (.node (o_51 P) (.node (o_83 P) (.node (o_147 P) .nil .nil) .nil) (.node (o_115 P) .nil .nil))) (.node (o_27 P) (.node (o_43 P) (.node (o_75 P) (.node (o_139 P) .nil .nil) .nil) (.node (o_107 P) .nil .nil)) (.node (o_59 P) (.node (o_91 P) .nil .nil) (.node (o_123 P) .nil .nil))))) (.node (o_5 P) (.node (o_9 P) (.node (o_17 P) (.node (o_33 P) (.node (o_65 P) (.node (o_129 P) .nil .nil) .nil) (.node (o_97 P) .nil .nil)) (.node (o_49 P) (.node (o_81 P) (.node (o_145 P) .nil .nil) .nil) (.node (o_113 P) .nil .nil))) (.node (o_25 P) (.node (o_41 P) (.node (o_73 P) (.node (o_137 P) .nil .nil) .nil) (.node (o_105 P) .nil .nil)) (.node (o_57 P) (.node (o_89 P) .nil .nil) (.node (o_121 P) .nil .nil)))) (.node (o_13 P) (.node (o_21 P) (.node (o_37 P) (.node (o_69 P) (.node (o_133 P) .nil .nil) .nil) (.node (o_101 P) .nil .nil)) (.node (o_53 P) (.node (o_85 P) (.node (o_149 P) .nil .nil) .nil) (.node (o_117 P) .nil .nil))) (.node (o_29 P) (.node (o_45 P) (.node (o_77 P) (.node (o_141 P) .nil .nil) .nil) (.node (o_109 P) .nil .nil)) (.node (o_61 P) (.node (o_93 P) .nil .nil) (.node (o_125 P) .nil .nil)))))) (.node (o_2 P) (.node (o_4 P) (.node (o_8 P) (.node (o_16 P) (.node (o_32 P) (.node (o_64 P) (.node (o_128 P) .nil .nil) .nil) (.node (o_96 P) .nil .nil)) (.node (o_48 P) (.node (o_80 P) (.node (o_144 P) .nil .nil) .nil) (.node (o_112 P) .nil .nil))) (.node (o_24 P) (.node (o_40 P) (.node (o_72 P) (.node (o_136 P) .nil .nil) .nil) (.node (o_104 P) .nil .nil)) (.node (o_56 P) (.node (o_88 P) .nil .nil) (.node (o_120 P) .nil .nil)))) (.node (o_12 P) (.node (o_20 P) (.node (o_36 P) (.node (o_68 P) (.node (o_132 P) .nil .nil) .nil) (.node (o_100 P) .nil .nil)) (.node (o_52 P) (.node (o_84 P) (.node (o_148 P) .nil .nil) .nil) (.node (o_116 P) .nil .nil))) (.node (o_28 P) (.node (o_44 P) (.node (o_76 P) (.node (o_140 P) .nil .nil) .nil) (.node (o_108 P) .nil .nil)) (.node (o_60 P) (.node (o_92 P) .nil .nil) (.node (o_124 P) .nil .nil))))) (.node (o_6 P) (.node (o_10 P) (.node (o_18 P) (.node (o_34 P) (.node (o_66 P) (.node (o_130 P) .nil .nil) .nil) (.node (o_98 P) .nil .nil)) (.node (o_50 P) (.node (o_82 P) (.node (o_146 P) .nil .nil) .nil) (.node (o_114 P) .nil .nil))) (.node (o_26 P) (.node (o_42 P) (.node (o_74 P) (.node (o_138 P) .nil .nil) .nil) (.node (o_106 P) .nil .nil)) (.node (o_58 P) (.node (o_90 P) .nil .nil) (.node (o_122 P) .nil .nil)))) (.node (o_14 P) (.node (o_22 P) (.node (o_38 P) (.node (o_70 P) (.node (o_134 P) .nil .nil) .nil) (.node (o_102 P) .nil .nil)) (.node (o_54 P) (.node (o_86 P) (.node (o_150 P) .nil .nil) .nil) (.node (o_118 P) .nil .nil))) (.node (o_30 P) (.node (o_46 P) (.node (o_78 P) (.node (o_142 P) .nil .nil) .nil) (.node (o_110 P) .nil .nil)) (.node (o_62 P) (.node (o_94 P) .nil .nil) (.node (o_126 P) .nil .nil)))))))
noncomputable def t33 (P : Params) : BT := tr_9 P
noncomputable def S33 (w : World) (os : OsState) : SharedT := ⟨t33 w.params, 152, {}, #[], {}, 2171, os⟩
noncomputable def dL4_1_44 (_ : Params) : Obj := ⟨(.type "bytes_iterator"), none, (.fields #[(.bytes #[40, 41, 91, 93, 123, 125, 63, 42, 43, 45, 124, 94, 36, 92, 46, 38, 126, 35, 32, 9, 10, 13, 11, 12] 333), (.int 1 0)]), #[]⟩
noncomputable def dL4_1_45 (_ : Params) : Obj := ⟨(.type "dict"), none, (.dict #[⟨40, (.int 40 334), (.str "\\(" 338)⟩] 1), #[]⟩
noncomputable def dL4_1_46 (P : Params) : Obj := ⟨(.type "dict"), none, (.dict #[(de P "i" 335 (.int 40 334))] 1), #[]⟩
noncomputable def tr_10 (P : Params) (x3 x29 x44 x45 x46 : Obj) : BT := (.node (boot_o_0 P) (.node (o_1 P) (.node (x3) (.node (o_7 P) (.node (o_15 P) (.node (o_31 P) .nil .nil) .nil) (.node (o_23 P) (.node (o_39 P) .nil .nil) .nil)) (.node (o_11 P) (.node (o_19 P) (.node (o_35 P) .nil .nil) .nil) (.node (o_27 P) (.node (o_43 P) .nil .nil) .nil))) (.node (o_5 P) (.node (o_9 P) (.node (o_17 P) (.node (o_33 P) .nil .nil) .nil) (.node (o_25 P) (.node (o_41 P) .nil .nil) .nil)) (.node (o_13 P) (.node (o_21 P) (.node (o_37 P) .nil .nil) .nil) (.node (x29) (.node (x45) .nil .nil) .nil)))) (.node (o_2 P) (.node (o_4 P) (.node (o_8 P) (.node (o_16 P) (.node (o_32 P) .nil .nil) .nil) (.node (o_24 P) (.node (o_40 P) .nil .nil) .nil)) (.node (o_12 P) (.node (o_20 P) (.node (o_36 P) .nil .nil) .nil) (.node (o_28 P) (.node (x44) .nil .nil) .nil))) (.node (o_6 P) (.node (o_10 P) (.node (o_18 P) (.node (o_34 P) .nil .nil) .nil) (.node (o_26 P) (.node (o_42 P) .nil .nil) .nil)) (.node (o_14 P) (.node (o_22 P) (.node (o_38 P) .nil .nil) .nil) (.node (o_30 P) (.node (x46) .nil .nil) .nil)))))
noncomputable def tL4_1 (P : Params) : BT := tr_10 P (d3_3 P) (d3_29 P) (dL4_1_44 P) (dL4_1_45 P) (dL4_1_46 P)
noncomputable def SL4_1 (w : World) (os : OsState) : SharedT := ⟨tL4_1 w.params, 47, {}, #[], {}, 340, os⟩
noncomputable def dL4_9_44 (_ : Params) : Obj := ⟨(.type "bytes_iterator"), none, (.fields #[(.bytes #[40, 41, 91, 93, 123, 125, 63, 42, 43, 45, 124, 94, 36, 92, 46, 38, 126, 35, 32, 9, 10, 13, 11, 12] 333), (.int 9 0)]), #[]⟩
noncomputable def dL4_9_45 (_ : Params) : Obj := ⟨(.type "dict"), none, (.dict #[⟨40, (.int 40 334), (.str "\\(" 338)⟩, ⟨41, (.int 41 340), (.str "\\)" 344)⟩, ⟨91, (.int 91 346), (.str "\\[" 350)⟩, ⟨93, (.int 93 352), (.str "\\]" 356)⟩, ⟨123, (.int 123 358), (.str "\\{" 362)⟩, ⟨125, (.int 125 364), (.str "\\}" 368)⟩, ⟨63, (.int 63 370), (.str "\\?" 374)⟩, ⟨42, (.int 42 376), (.str "\\*" 380)⟩, ⟨43, (.int 43 382), (.str "\\+" 386)⟩] 9), #[]⟩
noncomputable def dL4_9_46 (P : Params) : Obj := ⟨(.type "dict"), none, (.dict #[(de P "i" 335 (.int 43 382))] 1), #[]⟩
noncomputable def tL4_9 (P : Params) : BT := tr_10 P (d3_3 P) (d3_29 P) (dL4_9_44 P) (dL4_9_45 P) (dL4_9_46 P)
noncomputable def SL4_9 (w : World) (os : OsState) : SharedT := ⟨tL4_9 w.params, 47, {}, #[], {}, 388, os⟩
noncomputable def dL4_17_44 (_ : Params) : Obj := ⟨(.type "bytes_iterator"), none, (.fields #[(.bytes #[40, 41, 91, 93, 123, 125, 63, 42, 43, 45, 124, 94, 36, 92, 46, 38, 126, 35, 32, 9, 10, 13, 11, 12] 333), (.int 17 0)]), #[]⟩
noncomputable def dL4_17_45 (_ : Params) : Obj := ⟨(.type "dict"), none, (.dict #[⟨40, (.int 40 334), (.str "\\(" 338)⟩, ⟨41, (.int 41 340), (.str "\\)" 344)⟩, ⟨91, (.int 91 346), (.str "\\[" 350)⟩, ⟨93, (.int 93 352), (.str "\\]" 356)⟩, ⟨123, (.int 123 358), (.str "\\{" 362)⟩, ⟨125, (.int 125 364), (.str "\\}" 368)⟩, ⟨63, (.int 63 370), (.str "\\?" 374)⟩, ⟨42, (.int 42 376), (.str "\\*" 380)⟩, ⟨43, (.int 43 382), (.str "\\+" 386)⟩, ⟨45, (.int 45 388), (.str "\\-" 392)⟩, ⟨124, (.int 124 394), (.str "\\|" 398)⟩, ⟨94, (.int 94 400), (.str "\\^" 404)⟩, ⟨36, (.int 36 406), (.str "\\$" 410)⟩, ⟨92, (.int 92 412), (.str "\\\\" 416)⟩, ⟨46, (.int 46 418), (.str "\\." 422)⟩, ⟨38, (.int 38 424), (.str "\\&" 428)⟩, ⟨126, (.int 126 430), (.str "\\~" 434)⟩] 17), #[]⟩
noncomputable def dL4_17_46 (P : Params) : Obj := ⟨(.type "dict"), none, (.dict #[(de P "i" 335 (.int 126 430))] 1), #[]⟩
noncomputable def tL4_17 (P : Params) : BT := tr_10 P (d3_3 P) (d3_29 P) (dL4_17_44 P) (dL4_17_45 P) (dL4_17_46 P)
noncomputable def SL4_17 (w : World) (os : OsState) : SharedT := ⟨tL4_17 w.params, 47, {}, #[], {}, 436, os⟩
noncomputable def dL4_24_44 (_ : Params) : Obj := ⟨(.type "bytes_iterator"), none, (.fields #[(.bytes #[40, 41, 91, 93, 123, 125, 63, 42, 43, 45, 124, 94, 36, 92, 46, 38, 126, 35, 32, 9, 10, 13, 11, 12] 333), (.int 24 0)]), #[]⟩
noncomputable def dL4_24_46 (P : Params) : Obj := ⟨(.type "dict"), none, (.dict #[(de P "i" 335 (.int 12 472))] 1), #[]⟩
noncomputable def tr_11 (P : Params) (x3 x29 x44 x46 : Obj) : BT := (.node (boot_o_0 P) (.node (o_1 P) (.node (x3) (.node (o_7 P) (.node (o_15 P) (.node (o_31 P) .nil .nil) .nil) (.node (o_23 P) (.node (o_39 P) .nil .nil) .nil)) (.node (o_11 P) (.node (o_19 P) (.node (o_35 P) .nil .nil) .nil) (.node (o_27 P) (.node (o_43 P) .nil .nil) .nil))) (.node (o_5 P) (.node (o_9 P) (.node (o_17 P) (.node (o_33 P) .nil .nil) .nil) (.node (o_25 P) (.node (o_41 P) .nil .nil) .nil)) (.node (o_13 P) (.node (o_21 P) (.node (o_37 P) .nil .nil) .nil) (.node (x29) (.node (o_45 P) .nil .nil) .nil)))) (.node (o_2 P) (.node (o_4 P) (.node (o_8 P) (.node (o_16 P) (.node (o_32 P) .nil .nil) .nil) (.node (o_24 P) (.node (o_40 P) .nil .nil) .nil)) (.node (o_12 P) (.node (o_20 P) (.node (o_36 P) .nil .nil) .nil) (.node (o_28 P) (.node (x44) .nil .nil) .nil))) (.node (o_6 P) (.node (o_10 P) (.node (o_18 P) (.node (o_34 P) .nil .nil) .nil) (.node (o_26 P) (.node (o_42 P) .nil .nil) .nil)) (.node (o_14 P) (.node (o_22 P) (.node (o_38 P) .nil .nil) .nil) (.node (o_30 P) (.node (x46) .nil .nil) .nil)))))
noncomputable def tL4_24 (P : Params) : BT := tr_11 P (d3_3 P) (d3_29 P) (dL4_24_44 P) (dL4_24_46 P)
noncomputable def SL4_24 (w : World) (os : OsState) : SharedT := ⟨tL4_24 w.params, 47, {}, #[], {}, 478, os⟩
noncomputable def c4 : Code := .compLoop (asgV (sts 4 1)) 0 (.ref 44) (.ref 45) { en with scope := scC [(".0", .local), ("i", .local), ("chr", .globalImplicit)], locals := 46 }
noncomputable def T4 (k : Result → Sem Fin) : Thread := lp c4 ⟨9, 22, 9, 38⟩ k true [.ref 46, .ref 45] ⟨9, 48, 9, 85⟩
noncomputable def G4f (w : World) (os : OsState) : Option (SharedT × Thread) := gop (w.withFollow "comprehension-iter-twice" false) 74 (S3 (w.withFollow "comprehension-iter-twice" false) os) (pcs 4 1 ⟨8, 0, 8, 8⟩)
theorem en4f : ∀ w, (fun os => G4f w os) = fun os => some (SL4_1 (w.withFollow "comprehension-iter-twice" false) os, T4 (kk (G4f w os))) := fun w => byRow2 "special-get-raises" (P := fun w => (fun os => G4f w os) = fun os => some (SL4_1 (w.withFollow "comprehension-iter-twice" false) os, T4 (kk (G4f w os)))) (fun w => by kernel_rfl) (fun w => by kernel_rfl) w
theorem ex4f : ∀ w, (fun os => run (w.withFollow "comprehension-iter-twice" false) 29 (SL4_24 (w.withFollow "comprehension-iter-twice" false) os) (T4 (kk (G4f w os)))) = fun os => some (.next, S4 (w.withFollow "comprehension-iter-twice" false) os, cE, ⟨9, 0, 9, 18⟩) := fun w => byRow2 "special-get-raises" (P := fun w => (fun os => run (w.withFollow "comprehension-iter-twice" false) 29 (SL4_24 (w.withFollow "comprehension-iter-twice" false) os) (T4 (kk (G4f w os)))) = fun os => some (.next, S4 (w.withFollow "comprehension-iter-twice" false) os, cE, ⟨9, 0, 9, 18⟩)) (fun w => by kernel_rfl) (fun w => by kernel_rfl) w
noncomputable def G4t (w : World) (os : OsState) : Option (SharedT × Thread) := gop (w.withFollow "comprehension-iter-twice" true) 64 (S3 (w.withFollow "comprehension-iter-twice" true) os) (pcs 4 1 ⟨8, 0, 8, 8⟩)
theorem en4t : ∀ w, (fun os => G4t w os) = fun os => some (SL4_1 (w.withFollow "comprehension-iter-twice" true) os, T4 (kk (G4t w os))) := fun w => byRow2 "special-get-raises" (P := fun w => (fun os => G4t w os) = fun os => some (SL4_1 (w.withFollow "comprehension-iter-twice" true) os, T4 (kk (G4t w os)))) (fun w => by kernel_rfl) (fun w => by kernel_rfl) w
theorem ex4t : ∀ w, (fun os => run (w.withFollow "comprehension-iter-twice" true) 39 (SL4_24 (w.withFollow "comprehension-iter-twice" true) os) (T4 (kk (G4t w os)))) = fun os => some (.next, S4 (w.withFollow "comprehension-iter-twice" true) os, cE, ⟨9, 0, 9, 18⟩) := fun w => byRow2 "special-get-raises" (P := fun w => (fun os => run (w.withFollow "comprehension-iter-twice" true) 39 (SL4_24 (w.withFollow "comprehension-iter-twice" true) os) (T4 (kk (G4t w os)))) = fun os => some (.next, S4 (w.withFollow "comprehension-iter-twice" true) os, cE, ⟨9, 0, 9, 18⟩)) (fun w => by kernel_rfl) (fun w => by kernel_rfl) w
theorem tu4_1 : ∀ w, (fun os k => gop w 400 (SL4_1 w os) (T4 k)) = fun os k => some (SL4_9 w os, T4 k) := fun w => byRow2 "special-get-raises" (P := fun w => (fun os k => gop w 400 (SL4_1 w os) (T4 k)) = fun os k => some (SL4_9 w os, T4 k)) (fun w => by kernel_rfl) (fun w => by kernel_rfl) w
theorem tu4_9 : ∀ w, (fun os k => gop w 400 (SL4_9 w os) (T4 k)) = fun os k => some (SL4_17 w os, T4 k) := fun w => byRow2 "special-get-raises" (P := fun w => (fun os k => gop w 400 (SL4_9 w os) (T4 k)) = fun os k => some (SL4_17 w os, T4 k)) (fun w => by kernel_rfl) (fun w => by kernel_rfl) w
theorem tu4_17 : ∀ w, (fun os k => gop w 350 (SL4_17 w os) (T4 k)) = fun os k => some (SL4_24 w os, T4 k) := fun w => byRow2 "special-get-raises" (P := fun w => (fun os k => gop w 350 (SL4_17 w os) (T4 k)) = fun os k => some (SL4_24 w os, T4 k)) (fun w => by kernel_rfl) (fun w => by kernel_rfl) w
noncomputable def dL10_1_76 (_ : Params) : Obj := ⟨(.type "range_iterator"), none, (.fields #[(.int 1 0), (.int 255 0), (.int 1 0)]), #[]⟩
noncomputable def dL10_1_77 (_ : Params) : Obj := ⟨.type "list", none, .seq (f77.take 1).toArray 1, #[]⟩
noncomputable def dL10_1_78 (P : Params) : Obj := ⟨(.type "dict"), none, (.dict #[(de P "c" 559 (.int 0 558))] 1), #[]⟩
noncomputable def tr_12 (P : Params) (x3 x29 x76 x77 x78 : Obj) : BT := (.node (boot_o_0 P) (.node (o_1 P) (.node (x3) (.node (o_7 P) (.node (o_15 P) (.node (o_31 P) (.node (o_63 P) .nil .nil) .nil) (.node (o_47 P) .nil .nil)) (.node (o_23 P) (.node (o_39 P) (.node (o_71 P) .nil .nil) .nil) (.node (o_55 P) .nil .nil))) (.node (o_11 P) (.node (o_19 P) (.node (o_35 P) (.node (o_67 P) .nil .nil) .nil) (.node (o_51 P) .nil .nil)) (.node (o_27 P) (.node (o_43 P) (.node (o_75 P) .nil .nil) .nil) (.node (o_59 P) .nil .nil)))) (.node (o_5 P) (.node (o_9 P) (.node (o_17 P) (.node (o_33 P) (.node (o_65 P) .nil .nil) .nil) (.node (o_49 P) .nil .nil)) (.node (o_25 P) (.node (o_41 P) (.node (o_73 P) .nil .nil) .nil) (.node (o_57 P) .nil .nil))) (.node (o_13 P) (.node (o_21 P) (.node (o_37 P) (.node (o_69 P) .nil .nil) .nil) (.node (o_53 P) .nil .nil)) (.node (x29) (.node (o_45 P) (.node (x77) .nil .nil) .nil) (.node (o_61 P) .nil .nil))))) (.node (o_2 P) (.node (o_4 P) (.node (o_8 P) (.node (o_16 P) (.node (o_32 P) (.node (o_64 P) .nil .nil) .nil) (.node (o_48 P) .nil .nil)) (.node (o_24 P) (.node (o_40 P) (.node (o_72 P) .nil .nil) .nil) (.node (o_56 P) .nil .nil))) (.node (o_12 P) (.node (o_20 P) (.node (o_36 P) (.node (o_68 P) .nil .nil) .nil) (.node (o_52 P) .nil .nil)) (.node (o_28 P) (.node (o_44 P) (.node (x76) .nil .nil) .nil) (.node (o_60 P) .nil .nil)))) (.node (o_6 P) (.node (o_10 P) (.node (o_18 P) (.node (o_34 P) (.node (o_66 P) .nil .nil) .nil) (.node (o_50 P) .nil .nil)) (.node (o_26 P) (.node (o_42 P) (.node (o_74 P) .nil .nil) .nil) (.node (o_58 P) .nil .nil))) (.node (o_14 P) (.node (o_22 P) (.node (o_38 P) (.node (o_70 P) .nil .nil) .nil) (.node (o_54 P) .nil .nil)) (.node (o_30 P) (.node (o_46 P) (.node (x78) .nil .nil) .nil) (.node (o_62 P) .nil .nil))))))
noncomputable def tL10_1 (P : Params) : BT := tr_12 P (d9_3 P) (d9_29 P) (dL10_1_76 P) (dL10_1_77 P) (dL10_1_78 P)
noncomputable def SL10_1 (w : World) (os : OsState) : SharedT := ⟨tL10_1 w.params, 79, {}, #[], {}, 562, os⟩
noncomputable def dL10_16_76 (_ : Params) : Obj := ⟨(.type "range_iterator"), none, (.fields #[(.int 16 0), (.int 240 0), (.int 1 0)]), #[]⟩
noncomputable def dL10_16_77 (_ : Params) : Obj := ⟨.type "list", none, .seq (f77.take 16).toArray 16, #[]⟩
noncomputable def dL10_16_78 (P : Params) : Obj := ⟨(.type "dict"), none, (.dict #[(de P "c" 559 (.int 15 618))] 1), #[]⟩
noncomputable def tL10_16 (P : Params) : BT := tr_12 P (d9_3 P) (d9_29 P) (dL10_16_76 P) (dL10_16_77 P) (dL10_16_78 P)
noncomputable def SL10_16 (w : World) (os : OsState) : SharedT := ⟨tL10_16 w.params, 79, {}, #[], {}, 622, os⟩
noncomputable def dL10_31_76 (_ : Params) : Obj := ⟨(.type "range_iterator"), none, (.fields #[(.int 31 0), (.int 225 0), (.int 1 0)]), #[]⟩
noncomputable def dL10_31_77 (_ : Params) : Obj := ⟨.type "list", none, .seq (f77.take 31).toArray 31, #[]⟩
noncomputable def dL10_31_78 (P : Params) : Obj := ⟨(.type "dict"), none, (.dict #[(de P "c" 559 (.int 30 678))] 1), #[]⟩
noncomputable def tL10_31 (P : Params) : BT := tr_12 P (d9_3 P) (d9_29 P) (dL10_31_76 P) (dL10_31_77 P) (dL10_31_78 P)
noncomputable def SL10_31 (w : World) (os : OsState) : SharedT := ⟨tL10_31 w.params, 79, {}, #[], {}, 682, os⟩
noncomputable def dL10_46_76 (_ : Params) : Obj := ⟨(.type "range_iterator"), none, (.fields #[(.int 46 0), (.int 210 0), (.int 1 0)]), #[]⟩
noncomputable def dL10_46_77 (_ : Params) : Obj := ⟨.type "list", none, .seq (f77.take 46).toArray 46, #[]⟩
noncomputable def dL10_46_78 (P : Params) : Obj := ⟨(.type "dict"), none, (.dict #[(de P "c" 559 (.int 45 738))] 1), #[]⟩
noncomputable def tL10_46 (P : Params) : BT := tr_12 P (d9_3 P) (d9_29 P) (dL10_46_76 P) (dL10_46_77 P) (dL10_46_78 P)
noncomputable def SL10_46 (w : World) (os : OsState) : SharedT := ⟨tL10_46 w.params, 79, {}, #[], {}, 742, os⟩
noncomputable def dL10_61_76 (_ : Params) : Obj := ⟨(.type "range_iterator"), none, (.fields #[(.int 61 0), (.int 195 0), (.int 1 0)]), #[]⟩
noncomputable def dL10_61_77 (_ : Params) : Obj := ⟨.type "list", none, .seq (f77.take 61).toArray 61, #[]⟩
noncomputable def dL10_61_78 (P : Params) : Obj := ⟨(.type "dict"), none, (.dict #[(de P "c" 559 (.int 60 798))] 1), #[]⟩
noncomputable def tL10_61 (P : Params) : BT := tr_12 P (d9_3 P) (d9_29 P) (dL10_61_76 P) (dL10_61_77 P) (dL10_61_78 P)
noncomputable def SL10_61 (w : World) (os : OsState) : SharedT := ⟨tL10_61 w.params, 79, {}, #[], {}, 802, os⟩
noncomputable def dL10_76_76 (_ : Params) : Obj := ⟨(.type "range_iterator"), none, (.fields #[(.int 76 0), (.int 180 0), (.int 1 0)]), #[]⟩
noncomputable def dL10_76_77 (_ : Params) : Obj := ⟨.type "list", none, .seq (f77.take 76).toArray 76, #[]⟩
noncomputable def dL10_76_78 (P : Params) : Obj := ⟨(.type "dict"), none, (.dict #[(de P "c" 559 (.int 75 858))] 1), #[]⟩
noncomputable def tL10_76 (P : Params) : BT := tr_12 P (d9_3 P) (d9_29 P) (dL10_76_76 P) (dL10_76_77 P) (dL10_76_78 P)
noncomputable def SL10_76 (w : World) (os : OsState) : SharedT := ⟨tL10_76 w.params, 79, {}, #[], {}, 862, os⟩
noncomputable def dL10_91_76 (_ : Params) : Obj := ⟨(.type "range_iterator"), none, (.fields #[(.int 91 0), (.int 165 0), (.int 1 0)]), #[]⟩
noncomputable def dL10_91_77 (_ : Params) : Obj := ⟨.type "list", none, .seq (f77.take 91).toArray 91, #[]⟩
noncomputable def dL10_91_78 (P : Params) : Obj := ⟨(.type "dict"), none, (.dict #[(de P "c" 559 (.int 90 918))] 1), #[]⟩
noncomputable def tL10_91 (P : Params) : BT := tr_12 P (d9_3 P) (d9_29 P) (dL10_91_76 P) (dL10_91_77 P) (dL10_91_78 P)
noncomputable def SL10_91 (w : World) (os : OsState) : SharedT := ⟨tL10_91 w.params, 79, {}, #[], {}, 922, os⟩
noncomputable def dL10_106_76 (_ : Params) : Obj := ⟨(.type "range_iterator"), none, (.fields #[(.int 106 0), (.int 150 0), (.int 1 0)]), #[]⟩
noncomputable def dL10_106_77 (_ : Params) : Obj := ⟨.type "list", none, .seq (f77.take 106).toArray 106, #[]⟩
noncomputable def dL10_106_78 (P : Params) : Obj := ⟨(.type "dict"), none, (.dict #[(de P "c" 559 (.int 105 978))] 1), #[]⟩
noncomputable def tL10_106 (P : Params) : BT := tr_12 P (d9_3 P) (d9_29 P) (dL10_106_76 P) (dL10_106_77 P) (dL10_106_78 P)
noncomputable def SL10_106 (w : World) (os : OsState) : SharedT := ⟨tL10_106 w.params, 79, {}, #[], {}, 982, os⟩
noncomputable def dL10_121_76 (_ : Params) : Obj := ⟨(.type "range_iterator"), none, (.fields #[(.int 121 0), (.int 135 0), (.int 1 0)]), #[]⟩
noncomputable def dL10_121_77 (_ : Params) : Obj := ⟨.type "list", none, .seq (f77.take 121).toArray 121, #[]⟩
noncomputable def dL10_121_78 (P : Params) : Obj := ⟨(.type "dict"), none, (.dict #[(de P "c" 559 (.int 120 1038))] 1), #[]⟩
noncomputable def tL10_121 (P : Params) : BT := tr_12 P (d9_3 P) (d9_29 P) (dL10_121_76 P) (dL10_121_77 P) (dL10_121_78 P)
noncomputable def SL10_121 (w : World) (os : OsState) : SharedT := ⟨tL10_121 w.params, 79, {}, #[], {}, 1042, os⟩
noncomputable def dL10_136_76 (_ : Params) : Obj := ⟨(.type "range_iterator"), none, (.fields #[(.int 136 0), (.int 120 0), (.int 1 0)]), #[]⟩
noncomputable def dL10_136_77 (_ : Params) : Obj := ⟨.type "list", none, .seq (f77.take 136).toArray 136, #[]⟩
noncomputable def dL10_136_78 (P : Params) : Obj := ⟨(.type "dict"), none, (.dict #[(de P "c" 559 (.int 135 1098))] 1), #[]⟩
noncomputable def tL10_136 (P : Params) : BT := tr_12 P (d9_3 P) (d9_29 P) (dL10_136_76 P) (dL10_136_77 P) (dL10_136_78 P)
noncomputable def SL10_136 (w : World) (os : OsState) : SharedT := ⟨tL10_136 w.params, 79, {}, #[], {}, 1102, os⟩
noncomputable def dL10_151_76 (_ : Params) : Obj := ⟨(.type "range_iterator"), none, (.fields #[(.int 151 0), (.int 105 0), (.int 1 0)]), #[]⟩
noncomputable def dL10_151_77 (_ : Params) : Obj := ⟨.type "list", none, .seq (f77.take 151).toArray 151, #[]⟩
noncomputable def dL10_151_78 (P : Params) : Obj := ⟨(.type "dict"), none, (.dict #[(de P "c" 559 (.int 150 1158))] 1), #[]⟩
noncomputable def tL10_151 (P : Params) : BT := tr_12 P (d9_3 P) (d9_29 P) (dL10_151_76 P) (dL10_151_77 P) (dL10_151_78 P)
noncomputable def SL10_151 (w : World) (os : OsState) : SharedT := ⟨tL10_151 w.params, 79, {}, #[], {}, 1162, os⟩
noncomputable def dL10_166_76 (_ : Params) : Obj := ⟨(.type "range_iterator"), none, (.fields #[(.int 166 0), (.int 90 0), (.int 1 0)]), #[]⟩
noncomputable def dL10_166_77 (_ : Params) : Obj := ⟨.type "list", none, .seq (f77.take 166).toArray 166, #[]⟩
noncomputable def dL10_166_78 (P : Params) : Obj := ⟨(.type "dict"), none, (.dict #[(de P "c" 559 (.int 165 1218))] 1), #[]⟩
noncomputable def tL10_166 (P : Params) : BT := tr_12 P (d9_3 P) (d9_29 P) (dL10_166_76 P) (dL10_166_77 P) (dL10_166_78 P)
noncomputable def SL10_166 (w : World) (os : OsState) : SharedT := ⟨tL10_166 w.params, 79, {}, #[], {}, 1222, os⟩
noncomputable def dL10_181_76 (_ : Params) : Obj := ⟨(.type "range_iterator"), none, (.fields #[(.int 181 0), (.int 75 0), (.int 1 0)]), #[]⟩
noncomputable def dL10_181_77 (_ : Params) : Obj := ⟨.type "list", none, .seq (f77.take 181).toArray 181, #[]⟩
noncomputable def dL10_181_78 (P : Params) : Obj := ⟨(.type "dict"), none, (.dict #[(de P "c" 559 (.int 180 1278))] 1), #[]⟩
noncomputable def tL10_181 (P : Params) : BT := tr_12 P (d9_3 P) (d9_29 P) (dL10_181_76 P) (dL10_181_77 P) (dL10_181_78 P)
noncomputable def SL10_181 (w : World) (os : OsState) : SharedT := ⟨tL10_181 w.params, 79, {}, #[], {}, 1282, os⟩
noncomputable def dL10_196_76 (_ : Params) : Obj := ⟨(.type "range_iterator"), none, (.fields #[(.int 196 0), (.int 60 0), (.int 1 0)]), #[]⟩
noncomputable def dL10_196_77 (_ : Params) : Obj := ⟨.type "list", none, .seq (f77.take 196).toArray 196, #[]⟩
noncomputable def dL10_196_78 (P : Params) : Obj := ⟨(.type "dict"), none, (.dict #[(de P "c" 559 (.int 195 1338))] 1), #[]⟩
noncomputable def tL10_196 (P : Params) : BT := tr_12 P (d9_3 P) (d9_29 P) (dL10_196_76 P) (dL10_196_77 P) (dL10_196_78 P)
noncomputable def SL10_196 (w : World) (os : OsState) : SharedT := ⟨tL10_196 w.params, 79, {}, #[], {}, 1342, os⟩
noncomputable def dL10_211_76 (_ : Params) : Obj := ⟨(.type "range_iterator"), none, (.fields #[(.int 211 0), (.int 45 0), (.int 1 0)]), #[]⟩
noncomputable def dL10_211_77 (_ : Params) : Obj := ⟨.type "list", none, .seq (f77.take 211).toArray 211, #[]⟩
noncomputable def dL10_211_78 (P : Params) : Obj := ⟨(.type "dict"), none, (.dict #[(de P "c" 559 (.int 210 1398))] 1), #[]⟩
noncomputable def tL10_211 (P : Params) : BT := tr_12 P (d9_3 P) (d9_29 P) (dL10_211_76 P) (dL10_211_77 P) (dL10_211_78 P)
noncomputable def SL10_211 (w : World) (os : OsState) : SharedT := ⟨tL10_211 w.params, 79, {}, #[], {}, 1402, os⟩
noncomputable def dL10_226_76 (_ : Params) : Obj := ⟨(.type "range_iterator"), none, (.fields #[(.int 226 0), (.int 30 0), (.int 1 0)]), #[]⟩
noncomputable def dL10_226_77 (_ : Params) : Obj := ⟨.type "list", none, .seq (f77.take 226).toArray 226, #[]⟩
noncomputable def dL10_226_78 (P : Params) : Obj := ⟨(.type "dict"), none, (.dict #[(de P "c" 559 (.int 225 1458))] 1), #[]⟩
noncomputable def tL10_226 (P : Params) : BT := tr_12 P (d9_3 P) (d9_29 P) (dL10_226_76 P) (dL10_226_77 P) (dL10_226_78 P)
noncomputable def SL10_226 (w : World) (os : OsState) : SharedT := ⟨tL10_226 w.params, 79, {}, #[], {}, 1462, os⟩
noncomputable def dL10_241_76 (_ : Params) : Obj := ⟨(.type "range_iterator"), none, (.fields #[(.int 241 0), (.int 15 0), (.int 1 0)]), #[]⟩
noncomputable def dL10_241_77 (_ : Params) : Obj := ⟨.type "list", none, .seq (f77.take 241).toArray 241, #[]⟩
noncomputable def dL10_241_78 (P : Params) : Obj := ⟨(.type "dict"), none, (.dict #[(de P "c" 559 (.int 240 1518))] 1), #[]⟩
noncomputable def tL10_241 (P : Params) : BT := tr_12 P (d9_3 P) (d9_29 P) (dL10_241_76 P) (dL10_241_77 P) (dL10_241_78 P)
noncomputable def SL10_241 (w : World) (os : OsState) : SharedT := ⟨tL10_241 w.params, 79, {}, #[], {}, 1522, os⟩
noncomputable def dL10_256_78 (P : Params) : Obj := ⟨(.type "dict"), none, (.dict #[(de P "c" 559 (.int 255 1578))] 1), #[]⟩
noncomputable def tr_13 (P : Params) (x3 x29 x78 : Obj) : BT := (.node (boot_o_0 P) (.node (o_1 P) (.node (x3) (.node (o_7 P) (.node (o_15 P) (.node (o_31 P) (.node (o_63 P) .nil .nil) .nil) (.node (o_47 P) .nil .nil)) (.node (o_23 P) (.node (o_39 P) (.node (o_71 P) .nil .nil) .nil) (.node (o_55 P) .nil .nil))) (.node (o_11 P) (.node (o_19 P) (.node (o_35 P) (.node (o_67 P) .nil .nil) .nil) (.node (o_51 P) .nil .nil)) (.node (o_27 P) (.node (o_43 P) (.node (o_75 P) .nil .nil) .nil) (.node (o_59 P) .nil .nil)))) (.node (o_5 P) (.node (o_9 P) (.node (o_17 P) (.node (o_33 P) (.node (o_65 P) .nil .nil) .nil) (.node (o_49 P) .nil .nil)) (.node (o_25 P) (.node (o_41 P) (.node (o_73 P) .nil .nil) .nil) (.node (o_57 P) .nil .nil))) (.node (o_13 P) (.node (o_21 P) (.node (o_37 P) (.node (o_69 P) .nil .nil) .nil) (.node (o_53 P) .nil .nil)) (.node (x29) (.node (o_45 P) (.node (o_77 P) .nil .nil) .nil) (.node (o_61 P) .nil .nil))))) (.node (o_2 P) (.node (o_4 P) (.node (o_8 P) (.node (o_16 P) (.node (o_32 P) (.node (o_64 P) .nil .nil) .nil) (.node (o_48 P) .nil .nil)) (.node (o_24 P) (.node (o_40 P) (.node (o_72 P) .nil .nil) .nil) (.node (o_56 P) .nil .nil))) (.node (o_12 P) (.node (o_20 P) (.node (o_36 P) (.node (o_68 P) .nil .nil) .nil) (.node (o_52 P) .nil .nil)) (.node (o_28 P) (.node (o_44 P) (.node (o_76 P) .nil .nil) .nil) (.node (o_60 P) .nil .nil)))) (.node (o_6 P) (.node (o_10 P) (.node (o_18 P) (.node (o_34 P) (.node (o_66 P) .nil .nil) .nil) (.node (o_50 P) .nil .nil)) (.node (o_26 P) (.node (o_42 P) (.node (o_74 P) .nil .nil) .nil) (.node (o_58 P) .nil .nil))) (.node (o_14 P) (.node (o_22 P) (.node (o_38 P) (.node (o_70 P) .nil .nil) .nil) (.node (o_54 P) .nil .nil)) (.node (o_30 P) (.node (o_46 P) (.node (x78) .nil .nil) .nil) (.node (o_62 P) .nil .nil))))))
noncomputable def tL10_256 (P : Params) : BT := tr_13 P (d9_3 P) (d9_29 P) (dL10_256_78 P)
noncomputable def SL10_256 (w : World) (os : OsState) : SharedT := ⟨tL10_256 w.params, 79, {}, #[], {}, 1582, os⟩
noncomputable def c10 : Code := .compLoop (asgV (sts 10 1)) 0 (.ref 76) (.ref 77) { en with scope := scC [(".0", .local), ("c", .local)], locals := 78 }
noncomputable def T10 (k : Result → Sem Fin) : Thread := lp c10 ⟨107, 15, 107, 26⟩ k true [.ref 78, .ref 77] ⟨107, 36, 107, 46⟩
noncomputable def G10f (w : World) (os : OsState) : Option (SharedT × Thread) := gop (w.withFollow "comprehension-iter-twice" false) 89 (S9 (w.withFollow "comprehension-iter-twice" false) os) (pcs 10 1 ⟨106, 0, 106, 20⟩)
theorem en10f : ∀ w, (fun os => G10f w os) = fun os => some (SL10_1 (w.withFollow "comprehension-iter-twice" false) os, T10 (kk (G10f w os))) := fun w => byRow2 "special-get-raises" (P := fun w => (fun os => G10f w os) = fun os => some (SL10_1 (w.withFollow "comprehension-iter-twice" false) os, T10 (kk (G10f w os)))) (fun w => by kernel_rfl) (fun w => by kernel_rfl) w
theorem ex10f : ∀ w, (fun os => run (w.withFollow "comprehension-iter-twice" false) 28 (SL10_256 (w.withFollow "comprehension-iter-twice" false) os) (T10 (kk (G10f w os)))) = fun os => some (.next, S10 (w.withFollow "comprehension-iter-twice" false) os, cE, ⟨107, 0, 107, 11⟩) := fun w => byRow2 "special-get-raises" (P := fun w => (fun os => run (w.withFollow "comprehension-iter-twice" false) 28 (SL10_256 (w.withFollow "comprehension-iter-twice" false) os) (T10 (kk (G10f w os)))) = fun os => some (.next, S10 (w.withFollow "comprehension-iter-twice" false) os, cE, ⟨107, 0, 107, 11⟩)) (fun w => by kernel_rfl) (fun w => by kernel_rfl) w
noncomputable def G10t (w : World) (os : OsState) : Option (SharedT × Thread) := gop (w.withFollow "comprehension-iter-twice" true) 79 (S9 (w.withFollow "comprehension-iter-twice" true) os) (pcs 10 1 ⟨106, 0, 106, 20⟩)
theorem en10t : ∀ w, (fun os => G10t w os) = fun os => some (SL10_1 (w.withFollow "comprehension-iter-twice" true) os, T10 (kk (G10t w os))) := fun w => byRow2 "special-get-raises" (P := fun w => (fun os => G10t w os) = fun os => some (SL10_1 (w.withFollow "comprehension-iter-twice" true) os, T10 (kk (G10t w os)))) (fun w => by kernel_rfl) (fun w => by kernel_rfl) w
theorem ex10t : ∀ w, (fun os => run (w.withFollow "comprehension-iter-twice" true) 38 (SL10_256 (w.withFollow "comprehension-iter-twice" true) os) (T10 (kk (G10t w os)))) = fun os => some (.next, S10 (w.withFollow "comprehension-iter-twice" true) os, cE, ⟨107, 0, 107, 11⟩) := fun w => byRow2 "special-get-raises" (P := fun w => (fun os => run (w.withFollow "comprehension-iter-twice" true) 38 (SL10_256 (w.withFollow "comprehension-iter-twice" true) os) (T10 (kk (G10t w os)))) = fun os => some (.next, S10 (w.withFollow "comprehension-iter-twice" true) os, cE, ⟨107, 0, 107, 11⟩)) (fun w => by kernel_rfl) (fun w => by kernel_rfl) w
theorem tu10_1 : ∀ w, (fun os k => gop w 555 (SL10_1 w os) (T10 k)) = fun os k => some (SL10_16 w os, T10 k) := fun w => by kernel_rfl
theorem tu10_16 : ∀ w, (fun os k => gop w 555 (SL10_16 w os) (T10 k)) = fun os k => some (SL10_31 w os, T10 k) := fun w => by kernel_rfl
theorem tu10_31 : ∀ w, (fun os k => gop w 555 (SL10_31 w os) (T10 k)) = fun os k => some (SL10_46 w os, T10 k) := fun w => by kernel_rfl
theorem tu10_46 : ∀ w, (fun os k => gop w 555 (SL10_46 w os) (T10 k)) = fun os k => some (SL10_61 w os, T10 k) := fun w => by kernel_rfl
theorem tu10_61 : ∀ w, (fun os k => gop w 555 (SL10_61 w os) (T10 k)) = fun os k => some (SL10_76 w os, T10 k) := fun w => by kernel_rfl
theorem tu10_76 : ∀ w, (fun os k => gop w 555 (SL10_76 w os) (T10 k)) = fun os k => some (SL10_91 w os, T10 k) := fun w => by kernel_rfl
theorem tu10_91 : ∀ w, (fun os k => gop w 555 (SL10_91 w os) (T10 k)) = fun os k => some (SL10_106 w os, T10 k) := fun w => by kernel_rfl
theorem tu10_106 : ∀ w, (fun os k => gop w 555 (SL10_106 w os) (T10 k)) = fun os k => some (SL10_121 w os, T10 k) := fun w => by kernel_rfl
theorem tu10_121 : ∀ w, (fun os k => gop w 555 (SL10_121 w os) (T10 k)) = fun os k => some (SL10_136 w os, T10 k) := fun w => by kernel_rfl
theorem tu10_136 : ∀ w, (fun os k => gop w 555 (SL10_136 w os) (T10 k)) = fun os k => some (SL10_151 w os, T10 k) := fun w => by kernel_rfl
theorem tu10_151 : ∀ w, (fun os k => gop w 555 (SL10_151 w os) (T10 k)) = fun os k => some (SL10_166 w os, T10 k) := fun w => by kernel_rfl
theorem tu10_166 : ∀ w, (fun os k => gop w 555 (SL10_166 w os) (T10 k)) = fun os k => some (SL10_181 w os, T10 k) := fun w => by kernel_rfl
theorem tu10_181 : ∀ w, (fun os k => gop w 555 (SL10_181 w os) (T10 k)) = fun os k => some (SL10_196 w os, T10 k) := fun w => by kernel_rfl
theorem tu10_196 : ∀ w, (fun os k => gop w 555 (SL10_196 w os) (T10 k)) = fun os k => some (SL10_211 w os, T10 k) := fun w => by kernel_rfl
theorem tu10_211 : ∀ w, (fun os k => gop w 555 (SL10_211 w os) (T10 k)) = fun os k => some (SL10_226 w os, T10 k) := fun w => by kernel_rfl
theorem tu10_226 : ∀ w, (fun os k => gop w 555 (SL10_226 w os) (T10 k)) = fun os k => some (SL10_241 w os, T10 k) := fun w => by kernel_rfl
theorem tu10_241 : ∀ w, (fun os k => gop w 555 (SL10_241 w os) (T10 k)) = fun os k => some (SL10_256 w os, T10 k) := fun w => by kernel_rfl
noncomputable def dL18_1_82 (_ : Params) : Obj := ⟨.type "list", none, .seq (mixL f77 f82 (k82.take 1)).toArray 0, #[]⟩
noncomputable def dL18_1_85 (_ : Params) : Obj := ⟨(.type "bytes_iterator"), none, (.fields #[(.bytes #[45, 33, 42, 43, 47, 97, 98, 99, 100, 101, 102, 103, 104, 105, 106, 107, 108, 109, 110, 111, 112, 113, 114, 115, 116, 117, 118, 119, 120, 121, 122, 65, 66, 67, 68, 69, 70, 71, 72, 73, 74, 75, 76, 77, 78, 79, 80, 81, 82, 83, 84, 85, 86, 87, 88, 89, 90, 48, 49, 50, 51, 52, 53, 54, 55, 56, 57] 1601), (.int 1 0)]), #[]⟩
noncomputable def tr_14 (P : Params) (x3 x29 x82 x84 x85 : Obj) : BT := (.node (boot_o_0 P) (.node (o_1 P) (.node (x3) (.node (o_7 P) (.node (o_15 P) (.node (o_31 P) (.node (o_63 P) .nil .nil) .nil) (.node (o_47 P) (.node (o_79 P) .nil .nil) .nil)) (.node (o_23 P) (.node (o_39 P) (.node (o_71 P) .nil .nil) .nil) (.node (o_55 P) .nil .nil))) (.node (o_11 P) (.node (o_19 P) (.node (o_35 P) (.node (o_67 P) .nil .nil) .nil) (.node (o_51 P) (.node (o_83 P) .nil .nil) .nil)) (.node (o_27 P) (.node (o_43 P) (.node (o_75 P) .nil .nil) .nil) (.node (o_59 P) .nil .nil)))) (.node (o_5 P) (.node (o_9 P) (.node (o_17 P) (.node (o_33 P) (.node (o_65 P) .nil .nil) .nil) (.node (o_49 P) (.node (o_81 P) .nil .nil) .nil)) (.node (o_25 P) (.node (o_41 P) (.node (o_73 P) .nil .nil) .nil) (.node (o_57 P) .nil .nil))) (.node (o_13 P) (.node (o_21 P) (.node (o_37 P) (.node (o_69 P) .nil .nil) .nil) (.node (o_53 P) (.node (x85) .nil .nil) .nil)) (.node (x29) (.node (o_45 P) (.node (o_77 P) .nil .nil) .nil) (.node (o_61 P) .nil .nil))))) (.node (o_2 P) (.node (o_4 P) (.node (o_8 P) (.node (o_16 P) (.node (o_32 P) (.node (o_64 P) .nil .nil) .nil) (.node (o_48 P) (.node (o_80 P) .nil .nil) .nil)) (.node (o_24 P) (.node (o_40 P) (.node (o_72 P) .nil .nil) .nil) (.node (o_56 P) .nil .nil))) (.node (o_12 P) (.node (o_20 P) (.node (o_36 P) (.node (o_68 P) .nil .nil) .nil) (.node (o_52 P) (.node (x84) .nil .nil) .nil)) (.node (o_28 P) (.node (o_44 P) (.node (o_76 P) .nil .nil) .nil) (.node (o_60 P) .nil .nil)))) (.node (o_6 P) (.node (o_10 P) (.node (o_18 P) (.node (o_34 P) (.node (o_66 P) .nil .nil) .nil) (.node (o_50 P) (.node (x82) .nil .nil) .nil)) (.node (o_26 P) (.node (o_42 P) (.node (o_74 P) .nil .nil) .nil) (.node (o_58 P) .nil .nil))) (.node (o_14 P) (.node (o_22 P) (.node (o_38 P) (.node (o_70 P) .nil .nil) .nil) (.node (o_54 P) .nil .nil)) (.node (o_30 P) (.node (o_46 P) (.node (o_78 P) .nil .nil) .nil) (.node (o_62 P) .nil .nil))))))
noncomputable def tL18_1 (P : Params) : BT := tr_14 P (m_11 P (.int 45 1602)) (d9_29 P) (dL18_1_82 P) (d17_84 P) (dL18_1_85 P)
noncomputable def SL18_1 (w : World) (os : OsState) : SharedT := ⟨tL18_1 w.params, 86, {}, #[], {}, 1605, os⟩
noncomputable def dL18_12_82 (_ : Params) : Obj := ⟨.type "list", none, .seq (mixL f77 f82 (k82.take 12)).toArray 0, #[]⟩
noncomputable def dL18_12_85 (_ : Params) : Obj := ⟨(.type "bytes_iterator"), none, (.fields #[(.bytes #[45, 33, 42, 43, 47, 97, 98, 99, 100, 101, 102, 103, 104, 105, 106, 107, 108, 109, 110, 111, 112, 113, 114, 115, 116, 117, 118, 119, 120, 121, 122, 65, 66, 67, 68, 69, 70, 71, 72, 73, 74, 75, 76, 77, 78, 79, 80, 81, 82, 83, 84, 85, 86, 87, 88, 89, 90, 48, 49, 50, 51, 52, 53, 54, 55, 56, 57] 1601), (.int 12 0)]), #[]⟩
noncomputable def tL18_12 (P : Params) : BT := tr_14 P (m_11 P (.int 103 1635)) (d9_29 P) (dL18_12_82 P) (d17_84 P) (dL18_12_85 P)
noncomputable def SL18_12 (w : World) (os : OsState) : SharedT := ⟨tL18_12 w.params, 86, {}, #[], {}, 1638, os⟩
noncomputable def dL18_23_82 (_ : Params) : Obj := ⟨.type "list", none, .seq (mixL f77 f82 (k82.take 23)).toArray 0, #[]⟩
noncomputable def dL18_23_85 (_ : Params) : Obj := ⟨(.type "bytes_iterator"), none, (.fields #[(.bytes #[45, 33, 42, 43, 47, 97, 98, 99, 100, 101, 102, 103, 104, 105, 106, 107, 108, 109, 110, 111, 112, 113, 114, 115, 116, 117, 118, 119, 120, 121, 122, 65, 66, 67, 68, 69, 70, 71, 72, 73, 74, 75, 76, 77, 78, 79, 80, 81, 82, 83, 84, 85, 86, 87, 88, 89, 90, 48, 49, 50, 51, 52, 53, 54, 55, 56, 57] 1601), (.int 23 0)]), #[]⟩
noncomputable def tL18_23 (P : Params) : BT := tr_14 P (m_11 P (.int 114 1668)) (d9_29 P) (dL18_23_82 P) (d17_84 P) (dL18_23_85 P)
noncomputable def SL18_23 (w : World) (os : OsState) : SharedT := ⟨tL18_23 w.params, 86, {}, #[], {}, 1671, os⟩
noncomputable def dL18_34_82 (_ : Params) : Obj := ⟨.type "list", none, .seq (mixL f77 f82 (k82.take 34)).toArray 0, #[]⟩
noncomputable def dL18_34_85 (_ : Params) : Obj := ⟨(.type "bytes_iterator"), none, (.fields #[(.bytes #[45, 33, 42, 43, 47, 97, 98, 99, 100, 101, 102, 103, 104, 105, 106, 107, 108, 109, 110, 111, 112, 113, 114, 115, 116, 117, 118, 119, 120, 121, 122, 65, 66, 67, 68, 69, 70, 71, 72, 73, 74, 75, 76, 77, 78, 79, 80, 81, 82, 83, 84, 85, 86, 87, 88, 89, 90, 48, 49, 50, 51, 52, 53, 54, 55, 56, 57] 1601), (.int 34 0)]), #[]⟩
noncomputable def tL18_34 (P : Params) : BT := tr_14 P (m_11 P (.int 67 1701)) (d9_29 P) (dL18_34_82 P) (d17_84 P) (dL18_34_85 P)
noncomputable def SL18_34 (w : World) (os : OsState) : SharedT := ⟨tL18_34 w.params, 86, {}, #[], {}, 1704, os⟩
noncomputable def dL18_45_82 (_ : Params) : Obj := ⟨.type "list", none, .seq (mixL f77 f82 (k82.take 45)).toArray 0, #[]⟩
noncomputable def dL18_45_85 (_ : Params) : Obj := ⟨(.type "bytes_iterator"), none, (.fields #[(.bytes #[45, 33, 42, 43, 47, 97, 98, 99, 100, 101, 102, 103, 104, 105, 106, 107, 108, 109, 110, 111, 112, 113, 114, 115, 116, 117, 118, 119, 120, 121, 122, 65, 66, 67, 68, 69, 70, 71, 72, 73, 74, 75, 76, 77, 78, 79, 80, 81, 82, 83, 84, 85, 86, 87, 88, 89, 90, 48, 49, 50, 51, 52, 53, 54, 55, 56, 57] 1601), (.int 45 0)]), #[]⟩
noncomputable def tL18_45 (P : Params) : BT := tr_14 P (m_11 P (.int 78 1734)) (d9_29 P) (dL18_45_82 P) (d17_84 P) (dL18_45_85 P)
noncomputable def SL18_45 (w : World) (os : OsState) : SharedT := ⟨tL18_45 w.params, 86, {}, #[], {}, 1737, os⟩
noncomputable def dL18_56_82 (_ : Params) : Obj := ⟨.type "list", none, .seq (mixL f77 f82 (k82.take 56)).toArray 0, #[]⟩
noncomputable def dL18_56_85 (_ : Params) : Obj := ⟨(.type "bytes_iterator"), none, (.fields #[(.bytes #[45, 33, 42, 43, 47, 97, 98, 99, 100, 101, 102, 103, 104, 105, 106, 107, 108, 109, 110, 111, 112, 113, 114, 115, 116, 117, 118, 119, 120, 121, 122, 65, 66, 67, 68, 69, 70, 71, 72, 73, 74, 75, 76, 77, 78, 79, 80, 81, 82, 83, 84, 85, 86, 87, 88, 89, 90, 48, 49, 50, 51, 52, 53, 54, 55, 56, 57] 1601), (.int 56 0)]), #[]⟩
noncomputable def tL18_56 (P : Params) : BT := tr_14 P (m_11 P (.int 89 1767)) (d9_29 P) (dL18_56_82 P) (d17_84 P) (dL18_56_85 P)
noncomputable def SL18_56 (w : World) (os : OsState) : SharedT := ⟨tL18_56 w.params, 86, {}, #[], {}, 1770, os⟩
noncomputable def dL18_67_85 (_ : Params) : Obj := ⟨(.type "bytes_iterator"), none, (.fields #[(.bytes #[45, 33, 42, 43, 47, 97, 98, 99, 100, 101, 102, 103, 104, 105, 106, 107, 108, 109, 110, 111, 112, 113, 114, 115, 116, 117, 118, 119, 120, 121, 122, 65, 66, 67, 68, 69, 70, 71, 72, 73, 74, 75, 76, 77, 78, 79, 80, 81, 82, 83, 84, 85, 86, 87, 88, 89, 90, 48, 49, 50, 51, 52, 53, 54, 55, 56, 57] 1601), (.int 67 0)]), #[]⟩
noncomputable def tL18_67 (P : Params) : BT := tr_14 P (m_11 P (.int 57 1800)) (d9_29 P) (d18_82 P) (d17_84 P) (dL18_67_85 P)
noncomputable def SL18_67 (w : World) (os : OsState) : SharedT := ⟨tL18_67 w.params, 86, {}, #[], {}, 1803, os⟩
noncomputable def c18 : Code := forC (.ref 85) en (sts 18 1)
noncomputable def T18 (k : Result → Sem Fin) : Thread := lp c18 ⟨116, 4, 116, 25⟩ k false [] ⟨115, 9, 115, 74⟩
noncomputable def G18 (w : World) (os : OsState) : Option (SharedT × Thread) := gop w 89 (S17 w os) (pcs 18 1 ⟨114, 0, 114, 8⟩)
theorem en18 : ∀ w, (fun os => G18 w os) = fun os => some (SL18_1 w os, T18 (kk (G18 w os))) := fun w => byRow2 "special-get-raises" (P := fun w => (fun os => G18 w os) = fun os => some (SL18_1 w os, T18 (kk (G18 w os)))) (fun w => by kernel_rfl) (fun w => by kernel_rfl) w
theorem ex18 : ∀ w, (fun os => run w 18 (SL18_67 w os) (T18 (kk (G18 w os)))) = fun os => some (.next, S18 w os, cE, ⟨115, 9, 115, 74⟩) := fun w => byRow2 "special-get-raises" (P := fun w => (fun os => run w 18 (SL18_67 w os) (T18 (kk (G18 w os)))) = fun os => some (.next, S18 w os, cE, ⟨115, 9, 115, 74⟩)) (fun w => by kernel_rfl) (fun w => by kernel_rfl) w
theorem tu18_1 : ∀ w, (fun os k => gop w 495 (SL18_1 w os) (T18 k)) = fun os k => some (SL18_12 w os, T18 k) := fun w => by kernel_rfl
theorem tu18_12 : ∀ w, (fun os k => gop w 495 (SL18_12 w os) (T18 k)) = fun os k => some (SL18_23 w os, T18 k) := fun w => by kernel_rfl
theorem tu18_23 : ∀ w, (fun os k => gop w 495 (SL18_23 w os) (T18 k)) = fun os k => some (SL18_34 w os, T18 k) := fun w => by kernel_rfl
theorem tu18_34 : ∀ w, (fun os k => gop w 495 (SL18_34 w os) (T18 k)) = fun os k => some (SL18_45 w os, T18 k) := fun w => by kernel_rfl
theorem tu18_45 : ∀ w, (fun os k => gop w 495 (SL18_45 w os) (T18 k)) = fun os k => some (SL18_56 w os, T18 k) := fun w => by kernel_rfl
theorem tu18_56 : ∀ w, (fun os k => gop w 495 (SL18_56 w os) (T18 k)) = fun os k => some (SL18_67 w os, T18 k) := fun w => by kernel_rfl
noncomputable def dL20_1_84 (_ : Params) : Obj := ⟨.type "list", none, .seq (mixL f77 f84 (k84.take 1)).toArray 0, #[]⟩
noncomputable def dL20_1_88 (_ : Params) : Obj := ⟨(.type "bytes_iterator"), none, (.fields #[(.bytes #[32, 33, 34, 35, 36, 37, 38, 39, 40, 41, 42, 43, 44, 45, 46, 47, 48, 49, 50, 51, 52, 53, 54, 55, 56, 57, 58, 59, 60, 62, 63, 64, 65, 66, 67, 68, 69, 70, 71, 72, 73, 74, 75, 76, 77, 78, 79, 80, 81, 82, 83, 84, 85, 86, 87, 88, 89, 90, 91, 92, 93, 94, 95, 96, 97, 98, 99, 100, 101, 102, 103, 104, 105, 106, 107, 108, 109, 110, 111, 112, 113, 114, 115, 116, 117, 118, 119, 120, 121, 122, 123, 124, 125, 126, 9] 1806), (.int 1 0)]), #[]⟩
noncomputable def tr_15 (P : Params) (x3 x29 x84 x88 : Obj) : BT := (.node (boot_o_0 P) (.node (o_1 P) (.node (x3) (.node (o_7 P) (.node (o_15 P) (.node (o_31 P) (.node (o_63 P) .nil .nil) .nil) (.node (o_47 P) (.node (o_79 P) .nil .nil) .nil)) (.node (o_23 P) (.node (o_39 P) (.node (o_71 P) .nil .nil) .nil) (.node (o_55 P) (.node (o_87 P) .nil .nil) .nil))) (.node (o_11 P) (.node (o_19 P) (.node (o_35 P) (.node (o_67 P) .nil .nil) .nil) (.node (o_51 P) (.node (o_83 P) .nil .nil) .nil)) (.node (o_27 P) (.node (o_43 P) (.node (o_75 P) .nil .nil) .nil) (.node (o_59 P) .nil .nil)))) (.node (o_5 P) (.node (o_9 P) (.node (o_17 P) (.node (o_33 P) (.node (o_65 P) .nil .nil) .nil) (.node (o_49 P) (.node (o_81 P) .nil .nil) .nil)) (.node (o_25 P) (.node (o_41 P) (.node (o_73 P) .nil .nil) .nil) (.node (o_57 P) .nil .nil))) (.node (o_13 P) (.node (o_21 P) (.node (o_37 P) (.node (o_69 P) .nil .nil) .nil) (.node (o_53 P) (.node (o_85 P) .nil .nil) .nil)) (.node (x29) (.node (o_45 P) (.node (o_77 P) .nil .nil) .nil) (.node (o_61 P) .nil .nil))))) (.node (o_2 P) (.node (o_4 P) (.node (o_8 P) (.node (o_16 P) (.node (o_32 P) (.node (o_64 P) .nil .nil) .nil) (.node (o_48 P) (.node (o_80 P) .nil .nil) .nil)) (.node (o_24 P) (.node (o_40 P) (.node (o_72 P) .nil .nil) .nil) (.node (o_56 P) (.node (x88) .nil .nil) .nil))) (.node (o_12 P) (.node (o_20 P) (.node (o_36 P) (.node (o_68 P) .nil .nil) .nil) (.node (o_52 P) (.node (x84) .nil .nil) .nil)) (.node (o_28 P) (.node (o_44 P) (.node (o_76 P) .nil .nil) .nil) (.node (o_60 P) .nil .nil)))) (.node (o_6 P) (.node (o_10 P) (.node (o_18 P) (.node (o_34 P) (.node (o_66 P) .nil .nil) .nil) (.node (o_50 P) (.node (o_82 P) .nil .nil) .nil)) (.node (o_26 P) (.node (o_42 P) (.node (o_74 P) .nil .nil) .nil) (.node (o_58 P) .nil .nil))) (.node (o_14 P) (.node (o_22 P) (.node (o_38 P) (.node (o_70 P) .nil .nil) .nil) (.node (o_54 P) (.node (o_86 P) .nil .nil) .nil)) (.node (o_30 P) (.node (o_46 P) (.node (o_78 P) .nil .nil) .nil) (.node (o_62 P) .nil .nil))))))
noncomputable def tL20_1 (P : Params) : BT := tr_15 P (m_11 P (.int 32 1807)) (d9_29 P) (dL20_1_84 P) (dL20_1_88 P)
noncomputable def SL20_1 (w : World) (os : OsState) : SharedT := ⟨tL20_1 w.params, 89, {}, #[], {}, 1810, os⟩
noncomputable def dL20_13_84 (_ : Params) : Obj := ⟨.type "list", none, .seq (mixL f77 f84 (k84.take 13)).toArray 0, #[]⟩
noncomputable def dL20_13_88 (_ : Params) : Obj := ⟨(.type "bytes_iterator"), none, (.fields #[(.bytes #[32, 33, 34, 35, 36, 37, 38, 39, 40, 41, 42, 43, 44, 45, 46, 47, 48, 49, 50, 51, 52, 53, 54, 55, 56, 57, 58, 59, 60, 62, 63, 64, 65, 66, 67, 68, 69, 70, 71, 72, 73, 74, 75, 76, 77, 78, 79, 80, 81, 82, 83, 84, 85, 86, 87, 88, 89, 90, 91, 92, 93, 94, 95, 96, 97, 98, 99, 100, 101, 102, 103, 104, 105, 106, 107, 108, 109, 110, 111, 112, 113, 114, 115, 116, 117, 118, 119, 120, 121, 122, 123, 124, 125, 126, 9] 1806), (.int 13 0)]), #[]⟩
noncomputable def tL20_13 (P : Params) : BT := tr_15 P (m_11 P (.int 44 1843)) (d9_29 P) (dL20_13_84 P) (dL20_13_88 P)
noncomputable def SL20_13 (w : World) (os : OsState) : SharedT := ⟨tL20_13 w.params, 89, {}, #[], {}, 1846, os⟩
noncomputable def dL20_25_84 (_ : Params) : Obj := ⟨.type "list", none, .seq (mixL f77 f84 (k84.take 25)).toArray 0, #[]⟩
noncomputable def dL20_25_88 (_ : Params) : Obj := ⟨(.type "bytes_iterator"), none, (.fields #[(.bytes #[32, 33, 34, 35, 36, 37, 38, 39, 40, 41, 42, 43, 44, 45, 46, 47, 48, 49, 50, 51, 52, 53, 54, 55, 56, 57, 58, 59, 60, 62, 63, 64, 65, 66, 67, 68, 69, 70, 71, 72, 73, 74, 75, 76, 77, 78, 79, 80, 81, 82, 83, 84, 85, 86, 87, 88, 89, 90, 91, 92, 93, 94, 95, 96, 97, 98, 99, 100, 101, 102, 103, 104, 105, 106, 107, 108, 109, 110, 111, 112, 113, 114, 115, 116, 117, 118, 119, 120, 121, 122, 123, 124, 125, 126, 9] 1806), (.int 25 0)]), #[]⟩
noncomputable def tL20_25 (P : Params) : BT := tr_15 P (m_11 P (.int 56 1879)) (d9_29 P) (dL20_25_84 P) (dL20_25_88 P)
noncomputable def SL20_25 (w : World) (os : OsState) : SharedT := ⟨tL20_25 w.params, 89, {}, #[], {}, 1882, os⟩
noncomputable def dL20_37_84 (_ : Params) : Obj := ⟨.type "list", none, .seq (mixL f77 f84 (k84.take 37)).toArray 0, #[]⟩
noncomputable def dL20_37_88 (_ : Params) : Obj := ⟨(.type "bytes_iterator"), none, (.fields #[(.bytes #[32, 33, 34, 35, 36, 37, 38, 39, 40, 41, 42, 43, 44, 45, 46, 47, 48, 49, 50, 51, 52, 53, 54, 55, 56, 57, 58, 59, 60, 62, 63, 64, 65, 66, 67, 68, 69, 70, 71, 72, 73, 74, 75, 76, 77, 78, 79, 80, 81, 82, 83, 84, 85, 86, 87, 88, 89, 90, 91, 92, 93, 94, 95, 96, 97, 98, 99, 100, 101, 102, 103, 104, 105, 106, 107, 108, 109, 110, 111, 112, 113, 114, 115, 116, 117, 118, 119, 120, 121, 122, 123, 124, 125, 126, 9] 1806), (.int 37 0)]), #[]⟩
noncomputable def tL20_37 (P : Params) : BT := tr_15 P (m_11 P (.int 69 1915)) (d9_29 P) (dL20_37_84 P) (dL20_37_88 P)
noncomputable def SL20_37 (w : World) (os : OsState) : SharedT := ⟨tL20_37 w.params, 89, {}, #[], {}, 1918, os⟩
noncomputable def dL20_49_84 (_ : Params) : Obj := ⟨.type "list", none, .seq (mixL f77 f84 (k84.take 49)).toArray 0, #[]⟩
noncomputable def dL20_49_88 (_ : Params) : Obj := ⟨(.type "bytes_iterator"), none, (.fields #[(.bytes #[32, 33, 34, 35, 36, 37, 38, 39, 40, 41, 42, 43, 44, 45, 46, 47, 48, 49, 50, 51, 52, 53, 54, 55, 56, 57, 58, 59, 60, 62, 63, 64, 65, 66, 67, 68, 69, 70, 71, 72, 73, 74, 75, 76, 77, 78, 79, 80, 81, 82, 83, 84, 85, 86, 87, 88, 89, 90, 91, 92, 93, 94, 95, 96, 97, 98, 99, 100, 101, 102, 103, 104, 105, 106, 107, 108, 109, 110, 111, 112, 113, 114, 115, 116, 117, 118, 119, 120, 121, 122, 123, 124, 125, 126, 9] 1806), (.int 49 0)]), #[]⟩
noncomputable def tL20_49 (P : Params) : BT := tr_15 P (m_11 P (.int 81 1951)) (d9_29 P) (dL20_49_84 P) (dL20_49_88 P)
noncomputable def SL20_49 (w : World) (os : OsState) : SharedT := ⟨tL20_49 w.params, 89, {}, #[], {}, 1954, os⟩
noncomputable def dL20_61_84 (_ : Params) : Obj := ⟨.type "list", none, .seq (mixL f77 f84 (k84.take 61)).toArray 0, #[]⟩
noncomputable def dL20_61_88 (_ : Params) : Obj := ⟨(.type "bytes_iterator"), none, (.fields #[(.bytes #[32, 33, 34, 35, 36, 37, 38, 39, 40, 41, 42, 43, 44, 45, 46, 47, 48, 49, 50, 51, 52, 53, 54, 55, 56, 57, 58, 59, 60, 62, 63, 64, 65, 66, 67, 68, 69, 70, 71, 72, 73, 74, 75, 76, 77, 78, 79, 80, 81, 82, 83, 84, 85, 86, 87, 88, 89, 90, 91, 92, 93, 94, 95, 96, 97, 98, 99, 100, 101, 102, 103, 104, 105, 106, 107, 108, 109, 110, 111, 112, 113, 114, 115, 116, 117, 118, 119, 120, 121, 122, 123, 124, 125, 126, 9] 1806), (.int 61 0)]), #[]⟩
noncomputable def tL20_61 (P : Params) : BT := tr_15 P (m_11 P (.int 93 1987)) (d9_29 P) (dL20_61_84 P) (dL20_61_88 P)
noncomputable def SL20_61 (w : World) (os : OsState) : SharedT := ⟨tL20_61 w.params, 89, {}, #[], {}, 1990, os⟩
noncomputable def dL20_73_84 (_ : Params) : Obj := ⟨.type "list", none, .seq (mixL f77 f84 (k84.take 73)).toArray 0, #[]⟩
noncomputable def dL20_73_88 (_ : Params) : Obj := ⟨(.type "bytes_iterator"), none, (.fields #[(.bytes #[32, 33, 34, 35, 36, 37, 38, 39, 40, 41, 42, 43, 44, 45, 46, 47, 48, 49, 50, 51, 52, 53, 54, 55, 56, 57, 58, 59, 60, 62, 63, 64, 65, 66, 67, 68, 69, 70, 71, 72, 73, 74, 75, 76, 77, 78, 79, 80, 81, 82, 83, 84, 85, 86, 87, 88, 89, 90, 91, 92, 93, 94, 95, 96, 97, 98, 99, 100, 101, 102, 103, 104, 105, 106, 107, 108, 109, 110, 111, 112, 113, 114, 115, 116, 117, 118, 119, 120, 121, 122, 123, 124, 125, 126, 9] 1806), (.int 73 0)]), #[]⟩
noncomputable def tL20_73 (P : Params) : BT := tr_15 P (m_11 P (.int 105 2023)) (d9_29 P) (dL20_73_84 P) (dL20_73_88 P)
noncomputable def SL20_73 (w : World) (os : OsState) : SharedT := ⟨tL20_73 w.params, 89, {}, #[], {}, 2026, os⟩
noncomputable def dL20_85_84 (_ : Params) : Obj := ⟨.type "list", none, .seq (mixL f77 f84 (k84.take 85)).toArray 0, #[]⟩
noncomputable def dL20_85_88 (_ : Params) : Obj := ⟨(.type "bytes_iterator"), none, (.fields #[(.bytes #[32, 33, 34, 35, 36, 37, 38, 39, 40, 41, 42, 43, 44, 45, 46, 47, 48, 49, 50, 51, 52, 53, 54, 55, 56, 57, 58, 59, 60, 62, 63, 64, 65, 66, 67, 68, 69, 70, 71, 72, 73, 74, 75, 76, 77, 78, 79, 80, 81, 82, 83, 84, 85, 86, 87, 88, 89, 90, 91, 92, 93, 94, 95, 96, 97, 98, 99, 100, 101, 102, 103, 104, 105, 106, 107, 108, 109, 110, 111, 112, 113, 114, 115, 116, 117, 118, 119, 120, 121, 122, 123, 124, 125, 126, 9] 1806), (.int 85 0)]), #[]⟩
noncomputable def tL20_85 (P : Params) : BT := tr_15 P (m_11 P (.int 117 2059)) (d9_29 P) (dL20_85_84 P) (dL20_85_88 P)
noncomputable def SL20_85 (w : World) (os : OsState) : SharedT := ⟨tL20_85 w.params, 89, {}, #[], {}, 2062, os⟩
noncomputable def dL20_95_88 (_ : Params) : Obj := ⟨(.type "bytes_iterator"), none, (.fields #[(.bytes #[32, 33, 34, 35, 36, 37, 38, 39, 40, 41, 42, 43, 44, 45, 46, 47, 48, 49, 50, 51, 52, 53, 54, 55, 56, 57, 58, 59, 60, 62, 63, 64, 65, 66, 67, 68, 69, 70, 71, 72, 73, 74, 75, 76, 77, 78, 79, 80, 81, 82, 83, 84, 85, 86, 87, 88, 89, 90, 91, 92, 93, 94, 95, 96, 97, 98, 99, 100, 101, 102, 103, 104, 105, 106, 107, 108, 109, 110, 111, 112, 113, 114, 115, 116, 117, 118, 119, 120, 121, 122, 123, 124, 125, 126, 9] 1806), (.int 95 0)]), #[]⟩
noncomputable def tr_16 (P : Params) (x3 x29 x88 : Obj) : BT := (.node (boot_o_0 P) (.node (o_1 P) (.node (x3) (.node (o_7 P) (.node (o_15 P) (.node (o_31 P) (.node (o_63 P) .nil .nil) .nil) (.node (o_47 P) (.node (o_79 P) .nil .nil) .nil)) (.node (o_23 P) (.node (o_39 P) (.node (o_71 P) .nil .nil) .nil) (.node (o_55 P) (.node (o_87 P) .nil .nil) .nil))) (.node (o_11 P) (.node (o_19 P) (.node (o_35 P) (.node (o_67 P) .nil .nil) .nil) (.node (o_51 P) (.node (o_83 P) .nil .nil) .nil)) (.node (o_27 P) (.node (o_43 P) (.node (o_75 P) .nil .nil) .nil) (.node (o_59 P) .nil .nil)))) (.node (o_5 P) (.node (o_9 P) (.node (o_17 P) (.node (o_33 P) (.node (o_65 P) .nil .nil) .nil) (.node (o_49 P) (.node (o_81 P) .nil .nil) .nil)) (.node (o_25 P) (.node (o_41 P) (.node (o_73 P) .nil .nil) .nil) (.node (o_57 P) .nil .nil))) (.node (o_13 P) (.node (o_21 P) (.node (o_37 P) (.node (o_69 P) .nil .nil) .nil) (.node (o_53 P) (.node (o_85 P) .nil .nil) .nil)) (.node (x29) (.node (o_45 P) (.node (o_77 P) .nil .nil) .nil) (.node (o_61 P) .nil .nil))))) (.node (o_2 P) (.node (o_4 P) (.node (o_8 P) (.node (o_16 P) (.node (o_32 P) (.node (o_64 P) .nil .nil) .nil) (.node (o_48 P) (.node (o_80 P) .nil .nil) .nil)) (.node (o_24 P) (.node (o_40 P) (.node (o_72 P) .nil .nil) .nil) (.node (o_56 P) (.node (x88) .nil .nil) .nil))) (.node (o_12 P) (.node (o_20 P) (.node (o_36 P) (.node (o_68 P) .nil .nil) .nil) (.node (o_52 P) (.node (o_84 P) .nil .nil) .nil)) (.node (o_28 P) (.node (o_44 P) (.node (o_76 P) .nil .nil) .nil) (.node (o_60 P) .nil .nil)))) (.node (o_6 P) (.node (o_10 P) (.node (o_18 P) (.node (o_34 P) (.node (o_66 P) .nil .nil) .nil) (.node (o_50 P) (.node (o_82 P) .nil .nil) .nil)) (.node (o_26 P) (.node (o_42 P) (.node (o_74 P) .nil .nil) .nil) (.node (o_58 P) .nil .nil))) (.node (o_14 P) (.node (o_22 P) (.node (o_38 P) (.node (o_70 P) .nil .nil) .nil) (.node (o_54 P) (.node (o_86 P) .nil .nil) .nil)) (.node (o_30 P) (.node (o_46 P) (.node (o_78 P) .nil .nil) .nil) (.node (o_62 P) .nil .nil))))))
noncomputable def tL20_95 (P : Params) : BT := tr_16 P (m_11 P (.int 9 2089)) (d9_29 P) (dL20_95_88 P)
noncomputable def SL20_95 (w : World) (os : OsState) : SharedT := ⟨tL20_95 w.params, 89, {}, #[], {}, 2092, os⟩
noncomputable def c20 : Code := forC (.ref 88) en (sts 20 1)
noncomputable def T20 (k : Result → Sem Fin) : Thread := lp c20 ⟨119, 4, 119, 23⟩ k false [] ⟨118, 9, 118, 110⟩
noncomputable def G20 (w : World) (os : OsState) : Option (SharedT × Thread) := gop w 55 (S19 w os) (pcs 20 1 ⟨117, 0, 117, 28⟩)
theorem en20 : ∀ w, (fun os => G20 w os) = fun os => some (SL20_1 w os, T20 (kk (G20 w os))) := fun w => byRow2 "special-get-raises" (P := fun w => (fun os => G20 w os) = fun os => some (SL20_1 w os, T20 (kk (G20 w os)))) (fun w => by kernel_rfl) (fun w => by kernel_rfl) w
theorem ex20 : ∀ w, (fun os => run w 18 (SL20_95 w os) (T20 (kk (G20 w os)))) = fun os => some (.next, S20 w os, cE, ⟨118, 9, 118, 110⟩) := fun w => byRow2 "special-get-raises" (P := fun w => (fun os => run w 18 (SL20_95 w os) (T20 (kk (G20 w os)))) = fun os => some (.next, S20 w os, cE, ⟨118, 9, 118, 110⟩)) (fun w => by kernel_rfl) (fun w => by kernel_rfl) w
theorem tu20_1 : ∀ w, (fun os k => gop w 540 (SL20_1 w os) (T20 k)) = fun os k => some (SL20_13 w os, T20 k) := fun w => by kernel_rfl
theorem tu20_13 : ∀ w, (fun os k => gop w 540 (SL20_13 w os) (T20 k)) = fun os k => some (SL20_25 w os, T20 k) := fun w => by kernel_rfl
theorem tu20_25 : ∀ w, (fun os k => gop w 540 (SL20_25 w os) (T20 k)) = fun os k => some (SL20_37 w os, T20 k) := fun w => by kernel_rfl
theorem tu20_37 : ∀ w, (fun os k => gop w 540 (SL20_37 w os) (T20 k)) = fun os k => some (SL20_49 w os, T20 k) := fun w => by kernel_rfl
theorem tu20_49 : ∀ w, (fun os k => gop w 540 (SL20_49 w os) (T20 k)) = fun os k => some (SL20_61 w os, T20 k) := fun w => by kernel_rfl
theorem tu20_61 : ∀ w, (fun os k => gop w 540 (SL20_61 w os) (T20 k)) = fun os k => some (SL20_73 w os, T20 k) := fun w => by kernel_rfl
theorem tu20_73 : ∀ w, (fun os k => gop w 540 (SL20_73 w os) (T20 k)) = fun os k => some (SL20_85 w os, T20 k) := fun w => by kernel_rfl
theorem tu20_85 : ∀ w, (fun os k => gop w 450 (SL20_85 w os) (T20 k)) = fun os k => some (SL20_95 w os, T20 k) := fun w => by kernel_rfl
theorem g0 : ∀ w, (fun os => run w 131 (Sb w os) (pcs 0 4 ⟨0, 0, 0, 0⟩)) = fun os => some (.next, S3 w os, cE, ⟨8, 0, 8, 8⟩) := fun w => by kernel_rfl
theorem g5 : ∀ w, (fun os => run w 193 (S4 w os) (pcs 5 5 ⟨9, 0, 9, 18⟩)) = fun os => some (.next, S9 w os, cE, ⟨106, 0, 106, 20⟩) := fun w => by kernel_rfl
theorem g11 : ∀ w, (fun os => run w 109 (S10 w os) (pcs 11 7 ⟨107, 0, 107, 11⟩)) = fun os => some (.next, S17 w os, cE, ⟨114, 0, 114, 8⟩) := fun w => by kernel_rfl
theorem g19 : ∀ w, (fun os => run w 25 (S18 w os) (pcs 19 1 ⟨115, 9, 115, 74⟩)) = fun os => some (.next, S19 w os, cE, ⟨117, 0, 117, 28⟩) := fun w => by kernel_rfl
theorem g21 : ∀ w, (fun os => run w 420 (S20 w os) (pcs 21 13 ⟨118, 9, 118, 110⟩)) = fun os => some (.next, S33 w os, cE, ⟨234, 0, 242, 102⟩) := fun w => byRow2 "special-get-raises" (P := fun w => (fun os => run w 420 (S20 w os) (pcs 21 13 ⟨118, 9, 118, 110⟩)) = fun os => some (.next, S33 w os, cE, ⟨234, 0, 242, 102⟩)) (fun w => by kernel_rfl) (fun w => by kernel_rfl) w
noncomputable def de_11 (P : Params) : Obj := ⟨(.type "dict"), none, (.dict #[(de P "__name__" 247 (.str "_sre" 246)), (de P "__doc__" 248 .none), (de P "__package__" 250 (.str "" 249)), (de P "__loader__" 251 (.ref 14)), (de P "__spec__" 252 (.ref 26)), (de P "compile" 253 (.builtin "_sre.compile")), (de P "template" 254 (.builtin "_sre.template")), (de P "getcodesize" 255 (.builtin "_sre.getcodesize")), (de P "ascii_iscased" 256 (.builtin "_sre.ascii_iscased")), (de P "unicode_iscased" 257 (.builtin "_sre.unicode_iscased")), (de P "ascii_tolower" 258 (.builtin "_sre.ascii_tolower")), (de P "unicode_tolower" 259 (.builtin "_sre.unicode_tolower")), (de P "MAGIC" 261 (.int 20230612 260)), (de P "CODESIZE" 263 (.int 4 262)), (de P "MAXREPEAT" 265 (.int 4294967295 264)), (de P "MAXGROUPS" 267 (.int 1073741823 266)), (de P "copyright" 269 (.str " SRE 2.2.2 Copyright (c) 1997-2002 by Secret Labs AB " 268))] 17), #[]⟩
noncomputable def tr_17 (P : Params) (x3 x11 : Obj) : BT := (.node (boot_o_0 P) (.node (o_1 P) (.node (x3) (.node (o_7 P) (.node (o_15 P) .nil .nil) (.node (o_23 P) .nil .nil)) (.node (x11) (.node (o_19 P) .nil .nil) (.node (o_27 P) .nil .nil))) (.node (o_5 P) (.node (o_9 P) (.node (o_17 P) .nil .nil) (.node (o_25 P) .nil .nil)) (.node (o_13 P) (.node (o_21 P) .nil .nil) .nil))) (.node (o_2 P) (.node (o_4 P) (.node (o_8 P) (.node (o_16 P) .nil .nil) (.node (o_24 P) .nil .nil)) (.node (o_12 P) (.node (o_20 P) .nil .nil) .nil)) (.node (o_6 P) (.node (o_10 P) (.node (o_18 P) .nil .nil) (.node (o_26 P) .nil .nil)) (.node (o_14 P) (.node (o_22 P) .nil .nil) .nil))))
noncomputable def te (P : Params) : BT := tr_17 P (db_3 P) (de_11 P)
noncomputable def Se (w : World) (os : OsState) : SharedT := ⟨te w.params, 28, {}, #[], {}, 276, os⟩
noncomputable def tr_18 (P : Params) (x3 : Obj) : BT := (.node (boot_o_0 P) (.node (o_1 P) (.node (x3) (.node (o_7 P) (.node (o_15 P) .nil .nil) (.node (o_23 P) .nil .nil)) (.node (o_11 P) (.node (o_19 P) .nil .nil) (.node (o_27 P) .nil .nil))) (.node (o_5 P) (.node (o_9 P) (.node (o_17 P) .nil .nil) (.node (o_25 P) .nil .nil)) (.node (o_13 P) (.node (o_21 P) .nil .nil) .nil))) (.node (o_2 P) (.node (o_4 P) (.node (o_8 P) (.node (o_16 P) .nil .nil) (.node (o_24 P) .nil .nil)) (.node (o_12 P) (.node (o_20 P) .nil .nil) .nil)) (.node (o_6 P) (.node (o_10 P) (.node (o_18 P) .nil .nil) (.node (o_26 P) .nil .nil)) (.node (o_14 P) (.node (o_22 P) .nil .nil) .nil))))
noncomputable def ts0 (P : Params) : BT := tr_18 P (db_3 P)
noncomputable def Ss0 (w : World) (os : OsState) : SharedT := ⟨ts0 w.params, 28, {}, #[], {}, 276, os⟩
noncomputable def hE (P : Params) : Heap := absHeap (te P) 28 {}
noncomputable def h0 (P : Params) : Heap := ⟨#[boot_o_0 P, o_1 P, o_2 P, db_3 P, o_4 P, o_5 P, o_6 P, o_7 P, o_8 P, o_9 P, o_10 P, o_11 P, o_12 P, o_13 P, o_14 P, o_15 P, o_16 P, o_17 P, o_18 P, o_19 P, o_20 P, o_21 P, o_22 P, o_23 P, o_24 P, o_25 P, o_26 P, o_27 P], {}⟩
noncomputable def hF (P : Params) : Heap := ⟨#[boot_o_0 P, o_1 P, o_2 P, o_3 P, o_4 P, o_5 P, o_6 P, o_7 P, o_8 P, o_9 P, o_10 P, o_11 P, o_12 P, o_13 P, o_14 P, o_15 P, o_16 P, o_17 P, o_18 P, o_19 P, o_20 P, o_21 P, o_22 P, o_23 P, o_24 P, o_25 P, o_26 P, o_27 P, o_28 P, o_29 P, o_30 P, o_31 P, o_32 P, o_33 P, o_34 P, o_35 P, o_36 P, o_37 P, o_38 P, o_39 P, o_40 P, o_41 P, o_42 P, o_43 P, o_44 P, o_45 P, o_46 P, o_47 P, o_48 P, o_49 P, o_50 P, o_51 P, o_52 P, o_53 P, o_54 P, o_55 P, o_56 P, o_57 P, o_58 P, o_59 P, o_60 P, o_61 P, o_62 P, o_63 P, o_64 P, o_65 P, o_66 P, o_67 P, o_68 P, o_69 P, o_70 P, o_71 P, o_72 P, o_73 P, o_74 P, o_75 P, o_76 P, o_77 P, o_78 P, o_79 P, o_80 P, o_81 P, o_82 P, o_83 P, o_84 P, o_85 P, o_86 P, o_87 P, o_88 P, o_89 P, o_90 P, o_91 P, o_92 P, o_93 P, o_94 P, o_95 P, o_96 P, o_97 P, o_98 P, o_99 P, o_100 P, o_101 P, o_102 P, o_103 P, o_104 P, o_105 P, o_106 P, o_107 P, o_108 P, o_109 P, o_110 P, o_111 P, o_112 P, o_113 P, o_114 P, o_115 P, o_116 P, o_117 P, o_118 P, o_119 P, o_120 P, o_121 P, o_122 P, o_123 P, o_124 P, o_125 P, o_126 P, o_127 P, o_128 P, o_129 P, o_130 P, o_131 P, o_132 P, o_133 P, o_134 P, o_135 P, o_136 P, o_137 P, o_138 P, o_139 P, o_140 P, o_141 P, o_142 P, o_143 P, o_144 P, o_145 P, o_146 P, o_147 P, o_148 P, o_149 P, o_150 P, o_151 P], {}⟩
theorem op0 : ∀ w, Fast.tw10274390034422433532 Fast.tw14364793385576792824 (opening pr) w 799 (start (opening pr)).1 (start (opening pr)).2 = some ⟨hE w.params, #[], {}, 276, (start (opening pr)).1.os⟩ := fun w => by kernel_rfl
theorem fe0 : ∀ w : World, (fun os => (Fast.tw14289696077712309145 pr ⟨hE w.params, #[], {}, 276, os⟩).map (fun s => (s.heap, s.gens, s.drawn, s.toks))) = fun _ => some (h0 w.params, #[], {}, 276) := fun w => by kernel_rfl
theorem pre0 : ∀ w : World, (fun os => Fast.tw15667345088766844465 Fast.tw14364793385576792824 pr w 28 (some (.ref 6)) 12 ⟨h0 w.params, #[], {}, 276, os⟩ (topStub pr)) = fun os => some ((Sb w os).abs, ⟨Fast.tw11892475500146522536 Fast.tw14364793385576792824 cE, cE, q0, [topFrame q0]⟩) := fun w => by kernel_rfl
theorem blk0 : ∀ w : World, (fun os => Fast.tw14374325043358763698 Fast.tw14364793385576792824 pr w 28 (some (.ref 6)) 1 1 (Sb w os).abs ⟨(Fast.tw1066825118222455980 bd en).wrap (fun _ => doneF .next) deadEnd id id, cE, q0, [topFrame q0]⟩) = fun os => some (.next, (Sb w os).abs, cE, q0) := fun w => by kernel_rfl
theorem fin0 : ∀ w : World, (fun os => Fast.tw14082659384304107361 Fast.tw14364793385576792824 pr w 28 (some (.ref 6)) 2 (S33 w os).abs ⟨doneF .next, cE, ⟨234, 0, 242, 102⟩, [topFrame q0]⟩) = fun os => some ⟨hF w.params, #[], {}, 2171, os⟩ := fun w => by kernel_rfl
theorem size0 : ∀ w : World, ((h0 w.params).isNs mainGlobals && (#[] : Array GenState).size == 0, (h0 w.params).objs.size, (h0 w.params).nsMap mainGlobals "__annotations__") = (true, 28, some (.ref 6)) := fun w => by kernel_rfl
theorem bd0 : bd = sts 0 4 ++ (sts 4 1 ++ (sts 5 5 ++ (sts 10 1 ++ (sts 11 7 ++ (sts 18 1 ++ (sts 19 1 ++ (sts 20 1 ++ (sts 21 13 ++ [])))))))) := by kernel_rfl
noncomputable def heap_39 : Params → PySem.W.Frag := fun P => (nat_lit 2, o_2 P) :: (nat_lit 3, o_3 P) :: (nat_lit 6, o_6 P) :: (nat_lit 11, o_11 P) :: (nat_lit 12, o_12 P) :: (nat_lit 35, o_35 P) :: (nat_lit 36, o_36 P) :: (nat_lit 37, o_37 P) :: (nat_lit 39, o_39 P) :: (nat_lit 40, o_40 P) :: (nat_lit 42, o_42 P) :: (nat_lit 43, o_43 P) :: (nat_lit 45, o_45 P) :: (nat_lit 49, o_49 P) :: (nat_lit 51, o_51 P) :: (nat_lit 52, o_52 P) :: (nat_lit 54, o_54 P) :: (nat_lit 55, o_55 P) :: (nat_lit 56, o_56 P) :: (nat_lit 58, o_58 P) :: (nat_lit 59, o_59 P) :: (nat_lit 61, o_61 P) :: (nat_lit 62, o_62 P) :: (nat_lit 63, o_63 P) :: (nat_lit 65, o_65 P) :: (nat_lit 66, o_66 P) :: (nat_lit 68, o_68 P) :: (nat_lit 69, o_69 P) :: (nat_lit 73, o_73 P) :: (nat_lit 74, o_74 P) :: (nat_lit 77, o_77 P) :: (nat_lit 82, o_82 P) :: (nat_lit 84, o_84 P) :: (nat_lit 91, o_91 P) :: (nat_lit 93, o_93 P) :: (nat_lit 94, o_94 P) :: (nat_lit 96, o_96 P) :: (nat_lit 97, o_97 P) :: (nat_lit 98, o_98 P) :: (nat_lit 99, o_99 P) :: (nat_lit 101, o_101 P) :: (nat_lit 102, o_102 P) :: (nat_lit 104, o_104 P) :: (nat_lit 105, o_105 P) :: (nat_lit 107, o_107 P) :: (nat_lit 111, o_111 P) :: (nat_lit 113, o_113 P) :: (nat_lit 114, o_114 P) :: (nat_lit 116, o_116 P) :: (nat_lit 117, o_117 P) :: (nat_lit 118, o_118 P) :: (nat_lit 120, o_120 P) :: (nat_lit 121, o_121 P) :: (nat_lit 123, o_123 P) :: (nat_lit 124, o_124 P) :: (nat_lit 125, o_125 P) :: (nat_lit 128, o_128 P) :: (nat_lit 129, o_129 P) :: (nat_lit 130, o_130 P) :: (nat_lit 133, o_133 P) :: (nat_lit 134, o_134 P) :: (nat_lit 135, o_135 P) :: (nat_lit 138, o_138 P) :: (nat_lit 139, o_139 P) :: (nat_lit 140, o_140 P) :: (nat_lit 142, o_142 P) :: (nat_lit 143, o_143 P) :: (nat_lit 145, o_145 P) :: (nat_lit 146, o_146 P) :: (nat_lit 147, o_147 P) :: (nat_lit 150, o_150 P) :: (nat_lit 151, o_151 P) :: []
noncomputable def kas : List Addr := [2, 3, 6, 11, 12, 35, 36, 37, 39, 40, 42, 43, 45, 49, 51, 52, 54, 55, 56, 58, 59, 61, 62, 63, 65, 66, 68, 69, 73, 74, 77, 82, 84, 91, 93, 94, 96, 97, 98, 99, 101, 102, 104, 105, 107, 111, 113, 114, 116, 117, 118, 120, 121, 123, 124, 125, 128, 129, 130, 133, 134, 135, 138, 139, 140, 142, 143, 145, 146, 147, 150, 151]
theorem kas_eq : ∀ P, kas = (heap_39 P).map (·.1) := fun _ => by kernel_rfl
noncomputable def hook : Hook := kmHook heap_39 kas kas_eq [57]
noncomputable def vw : Program := { pr with main := { pr.main with body := [cell 0, cell 2, cell 3, cell 5, cell 6, cell 8, cell 9, cell 10, cell 11, cell 12, cell 13, cell 14, cell 15, cell 16, cell 17, cell 22, cell 24, cell 27, cell 28, cell 30, cell 31, cell 32, cell 33, cell 34] } }
noncomputable def lse : List PySem.Str := ["twin_re_1_fnmatch", "_special_chars_map", "twin_re_1_quoprimime", "_QUOPRI_MAP", "_QUOPRI_HEADER_MAP", "_QUOPRI_BODY_MAP", "ascii_letters", "header_encode", "_QUOPRI_BODY_ENCODE_MAP"]
noncomputable def lvs : List (PySem.Str × WData) := [("ascii_letters", .str ⟨#[97, 98, 99, 100, 101, 102, 103, 104, 105, 106, 107, 108, 109, 110, 111, 112, 113, 114, 115, 116, 117, 118, 119, 120, 121, 122, 65, 66, 67, 68, 69, 70, 71, 72, 73, 74, 75, 76, 77, 78, 79, 80, 81, 82, 83, 84, 85, 86, 87, 88, 89, 90]⟩)]
noncomputable def rr : RowW := PySem.Challenge.rw_ij0038_01.row.toRowW
noncomputable def xt (s : Shared) : Bool := xlAt vw lvs s && recOk (RowW.records rr) s
noncomputable def sF (w : World) (os : OsState) : Shared := ⟨hF w.params, #[], {}, 2171, os⟩
theorem lk1 : ∀ w : World, (fun os => staticsOk (importedModules pr.main.body) (h0 w.params) (hF w.params) && namesBound pr (hF w.params) && gensDone (sF w os) && laidKept (h0 w.params) (hF w.params)) = fun _ => true := fun w => by kernel_rfl
theorem lk2 : ∀ w : World, (fun os => Fast.tw4187177175401517315 vw lse (importedModules pr.main.body) xt true (sF w os)) = fun _ => openGood vw lse := fun w => by kernel_rfl
theorem lk3 : ∀ w : World, (fun os => hook.obs (sF w os)) = fun _ => hook.val w := fun w => by kernel_rfl
theorem run_eq {w n s t} : run w n s t = segRunT treeTable pr w 28 (some (.ref 6)) 1 n s t := by unfold run; rw [← Fast.te10110043849684766642, ← Fast.te14364793385576792824]
theorem gop_eq {w n s t} : gop w n s t = segGoT treeTable pr w 28 (some (.ref 6)) 1 n s t := by unfold gop; rw [← Fast.te10295753902157049106, ← Fast.te14364793385576792824]
theorem pcs_eq {a b q} : pcs a b q = piecesOf (sts a b) en cE q [topFrame q0] := by unfold pcs; rw [← Fast.te12563942051412417395]
theorem run_of {w n s t f s' c q} (h : run w n s t = some (f, s', c, q)) : segRun treeTable pr w 28 (some (.ref 6)) 1 n s.abs t = some (f, s'.abs, c, q) := segRun_of (run_eq.symm.trans h)
theorem go_of {w n N s s' t t' r} (h : gop w n s t = some (s', t')) (k : segRun treeTable pr w 28 (some (.ref 6)) 1 N (SharedT.abs s') t' = some r) : segRun treeTable pr w 28 (some (.ref 6)) 1 (n + N) s.abs t = some r := seg_go (segGo_of (gop_eq.symm.trans h)) k
noncomputable abbrev tRun (w : World) (N : Nat) (s : Shared) (t : Thread) : Option Shared := topRun treeTable pr w 28 (some (.ref 6)) N s t
noncomputable abbrev sRun (w : World) (N : Nat) (s : SharedT) (t : Thread) := segRun treeTable pr w 28 (some (.ref 6)) 1 N s.abs t
theorem grpS {w n N rest a b q q'} {S S' r : Shared} (h : segRun treeTable pr w 28 (some (.ref 6)) 1 n S (pcs a b q) = some (.next, S', cE, q')) (k : tRun w N S' (restOf rest en cE q' [topFrame q0]) = some r) : tRun w (n + N) S (restOf (sts a b ++ rest) en cE q [topFrame q0]) = some r := piece_app (pcs_eq ▸ h) k
theorem grp {w n N rest a b q q'} {S S' : SharedT} {r : Shared} (h : run w n S (pcs a b q) = some (.next, S', cE, q')) (k : tRun w N S'.abs (restOf rest en cE q' [topFrame q0]) = some r) : tRun w (n + N) S.abs (restOf (sts a b ++ rest) en cE q [topFrame q0]) = some r := grpS (run_of h) k
theorem lp4f (w : World) (os : OsState) : sRun (w.withFollow "comprehension-iter-twice" false) 1253 (S3 (w.withFollow "comprehension-iter-twice" false) os) (pcs 4 1 ⟨8, 0, 8, 8⟩) = some (.next, (S4 (w.withFollow "comprehension-iter-twice" false) os).abs, cE, ⟨9, 0, 9, 18⟩) := go_of (congrFun (en4f w) os) (go_of (congrFun (congrFun (tu4_1 (w.withFollow "comprehension-iter-twice" false)) os) _) (go_of (congrFun (congrFun (tu4_9 (w.withFollow "comprehension-iter-twice" false)) os) _) (go_of (congrFun (congrFun (tu4_17 (w.withFollow "comprehension-iter-twice" false)) os) _) (run_of (congrFun (ex4f w) os)))))
theorem lp4t (w : World) (os : OsState) : sRun (w.withFollow "comprehension-iter-twice" true) 1253 (S3 (w.withFollow "comprehension-iter-twice" true) os) (pcs 4 1 ⟨8, 0, 8, 8⟩) = some (.next, (S4 (w.withFollow "comprehension-iter-twice" true) os).abs, cE, ⟨9, 0, 9, 18⟩) := go_of (congrFun (en4t w) os) (go_of (congrFun (congrFun (tu4_1 (w.withFollow "comprehension-iter-twice" true)) os) _) (go_of (congrFun (congrFun (tu4_9 (w.withFollow "comprehension-iter-twice" true)) os) _) (go_of (congrFun (congrFun (tu4_17 (w.withFollow "comprehension-iter-twice" true)) os) _) (run_of (congrFun (ex4t w) os)))))
theorem lp4 (w : World) (os : OsState) : sRun w 1253 (S3 w os) (pcs 4 1 ⟨8, 0, 8, 8⟩) = some (.next, (S4 w os).abs, cE, ⟨9, 0, 9, 18⟩) := byRow2 "comprehension-iter-twice" (P := fun w => sRun w 1253 (S3 w os) (pcs 4 1 ⟨8, 0, 8, 8⟩) = some (.next, (S4 w os).abs, cE, ⟨9, 0, 9, 18⟩)) (fun w => lp4f w os) (fun w => lp4t w os) w
theorem lp10f (w : World) (os : OsState) : sRun (w.withFollow "comprehension-iter-twice" false) 9552 (S9 (w.withFollow "comprehension-iter-twice" false) os) (pcs 10 1 ⟨106, 0, 106, 20⟩) = some (.next, (S10 (w.withFollow "comprehension-iter-twice" false) os).abs, cE, ⟨107, 0, 107, 11⟩) := go_of (congrFun (en10f w) os) (go_of (congrFun (congrFun (tu10_1 (w.withFollow "comprehension-iter-twice" false)) os) _) (go_of (congrFun (congrFun (tu10_16 (w.withFollow "comprehension-iter-twice" false)) os) _) (go_of (congrFun (congrFun (tu10_31 (w.withFollow "comprehension-iter-twice" false)) os) _) (go_of (congrFun (congrFun (tu10_46 (w.withFollow "comprehension-iter-twice" false)) os) _) (go_of (congrFun (congrFun (tu10_61 (w.withFollow "comprehension-iter-twice" false)) os) _) (go_of (congrFun (congrFun (tu10_76 (w.withFollow "comprehension-iter-twice" false)) os) _) (go_of (congrFun (congrFun (tu10_91 (w.withFollow "comprehension-iter-twice" false)) os) _) (go_of (congrFun (congrFun (tu10_106 (w.withFollow "comprehension-iter-twice" false)) os) _) (go_of (congrFun (congrFun (tu10_121 (w.withFollow "comprehension-iter-twice" false)) os) _) (go_of (congrFun (congrFun (tu10_136 (w.withFollow "comprehension-iter-twice" false)) os) _) (go_of (congrFun (congrFun (tu10_151 (w.withFollow "comprehension-iter-twice" false)) os) _) (go_of (congrFun (congrFun (tu10_166 (w.withFollow "comprehension-iter-twice" false)) os) _) (go_of (congrFun (congrFun (tu10_181 (w.withFollow "comprehension-iter-twice" false)) os) _) (go_of (congrFun (congrFun (tu10_196 (w.withFollow "comprehension-iter-twice" false)) os) _) (go_of (congrFun (congrFun (tu10_211 (w.withFollow "comprehension-iter-twice" false)) os) _) (go_of (congrFun (congrFun (tu10_226 (w.withFollow "comprehension-iter-twice" false)) os) _) (go_of (congrFun (congrFun (tu10_241 (w.withFollow "comprehension-iter-twice" false)) os) _) (run_of (congrFun (ex10f w) os)))))))))))))))))))
theorem lp10t (w : World) (os : OsState) : sRun (w.withFollow "comprehension-iter-twice" true) 9552 (S9 (w.withFollow "comprehension-iter-twice" true) os) (pcs 10 1 ⟨106, 0, 106, 20⟩) = some (.next, (S10 (w.withFollow "comprehension-iter-twice" true) os).abs, cE, ⟨107, 0, 107, 11⟩) := go_of (congrFun (en10t w) os) (go_of (congrFun (congrFun (tu10_1 (w.withFollow "comprehension-iter-twice" true)) os) _) (go_of (congrFun (congrFun (tu10_16 (w.withFollow "comprehension-iter-twice" true)) os) _) (go_of (congrFun (congrFun (tu10_31 (w.withFollow "comprehension-iter-twice" true)) os) _) (go_of (congrFun (congrFun (tu10_46 (w.withFollow "comprehension-iter-twice" true)) os) _) (go_of (congrFun (congrFun (tu10_61 (w.withFollow "comprehension-iter-twice" true)) os) _) (go_of (congrFun (congrFun (tu10_76 (w.withFollow "comprehension-iter-twice" true)) os) _) (go_of (congrFun (congrFun (tu10_91 (w.withFollow "comprehension-iter-twice" true)) os) _) (go_of (congrFun (congrFun (tu10_106 (w.withFollow "comprehension-iter-twice" true)) os) _) (go_of (congrFun (congrFun (tu10_121 (w.withFollow "comprehension-iter-twice" true)) os) _) (go_of (congrFun (congrFun (tu10_136 (w.withFollow "comprehension-iter-twice" true)) os) _) (go_of (congrFun (congrFun (tu10_151 (w.withFollow "comprehension-iter-twice" true)) os) _) (go_of (congrFun (congrFun (tu10_166 (w.withFollow "comprehension-iter-twice" true)) os) _) (go_of (congrFun (congrFun (tu10_181 (w.withFollow "comprehension-iter-twice" true)) os) _) (go_of (congrFun (congrFun (tu10_196 (w.withFollow "comprehension-iter-twice" true)) os) _) (go_of (congrFun (congrFun (tu10_211 (w.withFollow "comprehension-iter-twice" true)) os) _) (go_of (congrFun (congrFun (tu10_226 (w.withFollow "comprehension-iter-twice" true)) os) _) (go_of (congrFun (congrFun (tu10_241 (w.withFollow "comprehension-iter-twice" true)) os) _) (run_of (congrFun (ex10t w) os)))))))))))))))))))
theorem lp10 (w : World) (os : OsState) : sRun w 9552 (S9 w os) (pcs 10 1 ⟨106, 0, 106, 20⟩) = some (.next, (S10 w os).abs, cE, ⟨107, 0, 107, 11⟩) := byRow2 "comprehension-iter-twice" (P := fun w => sRun w 9552 (S9 w os) (pcs 10 1 ⟨106, 0, 106, 20⟩) = some (.next, (S10 w os).abs, cE, ⟨107, 0, 107, 11⟩)) (fun w => lp10f w os) (fun w => lp10t w os) w
theorem lp18 (w : World) (os : OsState) : sRun w 3077 (S17 w os) (pcs 18 1 ⟨114, 0, 114, 8⟩) = some (.next, (S18 w os).abs, cE, ⟨115, 9, 115, 74⟩) := go_of (congrFun (en18 w) os) (go_of (congrFun (congrFun (tu18_1 w) os) _) (go_of (congrFun (congrFun (tu18_12 w) os) _) (go_of (congrFun (congrFun (tu18_23 w) os) _) (go_of (congrFun (congrFun (tu18_34 w) os) _) (go_of (congrFun (congrFun (tu18_45 w) os) _) (go_of (congrFun (congrFun (tu18_56 w) os) _) (run_of (congrFun (ex18 w) os))))))))
theorem lp20 (w : World) (os : OsState) : sRun w 4303 (S19 w os) (pcs 20 1 ⟨117, 0, 117, 28⟩) = some (.next, (S20 w os).abs, cE, ⟨118, 9, 118, 110⟩) := go_of (congrFun (en20 w) os) (go_of (congrFun (congrFun (tu20_1 w) os) _) (go_of (congrFun (congrFun (tu20_13 w) os) _) (go_of (congrFun (congrFun (tu20_25 w) os) _) (go_of (congrFun (congrFun (tu20_37 w) os) _) (go_of (congrFun (congrFun (tu20_49 w) os) _) (go_of (congrFun (congrFun (tu20_61 w) os) _) (go_of (congrFun (congrFun (tu20_73 w) os) _) (go_of (congrFun (congrFun (tu20_85 w) os) _) (run_of (congrFun (ex20 w) os))))))))))
theorem fin1 (w : World) (os : OsState) : tRun w 2 (S33 w os).abs (restOf [] en cE ⟨234, 0, 242, 102⟩ [topFrame q0]) = some (sF w os) := piece_nil (by rw [Fast.te14082659384304107361, Fast.te14364793385576792824]; exact congrFun (fin0 w) os)
theorem rest0 (w : World) (os : OsState) : tRun w (131 + (1253 + (193 + (9552 + (109 + (3077 + (25 + (4303 + (420 + 2))))))))) (Sb w os).abs (restOf bd en cE q0 [topFrame q0]) = some (sF w os) := by rw [bd0]; exact grp (congrFun (g0 w) os) (grpS (lp4 w os) (grp (congrFun (g5 w) os) (grpS (lp10 w os) (grp (congrFun (g11 w) os) (grpS (lp18 w os) (grp (congrFun (g19 w) os) (grpS (lp20 w os) (grp (congrFun (g21 w) os) (fin1 w os)))))))))
theorem blk1 (w : World) (os : OsState) : segRun treeTable pr w 28 (some (.ref 6)) 1 1 (Sb w os).abs (blockOf bd en cE q0 [topFrame q0]) = some (.next, (Sb w os).abs, cE, q0) := by unfold blockOf; rw [Fast.te14374325043358763698, Fast.te14364793385576792824, Fast.te1066825118222455980]; exact congrFun (blk0 w) os
theorem pre1 (w : World) (os : OsState) : topGo treeTable pr w 28 (some (.ref 6)) 12 ⟨h0 w.params, #[], {}, 276, os⟩ (topStub pr) = some ((Sb w os).abs, ⟨denote treeTable cE, cE, q0, [topFrame q0]⟩) := by rw [Fast.te15667345088766844465, Fast.te14364793385576792824, Fast.te11892475500146522536]; exact congrFun (pre0 w) os
theorem all0 (w : World) (os : OsState) : tRun w 19078 ⟨h0 w.params, #[], {}, 276, os⟩ (topStub pr) = some (sF w os) := go_top (n := 12) (N := 19066) (pre1 w os) (piece_block (n := 1) (N := 19065) (blk1 w os) (rest0 w os))
theorem op1 (w : World) : importEnds treeTable (opening pr) w 799 (start (opening pr)).1 (start (opening pr)).2 = some ⟨hE w.params, #[], {}, 276, (start (opening pr)).1.os⟩ := by rw [Fast.te10274390034422433532, Fast.te14364793385576792824]; exact op0 w
theorem fe1 (w : World) : (fun os => (fenceModules? pr ⟨hE w.params, #[], {}, 276, os⟩).map (fun s => (s.heap, s.gens, s.drawn, s.toks))) = fun _ => some (h0 w.params, #[], {}, 276) := by rw [Fast.te14289696077712309145]; exact fe0 w
theorem lk (w : World) : (fun os => ((staticsOk (importedModules pr.main.body) (h0 w.params) (hF w.params) && namesBound pr (hF w.params) && gensDone (sF w os) && laidKept (h0 w.params) (hF w.params)), openSeen vw lse (importedModules pr.main.body) xt true (sF w os), hook.obs (sF w os))) = fun _ => (true, openGood vw lse, hook.val w) := by
  rw [Fast.te4187177175401517315]
  exact funext fun os => Prod.ext (congrFun (lk1 w) os) (Prod.ext (congrFun (lk2 w) os) (congrFun (lk3 w) os))
theorem left : LeftO pr vw lse xt hook.obs hook.val 38234 true := LeftO.of_pieces (H₀ := h0) (H₁ := hF) (M := 19078) (m₀ := 28) (ann := some (.ref 6)) (gs₀ := #[]) (gs₁ := #[]) (d₀ := {}) (d₁ := {}) (k₀ := 276) (k₁ := 2171) (open_cut (M := 799) (He := hE) op1 rfl fe1) size0 all0 rfl lk
local macro_rules | `(tactic| k_all) => `(tactic| with_reducible assumption)
local macro_rules | `(tactic| k_asm) => `(tactic| with_reducible assumption)
local macro_rules | `(tactic| walk_at "d") => `(tactic| dsimp only [List.nil_append, List.cons_append])
theorem kf_x : ∀ _ : Mine.heap_39 = Mine.heap_39, PySem.Challenge.rw_ij0038_01 = PySem.Challenge.rw_ij0038_01 := by (k_fill; intro _; rfl)
theorem cut13 (c d e : Nat) : Txt.slice (S [c, d, e]) (some 1) (some 3) = S [d, e] := cut_mid [c] [d, e] [] 1 3 rfl rfl
theorem unq_spec {w : World} {A : Around} {s : Shared} {Q E : Value → Shared → Prop} {p : Program} {loose : List Str} {mg mb : Str → Option Value}
   (X : (Mine.heap_39 w.params).In s.heap) (T : TopRead p loose mg mb s.heap) (hroom : A.depth + 8 < recursionLimit) (hh : A.handled = none)
   {c : Nat} {t : Tok} (hc : c < 256) (hQ : ∀ h' tk' t', Pres s.heap h' → Q (.str (S [c]) t') {s with heap := h', toks := tk'}) :
  wpAny (model PySem.Challenge.rw_ij0038_01.row.prog w) A (call (.ref 97) [.str (S (61 :: hx c)) t]) Q E s := by
  refine' enter_plain (K := Mine.heap_39 w.params) X T.nolimit ?r ?ho ?hcd ?hb ?hl ?hc ?_ ?c2 ?c3 ?c4
  case r => omega
  case ho => k_is
  case hcd => k_is
  case hb => exact BindsTo.of_eq rfl
  case hl => ((intro y hy; with_unfolding_all (repeat (first | exact absurd hy List.not_mem_nil | (rcases List.mem_cons.mp hy with hy | hy; (subst hy; rfl))))))
  case hc => decide +kernel
  case c2 => rfl
  case c3 => rfl
  case c4 => rfl
  intro h₁ F N
  walk_at "d"; (with_reducible refine execs_1 ?_); (with_reducible refine wpAny_Return_some ?_); walk_at "d"; (with_reducible refine' Call_ ?_ ?q1); (case q1 => rfl); refine' nameX_B (by k_asm) (by k_asm) (by k_asm) (by k_is) (by boot_fast) (by decide) ?_ (by rfl) (by rfl) (by decide); (with_reducible refine' PyProof.Rows.callWith_builtin1 ?_ ?q2 ?q3); (case q2 => rfl); (case q3 => rfl); (with_reducible refine' spliced_more ?_ ?q4); (case q4 => rfl); (with_reducible refine' Call_ ?_ ?q5); (case q5 => rfl); refine' nameX_B (by k_asm) (by k_asm) (by k_asm) (by k_is) (by boot_fast) (by decide) ?_ (by rfl) (by rfl) (by decide); (with_reducible refine' callWith_type1 ?_ ?q6 ?q7); (case q6 => rfl); (case q7 => rfl); (with_reducible refine' spliced_more ?_ ?q8); (case q8 => rfl); refine' pe_eval (by k_asm) (by k_asm) (by refine' PE.slSS (by refine' PE.nameS ⟨rfl, rfl, by decide⟩ (by rfl)) (PE.int) (PE.int) (by simp only [S_len, sizeLine_eq, List.length_append, List.length_cons, List.length_nil]; omega)) ?_; refine At.any ?_; intro h9 k9 F9 N9; (with_reducible (refine PV.all_s ?_; intro t9)); (with_reducible refine' spliced_more ?_ ?q9); (case q9 => rfl); (with_reducible refine wpAny_Constant_int ?_); walk_at "d"; with_reducible refine spliced_none ?_
  rw [cut13]
  refine call_hex hc ?_
  walk_at "d"; with_reducible refine spliced_none ?_
  refine chr_of_range (by omega) (by omega) ?_
  exact hQ _ _ _ (Fr.keep (by k_asm))
theorem unqm_spec {w : World} {A : Around} {s : Shared} {Q E : Value → Shared → Prop} {p : Program} {loose : List Str} {mg mb : Str → Option Value}
   (X : (Mine.heap_39 w.params).In s.heap) (T : TopRead p loose mg mb s.heap) (hroom : A.depth + 12 < recursionLimit) (hh : A.handled = none)
   {y tp P : Addr} {whole pre post : List Nat} {t : Tok} {b e c : Nat} (h1 : s.heap.get? y = some (matchObj P (S whole) t tp)) (h2 : s.heap.get? tp = some { cls := .type "tuple", data := .seq #[rawInt (b : Int), rawInt (e : Int)] })
   (hw : whole = pre ++ (61 :: hx c ++ post)) (hb : b = pre.length) (he : e = pre.length + 3) (hc : c < 256) (hQ : ∀ h' tk' t', Pres s.heap h' → Q (.str (S [c]) t') {s with heap := h', toks := tk'}) :
  wpAny (model PySem.Challenge.rw_ij0038_01.row.prog w) A (call (.ref 117) [.ref y]) Q E s := by
  refine' enter_plain (K := Mine.heap_39 w.params) X T.nolimit ?r ?ho ?hcd ?hb ?hl ?hc ?_ ?c2 ?c3 ?c4
  case r => omega
  case ho => k_is
  case hcd => k_is
  case hb => exact BindsTo.of_eq rfl
  case hl => ((intro y hy; with_unfolding_all (repeat (first | exact absurd hy List.not_mem_nil | (rcases List.mem_cons.mp hy with hy | hy; (subst hy; rfl))))))
  case hc => decide +kernel
  case c2 => rfl
  case c3 => rfl
  case c4 => rfl
  intro h₁ F N
  walk_at "d"; (with_reducible refine execs_k ?_); (with_reducible refine' wpAny_Assign_Name ?_ ?q10); (case q10 => rfl); (with_reducible refine' PyProof.Rows.MethodCall_ ?_ ?q11); (case q11 => rfl); refine' nameX_L (by k_asm) (by rfl) ?_ (by rfl) (by rfl) (by decide)
  refine getm_group (Fr.keep (by k_asm) _ _ h1) ?_
  walk_at "d"; (with_reducible refine' PyProof.Rows.callWith_method1 ?_ ?q12 ?q13); (case q12 => rfl); (case q13 => rfl); walk_at "d"; (with_reducible refine' spliced_more ?_ ?q14); (case q14 => rfl); (with_reducible refine wpAny_Constant_int ?_); walk_at "d"; with_reducible refine spliced_none ?_
  refine call_group0 (Fr.keep (by k_asm) _ _ h1) (Fr.keep (by k_asm) _ _ h2) hw hb he (by simp) fun t' k => ?_
  walk_at "d"; refine' storeX_L (by k_asm) (by k_asm) ?_ (by rfl) (by rfl); intro h9 F9 N9; walk_at "d"; (with_reducible refine Kx_next ?_); (with_reducible refine execs_1 ?_); (with_reducible refine wpAny_Return_some ?_); walk_at "d"; (with_reducible refine' Call_ ?_ ?q15); (case q15 => rfl); refine' nameX_K (by k_asm) (by k_asm) (by k_asm) (by k_is) ?_ (by rfl) (by rfl) (by decide); refine' callWith_K (by k_asm) (by k_is) ?_; walk_at "d"; (with_reducible refine' spliced_more ?_ ?q16); (case q16 => rfl); refine' nameX_L (by k_asm) (by with_reducible exact upd_hit) ?_ (by rfl) (by rfl) (by decide); (with_reducible refine spliced_none ?_); walk_at "d"; refine ⟨by k_in, ?_⟩
  refine' unq_spec ?tX ?tT ?tr ?th hc ?_
  case tX => k_in
  case tT => exact TopRead.keeps (by assumption) (Fr.keep (by k_asm))
  case tr => (simp only [Around.deeper]; omega)
  case th => exact hh
  intro h' tk' t' P'
  (rename Pres _ _ => Pa; rename Fr _ _ _ _ => Fa; rename News _ _ _ _ => Na; have F₂ := Fa.keeps Pa; have N₂ := Na.grown Pa; clear Pa Fa Na)
  exact hQ _ _ _ (Fr.keep (by k_asm))
theorem pat74 {w : World} {h : Heap} (X : (Mine.heap_39 w.params).In h) : PatAt h 74 hhCode 0 :=
  ⟨_, _, 73, _, _, _, X 74 _ (by k_is), rfl, rfl, rfl, rfl, rfl, rfl, X 73 _ (by k_is), rfl, by first | kernel_rfl | decide +kernel⟩
theorem sub_hh {w : World} {A : Around} {s : Shared} {Q E : Value → Shared → Prop} {prog : Program} {P f : Addr} {t : Tok} {row : List Nat} (X : PatAt s.heap P hhCode 0) {of : Obj} (hf : s.heap.get? f = some of) (hfc : of.cls = .type "function") (hr : ∀ c ∈ row, c < 256) (hl : row.length ≤ 3)
    (hcall : ∀ (pre post : List Nat) (c b e : Nat) (s' : Shared) (y tp : Addr) (E : Value → Shared → Prop) (Q : Value → Shared → Prop), Pres s.heap s'.heap → s'.heap.get? y = some (matchObj P (S (row.flatMap decC)) t tp) → s'.heap.get? tp = some { cls := .type "tuple", data := .seq #[rawInt (b : Int), rawInt (e : Int)] } →
      row.flatMap decC = pre ++ (61 :: hx c ++ post) → b = pre.length → e = pre.length + 3 → c < 256 → (∀ h' tk ty, Pres s'.heap h' → Q (.str (S [c]) ty) { s' with heap := h', toks := tk }) → wpAny (model prog w) A.in1 (call (.ref f) [.ref y]) Q E s')
    (h : ∀ h' tk t', Pres s.heap h' → Q (.str (S row) t') { s with heap := h', toks := tk }) : wpAny (model prog w) A (call (.builtin "re.Pattern.sub") [.ref P, .ref f, .str (S (row.flatMap decC)) t]) Q E s := by
  refine wpAny_call (sub_start X hf hfc fun tk => ?_)
  have hL0 : s.heap.get? s.heap.objs.size = none := Heap.get?_none_of_le (Nat.le_refl _)
  have hdl : (row.flatMap decC).length < 1000 := by
    rw [← swap_encs hr]; have := enc_len row; simp only [swapC, List.length_map]; omega
  have e1 := segs_text row []
  have e2 := segs_out row []
  have e3 := segs_ok row [] (by simp) hr
  rw [List.nil_append] at e1 e2
  generalize row.flatMap decC = whole at *
  generalize (segsOf [] row).1 = segs at *
  generalize (segsOf [] row).2 = tail at *
  refine sub_run (s0 := s) (tail := tail) (whole := whole) GapHex X hL0 hdl row (by omega) ?no ?yes ?ca segs [] [] [] 0 0 _ (.inr rfl) e3.1 (by rw [List.nil_append]; exact e1.symm) (fun b o e => Heap.get?_push_of_some _ e) (Heap.get?_push_size _ rfl) .nil (by simp) (by simpa using e2) rfl (fun h' tk t' hp => h h' tk t' hp)
  case no =>
    intro pre s' E' Q' hw hq
    refine hh_found _ rfl rfl rfl pre.length false (by subst hw; simp) (by simp; omega) (fun _ => hq) fun p m h1 h2 _ _ => ?_
    have := here_not e3.2 hw p h1
    rw [this] at h2; cases h2
  case yes =>
    rintro pre a m o r s' E' Q' hw ⟨ha, c, hc, rfl, rfl⟩ hq
    have hy : hhHere whole.toArray (pre.length + a.length) = true := by
      have := here_yes hc (pre := pre ++ a) (rest := segText r ++ tail) (whole := whole) (by rw [hw]; simp)
      rwa [List.length_append] at this
    refine hh_found _ rfl rfl rfl pre.length false (by subst hw; simp) (by simp; omega) (fun hn => ?_) fun p mm h1 h2 h3 h4 => ?_
    · have := hn (pre.length + a.length) (by omega)
      rw [hy] at this; cases this
    · have hp : p = pre.length + a.length := by
        rcases Nat.lt_trichotomy p (pre.length + a.length) with q | q | q
        · have := here_gap ha hw p h1 q
          rw [this] at h2; cases h2
        · exact q
        · have := h3 (pre.length + a.length) (by omega) q
          rw [hy] at this; cases this
      obtain ⟨_, g1, g2, g3, g4⟩ := h4
      exact hq mm (by omega) (by rw [g2, hp]; rfl) g3 g4
  case ca =>
    rintro pre a m o r s' y tp E' Q' hw ⟨ha, c, hc, rfl, rfl⟩ hp h1 h2 hq
    exact hcall (pre ++ a) (segText r ++ tail) c _ _ s' y tp E' Q' hp h1 h2 (by rw [hw]; simp) (by simp) (by simp) hc hq
theorem hdec_spec {w : World} {A : Around} {s : Shared} {Q E : Value → Shared → Prop} {p : Program} {loose : List Str} {mg mb : Str → Option Value}
   (X : (Mine.heap_39 w.params).In s.heap) (T : TopRead p loose mg mb s.heap) (hroom : A.depth + 20 < recursionLimit) (hh : A.handled = none)
   {row : List Nat} {t : Tok} (hr : ∀ c ∈ row, c < 256) (hl : row.length ≤ 3) (hQ : ∀ h' tk' t', Pres s.heap h' → Q (.str (S row) t') {s with heap := h', toks := tk'}) :
  wpAny (model PySem.Challenge.rw_ij0038_01.row.prog w) A (call (.ref 124) [.str (S (enc row)) t]) Q E s := by
  refine' enter_plain (K := Mine.heap_39 w.params) X T.nolimit ?r ?ho ?hcd ?hb ?hl ?hc ?_ ?c2 ?c3 ?c4
  case r => omega
  case ho => k_is
  case hcd => k_is
  case hb => exact BindsTo.of_eq rfl
  case hl => ((intro y hy; with_unfolding_all (repeat (first | exact absurd hy List.not_mem_nil | (rcases List.mem_cons.mp hy with hy | hy; (subst hy; rfl))))))
  case hc => decide +kernel
  case c2 => rfl
  case c3 => rfl
  case c4 => rfl
  intro h₁ F N
  walk_at "d"; (with_reducible refine execs_k ?_); (with_reducible refine' wpAny_Assign_Name ?_ ?q17); (case q17 => rfl); (with_reducible refine' PyProof.Rows.MethodCall_ ?_ ?q18); (case q18 => rfl); refine' nameX_L (by k_asm) (by rfl) ?_ (by rfl) (by rfl) (by decide); (with_reducible refine GM.replace ?_); walk_at "d"; (with_reducible refine' PyProof.Rows.callWith_method1 ?_ ?q19 ?q20); (case q19 => rfl); (case q20 => rfl); walk_at "d"; (with_reducible refine' spliced_more ?_ ?q21); (case q21 => rfl); (with_reducible refine Calls.Constant_str ?_); walk_at "d"; (with_reducible refine' spliced_more ?_ ?q22); (case q22 => rfl); (with_reducible refine Calls.Constant_str ?_); walk_at "d"; with_reducible refine spliced_none ?_
  have hel := enc_len row
  refine SC.replaceW (by show s.toks + 1 ≠ 0; omega) (by show s.toks + 1 + 1 ≠ 0; omega) (by show s.toks + 1 ≠ s.toks + 1 + 1; omega) rfl (by rw [S_len]; omega) (by decide) ?_
  rw [show Str.ofString "_" = (⟨#[95]⟩ : Str) from rfl, show Str.ofString " " = (⟨#[32]⟩ : Str) from rfl, replace_swaps, swap_encs hr]
  intro t1 k1
  walk_at "d"; refine' storeX_L (by k_asm) (by k_asm) ?_ (by rfl) (by rfl); intro h9 F9 N9; walk_at "d"; (with_reducible refine Kx_next ?_); (with_reducible refine execs_1 ?_); (with_reducible refine wpAny_Return_some ?_); walk_at "d"; (with_reducible refine' PyProof.Rows.MethodCall_ ?_ ?q23); (case q23 => rfl); refine' nameX_K (by k_asm) (by k_asm) (by k_asm) (by k_is) ?_ (by rfl) (by rfl) (by decide)
  refine getm_sub (pat74 (by k_in)) ?_
  walk_at "d"; (with_reducible refine' PyProof.Rows.callWith_method1 ?_ ?q24 ?q25); (case q24 => rfl); (case q25 => rfl); walk_at "d"; (with_reducible refine' spliced_more ?_ ?q26); (case q26 => rfl); refine' nameX_K (by k_asm) (by k_asm) (by k_asm) (by k_is) ?_ (by rfl) (by rfl) (by decide); (with_reducible refine' spliced_more ?_ ?q27); (case q27 => rfl); refine' nameX_L (by k_asm) (by with_reducible exact upd_hit) ?_ (by rfl) (by rfl) (by decide); with_reducible refine spliced_none ?_
  refine sub_hh (pat74 (by k_in)) (Fr.keep (by k_asm) _ _ (X 117 _ (by k_is))) rfl hr hl ?ca ?_
  case ca =>
    intro pre post c b e s' y tp E' Q' hp h1 h2 hw hb he hc hq
    refine' unqm_spec ?tX ?tT ?tr ?th h1 h2 hw hb he hc hq
    case tX => exact X.keeps (fun b o e => hp b o (Fr.keep (by k_asm) b o e))
    case tT => exact T.keeps (fun b o e => hp b o (Fr.keep (by k_asm) b o e))
    case tr => show _ + 12 < _; simp only [Around.deeper]; omega
    case th => exact hh
  · intro h' tk t' hp
    exact hQ _ _ _ (fun b o e => hp b o (Fr.keep (by k_asm) b o e))
theorem at_spec {w : World} {A : Around} {s : Shared} {Q E : Value → Shared → Prop} {p : Program} {loose : List Str} {mg mb : Str → Option Value}
   (X : (Mine.heap_39 w.params).In s.heap) (T : TopRead p loose mg mb s.heap) (hroom : A.depth + 4 < recursionLimit) (hun : A.units + 100 < cLine) (hh : A.handled = none)
   {v : Value} {run : List Sign} (hr : RRun s.heap v run) (hlen : run.length < 1000) (hpl : ∀ x ∈ run, x.2.length < 1000) {name : Str} {tn : Tok} (hname : name.length < 1000000) {at' : Nat} {ta : Tok} (hat : at' < 1000000)
   (hQ : ∀ h' tk', Pres s.heap h' → Q (.bool (standsAt run name at')) {s with heap := h', toks := tk'}) :
  wpAny (model PySem.Challenge.rw_ij0038_01.row.prog w) A (call (.ref 139) [v, .str name tn, .int at' ta]) Q E s := by
  obtain ⟨a, vs, rfl, hl, hrep⟩ := hr
  have hvl := hrep.len
  refine' enter_cells (K := Mine.heap_39 w.params) X T.nolimit ?r ?ho ?hcd ?hb ?hl ?hc ?_ ?c2 ?c3 ?c4
  case r => omega
  case ho => k_is
  case hcd => k_is
  case hb => exact BindsTo.of_eq rfl
  case hl => rfl
  case hc => decide +kernel
  case c2 => rfl
  case c3 => rfl
  case c4 => rfl
  intro h₁ tk cells F N Y
  have hY := CellsAre.three Y; obtain ⟨o1', o2', o3', hE', d1', d2', d3'⟩ := hY; subst hE'; clear Y
  (with_reducible refine execs_k ?_); (with_reducible refine wpAny_If ?_); (with_reducible refine' wpAny_isTrue_Compare1 ?_ (by with_unfolding_all rfl)); (with_reducible refine wpAny_BinOp ?_); refine' nameX_C (by k_asm) (by rfl) (by k_mem) (by k_asm) ?_ (by rfl) (by rfl) (by decide); refine' pe_eval (by k_asm) (by k_asm) (by refine' PE.lenL (by refine' PE.lenB (by k_asm) (by k_asm) ⟨rfl, rfl⟩ (by k_is)) (by refine' PE.name ⟨rfl, rfl, by decide⟩ (by rfl)) (Px.lst_old (by assumption)) (by omega) rfl) ?_; refine At.same rfl ?_; intro k9; (with_reducible (refine PV.all_i ?_; intro t9)); (with_reducible refine add_int ?_); walk_at "d"; (with_reducible refine' Call_ ?_ ?q28); (case q28 => rfl); refine' nameX_B (by k_asm) (by k_asm) (by k_asm) (by k_is) (by boot_fast) (by decide) ?_ (by rfl) (by rfl) (by decide); (with_reducible refine' PyProof.Rows.callWith_builtin1 ?_ ?q29 ?q30); (case q29 => rfl); (case q30 => rfl); (with_reducible refine' spliced_more ?_ ?q31); (case q31 => rfl); refine' nameX_C (by k_asm) (by rfl) (by k_mem) (by k_asm) ?_ (by rfl) (by rfl) (by decide); (with_reducible refine spliced_none ?_); refine' PySem.P.len_str (by omega) ?_; walk_at "d"; (with_reducible refine gt_int ?_); with_reducible refine wpAny_truthy_bool ?_
  refine ite_d (fun hlt => ?_) (fun hge => ?_)
  · (with_reducible refine execs_1 ?_); (with_reducible refine wpAny_Return_some ?_); (with_reducible refine wpAny_Constant_bool ?_); with_reducible refine Kx_ret ?_
    have e : standsAt run name at' = false := by
      simp only [standsAt, Bool.and_eq_false_iff, decide_eq_false_iff_not]; left
      (try simp only [List.size_toArray] at hlt); omega
    rw [e] at hQ
    exact hQ _ _ F.keep
  (with_reducible refine wpAny_execs_nil ?_); (with_reducible refine Kx_next ?_); with_reducible refine execs_k ?_
  refine wpAny_For ?_ (fun _ => rfl)
  (with_reducible refine' Call_ ?_ ?q32); (case q32 => rfl); refine' nameX_B (by k_asm) (by k_asm) (by k_asm) (by k_is) (by boot_fast) (by decide) ?_ (by rfl) (by rfl) (by decide); (with_reducible refine' callWith_type1 ?_ ?q33 ?q34); (case q33 => rfl); (case q34 => rfl); (with_reducible refine' spliced_more ?_ ?q35); (case q35 => rfl); refine' pe_eval (by k_asm) (by k_asm) (by refine' PE.lenL (by refine' PE.lenB (by k_asm) (by k_asm) ⟨rfl, rfl⟩ (by k_is)) (by refine' PE.name ⟨rfl, rfl, by decide⟩ (by rfl)) (Px.lst_old (by assumption)) (by omega) rfl) ?_; refine At.same rfl ?_; intro k9; (with_reducible (refine PV.all_i ?_; intro t9)); with_reducible refine spliced_none ?_
  refine for_rangeN hh (by simp; omega) F N (fun _ _ => rfl) (fun i m' news' => Xs2 fun o₁ x => Cj4 (news' = [(s.heap.objs.size + 1 + 1 + 1, o₁), (s.heap.objs.size + 1 + 1, o2'), (s.heap.objs.size + 1, o3')]) (o₁.data = .cell x) (m' (Str.ofString "run") = some (.ref a)) (∀ j, j < i → signAt run name (at' + j) j = true)) ?_ ?_ ?_
  · exact ⟨_, _, rfl, d1', rfl, fun j h => absurd h (Nat.not_lt_zero _)⟩
  · rintro i I t m₁ news₁ oI h tk' hi hI ⟨o₁, x₁, rfl, hc₁, hrun, hdone⟩ hoff F N
    (try simp only [List.size_toArray] at hi hge)
    obtain ⟨q1, q2, q3⟩ := off3 hoff
    obtain ⟨sv, hsv, ta, l, rfl, htup, lp, pvs, rfl, hlp, hpairs⟩ := hrep.get (i := i) (x := run[i]'(by omega)) (by simp)
    walk_at "d"; (with_reducible refine wpAny_assign_Name ?_); refine' storeX_C (by k_asm) (by k_asm) (by rfl) (by k_updF) (by k_asm) ?_ (by rfl) (by rfl); intro h9 o9 F9 N9 d9; walk_at "d"; (with_reducible refine execs_k ?_); (with_reducible refine' Assign_Tuple ?_ ?q36 ?q37); (case q36 => rfl); (case q37 => rfl); (with_reducible refine Subscript_ ?_); refine' nameX_L (by k_asm) (by k_all) ?_ (by rfl) (by rfl) (by decide); refine' nameX_C (by k_asm) (by rfl) (by k_mem) (by k_asm) ?_ (by rfl) (by rfl) (by decide); refine' item_list (isList_keeps (Fr.keep (by k_asm)) (by assumption)) (by assumption) (by rfl) (by omega) ?_ (by with_unfolding_all rfl); refine' unpackN_ (by k_asm) (by k_asm) (isTup_keeps (Fr.keep (by k_asm)) (by assumption)) (by assumption) (by rfl) (by rfl) ?_; intro h9 F9 N9; walk_at "d"; refine assignInOrder_cons ?_; walk_at "d"; (with_reducible refine wpAny_assign_Name ?_); refine' storeX_L (by k_asm) (by k_asm) ?_ (by rfl) (by rfl); intro h9 F9 N9; walk_at "d"; refine assignInOrder_cons ?_; walk_at "d"; (with_reducible refine wpAny_assign_Name ?_); refine' storeX_L (by k_asm) (by k_asm) ?_ (by rfl) (by rfl); intro h9 F9 N9; walk_at "d"; refine assignInOrder_nil ?_; (with_reducible refine Kx_next ?_); (with_reducible refine execs_1 ?_); (with_reducible refine wpAny_If ?_); (with_reducible refine' wpAny_isTrue_Compare1 ?_ (by with_unfolding_all rfl)); with_reducible refine' wpAny_Compare1 ?_ (by with_unfolding_all rfl)
    refine' lc_node ?hclos ?hkind ?hnames ?hs ?_
    case hclos => with_unfolding_all rfl
    case hkind => rfl
    case hnames => decide
    case hs => intro _; rfl
    refine' nameX_L (by k_asm) (by with_reducible exact upd_hit) ?_ (by rfl) (by rfl) (by decide)
    rename Fr _ _ _ _ => Fx
    rename News _ _ _ _ => Nx
    rename Heap => hx
    have hplen := hpairs.len
    have hpl' := hpl (run[i]) (List.getElem_mem (by omega))
    obtain ⟨c, hc⟩ : ∃ c, name.cps[at' + i]? = some c := by
      have : at' + i < name.cps.size := by have : name.cps.size = name.length := rfl; omega
      exact ⟨_, Array.getElem?_eq_getElem this⟩
    generalize hrx : run[i] = rx at htup hpairs hplen hpl' Fx ⊢
    refine' lc_list (vs := pvs) hh ?l ?z ?c ?k ?F ?N (fun i ys led => led = [] ∧ ys.length ≤ i ∧ IntsAre ys (((rx.2.take i).filter (inPair c)).map fun _ => (1 : Int))) ?h0 ?hJ ?turn ?done
    case l => exact isList_keeps (Fr.keep (by k_asm)) (by assumption)
    case z => rw [hplen, sizeLine_eq]; omega
    case c => decide
    case k => rfl
    case F => assumption
    case N => assumption
    case h0 => exact ⟨rfl, Nat.le_refl _, by simpa using IntsAre.nil⟩
    case hJ => exact fun _ _ _ h => h.2.1
    case turn =>
      intro I' i' v' ys' led' C own hC mC tkC hi' hv' hJ' hsep' hown' F N
      obtain ⟨rfl, hyl, hns⟩ := hJ'
      obtain ⟨oI', nm, hoI, hcI, hnI⟩ := hown'
      have hi2 : i' < rx.2.length := by omega
      obtain ⟨v2, hv2, pa, t1, t2, rfl, hpt⟩ := hpairs.get (i := i') (x := rx.2[i']) (by simp)
      rw [hv'] at hv2
      cases hv2
      have hpt' := isTup_keeps F.keep (isTup_keeps Fx.keep hpt)
      have hk1 := (Nx _ (.tail _ (.head _))).1
      have hk2 := (Nx _ (.tail _ (.tail _ (.head _)))).1
      have hk3 := (Nx _ (.tail _ (.tail _ (.tail _ (.head _))))).1
      dsimp only at hk1 hk2 hk3
      refine letOwned_skip (N _ (List.mem_append_left _ hoI)).1 hcI hnI ?_
      walk_at "d"; refine' unpackN_ (by k_asm) (by k_asm) (by assumption) (by assumption) (by rfl) (by rfl) ?_; intro h9 F9 N9; walk_at "d"; refine assignInOrder_cons ?_; walk_at "d"; (with_reducible refine wpAny_assign_Name ?_); refine' storeC_L (by k_asm) (by k_asm) ?_ (by rfl) (by rfl); intro h9 F9 N9; walk_at "d"; refine assignInOrder_cons ?_; walk_at "d"; (with_reducible refine wpAny_assign_Name ?_); refine' storeC_L (by k_asm) (by k_asm) ?_ (by rfl) (by rfl); intro h9 F9 N9; walk_at "d"; refine assignInOrder_nil ?_
      refine wpAny_tests_one ?_
      (with_reducible refine' isTrue_chain ?_ (by with_unfolding_all rfl)); refine' nameC_L (by k_asm) (by with_reducible exact upd_miss (by decide) upd_hit) ?_ (by rfl) (by rfl) (by decide); (with_reducible refine test_link ?_); (with_reducible refine Subscript_ ?_); refine' nameC_C (by k_asm) (by rfl) (by assumption) (by assumption) ?_ (by rfl) (by rfl) (by decide); (with_reducible refine wpAny_BinOp ?_); refine' nameC_C (by k_asm) (by rfl) (by assumption) (by assumption) ?_ (by rfl) (by rfl) (by decide); refine' nameC_C (by k_asm) (by rfl) (by assumption) (by assumption) ?_ (by rfl) (by rfl) (by decide); (with_reducible refine add_int ?_); walk_at "d"; refine' str_at (by assumption) (by rfl) (by omega) ?_ (by with_unfolding_all rfl); walk_at "d"; (with_reducible refine P.le_str ?_); walk_at "d"; with_reducible refine wpAny_truthy_bool ?_
      refine ite_b (fun ha => ?_) (fun ha => ?_)
      · refine test_last ?_; refine' nameC_L (by k_asm) (by with_reducible exact upd_hit) ?_ (by rfl) (by rfl) (by decide); (with_reducible refine P.le_str ?_); walk_at "d"; with_reducible refine wpAny_truthy_bool ?_
        have two : ∀ (hb : inPair c rx.2[i'] = true ∨ inPair c rx.2[i'] = false), (inPair c rx.2[i'] = true → (rx.2.take (i'+1)).filter (inPair c) = (rx.2.take i').filter (inPair c) ++ [rx.2[i']]) ∧ (inPair c rx.2[i'] = false → (rx.2.take (i'+1)).filter (inPair c) = (rx.2.take i').filter (inPair c)) := by
          intro _
          rw [List.take_add_one, List.getElem?_eq_getElem hi2]
          refine ⟨fun e => ?_, fun e => ?_⟩ <;> simp only [Option.toList_some, List.filter_append, List.filter_cons, List.filter_nil, e, if_true, List.append_nil, Bool.false_eq_true, if_false]
        have two := two (by cases inPair c rx.2[i'] <;> simp)
        refine ite_b (fun hb => ?_) (fun hb => ?_)
        · with_reducible refine wpAny_Constant_int ?_
          refine ⟨_, _, _, [], _, rfl, by assumption, by assumption, fun p hp => List.mem_append_left _ hp, fun p hp => absurd hp (by simp), fun p hp => absurd hp (by simp), rfl, ?_, ?_⟩
          · simp; omega
          · rw [two.1 (by simp only [inPair]; rw [ha]; exact hb), List.map_append]
            exact intsAre_snoc hns
        · refine ⟨_, _, _, [], _, rfl, by assumption, by assumption, fun p hp => List.mem_append_left _ hp, fun p hp => absurd hp (by simp), fun p hp => absurd hp (by simp), rfl, ?_, ?_⟩
          · omega
          · rw [two.2 (by simp only [inPair]; rw [ha]; exact hb)]; exact hns
      · refine ite_b (fun hb => absurd hb (by simp)) (fun _ => ?_)
        refine ⟨_, _, _, [], _, rfl, by assumption, by assumption, fun p hp => List.mem_append_left _ hp, fun p hp => absurd hp (by simp), fun p hp => absurd hp (by simp), rfl, ?_, ?_⟩
        · omega
        · rw [List.take_add_one, List.getElem?_eq_getElem hi2]
          have e : inPair c rx.2[i'] = false := by simp only [inPair, ha, Bool.false_and]
          simp only [Option.toList_some, List.filter_append, List.filter_cons, List.filter_nil, e, Bool.false_eq_true, if_false, List.append_nil]; exact hns
    case done =>
      rintro D ys led h' tk₂ k ⟨rfl, _, hns⟩ F N hld hND
      walk_at "d"; refine PyProof.Rows.List_ ?_; (with_reducible refine spliced_none ?_); refine' newList_P (by k_asm) (by k_asm) ?_ (Nat.le_of_ble_eq_true rfl); intro l9 h9 F9 N9 m9; replace m9 := ltk5 m9
      refine ne_intsK (by exact News.isList (by k_asm) (by k_mem)) hns (by exact News.isList (by k_asm) (by k_mem)) (IntsAre.nil) (by simp only [Around.deeper]; omega) ?_
      walk_at "d"; refine' nameX_L (by k_asm) (by with_reducible exact upd_miss (by decide) upd_hit) ?_ (by rfl) (by rfl) (by decide); (with_reducible refine eq_bool ?_); with_reducible refine wpAny_truthy_bool ?_
      have hsg : signAt run name (at' + i) i = ((!decide (List.map (fun _ => (1 : Int)) (List.filter (inPair c) (List.take pvs.length rx.snd)) = [])) != rx.fst) := by
        have e : run[i]? = some rx := by rw [← hrx]; exact List.getElem?_eq_getElem _
        unfold signAt; rw [e, hc]; dsimp only
        rw [hplen, List.take_length]; congr 1
        rw [Bool.eq_iff_iff]; simp [List.any_eq_true]
      refine ite_b (fun hb => ?_) (fun hb => ?_)
      · (with_reducible refine execs_1 ?_); (with_reducible refine wpAny_Return_some ?_); with_reducible refine wpAny_Constant_bool ?_
        have e : standsAt run name at' = false := by
          have : signAt run name (at' + i) i = false := by rw [hsg]; simp only [bne, hb, Bool.not_true]
          simp only [standsAt, Bool.and_eq_false_iff]; right
          rw [List.all_eq_false]; exact ⟨i, List.mem_range.mpr (by omega), by rw [this]; decide⟩
        rw [e] at hQ
        exact hQ _ _ (Fr.keep (by k_asm))
      · with_reducible refine wpAny_execs_nil ?_
        refine ⟨_, _, _, [(_, _), (_, o2'), (_, o3')], _, rfl, by assumption, by assumption, by k_mem, ?_, ?_, fun b hb => absurd hb (by simp), _, _, rfl, by assumption, ?_, ?_⟩
        · intro p hp; simp only [List.mem_cons, List.not_mem_nil, or_false] at hp; rcases hp with rfl | rfl | rfl <;> k_mem
        · intro p hp; simp only [List.mem_cons, List.not_mem_nil, or_false] at hp; rcases hp with rfl | rfl | rfl <;> assumption
        · with_reducible exact upd_miss (by decide) (upd_miss (by decide) (by assumption))
        · intro j hj
          rcases Nat.lt_or_ge j i with q | q
          · exact hdone j q
          · have : j = i := by omega
            subst this; rw [hsg]; simp only [bne, hb, Bool.not_false]
  · rintro m₁ news₁ h tk' ⟨o₁, x₁, rfl, hc₁, hrun, hdone⟩ F N
    dsimp only
    (with_reducible refine Kx_next ?_); (with_reducible refine execs_1 ?_); (with_reducible refine wpAny_Return_some ?_); walk_at "d"; with_reducible refine wpAny_Constant_bool ?_
    have e : standsAt run name at' = true := by
      simp only [standsAt, Bool.and_eq_true, decide_eq_true_eq, List.all_eq_true]
      refine ⟨by (try simp only [List.size_toArray] at hge); omega, fun k hk => hdone k ?_⟩
      have := List.mem_range.mp hk; (try simp only [List.size_toArray]); omega
    rw [e] at hQ
    exact hQ _ _ F.keep
section
variable {prog : Program} {w : World} {A : Around} {E : Value → Shared → Prop} {s : Shared} {Q : Value → Shared → Prop}
theorem eq_nilK {a b : Addr} {vs : List Value} (hl : s.heap.IsList a vs.toArray) (hl' : s.heap.IsList b (([] : List Value)).toArray) (hu : A.units + 64 < cLine)
    (h : Q (.bool vs.isEmpty) s) : wpAny (model prog w) A (compareOp .Eq (.ref a) (.ref b)) Q E s := by
  cases vs with
  | nil => exact eq_intsK hl .nil hl' .nil hu h
  | cons v r => exact PySem.SeqAt.eq_list_lengthsAt hl hl' (by simp) (by omega) h
end
theorem shares_spec {w : World} {A : Around} {s : Shared} {Q E : Value → Shared → Prop} {p : Program} {loose : List Str} {mg mb : Str → Option Value}
   (X : (Mine.heap_39 w.params).In s.heap) (T : TopRead p loose mg mb s.heap) (hroom : A.depth + 8 < recursionLimit) (hun : A.units + 200 < cLine) (hh : A.handled = none)
   {v : Value} {runs : List (List Sign)} (hr : RRuns s.heap v runs) (hlen : runs.length < 1000) (hrl : ∀ r ∈ runs, r.length < 1000) (hpl : ∀ r ∈ runs, ∀ x ∈ r, x.2.length < 1000) (name : Str) (tn : Tok) (hname : name.length < 10000)
   (hnone : sharesOf runs name = none → ∀ h' tk', Pres s.heap h' → Q .none {s with heap := h', toks := tk'})
   (hsome : ∀ shs, sharesOf runs name = some shs → ∀ h' tk' a vs k, Pres s.heap h' → h'.get? a = some (PySem.W.listOf vs.toArray k) → s.heap.get? a = none → StrsAre vs shs → Q (.ref a) {s with heap := h', toks := tk'}) :
  wpAny (model PySem.Challenge.rw_ij0038_01.row.prog w) A (call (.ref 146) [v, .str name tn]) Q E s := by
  obtain ⟨a, vs, rfl, hl, hrep⟩ := hr
  have hvl := hrep.len
  refine' enter_plain (K := Mine.heap_39 w.params) X T.nolimit ?r ?ho ?hcd ?hb ?hl ?hc ?_ ?c2 ?c3 ?c4
  case r => omega
  case ho => k_is
  case hcd => k_is
  case hb => exact BindsTo.of_eq rfl
  case hl => ((intro y hy; with_unfolding_all (repeat (first | exact absurd hy List.not_mem_nil | (rcases List.mem_cons.mp hy with hy | hy; (subst hy; rfl))))))
  case hc => decide +kernel
  case c2 => rfl
  case c3 => rfl
  case c4 => rfl
  intro h₁ F N
  walk_at "d"; (with_reducible refine execs_k ?_); (with_reducible refine wpAny_If ?_); (with_reducible refine isTrue_or ?_); (with_reducible refine' wpAny_isTrue_Compare1 ?_ (by with_unfolding_all rfl)); refine' nameX_L (by k_asm) (by rfl) ?_ (by rfl) (by rfl) (by decide); refine PyProof.Rows.List_ ?_; (with_reducible refine spliced_none ?_); refine' newList_P (by k_asm) (by k_asm) ?_ (Nat.le_of_ble_eq_true rfl); intro l9 h9 F9 N9 m9; replace m9 := allLt_of m9; simp only [AllLt, and_true] at m9
  refine eq_nilK (by exact isList_keeps (Fr.keep (by k_asm)) (by assumption)) (by exact News.isList (by k_asm) (by k_mem)) (by simp only [Around.deeper]; omega) ?_
  walk_at "d"; with_reducible refine wpAny_truthy_bool ?_
  refine ite_b (fun he => ?_) (fun he => ?_)
  · (with_reducible refine ite_t ?_); (with_reducible refine execs_1 ?_); (with_reducible refine wpAny_Return_some ?_); (with_reducible refine wpAny_Constant_none ?_); with_reducible refine Kx_ret ?_
    refine hnone ?_ _ _ (Fr.keep (by k_asm))
    cases runs with
    | nil => rfl
    | cons r rs => cases vs <;> simp at he hvl
  obtain ⟨r0, rest, rfl⟩ : ∃ r0 rest, runs = r0 :: rest := by
    cases runs with
    | nil => cases vs <;> simp at he hvl
    | cons r rs => exact ⟨_, _, rfl⟩
  obtain ⟨v0, hv0, R0⟩ := hrep.get (i := 0) (x := r0) rfl
  obtain ⟨a0, vs0, rfl, l0, rep0⟩ := id R0
  have hv0l := rep0.len
  (with_reducible refine isTrue_or ?_); (with_reducible refine isTrue_not ?_); refine PyProof.Rows.isTrue_plain ?_; (with_reducible refine' Call_ ?_ ?q38); (case q38 => rfl); refine' nameX_K (by k_asm) (by k_asm) (by k_asm) (by k_is) ?_ (by rfl) (by rfl) (by decide); refine' callWith_K (by k_asm) (by k_is) ?_; walk_at "d"; (with_reducible refine' spliced_more ?_ ?q39); (case q39 => rfl); refine' pe_eval (by k_asm) (by k_asm) (by refine' PE.itemL (by refine' PE.name ⟨rfl, rfl, by decide⟩ (by rfl)) (PE.int) (Px.lst_old (by assumption)) (by assumption) (by rfl) (by omega) rfl) ?_; refine At.same rfl ?_; intro k9; (with_reducible refine PV.all_v ?_); (with_reducible refine' spliced_more ?_ ?q40); (case q40 => rfl); refine' nameX_L (by k_asm) (by rfl) ?_ (by rfl) (by rfl) (by decide); (with_reducible refine' spliced_more ?_ ?q41); (case q41 => rfl); (with_reducible refine wpAny_Constant_int ?_); walk_at "d"; (with_reducible refine spliced_none ?_); walk_at "d"; refine ⟨by k_in, ?_⟩
  have h0l := hrl r0 (.head _)
  refine' at_spec (run := r0) (at' := 0) ?cX ?cT ?cr ?cu ?chh ?cR ?cl ?cpl ?chn ?cha ?_
  case cX => k_in
  case cT => exact TopRead.keeps (by assumption) (Fr.keep (by k_asm))
  case cr => (simp only [Around.deeper]; omega)
  case cu => (simp only [Around.deeper]; omega)
  case chh => exact hh
  case cR => exact RRun.keeps (by (exact Fr.keep (by k_asm))) R0
  case cl => exact h0l
  case cpl => exact (hpl r0 (.head _))
  case chn => omega
  case cha => omega
  intro h₂ tk₂ P₂
  (rename Pres _ _ => Pa; rename Fr _ _ _ _ => Fa; rename News _ _ _ _ => Na; have F₂ := Fa.keeps Pa; have N₂ := Na.grown Pa; clear Pa Fa Na)
  walk_at "d"; with_reducible refine wpAny_truthy_bool ?_
  refine ite_b (fun hs => ?_) (fun hs => ?_)
  · (with_reducible refine ite_t ?_); (with_reducible refine execs_1 ?_); (with_reducible refine wpAny_Return_some ?_); (with_reducible refine wpAny_Constant_none ?_); with_reducible refine Kx_ret ?_
    refine hnone ?_ _ _ (Fr.keep (by k_asm))
    simp only [Bool.not_eq_true'] at hs; simp only [sharesOf, hs, Bool.false_eq_true, if_false]
  replace hs : standsAt r0 name 0 = true := by simpa using hs
  (with_reducible refine isTrue_or_nil ?_); (with_reducible refine ite_f ?_); (with_reducible refine wpAny_execs_nil ?_); (with_reducible refine Kx_next ?_); (with_reducible refine execs_k ?_); refine' exec_if (by k_asm) (by k_asm) (by refine' PT.cmpI (by refine' PE.lenL (by refine' PE.lenB (by k_asm) (by k_asm) ⟨rfl, rfl⟩ (by k_is)) (by refine' PE.name ⟨rfl, rfl, by decide⟩ (by rfl)) (Px.lst_old (by assumption)) (by omega) rfl) (PE.int) (by rfl) (by with_unfolding_all rfl)) ?_; refine At.same rfl ?_; intro k9
  refine ite_b (fun h1 => ?_) (fun h1 => ?_)
  · have hrest : rest = [] := by
      have : vs.length = 1 := by simp at h1; omega
      cases rest with
      | nil => rfl
      | cons _ _ => simp at hvl; omega
    (with_reducible refine execs_1 ?_); (with_reducible refine wpAny_Return_some ?_); (with_reducible refine wpAny_IfExp ?_); refine' pt_test (by k_asm) (by k_asm) (by refine' PT.cmpI (by refine' PE.lenL (by refine' PE.lenB (by k_asm) (by k_asm) ⟨rfl, rfl⟩ (by k_is)) (by refine' PE.itemL (by refine' PE.name ⟨rfl, rfl, by decide⟩ (by rfl)) (PE.int) (Px.lst_old (by assumption)) (by assumption) (by rfl) (by omega) rfl) (Px.lst_old (by assumption)) (by omega) rfl) (by refine' PE.lenS (by refine' PE.lenB (by k_asm) (by k_asm) ⟨rfl, rfl⟩ (by k_is)) (by refine' PE.nameS ⟨rfl, rfl, by decide⟩ (by rfl)) (by omega) rfl) (by rfl) (by with_unfolding_all rfl)) ?_; refine At.same rfl ?_; intro k9
    refine ite_b (fun h2 => ?_) (fun h2 => ?_)
    · refine PyProof.Rows.List_ ?_; (with_reducible refine spliced_none ?_); refine' newList_P (by k_asm) (by k_asm) ?_ (Nat.le_of_ble_eq_true rfl); intro l9 h9 F9 N9 m9; replace m9 := ltk1 m9; walk_at "d"; with_reducible refine Kx_ret ?_
      rename News _ _ _ _ => Nz
      refine hsome [] ?_ _ _ _ [] 0 (Fr.keep (by k_asm)) (Nz _ (.head _)).1 (Nz _ (.head _)).2.2 .nil
      have : vs0.length = name.length := by simp at h2; omega
      simp only [sharesOf, hs, if_true, hrest, List.getLast?_nil]; rw [if_pos (by omega)]
    · (with_reducible refine wpAny_Constant_none ?_); with_reducible refine Kx_ret ?_
      refine hnone ?_ _ _ (Fr.keep (by k_asm))
      have : ¬ vs0.length = name.length := by simp at h2; omega
      simp only [sharesOf, hs, if_true, hrest, List.getLast?_nil]; rw [if_neg (by omega)]
  · have hlen2 : 2 ≤ vs.length := by
      have : ¬ vs.length = 1 := by simp at h1; omega
      simp only [List.length_cons] at hvl; omega
    (with_reducible refine wpAny_execs_nil ?_); (with_reducible refine Kx_next ?_); (with_reducible refine execs_k ?_); refine' exec_asg (by k_asm) (by k_asm) (by refine' PE.lenL (by refine' PE.lenB (by k_asm) (by k_asm) ⟨rfl, rfl⟩ (by k_is)) (by refine' PE.itemL (by refine' PE.name ⟨rfl, rfl, by decide⟩ (by rfl)) (PE.int) (Px.lst_old (by assumption)) (by assumption) (by rfl) (by omega) rfl) (Px.lst_old (by assumption)) (by omega) rfl) (by rfl) (by rfl) (by rfl) ?_; intro h9 k9; (with_reducible (refine PV.all_i ?_; intro t9)); intro F9 N9; (with_reducible refine Kx_next ?_); (with_reducible refine execs_k ?_); (with_reducible refine' wpAny_Assign_Name ?_ ?q42); (case q42 => rfl); refine PyProof.Rows.List_ ?_; (with_reducible refine spliced_none ?_); refine' newList_P (by k_asm) (by k_asm) ?_ (Nat.le_of_ble_eq_true rfl); intro l9 h9 F9 N9 m9; replace m9 := ltk1 m9; walk_at "d"; refine' storeX_L (by k_asm) (by k_asm) ?_ (by rfl) (by rfl); intro h9 F9 N9; walk_at "d"; (with_reducible refine Kx_next ?_); with_reducible refine execs_k ?_
    refine wpAny_For ?_ (fun _ => rfl)
    (with_reducible refine Subscript_ ?_); refine' nameX_L (by k_asm) (by rfl) ?_ (by rfl) (by rfl) (by decide); (with_reducible refine wpAny_Slice ?_); (with_reducible refine evalPart_some_step ?_); (with_reducible refine wpAny_Constant_int ?_); walk_at "d"; (with_reducible refine evalPart_some_step ?_); refine' pe_eval (by k_asm) (by k_asm) (by refine' PE.neg (PE.int)) ?_; refine At.same rfl ?_; intro k9; (with_reducible (refine PV.all_i ?_; intro t9)); with_reducible refine evalPart_none_step ?_
    refine' slice_list_P (s := ⟨_, _, _, _, _⟩) ((vs.drop 1).take (vs.length - 2)) ?F ?N ?l (.int _ _) (.int _ _) ?w ?_ ?hs ?ht ?z
    case F => k_asm
    case N => k_asm
    case l => exact isList_keeps (Fr.keep (by k_asm)) (by assumption)
    case hs => with_unfolding_all rfl
    case ht => intro _; with_unfolding_all rfl
    case z => simp only [List.size_toArray, sizeLine_eq]; omega
    case w =>
      rw [slicePick_plain]
      have e1 : clipAt vs.length 1 = 1 := by have := clipAt_nat vs.length 1; rw [show ((1 : Nat) : Int) = 1 from rfl] at this; omega
      have e2 : clipAt vs.length (-1) = vs.length - 1 := clipAt_neg vs.length 1 (by omega)
      simp only [Option.elim, List.size_toArray, e1, e2, List.toList_toArray]
      congr 1
    k_whole
    intro Ls h₃ F₃ N₃ l₃
    replace l₃ := ltk2 l₃
    have e0 : (↑vs0.toArray.size : Int) = (r0.length : Int) := by simp only [List.size_toArray, hv0l]
    have hws : ((vs.drop 1).take (vs.length - 2)).length = rest.dropLast.length := by simp only [List.length_cons] at hvl; simp; omega
    have hr0 : r0.length ≤ name.length := by have := standsAt_le hs; omega
    obtain ⟨Ls, e_N0⟩ := ledN0 N₃
    subst e_N0
    obtain ⟨Lsh, e_N1⟩ := ledN1 N₃
    subst e_N1
    obtain ⟨Lnil, e_N2⟩ := ledN2 N₃
    subst e_N2
    generalize hLsl : PySem.W.listOf ((vs.drop 1).take (vs.length - 2)).toArray 0 = oLs at N₃
    refine for_list (vs := (vs.drop 1).take (vs.length - 2)) hh (by subst hLsl; exact News.isList (by k_asm) (by k_mem)) F₃ N₃ (fun _ _ => rfl)
      (fun i m' news' => Xs5 fun at' sh us k t => Cj9 (sharesGo name (rest.dropLast.take i) r0.length [] = some (sh, at')) (at' ≤ name.length) (StrsAre us sh) (us.length ≤ i) (news' = [(Ls, oLs), (Lsh, PySem.W.listOf us.toArray k), (Lnil, PySem.W.listOf #[] 0)]) (m' (Str.ofString "name") = some (.str name tn)) (m' (Str.ofString "runs") = some (.ref a)) (m' (Str.ofString "shares") = some (.ref Lsh)) (m' (Str.ofString "at") = some (.int (at' : Int) t))) ?h0 ?turn ?done
    case h0 =>
      exact ⟨r0.length, [], [], 0, _, rfl, hr0, .nil, Nat.le_refl _, rfl, by rfl, by rfl, by with_reducible exact upd_hit, by (rw [← e0]; rfl)⟩
    case turn =>
      rintro i I v m₁ news₁ oI h tk' hv hI ⟨at', sh, us, k, t, hgo, hat, hus, hul, rfl, g1, g2, g3, g4⟩ hoff F N
      replace hI := ltk3 hI
      have hi : i < rest.dropLast.length := by
        rw [← hws]
        rcases Nat.lt_or_ge i ((vs.drop 1).take (vs.length - 2)).length with q | q
        · exact q
        · rw [List.getElem?_eq_none q] at hv; cases hv
      have hi' : i + 1 < rest.length := by rw [List.length_dropLast] at hi; omega
      have hmem : rest[i] ∈ r0 :: rest := .tail _ (List.getElem_mem _)
      obtain ⟨v2, hv2, R2⟩ := hrep.get (i := i + 1) (x := rest[i]) (by simp)
      have : v2 = v := by
        rw [List.getElem?_take_of_lt (by simp only [List.length_cons] at hvl; omega), List.getElem?_drop, Nat.add_comm 1 i, hv2] at hv
        cases hv; rfl
      subst this
      have hrunl := hrl _ hmem
      have hrunp := hpl _ hmem
      have hdi : rest.dropLast[i] = rest[i] := List.getElem_dropLast _
      generalize rest[i] = run at R2 hrunl hrunp hdi
      obtain ⟨ar, vr, rfl, lr, repr⟩ := id R2
      have hvr := repr.len
      have g0 := (N (Ls, oLs) (by k_mem)).1
      walk_at "d"; (with_reducible refine wpAny_assign_Name ?_); refine' storeX_L (by k_asm) (by k_asm) ?_ (by rfl) (by rfl); intro h9 F9 N9; walk_at "d"; (with_reducible refine execs_k ?_); refine' exec_asg (by k_asm) (by k_asm) (by refine' PE.name ⟨rfl, rfl, by decide⟩ (by with_reducible exact upd_miss (by decide) (by assumption))) (by rfl) (by rfl) (by rfl) ?_; intro h9 k9; (with_reducible refine PV.all_v ?_); intro F9 N9; (with_reducible refine Kx_next ?_); with_reducible refine execs_k ?_
      rename Fr _ _ _ _ => Fa
      rename News _ _ _ _ => Na
      refine While_inv2 (fun n m' news' => Xs2 fun here t => Cj11 (n = name.length + 2 - here) (at' ≤ here) (here ≤ name.length + 1) (∀ q, at' ≤ q → q < here → standsAt run name q = false) (news' = (I, oI) :: [(Ls, oLs), (Lsh, PySem.W.listOf us.toArray k), (Lnil, PySem.W.listOf #[] 0)]) (m' (Str.ofString "name") = some (.str name tn)) (m' (Str.ofString "runs") = some (.ref a)) (m' (Str.ofString "shares") = some (.ref Lsh)) (∃ t, m' (Str.ofString "at") = some (.int (at' : Int) t)) (m' (Str.ofString "run") = some (.ref ar)) (m' (Str.ofString "here") = some (.int (here : Int) t))) (n₀ := name.length + 2 - at') Fa Na ?w0 ?wt
      case w0 => exact ⟨at', _, rfl, Nat.le_refl _, by omega, fun q h1 h2 => absurd h2 (by omega), rfl, by with_reducible exact upd_off (by decide) (upd_miss (by decide) (by assumption)), by with_reducible exact upd_off (by decide) (upd_miss (by decide) (by assumption)), by with_reducible exact upd_off (by decide) (upd_miss (by decide) (by assumption)), ⟨_, by with_reducible exact upd_off (by decide) (upd_miss (by decide) (by assumption))⟩, by with_reducible exact upd_off (by decide) upd_hit, by with_reducible exact upd_at⟩
      case wt =>
        clear Fa Na F N
        rintro n m₂ news₂ h₂ tk₂ F N ⟨here, th, rfl, w1, w2, w3, rfl, g1, g2, g3, ⟨_, g4⟩, g5, g6⟩
        walk_at "d"; (with_reducible refine isTrue_and ?_); refine' pt_test (by k_asm) (by k_asm) (by refine' PT.cmpI (by refine' PE.add (by refine' PE.nameI ⟨rfl, rfl, by decide⟩ (by k_all)) (by refine' PE.lenL (by refine' PE.lenB (by k_asm) (by k_asm) ⟨rfl, rfl⟩ (by k_is)) (by refine' PE.name ⟨rfl, rfl, by decide⟩ (by k_all)) (Px.lst_old (by assumption)) (by omega) rfl)) (by refine' PE.lenS (by refine' PE.lenB (by k_asm) (by k_asm) ⟨rfl, rfl⟩ (by k_is)) (by refine' PE.nameS ⟨rfl, rfl, by decide⟩ (by k_all)) (by omega) rfl) (by rfl) (by with_unfolding_all rfl)) ?_; refine At.same rfl ?_; intro k9
        refine ite_d (fun hle => ?_) (fun hgt => ?_)
        · (try simp only [List.size_toArray] at hle)
          (with_reducible refine isTrue_and ?_); (with_reducible refine isTrue_not ?_); refine PyProof.Rows.isTrue_plain ?_; (with_reducible refine' Call_ ?_ ?q43); (case q43 => rfl); refine' nameX_K (by k_asm) (by k_asm) (by k_asm) (by k_is) ?_ (by rfl) (by rfl) (by decide); refine' callWith_K (by k_asm) (by k_is) ?_; walk_at "d"; (with_reducible refine' spliced_more ?_ ?q44); (case q44 => rfl); refine' nameX_L (by k_asm) (by k_all) ?_ (by rfl) (by rfl) (by decide); (with_reducible refine' spliced_more ?_ ?q45); (case q45 => rfl); refine' nameX_L (by k_asm) (by k_all) ?_ (by rfl) (by rfl) (by decide); (with_reducible refine' spliced_more ?_ ?q46); (case q46 => rfl); refine' nameX_L (by k_asm) (by k_all) ?_ (by rfl) (by rfl) (by decide); (with_reducible refine spliced_none ?_); walk_at "d"; refine ⟨by k_in, ?_⟩
          refine' at_spec (run := run) (at' := here) ?cX ?cT ?cr ?cu ?chh ?cR ?cl ?cpl ?chn ?cha ?_
          case cX => k_in
          case cT => exact TopRead.keeps (by assumption) (Fr.keep (by k_asm))
          case cr => (simp only [Around.deeper]; omega)
          case cu => (simp only [Around.deeper]; omega)
          case chh => exact hh
          case cR => exact RRun.keeps (by (exact Fr.keep (by k_asm))) R2
          case cl => exact hrunl
          case cpl => exact hrunp
          case chn => omega
          case cha => omega
          intro h₂ tk₂ P₂
          (rename Pres _ _ => Pa; rename Fr _ _ _ _ => Fa; rename News _ _ _ _ => Na; have F₂ := Fa.keeps Pa; have N₂ := Na.grown Pa; clear Pa Fa Na)
          walk_at "d"; with_reducible refine wpAny_truthy_bool ?_
          refine ite_b (fun hst => ?_) (fun hst => ?_)
          · (with_reducible refine isTrue_and_nil ?_); (with_reducible refine ite_t ?_); (with_reducible refine execs_1 ?_); refine' exec_aug (by k_asm) (by k_asm) (by k_all) (PE.int) (by rfl) (by rfl) ?_; intro h9 k9 t9 F9 N9
            have hst' : standsAt run name here = false := by simpa using hst
            refine ⟨_, _, _, _, _, rfl, by assumption, by assumption, ?_, here + 1, _, rfl, by omega, by omega, ?_, rfl, by with_reducible exact upd_off (by decide) (by assumption), by with_reducible exact upd_off (by decide) (by assumption), by with_reducible exact upd_off (by decide) (by assumption), ⟨_, by with_reducible exact upd_off (by decide) (by assumption)⟩, by with_reducible exact upd_off (by decide) (by assumption), by (rw [Int.natCast_add]; rfl)⟩
            · omega
            · intro q hq1 hq2
              rcases Nat.lt_or_ge q here with h | h
              · exact w3 q hq1 h
              · have : q = here := by omega
                subst this; exact hst'
          · have hst' : standsAt run name here = true := by simpa using hst
            have hgo' : sharesGo name (rest.dropLast.take (i + 1)) r0.length [] = some (sh ++ [Txt.slice name (some at') (some here)], here + run.length) := by
              rw [List.take_add_one, List.getElem?_eq_getElem hi, hdi, sharesGo_append, hgo]
              simp only [Option.bind_some, Option.toList_some, sharesGo, firstFit_some w1 hst' w3]
            (with_reducible refine ite_f ?_); (with_reducible refine Kx_next ?_); (with_reducible refine execs_k ?_); refine' exec_if (by k_asm) (by k_asm) (by refine' PT.cmpI (by refine' PE.add (by refine' PE.nameI ⟨rfl, rfl, by decide⟩ (by k_all)) (by refine' PE.lenL (by refine' PE.lenB (by k_asm) (by k_asm) ⟨rfl, rfl⟩ (by k_is)) (by refine' PE.name ⟨rfl, rfl, by decide⟩ (by k_all)) (Px.lst_old (by assumption)) (by omega) rfl)) (by refine' PE.lenS (by refine' PE.lenB (by k_asm) (by k_asm) ⟨rfl, rfl⟩ (by k_is)) (by refine' PE.nameS ⟨rfl, rfl, by decide⟩ (by k_all)) (by omega) rfl) (by rfl) (by with_unfolding_all rfl)) ?_; refine At.same rfl ?_; intro k9
            refine ite_d (fun hbad => ?_) (fun _ => ?_)
            · (try simp only [List.size_toArray] at hbad); omega
            have hle2 := standsAt_le hst'
            (with_reducible refine wpAny_execs_nil ?_); (with_reducible refine Kx_next ?_); (with_reducible refine execs_k ?_); refine wpAny_Expr_any ?_; (with_reducible refine' PyProof.Rows.MethodCall_ ?_ ?q47); (case q47 => rfl); refine' nameX_L (by k_asm) (by k_all) ?_ (by rfl) (by rfl) (by decide); refine' getMethod_append_N (by k_asm) (by k_mem) ?_ (by rfl) (by rfl); walk_at "d"; (with_reducible refine' PyProof.Rows.callWith_method1 ?_ ?q48 ?q49); (case q48 => rfl); (case q49 => rfl); walk_at "d"; (with_reducible refine' spliced_more ?_ ?q50); (case q50 => rfl); refine' pe_eval (by k_asm) (by k_asm) (by refine' PE.slSS (by refine' PE.nameS ⟨rfl, rfl, by decide⟩ (by k_all)) (by refine' PE.nameI ⟨rfl, rfl, by decide⟩ (by k_all)) (by refine' PE.nameI ⟨rfl, rfl, by decide⟩ (by k_all)) (by simp only [sizeLine_eq]; omega)) ?_; refine At.any ?_; intro h9 k9 F9 N9; (with_reducible (refine PV.all_s ?_; intro t9)); (with_reducible refine spliced_none ?_); refine' append_K (by k_asm) (by k_asm) (by refine' Upd.tail (by refine neN ?_; dsimp only; with_reducible exact rq1 (by k_all)) (by refine' Upd.tail (by refine neN ?_; dsimp only; with_reducible exact rq0 (by k_all)) (by refine' Upd.head (by refine List.forall_mem_cons.mpr ⟨by (refine neN ?_; dsimp only; with_reducible exact nl0 (by k_all)), ?_⟩; exact List.forall_mem_nil _)))) ?_ (by first | (simp only [sizeLine_eq, List.size_toArray, List.length_append, List.length_cons, List.length_nil]; omega) | size_fits); intro h9 F9 N9; simp only [List.push_toArray, List.nil_append, List.cons_append] at N9; walk_at "d"; (with_reducible refine Kx_next ?_); (with_reducible refine execs_1 ?_); refine' exec_asg (by k_asm) (by k_asm) (by refine' PE.add (by refine' PE.nameI ⟨rfl, rfl, by decide⟩ (by k_all)) (by refine' PE.lenL (by refine' PE.lenB (by k_asm) (by k_asm) ⟨rfl, rfl⟩ (by k_is)) (by refine' PE.name ⟨rfl, rfl, by decide⟩ (by k_all)) (Px.lst_old (by assumption)) (by omega) rfl)) (by rfl) (by rfl) (by rfl) ?_; intro h9 k9; (with_reducible (refine PV.all_i ?_; intro t9)); intro F9 N9
            have ecast : ((here : Int) + (vr.length : Int)) = ((here + run.length : Nat) : Int) := by (try simp only [List.size_toArray]); omega
            rename Fr _ _ _ _ => Fe
            rename News _ _ _ _ => Ne
            refine forEnd_intro Fe Ne ?_ ?_ ⟨here + run.length, _, us ++ [_], k + 1, _, hgo', by omega, hus.append' (.cons _ _ .nil), ?_, rfl, by with_reducible exact upd_off (by decide) (by assumption), by with_reducible exact upd_off (by decide) (by assumption), by with_reducible exact upd_off (by decide) (by assumption), by (rw [← ecast]; with_reducible exact upd_at)⟩
            · intro p hp; simp only [List.mem_cons, List.not_mem_nil, or_false] at hp; rcases hp with rfl | rfl | rfl <;> (first | (refine neN ?_; dsimp only; with_reducible exact nq0 (by k_all)) | (refine neN ?_; dsimp only; with_reducible exact nq1 (by k_all)) | (refine neN ?_; dsimp only; with_reducible exact nl2 (by k_all)))
            · intro b hb hbI o ho
              have : b = Ls := by simpa using hb
              subst this
              have e := (Ne (b, oLs) (by k_mem)).1
              rw [g0] at ho; cases ho; exact e
            · simp; omega
        · (try simp only [List.size_toArray] at hgt)
          have hnn : sharesOf (r0 :: rest) name = none := by
            have : sharesGo name rest.dropLast r0.length [] = none := by
              rw [← List.take_append_drop i rest.dropLast, sharesGo_append, hgo, List.drop_eq_getElem_cons hi, hdi]
              have : firstFit run name at' = none := firstFit_none fun q hq => by
                rcases Nat.lt_or_ge q here with h | h
                · exact w3 q hq h
                · cases e : standsAt run name q with
                  | false => rfl
                  | true => have := standsAt_le e; omega
              simp only [Option.bind_some, sharesGo, this]
            simp only [sharesOf, hs, if_true, this]
            cases e : rest.getLast? with
            | none => rw [List.getLast?_eq_none_iff] at e; subst e; simp at hi'
            | some rl => rfl
          (with_reducible refine ite_f ?_); (with_reducible refine Kx_next ?_); (with_reducible refine execs_k ?_); refine' exec_if (by k_asm) (by k_asm) (by refine' PT.cmpI (by refine' PE.add (by refine' PE.nameI ⟨rfl, rfl, by decide⟩ (by k_all)) (by refine' PE.lenL (by refine' PE.lenB (by k_asm) (by k_asm) ⟨rfl, rfl⟩ (by k_is)) (by refine' PE.name ⟨rfl, rfl, by decide⟩ (by k_all)) (Px.lst_old (by assumption)) (by omega) rfl)) (by refine' PE.lenS (by refine' PE.lenB (by k_asm) (by k_asm) ⟨rfl, rfl⟩ (by k_is)) (by refine' PE.nameS ⟨rfl, rfl, by decide⟩ (by k_all)) (by omega) rfl) (by rfl) (by with_unfolding_all rfl)) ?_; refine At.same rfl ?_; intro k9
          refine ite_d (fun _ => ?_) (fun hbad => ?_)
          · (with_reducible refine execs_1 ?_); (with_reducible refine wpAny_Return_some ?_); (with_reducible refine wpAny_Constant_none ?_); with_reducible refine Kx_ret ?_
            exact hnone hnn _ _ (by (exact Fr.keep (by k_asm)))
          · (try simp only [List.size_toArray] at hbad); omega
    case done =>
      rintro m₁ news₁ h tk' ⟨at', sh, us, k, t, hgo, hat, hus, hul, rfl, g1, g2, g3, g4⟩ F N
      obtain ⟨rl, hrlast⟩ : ∃ rl, rest.getLast? = some rl := by
        cases e : rest.getLast? with
        | none => rw [List.getLast?_eq_none_iff] at e; subst e; simp at hvl; omega
        | some rl => exact ⟨rl, rfl⟩
      have hrll : rl ∈ r0 :: rest := .tail _ (List.mem_of_getLast? hrlast)
      have hrlg : (r0 :: rest)[rest.length]? = some rl := by
        rw [List.getLast?_eq_getElem?] at hrlast
        cases rest with
        | nil => simp at hvl; omega
        | cons y ys => simpa using hrlast
      obtain ⟨vl, hvl1, RL⟩ := hrep.get hrlg
      have hvlast : vs.getLast? = some vl := by
        rw [List.getLast?_eq_getElem?, ← hvl1]; congr 1; simp at hvl; omega
      have hrlen := hrl _ hrll
      have hrpp := hpl _ hrll
      obtain ⟨al, wl, rfl, ll, repl⟩ := id RL
      have hwl := repl.len
      rw [hws, List.take_length] at hgo
      walk_at "d"; (with_reducible refine Kx_next ?_); (with_reducible refine execs_k ?_); refine' exec_asg (by k_asm) (by k_asm) (by refine' PE.sub (by refine' PE.lenS (by refine' PE.lenB (by k_asm) (by k_asm) ⟨rfl, rfl⟩ (by k_is)) (by refine' PE.nameS ⟨rfl, rfl, by decide⟩ (by k_all)) (by omega) rfl) (by refine' PE.lenL (by refine' PE.lenB (by k_asm) (by k_asm) ⟨rfl, rfl⟩ (by k_is)) (by refine' PE.itemZ (by refine' PE.name ⟨rfl, rfl, by decide⟩ (by k_all)) (Px.lst_old (by assumption)) (by assumption) (by omega)) (Px.lst_old (by assumption)) (by omega) rfl)) (by rfl) (by rfl) (by rfl) ?_; intro h9 k9; (with_reducible (refine PV.all_i ?_; intro t9)); intro F9 N9; (with_reducible refine Kx_next ?_); (with_reducible refine execs_k ?_); (with_reducible refine wpAny_If ?_); (with_reducible refine isTrue_or ?_); refine' pt_test (by k_asm) (by k_asm) (by refine' PT.cmpI (by refine' PE.nameI ⟨rfl, rfl, by decide⟩ (by with_reducible exact upd_at)) (by refine' PE.nameI ⟨rfl, rfl, by decide⟩ (by with_reducible exact upd_off (by decide) (by assumption))) (by rfl) (by with_unfolding_all rfl)) ?_; refine At.same rfl ?_; intro k9
      refine ite_d (fun hlt => ?_) (fun hge => ?_)
      · (with_reducible refine ite_t ?_); (with_reducible refine execs_1 ?_); (with_reducible refine wpAny_Return_some ?_); (with_reducible refine wpAny_Constant_none ?_); with_reducible refine Kx_ret ?_
        refine hnone ?_ _ _ (by (exact Fr.keep (by k_asm)))
        (try simp only [List.size_toArray] at hlt)
        simp only [sharesOf, hs, if_true, hrlast, hgo]; rw [if_neg (fun h => by omega)]
      · (try simp only [List.size_toArray] at hge)
        (with_reducible refine isTrue_or ?_); (with_reducible refine isTrue_not ?_); refine PyProof.Rows.isTrue_plain ?_; (with_reducible refine' Call_ ?_ ?q51); (case q51 => rfl); refine' nameX_K (by k_asm) (by k_asm) (by k_asm) (by k_is) ?_ (by rfl) (by rfl) (by decide); refine' callWith_K (by k_asm) (by k_is) ?_; walk_at "d"; (with_reducible refine' spliced_more ?_ ?q52); (case q52 => rfl); refine' pe_eval (by k_asm) (by k_asm) (by refine' PE.itemZ (by refine' PE.name ⟨rfl, rfl, by decide⟩ (by with_reducible exact upd_off (by decide) (by assumption))) (Px.lst_old (by assumption)) (by assumption) (by omega)) ?_; refine At.same rfl ?_; intro k9; (with_reducible refine PV.all_v ?_); (with_reducible refine' spliced_more ?_ ?q53); (case q53 => rfl); refine' nameX_L (by k_asm) (by with_reducible exact upd_off (by decide) (by assumption)) ?_ (by rfl) (by rfl) (by decide); (with_reducible refine' spliced_more ?_ ?q54); (case q54 => rfl); refine' nameX_L (by k_asm) (by with_reducible exact upd_at) ?_ (by rfl) (by rfl) (by decide); (with_reducible refine spliced_none ?_); walk_at "d"; refine ⟨by k_in, ?_⟩
        have ecl : ((name.length : Int) - (wl.length : Int)) = ((name.length - rl.length : Nat) : Int) := by (try simp only [List.size_toArray]); omega
        rw [ecl]
        refine' at_spec (run := rl) (at' := (name.length - rl.length)) ?cX ?cT ?cr ?cu ?chh ?cR ?cl ?cpl ?chn ?cha ?_
        case cX => k_in
        case cT => exact TopRead.keeps (by assumption) (Fr.keep (by k_asm))
        case cr => (simp only [Around.deeper]; omega)
        case cu => (simp only [Around.deeper]; omega)
        case chh => exact hh
        case cR => exact RRun.keeps (by (exact Fr.keep (by k_asm))) RL
        case cl => exact hrlen
        case cpl => exact hrpp
        case chn => omega
        case cha => omega
        intro h₂ tk₂ P₂
        (rename Pres _ _ => Pa; rename Fr _ _ _ _ => Fa; rename News _ _ _ _ => Na; have F₂ := Fa.keeps Pa; have N₂ := Na.grown Pa; clear Pa Fa Na)
        walk_at "d"; with_reducible refine wpAny_truthy_bool ?_
        refine ite_b (fun hst => ?_) (fun hst => ?_)
        · (with_reducible refine ite_t ?_); (with_reducible refine execs_1 ?_); (with_reducible refine wpAny_Return_some ?_); (with_reducible refine wpAny_Constant_none ?_); with_reducible refine Kx_ret ?_
          refine hnone ?_ _ _ (by (exact Fr.keep (by k_asm)))
          simp only [Bool.not_eq_true'] at hst
          simp only [sharesOf, hs, if_true, hrlast, hgo]; rw [if_neg (fun h => by rw [hst] at h; exact absurd h.2 (by simp))]
        · have hst' : standsAt rl name (name.length - rl.length) = true := by simpa using hst
          (with_reducible refine isTrue_or_nil ?_); (with_reducible refine ite_f ?_); (with_reducible refine wpAny_execs_nil ?_); (with_reducible refine Kx_next ?_); (with_reducible refine execs_1 ?_); (with_reducible refine wpAny_Return_some ?_); walk_at "d"; (with_reducible refine wpAny_BinOp ?_); refine' nameX_L (by k_asm) (by with_reducible exact upd_off (by decide) (by assumption)) ?_ (by rfl) (by rfl) (by decide); refine PyProof.Rows.List_ ?_; (with_reducible refine' spliced_more ?_ ?q55); (case q55 => rfl); refine' pe_eval (by k_asm) (by k_asm) (by refine' PE.slSS (by refine' PE.nameS ⟨rfl, rfl, by decide⟩ (by with_reducible exact upd_off (by decide) (by assumption))) (by refine' PE.nameI ⟨rfl, rfl, by decide⟩ (by with_reducible exact upd_off (by decide) (by assumption))) (by refine' PE.nameI ⟨rfl, rfl, by decide⟩ (by with_reducible exact upd_at)) (by simp only [sizeLine_eq]; omega)) ?_; refine At.any ?_; intro h9 k9 F9 N9; (with_reducible (refine PV.all_s ?_; intro t9)); (with_reducible refine spliced_none ?_); refine' newList_P (by k_asm) (by k_asm) ?_ (Nat.le_of_ble_eq_true rfl); intro l9 h9 F9 N9 m9; replace m9 := ltk3 m9
          refine' add_lists_P (vs := us) (ws := [_]) ?F ?N ?l ?l2 ?_ ?z
          case F => k_asm
          case N => k_asm
          case l => exact News.isList (by k_asm) (by k_mem)
          case l2 => exact News.isList (by k_asm) (by k_mem)
          case z => simp only [sizeLine_eq, List.length_cons, List.length_nil]; have := List.length_dropLast (xs := rest); simp only [List.length_cons] at hlen; omega
          k_whole
          intro Lr h₃ F₃ N₃ l₃
          skip
          refine hsome (sh ++ [Txt.slice name (some at') (some ((name.length - rl.length : Nat) : Int))]) ?_ _ _ _ _ _ (by (exact Fr.keep (by k_asm))) (N₃ _ (.head _)).1 (N₃ _ (.head _)).2.2 (by rw [← ecl]; exact hus.append' (.cons _ _ .nil))
          simp only [sharesOf, hs, if_true, hrlast, hgo]; rw [if_pos ⟨by omega, hst'⟩]
noncomputable abbrev Led := List (Addr × Obj)
noncomputable def LO (O : Led) (a : Addr) (items : List Value) : Prop := ∃ n, (a, PySem.W.listOf items.toArray n) ∈ O
noncomputable def TO (O : Led) (a : Addr) (items : List Value) : Prop := (a, ({ cls := .type "tuple", data := .seq items.toArray } : Obj)) ∈ O
noncomputable def RO {α : Type} (R : Value → α → Prop) : List Value → List α → Prop
  | [], [] => True
  | v :: vs, x :: xs => R v x ∧ RO R vs xs
  | _, _ => False
theorem RO.imp {α : Type} {R R' : Value → α → Prop} (k : ∀ v x, R v x → R' v x) : ∀ {vs : List Value} {xs : List α}, RO R vs xs → RO R' vs xs
  | [], [], _ => trivial
  | _ :: _, _ :: _, x => ⟨k _ _ x.1, RO.imp k x.2⟩
  | [], _ :: _, h => h.elim
  | _ :: _, [], h => h.elim
theorem RO.reps {α : Type} {R : Value → α → Prop} {R' : Heap → Value → α → Prop} {h : Heap} (k : ∀ v x, R v x → R' h v x) : ∀ {vs : List Value} {xs : List α}, RO R vs xs → Reps R' h vs xs
  | [], [], _ => trivial
  | _ :: _, _ :: _, x => ⟨k _ _ x.1, RO.reps k x.2⟩
  | [], _ :: _, h => h.elim
  | _ :: _, [], h => h.elim
theorem RO.snoc {α : Type} {R : Value → α → Prop} {v : Value} {x : α} (hx : R v x) : ∀ {vs : List Value} {xs : List α}, RO R vs xs → RO R (vs ++ [v]) (xs ++ [x])
  | [], [], _ => ⟨hx, trivial⟩
  | _ :: _, _ :: _, y => ⟨y.1, RO.snoc hx y.2⟩
  | [], _ :: _, h => h.elim
  | _ :: _, [], h => h.elim
theorem RO.len {α : Type} {R : Value → α → Prop} : ∀ {vs : List Value} {xs : List α}, RO R vs xs → vs.length = xs.length
  | [], [], _ => rfl
  | _ :: _, _ :: _, h => congrArg (· + 1) (RO.len h.2)
  | [], _ :: _, h => h.elim
  | _ :: _, [], h => h.elim
noncomputable def OPair (O : Led) (v : Value) (p : Str × Str) : Prop := ∃ a t u, v = .ref a ∧ TO O a [.str p.1 t, .str p.2 u]
noncomputable def OSign (O : Led) (v : Value) (x : Sign) : Prop := ∃ a l vs, v = .ref a ∧ TO O a [.bool x.1, .ref l] ∧ LO O l vs ∧ RO (OPair O) vs x.2
noncomputable def ORun (O : Led) (v : Value) (r : List Sign) : Prop := ∃ a vs, v = .ref a ∧ LO O a vs ∧ RO (OSign O) vs r
theorem OPair.sub {O O' : Led} (k : ∀ p ∈ O, p ∈ O') {v : Value} {p : Str × Str} : OPair O v p → OPair O' v p := fun ⟨a, t, u, e, h⟩ => ⟨a, t, u, e, k _ h⟩
theorem OSign.sub {O O' : Led} (k : ∀ p ∈ O, p ∈ O') {v : Value} {x : Sign} : OSign O v x → OSign O' v x := fun ⟨a, l, vs, e, h, ⟨n, q⟩, r⟩ => ⟨a, l, vs, e, k _ h, ⟨n, k _ q⟩, r.imp fun _ _ => OPair.sub k⟩
theorem ORun.sub {O O' : Led} (k : ∀ p ∈ O, p ∈ O') {v : Value} {x : List Sign} : ORun O v x → ORun O' v x := fun ⟨a, vs, e, ⟨n, q⟩, r⟩ => ⟨a, vs, e, ⟨n, k _ q⟩, r.imp fun _ _ => OSign.sub k⟩
section
variable {h₀ h : Heap} {L : Addr} {O : Led}
theorem LO.isList (N : News h₀ L h O) {a : Addr} {vs : List Value} (x : LO O a vs) : h.IsList a vs.toArray := let ⟨_, q⟩ := x; News.isList N q
theorem TO.isTup (N : News h₀ L h O) {a : Addr} {vs : List Value} (x : TO O a vs) : IsTup h a vs.toArray := News.isTup N x
theorem OPair.rep (N : News h₀ L h O) {v : Value} {p : Str × Str} : OPair O v p → RPair h v p := fun ⟨a, t, u, e, q⟩ => ⟨a, t, u, e, q.isTup N⟩
theorem OSign.rep (N : News h₀ L h O) {v : Value} {x : Sign} : OSign O v x → RSign h v x := fun ⟨a, l, vs, e, q, r, y⟩ => ⟨a, .ref l, e, q.isTup N, l, vs, rfl, r.isList N, y.reps fun _ _ => OPair.rep N⟩
noncomputable def ORuns (O : Led) (v : Value) (rs : List (List Sign)) : Prop := ∃ a vs, v = .ref a ∧ LO O a vs ∧ RO (ORun O) vs rs
theorem ORun.rep (N : News h₀ L h O) {v : Value} {x : List Sign} : ORun O v x → RRun h v x := fun ⟨a, vs, e, r, y⟩ => ⟨a, vs, e, r.isList N, y.reps fun _ _ => OSign.rep N⟩
theorem ORuns.rep (N : News h₀ L h O) {v : Value} {x : List (List Sign)} : ORuns O v x → RRuns h v x := fun ⟨a, vs, e, r, y⟩ => ⟨a, vs, e, r.isList N, y.reps fun _ _ => ORun.rep N⟩
theorem News.swap {a b : Addr × Obj} {r : Led} (N : News h₀ L h (a :: b :: r)) : News h₀ L h (b :: a :: r) := fun p hp => by
  rcases List.mem_cons.mp hp with rfl | hp
  · exact N _ (.tail _ (.head _))
  rcases List.mem_cons.mp hp with rfl | hp
  · exact N _ (.head _)
  · exact N _ (.tail _ (.tail _ hp))
theorem News.sub {O O' : Led} (N : News h₀ L h O) (k : ∀ p ∈ O', p ∈ O) : News h₀ L h O' := fun p hp => N p (k p hp)
theorem allLt_ne {d : Addr} : ∀ {l : Led}, AllLt d l → ∀ p ∈ l, p.1 ≠ d
  | [], _, _, hp => absurd hp List.not_mem_nil
  | a :: r, h, p, hp => by
    rcases List.mem_cons.mp hp with rfl | hp
    · exact Nat.ne_of_lt h.1
    · exact allLt_ne h.2 p hp
end
theorem Sgn.ne {cs : List Nat} {x : Sign} (h : Sgn cs x) : cs ≠ [] := by cases h <;> simp
theorem rchars_nil : ∀ {b : Bool} {ts : List RTok}, ROk b ts → (rchars ts).length = 0 → ts = []
  | _, [], _, _ => rfl
  | _, .opn :: _, _, h => by simp [rchars, RTok.chars] at h
  | _, .cls :: _, _, h => by simp [rchars, RTok.chars] at h
  | _, .star :: _, _, h => by simp [rchars, RTok.chars] at h
  | _, .sg cs x :: r, k, h => by
    have := k.2.2.ne
    simp [rchars, RTok.chars] at h
    exact absurd h.1 this
noncomputable def sgKind (cs : List Nat) : Nat := bif cs == [40, 63, 33, 41] then 4 else bif cs == [46] then 5 else bif cs.headD 0 == 91 then 6 else 8
noncomputable def RTok.kind : RTok → Nat
  | .opn => 1
  | .cls => 2
  | .star => 3
  | .sg cs _ => sgKind cs
noncomputable abbrev SetTok (cs : List Nat) (x : Sign) : Prop := ∃ sg ws, cs = 91 :: (sg ++ [93]) ∧ 93 ∉ sg ∧ sg.length ≤ 3 ∧ ((Txt.slice (S sg) none (some 1)).cps.toList == (Str.ofString "^").cps.toList) = x.1 ∧ (x.1 = true → Txt.slice (S sg) (some 1) none = S ws) ∧ (x.1 = false → sg = ws) ∧ ws.length ≤ 3 ∧ ((S ws).cps.toList == (Str.ofString "").cps.toList) = false ∧
  (((Txt.slice (S ws) (some 1) (some 2)).cps.toList == (Str.ofString "-").cps.toList) = false ∧ x.2 = ws.map (fun c => (S [c], S [c])) ∨ ((Txt.slice (S ws) (some 1) (some 2)).cps.toList == (Str.ofString "-").cps.toList) = true ∧ decide ((Txt.slice (S ws) (some 2) none).cps.toList < (Txt.slice (S ws) none (some 1)).cps.toList) = false ∧ x.2 = [(Txt.slice (S ws) none (some 1), Txt.slice (S ws) (some 2) none)])
theorem sg_kinds {cs : List Nat} {x : Sign} (h : Sgn cs x) : sgKind cs = 4 ∧ cs = [40, 63, 33, 41] ∧ x = (false, []) ∨ sgKind cs = 5 ∧ cs = [46] ∧ x = (true, []) ∨ sgKind cs = 6 ∧ SetTok cs x ∨ sgKind cs = 8 ∧ ∃ c, c ∈ [61, 117, 118, 113] ∧ cs = [c] ∧ x = (false, [(S [c], S [c])]) := by
  cases h with
  | never => exact .inl ⟨rfl, rfl, rfl⟩
  | any => exact .inr (.inl ⟨rfl, rfl, rfl⟩)
  | lit c h =>
    refine .inr (.inr (.inr ⟨?_, c, h, rfl, rfl⟩))
    simp only [List.mem_cons, List.not_mem_nil, or_false] at h
    rcases h with rfl | rfl | rfl | rfl <;> rfl
  | set b w h =>
    refine .inr (.inr (.inl ⟨?_, ?_⟩))
    · simp only [List.mem_cons, List.not_mem_nil, or_false, Prod.mk.injEq] at h
      rcases h with ⟨rfl, rfl⟩ | ⟨rfl, rfl⟩ | ⟨rfl, rfl⟩ <;> rfl
    · simp only [List.mem_cons, List.not_mem_nil, or_false, Prod.mk.injEq] at h
      rcases h with ⟨rfl, rfl⟩ | ⟨rfl, rfl⟩ | ⟨rfl, rfl⟩
      · exact ⟨[63], [63], rfl, by decide, by decide, rfl, nofun, fun _ => rfl, by decide, rfl, .inl ⟨rfl, rfl⟩⟩
      · exact ⟨[117, 118], [117, 118], rfl, by decide, by decide, rfl, nofun, fun _ => rfl, by decide, rfl, .inl ⟨rfl, rfl⟩⟩
      · exact ⟨[94, 117], [117], rfl, by decide, by decide, rfl, fun _ => rfl, nofun, by decide, rfl, .inl ⟨rfl, rfl⟩⟩
  | rng => exact .inr (.inr (.inl ⟨rfl, [117, 45, 118], [117, 45, 118], rfl, by decide, by decide, rfl, nofun, fun _ => rfl, by decide, rfl, .inr ⟨rfl, rfl, rfl⟩⟩))
noncomputable abbrev RdT (held : Bool) (tok : RTok) (t : List Nat) : Prop :=
  ((S (t.take 6)).cps.toList == (Str.ofString "(?>.*?").cps.toList && !held) = (tok.kind == 1) ∧
  (held && ((S (t.take 3)).cps.toList == (Str.ofString ").*").cps.toList || (S (t.take 4)).cps.toList == (Str.ofString ")(?>").cps.toList)) = (tok.kind == 2) ∧
  ((S (t.take 2)).cps.toList == (Str.ofString ".*").cps.toList && !held) = (tok.kind == 3) ∧
  ((S (t.take 4)).cps.toList == (Str.ofString "(?!)").cps.toList) = (tok.kind == 4) ∧
  ((tok.kind == 3) = false → ((⟨#[tok.chars.headD 0]⟩ : Str).cps.toList == (Str.ofString ".").cps.toList) = (tok.kind == 5)) ∧
  ((⟨#[tok.chars.headD 0]⟩ : Str).cps.toList == (Str.ofString "[").cps.toList) = (tok.kind == 6)
theorem rd_tests : ∀ {held : Bool} {tok : RTok} {r : List RTok}, ROk held (tok :: r) → RdT held tok (tok.chars ++ (rchars r ++ [41, 92, 90]))
  | _, .opn, _, h => by obtain rfl := h.1; exact ⟨rfl, rfl, rfl, rfl, fun _ => rfl, rfl⟩
  | _, .cls, _, h => by
    obtain ⟨rfl, _, ⟨_, rfl⟩ | ⟨_, rfl⟩⟩ := h
    · exact ⟨rfl, rfl, rfl, rfl, fun _ => rfl, rfl⟩
    · exact ⟨rfl, rfl, rfl, rfl, fun _ => rfl, rfl⟩
  | _, .star, _, h => by obtain rfl := h.1; exact ⟨rfl, rfl, rfl, rfl, nofun, rfl⟩
  | _, .sg _ _, r, h => by
    obtain ⟨rfl, h3, hs⟩ := h
    cases hs with
    | never => exact ⟨rfl, rfl, rfl, rfl, fun _ => rfl, rfl⟩
    | any =>
      refine ⟨rfl, rfl, ?_, rfl, fun _ => rfl, rfl⟩
      show (_ && false) = false
      exact Bool.and_false _
    | lit c h =>
      simp only [List.mem_cons, List.not_mem_nil, or_false] at h
      rcases h with rfl | rfl | rfl | rfl <;> exact ⟨rfl, rfl, rfl, rfl, fun _ => rfl, rfl⟩
    | set b w h =>
      simp only [List.mem_cons, List.not_mem_nil, or_false, Prod.mk.injEq] at h
      rcases h with ⟨rfl, rfl⟩ | ⟨rfl, rfl⟩ | ⟨rfl, rfl⟩ <;> exact ⟨rfl, rfl, rfl, rfl, fun _ => rfl, rfl⟩
    | rng => exact ⟨rfl, rfl, rfl, rfl, fun _ => rfl, rfl⟩
theorem kind_1 {tok : RTok} {r : List RTok} {held : Bool} (hok : ROk held (tok :: r)) (h : (tok.kind == 1) = true) : tok = .opn ∧ held = false := by
  cases tok with
  | opn => exact ⟨rfl, hok.1⟩
  | sg cs x => have h : sgKind cs = 1 := eq_of_beq h; rcases sg_kinds hok.2.2 with q | q | q | q <;> (rw [q.1] at h; cases h)
  | _ => cases h
theorem kind_2 {tok : RTok} {r : List RTok} {held : Bool} (hok : ROk held (tok :: r)) (h : (tok.kind == 2) = true) : tok = .cls ∧ held = true ∧ ROk false r := by
  cases tok with
  | cls => exact ⟨rfl, hok.1, hok.2.1⟩
  | sg cs x => have h : sgKind cs = 2 := eq_of_beq h; rcases sg_kinds hok.2.2 with q | q | q | q <;> (rw [q.1] at h; cases h)
  | _ => cases h
theorem kind_3 {tok : RTok} {r : List RTok} {held : Bool} (hok : ROk held (tok :: r)) (h : (tok.kind == 3) = true) : tok = .star ∧ held = false := by
  cases tok with
  | star => exact ⟨rfl, hok.1⟩
  | sg cs x => have h : sgKind cs = 3 := eq_of_beq h; rcases sg_kinds hok.2.2 with q | q | q | q <;> (rw [q.1] at h; cases h)
  | _ => cases h
theorem kind_sg {tok : RTok} {r : List RTok} {held : Bool} (hok : ROk held (tok :: r)) (h1 : (tok.kind == 1) = false) (h2 : (tok.kind == 2) = false) (h3 : (tok.kind == 3) = false) : ∃ cs x, tok = .sg cs x ∧ held = true ∧ ROk true r ∧ Sgn cs x := by
  cases tok with
  | sg cs x => exact ⟨cs, x, rfl, hok.1, hok.2.1, hok.2.2⟩
  | opn => cases h1
  | cls => cases h2
  | star => cases h3
theorem kind_4 {cs : List Nat} {x : Sign} (hs : Sgn cs x) (h : (sgKind cs == 4) = true) : cs = [40, 63, 33, 41] ∧ x = (false, []) := by
  have h : sgKind cs = 4 := eq_of_beq h
  rcases sg_kinds hs with q | q | q | q <;> first | exact q.2 | (rw [q.1] at h; cases h)
theorem kind_5 {cs : List Nat} {x : Sign} (hs : Sgn cs x) (h : (sgKind cs == 5) = true) : cs = [46] ∧ x = (true, []) := by
  have h : sgKind cs = 5 := eq_of_beq h
  rcases sg_kinds hs with q | q | q | q <;> first | exact q.2 | (rw [q.1] at h; cases h)
theorem kind_6 {cs : List Nat} {x : Sign} (hs : Sgn cs x) (h : (sgKind cs == 6) = true) : SetTok cs x := by
  have h : sgKind cs = 6 := eq_of_beq h
  rcases sg_kinds hs with q | q | q | q <;> first | exact q.2 | (rw [q.1] at h; cases h)
theorem kind_8 {cs : List Nat} {x : Sign} (hs : Sgn cs x) (h4 : (sgKind cs == 4) = false) (h5 : (sgKind cs == 5) = false) (h6 : (sgKind cs == 6) = false) : ∃ c, c ∈ [61, 117, 118, 113] ∧ cs = [c] ∧ x = (false, [(S [c], S [c])]) := by
  rcases sg_kinds hs with q | q | q | q
  · rw [q.1] at h4; cases h4
  · rw [q.1] at h5; cases h5
  · rw [q.1] at h6; cases h6
  · exact q.2
noncomputable abbrev rdLed (Lr bl : Addr) (refs cvs : List Value) (k k' : Nat) (rest : Led) : Led := (Lr, PySem.W.listOf (refs ++ [Value.ref bl]).toArray k) :: (bl, PySem.W.listOf cvs.toArray k') :: rest
structure RdI (whole : List Nat) (fin : List (List Sign)) (pre : List Nat) (toks : List RTok) (held : Bool) (fr : List (List Sign)) (cur : List Sign) (Lr bl : Addr) (refs cvs : List Value) (rest : Led) : Prop where
  sp : whole = pre ++ (rchars toks ++ [41, 92, 90])
  ok : ROk held toks
  go : readGo toks fr cur = fin
  fr : RO (ORun rest) refs fr
  cu : RO (OSign rest) cvs cur
  r1 : ∀ p ∈ rest, p.1 ≠ Lr
  r2 : ∀ p ∈ rest, p.1 ≠ bl
  ne : @Ne Nat Lr bl
  z1 : refs.length ≤ pre.length
  z2 : cvs.length ≤ pre.length
noncomputable abbrev RdJ (whole : List Nat) (tt : Tok) (fin : List (List Sign)) (n : Nat) (m : Str → Option Value) (news : Led) : Prop := ∃ pre toks held fr cur Lr bl refs cvs k k' rest t, RdI whole fin pre toks held fr cur Lr bl refs cvs rest ∧ n = toks.length ∧ news = rdLed Lr bl refs cvs k k' rest ∧
     m (Str.ofString "text") = some (.str (S whole) tt) ∧ m (Str.ofString "runs") = some (.ref Lr) ∧ m (Str.ofString "held") = some (.bool held) ∧ m (Str.ofString "at") = some (.int (pre.length : Int) t)
theorem sub_app {a b p : Addr × Obj} {rest : Led} (new : Led) (hp : p ∈ a :: b :: (new ++ rest)) : p ∈ new ++ a :: b :: rest := by
  rcases List.mem_cons.mp hp with rfl | hp
  · exact List.mem_append_right _ (.head _)
  rcases List.mem_cons.mp hp with rfl | hp
  · exact List.mem_append_right _ (.tail _ (.head _))
  rcases List.mem_append.mp hp with hp | hp
  · exact List.mem_append_left _ hp
  · exact List.mem_append_right _ (.tail _ (.tail _ hp))
theorem mem_perm1 {a b c p : Addr × Obj} {led rest : Led} (hp : p ∈ c :: a :: b :: (led ++ rest)) : p ∈ c :: (led ++ (a :: b :: rest)) := by
  simp only [List.mem_cons, List.mem_append] at hp ⊢; grind
theorem mem_perm3 {a b c d p : Addr × Obj} {led rest : Led} (hp : p ∈ a :: b :: ((c :: d :: led) ++ rest)) : p ∈ c :: d :: a :: b :: (led ++ rest) := by
  simp only [List.mem_cons, List.mem_append, List.cons_append] at hp ⊢; grind
theorem ne_two {a b c : Addr} {o o' : Obj} (h1 : a ≠ c) (h2 : b ≠ c) : ∀ p ∈ [(a, o), (b, o')], p.1 ≠ c := fun p hp => by
  rcases List.mem_cons.mp hp with rfl | hp
  · exact h1
  · rw [List.mem_singleton.mp hp]; exact h2
theorem ne_three {a b d c : Addr} {o o' o'' : Obj} (h1 : a ≠ c) (h2 : b ≠ c) (h3 : d ≠ c) : ∀ p ∈ [(a, o), (b, o'), (d, o'')], p.1 ≠ c := fun p hp => by
  rcases List.mem_cons.mp hp with rfl | hp
  · exact h1
  · exact ne_two h2 h3 p hp
section
variable {whole : List Nat} {fin : List (List Sign)} {pre : List Nat} {tok : RTok} {r : List RTok} {held : Bool} {fr : List (List Sign)} {cur : List Sign} {Lr bl b' tp : Addr} {refs cvs : List Value} {rest : Led}
theorem RdI.len (I : RdI whole fin pre (tok :: r) held fr cur Lr bl refs cvs rest) : whole = pre ++ (tok.chars ++ (rchars r ++ [41, 92, 90])) := by rw [I.sp]; simp [rchars]
theorem RdI.opn (I : RdI whole fin pre (tok :: r) held fr cur Lr bl refs cvs rest) {k' : Nat} (hk : (tok.kind == 1) = true) (h1 : b' ≠ Lr) (h2 : ∀ p ∈ rest, p.1 ≠ b') (h3 : bl ≠ b') : RdI whole fin (pre ++ [40, 63, 62, 46, 42, 63]) r true (fr ++ [cur]) [] Lr b' (refs ++ [.ref bl]) [] ((bl, PySem.W.listOf cvs.toArray k') :: rest) := by
  obtain ⟨rfl, _⟩ := kind_1 I.ok hk
  exact ⟨by rw [I.len]; simp [RTok.chars], I.ok.2, I.go, RO.snoc ⟨bl, cvs, rfl, ⟨_, .head _⟩, I.cu.imp fun _ _ => OSign.sub fun _ h => .tail _ h⟩ (I.fr.imp fun _ _ => ORun.sub fun _ h => .tail _ h), trivial,
   List.forall_mem_cons.mpr ⟨Ne.symm I.ne, I.r1⟩, List.forall_mem_cons.mpr ⟨h3, h2⟩, Ne.symm h1, by have := I.z1; simp; omega, Nat.zero_le _⟩
theorem RdI.star (I : RdI whole fin pre (tok :: r) held fr cur Lr bl refs cvs rest) {k' : Nat} (hk : (tok.kind == 3) = true) (h1 : b' ≠ Lr) (h2 : ∀ p ∈ rest, p.1 ≠ b') (h3 : bl ≠ b') : RdI whole fin (pre ++ [46, 42]) r held (fr ++ [cur]) [] Lr b' (refs ++ [.ref bl]) [] ((bl, PySem.W.listOf cvs.toArray k') :: rest) := by
  obtain ⟨rfl, rfl⟩ := kind_3 I.ok hk
  exact ⟨by rw [I.len]; simp [RTok.chars], I.ok.2, I.go, RO.snoc ⟨bl, cvs, rfl, ⟨_, .head _⟩, I.cu.imp fun _ _ => OSign.sub fun _ h => .tail _ h⟩ (I.fr.imp fun _ _ => ORun.sub fun _ h => .tail _ h), trivial,
   List.forall_mem_cons.mpr ⟨Ne.symm I.ne, I.r1⟩, List.forall_mem_cons.mpr ⟨h3, h2⟩, Ne.symm h1, by have := I.z1; simp; omega, Nat.zero_le _⟩
theorem RdI.cls (I : RdI whole fin pre (tok :: r) held fr cur Lr bl refs cvs rest) (hk : (tok.kind == 2) = true) : RdI whole fin (pre ++ [41]) r false fr cur Lr bl refs cvs rest := by
  obtain ⟨rfl, rfl, _⟩ := kind_2 I.ok hk
  exact ⟨by rw [I.len]; simp [RTok.chars], I.ok.2.1, I.go, I.fr, I.cu, I.r1, I.r2, I.ne, by have := I.z1; simp; omega, by have := I.z2; simp; omega⟩
theorem RdI.sg {cs : List Nat} {x : Sign} (I : RdI whole fin pre (.sg cs x :: r) held fr cur Lr bl refs cvs rest) (new : Led) (hx : OSign new (Value.ref tp) x) (hd1 : ∀ p ∈ new, p.1 ≠ Lr) (hd2 : ∀ p ∈ new, p.1 ≠ bl) : RdI whole fin (pre ++ cs) r held fr (cur ++ [x]) Lr bl refs (cvs ++ [.ref tp]) (new ++ rest) :=
  ⟨by rw [I.len]; simp [RTok.chars], I.ok.1 ▸ I.ok.2.1, I.go, I.fr.imp fun _ _ => ORun.sub fun _ h => List.mem_append_right _ h, RO.snoc (hx.sub fun _ h => List.mem_append_left _ h) (I.cu.imp fun _ _ => OSign.sub fun _ h => List.mem_append_right _ h),
   fun p hp => (List.mem_append.mp hp).elim (hd1 p) (I.r1 p), fun p hp => (List.mem_append.mp hp).elim (hd2 p) (I.r2 p), I.ne, by have := I.z1; simp; omega, by
    have := I.z2
    have : 1 ≤ cs.length := List.length_pos_iff.mpr I.ok.2.2.ne
    simp; omega⟩
theorem RdI.never (I : RdI whole fin pre (tok :: r) held fr cur Lr bl refs cvs rest) (hk : (tok.kind == 4) = true) (new : Led) (hx : OSign new (Value.ref tp) (false, [])) (hd1 : ∀ p ∈ new, p.1 ≠ Lr) (hd2 : ∀ p ∈ new, p.1 ≠ bl) : RdI whole fin (pre ++ [40, 63, 33, 41]) r held fr (cur ++ [(false, [])]) Lr bl refs (cvs ++ [.ref tp]) (new ++ rest) := by
  cases tok with
  | sg cs x => obtain ⟨rfl, rfl⟩ := kind_4 I.ok.2.2 hk; exact I.sg new hx hd1 hd2
  | _ => cases hk
theorem RdI.any (I : RdI whole fin pre (tok :: r) held fr cur Lr bl refs cvs rest) (hk : (tok.kind == 5) = true) (new : Led) (hx : OSign new (Value.ref tp) (true, [])) (hd1 : ∀ p ∈ new, p.1 ≠ Lr) (hd2 : ∀ p ∈ new, p.1 ≠ bl) : RdI whole fin (pre ++ [46]) r held fr (cur ++ [(true, [])]) Lr bl refs (cvs ++ [.ref tp]) (new ++ rest) := by
  cases tok with
  | sg cs x => obtain ⟨rfl, rfl⟩ := kind_5 I.ok.2.2 hk; exact I.sg new hx hd1 hd2
  | _ => cases hk
theorem RdI.lit (I : RdI whole fin pre (tok :: r) held fr cur Lr bl refs cvs rest) (h1 : (tok.kind == 1) = false) (h2 : (tok.kind == 2) = false) (h3 : (tok.kind == 3) = false) (h4 : (tok.kind == 4) = false) (h5 : (tok.kind == 5) = false) (h6 : (tok.kind == 6) = false)
    (new : Led) (hx : OSign new (Value.ref tp) (false, [(⟨#[tok.chars.headD 0]⟩, ⟨#[tok.chars.headD 0]⟩)])) (hd1 : ∀ p ∈ new, p.1 ≠ Lr) (hd2 : ∀ p ∈ new, p.1 ≠ bl) : RdI whole fin (pre ++ [tok.chars.headD 0]) r held fr (cur ++ [(false, [(⟨#[tok.chars.headD 0]⟩, ⟨#[tok.chars.headD 0]⟩)])]) Lr bl refs (cvs ++ [.ref tp]) (new ++ rest) := by
  obtain ⟨cs, x, rfl, rfl, _, hs⟩ := kind_sg I.ok h1 h2 h3
  obtain ⟨c, _, rfl, rfl⟩ := kind_8 hs h4 h5 h6
  exact I.sg new hx hd1 hd2
structure RdSet (whole : List Nat) (fin : List (List Sign)) (pre : List Nat) (r : List RTok) (held : Bool) (fr : List (List Sign)) (cur : List Sign) (Lr bl : Addr) (refs cvs : List Value) (rest : Led) (sg ws : List Nat) (x : Sign) : Prop where
  I : RdI whole fin pre (.sg (91 :: (sg ++ [93])) x :: r) held fr cur Lr bl refs cvs rest
  len : (S whole).length = pre.length + (1 + sg.length + 1 + (rchars r).length) + 3
  shut : Builtin.Str.occurrences (S whole) (⟨#[93]⟩ : Str) ((pre.length : Int)).toNat (S whole).length 1 = [pre.length + (1 + sg.length)]
  cut : Txt.slice (S whole) (some ((pre.length : Int) + 1)) (some ((pre.length + (1 + sg.length) : Nat) : Int)) = S sg
  w2 : sg.length ≤ 3
  w3 : ((Txt.slice (S sg) none (some 1)).cps.toList == (Str.ofString "^").cps.toList) = x.1
  w4 : x.1 = true → Txt.slice (S sg) (some 1) none = S ws
  w5 : x.1 = false → sg = ws
  w6 : ws.length ≤ 3
  t1 : ((S ws).cps.toList == (Str.ofString "").cps.toList || ((Txt.slice (S ws) (some 1) (some 2)).cps.toList == (Str.ofString "-").cps.toList && decide ((Txt.slice (S ws) (some 2) none).cps.toList < (Txt.slice (S ws) none (some 1)).cps.toList))) = false
  dash : ((Txt.slice (S ws) (some 1) (some 2)).cps.toList == (Str.ofString "-").cps.toList) = true → x.2 = [(Txt.slice (S ws) none (some 1), Txt.slice (S ws) (some 2) none)]
  plain : ((Txt.slice (S ws) (some 1) (some 2)).cps.toList == (Str.ofString "-").cps.toList) = false → x.2 = ws.map (fun c => (S [c], S [c]))
theorem RdI.set (I : RdI whole fin pre (tok :: r) held fr cur Lr bl refs cvs rest) (hk : (tok.kind == 6) = true) : ∃ sg ws x, RdSet whole fin pre r held fr cur Lr bl refs cvs rest sg ws x := by
  cases tok with
  | sg cs x =>
    obtain ⟨sg, ws, rfl, hw1, hwsg, hw3, hw4, hw5, hwsl, hw6, hw7⟩ := kind_6 I.ok.2.2 hk
    have hsl : (S whole).length = pre.length + (1 + sg.length + 1 + (rchars r).length) + 3 := by rw [S_len, I.len]; simp [RTok.chars]; omega
    refine ⟨sg, ws, x, I, hsl, ?_, ?_, hwsg, hw3, hw4, hw5, hwsl, ?_, ?_, ?_⟩
    · rw [Int.toNat_natCast, I.len, show pre ++ ((RTok.sg (91 :: (sg ++ [93])) x).chars ++ (rchars r ++ [41, 92, 90])) = pre ++ ((91 :: sg) ++ (93 :: (rchars r ++ [41, 92, 90]))) by simp [RTok.chars]]
      rw [occ_one pre (91 :: sg) (rchars r ++ [41, 92, 90]) 93 (by simp [hw1])]; simp; omega
    · rw [I.len, show pre ++ ((RTok.sg (91 :: (sg ++ [93])) x).chars ++ (rchars r ++ [41, 92, 90])) = (pre ++ [91]) ++ (sg ++ (93 :: (rchars r ++ [41, 92, 90]))) by simp [RTok.chars]]
      exact cut_mid _ _ _ _ _ (by simp) (by simp; omega)
    · rw [hw6]
      rcases hw7 with q | q
      · rw [q.1]; rfl
      · rw [q.2.1, Bool.and_false]; rfl
    · intro hd
      rcases hw7 with q | q
      · rw [q.1] at hd; cases hd
      · exact q.2.2
    · intro hd
      rcases hw7 with q | q
      · exact q.2
      · rw [q.1] at hd; cases hd
  | _ => cases hk
structure RdT' (whole pre : List Nat) (held : Bool) (tok : RTok) : Prop where
  t1 : ((Txt.slice (S whole) (some (pre.length : Int)) (some ((pre.length : Int) + 6))).cps.toList == (Str.ofString "(?>.*?").cps.toList && !held) = (tok.kind == 1)
  t2 : (held && ((Txt.slice (S whole) (some (pre.length : Int)) (some ((pre.length : Int) + 3))).cps.toList == (Str.ofString ").*").cps.toList || (Txt.slice (S whole) (some (pre.length : Int)) (some ((pre.length : Int) + 4))).cps.toList == (Str.ofString ")(?>").cps.toList)) = (tok.kind == 2)
  t3 : ((Txt.slice (S whole) (some (pre.length : Int)) (some ((pre.length : Int) + 2))).cps.toList == (Str.ofString ".*").cps.toList && !held) = (tok.kind == 3)
  t4 : ((Txt.slice (S whole) (some (pre.length : Int)) (some ((pre.length : Int) + 4))).cps.toList == (Str.ofString "(?!)").cps.toList) = (tok.kind == 4)
  t5 : (tok.kind == 3) = false → ((⟨#[tok.chars.headD 0]⟩ : Str).cps.toList == (Str.ofString ".").cps.toList) = (tok.kind == 5)
  t6 : ((⟨#[tok.chars.headD 0]⟩ : Str).cps.toList == (Str.ofString "[").cps.toList && !(Builtin.Str.occurrences (Txt.slice (S whole) (some (pre.length : Int)) none) (Str.ofString "]") 0 (Txt.slice (S whole) (some (pre.length : Int)) none).length 1).isEmpty) = (tok.kind == 6)
  t7 : (tok.kind == 1) = false → (tok.kind == 2) = false → (tok.kind == 3) = false → (tok.kind == 4) = false → (tok.kind == 5) = false → (tok.kind == 6) = false → (!(Builtin.Str.occurrences (Str.ofString "()*+?[]{}|^$\\") ⟨#[tok.chars.headD 0]⟩ 0 (Str.ofString "()*+?[]{}|^$\\").length 1).isEmpty) = false
  hat : (tok.kind == 1) = false → (tok.kind == 2) = false → (tok.kind == 3) = false → (S whole).cps[pre.length]? = some (tok.chars.headD 0)
theorem RdI.tests (I : RdI whole fin pre (tok :: r) held fr cur Lr bl refs cvs rest) : RdT' whole pre held tok := by
  obtain ⟨t1, t2, t3, t4, t5, t6⟩ := rd_tests I.ok
  have c6 : Txt.slice (S whole) (some (pre.length : Int)) (some ((pre.length : Int) + 6)) = S ((tok.chars ++ (rchars r ++ [41, 92, 90])).take 6) := by rw [I.len]; exact cutk _ _ 6 rfl rfl
  have c4 : Txt.slice (S whole) (some (pre.length : Int)) (some ((pre.length : Int) + 4)) = S ((tok.chars ++ (rchars r ++ [41, 92, 90])).take 4) := by rw [I.len]; exact cutk _ _ 4 rfl rfl
  have c3 : Txt.slice (S whole) (some (pre.length : Int)) (some ((pre.length : Int) + 3)) = S ((tok.chars ++ (rchars r ++ [41, 92, 90])).take 3) := by rw [I.len]; exact cutk _ _ 3 rfl rfl
  have c2 : Txt.slice (S whole) (some (pre.length : Int)) (some ((pre.length : Int) + 2)) = S ((tok.chars ++ (rchars r ++ [41, 92, 90])).take 2) := by rw [I.len]; exact cutk _ _ 2 rfl rfl
  refine ⟨by rw [c6]; exact t1, by rw [c3, c4]; exact t2, by rw [c2]; exact t3, by rw [c4]; exact t4, t5, ?_, fun h1 h2 h3 h4 h5 h6 => ?_, fun h1 h2 h3 => ?_⟩
  · rw [t6]
    cases h6 : tok.kind == 6 with
    | false => rfl
    | true =>
      obtain ⟨sg, ws, x, J⟩ := I.set h6
      rw [show Str.ofString "]" = (⟨#[93]⟩ : Str) from rfl, J.I.len, cut_from, StrLaws.found_one]
      simp [RTok.chars]
  · obtain ⟨cs, x, rfl, rfl, _, hs⟩ := kind_sg I.ok h1 h2 h3
    obtain ⟨c, hc, rfl, rfl⟩ := kind_8 hs h4 h5 h6
    have e : (⟨#[(RTok.sg [c] (false, [(S [c], S [c])])).chars.headD 0]⟩ : Str) = ⟨#[c]⟩ := rfl
    rw [e, StrLaws.found_one]
    simp only [List.mem_cons, List.not_mem_nil, or_false] at hc
    rcases hc with rfl | rfl | rfl | rfl <;> decide
  · obtain ⟨cs, x, rfl, rfl, _, hs⟩ := kind_sg I.ok h1 h2 h3
    rw [I.len, S_get]
    have := hs.ne
    cases cs with
    | nil => exact absurd rfl this
    | cons c cs => simp [RTok.chars]
theorem rd_next {h₀ h' : Heap} {L : Addr} {s : Shared} {Q : Flow → Shared → Prop} {m : Str → Option Value} {news : Led} {tt t : Tok} {tk k k' n : Nat} {toks : List RTok} {z : Int} (F : Fr h₀ L h' m) (N : News h₀ L h' news) (I : RdI whole fin pre toks held fr cur Lr bl refs cvs rest) (hs : ∀ p ∈ rdLed Lr bl refs cvs k k' rest, p ∈ news) (hn : toks.length < n)
   (g1 : m (Str.ofString "text") = some (.str (S whole) tt)) (g2 : m (Str.ofString "runs") = some (.ref Lr)) (g3 : m (Str.ofString "held") = some (.bool held)) (g4 : m (Str.ofString "at") = some (.int z t)) (hz : z = (pre.length : Int)) : WhileStep2 h₀ L s (RdJ whole tt fin) Q n .next { s with heap := h', toks := tk } :=
  ⟨_, _, _, _, _, rfl, F, News.sub N hs, hn, _, _, _, _, _, _, _, _, _, _, _, _, _, I, rfl, rfl, g1, g2, g3, hz ▸ g4⟩
end
theorem ro_eq {α : Type} {R : Value → α → Prop} {vs : List Value} {xs ys : List α} (e : ys = xs) (h : RO R vs xs) : RO R vs ys := e ▸ h
theorem mem_swap2 {a b p : Addr × Obj} {r : Led} (h : p ∈ a :: b :: r) : p ∈ b :: a :: r := (List.Perm.swap b a r).mem_iff.mp h
theorem ite_e {b b' : Bool} {X Y : Prop} (e : b = b') (h1 : b' = true → X) (h2 : b' = false → Y) : if b = true then X else Y := by
  subst e
  cases b with
  | true => exact h1 rfl
  | false => exact h2 rfl
theorem read_spec {w : World} {A : Around} {s : Shared} {Q E : Value → Shared → Prop} {p : Program} {loose : List Str} {mg mb : Str → Option Value}
   (X : (Mine.heap_39 w.params).In s.heap) (T : TopRead p loose mg mb s.heap) (hroom : A.depth + 8 < recursionLimit) (hun : A.units + 200 < cLine) (hh : A.handled = none)
   (ts : List RTok) (hok : ROk false ts) (hlen : (rchars ts).length < 10000) {tt : Tok}
   (hQ : ∀ h' tk' (a : Addr) (O : Led), Pres s.heap h' → (∀ p ∈ O, h'.get? p.1 = some p.2 ∧ s.heap.get? p.1 = none) → ORuns O (.ref a) (readGo ts [] []) → Q (.ref a) {s with heap := h', toks := tk'}) :
  wpAny (model PySem.Challenge.rw_ij0038_01.row.prog w) A (call (.ref 134) [.str (S ([40, 63, 115, 58] ++ (rchars ts ++ [41, 92, 90]))) tt]) Q E s := by
  generalize hwh : [40, 63, 115, 58] ++ (rchars ts ++ [41, 92, 90]) = whole
  have hwl : (S whole).length = (rchars ts).length + 7 := by rw [S_len, ← hwh]; simp
  have hsz : (S whole).length ≤ sizeLine := by rw [hwl, sizeLine_eq]; omega
  obtain ⟨g, gs, dr, tk₀, os⟩ := s
  refine' enter_go (K := Mine.heap_39 w.params) X T.nolimit ?r ?ho ?hcd ?hb ?hl ?hc ?_ ?c2 ?c3 ?c4
  case r => omega
  case ho => k_is
  case hcd => k_is
  case hb => exact BindsTo.of_eq rfl
  case hl => ((intro y hy; with_unfolding_all (repeat (first | exact absurd hy List.not_mem_nil | (rcases List.mem_cons.mp hy with hy | hy; (subst hy; rfl))))))
  case hc => decide +kernel
  case c2 => rfl
  case c3 => rfl
  case c4 => rfl
  clear hroom hun
  intro h₁ tk₁ A1 L m0 R _ _ a3 hR hm F N
  have hh : A1.handled = none := a3.trans hh
  have g0 : m0 (Str.ofString "text") = some (.str (S whole) tt) := by rw [hm]; rfl
  clear hm a3
  have hQ : ∀ h' tk' (a : Addr) (O : Led), Pres g h' → (∀ p ∈ O, h'.get? p.1 = some p.2 ∧ g.get? p.1 = none) → ORuns O (.ref a) (readGo ts [] []) → R (.ret (.ref a)) ⟨h', gs, dr, tk', os⟩ := fun h' tk' a O x y z => hR _ _ (hQ h' tk' a O x y z)
  clear hR
  (with_reducible refine execs_k ?_); refine' exec_if (by k_asm) (by k_asm) (by refine' PT.or (by refine' PT.cmpS (by refine' PE.slNS (by refine' PE.nameS ⟨rfl, rfl, by decide⟩ (by k_all)) (PE.int) (by k_all)) (PE.str) (by rfl) (by with_unfolding_all rfl)) (by intro _; refine' PT.cmpS (by refine' PE.slSN (by refine' PE.nameS ⟨rfl, rfl, by decide⟩ (by k_all)) (by refine' PE.neg (PE.int)) (by k_all)) (PE.str) (by rfl) (by with_unfolding_all rfl))) ?_; refine At.any ?_; intro h9 k9 F9 N9
  have e1 : Txt.slice (S whole) none (some 4) = S [40, 63, 115, 58] := by rw [← hwh]; exact cuth _ _ rfl
  have e2 : Txt.slice (S whole) (some (-3)) none = S [41, 92, 90] := by rw [← hwh, ← List.append_assoc]; exact cutl _ _ (by simp) rfl
  refine ite_ff (by rw [e1, e2]; rfl) ?_
  clear e1 e2
  (with_reducible refine wpAny_execs_nil ?_); (with_reducible refine Kx_next ?_); (with_reducible refine execs_k ?_); (with_reducible refine' wpAny_Assign_Name ?_ ?q56); (case q56 => rfl); refine PyProof.Rows.List_ ?_; (with_reducible refine' spliced_more ?_ ?q57); (case q57 => rfl); refine PyProof.Rows.List_ ?_; (with_reducible refine spliced_none ?_); refine' newList_P (by k_asm) (by k_asm) ?_ (Nat.le_of_ble_eq_true rfl); intro l9 h9 F9 N9 m9; replace m9 := allLt_of m9; simp only [AllLt, and_true] at m9; walk_at "d"; (with_reducible refine spliced_none ?_); refine' newList_P (by k_asm) (by k_asm) ?_ (Nat.le_of_ble_eq_true rfl); intro l9 h9 F9 N9 m9; replace m9 := ltk1 m9; walk_at "d"; refine' storeX_L (by k_asm) (by k_asm) ?_ (by rfl) (by rfl); intro h9 F9 N9; walk_at "d"; (with_reducible refine Kx_next ?_); (with_reducible refine execs_k ?_); (with_reducible refine' wpAny_Assign_Name ?_ ?q58); (case q58 => rfl); (with_reducible refine wpAny_Constant_bool ?_); refine' storeX_L (by k_asm) (by k_asm) ?_ (by rfl) (by rfl); intro h9 F9 N9; walk_at "d"; (with_reducible refine Kx_next ?_); (with_reducible refine execs_k ?_); refine' exec_asg (by k_asm) (by k_asm) (PE.int) (by rfl) (by rfl) (by rfl) ?_; intro h9 k9; (with_reducible (refine PV.all_i ?_; intro t9)); intro F9 N9; (with_reducible refine Kx_next ?_); with_reducible refine execs_k ?_
  rename Fr _ _ _ _ => Fa
  rename News _ _ _ _ => Na
  obtain ⟨Lr, e_Na0⟩ := ledN0 Na
  subst e_Na0
  obtain ⟨bl, e_Na1⟩ := ledN1 Na
  subst e_Na1
  refine While_inv2 (RdJ whole tt (readGo ts [] [])) (n₀ := ts.length) Fa Na ?w0 ?wt
  case w0 => exact ⟨[40, 63, 115, 58], ts, false, [], [], Lr, bl, [], [], _, _, [], _, ⟨hwh.symm, hok, rfl, trivial, trivial, fun _ h => absurd h List.not_mem_nil, fun _ h => absurd h List.not_mem_nil, by omega, by simp, by simp⟩, rfl, rfl, by with_reducible exact upd_off (by decide) (upd_miss (by decide) (upd_miss (by decide) (by assumption))), by with_reducible exact upd_off (by decide) (upd_miss (by decide) upd_hit), by with_reducible exact upd_off (by decide) upd_hit, by rfl⟩
  case wt =>
    clear Fa Na F N
    rintro n m₂ news₂ h₂ tk₂ F N ⟨pre, toks, held, fr, cur, Lr, bl, refs, cvs, k, k', rest, t, I, rfl, rfl, g1, g2, g3, g4⟩
    have hwl2 : (S whole).length = pre.length + (rchars toks).length + 3 := by rw [S_len, I.sp]; simp; omega
    refine' pt_test (by k_asm) (by k_asm) (by refine' PT.cmpI (by refine' PE.nameI ⟨rfl, rfl, by decide⟩ (by k_all)) (by refine' PE.sub (by refine' PE.lenS (by refine' PE.lenB (by k_asm) (by k_asm) ⟨rfl, rfl⟩ (by k_is)) (by refine' PE.nameS ⟨rfl, rfl, by decide⟩ (by k_all)) (by omega) rfl) (PE.int)) (by rfl) (by with_unfolding_all rfl)) ?_; refine At.same rfl ?_; intro k9
    refine ite_d (fun hlt => ?_) (fun hge => ?_)
    case refine_2 =>
      have : toks = [] := rchars_nil I.ok (by omega)
      subst this
      have hheld : held = false := I.ok
      subst hheld
      walk_at "d"; (with_reducible refine Kx_next ?_); (with_reducible refine execs_1 ?_); (with_reducible refine wpAny_Return_some ?_); (with_reducible refine wpAny_IfExp ?_); refine' pt_test (by k_asm) (by k_asm) (by refine' PT.nameB ⟨rfl, rfl, by decide⟩ (by k_all)) ?_; refine At.same rfl ?_; intro k9; (with_reducible refine ite_f ?_); refine' nameX_L (by k_asm) (by k_all) ?_ (by rfl) (by rfl) (by decide)
      rename News _ _ _ _ => Ne
      refine hQ _ _ Lr _ (by (exact Fr.keep (by k_asm))) (fun p hp => ⟨(Ne p hp).1, (Ne p hp).2.2⟩) ?_
      rw [← I.go]
      have kk : ∀ p ∈ rest, p ∈ rdLed Lr bl refs cvs k k' rest := fun _ h => .tail _ (.tail _ h)
      exact ⟨Lr, refs ++ [.ref bl], rfl, ⟨_, .head _⟩, RO.snoc ⟨bl, cvs, rfl, ⟨_, .tail _ (.head _)⟩, I.cu.imp fun _ _ => OSign.sub kk⟩ (I.fr.imp fun _ _ => ORun.sub kk)⟩
    clear hQ
    refine wp_opq fun R hR => ?_
    cases toks with
    | nil => simp [rchars] at hwl2; omega
    | cons tok r =>
    have hlen2 : pre.length < 20000 := by omega
    have h62 : pre.length < 2 ^ 62 := Nat.lt_trans hlen2 (by decide)
    have T' := I.tests
    have hz1 := I.z1
    have hz2 := I.z2
    have hr1 := I.r1
    have hr2 := I.r2
    have hne := I.ne
    clear hlt
    (with_reducible refine execs_1 ?_); refine' exec_if (by k_asm) (by k_asm) (by refine' PT.and (by refine' PT.cmpS (by refine' PE.slSS (by refine' PE.nameS ⟨rfl, rfl, by decide⟩ (by k_all)) (by refine' PE.nameI ⟨rfl, rfl, by decide⟩ (by k_all)) (by refine' PE.add (by refine' PE.nameI ⟨rfl, rfl, by decide⟩ (by k_all)) (PE.int)) (by k_all)) (PE.str) (by rfl) (by with_unfolding_all rfl)) (by intro _; refine' PT.not (by refine' PT.nameB ⟨rfl, rfl, by decide⟩ (by k_all)))) ?_; refine At.any ?_; intro h9 k9 F9 N9
    refine ite_e T'.t1 (fun h1 => ?_) (fun h1 => ?_)
    · walk_at "d"; (with_reducible refine execs_k ?_); refine wpAny_Expr_any ?_; (with_reducible refine' PyProof.Rows.MethodCall_ ?_ ?q59); (case q59 => rfl); refine' nameX_L (by k_asm) (by k_all) ?_ (by rfl) (by rfl) (by decide); refine' getMethod_append_N (by k_asm) (by k_mem) ?_ (by rfl) (by rfl); walk_at "d"; (with_reducible refine' PyProof.Rows.callWith_method1 ?_ ?q60 ?q61); (case q60 => rfl); (case q61 => rfl); walk_at "d"; (with_reducible refine' spliced_more ?_ ?q62); (case q62 => rfl); refine PyProof.Rows.List_ ?_; (with_reducible refine spliced_none ?_); refine' newList_P (by k_asm) (by k_asm) ?_ (Nat.le_of_ble_eq_true rfl); intro l9 h9 F9 N9 m9; replace m9 := allLt_of m9; simp only [AllLt, and_true] at m9; walk_at "d"; (with_reducible refine spliced_none ?_); refine' append_K (by k_asm) (by k_asm) (by refine' Upd.tail (by refine neN ?_; dsimp only; with_reducible exact rq0 (by k_all)) (by refine' Upd.head (by refine List.forall_mem_cons.mpr ⟨by with_reducible exact Ne.symm (by k_all), ?_⟩; with_reducible assumption))) ?_ (by first | (simp only [sizeLine_eq, List.size_toArray, List.length_append, List.length_cons, List.length_nil]; omega) | size_fits); intro h9 F9 N9; simp only [List.push_toArray, List.nil_append, List.cons_append] at N9; walk_at "d"; (with_reducible refine Kx_next ?_); (with_reducible refine execs_k ?_); (with_reducible refine' wpAny_Assign_Name ?_ ?q63); (case q63 => rfl); (with_reducible refine wpAny_Constant_bool ?_); refine' storeX_L (by k_asm) (by k_asm) ?_ (by rfl) (by rfl); intro h9 F9 N9; walk_at "d"; (with_reducible refine Kx_next ?_); (with_reducible refine execs_1 ?_); refine' exec_aug (by k_asm) (by k_asm) (by with_reducible exact upd_miss (by decide) (by assumption)) (PE.int) (by rfl) (by rfl) ?_; intro h9 k9 t9 F9 N9
      rename Fr _ _ _ _ => Fe
      rename News _ _ _ _ => Ne
      rename @LT.lt Nat _ Lr _ ∧ @LT.lt Nat _ bl _ ∧ AllLt _ rest => hA
      exact hR _ _ <| rd_next Fe Ne (I.opn h1 (Nat.ne_of_gt hA.1) (allLt_ne hA.2.2) (Nat.ne_of_lt hA.2.1)) (fun p hp => mem_swap2 hp) (Nat.lt_succ_self _) (by with_reducible exact upd_off (by decide) (upd_miss (by decide) (by assumption))) (by with_reducible exact upd_off (by decide) (upd_miss (by decide) (by assumption))) (by with_reducible exact upd_off (by decide) upd_hit) (by with_reducible exact upd_at) (by simp)
    (with_reducible refine execs_1 ?_); refine' exec_if (by k_asm) (by k_asm) (by refine' PT.and (by refine' PT.nameB ⟨rfl, rfl, by decide⟩ (by k_all)) (by intro _; refine' PT.or (by refine' PT.cmpS (by refine' PE.slSS (by refine' PE.nameS ⟨rfl, rfl, by decide⟩ (by k_all)) (by refine' PE.nameI ⟨rfl, rfl, by decide⟩ (by k_all)) (by refine' PE.add (by refine' PE.nameI ⟨rfl, rfl, by decide⟩ (by k_all)) (PE.int)) (by k_all)) (PE.str) (by rfl) (by with_unfolding_all rfl)) (by intro _; refine' PT.cmpS (by refine' PE.slSS (by refine' PE.nameS ⟨rfl, rfl, by decide⟩ (by k_all)) (by refine' PE.nameI ⟨rfl, rfl, by decide⟩ (by k_all)) (by refine' PE.add (by refine' PE.nameI ⟨rfl, rfl, by decide⟩ (by k_all)) (PE.int)) (by k_all)) (PE.str) (by rfl) (by with_unfolding_all rfl)))) ?_; refine At.any ?_; intro h9 k9 F9 N9
    refine ite_e T'.t2 (fun h2 => ?_) (fun h2 => ?_)
    · walk_at "d"; (with_reducible refine execs_k ?_); (with_reducible refine' wpAny_Assign_Name ?_ ?q64); (case q64 => rfl); (with_reducible refine wpAny_Constant_bool ?_); refine' storeX_L (by k_asm) (by k_asm) ?_ (by rfl) (by rfl); intro h9 F9 N9; walk_at "d"; (with_reducible refine Kx_next ?_); (with_reducible refine execs_1 ?_); refine' exec_aug (by k_asm) (by k_asm) (by with_reducible exact upd_miss (by decide) (by assumption)) (PE.int) (by rfl) (by rfl) ?_; intro h9 k9 t9 F9 N9
      rename Fr _ _ _ _ => Fe
      rename News _ _ _ _ => Ne
      exact hR _ _ <| rd_next Fe Ne (I.cls h2) (fun p hp => hp) (Nat.lt_succ_self _) (by with_reducible exact upd_off (by decide) (upd_miss (by decide) (by assumption))) (by with_reducible exact upd_off (by decide) (upd_miss (by decide) (by assumption))) (by with_reducible exact upd_off (by decide) upd_hit) (by with_reducible exact upd_at) (by simp)
    (with_reducible refine execs_1 ?_); refine' exec_if (by k_asm) (by k_asm) (by refine' PT.and (by refine' PT.cmpS (by refine' PE.slSS (by refine' PE.nameS ⟨rfl, rfl, by decide⟩ (by k_all)) (by refine' PE.nameI ⟨rfl, rfl, by decide⟩ (by k_all)) (by refine' PE.add (by refine' PE.nameI ⟨rfl, rfl, by decide⟩ (by k_all)) (PE.int)) (by k_all)) (PE.str) (by rfl) (by with_unfolding_all rfl)) (by intro _; refine' PT.not (by refine' PT.nameB ⟨rfl, rfl, by decide⟩ (by k_all)))) ?_; refine At.any ?_; intro h9 k9 F9 N9
    refine ite_e T'.t3 (fun h3 => ?_) (fun h3 => ?_)
    · walk_at "d"; (with_reducible refine execs_k ?_); refine wpAny_Expr_any ?_; (with_reducible refine' PyProof.Rows.MethodCall_ ?_ ?q65); (case q65 => rfl); refine' nameX_L (by k_asm) (by k_all) ?_ (by rfl) (by rfl) (by decide); refine' getMethod_append_N (by k_asm) (by k_mem) ?_ (by rfl) (by rfl); walk_at "d"; (with_reducible refine' PyProof.Rows.callWith_method1 ?_ ?q66 ?q67); (case q66 => rfl); (case q67 => rfl); walk_at "d"; (with_reducible refine' spliced_more ?_ ?q68); (case q68 => rfl); refine PyProof.Rows.List_ ?_; (with_reducible refine spliced_none ?_); refine' newList_P (by k_asm) (by k_asm) ?_ (Nat.le_of_ble_eq_true rfl); intro l9 h9 F9 N9 m9; replace m9 := allLt_of m9; simp only [AllLt, and_true] at m9; walk_at "d"; (with_reducible refine spliced_none ?_); refine' append_K (by k_asm) (by k_asm) (by refine' Upd.tail (by refine neN ?_; dsimp only; with_reducible exact rq0 (by k_all)) (by refine' Upd.head (by refine List.forall_mem_cons.mpr ⟨by with_reducible exact Ne.symm (by k_all), ?_⟩; with_reducible assumption))) ?_ (by first | (simp only [sizeLine_eq, List.size_toArray, List.length_append, List.length_cons, List.length_nil]; omega) | size_fits); intro h9 F9 N9; simp only [List.push_toArray, List.nil_append, List.cons_append] at N9; walk_at "d"; (with_reducible refine Kx_next ?_); (with_reducible refine execs_1 ?_); refine' exec_aug (by k_asm) (by k_asm) (by k_all) (PE.int) (by rfl) (by rfl) ?_; intro h9 k9 t9 F9 N9
      rename Fr _ _ _ _ => Fe
      rename News _ _ _ _ => Ne
      rename @LT.lt Nat _ Lr _ ∧ @LT.lt Nat _ bl _ ∧ AllLt _ rest => hA
      exact hR _ _ <| rd_next Fe Ne (I.star h3 (Nat.ne_of_gt hA.1) (allLt_ne hA.2.2) (Nat.ne_of_lt hA.2.1)) (fun p hp => mem_swap2 hp) (Nat.lt_succ_self _) (by with_reducible exact upd_off (by decide) (by assumption)) (by with_reducible exact upd_off (by decide) (by assumption)) (by with_reducible exact upd_off (by decide) (by assumption)) (by with_reducible exact upd_at) (by simp)
    have hlastr : (refs ++ [Value.ref bl]).getLast? = some (.ref bl) := by simp
    have hat := T'.hat h1 h2 h3
    (with_reducible refine execs_1 ?_); refine' exec_if (by k_asm) (by k_asm) (by refine' PT.cmpS (by refine' PE.slSS (by refine' PE.nameS ⟨rfl, rfl, by decide⟩ (by k_all)) (by refine' PE.nameI ⟨rfl, rfl, by decide⟩ (by k_all)) (by refine' PE.add (by refine' PE.nameI ⟨rfl, rfl, by decide⟩ (by k_all)) (PE.int)) (by k_all)) (PE.str) (by rfl) (by with_unfolding_all rfl)) ?_; refine At.any ?_; intro h9 k9 F9 N9
    refine ite_e T'.t4 (fun h4 => ?_) (fun h4 => ?_)
    · walk_at "d"; (with_reducible refine execs_k ?_); refine wpAny_Expr_any ?_; (with_reducible refine' PyProof.Rows.MethodCall_ ?_ ?q69); (case q69 => rfl); refine' pe_eval (by k_asm) (by k_asm) (by refine' PE.itemZ (by refine' PE.name ⟨rfl, rfl, by decide⟩ (by k_all)) (Px.lst_new (by k_mem)) (by assumption) (by simp only [List.length_append, List.length_cons, List.length_nil]; omega)) ?_; refine At.same rfl ?_; intro k9; (with_reducible refine PV.all_v ?_); refine' getMethod_append_N (by k_asm) (by k_mem) ?_ (by rfl) (by rfl); walk_at "d"; (with_reducible refine' PyProof.Rows.callWith_method1 ?_ ?q70 ?q71); (case q70 => rfl); (case q71 => rfl); walk_at "d"; (with_reducible refine' spliced_more ?_ ?q72); (case q72 => rfl); refine PyProof.Rows.Tuple_ ?_; (with_reducible refine' spliced_more ?_ ?q73); (case q73 => rfl); (with_reducible refine wpAny_Constant_bool ?_); (with_reducible refine' spliced_more ?_ ?q74); (case q74 => rfl); refine PyProof.Rows.List_ ?_; (with_reducible refine spliced_none ?_); refine' newList_P (by k_asm) (by k_asm) ?_ (Nat.le_of_ble_eq_true rfl); intro l9 h9 F9 N9 m9; replace m9 := allLt_of m9; simp only [AllLt, and_true] at m9; walk_at "d"; (with_reducible refine spliced_none ?_); refine' newTuple_P ?q75 ?q76 ?_ ?q77; (case q75 => k_asm); (case q76 => k_asm); (case q77 => exact Nat.le_of_ble_eq_true rfl); intro l9 h9 F9 N9 m9; replace m9 := allLt_of m9; simp only [AllLt, and_true] at m9; walk_at "d"; (with_reducible refine spliced_none ?_); refine' append_K (by k_asm) (by k_asm) (by refine' Upd.tail (by refine neN ?_; dsimp only; with_reducible exact rq2 (by k_all)) (by refine' Upd.tail (by refine neN ?_; dsimp only; with_reducible exact rq1 (by k_all)) (by refine' Upd.tail (by k_all) (by refine' Upd.head (by k_all))))) ?_ (by first | (simp only [sizeLine_eq, List.size_toArray, List.length_append, List.length_cons, List.length_nil]; omega) | size_fits); intro h9 F9 N9; simp only [List.push_toArray, List.nil_append, List.cons_append] at N9; walk_at "d"; (with_reducible refine Kx_next ?_); (with_reducible refine execs_1 ?_); refine' exec_aug (by k_asm) (by k_asm) (by k_all) (PE.int) (by rfl) (by rfl) ?_; intro h9 k9 t9 F9 N9
      rename Fr _ _ _ _ => Fe
      rename News _ _ _ _ => Ne
      exact hR _ _ <| rd_next Fe Ne (I.never h4 [(_, _), (_, _)] ⟨_, _, [], rfl, .head _, ⟨_, .tail _ (.head _)⟩, trivial⟩ (ne_two (by (refine neN ?_; with_reducible exact rq1 (by k_all))) (by (refine neN ?_; with_reducible exact rq0 (by k_all)))) (ne_two (by (refine neN ?_; with_reducible exact rq2 (by k_all))) (by (refine neN ?_; with_reducible exact rq1 (by k_all))))) (fun p hp => sub_app [(_, _), (_, _)] hp) (Nat.lt_succ_self _) (by with_reducible exact upd_off (by decide) (by assumption)) (by with_reducible exact upd_off (by decide) (by assumption)) (by with_reducible exact upd_off (by decide) (by assumption)) (by with_reducible exact upd_at) (by simp)
    (with_reducible refine execs_1 ?_); refine' exec_if (by k_asm) (by k_asm) (by refine' PT.cmpS (by refine' PE.chAt (by refine' PE.nameS ⟨rfl, rfl, by decide⟩ (by k_all)) (by refine' PE.nameI ⟨rfl, rfl, by decide⟩ (by k_all)) (by assumption) (by rfl) (by k_all) rfl) (PE.str) (by rfl) (by with_unfolding_all rfl)) ?_; refine At.same rfl ?_; intro k9
    refine ite_e (T'.t5 h3) (fun h5 => ?_) (fun h5 => ?_)
    · walk_at "d"; (with_reducible refine execs_k ?_); refine wpAny_Expr_any ?_; (with_reducible refine' PyProof.Rows.MethodCall_ ?_ ?q78); (case q78 => rfl); refine' pe_eval (by k_asm) (by k_asm) (by refine' PE.itemZ (by refine' PE.name ⟨rfl, rfl, by decide⟩ (by k_all)) (Px.lst_new (by k_mem)) (by assumption) (by simp only [List.length_append, List.length_cons, List.length_nil]; omega)) ?_; refine At.same rfl ?_; intro k9; (with_reducible refine PV.all_v ?_); refine' getMethod_append_N (by k_asm) (by k_mem) ?_ (by rfl) (by rfl); walk_at "d"; (with_reducible refine' PyProof.Rows.callWith_method1 ?_ ?q79 ?q80); (case q79 => rfl); (case q80 => rfl); walk_at "d"; (with_reducible refine' spliced_more ?_ ?q81); (case q81 => rfl); refine PyProof.Rows.Tuple_ ?_; (with_reducible refine' spliced_more ?_ ?q82); (case q82 => rfl); (with_reducible refine wpAny_Constant_bool ?_); (with_reducible refine' spliced_more ?_ ?q83); (case q83 => rfl); refine PyProof.Rows.List_ ?_; (with_reducible refine spliced_none ?_); refine' newList_P (by k_asm) (by k_asm) ?_ (Nat.le_of_ble_eq_true rfl); intro l9 h9 F9 N9 m9; replace m9 := allLt_of m9; simp only [AllLt, and_true] at m9; walk_at "d"; (with_reducible refine spliced_none ?_); refine' newTuple_P ?q84 ?q85 ?_ ?q86; (case q84 => k_asm); (case q85 => k_asm); (case q86 => exact Nat.le_of_ble_eq_true rfl); intro l9 h9 F9 N9 m9; replace m9 := allLt_of m9; simp only [AllLt, and_true] at m9; walk_at "d"; (with_reducible refine spliced_none ?_); refine' append_K (by k_asm) (by k_asm) (by refine' Upd.tail (by refine neN ?_; dsimp only; with_reducible exact rq2 (by k_all)) (by refine' Upd.tail (by refine neN ?_; dsimp only; with_reducible exact rq1 (by k_all)) (by refine' Upd.tail (by k_all) (by refine' Upd.head (by k_all))))) ?_ (by first | (simp only [sizeLine_eq, List.size_toArray, List.length_append, List.length_cons, List.length_nil]; omega) | size_fits); intro h9 F9 N9; simp only [List.push_toArray, List.nil_append, List.cons_append] at N9; walk_at "d"; (with_reducible refine Kx_next ?_); (with_reducible refine execs_1 ?_); refine' exec_aug (by k_asm) (by k_asm) (by k_all) (PE.int) (by rfl) (by rfl) ?_; intro h9 k9 t9 F9 N9
      rename Fr _ _ _ _ => Fe
      rename News _ _ _ _ => Ne
      exact hR _ _ <| rd_next Fe Ne (I.any h5 [(_, _), (_, _)] ⟨_, _, [], rfl, .head _, ⟨_, .tail _ (.head _)⟩, trivial⟩ (ne_two (by (refine neN ?_; with_reducible exact rq1 (by k_all))) (by (refine neN ?_; with_reducible exact rq0 (by k_all)))) (ne_two (by (refine neN ?_; with_reducible exact rq2 (by k_all))) (by (refine neN ?_; with_reducible exact rq1 (by k_all))))) (fun p hp => sub_app [(_, _), (_, _)] hp) (Nat.lt_succ_self _) (by with_reducible exact upd_off (by decide) (by assumption)) (by with_reducible exact upd_off (by decide) (by assumption)) (by with_reducible exact upd_off (by decide) (by assumption)) (by with_reducible exact upd_at) (by simp)
    (with_reducible refine execs_1 ?_); refine' exec_if (by k_asm) (by k_asm) (by refine' PT.and (by refine' PT.cmpS (by refine' PE.chAt (by refine' PE.nameS ⟨rfl, rfl, by decide⟩ (by k_all)) (by refine' PE.nameI ⟨rfl, rfl, by decide⟩ (by k_all)) (by assumption) (by rfl) (by k_all) rfl) (PE.str) (by rfl) (by with_unfolding_all rfl)) (by intro _; refine' PT.cmpS (PE.str) (by refine' PE.slSN (by refine' PE.nameS ⟨rfl, rfl, by decide⟩ (by k_all)) (by refine' PE.nameI ⟨rfl, rfl, by decide⟩ (by k_all)) (by k_all)) (by rfl) (by with_unfolding_all rfl))) ?_; refine At.any ?_; intro h9 k9 F9 N9
    refine ite_e T'.t6 (fun h6 => ?_) (fun h6 => ?_)
    · obtain ⟨sg, ws, x, J⟩ := I.set h6
      have hsl := J.len
      have hwsg := J.w2
      have hwsl := J.w6
      clear T' h1 h2 h3 h4 h5 h6 hat I
      walk_at "d"; (with_reducible refine execs_k ?_); (with_reducible refine' wpAny_Assign_Name ?_ ?q87); (case q87 => rfl); (with_reducible refine' PyProof.Rows.MethodCall_ ?_ ?q88); (case q88 => rfl); refine' nameX_L (by k_asm) (by k_all) ?_ (by rfl) (by rfl) (by decide); (with_reducible refine GM.find ?_); walk_at "d"; (with_reducible refine' PyProof.Rows.callWith_method1 ?_ ?q89 ?q90); (case q89 => rfl); (case q90 => rfl); walk_at "d"; (with_reducible refine' spliced_more ?_ ?q91); (case q91 => rfl); (with_reducible refine Calls.Constant_str ?_); walk_at "d"; (with_reducible refine' spliced_more ?_ ?q92); (case q92 => rfl); refine' nameX_L (by k_asm) (by k_all) ?_ (by rfl) (by rfl) (by decide); with_reducible refine spliced_none ?_
      refine find_from (pre.length + (1 + sg.length)) J.shut (by omega) ?_
      walk_at "d"; refine' storeX_L (by k_asm) (by k_asm) ?_ (by rfl) (by rfl); intro h9 F9 N9; walk_at "d"; with_reducible refine Kx_next ?_
      with_reducible refine execs_k ?_
      refine' exec_asg (r := .ss (S sg)) ?vF ?vN ?vp rfl rfl ?vs ?_
      case vF => k_asm
      case vN => k_asm
      case vs => rfl
      case vp =>
        refine' PE.eq ?xx (congrArg PV.ss J.cut); (case xx => refine' PE.slSS (by refine' PE.nameS ⟨rfl, rfl, by decide⟩ (by with_reducible exact upd_miss (by decide) (by assumption))) (by refine' PE.add (by refine' PE.nameI ⟨rfl, rfl, by decide⟩ (by with_reducible exact upd_miss (by decide) (by assumption))) (PE.int)) (by refine' PE.nameI ⟨rfl, rfl, by decide⟩ (by with_reducible exact upd_hit)) (by k_all))
      intro h' tk'
      with_reducible (refine PV.all_s ?_; intro t9)
      intro F' N'
      (try with_reducible refine Kx_next ?_)
      with_reducible refine execs_k ?_
      refine' exec_asg (r := .vv (.bool x.1)) ?vF ?vN ?vp rfl rfl ?vs ?_
      case vF => k_asm
      case vN => k_asm
      case vs => rfl
      case vp =>
        refine' PE.eq ?xx (congrArg (fun b => PV.vv (.bool b)) J.w3); (case xx => (refine' PE.cmpS (by refine' PE.slNS (by refine' PE.nameS ⟨rfl, rfl, by decide⟩ (by with_reducible exact upd_at)) (PE.int) (by simp only [S_len, sizeLine_eq, List.length_append, List.length_cons, List.length_nil]; omega)) (PE.str) (by rfl) (by with_unfolding_all rfl)))
      intro h' tk'
      with_reducible refine PV.all_v ?_
      intro F' N'
      (try with_reducible refine Kx_next ?_)
      with_reducible refine execs_k ?_
      refine' exec_asg (r := .ss (S ws)) ?vF ?vN ?vp rfl rfl ?vs ?_
      case vF => k_asm
      case vN => k_asm
      case vs => rfl
      case vp =>
        refine' PE.cond ?x1 (fun hb => PE.eq ?x2 (congrArg PV.ss (J.w4 hb))) (fun hb => PE.eq ?x3 (congrArg (fun l => PV.ss (S l)) (J.w5 hb))); (case x1 => refine' PT.nameB ⟨rfl, rfl, by decide⟩ (by with_reducible exact upd_at)); (case x2 => (refine' PE.slSN (by refine' PE.nameS ⟨rfl, rfl, by decide⟩ (by with_reducible exact upd_off (by decide) upd_at)) (PE.int) (by simp only [S_len, sizeLine_eq, List.length_append, List.length_cons, List.length_nil]; omega))); (case x3 => refine' PE.nameS ⟨rfl, rfl, by decide⟩ (by with_reducible exact upd_off (by decide) upd_at))
      intro h' tk'
      with_reducible (refine PV.all_s ?_; intro t9)
      intro F' N'
      (try with_reducible refine Kx_next ?_)
      (with_reducible refine execs_k ?_); refine' exec_if (by k_asm) (by k_asm) (by refine' PT.or (by refine' PT.cmpS (by refine' PE.nameS ⟨rfl, rfl, by decide⟩ (by with_reducible exact upd_at)) (PE.str) (by rfl) (by with_unfolding_all rfl)) (by intro _; refine' PT.and (by refine' PT.cmpS (by refine' PE.slSS (by refine' PE.nameS ⟨rfl, rfl, by decide⟩ (by with_reducible exact upd_at)) (PE.int) (PE.int) (by simp only [S_len, sizeLine_eq, List.length_append, List.length_cons, List.length_nil]; omega)) (PE.str) (by rfl) (by with_unfolding_all rfl)) (by intro _; refine' PT.cmpS (by refine' PE.slNS (by refine' PE.nameS ⟨rfl, rfl, by decide⟩ (by with_reducible exact upd_at)) (PE.int) (by simp only [S_len, sizeLine_eq, List.length_append, List.length_cons, List.length_nil]; omega)) (by refine' PE.slSN (by refine' PE.nameS ⟨rfl, rfl, by decide⟩ (by with_reducible exact upd_at)) (PE.int) (by simp only [S_len, sizeLine_eq, List.length_append, List.length_cons, List.length_nil]; omega)) (by rfl) (by with_unfolding_all rfl)))) ?_; refine At.any ?_; intro h9 k9 F9 N9
      refine ite_ff J.t1 ?_
      (with_reducible refine wpAny_execs_nil ?_); with_reducible refine Kx_next ?_
      (with_reducible refine execs_k ?_); refine' exec_if (by k_asm) (by k_asm) (by refine' PT.cmpS (by refine' PE.slSS (by refine' PE.nameS ⟨rfl, rfl, by decide⟩ (by with_reducible exact upd_at)) (PE.int) (PE.int) (by simp only [S_len, sizeLine_eq, List.length_append, List.length_cons, List.length_nil]; omega)) (PE.str) (by rfl) (by with_unfolding_all rfl)) ?_; refine At.any ?_; intro h9 k9 F9 N9
      refine ite_b (fun hd => ?_) (fun hd => ?_)
      · have hx2 := J.dash hd
        (with_reducible refine execs_1 ?_); refine wpAny_Expr_any ?_; (with_reducible refine' PyProof.Rows.MethodCall_ ?_ ?q93); (case q93 => rfl); refine' pe_eval (by k_asm) (by k_asm) (by refine' PE.itemZ (by refine' PE.name ⟨rfl, rfl, by decide⟩ (by with_reducible exact upd_off (by decide) (upd_off (by decide) (upd_off (by decide) (upd_miss (by decide) (by assumption)))))) (Px.lst_new (by k_mem)) (by assumption) (by simp only [List.length_append, List.length_cons, List.length_nil]; omega)) ?_; refine At.same rfl ?_; intro k9; (with_reducible refine PV.all_v ?_); refine' getMethod_append_N (by k_asm) (by k_mem) ?_ (by rfl) (by rfl); walk_at "d"; (with_reducible refine' PyProof.Rows.callWith_method1 ?_ ?q94 ?q95); (case q94 => rfl); (case q95 => rfl); walk_at "d"; (with_reducible refine' spliced_more ?_ ?q96); (case q96 => rfl); refine PyProof.Rows.Tuple_ ?_; (with_reducible refine' spliced_more ?_ ?q97); (case q97 => rfl); refine' nameX_L (by k_asm) (by with_reducible exact upd_off (by decide) upd_at) ?_ (by rfl) (by rfl) (by decide); (with_reducible refine' spliced_more ?_ ?q98); (case q98 => rfl); refine PyProof.Rows.List_ ?_; (with_reducible refine' spliced_more ?_ ?q99); (case q99 => rfl); refine PyProof.Rows.Tuple_ ?_; (with_reducible refine' spliced_more ?_ ?q100); (case q100 => rfl); refine' pe_eval (by k_asm) (by k_asm) (by refine' PE.slNS (by refine' PE.nameS ⟨rfl, rfl, by decide⟩ (by with_reducible exact upd_at)) (PE.int) (by simp only [S_len, sizeLine_eq, List.length_append, List.length_cons, List.length_nil]; omega)) ?_; refine At.any ?_; intro h9 k9 F9 N9; (with_reducible (refine PV.all_s ?_; intro t9)); (with_reducible refine' spliced_more ?_ ?q101); (case q101 => rfl); refine' pe_eval (by k_asm) (by k_asm) (by refine' PE.slSN (by refine' PE.nameS ⟨rfl, rfl, by decide⟩ (by with_reducible exact upd_at)) (PE.int) (by simp only [S_len, sizeLine_eq, List.length_append, List.length_cons, List.length_nil]; omega)) ?_; refine At.any ?_; intro h9 k9 F9 N9; (with_reducible (refine PV.all_s ?_; intro t9)); (with_reducible refine spliced_none ?_); refine' newTuple_P ?q102 ?q103 ?_ ?q104; (case q102 => k_asm); (case q103 => k_asm); (case q104 => exact Nat.le_of_ble_eq_true rfl); intro l9 h9 F9 N9 m9; replace m9 := allLt_of m9; simp only [AllLt, and_true] at m9; walk_at "d"; (with_reducible refine spliced_none ?_); refine' newList_P (by k_asm) (by k_asm) ?_ (Nat.le_of_ble_eq_true rfl); intro l9 h9 F9 N9 m9; replace m9 := allLt_of m9; simp only [AllLt, and_true] at m9; walk_at "d"; (with_reducible refine spliced_none ?_); refine' newTuple_P ?q105 ?q106 ?_ ?q107; (case q105 => k_asm); (case q106 => k_asm); (case q107 => exact Nat.le_of_ble_eq_true rfl); intro l9 h9 F9 N9 m9; replace m9 := allLt_of m9; simp only [AllLt, and_true] at m9; walk_at "d"; (with_reducible refine spliced_none ?_); refine' append_K (by k_asm) (by k_asm) (by refine' Upd.tail (by refine neN ?_; dsimp only; with_reducible exact rq3 (by k_all)) (by refine' Upd.tail (by refine neN ?_; dsimp only; with_reducible exact rq2 (by k_all)) (by refine' Upd.tail (by refine neN ?_; dsimp only; with_reducible exact rq1 (by k_all)) (by refine' Upd.tail (by k_all) (by refine' Upd.head (by k_all)))))) ?_ (by first | (simp only [sizeLine_eq, List.size_toArray, List.length_append, List.length_cons, List.length_nil]; omega) | size_fits); intro h9 F9 N9; simp only [List.push_toArray, List.nil_append, List.cons_append] at N9; walk_at "d"; (with_reducible refine Kx_next ?_); (with_reducible refine execs_1 ?_); refine' exec_asg (by k_asm) (by k_asm) (by refine' PE.add (by refine' PE.nameI ⟨rfl, rfl, by decide⟩ (by with_reducible exact upd_off (by decide) (upd_off (by decide) (upd_off (by decide) upd_hit)))) (PE.int)) (by rfl) (by rfl) (by rfl) ?_; intro h9 k9; (with_reducible (refine PV.all_i ?_; intro t9)); intro F9 N9
        rename Fr _ _ _ _ => Fe
        rename News _ _ _ _ => Ne
        exact hR _ _ <| rd_next Fe Ne (J.I.sg [(_, _), (_, _), (_, _)] ⟨_, _, [_], rfl, .head _, ⟨_, .tail _ (.head _)⟩, ro_eq hx2 ⟨⟨_, _, _, rfl, .tail _ (.tail _ (.head _))⟩, trivial⟩⟩ (ne_three (by (refine neN ?_; with_reducible exact rq2 (by k_all))) (by (refine neN ?_; with_reducible exact rq1 (by k_all))) (by (refine neN ?_; with_reducible exact rq0 (by k_all)))) (ne_three (by (refine neN ?_; with_reducible exact rq3 (by k_all))) (by (refine neN ?_; with_reducible exact rq2 (by k_all))) (by (refine neN ?_; with_reducible exact rq1 (by k_all))))) (fun p hp => sub_app [(_, _), (_, _), (_, _)] hp) (Nat.lt_succ_self _) (by with_reducible exact upd_off (by decide) (upd_off (by decide) (upd_off (by decide) (upd_off (by decide) (upd_miss (by decide) (by assumption)))))) (by with_reducible exact upd_off (by decide) (upd_off (by decide) (upd_off (by decide) (upd_off (by decide) (upd_miss (by decide) (by assumption)))))) (by with_reducible exact upd_off (by decide) (upd_off (by decide) (upd_off (by decide) (upd_off (by decide) (upd_miss (by decide) (by assumption)))))) (by with_reducible exact upd_at) (by simp; omega)
      · have hx2 := J.plain hd
        (with_reducible refine execs_1 ?_); refine wpAny_Expr_any ?_; (with_reducible refine' PyProof.Rows.MethodCall_ ?_ ?q108); (case q108 => rfl); refine' pe_eval (by k_asm) (by k_asm) (by refine' PE.itemZ (by refine' PE.name ⟨rfl, rfl, by decide⟩ (by with_reducible exact upd_off (by decide) (upd_off (by decide) (upd_off (by decide) (upd_miss (by decide) (by assumption)))))) (Px.lst_new (by k_mem)) (by assumption) (by simp only [List.length_append, List.length_cons, List.length_nil]; omega)) ?_; refine At.same rfl ?_; intro k9; (with_reducible refine PV.all_v ?_); refine' getMethod_append_N (by k_asm) (by k_mem) ?_ (by rfl) (by rfl); walk_at "d"; (with_reducible refine' PyProof.Rows.callWith_method1 ?_ ?q109 ?q110); (case q109 => rfl); (case q110 => rfl); walk_at "d"; (with_reducible refine' spliced_more ?_ ?q111); (case q111 => rfl); refine PyProof.Rows.Tuple_ ?_; (with_reducible refine' spliced_more ?_ ?q112); (case q112 => rfl); refine' nameX_L (by k_asm) (by with_reducible exact upd_off (by decide) upd_at) ?_ (by rfl) (by rfl) (by decide); (with_reducible refine' spliced_more ?_ ?q113); (case q113 => rfl)
        refine' lc_node ?hclos ?hkind ?hnames ?hs ?_
        case hclos => with_unfolding_all rfl
        case hkind => rfl
        case hnames => decide
        case hs => intro _; rfl
        refine' nameX_L (by k_asm) (by with_reducible exact upd_at) ?_ (by rfl) (by rfl) (by decide)
        refine' lc_str (x := S ws) hh ?lz ?lc ?lk ?lF ?lN (fun i ys led => ys.length ≤ i ∧ (∀ p ∈ led, p.2.cls = .type "tuple") ∧ RO (OPair led) ys ((ws.take i).map fun c => (S [c], S [c]))) ?l0 ?lJ ?lturn ?ldone
        case lz => simp only [sizeLine_eq, List.size_toArray]; omega
        case lc => decide
        case lk => rfl
        case lF => assumption
        case lN => assumption
        case l0 => exact ⟨Nat.le_refl _, fun _ h => absurd h List.not_mem_nil, trivial⟩
        case lJ => exact fun _ _ _ h => h.1
        case lturn =>
          intro I' i' v' ys' led' C own hC mC tkC hi' hv' hJ' hsep' hown' F N
          obtain ⟨hyl, hcl', hro⟩ := hJ'
          obtain ⟨oI', nm, hoI, hcI, hnI⟩ := hown'
          obtain ⟨c, u, hc, rfl⟩ := hv'
          refine letOwned_skip (N _ (List.mem_append_left _ hoI)).1 hcI hnI ?_
          walk_at "d"; (with_reducible refine wpAny_assign_Name ?_); refine' storeC_L (by k_asm) (by k_asm) ?_ (by rfl) (by rfl); intro h9 F9 N9
          refine wpAny_tests_nil ?_
          walk_at "d"; (with_reducible refine ite_t ?_); refine PyProof.Rows.Tuple_ ?_; (with_reducible refine' spliced_more ?_ ?q114); (case q114 => rfl); refine' nameC_L (by k_asm) (by with_reducible exact upd_hit) ?_ (by rfl) (by rfl) (by decide); (with_reducible refine' spliced_more ?_ ?q115); (case q115 => rfl); refine' nameC_L (by k_asm) (by with_reducible exact upd_hit) ?_ (by rfl) (by rfl) (by decide); (with_reducible refine spliced_none ?_); refine' newTuple_P ?q116 ?q117 ?_ ?q118; (case q116 => k_asm); (case q117 => k_asm); (case q118 => exact Nat.le_of_ble_eq_true rfl); intro l9 h9 F9 N9 m9
          rename Fr _ _ _ _ => Fe
          rename News _ _ _ _ => Ne
          obtain ⟨tq, e_Ne0⟩ := ledN0 Ne
          subst e_Ne0
          have hlt : ∀ p ∈ own ++ led', p.1 < tq := by assumption
          refine ⟨_, _, _, (tq, { cls := .type "tuple", data := .seq ([Value.str ⟨#[c]⟩ u, Value.str ⟨#[c]⟩ u]).toArray }) :: led', _, rfl, Fe, Ne, fun p hp => .tail _ (List.mem_append_left _ hp), ?_, ?_, ?_, ?_, ?_⟩
          · intro p hp
            rcases List.mem_cons.mp hp with rfl | hp
            · exact .head _
            · exact .tail _ (List.mem_append_right _ hp)
          · intro p hp q hq
            rcases List.mem_cons.mp hp with rfl | hp
            · exact Nat.ne_of_gt (hlt q (List.mem_append_left _ hq))
            · exact hsep' p hp q hq
          · simp; omega
          · intro p hp
            rcases List.mem_cons.mp hp with rfl | hp
            · rfl
            · exact hcl' p hp
          · have hc' : ws[i']? = some c := by rw [← hc, S_get]
            rw [List.take_add_one, hc', List.map_append]
            exact RO.snoc ⟨tq, _, _, rfl, .head _⟩ (hro.imp fun _ _ => OPair.sub fun _ h => .tail _ h)
        case ldone =>
          intro D ys led h' tk' kD hJ F N hlD hnD
          obtain ⟨hyl, hcl', hro⟩ := hJ
          have hwn : ws.take (S ws).cps.size = ws := List.take_of_length_le (by simp)
          rw [hwn] at hro
          have far : ∀ (a : Addr) (o : Obj), o.cls = .type "list" → (a, o) ∈ rdLed Lr bl refs cvs k k' rest → (∀ p ∈ rest, p.1 ≠ a) → ∀ p ∈ led ++ rest, p.1 ≠ a := by
            intro a o ho hm hr p hp
            rcases List.mem_append.mp hp with h | h
            · intro e
              have e1 := (N (a, o) (.tail _ (List.mem_append_right _ hm))).1
              have e2 := (N p (.tail _ (List.mem_append_left _ h))).1
              rw [e, e1] at e2
              have e3 := hcl' p h
              cases e2
              rw [ho] at e3; exact absurd e3 (by decide)
            · exact hr p h
          have f1 := far Lr _ rfl (.head _) hr1
          have f2 := far bl _ rfl (.tail _ (.head _)) hr2
          have N2 := News.sub N (O' := (D, PySem.W.listOf ys.toArray kD) :: rdLed Lr bl refs cvs k k' (led ++ rest)) (fun _ => mem_perm1)
          replace hnD := allLt_of hnD; simp only [AllLt, and_true] at hnD
          clear N
          walk_at "d"; (with_reducible refine spliced_none ?_); refine' newTuple_P ?q119 ?q120 ?_ ?q121; (case q119 => k_asm); (case q120 => k_asm); (case q121 => exact Nat.le_of_ble_eq_true rfl); intro l9 h9 F9 N9 m9; replace m9 := allLt_of m9; simp only [AllLt, and_true] at m9; walk_at "d"; (with_reducible refine spliced_none ?_); refine' append_K (by k_asm) (by k_asm) (by refine' Upd.tail (by refine neN ?_; dsimp only; with_reducible exact rq2 (by k_all)) (by refine' Upd.tail (by refine neN ?_; dsimp only; with_reducible exact rq1 (by k_all)) (by refine' Upd.tail (by k_all) (by refine' Upd.head (by k_all))))) ?_ (by first | (simp only [sizeLine_eq, List.size_toArray, List.length_append, List.length_cons, List.length_nil]; omega) | size_fits); intro h9 F9 N9; simp only [List.push_toArray, List.nil_append, List.cons_append] at N9; walk_at "d"; (with_reducible refine Kx_next ?_); (with_reducible refine execs_1 ?_); refine' exec_asg (by k_asm) (by k_asm) (by refine' PE.add (by refine' PE.nameI ⟨rfl, rfl, by decide⟩ (by with_reducible exact upd_off (by decide) (upd_off (by decide) (upd_off (by decide) upd_hit)))) (PE.int)) (by rfl) (by rfl) (by rfl) ?_; intro h9 k9; (with_reducible (refine PV.all_i ?_; intro t9)); intro F9 N9
          rename Fr _ _ _ _ => Fe
          rename News _ _ _ _ => Ne
          exact hR _ _ <| rd_next Fe Ne (J.I.sg ((_, _) :: (D, _) :: led) ⟨_, D, ys, rfl, .head _, ⟨_, .tail _ (.head _)⟩, ro_eq hx2 (hro.imp fun _ _ => OPair.sub fun _ h => .tail _ (.tail _ h))⟩ (List.forall_mem_cons.mpr ⟨by (refine neN ?_; dsimp only; with_reducible exact rq1 (by k_all)), List.forall_mem_cons.mpr ⟨by (refine neN ?_; dsimp only; with_reducible exact rq0 (by k_all)), fun p hp => f1 p (List.mem_append_left _ hp)⟩⟩) (List.forall_mem_cons.mpr ⟨by (refine neN ?_; dsimp only; with_reducible exact rq2 (by k_all)), List.forall_mem_cons.mpr ⟨by (refine neN ?_; dsimp only; with_reducible exact rq1 (by k_all)), fun p hp => f2 p (List.mem_append_left _ hp)⟩⟩)) (fun p hp => mem_perm3 hp) (Nat.lt_succ_self _) (by with_reducible exact upd_off (by decide) (upd_off (by decide) (upd_off (by decide) (upd_off (by decide) (upd_miss (by decide) (by assumption)))))) (by with_reducible exact upd_off (by decide) (upd_off (by decide) (upd_off (by decide) (upd_off (by decide) (upd_miss (by decide) (by assumption)))))) (by with_reducible exact upd_off (by decide) (upd_off (by decide) (upd_off (by decide) (upd_off (by decide) (upd_miss (by decide) (by assumption)))))) (by with_reducible exact upd_at) (by simp; omega)
    (with_reducible refine execs_1 ?_); refine' exec_if (by k_asm) (by k_asm) (by refine' PT.cmpS (by refine' PE.chAt (by refine' PE.nameS ⟨rfl, rfl, by decide⟩ (by k_all)) (by refine' PE.nameI ⟨rfl, rfl, by decide⟩ (by k_all)) (by assumption) (by rfl) (by k_all) rfl) (PE.str) (by rfl) (by with_unfolding_all rfl)) ?_; refine At.same rfl ?_; intro k9
    refine ite_ff (T'.t7 h1 h2 h3 h4 h5 h6) ?_
    clear T'
    walk_at "d"; (with_reducible refine execs_k ?_); refine wpAny_Expr_any ?_; (with_reducible refine' PyProof.Rows.MethodCall_ ?_ ?q122); (case q122 => rfl); refine' pe_eval (by k_asm) (by k_asm) (by refine' PE.itemZ (by refine' PE.name ⟨rfl, rfl, by decide⟩ (by k_all)) (Px.lst_new (by k_mem)) (by assumption) (by simp only [List.length_append, List.length_cons, List.length_nil]; omega)) ?_; refine At.same rfl ?_; intro k9; (with_reducible refine PV.all_v ?_); refine' getMethod_append_N (by k_asm) (by k_mem) ?_ (by rfl) (by rfl); walk_at "d"; (with_reducible refine' PyProof.Rows.callWith_method1 ?_ ?q123 ?q124); (case q123 => rfl); (case q124 => rfl); walk_at "d"; (with_reducible refine' spliced_more ?_ ?q125); (case q125 => rfl); refine PyProof.Rows.Tuple_ ?_; (with_reducible refine' spliced_more ?_ ?q126); (case q126 => rfl); (with_reducible refine wpAny_Constant_bool ?_); (with_reducible refine' spliced_more ?_ ?q127); (case q127 => rfl); refine PyProof.Rows.List_ ?_; (with_reducible refine' spliced_more ?_ ?q128); (case q128 => rfl); refine PyProof.Rows.Tuple_ ?_; (with_reducible refine' spliced_more ?_ ?q129); (case q129 => rfl); refine' pe_eval (by k_asm) (by k_asm) (by refine' PE.chAt (by refine' PE.nameS ⟨rfl, rfl, by decide⟩ (by k_all)) (by refine' PE.nameI ⟨rfl, rfl, by decide⟩ (by k_all)) (by assumption) (by rfl) (by k_all) rfl) ?_; refine At.same rfl ?_; intro k9; (with_reducible (refine PV.all_s ?_; intro t9)); (with_reducible refine' spliced_more ?_ ?q130); (case q130 => rfl); refine' pe_eval (by k_asm) (by k_asm) (by refine' PE.chAt (by refine' PE.nameS ⟨rfl, rfl, by decide⟩ (by k_all)) (by refine' PE.nameI ⟨rfl, rfl, by decide⟩ (by k_all)) (by assumption) (by rfl) (by k_all) rfl) ?_; refine At.same rfl ?_; intro k9; (with_reducible (refine PV.all_s ?_; intro t9)); (with_reducible refine spliced_none ?_); refine' newTuple_P ?q131 ?q132 ?_ ?q133; (case q131 => k_asm); (case q132 => k_asm); (case q133 => exact Nat.le_of_ble_eq_true rfl); intro l9 h9 F9 N9 m9; replace m9 := allLt_of m9; simp only [AllLt, and_true] at m9; walk_at "d"; (with_reducible refine spliced_none ?_); refine' newList_P (by k_asm) (by k_asm) ?_ (Nat.le_of_ble_eq_true rfl); intro l9 h9 F9 N9 m9; replace m9 := allLt_of m9; simp only [AllLt, and_true] at m9; walk_at "d"; (with_reducible refine spliced_none ?_); refine' newTuple_P ?q134 ?q135 ?_ ?q136; (case q134 => k_asm); (case q135 => k_asm); (case q136 => exact Nat.le_of_ble_eq_true rfl); intro l9 h9 F9 N9 m9; replace m9 := allLt_of m9; simp only [AllLt, and_true] at m9; walk_at "d"; (with_reducible refine spliced_none ?_); refine' append_K (by k_asm) (by k_asm) (by refine' Upd.tail (by refine neN ?_; dsimp only; with_reducible exact rq3 (by k_all)) (by refine' Upd.tail (by refine neN ?_; dsimp only; with_reducible exact rq2 (by k_all)) (by refine' Upd.tail (by refine neN ?_; dsimp only; with_reducible exact rq1 (by k_all)) (by refine' Upd.tail (by k_all) (by refine' Upd.head (by k_all)))))) ?_ (by first | (simp only [sizeLine_eq, List.size_toArray, List.length_append, List.length_cons, List.length_nil]; omega) | size_fits); intro h9 F9 N9; simp only [List.push_toArray, List.nil_append, List.cons_append] at N9; walk_at "d"; (with_reducible refine Kx_next ?_); (with_reducible refine execs_1 ?_); refine' exec_aug (by k_asm) (by k_asm) (by k_all) (PE.int) (by rfl) (by rfl) ?_; intro h9 k9 t9 F9 N9
    rename Fr _ _ _ _ => Fe
    rename News _ _ _ _ => Ne
    exact hR _ _ <| rd_next Fe Ne (I.lit h1 h2 h3 h4 h5 h6 [(_, _), (_, _), (_, _)] ⟨_, _, [_], rfl, .head _, ⟨_, .tail _ (.head _)⟩, ⟨_, _, _, rfl, .tail _ (.tail _ (.head _))⟩, trivial⟩ (ne_three (by (refine neN ?_; with_reducible exact rq2 (by k_all))) (by (refine neN ?_; with_reducible exact rq1 (by k_all))) (by (refine neN ?_; with_reducible exact rq0 (by k_all)))) (ne_three (by (refine neN ?_; with_reducible exact rq3 (by k_all))) (by (refine neN ?_; with_reducible exact rq2 (by k_all))) (by (refine neN ?_; with_reducible exact rq1 (by k_all))))) (fun p hp => sub_app [(_, _), (_, _), (_, _)] hp) (Nat.lt_succ_self _) (by with_reducible exact upd_off (by decide) (by assumption)) (by with_reducible exact upd_off (by decide) (by assumption)) (by with_reducible exact upd_off (by decide) (by assumption)) (by with_reducible exact upd_at) (by simp)
theorem tab45 (w : World) : ∃ es ep, (Mine.heap_39 w.params).lookup 45 = some ⟨.type "dict", none, .dict es ep, #[]⟩ ∧ IntKeys es ∧ ∀ c ∈ [61, 113, 117, 118], findBy Value.isInt es ((c : Nat) : Int) = none := by
  refine ⟨_, _, by k_is, ?_, ?_⟩
  · intro e he
    simp only [List.mem_toArray, List.mem_cons, List.not_mem_nil, or_false] at he
    rcases he with rfl | rfl | rfl | rfl | rfl | rfl | rfl | rfl | rfl | rfl | rfl | rfl | rfl | rfl | rfl | rfl | rfl | rfl | rfl | rfl | rfl | rfl | rfl | rfl <;> exact ⟨_, _, rfl, rfl⟩
  · intro c hc
    simp only [List.mem_cons, List.not_mem_nil, or_false] at hc
    rcases hc with rfl | rfl | rfl | rfl <;> rfl
theorem escape_spec {w : World} {A : Around} {s : Shared} {Q E : Value → Shared → Prop} {p : Program} {loose : List Str} {mg mb : Str → Option Value}
   (X : (Mine.heap_39 w.params).In s.heap) (T : TopRead p loose mg mb s.heap) (hroom : A.depth + 8 < recursionLimit) (hh : A.handled = none)
   {c : Nat} {t : Tok} (hc : c ∈ [61, 113, 117, 118]) (hQ : ∀ h' tk' t', Pres s.heap h' → Q (.str (S [c]) t') {s with heap := h', toks := tk'}) :
  wpAny (model PySem.Challenge.rw_ij0038_01.row.prog w) A (call (.ref 55) [.str (S [c]) t]) Q E s := by
  refine' enter_plain (K := Mine.heap_39 w.params) X T.nolimit ?r ?ho ?hcd ?hb ?hl ?hc ?_ ?c2 ?c3 ?c4
  case r => omega
  case ho => k_is
  case hcd => k_is
  case hb => exact BindsTo.of_eq rfl
  case hl => ((intro y hy; with_unfolding_all (repeat (first | exact absurd hy List.not_mem_nil | (rcases List.mem_cons.mp hy with hy | hy; (subst hy; rfl))))))
  case hc => decide +kernel
  case c2 => rfl
  case c3 => rfl
  case c4 => rfl
  intro h₁ F N
  walk_at "d"; (with_reducible refine execs_1 ?_); (with_reducible refine wpAny_If ?_); refine PyProof.Rows.isTrue_plain ?_; (with_reducible refine' Call_ ?_ ?q137); (case q137 => rfl); refine' nameX_B (by k_asm) (by k_asm) (by k_asm) (by k_is) (by boot_fast) (by decide) ?_ (by rfl) (by rfl) (by decide); (with_reducible refine' PyProof.Rows.callWith_builtin1 ?_ ?q138 ?q139); (case q138 => rfl); (case q139 => rfl); (with_reducible refine' spliced_more ?_ ?q140); (case q140 => rfl); refine' nameX_L (by k_asm) (by rfl) ?_ (by rfl) (by rfl) (by decide); (with_reducible refine' spliced_more ?_ ?q141); (case q141 => rfl); refine' nameX_B (by k_asm) (by k_asm) (by k_asm) (by k_is) (by boot_fast) (by decide) ?_ (by rfl) (by rfl) (by decide); (with_reducible refine spliced_none ?_); (with_reducible refine PySem.IsiPair.str_str ?_); (with_reducible refine wpAny_truthy_bool ?_); (with_reducible refine ite_t ?_); (with_reducible refine execs_1 ?_); (with_reducible refine wpAny_Return_some ?_); walk_at "d"; (with_reducible refine' PyProof.Rows.MethodCall_ ?_ ?q142); (case q142 => rfl); refine' nameX_L (by k_asm) (by rfl) ?_ (by rfl) (by rfl) (by decide); (with_reducible refine Mine.getm_trans ?_); walk_at "d"; (with_reducible refine' PyProof.Rows.callWith_method1 ?_ ?q143 ?q144); (case q143 => rfl); (case q144 => rfl); walk_at "d"; (with_reducible refine' spliced_more ?_ ?q145); (case q145 => rfl); refine' nameX_K (by k_asm) (by k_asm) (by k_asm) (by k_is) ?_ (by rfl) (by rfl) (by decide); with_reducible refine spliced_none ?_
  obtain ⟨es, ep, e1, e2, e3⟩ := tab45 w
  rename Fr _ _ _ _ => Fe
  have h45 := Fe.keep _ _ (X 45 _ e1)
  refine trans_all (x := [c]) (mp := fun _ => .keep) (by simp) (by simp) (fun _ _ => .inl rfl) (fun c' hc' s' Q' hp hQ' => ?_) ?_
  · rw [List.mem_singleton.mp hc']
    have h45' := hp _ _ h45
    have hM : s'.heap.IntMap 45 (fun k => findBy Value.isInt es k) := ⟨_, es, ep, h45', rfl, rfl, e2, fun _ => rfl⟩
    exact look_keep (hM.mapOf fun o ho => by rw [h45'] at ho; cases ho; exact ⟨rfl, rfl⟩) rfl hh (e3 c hc) hQ'
  · intro h' tk t' hp
    skip
    exact hQ _ _ _ fun b o e => hp b o (Fe.keep b o e)
noncomputable def RItem (star : Addr) (v : Value) : Option (List Nat) → Prop
  | none => v = .ref star
  | some l => ∃ t, v = .str (S l) t
noncomputable def isStar (v : Option (Option (List Nat))) : Bool := match v with | some none => true | _ => false
theorem pchars_nil : ∀ {b : Bool} {ts : List PTok}, POk b ts → (pchars ts).length = 0 → ts = []
  | _, [], _, _ => rfl
  | _, .star :: _, _, h => by simp [pchars, PTok.chars] at h
  | _, .any :: _, _, h => by simp [pchars, PTok.chars] at h
  | _, .lit _ :: _, _, h => by simp [pchars, PTok.chars] at h
  | _, .set _ _ :: _, _, h => by simp [pchars, PTok.chars] at h
theorem last_str {star : Addr} : ∀ {vals : List Value} {done : List PTok}, RO (RItem star) vals (done.map PTok.item) → isStar (done.getLast?.map PTok.item) = false → vals = [] ∨ ∃ l t, vals.getLast? = some (.str (S l) t) := by
  intro vals done h hs
  cases hd : done.getLast? with
  | none =>
    rw [List.getLast?_eq_none_iff] at hd
    subst hd
    cases vals with
    | nil => exact .inl rfl
    | cons _ _ => exact h.elim
  | some x =>
    obtain ⟨ys, rfl⟩ := List.getLast?_eq_some_iff.mp hd
    rw [hd] at hs
    simp only [Option.map_some] at hs
    right
    have : ∀ (vs : List Value) (ys : List PTok), RO (RItem star) vs ((ys ++ [x]).map PTok.item) → ∃ l t, vs.getLast? = some (.str (S l) t) := by
      intro vs ys
      induction ys generalizing vs with
      | nil =>
        intro h
        match vs, h with
        | [v], h =>
          have h1 : RItem star v (PTok.item x) := h.1
          cases hx : PTok.item x with
          | none => rw [hx] at hs; simp [isStar] at hs
          | some l => rw [hx] at h1; obtain ⟨t, rfl⟩ := h1; exact ⟨l, t, rfl⟩
      | cons y ys ih =>
        intro h
        match vs, h with
        | v :: vs, h =>
          obtain ⟨l, t, e⟩ := ih vs h.2
          refine ⟨l, t, ?_⟩
          cases vs with
          | nil => simp at e
          | cons a b => simpa using e
    exact this vals ys h
noncomputable abbrev TrJ (pat : List Nat) (tp : Tok) (star : Addr) (tq : Tok) (gs : OsState) (all : List PTok) (n : Nat) (s₁ : Shared) (m : Str → Option Value) (news : Led) : Prop :=
  ∃ pre done rest vals k res add ps t t2, pat = pre ++ pchars rest ∧ all = done ++ rest ∧ n = rest.length ∧ POk (isStar (done.getLast?.map PTok.item)) rest ∧ RO (RItem star) vals (done.map PTok.item) ∧ vals.length ≤ pre.length ∧
    news = [(add, appBound res), (res, PySem.W.listOf vals.toArray k), (57, tabObj ps)] ∧ @Ne Nat add res ∧ @Ne Nat res 57 ∧ @Ne Nat add 57 ∧ TriplesOk ps.toList ∧ AllBare s₁.gens ∧ s₁.os = gs ∧
    m (Str.ofString "pat") = some (.str (S pat) tp) ∧ m (Str.ofString "STAR") = some (.ref star) ∧ m (Str.ofString "QUESTION_MARK") = some (.str (S [46]) tq) ∧ m (Str.ofString "res") = some (.ref res) ∧ m (Str.ofString "add") = some (.ref add) ∧
    m (Str.ofString "i") = some (.int (pre.length : Int) t) ∧ m (Str.ofString "n") = some (.int ((S pat).length : Int) t2)
theorem set_facts {b o : List Nat} (h : (b, o) ∈ plainSets ∨ (b, o) ∈ dashSets) : 93 ∉ b ∧ 1 ≤ b.length ∧ b.length ≤ 4 ∧ (b.headD 0 = 33 → 2 ≤ b.length) ∧ b.headD 0 ≠ 93 := by
  simp only [List.mem_cons, List.not_mem_nil, or_false, Prod.mk.injEq] at h
  rcases h with (⟨rfl, rfl⟩ | ⟨rfl, rfl⟩ | ⟨rfl, rfl⟩) | (⟨rfl, rfl⟩ | ⟨rfl, rfl⟩ | ⟨rfl, rfl⟩) <;> decide
noncomputable abbrev setStuff : List (List Nat × List Nat × List Nat) := [([63], [91, 63, 93], [63]), ([117, 118], [91, 117, 118, 93], [117, 118]), ([33, 117], [91, 94, 117, 93], [33, 117]), ([117, 45, 118], [91, 117, 45, 118, 93], [117, 45, 118]), ([33, 118, 45, 117], [46], [33]), ([118, 45, 117], [40, 63, 33, 41], [])]
noncomputable abbrev TrC (pat : List Nat) (tp tq : Tok) (star res add : Addr) (t2 : Tok) (m : Str → Option Value) : Prop :=
  m (Str.ofString "pat") = some (.str (S pat) tp) ∧ m (Str.ofString "STAR") = some (.ref star) ∧ m (Str.ofString "QUESTION_MARK") = some (.str (S [46]) tq) ∧ m (Str.ofString "res") = some (.ref res) ∧ m (Str.ofString "add") = some (.ref add) ∧
    m (Str.ofString "n") = some (.int ((S pat).length : Int) t2)
theorem PTok.pos (t : PTok) : 1 ≤ t.chars.length := by cases t <;> simp [PTok.chars]
theorem tr_close {g : Heap} {L : Addr} {s₃ : Shared} {Q : Flow → Shared → Prop} {pat : List Nat} {tp tq : Tok} {star : Addr} {gs : OsState} {pre : List Nat} {done r : List PTok} {tok : PTok} {all : List PTok} {vals : List Value} {v : Value} {k' : Nat} {res add : Addr} {ps' : Array Value} {m₂ : Str → Option Value} {t t2 : Tok}
    (F : Fr g L s₃.heap m₂) (N : News g L s₃.heap [(add, appBound res), (res, PySem.W.listOf (vals ++ [v]).toArray k'), (57, tabObj ps')]) (hv : RItem star v tok.item) (hsp : pat = pre ++ (tok.chars ++ pchars r)) (hall : all = done ++ tok :: r) (hok : POk (isStar (some tok.item)) r)
    (hvs : RO (RItem star) vals (done.map PTok.item)) (hvl : vals.length ≤ pre.length) (na1 : @Ne Nat add res) (na2 : @Ne Nat res 57) (na3 : @Ne Nat add 57) (htr : TriplesOk ps'.toList) (hG : AllBare s₃.gens) (hos : s₃.os = gs)
    (g1 : m₂ (Str.ofString "pat") = some (.str (S pat) tp)) (g2 : m₂ (Str.ofString "STAR") = some (.ref star)) (g3 : m₂ (Str.ofString "QUESTION_MARK") = some (.str (S [46]) tq)) (g4 : m₂ (Str.ofString "res") = some (.ref res)) (g5 : m₂ (Str.ofString "add") = some (.ref add))
    (g6 : m₂ (Str.ofString "i") = some (.int ((pre ++ tok.chars).length : Nat) t)) (g7 : m₂ (Str.ofString "n") = some (.int ((S pat).length : Int) t2)) :
    WhileStep3 g L (TrJ pat tp star tq gs all) Q (tok :: r).length .next s₃ := by
  refine ⟨_, _, r.length, F, N, Nat.lt_succ_self _, pre ++ tok.chars, done ++ [tok], r, vals ++ [v], k', res, add, ps', t, t2, by rw [hsp]; simp, by rw [hall]; simp, rfl, ?_, ?_, ?_, rfl, na1, na2, na3, htr, hG, hos, g1, g2, g3, g4, g5, g6, g7⟩
  · simpa using hok
  · rw [List.map_append]; exact RO.snoc hv hvs
  · have := tok.pos; simp; omega
theorem pat36 {w : World} {h : Heap} (X : (Mine.heap_39 w.params).In h) : PatAt h 36 opCode 1 :=
  ⟨_, _, 35, _, _, _, X 36 _ (by k_is), rfl, rfl, rfl, rfl, rfl, rfl, X 35 _ (by k_is), rfl, by first | kernel_rfl | decide +kernel⟩
theorem stuff_facts {b o st : List Nat} (h : (b, o, st) ∈ setStuff) : st.length < 1000 ∧ (∀ i, opSign (st.toArray.getD i 0) = false) ∧ (st = [] ∧ o = [40, 63, 33, 41] ∨ st = [33] ∧ o = [46] ∨ (∃ c r, st = c :: r ∧ st ≠ [33] ∧ (c = 33 ∧ o = 91 :: 94 :: (r ++ [93]) ∨ c ≠ 33 ∧ c ≠ 94 ∧ c ≠ 91 ∧ o = 91 :: c :: (r ++ [93])))) := by
  have big : ∀ (l : List Nat), (∀ c ∈ l, opSign c = false) → ∀ i, opSign (l.toArray.getD i 0) = false := by
    intro l hl i
    rw [Array.getD_eq_getD_getElem?, List.getElem?_toArray]
    cases hi : l[i]? with
    | none => decide
    | some c => exact hl c (List.mem_of_getElem? hi)
  simp only [List.mem_cons, List.not_mem_nil, or_false, Prod.mk.injEq] at h
  rcases h with ⟨rfl, rfl, rfl⟩ | ⟨rfl, rfl, rfl⟩ | ⟨rfl, rfl, rfl⟩ | ⟨rfl, rfl, rfl⟩ | ⟨rfl, rfl, rfl⟩ | ⟨rfl, rfl, rfl⟩
  · exact ⟨by decide, big _ (by decide), .inr (.inr ⟨_, _, rfl, by decide, .inr ⟨by decide, by decide, by decide, rfl⟩⟩)⟩
  · exact ⟨by decide, big _ (by decide), .inr (.inr ⟨_, _, rfl, by decide, .inr ⟨by decide, by decide, by decide, rfl⟩⟩)⟩
  · exact ⟨by decide, big _ (by decide), .inr (.inr ⟨_, _, rfl, by decide, .inl ⟨rfl, rfl⟩⟩)⟩
  · exact ⟨by decide, big _ (by decide), .inr (.inr ⟨_, _, rfl, by decide, .inr ⟨by decide, by decide, by decide, rfl⟩⟩)⟩
  · exact ⟨by decide, big _ (by decide), .inr (.inl ⟨rfl, rfl⟩)⟩
  · exact ⟨by decide, big _ (by decide), .inl ⟨rfl, rfl⟩⟩
theorem dash_facts {b o : List Nat} (h : (b, o) ∈ dashSets) : ∃ a d, b = a ++ [45, d] ∧ 1 ≤ a.length ∧ a.length ≤ 2 ∧ ((a ++ [45, d]).headD 0 = 33 ↔ a.length = 2) ∧ (∀ c ∈ a ++ [d], c ≠ 92 ∧ c ≠ 45) ∧
    ((∃ e, a.getLast? = some e ∧ e ≤ d ∧ (b, o, a ++ [45, d]) ∈ setStuff) ∨ (∃ e, a.getLast? = some e ∧ d < e ∧ (b, o, a.dropLast) ∈ setStuff)) := by
  simp only [List.mem_cons, List.not_mem_nil, or_false, Prod.mk.injEq] at h
  rcases h with ⟨rfl, rfl⟩ | ⟨rfl, rfl⟩ | ⟨rfl, rfl⟩
  · exact ⟨[117], 118, rfl, by decide, by decide, by decide, by decide, .inl ⟨117, rfl, by decide, by decide⟩⟩
  · exact ⟨[33, 118], 117, rfl, by decide, by decide, by decide, by decide, .inr ⟨118, rfl, by decide, by decide⟩⟩
  · exact ⟨[118], 117, rfl, by decide, by decide, by decide, by decide, .inr ⟨118, rfl, by decide, by decide⟩⟩
theorem one_lt {d e : Nat} : [d] < [e] ↔ d < e := by rw [List.cons_lt_cons_iff]; simp
theorem hoff2 {c I : Addr} {o o' : Obj} {r : List (Addr × Obj)} (h : ∀ p ∈ (c, o) :: r, p.1 ≠ I) {p : Addr × Obj} (hp : p ∈ (c, o') :: r) : p.1 ≠ I := by
  rcases List.mem_cons.mp hp with rfl | hp
  · have e := h _ (List.Mem.head _); exact e
  · exact h _ (.tail _ hp)
theorem cut_init (a : List Nat) (h : 1 ≤ a.length) : Txt.slice (S a) none (some (-1)) = S a.dropLast := by
  obtain ⟨ys, y, rfl⟩ : ∃ ys y, a = ys ++ [y] := by
    rcases List.eq_nil_or_concat a with rfl | ⟨ys, y, rfl⟩
    · simp at h
    · exact ⟨ys, y, by simp⟩
  have e : Txt.slice (S (ys ++ [y])) none (some (-1)) = Txt.slice (S (ys ++ [y])) none (some (-1 + ((S (ys ++ [y])).length : Int))) :=
    StrLaws.sliceText_neg_hi (S (ys ++ [y])) none (by decide) (by rw [S_len]; simp; omega)
  rw [S_len, show (-1 + ((ys ++ [y]).length : Int)) = (ys.length : Int) by simp; omega] at e
  rw [e, cut_to]; simp
theorem mem_tr {a b c d p : Addr × Obj} (hp : p ∈ [c, d, b]) : p ∈ [a, b, c, d] := by
  simp only [List.mem_cons, List.not_mem_nil, or_false] at hp ⊢; grind
theorem mem_tr3 {a b c d p : Addr × Obj} (hp : p ∈ [a, b, c]) : p ∈ [c, d, a, b] := by
  simp only [List.mem_cons, List.not_mem_nil, or_false] at hp ⊢; grind
theorem mem_tr2 {a b c d e p : Addr × Obj} (hp : p ∈ [c, d, b]) : p ∈ [e, a, b, c, d] := List.mem_cons_of_mem _ (mem_tr hp)
theorem hd_ne {c d : Nat} {l l' : List Nat} (h : c ≠ d) : ((c :: l) == (d :: l')) = false := by simp [h]
noncomputable def PTok.kind : PTok → Nat
  | .star => 1
  | .any => 2
  | .set _ _ => 3
  | .lit _ => 4
theorem p_tests : ∀ {b : Bool} {tok : PTok} {r : List PTok}, POk b (tok :: r) →
    ((⟨#[tok.chars.headD 0]⟩ : Str).cps.toList == (Str.ofString "*").cps.toList) = (tok.kind == 1) ∧ ((⟨#[tok.chars.headD 0]⟩ : Str).cps.toList == (Str.ofString "?").cps.toList) = (tok.kind == 2) ∧ ((⟨#[tok.chars.headD 0]⟩ : Str).cps.toList == (Str.ofString "[").cps.toList) = (tok.kind == 3)
  | _, .star, _, _ => ⟨rfl, rfl, rfl⟩
  | _, .any, _, _ => ⟨rfl, rfl, rfl⟩
  | _, .set _ _, _, _ => ⟨rfl, rfl, rfl⟩
  | _, .lit c, _, h => by
    have h := h.1
    simp only [List.mem_cons, List.not_mem_nil, or_false] at h
    rcases h with rfl | rfl | rfl | rfl <;> exact ⟨rfl, rfl, rfl⟩
theorem pk_1 {tok : PTok} (h : (tok.kind == 1) = true) : tok = .star := by cases tok <;> first | rfl | cases h
theorem pk_2 {tok : PTok} (h : (tok.kind == 2) = true) : tok = .any := by cases tok <;> first | rfl | cases h
theorem pk_3 {tok : PTok} (h : (tok.kind == 3) = true) : ∃ b o, tok = .set b o := by cases tok <;> first | exact ⟨_, _, rfl⟩ | cases h
theorem pk_4 {tok : PTok} (h1 : (tok.kind == 1) = false) (h2 : (tok.kind == 2) = false) (h3 : (tok.kind == 3) = false) : ∃ c, tok = .lit c := by
  cases tok with
  | lit c => exact ⟨c, rfl⟩
  | star => cases h1
  | any => cases h2
  | set _ _ => cases h3
theorem trans_spec {w : World} {A : Around} {s : Shared} {Q E : Value → Shared → Prop} {p : Program} {loose : List Str} {mg mb : Str → Option Value}
   (X : (Mine.heap_39 w.params).In s.heap) (T : TopRead p loose mg mb s.heap) (hroom : A.depth + 20 < recursionLimit) (hun : A.units + 200 < cLine) (hh : A.handled = none)
   (hb : s.heap.BuiltinsAt mg 57) (hT : TabOk 57 s.heap) (hG : AllBare s.gens)
   (ts : List PTok) (hok : POk false ts) (hlen : (pchars ts).length < 10000) {tp tq : Tok} {star : Addr} (hst : (s.heap.get? star).isSome = true) (hst57 : star ≠ 57)
   (hQ : ∀ s' a vals, (hideAll s.heap [57]).get? a = none → PresBut 57 s.heap s'.heap → TabOk 57 s'.heap → AllBare s'.gens → s'.os = s.os → s'.heap.IsList a vals.toArray → RO (RItem star) vals (ts.map PTok.item) → Q (.ref a) s') :
  wpAny (model PySem.Challenge.rw_ij0038_01.row.prog w) A (call (.ref 62) [.str (S (pchars ts)) tp, .ref star, .str (S [46]) tq]) Q E s := by
  generalize hpat : pchars ts = pat
  rw [hpat] at hlen
  obtain ⟨ps0, hP, htr0⟩ := hT
  obtain ⟨g₀, gs, dr, tk₀, os⟩ := s
  refine' enter_go (K := Mine.heap_39 w.params) X T.nolimit ?r ?ho ?hcd ?hb ?hl ?hc ?_ ?c2 ?c3 ?c4
  case r => omega
  case ho => k_is
  case hcd => k_is
  case hb => exact BindsTo.of_eq rfl
  case hl => ((intro y hy; with_unfolding_all (repeat (first | exact absurd hy List.not_mem_nil | (rcases List.mem_cons.mp hy with hy | hy; (subst hy; rfl))))))
  case hc => decide +kernel
  case c2 => rfl
  case c3 => rfl
  case c4 => rfl
  intro h₁ tk₁ A1 L m0 R a1 a2 a3 hR hm F₀ N₀
  have hh : A1.handled = none := a3.trans hh
  have hroom : A1.depth + 19 < recursionLimit := by omega
  have hun : A1.units + 197 < cLine := by omega
  have g01 : m0 (Str.ofString "pat") = some (.str (S pat) tp) := by rw [hm]; rfl
  have g02 : m0 (Str.ofString "STAR") = some (.ref star) := by rw [hm]; rfl
  have g03 : m0 (Str.ofString "QUESTION_MARK") = some (.str (S [46]) tq) := by rw [hm]; rfl
  have F := under_fr (P := 57) F₀
  have N := under_news F₀ hP
  have Xg := under_K (P := 57) X (by kernel_rfl)
  have Tg := under_top hP T
  have Bg := under_builtins hP hb
  clear hm F₀ N₀ a1 a2 a3 X T hb
  have hpl : (S pat).length = pat.length := S_len pat
  have hsz : (S pat).length ≤ sizeLine := by rw [hpl, sizeLine_eq]; omega
  have hstg : (hideAll g₀ [57]).get? star = g₀.get? star := by
    obtain ⟨o, e⟩ := Option.isSome_iff_exists.mp hst
    rw [e]; exact hideAll_get _ e (by simpa using hst57)
  have hQ : ∀ s' a vals m, Fr (hideAll g₀ [57]) L s'.heap m → (hideAll g₀ [57]).get? a = none → TabOk 57 s'.heap → AllBare s'.gens → s'.os = os → s'.heap.IsList a vals.toArray → RO (RItem star) vals (ts.map PTok.item) → R (.ret (.ref a)) s' := fun s' a vals m F h1 h2 h3 h4 h5 h6 => hR _ _ (hQ s' a vals h1 (under_keep F) h2 h3 h4 h5 h6)
  clear hR
  generalize hideAll g₀ [57] = g at F N Xg Tg Bg hstg hQ
  (with_reducible refine execs_k ?_); (with_reducible refine' wpAny_Assign_Name ?_ ?q146); (case q146 => rfl); refine PyProof.Rows.List_ ?_; (with_reducible refine spliced_none ?_); refine' newList_P (by k_asm) (by k_asm) ?_ (Nat.le_of_ble_eq_true rfl); intro l9 h9 F9 N9 m9; replace m9 := ltk1 m9; walk_at "d"; refine' storeX_L (by k_asm) (by k_asm) ?_ (by rfl) (by rfl); intro h9 F9 N9; walk_at "d"; (with_reducible refine Kx_next ?_); (with_reducible refine execs_k ?_); (with_reducible refine' wpAny_Assign_Name ?_ ?q147); (case q147 => rfl); refine Attribute_name ?_; refine' nameX_L (by k_asm) (by with_reducible exact upd_hit) ?_ (by rfl) (by rfl) (by decide); refine' attr_app (by k_asm) (by k_asm) (by k_mem) ?_; intro l9 h9 F9 N9 m9; replace m9 := ltk2 m9; walk_at "d"; refine' storeX_L (by k_asm) (by k_asm) ?_ (by rfl) (by rfl); intro h9 F9 N9; walk_at "d"; (with_reducible refine Kx_next ?_); (with_reducible refine execs_k ?_); (with_reducible refine' Assign_Tuple_swapped ?_ ?q148 ?q149); (case q148 => rfl); (case q149 => rfl); refine PyProof.Rows.Tuple_ ?_; (with_reducible refine' spliced_more ?_ ?q150); (case q150 => rfl); (with_reducible refine wpAny_Constant_int ?_); walk_at "d"; (with_reducible refine' spliced_more ?_ ?q151); (case q151 => rfl); refine' pe_eval (by k_asm) (by k_asm) (by refine' PE.lenS (by refine' PE.lenB (by k_asm) (by k_asm) ⟨rfl, rfl⟩ (by k_is)) (by refine' PE.nameS ⟨rfl, rfl, by decide⟩ (by with_reducible exact upd_miss (by decide) (upd_miss (by decide) (by assumption)))) (by omega) rfl) ?_; refine At.same rfl ?_; intro k9; (with_reducible (refine PV.all_i ?_; intro t9)); (with_reducible refine spliced_none ?_); refine' newTuple_P ?q152 ?q153 ?_ ?q154; (case q152 => k_asm); (case q153 => k_asm); (case q154 => exact Nat.le_of_ble_eq_true rfl); intro l9 h9 F9 N9 m9; replace m9 := ltk3 m9; walk_at "d"; refine' unpackItemsN_ (by k_asm) (by k_asm) (News.isTup (by k_asm) (by k_mem)) (by assumption) (by rfl) ?_; intro h9 F9 N9; walk_at "d"; refine assignInOrder_cons ?_; walk_at "d"; (with_reducible refine bindName_ ?_); refine' storeX_L (by k_asm) (by k_asm) ?_ (by rfl) (by rfl); intro h9 F9 N9; walk_at "d"; refine assignInOrder_cons ?_; walk_at "d"; (with_reducible refine bindName_ ?_); refine' storeX_L (by k_asm) (by k_asm) ?_ (by rfl) (by rfl); intro h9 F9 N9; walk_at "d"; refine assignInOrder_nil ?_; (with_reducible refine Kx_next ?_); with_reducible refine execs_k ?_
  rename Fr _ _ _ _ => Fa
  rename News _ _ _ _ => Na
  obtain ⟨tu, e_Na0⟩ := ledN0 Na
  subst e_Na0
  obtain ⟨add, e_Na1⟩ := ledN1 Na
  subst e_Na1
  obtain ⟨res, e_Na2⟩ := ledN2 Na
  subst e_Na2
  have Nb : News g L _ _ := fun q hq => Na q (.tail _ hq)
  have r1 : @LT.lt Nat _ 57 res := by assumption
  have r2 : @LT.lt Nat _ res add ∧ @LT.lt Nat _ 57 add := by assumption
  refine while_enter (while_inv (TrJ pat tp star tq os ts) ?wt ts.length _ _ _ Fa Nb ?w0)
  case w0 => exact ⟨[], [], ts, [], 0, res, add, ps0, _, _, hpat.symm, rfl, rfl, hok, trivial, Nat.le_refl _, rfl, Nat.ne_of_gt r2.1, Nat.ne_of_gt r1, Nat.ne_of_gt r2.2, htr0, hG, rfl, by with_reducible exact upd_miss (by decide) (upd_miss (by decide) (upd_miss (by decide) (upd_miss (by decide) (by assumption)))), by with_reducible exact upd_miss (by decide) (upd_miss (by decide) (upd_miss (by decide) (upd_miss (by decide) (by assumption)))), by with_reducible exact upd_miss (by decide) (upd_miss (by decide) (upd_miss (by decide) (upd_miss (by decide) (by assumption)))), by with_reducible exact upd_miss (by decide) (upd_miss (by decide) (upd_miss (by decide) upd_hit)), by with_reducible exact upd_miss (by decide) (upd_miss (by decide) upd_hit), by rfl, by with_reducible exact upd_miss (by decide) upd_hit⟩
  case wt =>
    clear Fa Na Nb F N r1 r2 g01 g02 g03 hG hok
    rintro n ⟨h₀, gs, dr, tk, os⟩ m₁ news₁ F N ⟨pre, done, rest, vals, k, res, add, ps, t, t2, hsp, hall, rfl, hok1, hvs, hvl, rfl, na1, na2, na3, htr, hG1, rfl, g1, g2, g3, g4, g5, g6, g7⟩
    dsimp only at F N hG1
    have hpl2 : (S pat).length = pre.length + (pchars rest).length := by rw [S_len, hsp]; simp
    refine' pt_test (by k_asm) (by k_asm) (by refine' PT.cmpI (by refine' PE.nameI ⟨rfl, rfl, by decide⟩ (by k_all)) (by refine' PE.nameI ⟨rfl, rfl, by decide⟩ (by k_all)) (by rfl) (by with_unfolding_all rfl)) ?_; refine At.same rfl ?_; intro k9
    refine ite_d (fun hlt => ?_) (fun hge => ?_)
    case refine_2 =>
      have : rest = [] := pchars_nil hok1 (by omega)
      subst this
      rw [List.append_nil] at hall
      subst hall
      (with_reducible refine Kx_next ?_); (with_reducible refine execs_k ?_); (with_reducible refine wpAny_Assert_holds ?_); refine' pt_test (by k_asm) (by k_asm) (by refine' PT.cmpI (by refine' PE.nameI ⟨rfl, rfl, by decide⟩ (by k_all)) (by refine' PE.nameI ⟨rfl, rfl, by decide⟩ (by k_all)) (by rfl) (by with_unfolding_all rfl)) ?_; refine At.same rfl ?_; intro k9
      refine ⟨beq_iff_eq.mpr (by simp [pchars] at hpl2; omega), ?_⟩
      (with_reducible refine Kx_next ?_); (with_reducible refine execs_1 ?_); (with_reducible refine wpAny_Return_some ?_); refine' nameX_L (by k_asm) (by k_all) ?_ (by rfl) (by rfl) (by decide)
      rename Fr _ _ _ _ => Fe
      rename News _ _ _ _ => Ne
      exact hQ _ _ vals _ Fe (Ne (res, PySem.W.listOf vals.toArray k) (by k_mem)).2.2 ⟨ps, (Ne (57, tabObj ps) (by k_mem)).1, htr⟩ hG1 rfl (Ne.isList (by k_mem)) hvs
    clear hQ
    refine wp_opq fun R hR => ?_
    cases rest with
    | nil => simp [pchars] at hpl2; omega
    | cons tok r =>
    have hsp2 : pat = pre ++ (tok.chars ++ pchars r) := by rw [hsp]; simp [pchars]
    have hlen2 : pre.length < 20000 := by rw [hsp] at hlen; simp at hlen; omega
    have hvl2 : vals.length < 20000 := by omega
    have h62 : pre.length < 2 ^ 62 := Nat.lt_trans hlen2 (by decide)
    have tt := p_tests hok1
    have hat : (S pat).cps[pre.length]? = some (tok.chars.headD 0) := by
      rw [hsp2, S_get]
      have := tok.pos
      cases tok <;> simp [PTok.chars]
    (with_reducible refine execs_k ?_); refine' exec_asg (by k_asm) (by k_asm) (by refine' PE.chAt (by refine' PE.nameS ⟨rfl, rfl, by decide⟩ (by k_all)) (by refine' PE.nameI ⟨rfl, rfl, by decide⟩ (by k_all)) (by assumption) (by rfl) (by k_all) rfl) (by rfl) (by rfl) (by rfl) ?_; intro h9 k9; (with_reducible (refine PV.all_s ?_; intro t9)); intro F9 N9; (with_reducible refine Kx_next ?_); (with_reducible refine execs_k ?_); refine' exec_asg (by k_asm) (by k_asm) (by refine' PE.add (by refine' PE.nameI ⟨rfl, rfl, by decide⟩ (by with_reducible exact upd_off (by decide) (by assumption))) (PE.int)) (by rfl) (by rfl) (by rfl) ?_; intro h9 k9; (with_reducible (refine PV.all_i ?_; intro t9)); intro F9 N9; with_reducible refine Kx_next ?_
    (with_reducible refine execs_1 ?_); refine' exec_if (by k_asm) (by k_asm) (by refine' PT.cmpS (by refine' PE.nameS ⟨rfl, rfl, by decide⟩ (by with_reducible exact upd_off (by decide) upd_at)) (PE.str) (by rfl) (by with_unfolding_all rfl)) ?_; refine At.same rfl ?_; intro k9
    refine ite_e tt.1 (fun h1 => ?_) (fun h1 => ?_)
    · have hok1 : POk _ (.star :: r) := pk_1 h1 ▸ hok1
      have ecast : (pre.length : Int) + 1 = ((pre ++ tok.chars).length : Nat) := by rw [pk_1 h1]; simp [PTok.chars]
      (with_reducible refine execs_1 ?_); (with_reducible refine wpAny_If ?_); (with_reducible refine isTrue_or ?_); (with_reducible refine isTrue_not ?_); refine PyProof.Rows.isTrue_plain ?_; refine' nameX_L (by k_asm) (by with_reducible exact upd_off (by decide) (upd_off (by decide) (by assumption))) ?_ (by rfl) (by rfl) (by decide); refine' wpAny_truthy_list (News.isList (by k_asm) (by k_mem)) (by simp only [List.size_toArray]; omega) ?_
      have hlv := last_str hvs hok1.1
      rcases hlv with rfl | ⟨l, tl, hlv⟩
      case' inl => refine ite_tt rfl ?_
      case' inr => refine ite_ff (by cases vals <;> simp at hlv ⊢) ?_
      all_goals
        (first | (walk_at "d"; (with_reducible refine isTrue_or ?_); (with_reducible refine' wpAny_isTrue_Compare1 ?_ (by with_unfolding_all rfl)); refine' pe_eval (by k_asm) (by k_asm) (by refine' PE.itemZ (by refine' PE.name ⟨rfl, rfl, by decide⟩ (by with_reducible exact upd_off (by decide) (upd_off (by decide) (by assumption)))) (Px.lst_new (by k_mem)) (by assumption) (by omega)) ?_; refine At.same rfl ?_; intro k9; (with_reducible refine PV.all_v ?_); refine' nameX_L (by k_asm) (by with_reducible exact upd_off (by decide) (upd_off (by decide) (by assumption))) ?_ (by rfl) (by rfl) (by decide); refine wpAny_isNot_other rfl (fun e => nomatch e) ?_; (with_reducible refine wpAny_truthy_bool ?_); (with_reducible refine ite_t ?_); (with_reducible refine ite_t ?_); (with_reducible refine execs_1 ?_); refine wpAny_Expr_any ?_; (with_reducible refine' Call_ ?_ ?q155); (case q155 => rfl); refine' nameX_L (by k_asm) (by with_reducible exact upd_off (by decide) (upd_off (by decide) (by assumption))) ?_ (by rfl) (by rfl) (by decide); refine callWith_app ?_; (with_reducible refine' spliced_more ?_ ?q156); (case q156 => rfl); refine' nameX_L (by k_asm) (by with_reducible exact upd_off (by decide) (upd_off (by decide) (by assumption))) ?_ (by rfl) (by rfl) (by decide); (with_reducible refine spliced_none ?_); walk_at "d"; refine ⟨app_there (by k_asm) (by k_mem), ?_⟩; refine' call_app (by k_asm) (by k_asm) (by k_mem) (by refine' Upd.tail (by k_all) (by refine' Upd.head (by refine List.forall_mem_cons.mpr ⟨by with_reducible exact Ne.symm (by k_all), ?_⟩; exact List.forall_mem_nil _))) ?_ (by first | (simp only [sizeLine_eq, List.size_toArray, List.length_append, List.length_cons, List.length_nil]; omega) | size_fits); intro h9 F9 N9; simp only [List.push_toArray, List.nil_append, List.cons_append] at N9) | (walk_at "d"; (with_reducible refine ite_t ?_); (with_reducible refine execs_1 ?_); refine wpAny_Expr_any ?_; (with_reducible refine' Call_ ?_ ?q157); (case q157 => rfl); refine' nameX_L (by k_asm) (by with_reducible exact upd_off (by decide) (upd_off (by decide) (by assumption))) ?_ (by rfl) (by rfl) (by decide); refine callWith_app ?_; (with_reducible refine' spliced_more ?_ ?q158); (case q158 => rfl); refine' nameX_L (by k_asm) (by with_reducible exact upd_off (by decide) (upd_off (by decide) (by assumption))) ?_ (by rfl) (by rfl) (by decide); (with_reducible refine spliced_none ?_); walk_at "d"; refine ⟨app_there (by k_asm) (by k_mem), ?_⟩; refine' call_app (by k_asm) (by k_asm) (by k_mem) (by refine' Upd.tail (by k_all) (by refine' Upd.head (by refine List.forall_mem_cons.mpr ⟨by with_reducible exact Ne.symm (by k_all), ?_⟩; exact List.forall_mem_nil _))) ?_ (by first | (simp only [sizeLine_eq, List.size_toArray, List.length_append, List.length_cons, List.length_nil]; omega) | size_fits); intro h9 F9 N9; simp only [List.push_toArray, List.nil_append, List.cons_append] at N9))
        rename Fr _ _ _ _ => Fe
        rename News _ _ _ _ => Ne
        exact hR _ _ <| tr_close Fe Ne (pk_1 h1 ▸ rfl) hsp2 hall (pk_1 h1 ▸ hok1.2) hvs hvl na1 na2 na3 htr hG1 rfl (by with_reducible exact upd_off (by decide) (upd_off (by decide) (by assumption))) (by with_reducible exact upd_off (by decide) (upd_off (by decide) (by assumption))) (by with_reducible exact upd_off (by decide) (upd_off (by decide) (by assumption))) (by with_reducible exact upd_off (by decide) (upd_off (by decide) (by assumption))) (by with_reducible exact upd_off (by decide) (upd_off (by decide) (by assumption))) (by rw [← ecast]; with_reducible exact upd_at) (by with_reducible exact upd_off (by decide) (upd_off (by decide) (by assumption)))
    (with_reducible refine execs_1 ?_); refine' exec_if (by k_asm) (by k_asm) (by refine' PT.cmpS (by refine' PE.nameS ⟨rfl, rfl, by decide⟩ (by with_reducible exact upd_off (by decide) upd_at)) (PE.str) (by rfl) (by with_unfolding_all rfl)) ?_; refine At.same rfl ?_; intro k9
    refine ite_e tt.2.1 (fun h2 => ?_) (fun h2 => ?_)
    · have ecast : (pre.length : Int) + 1 = ((pre ++ tok.chars).length : Nat) := by rw [pk_2 h2]; simp [PTok.chars]
      (with_reducible refine execs_1 ?_); refine wpAny_Expr_any ?_; (with_reducible refine' Call_ ?_ ?q159); (case q159 => rfl); refine' nameX_L (by k_asm) (by with_reducible exact upd_off (by decide) (upd_off (by decide) (by assumption))) ?_ (by rfl) (by rfl) (by decide); refine callWith_app ?_; (with_reducible refine' spliced_more ?_ ?q160); (case q160 => rfl); refine' nameX_L (by k_asm) (by with_reducible exact upd_off (by decide) (upd_off (by decide) (by assumption))) ?_ (by rfl) (by rfl) (by decide); (with_reducible refine spliced_none ?_); walk_at "d"; refine ⟨app_there (by k_asm) (by k_mem), ?_⟩; refine' call_app (by k_asm) (by k_asm) (by k_mem) (by refine' Upd.tail (by k_all) (by refine' Upd.head (by refine List.forall_mem_cons.mpr ⟨by with_reducible exact Ne.symm (by k_all), ?_⟩; exact List.forall_mem_nil _))) ?_ (by first | (simp only [sizeLine_eq, List.size_toArray, List.length_append, List.length_cons, List.length_nil]; omega) | size_fits); intro h9 F9 N9; simp only [List.push_toArray, List.nil_append, List.cons_append] at N9
      rename Fr _ _ _ _ => Fe
      rename News _ _ _ _ => Ne
      exact hR _ _ <| tr_close Fe Ne (pk_2 h2 ▸ ⟨_, rfl⟩) hsp2 hall (by rw [pk_2 h2] at hok1 ⊢; exact hok1) hvs hvl na1 na2 na3 htr hG1 rfl (by with_reducible exact upd_off (by decide) (upd_off (by decide) (by assumption))) (by with_reducible exact upd_off (by decide) (upd_off (by decide) (by assumption))) (by with_reducible exact upd_off (by decide) (upd_off (by decide) (by assumption))) (by with_reducible exact upd_off (by decide) (upd_off (by decide) (by assumption))) (by with_reducible exact upd_off (by decide) (upd_off (by decide) (by assumption))) (by rw [← ecast]; with_reducible exact upd_at) (by with_reducible exact upd_off (by decide) (upd_off (by decide) (by assumption)))
    (with_reducible refine execs_1 ?_); refine' exec_if (by k_asm) (by k_asm) (by refine' PT.cmpS (by refine' PE.nameS ⟨rfl, rfl, by decide⟩ (by with_reducible exact upd_off (by decide) upd_at)) (PE.str) (by rfl) (by with_unfolding_all rfl)) ?_; refine At.same rfl ?_; intro k9
    refine ite_e tt.2.2 (fun h3 => ?_) (fun h3 => ?_)
    case' refine_2 =>
      obtain ⟨c, rfl⟩ := pk_4 h1 h2 h3
      have ecast : (pre.length : Int) + 1 = ((pre ++ (PTok.lit c).chars).length : Nat) := by simp [PTok.chars]
      (with_reducible refine execs_1 ?_); refine wpAny_Expr_any ?_; (with_reducible refine' Call_ ?_ ?q161); (case q161 => rfl); refine' nameX_L (by k_asm) (by with_reducible exact upd_off (by decide) (upd_off (by decide) (by assumption))) ?_ (by rfl) (by rfl) (by decide); refine callWith_app ?_; (with_reducible refine' spliced_more ?_ ?q162); (case q162 => rfl); (with_reducible refine' Call_ ?_ ?q163); (case q163 => rfl); refine' nameX_K (by k_asm) (by k_asm) (by k_asm) (by k_is) ?_ (by rfl) (by rfl) (by decide); refine' callWith_K (by k_asm) (by k_is) ?_; walk_at "d"; (with_reducible refine' spliced_more ?_ ?q164); (case q164 => rfl); refine' nameX_L (by k_asm) (by with_reducible exact upd_off (by decide) upd_at) ?_ (by rfl) (by rfl) (by decide); (with_reducible refine spliced_none ?_); walk_at "d"; refine ⟨by k_in, ?_⟩
      refine' escape_spec ?eX ?eT ?er ?eh hok1.1 ?_
      case eX => k_in
      case eT => exact TopRead.keeps (by assumption) (Fr.keep (by k_asm))
      case er => omega
      case eh => exact hh
      intro h₂ tk₂ t₃ P₂
      (rename Pres _ _ => Pa; rename Fr _ _ _ _ => Fa; rename News _ _ _ _ => Na; have F₂ := Fa.keeps Pa; have N₂ := Na.grown Pa; clear Pa Fa Na)
      walk_at "d"; (with_reducible refine spliced_none ?_); walk_at "d"; refine ⟨app_there (by k_asm) (by k_mem), ?_⟩; refine' call_app (by k_asm) (by k_asm) (by k_mem) (by refine' Upd.tail (by k_all) (by refine' Upd.head (by refine List.forall_mem_cons.mpr ⟨by with_reducible exact Ne.symm (by k_all), ?_⟩; exact List.forall_mem_nil _))) ?_ (by first | (simp only [sizeLine_eq, List.size_toArray, List.length_append, List.length_cons, List.length_nil]; omega) | size_fits); intro h9 F9 N9; simp only [List.push_toArray, List.nil_append, List.cons_append] at N9
      rename Fr _ _ _ _ => Fe
      rename News _ _ _ _ => Ne
      exact hR _ _ <| tr_close Fe Ne ⟨_, rfl⟩ hsp2 hall hok1.2 hvs hvl na1 na2 na3 htr hG1 rfl (by with_reducible exact upd_off (by decide) (upd_off (by decide) (by assumption))) (by with_reducible exact upd_off (by decide) (upd_off (by decide) (by assumption))) (by with_reducible exact upd_off (by decide) (upd_off (by decide) (by assumption))) (by with_reducible exact upd_off (by decide) (upd_off (by decide) (by assumption))) (by with_reducible exact upd_off (by decide) (upd_off (by decide) (by assumption))) (by rw [← ecast]; with_reducible exact upd_at) (by with_reducible exact upd_off (by decide) (upd_off (by decide) (by assumption)))
    case refine_1 =>
      obtain ⟨b, o, rfl⟩ := pk_3 h3
      clear tt h1 h2 h3
      obtain ⟨hb1, hb2, hb3, hb4, hb5⟩ := set_facts hok1.1
      have hchar : ∀ d, d ≤ b.length → ∃ c', (S pat).cps[pre.length + 1 + d]? = some c' ∧ (c' = 93 ↔ d = b.length) ∧ (d = 0 → c' = b.headD 0) := by
        intro d hd
        rw [hsp2, S_get, List.getElem?_append_right (by omega)]
        simp only [PTok.chars]
        rw [show pre.length + 1 + d - pre.length = d + 1 by omega, List.cons_append, List.getElem?_cons_succ, List.append_assoc]
        rcases Nat.lt_or_ge d b.length with h | h
        · rw [List.getElem?_append_left h]
          refine ⟨b[d], List.getElem?_eq_getElem h, ⟨fun e => absurd (e ▸ List.getElem_mem h) hb1, fun e => by omega⟩, fun e => ?_⟩
          subst e; cases b with
          | nil => simp at h
          | cons a b => rfl
        · have : d = b.length := by omega
          subst this
          rw [List.getElem?_append_right (Nat.le_refl _)]
          exact ⟨93, by simp, by simp, fun e => by omega⟩
      have hpl3 : (S pat).length = pre.length + (b.length + 2 + (pchars r).length) := by rw [S_len, hsp2]; simp [PTok.chars]; omega
      clear hat
      (with_reducible refine execs_k ?_); refine' exec_asg (by k_asm) (by k_asm) (by refine' PE.name ⟨rfl, rfl, by decide⟩ (by with_reducible exact upd_at)) (by rfl) (by rfl) (by rfl) ?_; intro h9 k9; (with_reducible refine PV.all_v ?_); intro F9 N9; with_reducible refine Kx_next ?_
      refine execs_cutO (fun s' => Xs6 fun h' tk' m' d0 t1 t2' => Cj7 (s' = ⟨h', gs, dr, tk', os⟩) (Fr g L h' m') (News g L h' [(add, appBound res), (res, PySem.W.listOf vals.toArray k), (57, tabObj ps)]) (TrC pat tp tq star res add t2 m') (m' (Str.ofString "i") = some (.int ((pre.length + 1 : Nat) : Int) t1)) (m' (Str.ofString "j") = some (.int ((pre.length + 1 + d0 : Nat) : Int) t2')) (d0 < b.length)) ?cut1 ?cut2
      case cut1 =>
        clear hR
        intro R hR
        obtain ⟨c0, hc0, _, hc0h⟩ := hchar 0 (by omega)
        have hc0e := hc0h rfl
        (with_reducible refine wpAny_If ?_); (with_reducible refine isTrue_and ?_); refine' pt_test (by k_asm) (by k_asm) (by refine' PT.cmpI (by refine' PE.nameI ⟨rfl, rfl, by decide⟩ (by with_reducible exact upd_at)) (by refine' PE.nameI ⟨rfl, rfl, by decide⟩ (by with_reducible exact upd_off (by decide) (upd_off (by decide) (upd_off (by decide) (by assumption))))) (by rfl) (by with_unfolding_all rfl)) ?_; refine At.same rfl ?_; intro k9
        refine ite_tt (decide_eq_true (by omega)) ?_
        (with_reducible refine isTrue_and ?_); refine' pt_test (by k_asm) (by k_asm) (by refine' PT.cmpS (by refine' PE.chAt (by refine' PE.nameS ⟨rfl, rfl, by decide⟩ (by with_reducible exact upd_off (by decide) (upd_off (by decide) (upd_off (by decide) (by assumption))))) (by refine' PE.nameI ⟨rfl, rfl, by decide⟩ (by with_reducible exact upd_at)) (by assumption) (by rfl) (by omega) rfl) (PE.str) (by rfl) (by with_unfolding_all rfl)) ?_; refine At.same rfl ?_; intro k9
        refine ite_b (fun h33 => ?_) (fun h33 => ?_)
        · (with_reducible refine isTrue_and_nil ?_); (with_reducible refine ite_t ?_); (with_reducible refine execs_1 ?_); refine' exec_asg (by k_asm) (by k_asm) (by refine' PE.add (by refine' PE.nameI ⟨rfl, rfl, by decide⟩ (by with_reducible exact upd_at)) (PE.int)) (by rfl) (by rfl) (by rfl) ?_; intro h9 k9; (with_reducible (refine PV.all_i ?_; intro t9)); intro F9 N9
          rename Fr _ _ _ _ => Fe
          rename News _ _ _ _ => Ne
          refine hR _ ⟨_, _, _, 1, _, _, rfl, Fe, Ne, ⟨by with_reducible exact upd_off (by decide) (upd_off (by decide) (upd_off (by decide) (upd_off (by decide) (by assumption)))), by with_reducible exact upd_off (by decide) (upd_off (by decide) (upd_off (by decide) (upd_off (by decide) (by assumption)))), by with_reducible exact upd_off (by decide) (upd_off (by decide) (upd_off (by decide) (upd_off (by decide) (by assumption)))), by with_reducible exact upd_off (by decide) (upd_off (by decide) (upd_off (by decide) (upd_off (by decide) (by assumption)))), by with_reducible exact upd_off (by decide) (upd_off (by decide) (upd_off (by decide) (upd_off (by decide) (by assumption)))), by with_reducible exact upd_off (by decide) (upd_off (by decide) (upd_off (by decide) (upd_off (by decide) (by assumption))))⟩, by rw [show ((pre.length + 1 : Nat) : Int) = (pre.length : Int) + 1 by omega]; with_reducible exact upd_off (by decide) (upd_off (by decide) upd_at), by rw [show ((pre.length + 1 + 1 : Nat) : Int) = (pre.length : Int) + 1 + 1 by omega]; with_reducible exact upd_at, ?_⟩
          have : b.headD 0 = 33 := by rw [← hc0e]; have h33' : ([c0] == [33]) = true := h33; simpa using h33'
          have := hb4 this
          omega
        · (with_reducible refine ite_f ?_); with_reducible refine wpAny_execs_nil ?_
          rename Fr _ _ _ _ => Fe
          rename News _ _ _ _ => Ne
          exact hR _ ⟨_, _, _, 0, _, _, rfl, Fe, Ne, ⟨by with_reducible exact upd_off (by decide) (upd_off (by decide) (upd_off (by decide) (by assumption))), by with_reducible exact upd_off (by decide) (upd_off (by decide) (upd_off (by decide) (by assumption))), by with_reducible exact upd_off (by decide) (upd_off (by decide) (upd_off (by decide) (by assumption))), by with_reducible exact upd_off (by decide) (upd_off (by decide) (upd_off (by decide) (by assumption))), by with_reducible exact upd_off (by decide) (upd_off (by decide) (upd_off (by decide) (by assumption))), by with_reducible exact upd_off (by decide) (upd_off (by decide) (upd_off (by decide) (by assumption)))⟩, by rw [show ((pre.length + 1 : Nat) : Int) = (pre.length : Int) + 1 by omega]; with_reducible exact upd_off (by decide) upd_at, by rw [show ((pre.length + 1 + 0 : Nat) : Int) = (pre.length : Int) + 1 by omega]; with_reducible exact upd_at, by omega⟩
      case cut2 =>
        rintro _ ⟨h', tk', m', d0, t1, t2', rfl, F, N, ⟨g1, g2, g3, g4, g5, g7⟩, g6, g8, hd0⟩
        obtain ⟨c1, hc1, hc1i, _⟩ := hchar d0 (by omega)
        have hc1n : c1 ≠ 93 := fun e => by have := hc1i.mp e; omega
        (with_reducible refine execs_k ?_); (with_reducible refine wpAny_If ?_); (with_reducible refine isTrue_and ?_); refine' pt_test (by k_asm) (by k_asm) (by refine' PT.cmpI (by refine' PE.nameI ⟨rfl, rfl, by decide⟩ (by k_all)) (by refine' PE.nameI ⟨rfl, rfl, by decide⟩ (by k_all)) (by rfl) (by with_unfolding_all rfl)) ?_; refine At.same rfl ?_; intro k9
        refine ite_tt (decide_eq_true (by omega)) ?_
        (with_reducible refine isTrue_and ?_); refine' pt_test (by k_asm) (by k_asm) (by refine' PT.cmpS (by refine' PE.chAt (by refine' PE.nameS ⟨rfl, rfl, by decide⟩ (by k_all)) (by refine' PE.nameI ⟨rfl, rfl, by decide⟩ (by k_all)) (by assumption) (by rfl) (by omega) rfl) (PE.str) (by rfl) (by with_unfolding_all rfl)) ?_; refine At.same rfl ?_; intro k9
        refine ite_ff (hd_ne hc1n) ?_
        (with_reducible refine ite_f ?_); (with_reducible refine wpAny_execs_nil ?_); (with_reducible refine Kx_next ?_); with_reducible refine execs_k ?_
        clear hc1 hc1i
        rename Fr _ _ _ _ => Fa
        rename News _ _ _ _ => Na
        refine While_inv2 (fun n m₂ news₂ => Xs2 fun d t3 => Cj6 (n = b.length - d) (d ≤ b.length) (news₂ = [(add, appBound res), (res, PySem.W.listOf vals.toArray k), (57, tabObj ps)]) (TrC pat tp tq star res add t2 m₂) (m₂ (Str.ofString "i") = some (.int ((pre.length + 1 : Nat) : Int) t1)) (m₂ (Str.ofString "j") = some (.int ((pre.length + 1 + d : Nat) : Int) t3))) (n₀ := b.length - d0) Fa Na ?w0 ?wt
        case w0 => exact ⟨d0, t2', rfl, by omega, rfl, ⟨g1, g2, g3, g4, g5, g7⟩, g6, g8⟩
        case wt =>
          clear Fa Na F N g1 g2 g3 g4 g5 g6 g7 g8
          rintro n m₂ news₂ h₂ tk₂ F N ⟨d, t3, rfl, hd, rfl, ⟨g1, g2, g3, g4, g5, g7⟩, g6, g8⟩
          obtain ⟨c2, hc2, hc2i, _⟩ := hchar d hd
          walk_at "d"; (with_reducible refine isTrue_and ?_); refine' pt_test (by k_asm) (by k_asm) (by refine' PT.cmpI (by refine' PE.nameI ⟨rfl, rfl, by decide⟩ (by k_all)) (by refine' PE.nameI ⟨rfl, rfl, by decide⟩ (by k_all)) (by rfl) (by with_unfolding_all rfl)) ?_; refine At.same rfl ?_; intro k9
          refine ite_tt (decide_eq_true (by omega)) ?_
          (with_reducible refine isTrue_and ?_); refine' pt_test (by k_asm) (by k_asm) (by refine' PT.cmpS (by refine' PE.chAt (by refine' PE.nameS ⟨rfl, rfl, by decide⟩ (by k_all)) (by refine' PE.nameI ⟨rfl, rfl, by decide⟩ (by k_all)) (by assumption) (by rfl) (by omega) rfl) (PE.str) (by rfl) (by with_unfolding_all rfl)) ?_; refine At.same rfl ?_; intro k9
          refine ite_b (fun hne => ?_) (fun hne => ?_)
          · have hne' : ([c2] != [93]) = true := hne
            have hdl : d < b.length := by
              have : c2 ≠ 93 := by simpa using hne'
              rcases Nat.lt_or_ge d b.length with h | h
              · exact h
              · exact absurd (hc2i.mpr (by omega)) this
            (with_reducible refine isTrue_and_nil ?_); (with_reducible refine ite_t ?_); (with_reducible refine execs_1 ?_); refine' exec_asg (by k_asm) (by k_asm) (by refine' PE.add (by refine' PE.nameI ⟨rfl, rfl, by decide⟩ (by k_all)) (PE.int)) (by rfl) (by rfl) (by rfl) ?_; intro h9 k9; (with_reducible (refine PV.all_i ?_; intro t9)); intro F9 N9
            rename Fr _ _ _ _ => Fe
            rename News _ _ _ _ => Ne
            exact ⟨_, _, _, _, b.length - (d + 1), rfl, Fe, Ne, by omega, d + 1, _, rfl, by omega, rfl, ⟨by with_reducible exact upd_off (by decide) (by assumption), by with_reducible exact upd_off (by decide) (by assumption), by with_reducible exact upd_off (by decide) (by assumption), by with_reducible exact upd_off (by decide) (by assumption), by with_reducible exact upd_off (by decide) (by assumption), by with_reducible exact upd_off (by decide) (by assumption)⟩, by with_reducible exact upd_off (by decide) (by assumption), by rw [show ((pre.length + 1 + (d + 1) : Nat) : Int) = ((pre.length + 1 + d : Nat) : Int) + 1 by omega]; with_reducible exact upd_at⟩
          · have hne' : ([c2] != [93]) = false := hne
            have hdl : d = b.length := hc2i.mp (by simpa using hne')
            subst hdl
            clear hc2 hc2i
            (with_reducible refine ite_f ?_); (with_reducible refine Kx_next ?_); (with_reducible refine execs_1 ?_); refine' exec_if (by k_asm) (by k_asm) (by refine' PT.cmpI (by refine' PE.nameI ⟨rfl, rfl, by decide⟩ (by k_all)) (by refine' PE.nameI ⟨rfl, rfl, by decide⟩ (by k_all)) (by rfl) (by with_unfolding_all rfl)) ?_; refine At.same rfl ?_; intro k9
            refine ite_ff (decide_eq_false (by omega)) ?_
            (with_reducible refine execs_k ?_); refine' exec_asg (by k_asm) (by k_asm) (by refine' PE.slSS (by refine' PE.nameS ⟨rfl, rfl, by decide⟩ (by k_all)) (by refine' PE.nameI ⟨rfl, rfl, by decide⟩ (by k_all)) (by refine' PE.nameI ⟨rfl, rfl, by decide⟩ (by k_all)) (by k_all)) (by rfl) (by rfl) (by rfl) ?_; intro h9 k9; (with_reducible (refine PV.all_s ?_; intro t9)); intro F9 N9; with_reducible refine Kx_next ?_
            have cS : Txt.slice (S pat) (some ((pre.length + 1 : Nat) : Int)) (some ((pre.length + 1 + b.length : Nat) : Int)) = S b := by
              rw [hsp2, show pre ++ ((PTok.set b o).chars ++ pchars r) = (pre ++ [91]) ++ (b ++ (93 :: pchars r)) by simp [PTok.chars]]
              exact cut_mid _ _ _ _ _ (by simp) (by simp)
            rename Fr _ _ _ _ => Fq
            generalize Txt.slice (S pat) (some ((pre.length + 1 : Nat) : Int)) (some ((pre.length + 1 + b.length : Nat) : Int)) = sb at cS Fq ⊢
            subst cS
            refine execs_cutO (fun s' => Xs5 fun m' st ps' t4 t5 => Cj9 (Fr g L s'.heap m') (News g L s'.heap [(add, appBound res), (res, PySem.W.listOf vals.toArray k), (57, tabObj ps')]) (TriplesOk ps'.toList) (AllBare s'.gens) (s'.os = os) (TrC pat tp tq star res add t2 m') (m' (Str.ofString "stuff") = some (.str (S st) t4)) (m' (Str.ofString "j") = some (.int ((pre.length + 1 + b.length : Nat) : Int) t5)) ((b, o, st) ∈ setStuff)) ?cut3 ?cut4
            case cut3 =>
              clear hR
              intro R hR
              refine' exec_if (by k_asm) (by k_asm) (by refine' PT.cmpS (PE.str) (by refine' PE.nameS ⟨rfl, rfl, by decide⟩ (by with_reducible exact upd_at)) (by rfl) (by with_unfolding_all rfl)) ?_; refine At.same rfl ?_; intro k9
              rw [show Str.ofString "-" = (⟨#[45]⟩ : Str) from rfl, StrLaws.found_one]
              rcases hok1.1 with hpl | hda
              · have hpl' : 45 ∉ b ∧ 92 ∉ b ∧ (b, o, b) ∈ setStuff := by
                  simp only [List.mem_cons, List.not_mem_nil, or_false, Prod.mk.injEq] at hpl
                  rcases hpl with ⟨rfl, rfl⟩ | ⟨rfl, rfl⟩ | ⟨rfl, rfl⟩ <;> exact ⟨by decide, by decide, by decide⟩
                refine ite_tt (by simp [hpl'.1]) ?_
                (with_reducible refine execs_1 ?_); (with_reducible refine' wpAny_Assign_Name ?_ ?q165); (case q165 => rfl); (with_reducible refine' PyProof.Rows.MethodCall_ ?_ ?q166); (case q166 => rfl); refine' nameX_L (by k_asm) (by with_reducible exact upd_at) ?_ (by rfl) (by rfl) (by decide); (with_reducible refine GM.replace ?_); walk_at "d"; (with_reducible refine' PyProof.Rows.callWith_method1 ?_ ?q167 ?q168); (case q167 => rfl); (case q168 => rfl); walk_at "d"; (with_reducible refine' spliced_more ?_ ?q169); (case q169 => rfl); (with_reducible refine Calls.Constant_str ?_); walk_at "d"; (with_reducible refine' spliced_more ?_ ?q170); (case q170 => rfl); (with_reducible refine Calls.Constant_str ?_); walk_at "d"; with_reducible refine spliced_none ?_
                refine repl_none (List.isEmpty_iff.mpr (no_occ b 92 _ hpl'.2.1)) ?_
                refine' storeX_L (by k_asm) (by k_asm) ?_ (by rfl) (by rfl); intro h9 F9 N9
                rename Fr _ _ _ _ => Fe
                rename News _ _ _ _ => Ne
                exact hR _ ⟨_, b, ps, _, _, Fe, Ne, htr, hG1, rfl, ⟨by with_reducible exact upd_miss (by decide) (upd_off (by decide) (by assumption)), by with_reducible exact upd_miss (by decide) (upd_off (by decide) (by assumption)), by with_reducible exact upd_miss (by decide) (upd_off (by decide) (by assumption)), by with_reducible exact upd_miss (by decide) (upd_off (by decide) (by assumption)), by with_reducible exact upd_miss (by decide) (upd_off (by decide) (by assumption)), by with_reducible exact upd_miss (by decide) (upd_off (by decide) (by assumption))⟩, by with_reducible exact upd_hit, by with_reducible exact upd_miss (by decide) (upd_off (by decide) (by assumption)), hpl'.2.2⟩
              · obtain ⟨a, d, rfl, ha1, ha2, hah, hd45, hcmp⟩ := dash_facts hda
                refine ite_ff (by simp) ?_
                have hk0 : (S pat).cps[pre.length + 1]? = some ((a ++ [45, d]).headD 0) := by
                  obtain ⟨c', hc', _, hc2⟩ := hchar 0 (by simp)
                  rw [hc2 rfl] at hc'; exact hc'
                (with_reducible refine execs_k ?_); (with_reducible refine' wpAny_Assign_Name ?_ ?q171); (case q171 => rfl); refine PyProof.Rows.List_ ?_; (with_reducible refine spliced_none ?_); refine' newList_P (by k_asm) (by k_asm) ?_ (Nat.le_of_ble_eq_true rfl); intro l9 h9 F9 N9 m9; replace m9 := ltk3 m9; walk_at "d"; refine' storeX_L (by k_asm) (by k_asm) ?_ (by rfl) (by rfl); intro h9 F9 N9; walk_at "d"; (with_reducible refine Kx_next ?_); (with_reducible refine execs_k ?_); (with_reducible refine' wpAny_Assign_Name ?_ ?q172); (case q172 => rfl); (with_reducible refine wpAny_IfExp ?_); refine' pt_test (by k_asm) (by k_asm) (by refine' PT.cmpS (by refine' PE.chAt (by refine' PE.nameS ⟨rfl, rfl, by decide⟩ (by with_reducible exact upd_miss (by decide) (upd_off (by decide) (by assumption)))) (by refine' PE.nameI ⟨rfl, rfl, by decide⟩ (by with_reducible exact upd_miss (by decide) (upd_off (by decide) (by assumption)))) (by assumption) (by rfl) (by omega) rfl) (PE.str) (by rfl) (by with_unfolding_all rfl)) ?_; refine At.same rfl ?_; intro k9
                rename Heap => hk
                rename Fr _ _ _ _ => Fk
                rename News _ _ _ _ => Nk
                obtain ⟨ch, e_Nk0⟩ := ledN0 Nk
                subst e_Nk0
                have hbl : (a ++ [45, d]).length = a.length + 2 := by simp
                rw [hbl] at *
                refine ite_cut (fun v s' => Xs2 fun t tk => v = .int ((pre.length + 1 + a.length : Nat) : Int) t ∧ s' = ⟨hk, gs, dr, tk, os⟩) (fun he => ?_) (fun he => ?_) ?_
                · have : a.length = 2 := hah.mp (by have he' : ([(a ++ [45, d]).headD 0] == [33]) = true := he; simpa using he')
                  refine' pe_eval (by k_asm) (by k_asm) (by refine' PE.add (by refine' PE.nameI ⟨rfl, rfl, by decide⟩ (by with_reducible exact upd_miss (by decide) (upd_off (by decide) (by assumption)))) (PE.int)) ?_; refine At.same rfl ?_; intro k9; with_reducible (refine PV.all_i ?_; intro t9)
                  exact ⟨_, _, by rw [this]; rfl, rfl⟩
                · have : a.length = 1 := by
                    have he' : ([(a ++ [45, d]).headD 0] == [33]) = false := he
                    have : ¬ a.length = 2 := fun q => by rw [hah.mpr q] at he'; simp at he'
                    omega
                  refine' pe_eval (by k_asm) (by k_asm) (by refine' PE.add (by refine' PE.nameI ⟨rfl, rfl, by decide⟩ (by with_reducible exact upd_miss (by decide) (upd_off (by decide) (by assumption)))) (PE.int)) ?_; refine At.same rfl ?_; intro k9; with_reducible (refine PV.all_i ?_; intro t9)
                  exact ⟨_, _, by rw [this]; rfl, rfl⟩
                rintro v s' ⟨t6, tk6, rfl, rfl⟩
                refine' storeX_L (by k_asm) (by k_asm) ?_ (by rfl) (by rfl); intro h9 F9 N9; walk_at "d"; (with_reducible refine Kx_next ?_); with_reducible refine execs_k ?_
                have hdash : (S pat).cps[pre.length + 1 + a.length]? = some 45 := by
                  rw [hsp2, S_get, List.getElem?_append_right (by omega)]
                  simp only [PTok.chars]
                  rw [show pre.length + 1 + a.length - pre.length = a.length + 1 by omega, List.cons_append, List.getElem?_cons_succ, List.append_assoc, List.append_assoc, List.getElem?_append_right (Nat.le_refl _)]
                  simp
                have cA : Txt.slice (S pat) (some ((pre.length + 1 : Nat) : Int)) (some ((pre.length + 1 + a.length : Nat) : Int)) = S a := by
                  rw [hsp2, show pre ++ ((PTok.set (a ++ [45, d]) o).chars ++ pchars r) = (pre ++ [91]) ++ (a ++ (45 :: d :: 93 :: pchars r)) by simp [PTok.chars]]
                  exact cut_mid _ _ _ _ _ (by simp) (by simp)
                have cD : Txt.slice (S pat) (some (((pre.length + 1 + a.length : Nat) : Int) + 1)) (some ((pre.length + 1 + (a ++ [45, d]).length : Nat) : Int)) = S [d] := by
                  rw [hsp2, show pre ++ ((PTok.set (a ++ [45, d]) o).chars ++ pchars r) = (pre ++ (91 :: (a ++ [45]))) ++ ([d] ++ (93 :: pchars r)) by simp [PTok.chars]]
                  exact cut_mid _ _ _ _ _ (by simp; omega) (by simp; omega)
                have hjl : pre.length + 1 + (a ++ [45, d]).length ≤ (S pat).length := by omega
                clear hchar hk0 hah
                refine while_enter (while_turn ?_)
                refine PyProof.Rows.isTrue_plain ?_; (with_reducible refine wpAny_Constant_bool ?_); (with_reducible refine wpAny_truthy_bool ?_); (with_reducible refine ite_t ?_); (with_reducible refine execs_k ?_); (with_reducible refine' wpAny_Assign_Name ?_ ?q173); (case q173 => rfl); (with_reducible refine' PyProof.Rows.MethodCall_ ?_ ?q174); (case q174 => rfl); refine' nameX_L (by k_asm) (by with_reducible exact upd_miss (by decide) (upd_miss (by decide) (upd_off (by decide) (by assumption)))) ?_ (by rfl) (by rfl) (by decide); (with_reducible refine GM.find ?_); walk_at "d"; (with_reducible refine' PyProof.Rows.callWith_method1 ?_ ?q175 ?q176); (case q175 => rfl); (case q176 => rfl); walk_at "d"; (with_reducible refine' spliced_more ?_ ?q177); (case q177 => rfl); (with_reducible refine Calls.Constant_str ?_); walk_at "d"; (with_reducible refine' spliced_more ?_ ?q178); (case q178 => rfl); refine' nameX_L (by k_asm) (by with_reducible exact upd_hit) ?_ (by rfl) (by rfl) (by decide); (with_reducible refine' spliced_more ?_ ?q179); (case q179 => rfl); refine' nameX_L (by k_asm) (by with_reducible exact upd_miss (by decide) (upd_miss (by decide) (upd_off (by decide) (by assumption)))) ?_ (by rfl) (by rfl) (by decide); with_reducible refine spliced_none ?_
                refine find_in (pre.length + 1 + a.length) (occ_here hdash (by simp; omega) hjl) hjl ?_
                walk_at "d"; refine' storeX_L (by k_asm) (by k_asm) ?_ (by rfl) (by rfl); intro h9 F9 N9; walk_at "d"; (with_reducible refine Kx_next ?_); (with_reducible refine execs_k ?_); refine' exec_if (by k_asm) (by k_asm) (by refine' PT.cmpI (by refine' PE.nameI ⟨rfl, rfl, by decide⟩ (by with_reducible exact upd_hit)) (PE.int) (by rfl) (by with_unfolding_all rfl)) ?_; refine At.same rfl ?_; intro k9
                refine ite_ff (decide_eq_false (by omega)) ?_
                (with_reducible refine wpAny_execs_nil ?_); (with_reducible refine Kx_next ?_); (with_reducible refine execs_k ?_); refine wpAny_Expr_any ?_; (with_reducible refine' PyProof.Rows.MethodCall_ ?_ ?q180); (case q180 => rfl); refine' nameX_L (by k_asm) (by with_reducible exact upd_miss (by decide) (upd_miss (by decide) upd_hit)) ?_ (by rfl) (by rfl) (by decide); refine' getMethod_append_N (by k_asm) (by k_mem) ?_ (by rfl) (by rfl); walk_at "d"; (with_reducible refine' PyProof.Rows.callWith_method1 ?_ ?q181 ?q182); (case q181 => rfl); (case q182 => rfl); walk_at "d"; (with_reducible refine' spliced_more ?_ ?q183); (case q183 => rfl); refine' pe_eval (by k_asm) (by k_asm) (by refine' PE.slSS (by refine' PE.nameS ⟨rfl, rfl, by decide⟩ (by with_reducible exact upd_miss (by decide) (upd_miss (by decide) (upd_miss (by decide) (upd_off (by decide) (by assumption)))))) (by refine' PE.nameI ⟨rfl, rfl, by decide⟩ (by with_reducible exact upd_miss (by decide) (upd_miss (by decide) (upd_miss (by decide) (upd_off (by decide) (by assumption)))))) (by refine' PE.nameI ⟨rfl, rfl, by decide⟩ (by with_reducible exact upd_hit)) (by k_all)) ?_; refine At.any ?_; intro h9 k9 F9 N9; (with_reducible (refine PV.all_s ?_; intro t9)); (with_reducible refine spliced_none ?_); refine' append_K (by k_asm) (by k_asm) (by refine' Upd.head (by refine List.forall_mem_cons.mpr ⟨by (refine neN ?_; dsimp only; with_reducible exact nq0 (by k_all)), ?_⟩; refine List.forall_mem_cons.mpr ⟨by (refine neN ?_; dsimp only; with_reducible exact nq1 (by k_all)), ?_⟩; refine List.forall_mem_cons.mpr ⟨by (refine neN ?_; dsimp only; with_reducible exact nl2 (by k_all)), ?_⟩; exact List.forall_mem_nil _)) ?_ (by first | (simp only [sizeLine_eq, List.size_toArray, List.length_append, List.length_cons, List.length_nil]; omega) | size_fits); intro h9 F9 N9; simp only [List.push_toArray, List.nil_append, List.cons_append] at N9; walk_at "d"; (with_reducible refine Kx_next ?_); (with_reducible refine execs_k ?_); refine' exec_asg (by k_asm) (by k_asm) (by refine' PE.add (by refine' PE.nameI ⟨rfl, rfl, by decide⟩ (by with_reducible exact upd_hit)) (PE.int)) (by rfl) (by rfl) (by rfl) ?_; intro h9 k9; (with_reducible (refine PV.all_i ?_; intro t9)); intro F9 N9; (with_reducible refine Kx_next ?_); (with_reducible refine execs_1 ?_); refine' exec_asg (by k_asm) (by k_asm) (by refine' PE.add (by refine' PE.nameI ⟨rfl, rfl, by decide⟩ (by with_reducible exact upd_off (by decide) upd_hit)) (PE.int)) (by rfl) (by rfl) (by rfl) ?_; intro h9 k9; (with_reducible (refine PV.all_i ?_; intro t9)); intro F9 N9
                rename News _ _ _ _ => Nq
                rw [cA] at Nq
                refine while_turn ?_
                refine PyProof.Rows.isTrue_plain ?_; (with_reducible refine wpAny_Constant_bool ?_); (with_reducible refine wpAny_truthy_bool ?_); (with_reducible refine ite_t ?_); (with_reducible refine execs_k ?_); (with_reducible refine' wpAny_Assign_Name ?_ ?q184); (case q184 => rfl); (with_reducible refine' PyProof.Rows.MethodCall_ ?_ ?q185); (case q185 => rfl); refine' nameX_L (by k_asm) (by with_reducible exact upd_off (by decide) (upd_off (by decide) (upd_miss (by decide) (upd_miss (by decide) (upd_miss (by decide) (upd_off (by decide) (by assumption))))))) ?_ (by rfl) (by rfl) (by decide); (with_reducible refine GM.find ?_); walk_at "d"; (with_reducible refine' PyProof.Rows.callWith_method1 ?_ ?q186 ?q187); (case q186 => rfl); (case q187 => rfl); walk_at "d"; (with_reducible refine' spliced_more ?_ ?q188); (case q188 => rfl); (with_reducible refine Calls.Constant_str ?_); walk_at "d"; (with_reducible refine' spliced_more ?_ ?q189); (case q189 => rfl); refine' nameX_L (by k_asm) (by with_reducible exact upd_at) ?_ (by rfl) (by rfl) (by decide); (with_reducible refine' spliced_more ?_ ?q190); (case q190 => rfl); refine' nameX_L (by k_asm) (by with_reducible exact upd_off (by decide) (upd_off (by decide) (upd_miss (by decide) (upd_miss (by decide) (upd_miss (by decide) (upd_off (by decide) (by assumption))))))) ?_ (by rfl) (by rfl) (by decide); with_reducible refine spliced_none ?_
                rw [show (((pre.length + 1 + a.length : Nat) : Int) + 3) = ((pre.length + 1 + a.length + 3 : Nat) : Int) by omega]
                refine find_out (by simp; omega) hjl ?_
                walk_at "d"; refine' storeX_L (by k_asm) (by k_asm) ?_ (by rfl) (by rfl); intro h9 F9 N9; walk_at "d"; (with_reducible refine Kx_next ?_); (with_reducible refine execs_k ?_); refine' exec_if (by k_asm) (by k_asm) (by refine' PT.cmpI (by refine' PE.nameI ⟨rfl, rfl, by decide⟩ (by with_reducible exact upd_hit)) (PE.int) (by rfl) (by with_unfolding_all rfl)) ?_; refine At.same rfl ?_; intro k9
                refine ite_tt (by decide) ?_
                (with_reducible refine execs_1 ?_); (with_reducible refine wpAny_Break ?_); (with_reducible refine Kx_brk ?_); walk_at "d"; (with_reducible refine Kx_next ?_); (with_reducible refine execs_k ?_); refine' exec_asg (by k_asm) (by k_asm) (by refine' PE.slSS (by refine' PE.nameS ⟨rfl, rfl, by decide⟩ (by with_reducible exact upd_miss (by decide) (upd_off (by decide) (upd_off (by decide) (upd_miss (by decide) (upd_miss (by decide) (upd_miss (by decide) (upd_off (by decide) (by assumption))))))))) (by refine' PE.nameI ⟨rfl, rfl, by decide⟩ (by with_reducible exact upd_miss (by decide) (upd_off (by decide) upd_at))) (by refine' PE.nameI ⟨rfl, rfl, by decide⟩ (by with_reducible exact upd_miss (by decide) (upd_off (by decide) (upd_off (by decide) (upd_miss (by decide) (upd_miss (by decide) (upd_miss (by decide) (upd_off (by decide) (by assumption))))))))) (by k_all)) (by rfl) (by rfl) (by rfl) ?_; intro h9 k9; (with_reducible (refine PV.all_s ?_; intro t9)); intro F9 N9; (with_reducible refine Kx_next ?_); (with_reducible refine execs_k ?_); (with_reducible refine wpAny_If ?_); refine PyProof.Rows.isTrue_plain ?_; refine' nameX_L (by k_asm) (by with_reducible exact upd_at) ?_ (by rfl) (by rfl) (by decide)
                rename Fr _ _ _ _ => Fq
                generalize Txt.slice (S pat) (some (((pre.length + 1 + a.length : Nat) : Int) + 1)) (some ((pre.length + 1 + (a ++ [45, d]).length : Nat) : Int)) = sd at cD Fq ⊢
                subst cD
                refine' PySem.P.truthy_str (by simp only [S_len, List.length_cons, List.length_nil]; omega) ?_
                refine ite_tt rfl ?_
                walk_at "d"; (with_reducible refine execs_1 ?_); refine wpAny_Expr_any ?_; (with_reducible refine' PyProof.Rows.MethodCall_ ?_ ?q191); (case q191 => rfl); refine' nameX_L (by k_asm) (by with_reducible exact upd_off (by decide) (upd_miss (by decide) (upd_off (by decide) (upd_off (by decide) (upd_miss (by decide) (upd_miss (by decide) upd_hit)))))) ?_ (by rfl) (by rfl) (by decide); refine' getMethod_append_N (by k_asm) (by k_mem) ?_ (by rfl) (by rfl); walk_at "d"; (with_reducible refine' PyProof.Rows.callWith_method1 ?_ ?q192 ?q193); (case q192 => rfl); (case q193 => rfl); walk_at "d"; (with_reducible refine' spliced_more ?_ ?q194); (case q194 => rfl); refine' nameX_L (by k_asm) (by with_reducible exact upd_at) ?_ (by rfl) (by rfl) (by decide); (with_reducible refine spliced_none ?_); refine' append_K (by k_asm) (by k_asm) (by refine' Upd.head (by refine List.forall_mem_cons.mpr ⟨by (refine neN ?_; dsimp only; with_reducible exact nq0 (by k_all)), ?_⟩; refine List.forall_mem_cons.mpr ⟨by (refine neN ?_; dsimp only; with_reducible exact nq1 (by k_all)), ?_⟩; refine List.forall_mem_cons.mpr ⟨by (refine neN ?_; dsimp only; with_reducible exact nl2 (by k_all)), ?_⟩; exact List.forall_mem_nil _)) ?_ (by first | (simp only [sizeLine_eq, List.size_toArray, List.length_append, List.length_cons, List.length_nil]; omega) | size_fits); intro h9 F9 N9; simp only [List.push_toArray, List.nil_append, List.cons_append] at N9; walk_at "d"; (with_reducible refine Kx_next ?_); with_reducible refine execs_k ?_
                refine wpAny_For ?_ (fun _ => rfl)
                (with_reducible refine' Call_ ?_ ?q195); (case q195 => rfl); refine' nameX_B (by k_asm) (by k_asm) (by k_asm) (by k_is) (by boot_fast) (by decide) ?_ (by rfl) (by rfl) (by decide); (with_reducible refine' callWith_type1 ?_ ?q196 ?q197); (case q196 => rfl); (case q197 => rfl); (with_reducible refine' spliced_more ?_ ?q198); (case q198 => rfl); refine' pe_eval (by k_asm) (by k_asm) (by refine' PE.sub (by refine' PE.lenL (by refine' PE.lenB (by k_asm) (by k_asm) ⟨rfl, rfl⟩ (by k_is)) (by refine' PE.name ⟨rfl, rfl, by decide⟩ (by with_reducible exact upd_off (by decide) (upd_miss (by decide) (upd_off (by decide) (upd_off (by decide) (upd_miss (by decide) (upd_miss (by decide) upd_hit))))))) (Px.lst_new (by k_mem)) (by simp only [List.length_append, List.length_cons, List.length_nil]; omega) rfl) (PE.int)) ?_; refine At.same rfl ?_; intro k9; (with_reducible (refine PV.all_i ?_; intro t9)); (with_reducible refine' spliced_more ?_ ?q199); (case q199 => rfl); (with_reducible refine wpAny_Constant_int ?_); walk_at "d"; (with_reducible refine' spliced_more ?_ ?q200); (case q200 => rfl); refine' pe_eval (by k_asm) (by k_asm) (by refine' PE.neg (PE.int)) ?_; refine At.same rfl ?_; intro k9; (with_reducible (refine PV.all_i ?_; intro t9)); with_reducible refine spliced_none ?_
                rename Fr _ _ _ _ => Fr1
                rename News _ _ _ _ => Nr1
                refine call_range_3 (a := 1) (by decide) ?_
                obtain ⟨e, hal⟩ : ∃ e, a.getLast? = some e := by rcases hcmp with ⟨e, he, _⟩ | ⟨e, he, _⟩ <;> exact ⟨e, he⟩
                refine for_down hh (IsRange.new _ _ _ _ _ _ _) (Fr1.push _) (fun p hp => ⟨Heap.get?_push_of_some _ (Nr1 p hp).1, (Nr1 p hp).2⟩) (fun _ _ => rfl)
                  (fun i m' news' => Xs2 fun ys k' => Cj6 (news' = [(ch, PySem.W.listOf ys k'), (add, appBound res), (res, PySem.W.listOf vals.toArray k), (57, tabObj ps)]) (TrC pat tp tq star res add t2 m') (m' (Str.ofString "chunks") = some (.ref ch)) (∃ t, m' (Str.ofString "j") = some (.int ((pre.length + 1 + (a ++ [45, d]).length : Nat) : Int) t)) (i = 0 → ∃ t0 t1, ys = #[.str (S a) t0, .str (S [d]) t1]) (i = 1 → ∃ us, StrsAre ys.toList us ∧ (us = [S a, S [d]] ∧ e ≤ d ∨ us = [S a.dropLast] ∧ d < e))) ?dn0 ?dn1 ?dn2
                case dn0 => exact ⟨_, _, rfl, ⟨by with_reducible exact upd_off (by decide) (upd_miss (by decide) (upd_off (by decide) (upd_off (by decide) (upd_miss (by decide) (upd_miss (by decide) (upd_miss (by decide) (upd_off (by decide) (by assumption)))))))), by with_reducible exact upd_off (by decide) (upd_miss (by decide) (upd_off (by decide) (upd_off (by decide) (upd_miss (by decide) (upd_miss (by decide) (upd_miss (by decide) (upd_off (by decide) (by assumption)))))))), by with_reducible exact upd_off (by decide) (upd_miss (by decide) (upd_off (by decide) (upd_off (by decide) (upd_miss (by decide) (upd_miss (by decide) (upd_miss (by decide) (upd_off (by decide) (by assumption)))))))), by with_reducible exact upd_off (by decide) (upd_miss (by decide) (upd_off (by decide) (upd_off (by decide) (upd_miss (by decide) (upd_miss (by decide) (upd_miss (by decide) (upd_off (by decide) (by assumption)))))))), by with_reducible exact upd_off (by decide) (upd_miss (by decide) (upd_off (by decide) (upd_off (by decide) (upd_miss (by decide) (upd_miss (by decide) (upd_miss (by decide) (upd_off (by decide) (by assumption)))))))), by with_reducible exact upd_off (by decide) (upd_miss (by decide) (upd_off (by decide) (upd_off (by decide) (upd_miss (by decide) (upd_miss (by decide) (upd_miss (by decide) (upd_off (by decide) (by assumption))))))))⟩, by with_reducible exact upd_off (by decide) (upd_miss (by decide) (upd_off (by decide) (upd_off (by decide) (upd_miss (by decide) (upd_miss (by decide) upd_hit))))), ⟨_, by with_reducible exact upd_off (by decide) (upd_miss (by decide) (upd_off (by decide) (upd_off (by decide) (upd_miss (by decide) (upd_miss (by decide) (upd_miss (by decide) (upd_off (by decide) (by assumption))))))))⟩, fun _ => ⟨_, _, rfl⟩, fun h => absurd h (by decide)⟩
                case dn1 =>
                  clear Fr1 Nr1 Fq Nq
                  rintro I t m₃ news₃ oI h₃ tk₃ hI ⟨ys, k', rfl, ⟨g1, g2, g3, g4, g5, g7⟩, g8, ⟨tj, g9⟩, hy0, _⟩ hoff F N
                  obtain ⟨t0, t1, rfl⟩ := hy0 rfl
                  have hd0 : (S [d]).cps[0]? = some d := rfl
                  have hfin : ∀ p ∈ [(ch, PySem.W.listOf (#[] : Array Value) 0), (add, appBound res), (res, PySem.W.listOf vals.toArray k), (57, tabObj ps)], p.1 ≠ I := fun p hp => by
                    simp only [List.mem_cons, List.not_mem_nil, or_false] at hp
                    rcases hp with rfl | rfl | rfl | rfl
                    · have e := hoff _ (List.Mem.head _); exact e
                    · exact hoff _ (.tail _ (.head _))
                    · exact hoff _ (.tail _ (.tail _ (.head _)))
                    · exact hoff _ (.tail _ (.tail _ (.tail _ (.head _))))
                  replace hI := ltk4 hI
                  walk_at "d"; (with_reducible refine wpAny_assign_Name ?_); refine' storeX_L (by k_asm) (by k_asm) ?_ (by rfl) (by rfl); intro h9 F9 N9; walk_at "d"; (with_reducible refine execs_1 ?_); (with_reducible refine wpAny_If ?_); (with_reducible refine' wpAny_isTrue_Compare1 ?_ (by with_unfolding_all rfl)); (with_reducible refine Subscript_ ?_); (with_reducible refine Subscript_ ?_); refine' nameX_L (by k_asm) (by with_reducible exact upd_miss (by decide) (by assumption)) ?_ (by rfl) (by rfl) (by decide); refine' pe_eval (by k_asm) (by k_asm) (by refine' PE.sub (by refine' PE.nameI ⟨rfl, rfl, by decide⟩ (by with_reducible exact upd_hit)) (PE.int)) ?_; refine At.same rfl ?_; intro k9; (with_reducible (refine PV.all_i ?_; intro t9)); refine' item_list (i := 0) (News.isList (by k_asm) (by k_mem)) (by rfl) (by rfl) (by omega) ?_ (by with_unfolding_all rfl); refine' pe_eval (by k_asm) (by k_asm) (by refine' PE.neg (PE.int)) ?_; refine At.same rfl ?_; intro k9; (with_reducible (refine PV.all_i ?_; intro t9)); refine' str_lastS (by assumption) (by omega) ?_ (by with_unfolding_all rfl); walk_at "d"; (with_reducible refine Subscript_ ?_); (with_reducible refine Subscript_ ?_); refine' nameX_L (by k_asm) (by with_reducible exact upd_miss (by decide) (by assumption)) ?_ (by rfl) (by rfl) (by decide); refine' nameX_L (by k_asm) (by with_reducible exact upd_hit) ?_ (by rfl) (by rfl) (by decide); refine' item_list (i := 1) (News.isList (by k_asm) (by k_mem)) (by rfl) (by rfl) (by omega) ?_ (by with_unfolding_all rfl); (with_reducible refine wpAny_Constant_int ?_); walk_at "d"; refine' str_at (by assumption) (by rfl) (by omega) ?_ (by with_unfolding_all rfl); walk_at "d"; (with_reducible refine P.gt_str ?_); walk_at "d"; with_reducible refine wpAny_truthy_bool ?_
                  refine ite_d (fun hlt => ?_) (fun hge => ?_)
                  · have hlt' : [d] < [e] := hlt
                    have hde : d < e := one_lt.mp hlt'
                    have cB : Txt.slice (S a) none (some (-1)) = S a.dropLast := cut_init a ha1
                    have cC : Txt.slice (S [d]) (some 1) none = S [] := cut_from [d] []
                    (with_reducible refine execs_k ?_); refine wpAny_Assign_Subscript ?_; (with_reducible refine wpAny_BinOp ?_); (with_reducible refine Subscript_ ?_); (with_reducible refine Subscript_ ?_); refine' nameX_L (by k_asm) (by with_reducible exact upd_miss (by decide) (by assumption)) ?_ (by rfl) (by rfl) (by decide); refine' pe_eval (by k_asm) (by k_asm) (by refine' PE.sub (by refine' PE.nameI ⟨rfl, rfl, by decide⟩ (by with_reducible exact upd_hit)) (PE.int)) ?_; refine At.same rfl ?_; intro k9; (with_reducible (refine PV.all_i ?_; intro t9)); refine' item_list (i := 0) (News.isList (by k_asm) (by k_mem)) (by rfl) (by rfl) (by omega) ?_ (by with_unfolding_all rfl); (with_reducible refine wpAny_Slice ?_); (with_reducible refine evalPart_none_step ?_); (with_reducible refine evalPart_some_step ?_); refine' pe_eval (by k_asm) (by k_asm) (by refine' PE.neg (PE.int)) ?_; refine At.same rfl ?_; intro k9; (with_reducible (refine PV.all_i ?_; intro t9)); (with_reducible refine evalPart_none_step ?_); walk_at "d"; refine' slice_strN_ns (s := ⟨_, _, _, _, _⟩) (by k_asm) (by k_asm) ?_ (hsz := (by simp only [S_len, sizeLine_eq, List.length_append, List.length_cons, List.length_nil]; omega)); intro h9 t9 k9 F9 N9; walk_at "d"; (with_reducible refine Subscript_ ?_); (with_reducible refine Subscript_ ?_); refine' nameX_L (by k_asm) (by with_reducible exact upd_miss (by decide) (by assumption)) ?_ (by rfl) (by rfl) (by decide); refine' nameX_L (by k_asm) (by with_reducible exact upd_hit) ?_ (by rfl) (by rfl) (by decide); refine' item_list (i := 1) (News.isList (by k_asm) (by k_mem)) (by rfl) (by rfl) (by omega) ?_ (by with_unfolding_all rfl); (with_reducible refine wpAny_Slice ?_); (with_reducible refine evalPart_some_step ?_); (with_reducible refine wpAny_Constant_int ?_); walk_at "d"; (with_reducible refine evalPart_none_step ?_); (with_reducible refine evalPart_none_step ?_); walk_at "d"; refine' slice_strN_sn (s := ⟨_, _, _, _, _⟩) (by k_asm) (by k_asm) ?_ (hsz := (by simp only [S_len, sizeLine_eq, List.length_append, List.length_cons, List.length_nil]; omega)); intro h9 t9 k9 F9 N9
                    show wpAny _ _ _ _ _ _
                    rw [cB, cC]
                    refine add_S (by simp; omega) fun t' tk' => ?_
                    walk_at "d"; refine' nameX_L (by k_asm) (by with_reducible exact upd_miss (by decide) (by assumption)) ?_ (by rfl) (by rfl) (by decide); refine' pe_eval (by k_asm) (by k_asm) (by refine' PE.sub (by refine' PE.nameI ⟨rfl, rfl, by decide⟩ (by with_reducible exact upd_hit)) (PE.int)) ?_; refine At.same rfl ?_; intro k9; with_reducible (refine PV.all_i ?_; intro t9)
                    rename Fr _ _ _ _ => Fu
                    rename News _ _ _ _ => Nu
                    refine' set_led (k := 0) Fu Nu ?su ?sk ?sk2 ?_
                    case su => (refine' Upd.tail (by refine neN ?_; dsimp only; with_reducible exact rq0 (by k_all)) (by refine' Upd.head (by refine List.forall_mem_cons.mpr ⟨by (refine neN ?_; dsimp only; with_reducible exact nq0 (by k_all)), ?_⟩; refine List.forall_mem_cons.mpr ⟨by (refine neN ?_; dsimp only; with_reducible exact nq1 (by k_all)), ?_⟩; refine List.forall_mem_cons.mpr ⟨by (refine neN ?_; dsimp only; with_reducible exact nl2 (by k_all)), ?_⟩; exact List.forall_mem_nil _)))
                    case sk => simp
                    case sk2 => omega
                    intro h₄ F₄ N₄
                    clear Fu Nu
                    walk_at "d"; (with_reducible refine Kx_next ?_); (with_reducible refine execs_1 ?_); refine wpAny_Delete ?_; refine wpAny_deleteEach_cons ?_; refine wpAny_delete_Subscript ?_; refine' nameX_L (by k_asm) (by with_reducible exact upd_miss (by decide) (by assumption)) ?_ (by rfl) (by rfl) (by decide); refine' nameX_L (by k_asm) (by with_reducible exact upd_hit) ?_ (by rfl) (by rfl) (by decide)
                    refine' del_led (k := 1) F₄ N₄ ?dl ?dk ?dk2 ?_
                    case dl => (refine' Upd.tail (by refine neN ?_; dsimp only; with_reducible exact rq0 (by k_all)) (by refine' Upd.head (by refine List.forall_mem_cons.mpr ⟨by (refine neN ?_; dsimp only; with_reducible exact nq0 (by k_all)), ?_⟩; refine List.forall_mem_cons.mpr ⟨by (refine neN ?_; dsimp only; with_reducible exact nq1 (by k_all)), ?_⟩; refine List.forall_mem_cons.mpr ⟨by (refine neN ?_; dsimp only; with_reducible exact nl2 (by k_all)), ?_⟩; exact List.forall_mem_nil _)))
                    case dk => simp
                    case dk2 => simp
                    intro h₅ F₅ N₅
                    walk_at "d"; refine wpAny_deleteEach_nil ?_
                    show ForEnd _ _ _ _ _ _ _ _ _
                    refine forEnd_intro F₅ N₅ ?_ (fun b hb => absurd hb List.not_mem_nil) ?_
                    · exact fun p hp => hoff2 hfin hp
                    · refine ⟨_, _, rfl, ⟨by with_reducible exact upd_miss (by decide) (by assumption), by with_reducible exact upd_miss (by decide) (by assumption), by with_reducible exact upd_miss (by decide) (by assumption), by with_reducible exact upd_miss (by decide) (by assumption), by with_reducible exact upd_miss (by decide) (by assumption), by with_reducible exact upd_miss (by decide) (by assumption)⟩, by with_reducible exact upd_miss (by decide) (by assumption), ⟨_, by with_reducible exact upd_miss (by decide) (by assumption)⟩, fun h => absurd h (by decide), fun _ => ⟨[S a.dropLast], ?_, .inr ⟨rfl, hde⟩⟩⟩
                      rw [show a.dropLast ++ [] = a.dropLast from List.append_nil _]; simp; exact .cons _ _ .nil
                  · have hge' : ¬ [d] < [e] := hge
                    have hde : e ≤ d := Nat.le_of_not_lt fun q => hge' (one_lt.mpr q)
                    with_reducible refine wpAny_execs_nil ?_
                    rename Fr _ _ _ _ => Fe
                    rename News _ _ _ _ => Ne
                    show ForEnd _ _ _ _ _ _ _ _ _
                    refine forEnd_intro Fe Ne ?_ (fun b hb => absurd hb List.not_mem_nil) ?_
                    · exact fun p hp => hoff2 hfin hp
                    · exact ⟨_, _, rfl, ⟨by with_reducible exact upd_miss (by decide) (by assumption), by with_reducible exact upd_miss (by decide) (by assumption), by with_reducible exact upd_miss (by decide) (by assumption), by with_reducible exact upd_miss (by decide) (by assumption), by with_reducible exact upd_miss (by decide) (by assumption), by with_reducible exact upd_miss (by decide) (by assumption)⟩, by with_reducible exact upd_miss (by decide) (by assumption), ⟨_, by with_reducible exact upd_miss (by decide) (by assumption)⟩, fun h => absurd h (by decide), fun _ => ⟨[S a, S [d]], .cons _ _ (.cons _ _ .nil), .inl ⟨rfl, hde⟩⟩⟩
                case dn2 =>
                  clear Fr1 Nr1 Fq Nq
                  rintro m₃ news₃ h₃ tk₃ ⟨ys, k', rfl, ⟨g1, g2, g3, g4, g5, g7⟩, g8, ⟨tj, g9⟩, _, hy1⟩ F N
                  have hbl2 : (a ++ [45, d]).length = a.length + 2 := by simp
                  rw [hbl2] at g9
                  obtain ⟨us, hus, hcase⟩ := hy1 rfl
                  have hne3 : @Ne Nat ch 57 := by (refine neN ?_; with_reducible exact rl2 (by k_all))
                  have husf : ∀ u ∈ us, ∃ l, u = S l ∧ 92 ∉ l ∧ 45 ∉ l ∧ l.length ≤ 2 := by
                    have base : ∀ l : List Nat, (∀ c ∈ l, c ∈ a ++ [d]) → l.length ≤ 2 → ∃ l', S l = S l' ∧ 92 ∉ l' ∧ 45 ∉ l' ∧ l'.length ≤ 2 := fun l hl hn => ⟨l, rfl, fun h => (hd45 _ (hl _ h)).1 rfl, fun h => (hd45 _ (hl _ h)).2 rfl, hn⟩
                    intro u hu
                    rcases hcase with ⟨rfl, _⟩ | ⟨rfl, _⟩
                    · rcases List.mem_cons.mp hu with rfl | hu
                      · exact base a (fun c hc => List.mem_append_left _ hc) ha2
                      · rw [List.mem_singleton.mp hu]; exact base [d] (fun c hc => List.mem_append_right _ hc) (by simp)
                    · rw [List.mem_singleton.mp hu]; exact base a.dropLast (fun c hc => List.mem_append_left _ (List.dropLast_subset a hc)) (by simp; omega)
                  have husl : us.length ≤ 2 := by rcases hcase with ⟨rfl, _⟩ | ⟨rfl, _⟩ <;> simp
                  have N3 : News g L h₃ ((57, tabObj ps) :: [(ch, PySem.W.listOf ys k'), (add, appBound res), (res, PySem.W.listOf vals.toArray k)]) := fun q hq => N q (by simp only [List.mem_cons, List.not_mem_nil, or_false] at hq ⊢; grind)
                  have hlist : h₃.IsList ch ys := N.isList (.head _)
                  walk_at "d"; (with_reducible refine Kx_next ?_); (with_reducible refine execs_1 ?_); (with_reducible refine' wpAny_Assign_Name ?_ ?q201); (case q201 => rfl); (with_reducible refine' PyProof.Rows.MethodCall_ ?_ ?q202); (case q202 => rfl); (with_reducible refine Calls.Constant_str ?_); walk_at "d"; (with_reducible refine GM.join ?_); walk_at "d"; (with_reducible refine' PyProof.Rows.callWith_method1 ?_ ?q203 ?q204); (case q203 => rfl); (case q204 => rfl); walk_at "d"; (with_reducible refine' spliced_more ?_ ?q205); (case q205 => rfl)
                  refine' gen_list (f := fun a => a) (ts := us) (vs := ys.toList) hh F N3 htr ?lne (codeHd_of_K (c := 61) (P := 57) Xg (by kernel_rfl)) rfl rfl Tg.g Bg hG1 Tg.nolimit ?ghl hus ?ghi ?ghe ?_ ?ghs rfl ?gcl ?gce ?gh0 ?ghx rfl ?gro
                  case lne => exact ne_three hne3 na3 na2
                  case ghl => simpa using hlist
                  case ghi => intro R hR; refine' nameX_L (by k_asm) (by k_all) ?_ (by rfl) (by rfl) (by decide); exact hR
                  case ghe =>
                    intro C code A' E' u t s₂ m₂ hu hA' hn hm'
                    obtain ⟨l, rfl, hl1, hl2, _⟩ := husf u hu
                    (with_reducible refine' PyProof.Rows.MethodCall_ ?_ ?q206); (case q206 => rfl)
                    (with_reducible refine' PyProof.Rows.MethodCall_ ?_ ?q207); (case q207 => rfl)
                    refine wpAny_Name (wpAny_loadName_local rfl rfl hn hm' ?_) rfl
                    (with_reducible refine GM.replace ?_); walk_at "d"; (with_reducible refine' PyProof.Rows.callWith_method1 ?_ ?q208 ?q209); (case q208 => rfl); (case q209 => rfl); walk_at "d"; (with_reducible refine' spliced_more ?_ ?q210); (case q210 => rfl); (with_reducible refine Calls.Constant_str ?_); (with_reducible refine' spliced_more ?_ ?q211); (case q211 => rfl); (with_reducible refine Calls.Constant_str ?_); walk_at "d"; with_reducible refine spliced_none ?_
                    refine repl_none (List.isEmpty_iff.mpr (no_occ l 92 _ hl1)) ?_
                    (with_reducible refine GM.replace ?_); walk_at "d"; (with_reducible refine' PyProof.Rows.callWith_method1 ?_ ?q212 ?q213); (case q212 => rfl); (case q213 => rfl); walk_at "d"; (with_reducible refine' spliced_more ?_ ?q214); (case q214 => rfl); (with_reducible refine Calls.Constant_str ?_); walk_at "d"; (with_reducible refine' spliced_more ?_ ?q215); (case q215 => rfl); (with_reducible refine Calls.Constant_str ?_); walk_at "d"; with_reducible refine spliced_none ?_
                    refine repl_none (List.isEmpty_iff.mpr (no_occ l 45 _ hl2)) ?_
                    exact ⟨.str _ _, ⟨_, _, rfl, fun _ _ e => e⟩⟩
                  case ghs => intro _; rfl
                  case gcl => with_unfolding_all rfl
                  case gce => decide
                  case gh0 => decide
                  case ghx => decide
                  case gro => omega
                  intro ga s₅ ps' K F5 N5 htr5 hG5 hos5 hLK hnK hGen
                  with_reducible refine spliced_none ?_
                  have hsum : (us.map (·.length)).sum + us.length * (⟨#[45]⟩ : Str).length ≤ 16777216 := by
                    rcases hcase with ⟨rfl, _⟩ | ⟨rfl, _⟩ <;> (simp [Str.length]; omega)
                  refine join_led F5 N5 hG5 hLK hnK hGen (by rw [List.map_id']; exact joinOk_of hsum) (by rw [sizeLine_eq]; omega) fun s6 t6 F6 N6 hG6 hos6 => ?_
                  obtain ⟨st, hst, hmem⟩ : ∃ st, Txt.join ⟨#[45]⟩ (us.map fun a => a) = S st ∧ (a ++ [45, d], o, st) ∈ setStuff := by
                    rw [List.map_id']
                    unfold Txt.join
                    rw [StrLaws.glued_eq_join]
                    rcases hcase with ⟨rfl, hc1⟩ | ⟨rfl, hc1⟩
                    · refine ⟨a ++ [45, d], ?_, ?_⟩
                      · show S a ++ S [45] ++ S [d] = _
                        rw [S_append, S_append]; simp
                      · rcases hcmp with ⟨e', h1, _, h3⟩ | ⟨e', h1, h2, _⟩
                        · exact h3
                        · rw [hal] at h1; cases h1; omega
                    · refine ⟨a.dropLast, rfl, ?_⟩
                      rcases hcmp with ⟨e', h1, h2, _⟩ | ⟨e', h1, _, h3⟩
                      · rw [hal] at h1; cases h1; omega
                      · exact h3
                  show wpAny _ _ _ _ _ _
                  rw [hst]
                  refine' storeX_L (by k_asm) (by k_asm) ?_ (by rfl) (by rfl); intro h9 F9 N9
                  rename Fr _ _ _ _ => Fe
                  rename News _ _ _ _ => Ne
                  exact hR _ ⟨_, st, ps', _, _, Fe, News.sub Ne fun _ => mem_tr3, htr5, hG6, hos6.trans hos5, ⟨by with_reducible exact upd_miss (by decide) (by assumption), by with_reducible exact upd_miss (by decide) (by assumption), by with_reducible exact upd_miss (by decide) (by assumption), by with_reducible exact upd_miss (by decide) (by assumption), by with_reducible exact upd_miss (by decide) (by assumption), by with_reducible exact upd_miss (by decide) (by assumption)⟩, by with_reducible exact upd_hit, by first | fail | (rw [hbl2]; with_reducible exact upd_miss (by decide) (by assumption)) | (rw [← hbl2] at g9; fail), hmem⟩
            case cut4 =>
              rintro s' ⟨m', st, ps', t4, t5, F, N, htr', hG', hos', ⟨g1, g2, g3, g4, g5, g7⟩, g6, g8, hst⟩
              obtain ⟨hst1, hst2, hst3⟩ := stuff_facts hst
              (with_reducible refine execs_k ?_); (with_reducible refine' wpAny_Assign_Name ?_ ?q216); (case q216 => rfl); (with_reducible refine' PyProof.Rows.MethodCall_ ?_ ?q217); (case q217 => rfl); refine' nameX_K (by k_asm) (by k_asm) (by k_asm) (by k_is) ?_ (by rfl) (by rfl) (by decide)
              refine getm_sub (pat36 (Xg.keeps F.keep)) ?_
              walk_at "d"; (with_reducible refine' PyProof.Rows.callWith_method1 ?_ ?q218 ?q219); (case q218 => rfl); (case q219 => rfl); walk_at "d"; (with_reducible refine' spliced_more ?_ ?q220); (case q220 => rfl)
              have N3 : News g L s'.heap ((57, tabObj ps') :: [(add, appBound res), (res, PySem.W.listOf vals.toArray k)]) := fun q hq => N q (by simp only [List.mem_cons, List.not_mem_nil, or_false] at hq ⊢; grind)
              refine' lam_any (clos := []) F N3 htr' ?lne (codeHd_of_K (c := 61) (P := 57) Xg (by kernel_rfl)) rfl rfl ?lcl Tg.g Bg rfl ?_
              case lne => exact ne_two na3 na2
              case lcl => with_unfolding_all rfl
              intro f oF ps2 h2 tk2 hoF F2 N2 htr2 l2
              replace l2 := ltk3 l2
              clear F N N3
              (with_reducible refine' spliced_more ?_ ?q221); (case q221 => rfl); refine' nameX_L (by k_asm) (by k_all) ?_ (by rfl) (by rfl) (by decide); with_reducible refine spliced_none ?_
              refine sub_none (pat36 (Xg.keeps F2.keep)) (N2 _ (.head _)).1 hoF hst1 (fun s3 E3 Q3 hq => op_found _ rfl rfl rfl hst2 hq) fun h3 tk3 t3 P3 => ?_
              (rename Pres _ _ => Pa; rename Fr _ _ _ _ => Fa; rename News _ _ _ _ => Na; have F₂ := Fa.keeps Pa; have N₂ := Na.grown Pa; clear Pa Fa Na)
              have ecast : ((pre.length + 1 + b.length : Nat) : Int) + 1 = ((pre ++ (PTok.set b o).chars).length : Nat) := by simp [PTok.chars]; omega
              rcases hst3 with ⟨rfl, rfl⟩ | ⟨rfl, rfl⟩ | ⟨c, r', rfl, hn33, hco⟩
              · walk_at "d"; refine' storeX_L (by k_asm) (by k_asm) ?_ (by rfl) (by rfl); intro h9 F9 N9; walk_at "d"; (with_reducible refine Kx_next ?_); (with_reducible refine execs_k ?_); refine' exec_asg (by k_asm) (by k_asm) (by refine' PE.add (by refine' PE.nameI ⟨rfl, rfl, by decide⟩ (by with_reducible exact upd_miss (by decide) (by assumption))) (PE.int)) (by rfl) (by rfl) (by rfl) ?_; intro h9 k9; (with_reducible (refine PV.all_i ?_; intro t9)); intro F9 N9; (with_reducible refine Kx_next ?_); (with_reducible refine execs_1 ?_); (with_reducible refine wpAny_If ?_); (with_reducible refine isTrue_not ?_); refine PyProof.Rows.isTrue_plain ?_; refine' nameX_L (by k_asm) (by with_reducible exact upd_off (by decide) upd_hit) ?_ (by rfl) (by rfl) (by decide); refine' PySem.P.truthy_str (by simp only [S_len, List.length_cons, List.length_nil]; omega) ?_
                refine ite_tt rfl ?_
                walk_at "d"; (with_reducible refine execs_1 ?_); refine wpAny_Expr_any ?_; (with_reducible refine' Call_ ?_ ?q222); (case q222 => rfl); refine' nameX_L (by k_asm) (by with_reducible exact upd_off (by decide) (upd_miss (by decide) (by assumption))) ?_ (by rfl) (by rfl) (by decide); refine callWith_app ?_; (with_reducible refine' spliced_more ?_ ?q223); (case q223 => rfl); (with_reducible refine Calls.Constant_str ?_); walk_at "d"; (with_reducible refine spliced_none ?_); walk_at "d"; refine ⟨app_there (by k_asm) (by k_mem), ?_⟩; refine' call_app (by k_asm) (by k_asm) (by k_mem) (by refine' Upd.tail (by refine neN ?_; dsimp only; with_reducible exact rl2 (by k_all)) (by refine' Upd.tail (by with_reducible exact Ne.symm (by k_all)) (by refine' Upd.tail (by k_all) (by refine' Upd.head (List.forall_mem_nil _))))) ?_ (by first | (simp only [sizeLine_eq, List.size_toArray, List.length_append, List.length_cons, List.length_nil]; omega) | size_fits); intro h9 F9 N9; simp only [List.push_toArray, List.nil_append, List.cons_append] at N9
                rename Fr _ _ _ _ => Fe
                rename News _ _ _ _ => Ne
                exact hR _ _ <| tr_close Fe (News.sub Ne fun _ => mem_tr) ⟨_, rfl⟩ hsp2 hall hok1.2 hvs hvl na1 na2 na3 htr2 hG' hos' (by with_reducible exact upd_off (by decide) (upd_miss (by decide) (by assumption))) (by with_reducible exact upd_off (by decide) (upd_miss (by decide) (by assumption))) (by with_reducible exact upd_off (by decide) (upd_miss (by decide) (by assumption))) (by with_reducible exact upd_off (by decide) (upd_miss (by decide) (by assumption))) (by with_reducible exact upd_off (by decide) (upd_miss (by decide) (by assumption))) (by rw [← ecast]; with_reducible exact upd_at) (by with_reducible exact upd_off (by decide) (upd_miss (by decide) (by assumption)))
              · walk_at "d"; refine' storeX_L (by k_asm) (by k_asm) ?_ (by rfl) (by rfl); intro h9 F9 N9; walk_at "d"; (with_reducible refine Kx_next ?_); (with_reducible refine execs_k ?_); refine' exec_asg (by k_asm) (by k_asm) (by refine' PE.add (by refine' PE.nameI ⟨rfl, rfl, by decide⟩ (by with_reducible exact upd_miss (by decide) (by assumption))) (PE.int)) (by rfl) (by rfl) (by rfl) ?_; intro h9 k9; (with_reducible (refine PV.all_i ?_; intro t9)); intro F9 N9; (with_reducible refine Kx_next ?_); (with_reducible refine execs_1 ?_); (with_reducible refine wpAny_If ?_); (with_reducible refine isTrue_not ?_); refine PyProof.Rows.isTrue_plain ?_; refine' nameX_L (by k_asm) (by with_reducible exact upd_off (by decide) upd_hit) ?_ (by rfl) (by rfl) (by decide); refine' PySem.P.truthy_str (by simp only [S_len, List.length_cons, List.length_nil]; omega) ?_
                refine ite_ff rfl ?_
                walk_at "d"; (with_reducible refine execs_1 ?_); refine' exec_if (by k_asm) (by k_asm) (by refine' PT.cmpS (by refine' PE.nameS ⟨rfl, rfl, by decide⟩ (by with_reducible exact upd_off (by decide) upd_hit)) (PE.str) (by rfl) (by with_unfolding_all rfl)) ?_; refine At.same rfl ?_; intro k9
                refine ite_tt rfl ?_
                (with_reducible refine execs_1 ?_); refine wpAny_Expr_any ?_; (with_reducible refine' Call_ ?_ ?q224); (case q224 => rfl); refine' nameX_L (by k_asm) (by with_reducible exact upd_off (by decide) (upd_miss (by decide) (by assumption))) ?_ (by rfl) (by rfl) (by decide); refine callWith_app ?_; (with_reducible refine' spliced_more ?_ ?q225); (case q225 => rfl); (with_reducible refine Calls.Constant_str ?_); walk_at "d"; (with_reducible refine spliced_none ?_); walk_at "d"; refine ⟨app_there (by k_asm) (by k_mem), ?_⟩; refine' call_app (by k_asm) (by k_asm) (by k_mem) (by refine' Upd.tail (by refine neN ?_; dsimp only; with_reducible exact rl2 (by k_all)) (by refine' Upd.tail (by with_reducible exact Ne.symm (by k_all)) (by refine' Upd.tail (by k_all) (by refine' Upd.head (List.forall_mem_nil _))))) ?_ (by first | (simp only [sizeLine_eq, List.size_toArray, List.length_append, List.length_cons, List.length_nil]; omega) | size_fits); intro h9 F9 N9; simp only [List.push_toArray, List.nil_append, List.cons_append] at N9
                rename Fr _ _ _ _ => Fe
                rename News _ _ _ _ => Ne
                exact hR _ _ <| tr_close Fe (News.sub Ne fun _ => mem_tr) ⟨_, rfl⟩ hsp2 hall hok1.2 hvs hvl na1 na2 na3 htr2 hG' hos' (by with_reducible exact upd_off (by decide) (upd_miss (by decide) (by assumption))) (by with_reducible exact upd_off (by decide) (upd_miss (by decide) (by assumption))) (by with_reducible exact upd_off (by decide) (upd_miss (by decide) (by assumption))) (by with_reducible exact upd_off (by decide) (upd_miss (by decide) (by assumption))) (by with_reducible exact upd_off (by decide) (upd_miss (by decide) (by assumption))) (by rw [← ecast]; with_reducible exact upd_at) (by with_reducible exact upd_off (by decide) (upd_miss (by decide) (by assumption)))
              · have hc0 : (S (c :: r')).cps[0]? = some c := by simp
                have hr1 : r'.length < 999 := by have := hst1; simp at this; omega
                walk_at "d"; refine' storeX_L (by k_asm) (by k_asm) ?_ (by rfl) (by rfl); intro h9 F9 N9; walk_at "d"; (with_reducible refine Kx_next ?_); (with_reducible refine execs_k ?_); refine' exec_asg (by k_asm) (by k_asm) (by refine' PE.add (by refine' PE.nameI ⟨rfl, rfl, by decide⟩ (by with_reducible exact upd_miss (by decide) (by assumption))) (PE.int)) (by rfl) (by rfl) (by rfl) ?_; intro h9 k9; (with_reducible (refine PV.all_i ?_; intro t9)); intro F9 N9; (with_reducible refine Kx_next ?_); (with_reducible refine execs_1 ?_); (with_reducible refine wpAny_If ?_); (with_reducible refine isTrue_not ?_); refine PyProof.Rows.isTrue_plain ?_; refine' nameX_L (by k_asm) (by with_reducible exact upd_off (by decide) upd_hit) ?_ (by rfl) (by rfl) (by decide); refine' PySem.P.truthy_str (by simp only [S_len, List.length_cons, List.length_nil]; omega) ?_
                have hne0 : (((S (c :: r')).length : Int) != 0) = true := by rw [S_len]; simp; omega
                rw [hne0]
                refine ite_ff rfl ?_
                walk_at "d"; (with_reducible refine execs_1 ?_); refine' exec_if (by k_asm) (by k_asm) (by refine' PT.cmpS (by refine' PE.nameS ⟨rfl, rfl, by decide⟩ (by with_reducible exact upd_off (by decide) upd_hit)) (PE.str) (by rfl) (by with_unfolding_all rfl)) ?_; refine At.same rfl ?_; intro k9
                refine ite_ff (show ((S (c :: r')).cps.toList == [33]) = false by rw [S_list]; exact beq_eq_false_iff_ne.mpr hn33) ?_
                (with_reducible refine execs_k ?_); refine' exec_if (by k_asm) (by k_asm) (by refine' PT.cmpS (by refine' PE.chAt (by refine' PE.nameS ⟨rfl, rfl, by decide⟩ (by with_reducible exact upd_off (by decide) upd_hit)) (PE.int) (by assumption) (by rfl) (by omega) rfl) (PE.str) (by rfl) (by with_unfolding_all rfl)) ?_; refine At.same rfl ?_; intro k9
                rcases hco with ⟨rfl, rfl⟩ | ⟨h1, h2, h3, rfl⟩
                · refine ite_tt rfl ?_
                  (with_reducible refine execs_1 ?_); (with_reducible refine' wpAny_Assign_Name ?_ ?q226); (case q226 => rfl); (with_reducible refine wpAny_BinOp ?_); (with_reducible refine Calls.Constant_str ?_); walk_at "d"; refine' pe_eval (by k_asm) (by k_asm) (by refine' PE.slSN (by refine' PE.nameS ⟨rfl, rfl, by decide⟩ (by with_reducible exact upd_off (by decide) upd_hit)) (PE.int) (by simp only [S_len, sizeLine_eq, List.length_append, List.length_cons, List.length_nil]; omega)) ?_; refine At.any ?_; intro h9 k9 F9 N9; with_reducible (refine PV.all_s ?_; intro t9)
                  have cT : Txt.slice (S (33 :: r')) (some 1) none = S r' := cut_from [33] r'
                  rw [cT]
                  show wpAny _ _ _ _ _ _
                  rw [show Str.ofString "^" = S [94] from rfl]
                  refine add_S (by simp; omega) fun t' tk' => ?_
                  walk_at "d"; refine' storeX_L (by k_asm) (by k_asm) ?_ (by rfl) (by rfl); intro h9 F9 N9; walk_at "d"; (with_reducible refine Kx_next ?_); (with_reducible refine execs_1 ?_); refine wpAny_Expr_any ?_; (with_reducible refine' Call_ ?_ ?q227); (case q227 => rfl); refine' nameX_L (by k_asm) (by with_reducible exact upd_miss (by decide) (upd_off (by decide) (upd_miss (by decide) (by assumption)))) ?_ (by rfl) (by rfl) (by decide); refine callWith_app ?_; (with_reducible refine' spliced_more ?_ ?q228); (case q228 => rfl)
                  refine fstr3 (by decide) (by decide) fun tk => ?_
                  walk_at "d"; refine' nameX_L (by k_asm) (by with_reducible exact upd_hit) ?_ (by rfl) (by rfl) (by decide)
                  refine ⟨_, _, rfl, by simp; omega, fun t' tk => ?_⟩
                  rw [show Str.ofString "[" = S [91] from rfl, show Str.ofString "]" = S [93] from rfl, S_append, S_append]
                  walk_at "d"; (with_reducible refine spliced_none ?_); walk_at "d"; refine ⟨app_there (by k_asm) (by k_mem), ?_⟩; refine' call_app (by k_asm) (by k_asm) (by k_mem) (by refine' Upd.tail (by refine neN ?_; dsimp only; with_reducible exact rl2 (by k_all)) (by refine' Upd.tail (by with_reducible exact Ne.symm (by k_all)) (by refine' Upd.tail (by k_all) (by refine' Upd.head (List.forall_mem_nil _))))) ?_ (by first | (simp only [sizeLine_eq, List.size_toArray, List.length_append, List.length_cons, List.length_nil]; omega) | size_fits); intro h9 F9 N9; simp only [List.push_toArray, List.nil_append, List.cons_append] at N9
                  rename Fr _ _ _ _ => Fe
                  rename News _ _ _ _ => Ne
                  exact hR _ _ <| tr_close Fe (News.sub Ne fun _ => mem_tr) ⟨_, rfl⟩ hsp2 hall hok1.2 hvs hvl na1 na2 na3 htr2 hG' hos' (by with_reducible exact upd_miss (by decide) (upd_off (by decide) (upd_miss (by decide) (by assumption)))) (by with_reducible exact upd_miss (by decide) (upd_off (by decide) (upd_miss (by decide) (by assumption)))) (by with_reducible exact upd_miss (by decide) (upd_off (by decide) (upd_miss (by decide) (by assumption)))) (by with_reducible exact upd_miss (by decide) (upd_off (by decide) (upd_miss (by decide) (by assumption)))) (by with_reducible exact upd_miss (by decide) (upd_off (by decide) (upd_miss (by decide) (by assumption)))) (by rw [← ecast]; with_reducible exact upd_miss (by decide) upd_at) (by with_reducible exact upd_miss (by decide) (upd_off (by decide) (upd_miss (by decide) (by assumption))))
                · refine ite_ff (hd_ne h1) ?_
                  (with_reducible refine execs_1 ?_); (with_reducible refine wpAny_If ?_); (with_reducible refine' wpAny_isTrue_Compare1 ?_ (by with_unfolding_all rfl)); refine' pe_eval (by k_asm) (by k_asm) (by refine' PE.chAt (by refine' PE.nameS ⟨rfl, rfl, by decide⟩ (by with_reducible exact upd_off (by decide) upd_hit)) (PE.int) (by assumption) (by rfl) (by omega) rfl) ?_; refine At.same rfl ?_; intro k9; (with_reducible (refine PV.all_s ?_; intro t9)); refine PyProof.Rows.Tuple_ ?_; (with_reducible refine' spliced_more ?_ ?q229); (case q229 => rfl); (with_reducible refine Calls.Constant_str ?_); walk_at "d"; (with_reducible refine' spliced_more ?_ ?q230); (case q230 => rfl); (with_reducible refine Calls.Constant_str ?_); walk_at "d"; (with_reducible refine spliced_none ?_); refine' newTuple_P ?q231 ?q232 ?_ ?q233; (case q231 => k_asm); (case q232 => k_asm); (case q233 => exact Nat.le_of_ble_eq_true rfl); intro l9 h9 F9 N9 m9; replace m9 := ltk4 m9
                  rename News _ _ _ _ => Nt
                  obtain ⟨tu, e_Nt0⟩ := ledN0 Nt
                  subst e_Nt0
                  refine in_tuple_strs (ys := [S [94], S [91]]) (Nt.isTup (.head _)) (.cons _ _ (.cons _ _ .nil)) ?_
                  walk_at "d"; with_reducible refine wpAny_truthy_bool ?_
                  refine ite_ff (by simp; exact ⟨fun e => h2 e.symm, fun e => h3 e.symm⟩) ?_
                  (with_reducible refine wpAny_execs_nil ?_); (with_reducible refine Kx_next ?_); (with_reducible refine execs_1 ?_); refine wpAny_Expr_any ?_; (with_reducible refine' Call_ ?_ ?q234); (case q234 => rfl); refine' nameX_L (by k_asm) (by with_reducible exact upd_off (by decide) (upd_miss (by decide) (by assumption))) ?_ (by rfl) (by rfl) (by decide); refine callWith_app ?_; (with_reducible refine' spliced_more ?_ ?q235); (case q235 => rfl)
                  refine fstr3 (by decide) (by decide) fun tk => ?_
                  walk_at "d"; refine' nameX_L (by k_asm) (by with_reducible exact upd_off (by decide) upd_hit) ?_ (by rfl) (by rfl) (by decide)
                  refine ⟨_, _, rfl, by simp; omega, fun t' tk => ?_⟩
                  rw [show Str.ofString "[" = S [91] from rfl, show Str.ofString "]" = S [93] from rfl, S_append, S_append]
                  walk_at "d"; (with_reducible refine spliced_none ?_); walk_at "d"; refine ⟨app_there (by k_asm) (by k_mem), ?_⟩; refine' call_app (by k_asm) (by k_asm) (by k_mem) (by refine' Upd.tail (by refine neN ?_; dsimp only; with_reducible exact rl3 (by k_all)) (by refine' Upd.tail (by refine neN ?_; dsimp only; with_reducible exact rl2 (by k_all)) (by refine' Upd.tail (by with_reducible exact Ne.symm (by k_all)) (by refine' Upd.tail (by k_all) (by refine' Upd.head (List.forall_mem_nil _)))))) ?_ (by first | (simp only [sizeLine_eq, List.size_toArray, List.length_append, List.length_cons, List.length_nil]; omega) | size_fits); intro h9 F9 N9; simp only [List.push_toArray, List.nil_append, List.cons_append] at N9
                  rename Fr _ _ _ _ => Fe
                  rename News _ _ _ _ => Ne
                  exact hR _ _ <| tr_close Fe (News.sub Ne fun _ => mem_tr2) ⟨_, rfl⟩ hsp2 hall hok1.2 hvs hvl na1 na2 na3 htr2 hG' hos' (by with_reducible exact upd_off (by decide) (upd_miss (by decide) (by assumption))) (by with_reducible exact upd_off (by decide) (upd_miss (by decide) (by assumption))) (by with_reducible exact upd_off (by decide) (upd_miss (by decide) (by assumption))) (by with_reducible exact upd_off (by decide) (upd_miss (by decide) (by assumption))) (by with_reducible exact upd_off (by decide) (upd_miss (by decide) (by assumption))) (by rw [← ecast]; with_reducible exact upd_at) (by with_reducible exact upd_off (by decide) (upd_miss (by decide) (by assumption)))
theorem RO.get {α : Type} {R : Value → α → Prop} : ∀ {vs : List Value} {xs : List α}, RO R vs xs → ∀ {i : Nat} {x : α}, xs[i]? = some x → ∃ v, vs[i]? = some v ∧ R v x
  | [], [], _, i, x, e => by simp at e
  | v :: _, y :: _, h, 0, x, e => by simp at e; subst e; exact ⟨v, rfl, h.1⟩
  | _ :: _, _ :: _, h, i + 1, x, e => by simpa using RO.get h.2 (i := i) (x := x) (by simpa using e)
  | [], _ :: _, h, _, _, _ => h.elim
  | _ :: _, [], h, _, _, _ => h.elim
theorem sum_flat (us : List Str) : (us.map (·.length)).sum = (us.flatMap (·.cps.toList)).length := by
  induction us with
  | nil => rfl
  | cons a r ih => simp only [List.map_cons, List.sum_cons, List.flatMap_cons, List.length_append, ih]; simp [Str.length]
theorem map_flat (b : List (List Nat)) : (b.map S).flatMap (·.cps.toList) = b.flatten := by
  induction b with
  | nil => rfl
  | cons a r ih => rw [List.map_cons, List.flatMap_cons, ih, List.flatten_cons]
theorem join_spec {w : World} {A : Around} {s : Shared} {Q E : Value → Shared → Prop} {p : Program} {loose : List Str} {mg mb : Str → Option Value}
   (X : (Mine.heap_39 w.params).In s.heap) (T : TopRead p loose mg mb s.heap) (hroom : A.depth + 8 < recursionLimit) (hh : A.handled = none)
   {a star : Addr} {vals : List Value} (hl : s.heap.IsList a vals.toArray) (bs : List (List (List Nat))) (hv : RO (RItem star) vals (joinItems bs)) (hbs : ∀ b ∈ bs, b ≠ []) (hlen : (joinItems bs).length < 2000) (htl : (joinText bs).length < 10000)
   (hQ : ∀ h' tk' t', Pres s.heap h' → Q (.str (S (joinText bs)) t') {s with heap := h', toks := tk'}) :
  wpAny (model PySem.Challenge.rw_ij0038_01.row.prog w) A (call (.ref 69) [.ref a, .ref star]) Q E s := by
  have hvl := hv.len
  refine' enter_plain (K := Mine.heap_39 w.params) X T.nolimit ?r ?ho ?hcd ?hb ?hl ?hc ?_ ?c2 ?c3 ?c4
  case r => omega
  case ho => k_is
  case hcd => k_is
  case hb => exact BindsTo.of_eq rfl
  case hl => ((intro y hy; with_unfolding_all (repeat (first | exact absurd hy List.not_mem_nil | (rcases List.mem_cons.mp hy with hy | hy; (subst hy; rfl))))))
  case hc => decide +kernel
  case c2 => rfl
  case c3 => rfl
  case c4 => rfl
  intro h₁ F N
  walk_at "d"; (with_reducible refine execs_k ?_); (with_reducible refine' wpAny_Assign_Name ?_ ?q236); (case q236 => rfl); refine PyProof.Rows.List_ ?_; (with_reducible refine spliced_none ?_); refine' newList_P (by k_asm) (by k_asm) ?_ (Nat.le_of_ble_eq_true rfl); intro l9 h9 F9 N9 m9; replace m9 := allLt_of m9; simp only [AllLt, and_true] at m9; walk_at "d"; refine' storeX_L (by k_asm) (by k_asm) ?_ (by rfl) (by rfl); intro h9 F9 N9; walk_at "d"; (with_reducible refine Kx_next ?_); (with_reducible refine execs_k ?_); (with_reducible refine' wpAny_Assign_Name ?_ ?q237); (case q237 => rfl); refine Attribute_name ?_; refine' nameX_L (by k_asm) (by with_reducible exact upd_hit) ?_ (by rfl) (by rfl) (by decide); refine' attr_app (by k_asm) (by k_asm) (by k_mem) ?_; intro l9 h9 F9 N9 m9; replace m9 := ltk1 m9; walk_at "d"; refine' storeX_L (by k_asm) (by k_asm) ?_ (by rfl) (by rfl); intro h9 F9 N9; walk_at "d"; (with_reducible refine Kx_next ?_); (with_reducible refine execs_k ?_); (with_reducible refine' Assign_Tuple_swapped ?_ ?q238 ?q239); (case q238 => rfl); (case q239 => rfl); refine PyProof.Rows.Tuple_ ?_; (with_reducible refine' spliced_more ?_ ?q240); (case q240 => rfl); (with_reducible refine wpAny_Constant_int ?_); walk_at "d"; (with_reducible refine' spliced_more ?_ ?q241); (case q241 => rfl); refine' pe_eval (by k_asm) (by k_asm) (by refine' PE.lenL (by refine' PE.lenB (by k_asm) (by k_asm) ⟨rfl, rfl⟩ (by k_is)) (by refine' PE.name ⟨rfl, rfl, by decide⟩ (by rfl)) (Px.lst_old (by assumption)) (by omega) rfl) ?_; refine At.same rfl ?_; intro k9; (with_reducible (refine PV.all_i ?_; intro t9)); (with_reducible refine spliced_none ?_); refine' newTuple_P ?q242 ?q243 ?_ ?q244; (case q242 => k_asm); (case q243 => k_asm); (case q244 => exact Nat.le_of_ble_eq_true rfl); intro l9 h9 F9 N9 m9; replace m9 := ltk2 m9; walk_at "d"; refine' unpackItemsN_ (by k_asm) (by k_asm) (News.isTup (by k_asm) (by k_mem)) (by assumption) (by rfl) ?_; intro h9 F9 N9; walk_at "d"; refine assignInOrder_cons ?_; walk_at "d"; (with_reducible refine bindName_ ?_); refine' storeX_L (by k_asm) (by k_asm) ?_ (by rfl) (by rfl); intro h9 F9 N9; walk_at "d"; refine assignInOrder_cons ?_; walk_at "d"; (with_reducible refine bindName_ ?_); refine' storeX_L (by k_asm) (by k_asm) ?_ (by rfl) (by rfl); intro h9 F9 N9; walk_at "d"; refine assignInOrder_nil ?_; (with_reducible refine Kx_next ?_); with_reducible refine execs_k ?_
  have hnone0 : (joinItems bs)[0]? = some none := by cases bs <;> simp [joinItems, blockItems]
  obtain ⟨v0, hv0, hr0⟩ := hv.get hnone0
  have hv0' : v0 = .ref star := hr0
  subst hv0'
  have hjl : 1 ≤ (joinItems bs).length := by simp [joinItems]
  refine while_enter (while_turn ?_)
  (with_reducible refine isTrue_and ?_); refine' pt_test (by k_asm) (by k_asm) (by refine' PT.cmpI (by refine' PE.nameI ⟨rfl, rfl, by decide⟩ (by with_reducible exact upd_hit)) (by refine' PE.nameI ⟨rfl, rfl, by decide⟩ (by with_reducible exact upd_miss (by decide) upd_hit)) (by rfl) (by with_unfolding_all rfl)) ?_; refine At.same rfl ?_; intro k9
  refine ite_tt (decide_eq_true (by (try simp only [List.size_toArray]); omega)) ?_
  (with_reducible refine isTrue_and ?_); (with_reducible refine' wpAny_isTrue_Compare1 ?_ (by with_unfolding_all rfl)); refine' pe_eval (by k_asm) (by k_asm) (by refine' PE.itemL (by refine' PE.name ⟨rfl, rfl, by decide⟩ (by rfl)) (by refine' PE.nameI ⟨rfl, rfl, by decide⟩ (by with_reducible exact upd_hit)) (Px.lst_old (by assumption)) (by assumption) (by rfl) (by omega) rfl) ?_; refine At.same rfl ?_; intro k9; (with_reducible refine PV.all_v ?_); refine' nameX_L (by k_asm) (by rfl) ?_ (by rfl) (by rfl) (by decide); (with_reducible refine wpAny_isNot_ref_self ?_); (with_reducible refine wpAny_truthy_bool ?_); (with_reducible refine ite_f ?_); (with_reducible refine ite_f ?_); (with_reducible refine Kx_next ?_); with_reducible refine execs_k ?_
  clear hv0
  rename Fr _ _ _ _ => Fa
  rename News _ _ _ _ => Na
  obtain ⟨tu, e_Na0⟩ := ledN0 Na
  subst e_Na0
  obtain ⟨add, e_Na1⟩ := ledN1 Na
  subst e_Na1
  obtain ⟨res, e_Na2⟩ := ledN2 Na
  subst e_Na2
  have r1 : @LT.lt Nat _ res add := by assumption
  have Nb : News s.heap s.heap.objs.size _ _ := fun q hq => Na q (.tail _ hq)
  refine while_enter (while_inv (fun n s₁ m news => Xs7 fun done rb ws us k t t2 => Cj13 (bs = done ++ rb) (n = rb.length + 1) (∃ h' tk', s₁ = { s with heap := h', toks := tk' }) (news = [(add, appBound res), (res, PySem.W.listOf ws.toArray k)]) (StrsAre ws us) (us.flatMap (·.cps.toList) = done.flatMap blockText) (us.length = done.length) (m (Str.ofString "inp") = some (.ref a)) (m (Str.ofString "STAR") = some (.ref star)) (m (Str.ofString "res") = some (.ref res)) (m (Str.ofString "add") = some (.ref add)) (m (Str.ofString "i") = some (.int ((done.flatMap blockItems).length : Int) t)) (m (Str.ofString "n") = some (.int ((joinItems bs).length : Int) t2))) ?jt (bs.length + 1) _ _ _ Fa Nb ?j0)
  case j0 => exact ⟨[], bs, [], [], 0, _, _, rfl, rfl, ⟨_, _, rfl⟩, rfl, .nil, rfl, rfl, by rfl, by rfl, by with_reducible exact upd_miss (by decide) (upd_miss (by decide) (upd_miss (by decide) upd_hit)), by with_reducible exact upd_miss (by decide) (upd_miss (by decide) upd_hit), by rfl, by (rw [← hvl, ← List.size_toArray]; with_reducible exact upd_miss (by decide) upd_hit)⟩
  case jt =>
    clear Fa Na Nb F N
    rintro n s₁ m₁ news₁ F N ⟨done, rb, ws, us, k, t, t2, hbs2, rfl, ⟨hp1, tk1, rfl⟩, rfl, hws, hwt, hul, g1, g2, g3, g4, g5, g6⟩
    have hna : @Ne Nat add res := Nat.ne_of_gt r1
    have hwl := hws.length
    have hdl : done.length ≤ bs.length := by rw [hbs2]; simp
    have hbl : bs.length < 2000 := by
      have : bs.length ≤ (joinItems bs).length := by
        have : ∀ l : List (List (List Nat)), l.length ≤ (l.flatMap blockItems).length := by
          intro l; induction l with
          | nil => simp
          | cons b l ih =>
            have h1 : 1 ≤ (blockItems b).length := by simp [blockItems]
            rw [List.flatMap_cons, List.length_append, List.length_cons]; omega
        have := this bs; unfold joinItems; rw [List.length_append]; omega
      omega
    cases rb with
    | nil =>
      rw [List.append_nil] at hbs2
      subst hbs2
      have hnone : (joinItems bs)[(bs.flatMap blockItems).length]? = some none := by simp [joinItems]
      have hjl2 : (joinItems bs).length = (bs.flatMap blockItems).length + 1 := by simp [joinItems]
      obtain ⟨v0, hv0, hr0⟩ := hv.get hnone
      have hv0' : v0 = .ref star := hr0
      subst hv0'
      refine' pt_test (by k_asm) (by k_asm) (by refine' PT.cmpI (by refine' PE.nameI ⟨rfl, rfl, by decide⟩ (by k_all)) (by refine' PE.nameI ⟨rfl, rfl, by decide⟩ (by k_all)) (by rfl) (by with_unfolding_all rfl)) ?_; refine At.same rfl ?_; intro k9
      refine ite_tt (decide_eq_true (by omega)) ?_
      (with_reducible refine execs_k ?_); (with_reducible refine wpAny_Assert_holds ?_); (with_reducible refine' wpAny_isTrue_Compare1 ?_ (by with_unfolding_all rfl)); refine' pe_eval (by k_asm) (by k_asm) (by refine' PE.itemL (by refine' PE.name ⟨rfl, rfl, by decide⟩ (by k_all)) (by refine' PE.nameI ⟨rfl, rfl, by decide⟩ (by k_all)) (Px.lst_old (by assumption)) (by assumption) (by rfl) (by omega) rfl) ?_; refine At.same rfl ?_; intro k9; (with_reducible refine PV.all_v ?_); refine' nameX_L (by k_asm) (by k_all) ?_ (by rfl) (by rfl) (by decide); (with_reducible refine wpAny_is_ref_self ?_); with_reducible refine wpAny_truthy_bool ?_
      refine ⟨rfl, ?_⟩
      (with_reducible refine Kx_next ?_); (with_reducible refine execs_k ?_); refine' exec_aug (by k_asm) (by k_asm) (by k_all) (PE.int) (by rfl) (by rfl) ?_; intro h9 k9 t9 F9 N9; (with_reducible refine Kx_next ?_); (with_reducible refine execs_k ?_); refine' exec_if (by k_asm) (by k_asm) (by refine' PT.cmpI (by refine' PE.nameI ⟨rfl, rfl, by decide⟩ (by with_reducible exact upd_at)) (by refine' PE.nameI ⟨rfl, rfl, by decide⟩ (by with_reducible exact upd_off (by decide) (by assumption))) (by rfl) (by with_unfolding_all rfl)) ?_; refine At.same rfl ?_; intro k9
      refine ite_tt (beq_iff_eq.mpr (by omega)) ?_
      (with_reducible refine execs_k ?_); refine wpAny_Expr_any ?_; (with_reducible refine' Call_ ?_ ?q245); (case q245 => rfl); refine' nameX_L (by k_asm) (by with_reducible exact upd_off (by decide) (by assumption)) ?_ (by rfl) (by rfl) (by decide); refine callWith_app ?_; (with_reducible refine' spliced_more ?_ ?q246); (case q246 => rfl); (with_reducible refine Calls.Constant_str ?_); walk_at "d"; (with_reducible refine spliced_none ?_); walk_at "d"; refine ⟨app_there (by k_asm) (by k_mem), ?_⟩; refine' call_app (by k_asm) (by k_asm) (by k_mem) (by refine' Upd.tail (by k_all) (by refine' Upd.head (List.forall_mem_nil _))) ?_ (by first | (simp only [sizeLine_eq, List.size_toArray, List.length_append, List.length_cons, List.length_nil]; omega) | size_fits); intro h9 F9 N9; simp only [List.push_toArray, List.nil_append, List.cons_append] at N9; walk_at "d"; (with_reducible refine Kx_next ?_); (with_reducible refine execs_1 ?_); (with_reducible refine wpAny_Break ?_); with_reducible refine Kx_brk ?_
      dsimp only [WhileStep3]
      (with_reducible refine Kx_next ?_); (with_reducible refine execs_k ?_); (with_reducible refine wpAny_Assert_holds ?_); refine' pt_test (by k_asm) (by k_asm) (by refine' PT.cmpI (by refine' PE.nameI ⟨rfl, rfl, by decide⟩ (by with_reducible exact upd_at)) (by refine' PE.nameI ⟨rfl, rfl, by decide⟩ (by with_reducible exact upd_off (by decide) (by assumption))) (by rfl) (by with_unfolding_all rfl)) ?_; refine At.same rfl ?_; intro k9
      refine ⟨beq_iff_eq.mpr (by omega), ?_⟩
      (with_reducible refine Kx_next ?_); (with_reducible refine execs_k ?_); (with_reducible refine' wpAny_Assign_Name ?_ ?q247); (case q247 => rfl); (with_reducible refine' PyProof.Rows.MethodCall_ ?_ ?q248); (case q248 => rfl); (with_reducible refine Calls.Constant_str ?_); walk_at "d"; (with_reducible refine GM.join ?_); walk_at "d"; (with_reducible refine' PyProof.Rows.callWith_method1 ?_ ?q249 ?q250); (case q249 => rfl); (case q250 => rfl); walk_at "d"; (with_reducible refine' spliced_more ?_ ?q251); (case q251 => rfl); refine' nameX_L (by k_asm) (by with_reducible exact upd_off (by decide) (by assumption)) ?_ (by rfl) (by rfl) (by decide); with_reducible refine spliced_none ?_
      rename News _ _ _ _ => Nj
      refine join_list (ys := us ++ [S [46, 42]]) (Nj.isList (by k_mem)) (by rw [List.toList_toArray]; exact hws.append' (.cons _ _ .nil)) ?_ fun t' kk => ?_
      · have h1 : ((us ++ [S [46, 42]]).map (·.length)).sum = (bs.flatMap blockText).length + 2 := by rw [sum_flat, List.flatMap_append, hwt]; simp
        have h2 : (joinText bs).length = (bs.flatMap blockText).length + 9 := by simp [joinText]
        have hsep : (Str.ofString "").length = 0 := rfl
        rw [h1, hsep, Nat.mul_zero]; omega
      rw [show (Str.ofString "" : Str) = ⟨#[]⟩ from rfl, join_nil_flat, List.flatMap_append, hwt]
      walk_at "d"; refine' storeX_L (by k_asm) (by k_asm) ?_ (by rfl) (by rfl); intro h9 F9 N9; walk_at "d"; (with_reducible refine Kx_next ?_); (with_reducible refine execs_1 ?_); with_reducible refine wpAny_Return_some ?_
      refine fstr3 (by decide) (by decide) fun tk => ?_
      walk_at "d"; refine' nameX_L (by k_asm) (by with_reducible exact upd_hit) ?_ (by rfl) (by rfl) (by decide)
      refine ⟨_, _, rfl, ?_, fun t' tk => ?_⟩
      · have h2 : (joinText bs).length = (bs.flatMap blockText).length + 9 := by simp [joinText]
        have h3 : (([S [46, 42]] : List Str).flatMap (·.cps.toList)).length = 2 := rfl
        rw [List.length_append, h3]; omega
      rw [show Str.ofString "(?s:" = S [40, 63, 115, 58] from rfl, show Str.ofString ")\\Z" = S [41, 92, 90] from rfl, S_append, S_append]
      skip
      rename Fr _ _ _ _ => Fe
      have etxt : [40, 63, 115, 58] ++ (bs.flatMap blockText ++ ([S [46, 42]] : List Str).flatMap (·.cps.toList)) ++ [41, 92, 90] = joinText bs := by simp [joinText]
      rw [etxt]
      exact hQ _ _ _ Fe.keep
    | cons b r =>
      have hji : joinItems bs = done.flatMap blockItems ++ (none :: (b.map some ++ (r.flatMap blockItems ++ [none]))) := by rw [hbs2]; simp [joinItems, blockItems]
      have hb1 : 1 ≤ b.length := by
        have := hbs b (by rw [hbs2]; simp)
        cases b with
        | nil => exact absurd rfl this
        | cons _ _ => simp
      have hjlen : (joinItems bs).length = (done.flatMap blockItems).length + (1 + (b.length + ((r.flatMap blockItems).length + 1))) := by
        rw [hji]; simp only [List.length_append, List.length_cons, List.length_map, List.length_nil]; omega
      have hjx : ∀ d, d ≤ b.length → ∃ v, vals[(done.flatMap blockItems).length + 1 + d]? = some v ∧ ((∃ h : d < b.length, ∃ t, v = .str (S b[d]) t) ∨ d = b.length ∧ v = .ref star) := by
        intro d hd
        have e1 : (joinItems bs)[(done.flatMap blockItems).length + 1 + d]? = (b.map some ++ (r.flatMap blockItems ++ [none]))[d]? := by
          rw [hji, List.getElem?_append_right (by omega), show (done.flatMap blockItems).length + 1 + d - (done.flatMap blockItems).length = d + 1 by omega, List.getElem?_cons_succ]
        rcases Nat.lt_or_ge d b.length with h | h
        · have e2 : (joinItems bs)[(done.flatMap blockItems).length + 1 + d]? = some (some b[d]) := by
            rw [e1, List.getElem?_append_left (by simpa using h)]; simp [h]
          obtain ⟨v, hv1, t, hv2⟩ := hv.get e2
          exact ⟨v, hv1, .inl ⟨h, t, hv2⟩⟩
        · have hde : d = b.length := by omega
          have e2 : (joinItems bs)[(done.flatMap blockItems).length + 1 + d]? = some none := by
            rw [e1, List.getElem?_append_right (by simp; omega)]
            have : d - (b.map some).length = 0 := by simp; omega
            rw [this]
            cases r <;> simp [blockItems]
          obtain ⟨v, hv1, hv2⟩ := hv.get e2
          exact ⟨v, hv1, .inr ⟨hde, hv2⟩⟩
      have hj0 : (joinItems bs)[(done.flatMap blockItems).length]? = some none := by rw [hji]; simp
      obtain ⟨v0, hv0, hr0⟩ := hv.get hj0
      have hv0' : v0 = .ref star := hr0
      subst hv0'
      refine' pt_test (by k_asm) (by k_asm) (by refine' PT.cmpI (by refine' PE.nameI ⟨rfl, rfl, by decide⟩ (by k_all)) (by refine' PE.nameI ⟨rfl, rfl, by decide⟩ (by k_all)) (by rfl) (by with_unfolding_all rfl)) ?_; refine At.same rfl ?_; intro k9
      refine ite_tt (decide_eq_true (by omega)) ?_
      (with_reducible refine execs_k ?_); (with_reducible refine wpAny_Assert_holds ?_); (with_reducible refine' wpAny_isTrue_Compare1 ?_ (by with_unfolding_all rfl)); refine' pe_eval (by k_asm) (by k_asm) (by refine' PE.itemL (by refine' PE.name ⟨rfl, rfl, by decide⟩ (by k_all)) (by refine' PE.nameI ⟨rfl, rfl, by decide⟩ (by k_all)) (Px.lst_old (by assumption)) (by assumption) (by rfl) (by omega) rfl) ?_; refine At.same rfl ?_; intro k9; (with_reducible refine PV.all_v ?_); refine' nameX_L (by k_asm) (by k_all) ?_ (by rfl) (by rfl) (by decide); (with_reducible refine wpAny_is_ref_self ?_); with_reducible refine wpAny_truthy_bool ?_
      refine ⟨rfl, ?_⟩
      (with_reducible refine Kx_next ?_); (with_reducible refine execs_k ?_); refine' exec_aug (by k_asm) (by k_asm) (by k_all) (PE.int) (by rfl) (by rfl) ?_; intro h9 k9 t9 F9 N9; (with_reducible refine Kx_next ?_); (with_reducible refine execs_k ?_); refine' exec_if (by k_asm) (by k_asm) (by refine' PT.cmpI (by refine' PE.nameI ⟨rfl, rfl, by decide⟩ (by with_reducible exact upd_at)) (by refine' PE.nameI ⟨rfl, rfl, by decide⟩ (by with_reducible exact upd_off (by decide) (by assumption))) (by rfl) (by with_unfolding_all rfl)) ?_; refine At.same rfl ?_; intro k9
      refine ite_ff (beq_eq_false_iff_ne.mpr (by omega)) ?_
      clear hv0
      obtain ⟨v1, hv1, hr1⟩ := hjx 0 (by omega)
      obtain ⟨t1, hv1'⟩ : ∃ t, v1 = .str (S b[0]) t := by
        rcases hr1 with ⟨_, t, h⟩ | ⟨h, _⟩
        · exact ⟨t, h⟩
        · omega
      subst hv1'
      (with_reducible refine wpAny_execs_nil ?_); (with_reducible refine Kx_next ?_); (with_reducible refine execs_k ?_); (with_reducible refine wpAny_Assert_holds ?_); (with_reducible refine' wpAny_isTrue_Compare1 ?_ (by with_unfolding_all rfl)); refine' pe_eval (by k_asm) (by k_asm) (by refine' PE.itemL (by refine' PE.name ⟨rfl, rfl, by decide⟩ (by with_reducible exact upd_off (by decide) (by assumption))) (by refine' PE.nameI ⟨rfl, rfl, by decide⟩ (by with_reducible exact upd_at)) (Px.lst_old (by assumption)) (by assumption) (by rfl) (by omega) rfl) ?_; refine At.same rfl ?_; intro k9; (with_reducible refine PV.all_v ?_); refine' nameX_L (by k_asm) (by with_reducible exact upd_off (by decide) (by assumption)) ?_ (by rfl) (by rfl) (by decide); refine wpAny_isNot_other rfl (fun e => nomatch e) ?_; with_reducible refine wpAny_truthy_bool ?_
      refine ⟨rfl, ?_⟩
      clear hv1
      (with_reducible refine Kx_next ?_); (with_reducible refine execs_k ?_); (with_reducible refine' wpAny_Assign_Name ?_ ?q252); (case q252 => rfl); refine PyProof.Rows.List_ ?_; (with_reducible refine spliced_none ?_); refine' newList_P (by k_asm) (by k_asm) ?_ (Nat.le_of_ble_eq_true rfl); intro l9 h9 F9 N9 m9; replace m9 := ltk2 m9; walk_at "d"; refine' storeX_L (by k_asm) (by k_asm) ?_ (by rfl) (by rfl); intro h9 F9 N9; walk_at "d"; (with_reducible refine Kx_next ?_); with_reducible refine execs_k ?_
      rename Fr _ _ _ _ => Fb
      rename News _ _ _ _ => Nc
      obtain ⟨fx, e_Nc0⟩ := ledN0 Nc
      subst e_Nc0
      refine While_inv2 (fun n m news => Xs4 fun d wf kf t3 => Cj12 (n = b.length - d) (d ≤ b.length) (news = [(fx, PySem.W.listOf wf.toArray kf), (add, appBound res), (res, PySem.W.listOf ws.toArray k)]) (StrsAre wf ((b.take d).map S)) (wf.length = d) (m (Str.ofString "inp") = some (.ref a)) (m (Str.ofString "STAR") = some (.ref star)) (m (Str.ofString "res") = some (.ref res)) (m (Str.ofString "add") = some (.ref add)) (m (Str.ofString "i") = some (.int (((done.flatMap blockItems).length + 1 + d : Nat) : Int) t3)) (m (Str.ofString "n") = some (.int ((joinItems bs).length : Int) t2)) (m (Str.ofString "fixed") = some (.ref fx))) (n₀ := b.length) Fb Nc ?i0 ?it
      case i0 => exact ⟨0, [], 0, _, rfl, Nat.zero_le _, rfl, .nil, rfl, by with_reducible exact upd_miss (by decide) (upd_off (by decide) (by assumption)), by with_reducible exact upd_miss (by decide) (upd_off (by decide) (by assumption)), by with_reducible exact upd_miss (by decide) (upd_off (by decide) (by assumption)), by with_reducible exact upd_miss (by decide) (upd_off (by decide) (by assumption)), by (rw [show (((done.flatMap blockItems).length + 1 + 0 : Nat) : Int) = ((done.flatMap blockItems).length : Int) + 1 by omega]; with_reducible exact upd_miss (by decide) upd_at), by with_reducible exact upd_miss (by decide) (upd_off (by decide) (by assumption)), by with_reducible exact upd_hit⟩
      case it =>
        clear Fb Nc F N g1 g2 g3 g4 g5 g6
        rintro n m₂ news₂ h₂ tk₂ F N ⟨d, wf, kf, t3, rfl, hd, rfl, hwf, hwfl, g1, g2, g3, g4, g5, g6, g7⟩
        obtain ⟨v, hvd, hcase⟩ := hjx d hd
        walk_at "d"; (with_reducible refine isTrue_and ?_); refine' pt_test (by k_asm) (by k_asm) (by refine' PT.cmpI (by refine' PE.nameI ⟨rfl, rfl, by decide⟩ (by k_all)) (by refine' PE.nameI ⟨rfl, rfl, by decide⟩ (by k_all)) (by rfl) (by with_unfolding_all rfl)) ?_; refine At.same rfl ?_; intro k9
        refine ite_tt (decide_eq_true (by omega)) ?_
        rcases hcase with ⟨hdl, tv, rfl⟩ | ⟨hdl, rfl⟩
        · (with_reducible refine isTrue_and ?_); (with_reducible refine' wpAny_isTrue_Compare1 ?_ (by with_unfolding_all rfl)); refine' pe_eval (by k_asm) (by k_asm) (by refine' PE.itemL (by refine' PE.name ⟨rfl, rfl, by decide⟩ (by k_all)) (by refine' PE.nameI ⟨rfl, rfl, by decide⟩ (by k_all)) (Px.lst_old (by assumption)) (by assumption) (by rfl) (by omega) rfl) ?_; refine At.same rfl ?_; intro k9; (with_reducible refine PV.all_v ?_); refine' nameX_L (by k_asm) (by k_all) ?_ (by rfl) (by rfl) (by decide); refine wpAny_isNot_other rfl (fun e => nomatch e) ?_; (with_reducible refine wpAny_truthy_bool ?_); (with_reducible refine ite_t ?_); (with_reducible refine isTrue_and_nil ?_); (with_reducible refine ite_t ?_); (with_reducible refine execs_k ?_); refine wpAny_Expr_any ?_; (with_reducible refine' PyProof.Rows.MethodCall_ ?_ ?q253); (case q253 => rfl); refine' nameX_L (by k_asm) (by k_all) ?_ (by rfl) (by rfl) (by decide); refine' getMethod_append_N (by k_asm) (by k_mem) ?_ (by rfl) (by rfl); walk_at "d"; (with_reducible refine' PyProof.Rows.callWith_method1 ?_ ?q254 ?q255); (case q254 => rfl); (case q255 => rfl); walk_at "d"; (with_reducible refine' spliced_more ?_ ?q256); (case q256 => rfl); refine' pe_eval (by k_asm) (by k_asm) (by refine' PE.itemL (by refine' PE.name ⟨rfl, rfl, by decide⟩ (by k_all)) (by refine' PE.nameI ⟨rfl, rfl, by decide⟩ (by k_all)) (Px.lst_old (by assumption)) (by assumption) (by rfl) (by omega) rfl) ?_; refine At.same rfl ?_; intro k9; (with_reducible refine PV.all_v ?_); (with_reducible refine spliced_none ?_); refine' append_K (by k_asm) (by k_asm) (by refine' Upd.head (by refine List.forall_mem_cons.mpr ⟨by (refine neN ?_; dsimp only; with_reducible exact nq0 (by k_all)), ?_⟩; refine List.forall_mem_cons.mpr ⟨by (refine neN ?_; dsimp only; with_reducible exact nl1 (by k_all)), ?_⟩; exact List.forall_mem_nil _)) ?_ (by first | (simp only [sizeLine_eq, List.size_toArray, List.length_append, List.length_cons, List.length_nil]; omega) | size_fits); intro h9 F9 N9; simp only [List.push_toArray, List.nil_append, List.cons_append] at N9; walk_at "d"; (with_reducible refine Kx_next ?_); (with_reducible refine execs_1 ?_); refine' exec_aug (by k_asm) (by k_asm) (by k_all) (PE.int) (by rfl) (by rfl) ?_; intro h9 k9 t9 F9 N9
          rename Fr _ _ _ _ => Fe
          rename News _ _ _ _ => Ne
          refine ⟨_, _, _, _, b.length - (d + 1), rfl, Fe, Ne, by omega, d + 1, _, kf + 1, _, rfl, by omega, rfl, ?_, by simp; exact hwfl, by with_reducible exact upd_off (by decide) (by assumption), by with_reducible exact upd_off (by decide) (by assumption), by with_reducible exact upd_off (by decide) (by assumption), by with_reducible exact upd_off (by decide) (by assumption), by rw [show (((done.flatMap blockItems).length + 1 + (d + 1) : Nat) : Int) = (((done.flatMap blockItems).length + 1 + d : Nat) : Int) + 1 by omega]; with_reducible exact upd_at, by with_reducible exact upd_off (by decide) (by assumption), by with_reducible exact upd_off (by decide) (by assumption)⟩
          rw [List.take_add_one, List.getElem?_eq_getElem hdl, List.map_append]
          exact hwf.append' (.cons _ _ .nil)
        · (with_reducible refine isTrue_and ?_); (with_reducible refine' wpAny_isTrue_Compare1 ?_ (by with_unfolding_all rfl)); refine' pe_eval (by k_asm) (by k_asm) (by refine' PE.itemL (by refine' PE.name ⟨rfl, rfl, by decide⟩ (by k_all)) (by refine' PE.nameI ⟨rfl, rfl, by decide⟩ (by k_all)) (Px.lst_old (by assumption)) (by assumption) (by rfl) (by omega) rfl) ?_; refine At.same rfl ?_; intro k9; (with_reducible refine PV.all_v ?_); refine' nameX_L (by k_asm) (by k_all) ?_ (by rfl) (by rfl) (by decide); (with_reducible refine wpAny_isNot_ref_self ?_); (with_reducible refine wpAny_truthy_bool ?_); (with_reducible refine ite_f ?_); (with_reducible refine ite_f ?_); (with_reducible refine Kx_next ?_); (with_reducible refine execs_k ?_); (with_reducible refine' wpAny_Assign_Name ?_ ?q257); (case q257 => rfl); (with_reducible refine' PyProof.Rows.MethodCall_ ?_ ?q258); (case q258 => rfl); (with_reducible refine Calls.Constant_str ?_); walk_at "d"; (with_reducible refine GM.join ?_); walk_at "d"; (with_reducible refine' PyProof.Rows.callWith_method1 ?_ ?q259 ?q260); (case q259 => rfl); (case q260 => rfl); walk_at "d"; (with_reducible refine' spliced_more ?_ ?q261); (case q261 => rfl); refine' nameX_L (by k_asm) (by k_all) ?_ (by rfl) (by rfl) (by decide); with_reducible refine spliced_none ?_
          have htake : b.take d = b := List.take_of_length_le (by omega)
          rw [htake] at hwf
          have hflat : (b.map S).flatMap (·.cps.toList) = b.flatten := map_flat b
          have hjt : (joinText bs).length = (done.flatMap blockText).length + ((b.flatten.length + 7) + (r.flatMap blockText).length) + 9 := by
            rw [hbs2]; simp only [joinText, List.flatMap_append, List.flatMap_cons, List.length_append, blockText, List.length_cons, List.length_nil]; omega
          have hsep : (Str.ofString "").length = 0 := rfl
          refine join_list (ys := b.map S) (N.isList (by k_mem)) (by rw [List.toList_toArray]; exact hwf) ?_ fun t' kk => ?_
          · rw [sum_flat, hflat, hsep, Nat.mul_zero]; omega
          rw [show (Str.ofString "" : Str) = ⟨#[]⟩ from rfl, join_nil_flat, hflat]
          walk_at "d"; refine' storeX_L (by k_asm) (by k_asm) ?_ (by rfl) (by rfl); intro h9 F9 N9; walk_at "d"; (with_reducible refine Kx_next ?_); (with_reducible refine execs_1 ?_); refine' exec_if (by k_asm) (by k_asm) (by refine' PT.cmpI (by refine' PE.nameI ⟨rfl, rfl, by decide⟩ (by with_reducible exact upd_miss (by decide) (by assumption))) (by refine' PE.nameI ⟨rfl, rfl, by decide⟩ (by with_reducible exact upd_miss (by decide) (by assumption))) (by rfl) (by with_unfolding_all rfl)) ?_; refine At.same rfl ?_; intro k9
          refine ite_ff (beq_eq_false_iff_ne.mpr (by omega)) ?_
          (with_reducible refine execs_1 ?_); refine wpAny_Expr_any ?_; (with_reducible refine' Call_ ?_ ?q262); (case q262 => rfl); refine' nameX_L (by k_asm) (by with_reducible exact upd_miss (by decide) (by assumption)) ?_ (by rfl) (by rfl) (by decide); refine callWith_app ?_; (with_reducible refine' spliced_more ?_ ?q263); (case q263 => rfl)
          refine fstr3 (by decide) (by decide) fun tk => ?_
          walk_at "d"; refine' nameX_L (by k_asm) (by with_reducible exact upd_hit) ?_ (by rfl) (by rfl) (by decide)
          refine ⟨_, _, rfl, by omega, fun t' tk => ?_⟩
          rw [show Str.ofString "(?>.*?" = S [40, 63, 62, 46, 42, 63] from rfl, show Str.ofString ")" = S [41] from rfl, S_append, S_append, show [40, 63, 62, 46, 42, 63] ++ b.flatten ++ [41] = blockText b by simp [blockText]]
          walk_at "d"; (with_reducible refine spliced_none ?_); walk_at "d"; refine ⟨app_there (by k_asm) (by k_mem), ?_⟩; refine' call_app (by k_asm) (by k_asm) (by k_mem) (by refine' Upd.tail (by refine neN ?_; dsimp only; with_reducible exact rl1 (by k_all)) (by refine' Upd.tail (by k_all) (by refine' Upd.head (List.forall_mem_nil _)))) ?_ (by first | (simp only [sizeLine_eq, List.size_toArray, List.length_append, List.length_cons, List.length_nil]; omega) | size_fits); intro h9 F9 N9; simp only [List.push_toArray, List.nil_append, List.cons_append] at N9
          rename Fr _ _ _ _ => Fe
          rename News _ _ _ _ => Ne
          have eidx : (done.flatMap blockItems).length + 1 + d = ((done ++ [b]).flatMap blockItems).length := by simp [blockItems]; omega
          rw [eidx] at g5
          refine ⟨_, [(add, appBound res), (res, PySem.W.listOf (ws ++ [Value.str (S (blockText b)) _]).toArray (k + 1))], r.length + 1, Fe, fun q hq => Ne q (.tail _ hq), by simp, done ++ [b], r, ws ++ [Value.str (S (blockText b)) _], us ++ [S (blockText b)], k + 1, _, _, by rw [hbs2]; simp, rfl, ⟨_, _, rfl⟩, rfl, hws.append' (.cons _ _ .nil), ?_, by simp [hul], by with_reducible exact upd_miss (by decide) (by assumption), by with_reducible exact upd_miss (by decide) (by assumption), by with_reducible exact upd_miss (by decide) (by assumption), by with_reducible exact upd_miss (by decide) (by assumption), by with_reducible exact upd_miss (by decide) (by assumption), by with_reducible exact upd_miss (by decide) (by assumption)⟩
          rw [List.flatMap_append, hwt, List.flatMap_append]; simp
theorem under_but {g h h' : Heap} {L : Addr} {m : Str → Option Value} (F : Fr g L h m) (k : PresBut 57 h h') (hg : g.get? 57 = none) (hL : L ≠ 57) : Fr g L h' m := by
  obtain ⟨o, es, ep, e, hd, r⟩ := F.ns
  exact ⟨⟨o, es, ep, k _ _ hL e, hd, r⟩, fun b o e => k b o (fun q => by rw [q, hg] at e; cases e) (F.keep b o e), F.above⟩
theorem translate_spec {w : World} {A : Around} {s : Shared} {Q E : Value → Shared → Prop} {p : Program} {loose : List Str} {mg mb : Str → Option Value}
   (X : (Mine.heap_39 w.params).In s.heap) (T : TopRead p loose mg mb s.heap) (hroom : A.depth + 22 < recursionLimit) (hun : A.units + 210 < cLine) (hh : A.handled = none)
   (hb : s.heap.BuiltinsAt mg 57) (hT : TabOk 57 s.heap) (hG : AllBare s.gens)
   (ts : List PTok) (hok : POk false ts) (hlen : (pchars ts).length < 10000) {tp : Tok} {bs : List (List (List Nat))} (hts : ts.map PTok.item = joinItems bs) (hbs : ∀ b ∈ bs, b ≠ []) (hjl : (joinItems bs).length < 2000) (htl : (joinText bs).length < 10000)
   (hQ : ∀ s' t', PresBut 57 s.heap s'.heap → TabOk 57 s'.heap → AllBare s'.gens → s'.os = s.os → Q (.str (S (joinText bs)) t') s') :
  wpAny (model PySem.Challenge.rw_ij0038_01.row.prog w) A (call (.ref 43) [.str (S (pchars ts)) tp]) Q E s := by
  have h57 : @LT.lt Nat _ 57 s.heap.objs.size := by obtain ⟨ps, h, _⟩ := hT; exact Heap.lt_size h
  have hT' := hT
  obtain ⟨ps0, hP, htr0⟩ := hT'
  refine' enter_plain (K := Mine.heap_39 w.params) X T.nolimit ?r ?ho ?hcd ?hb ?hl ?hc ?_ ?c2 ?c3 ?c4
  case r => omega
  case ho => k_is
  case hcd => k_is
  case hb => exact BindsTo.of_eq rfl
  case hl => ((intro y hy; with_unfolding_all (repeat (first | exact absurd hy List.not_mem_nil | (rcases List.mem_cons.mp hy with hy | hy; (subst hy; rfl))))))
  case hc => decide +kernel
  case c2 => rfl
  case c3 => rfl
  case c4 => rfl
  intro h₁ F N
  walk_at "d"; (with_reducible refine execs_k ?_); (with_reducible refine' wpAny_Assign_Name ?_ ?q264); (case q264 => rfl); (with_reducible refine' Call_ ?_ ?q265); (case q265 => rfl); refine' nameX_B (by k_asm) (by k_asm) (by k_asm) (by k_is) (by boot_fast) (by decide) ?_ (by rfl) (by rfl) (by decide); refine callWith_type0 ?_; refine' call_object_F (by k_asm) (by k_asm) ?_; intro h9 r9 F9 N9 m9; replace m9 := allLt_of m9; simp only [AllLt, and_true] at m9; walk_at "d"; refine' storeX_L (by k_asm) (by k_asm) ?_ (by rfl) (by rfl); intro h9 F9 N9; walk_at "d"; (with_reducible refine Kx_next ?_); (with_reducible refine execs_k ?_); (with_reducible refine' wpAny_Assign_Name ?_ ?q266); (case q266 => rfl); (with_reducible refine' Call_ ?_ ?q267); (case q267 => rfl); refine' nameX_K (by k_asm) (by k_asm) (by k_asm) (by k_is) ?_ (by rfl) (by rfl) (by decide); refine' callWith_K (by k_asm) (by k_is) ?_; walk_at "d"; (with_reducible refine' spliced_more ?_ ?q268); (case q268 => rfl); refine' nameX_L (by k_asm) (by rfl) ?_ (by rfl) (by rfl) (by decide); (with_reducible refine' spliced_more ?_ ?q269); (case q269 => rfl); refine' nameX_L (by k_asm) (by with_reducible exact upd_hit) ?_ (by rfl) (by rfl) (by decide); (with_reducible refine' spliced_more ?_ ?q270); (case q270 => rfl); (with_reducible refine Calls.Constant_str ?_); walk_at "d"; (with_reducible refine spliced_none ?_); walk_at "d"; refine ⟨by k_in, ?_⟩
  rename Fr _ _ _ _ => Fa
  rename News _ _ _ _ => Na
  obtain ⟨st, e_Na0⟩ := ledN0 Na
  subst e_Na0
  have hst := Na (st, objO) (by k_mem)
  have hne : st ≠ 57 := fun e => by have := hst.2.2; rw [e, hP] at this; cases this
  refine' trans_spec (star := st) ?tX ?tT ?tr ?tu ?th ?tb ?tab ?tG ts hok hlen ?tst hne ?_
  case tX => k_in
  case tT => exact TopRead.keeps (by assumption) (Fr.keep (by k_asm))
  case tr => (simp only [Around.deeper]; omega)
  case tu => exact Nat.lt_of_le_of_lt (Nat.le_refl _) (by show A.units + _ + 200 < _; omega)
  case th => exact hh
  case tb => exact hb.keeps Fa.keep
  case tab => exact ⟨ps0, Fa.keep _ _ hP, htr0⟩
  case tG => exact hG
  case tst => rw [hst.1]; rfl
  intro s' a vals han hk hT' hG' hos hl hv
  have hL57 : s.heap.objs.size ≠ 57 := Nat.ne_of_gt h57
  have Fg := under_but (under_fr (P := 57) Fa) hk (hideAll_none _ (.head _)) hL57
  obtain ⟨oa, hoa, hac, na, had⟩ := hl
  obtain ⟨ps1, hP1, htr1⟩ := hT'
  have hag : (hideAll s.heap [57]).get? a = none := by
    cases q : (hideAll s.heap [57]).get? a with
    | none => rfl
    | some o =>
      have h1 := of_hideAll _ q
      have h2 := Fa.keep _ _ h1
      have h3 : a ≠ 57 := fun e => by rw [e, hideAll_none _ (.head _)] at q; cases q
      rw [hideAll_get _ h2 (by simpa using h3)] at han
      cases han
  have haL : a ≠ s.heap.objs.size := fun e => by
    obtain ⟨o, _, _, e1, _⟩ := Fa.ns
    rw [e, hideAll_get _ e1 (by simpa using hL57)] at han
    cases han
  have Ng : News (hideAll s.heap [57]) s.heap.objs.size s'.heap [(a, oa), (57, tabObj ps1)] := fun p hp => by
    rcases List.mem_cons.mp hp with rfl | hp
    · exact ⟨hoa, haL, hag⟩
    · rw [List.mem_singleton.mp hp]
      exact ⟨hP1, Ne.symm hL57, hideAll_none _ (.head _)⟩
  have Xg := under_K (P := 57) X (by kernel_rfl)
  have Tg := under_top hP T
  have hkeep : ∀ {h' : Heap} {m : Str → Option Value}, Fr (hideAll s.heap [57]) s.heap.objs.size h' m → PresBut 57 s.heap h' := fun F => under_keep F
  clear X T Fa Na F N hst
  obtain ⟨hp, gs, dr, tk, os⟩ := s'
  generalize hideAll s.heap [57] = g at Fg Ng Xg Tg hag hkeep
  refine' storeX_L (by k_asm) (by k_asm) ?_ (by rfl) (by rfl); intro h9 F9 N9; walk_at "d"; (with_reducible refine Kx_next ?_); (with_reducible refine execs_1 ?_); (with_reducible refine wpAny_Return_some ?_); walk_at "d"; (with_reducible refine' Call_ ?_ ?q271); (case q271 => rfl); refine' nameX_K (by k_asm) (by k_asm) (by k_asm) (by k_is) ?_ (by rfl) (by rfl) (by decide); refine' callWith_K (by k_asm) (by k_is) ?_; walk_at "d"; (with_reducible refine' spliced_more ?_ ?q272); (case q272 => rfl); refine' nameX_L (by k_asm) (by with_reducible exact upd_hit) ?_ (by rfl) (by rfl) (by decide); (with_reducible refine' spliced_more ?_ ?q273); (case q273 => rfl); refine' nameX_L (by k_asm) (by with_reducible exact upd_miss (by decide) upd_hit) ?_ (by rfl) (by rfl) (by decide); (with_reducible refine spliced_none ?_); walk_at "d"; refine ⟨by k_in, ?_⟩
  rename Fr _ _ _ _ => Fb
  rename News _ _ _ _ => Nb
  refine' join_spec ?tX ?tT ?tr ?th ⟨oa, (Nb (a, oa) (by k_mem)).1, hac, na, had⟩ bs (by rw [← hts]; exact hv) hbs hjl htl ?_
  case tX => k_in
  case tT => exact TopRead.keeps (by assumption) (Fr.keep (by k_asm))
  case tr => (simp only [Around.deeper]; omega)
  case th => exact hh
  intro h' tk' t' hp'
  exact hQ _ _ (hkeep (Fb.keeps hp')) ⟨ps1, hp' _ _ (Nb (57, tabObj ps1) (by k_mem)).1, htr1⟩ hG' hos
noncomputable def isTextAt (items : Array Value) (c : Nat) : Bool := match items[c]? with | some (.str x _) => x == S (encC c) | _ => false
theorem isTextAt_get {items : Array Value} {c : Nat} (h : isTextAt items c = true) : ∃ u, items[c]? = some (.str (S (encC c)) u) := by
  unfold isTextAt at h
  split at h
  · rename_i x u e; exact ⟨u, by rw [e]; congr 2; exact eq_of_beq h⟩
  · cases h
theorem tab82 (w : World) : ∃ items n, (Mine.heap_39 w.params).lookup 82 = some (PySem.W.listOf items n) ∧ (List.range 256).all (isTextAt items) = true := by
  refine ⟨_, _, by k_is, ?_⟩
  decide +kernel
theorem look_text {prog : Program} {w : World} {A : Around} {E : Value → Shared → Prop} {s : Shared} {Q : Builtin.Str.Mapped → Shared → Prop} {l : Addr} {items : Array Value} {c : Nat} {x : Str} {u : Tok} (hl : s.heap.IsList l items) (hx : items[c]? = some (.str x u)) (hc : c < 256)
    (h : ∀ tk, Q (.text x) { s with toks := tk }) : wpAny (model prog w) A (Builtin.Str.tableLookup (.ref l) c) Q E s := by
  unfold Builtin.Str.tableLookup
  refine wpAny_bind (wpAny_attempt (wpAny_bind ?_))
  refine wpAny_mkInt ?_
  refine wpAny_getItem_list (s := { s with toks := s.toks + 1 }) (x := .str x u) hl (by omega) (by omega) hx ?_
  exact wpAny_pure (h _)
theorem fmt_s {prog : Program} {w : World} {A : Around} {E : Value → Shared → Prop} {s : Shared} {env : Env} {va : Expr} {p : Pos} {Q : Value → Shared → Prop}
    (h : wpAny (model prog w) A (eval va env) (fun y s₁ => Xs2 fun l t => Cj3 (y = .str (S l) t) (l.length ≤ 1000) (∀ t' tk, Q (.str (S l) t') { s₁ with toks := tk })) E s) : wpAny (model prog w) A (eval (.FormattedValue va 115 none p) env) Q E s := by
  refine wpAny_FormattedValue_s (wpAny_mono h (fun y s₁ h₁ => ?_) fun _ _ e => e)
  obtain ⟨l, t, rfl, hl, hq⟩ := h₁
  have hz : (S l).length ≤ sizeLine := by rw [S_len, sizeLine_eq]; omega
  show wpAny _ _ (habitSame "fstring-hands-on-the-str" (.str (S l) t)) _ _ _
  exact habitSame_str (fun t' tk => formatField_str (fun t2 tk2 => hq t2 tk2) hz) hz
theorem fmt_word {prog : Program} {w : World} {A : Around} {E : Value → Shared → Prop} {s : Shared} {env : Env} {va vb : Expr} {p1 p2 p3 p4 p5 pos : Pos} {ka kb kc : Nat} {Q : Value → Shared → Prop}
    (h : ∀ tk, wpAny (model prog w) A (eval va env) (fun y s₁ => Xs2 fun l t => Cj3 (y = .str (S l) t) (l.length ≤ 1000) (∀ tk, wpAny (model prog w) A (eval vb env) (fun y s₂ => ∃ m u, y = .str (S m) u ∧ m.length ≤ 1000 ∧ ∀ t' tk, Q (.str (S (61 :: 63 :: (l ++ (63 :: 113 :: 63 :: (m ++ [63, 61]))))) t') { s₂ with toks := tk }) E { s₁ with toks := tk })) E { s with toks := tk }) :
    wpAny (model prog w) A (eval (.JoinedStr [.Constant (.str (Str.ofString "=?")) ka p1, .FormattedValue va 115 none p2, .Constant (.str (Str.ofString "?q?")) kb p3, .FormattedValue vb 115 none p4, .Constant (.str (Str.ofString "?=")) kc p5] pos) env) Q E s := by
  rw [show Str.ofString "=?" = S [61, 63] from rfl, show Str.ofString "?q?" = S [63, 113, 63] from rfl, show Str.ofString "?=" = S [63, 61] from rfl]
  refine JoinedStr_many (joinParts_cons (Calls.Constant_str ?_))
  dsimp only
  rw [show Str.empty ++ S [61, 63] = S [61, 63] from Str.empty_append _]
  refine ⟨by decide, joinParts_cons (fmt_s (wpAny_mono (h _) (fun y s₁ h₁ => ?_) fun _ _ e => e))⟩
  obtain ⟨l, t, rfl, hl, h2⟩ := h₁
  refine ⟨l, t, rfl, hl, fun t1 k1 => ?_⟩
  dsimp only
  rw [S_append]
  refine ⟨by rw [S_len, sizeLine_eq]; simp; omega, joinParts_cons (Calls.Constant_str ?_)⟩
  dsimp only
  rw [S_append]
  refine ⟨by rw [S_len, sizeLine_eq]; simp; omega, joinParts_cons (fmt_s (wpAny_mono (h2 _) (fun y s₂ h₃ => ?_) fun _ _ e => e))⟩
  obtain ⟨m, u, rfl, hm, hq⟩ := h₃
  refine ⟨m, u, rfl, hm, fun t2 k2 => ?_⟩
  dsimp only
  rw [S_append]
  refine ⟨by rw [S_len, sizeLine_eq]; simp; omega, joinParts_cons (Calls.Constant_str ?_)⟩
  dsimp only
  rw [S_append]
  refine ⟨by rw [S_len, sizeLine_eq]; simp; omega, joinParts_nil ?_ (by rw [S_len, sizeLine_eq]; simp; omega)⟩
  rw [show [61, 63] ++ l ++ [63, 113, 63] ++ m ++ [63, 61] = 61 :: 63 :: (l ++ (63 :: 113 :: 63 :: (m ++ [63, 61]))) by simp]
  exact hq _ _
theorem henc_spec {w : World} {A : Around} {s : Shared} {Q E : Value → Shared → Prop} {p : Program} {loose : List Str} {mg mb : Str → Option Value}
   (X : (Mine.heap_39 w.params).In s.heap) (T : TopRead p loose mg mb s.heap) (hroom : A.depth + 20 < recursionLimit) (hh : A.handled = none)
   {cs row : List Nat} {t u : Tok} (hr : ∀ c ∈ row, c < 256) (h1 : 1 ≤ row.length) (hl : row.length ≤ 3) (hcs : cs.length ≤ 2) (hQ : ∀ h' tk' t', Pres s.heap h' → Q (.str (S (wordL cs row)) t') {s with heap := h', toks := tk'}) :
  wpAny (model PySem.Challenge.rw_ij0038_01.row.prog w) A (call (.ref 105) [.bytes (row.map Nat.toUInt8).toArray t, .str (S cs) u]) Q E s := by
  refine' enter_plain (K := Mine.heap_39 w.params) X T.nolimit ?r ?ho ?hcd ?hb ?hl ?hc ?_ ?c2 ?c3 ?c4
  case r => omega
  case ho => k_is
  case hcd => k_is
  case hb => exact binds_K X rfl (by k_is) rfl rfl rfl
  case hl => ((intro y hy; with_unfolding_all (repeat (first | exact absurd hy List.not_mem_nil | (rcases List.mem_cons.mp hy with hy | hy; (subst hy; rfl))))))
  case hc => decide +kernel
  case c2 => rfl
  case c3 => rfl
  case c4 => rfl
  intro h₁ F N
  walk_at "d"; (with_reducible refine execs_k ?_); (with_reducible refine wpAny_If ?_); (with_reducible refine isTrue_not ?_); refine PyProof.Rows.isTrue_plain ?_; refine' nameX_L (by k_asm) (by rfl) ?_ (by rfl) (by rfl) (by decide)
  refine truthy_bytes (by simp; omega) ?_
  refine ite_ff (by simp; intro e; simp [e] at h1) ?_
  walk_at "d"; (with_reducible refine wpAny_execs_nil ?_); (with_reducible refine Kx_next ?_); (with_reducible refine execs_k ?_); (with_reducible refine' wpAny_Assign_Name ?_ ?q274); (case q274 => rfl); (with_reducible refine' PyProof.Rows.MethodCall_ ?_ ?q275); (case q275 => rfl); (with_reducible refine' PyProof.Rows.MethodCall_ ?_ ?q276); (case q276 => rfl); refine' nameX_L (by k_asm) (by rfl) ?_ (by rfl) (by rfl) (by decide)
  refine KBd.method ?_
  walk_at "d"; (with_reducible refine' PyProof.Rows.callWith_method1 ?_ ?q277 ?q278); (case q277 => rfl); (case q278 => rfl); walk_at "d"; (with_reducible refine' spliced_more ?_ ?q279); (case q279 => rfl); (with_reducible refine Calls.Constant_str ?_); walk_at "d"; with_reducible refine spliced_none ?_
  refine decode_lat h1 hl hr fun t1 k1 => ?_
  walk_at "d"; (with_reducible refine Mine.getm_trans ?_); walk_at "d"; (with_reducible refine' PyProof.Rows.callWith_method1 ?_ ?q280 ?q281); (case q280 => rfl); (case q281 => rfl); walk_at "d"; (with_reducible refine' spliced_more ?_ ?q282); (case q282 => rfl); refine' nameX_K (by k_asm) (by k_asm) (by k_asm) (by k_is) ?_ (by rfl) (by rfl) (by decide); with_reducible refine spliced_none ?_
  obtain ⟨its, n, e82, f82⟩ := tab82 w
  refine trans_all (x := row) (mp := fun c => .text (S (encC c))) (by intro e; simp [e] at h1) (by omega) (fun c _ => .inr ⟨_, rfl, by rw [S_len]; have := encC_len c; omega⟩) (fun c' hc' s' Q' hp hQ' => ?_) ?_
  · obtain ⟨u', hu'⟩ := isTextAt_get (List.all_eq_true.mp f82 c' (by simpa using hr c' hc'))
    refine look_text (items := its) ⟨_, hp _ _ (Fr.keep (by k_asm) _ _ (X 82 _ e82)), rfl, _, rfl⟩ hu' (hr c' hc') fun tk => hQ' _ _ (fun _ _ e => e)
  intro h2 tk2 t2 p2
  (rename Pres _ _ => Pa; rename Fr _ _ _ _ => Fa; rename News _ _ _ _ => Na; have F₂ := Fa.keeps Pa; have N₂ := Na.grown Pa; clear Pa Fa Na)
  rw [show row.flatMap (outOf fun c => .text (S (encC c))) = enc row from congrArg (fun f => row.flatMap f) (funext fun c => S_list _)]
  walk_at "d"; refine' storeX_L (by k_asm) (by k_asm) ?_ (by rfl) (by rfl); intro h9 F9 N9; walk_at "d"; (with_reducible refine Kx_next ?_); (with_reducible refine execs_1 ?_); with_reducible refine wpAny_Return_some ?_
  refine fmt_word fun tk => ?_
  walk_at "d"; refine' nameX_L (by k_asm) (by rfl) ?_ (by rfl) (by rfl) (by decide)
  refine ⟨_, _, rfl, by omega, fun tk => ?_⟩
  walk_at "d"; refine' nameX_L (by k_asm) (by with_reducible exact upd_hit) ?_ (by rfl) (by rfl) (by decide)
  refine ⟨_, _, rfl, by have := enc_len row; omega, fun t' tk => ?_⟩
  exact hQ _ _ _ (Fr.keep (by k_asm))
noncomputable def IsBody (w : World) (b : List Stmt) (env : Env) (L : Addr) : Prop := ∀ o fd, (Mine.heap_39 w.params).lookup 129 = some o → o.data = .func fd → fd.body = .stmts b ∧ env = envOfC fd.qualname fd.scope L 129 fd.code
noncomputable def idxA (t : Int) : Nat := (t.fmod 8).toNat
noncomputable def idxB (t : Int) : Nat := ((t.fdiv 8).fmod 9 - 1).toNat
noncomputable abbrev pieceT : List (Str × Str) := [(Str.ofString "u", Str.ofString "u"), (Str.ofString "?", Str.ofString "uvw"), (Str.ofString "[uv]", Str.ofString "uv"), (Str.ofString "[!u]", Str.ofString "vw"), (Str.ofString "[u-v]", Str.ofString "uv"), (Str.ofString "[!v-u]", Str.ofString "uvw"), (Str.ofString "v", Str.ofString "v"), (Str.ofString "[v-u]", Str.ofString "")]
noncomputable def pieceObj (k : Nat) (t u : Tok) : Obj := { cls := .type "tuple", data := .seq #[.str (S (pcTok k).chars) t, .str (S (pcCls k)) u] }
theorem slice3 (vs : List Value) : slicePick vs.toArray none (some 3) none = (vs.take 3).toArray := by
  rw [slicePick_plain]
  have e1 : clipAt vs.length 3 = min 3 vs.length := by have := clipAt_nat vs.length 3; rw [show ((3 : Nat) : Int) = 3 from rfl] at this; omega
  simp only [Option.elim, List.size_toArray, e1, List.toList_toArray]
  simp
noncomputable abbrev HdrQ := Flow → Shared → Prop
theorem hdr_numbers {w : World} {A : Around} {s : Shared} {Q : HdrQ} {p : Program} {loose : List Str} {mg mb : Str → Option Value} {b : List Stmt} {env : Env} {g : Heap} {L : Addr} {m : Str → Option Value} {o1' o2' : Obj}
   (B : IsBody w b env L) (X : (Mine.heap_39 w.params).In g) (T : TopRead p loose mg mb g) (hroom : A.depth + 28 < recursionLimit) (hun : A.units + 280 < cLine) (hh : A.handled = none)
   (F : Fr g L s.heap m) (N : News g L s.heap [(L + 1 + 1, o1'), (L + 1, o2')])
   {sa : Addr} {vs : List Value} {xs : List Int} (hl : g.IsList sa vs.toArray) (hi : IntsAre vs xs) (hxl : xs.length ≤ 63) (hsa : m (Str.ofString "script") = some (.ref sa))
   (h : ∀ h' tk' m' D k nvs, Fr g L h' m' → News g L h' [(D, PySem.W.listOf nvs.toArray k), (L + 1 + 1, o1'), (L + 1, o2')] → m' (Str.ofString "script") = some (.ref sa) → m' (Str.ofString "numbers") = some (.ref D) → @LT.lt Nat _ (L + 1 + 1) D →
     IntsAre nvs ((numbersOf (xs.take 3)).map Int.ofNat) → wpAny (model PySem.Challenge.rw_ij0038_01.row.prog w) (A.deeper env) (execs (b.drop 2) env) Q (fun _ _ => False) { s with heap := h', toks := tk' }) :
  wpAny (model PySem.Challenge.rw_ij0038_01.row.prog w) (A.deeper env) (execs b env) Q (fun _ _ => False) s := by
  generalize hr : b.drop 2 = rest at h
  obtain ⟨hb, rfl⟩ := B _ _ (show (Mine.heap_39 w.params).lookup 129 = some _ from by k_is) rfl
  replace hb : FuncBody.stmts _ = .stmts b := hb
  injection hb with hb
  subst hb
  dsimp only [List.drop] at hr ⊢
  with_reducible refine execs_k ?_
  refine' lcu_node ?hsw ?hclos ?hkind ?hnames ?hs ?_
  case hsw => with_unfolding_all rfl
  case hclos => with_unfolding_all rfl
  case hkind => rfl
  case hnames => decide
  case hs => intro _; rfl
  (with_reducible refine Subscript_ ?_); refine' nameX_L (by k_asm) (by k_all) ?_ (by rfl) (by rfl) (by decide); (with_reducible refine wpAny_Slice ?_); (with_reducible refine evalPart_none_step ?_); (with_reducible refine evalPart_some_step ?_); (with_reducible refine wpAny_Constant_int ?_); with_reducible refine evalPart_none_step ?_
  refine' slice_list_P (s := ⟨_, _, _, _, _⟩) (vs.take 3) ?F ?N ?l .none (.int _ _) ?w ?_ ?hs ?ht ?z
  case F => k_asm
  case N => k_asm
  case l => exact isList_keeps (Fr.keep (by k_asm)) (by assumption)
  case hs => with_unfolding_all rfl
  case ht => intro _; with_unfolding_all rfl
  case z => simp only [List.size_toArray, sizeLine_eq]; have := hi.length; omega
  case w => exact slice3 vs
  k_whole
  intro Ls h₃ F₃ N₃ l₃
  replace l₃ := ltk2 l₃
  skip
  have hi3 : IntsAre (vs.take 3) (xs.take 3) := ints_take hi 3
  have hv3 : (vs.take 3).length ≤ 3 := by simp; omega
  generalize vs.take 3 = v3 at hi3 hv3 N₃ ⊢
  generalize xs.take 3 = x3 at hi3 h ⊢
  refine' lcu_list (vs := v3) hh ?l ?z ?c ?k ?hy ?hp ?F ?N (fun i ys led => led = [] ∧ ys.length ≤ i ∧ IntsAre ys ((x3.take i).map fun x => x.fmod 10000000000000)) ?h0 ?hJ ?turn ?done
  case l => exact News.isList (by k_asm) (by k_mem)
  case z => rw [sizeLine_eq]; omega
  case c => decide
  case k => rfl
  case hy => rfl
  case hp => rfl
  case F => k_asm
  case N => k_asm
  case h0 => exact ⟨rfl, Nat.le_refl _, by simpa using IntsAre.nil⟩
  case hJ => exact fun _ _ _ h => h.2.1
  case turn =>
    intro I' i' v' ys' led' C own hC mC tkC hi' hv' hJ' hsep' hown' F N
    obtain ⟨rfl, hyl, hns⟩ := hJ'
    obtain ⟨oI', nm, hoI, hcI, hnI⟩ := hown'
    obtain ⟨xi, t, hxi, rfl⟩ := ints_get hi3 hv'
    refine letOwned_skip (N _ (List.mem_append_left _ hoI)).1 hcI hnI ?_
    walk_at "d"; (with_reducible refine wpAny_assign_Name ?_); refine' storeC_L (by k_asm) (by k_asm) ?_ (by rfl) (by rfl); intro h9 F9 N9
    refine wpAny_tests_nil ?_
    walk_at "d"; (with_reducible refine ite_t ?_); (with_reducible refine wpAny_BinOp ?_); refine' nameC_L (by k_asm) (by with_reducible exact upd_hit) ?_ (by rfl) (by rfl) (by decide); (with_reducible refine wpAny_BinOp ?_); (with_reducible refine wpAny_Constant_int ?_); walk_at "d"; with_reducible refine wpAny_Constant_int ?_
    refine pow_lit (r := 10000000000000) (by decide) (by decide) (by decide) (by decide) (by decide) (by decide) ?_
    walk_at "d"; with_reducible (refine' mod_int' (by decide) ?_)
    refine ⟨_, _, _, [], _, rfl, by assumption, by assumption, fun p hp => List.mem_append_left _ hp, fun p hp => absurd hp (by simp), fun p hp => absurd hp (by simp), rfl, by simp; omega, ?_⟩
    rw [List.take_add_one, hxi, Option.toList_some, List.map_append]
    exact intsAre_snoc hns
  case done =>
    rintro D ys led h' tk₂ k ⟨rfl, hyl, hns⟩ F N hld hND
    walk_at "d"; with_reducible refine Kx_next ?_
    have hvx := hi3.length
    have hD2 : @LT.lt Nat _ (L + 1 + 1) D := hND (L + 1 + 1, o1') (by k_mem)
    rw [List.take_of_length_le (by omega)] at hns
    with_reducible refine execs_cut (fun s' => Xs6 fun h' tk' m' D k nvs => Cj7 (s' = { s with heap := h', toks := tk' }) (Fr g L h' m') (News g L h' [(D, PySem.W.listOf nvs.toArray k), (L + 1 + 1, o1'), (L + 1, o2')]) (m' (Str.ofString "script") = some (.ref sa)) (m' (Str.ofString "numbers") = some (.ref D)) (@LT.lt Nat _ (L + 1 + 1) D) (IntsAre nvs ((numbersOf x3).map Int.ofNat))) ?cut1 ?cut2
    case cut1 =>
      refine' exec_if (by k_asm) (by k_asm) (by refine' PT.cmpI (by refine' PE.lenL (by refine' PE.lenB (by k_asm) (by k_asm) ⟨rfl, rfl⟩ (by k_is)) (by refine' PE.name ⟨rfl, rfl, by decide⟩ (by with_reducible exact upd_hit)) (Px.lst_new (by k_mem)) (by omega) rfl) (PE.int) (by rfl) (by with_unfolding_all rfl)) ?_; refine At.same rfl ?_; intro k9
      refine ite_d (fun hlt => ?_) (fun hge => ?_)
      · (with_reducible refine execs_1 ?_); (with_reducible refine' wpAny_Assign_Name ?_ ?q283); (case q283 => rfl); (with_reducible refine wpAny_BinOp ?_); refine' nameX_L (by k_asm) (by with_reducible exact upd_hit) ?_ (by rfl) (by rfl) (by decide); refine PyProof.Rows.List_ ?_; (with_reducible refine' spliced_more ?_ ?q284); (case q284 => rfl); (with_reducible refine wpAny_Constant_int ?_); walk_at "d"; (with_reducible refine' spliced_more ?_ ?q285); (case q285 => rfl); (with_reducible refine wpAny_Constant_int ?_); walk_at "d"; (with_reducible refine spliced_none ?_); refine' newList_P (by k_asm) (by k_asm) ?_ (Nat.le_of_ble_eq_true rfl); intro l9 h9 F9 N9 m9; replace m9 := ltk4 m9
        refine' add_lists_P (vs := ys) (ws := [_, _]) ?F ?N ?l ?l2 ?_ ?z
        case F => k_asm
        case N => k_asm
        case l => exact News.isList (by k_asm) (by k_mem)
        case l2 => exact News.isList (by k_asm) (by k_mem)
        case z => simp only [sizeLine_eq, List.length_cons, List.length_nil]; omega
        k_whole
        intro Lr h₃ F₃ N₃ l₃
        replace l₃ := ltk5 l₃
        walk_at "d"; refine' storeX_L (by k_asm) (by k_asm) ?_ (by rfl) (by rfl); intro h9 F9 N9
        rename Fr _ _ _ _ => Fz
        rename News _ _ _ _ => Nz
        refine ⟨rfl, _, _, _, Lr, 0, _, rfl, Fz, News.sub Nz (by intro p hp; simp only [List.mem_cons, List.not_mem_nil, or_false] at hp; rcases hp with rfl | rfl | rfl <;> k_mem), by with_reducible exact upd_miss (by decide) (upd_miss (by decide) (by assumption)), by with_reducible exact upd_hit, by omega, ?_⟩
        (try simp only [List.size_toArray] at hlt)
        rw [numbers_short (by have := hns.length; rw [List.length_map] at this; omega)]
        exact ints_append hns (.cons _ _ (.cons _ _ .nil))
      · with_reducible refine wpAny_execs_nil ?_
        rename Fr _ _ _ _ => Fz
        rename News _ _ _ _ => Nz
        refine ⟨rfl, _, _, _, D, k, _, rfl, Fz, News.sub Nz (by intro p hp; simp only [List.mem_cons, List.not_mem_nil, or_false] at hp; rcases hp with rfl | rfl | rfl <;> k_mem), by with_reducible exact upd_miss (by decide) (by assumption), by with_reducible exact upd_hit, hD2, ?_⟩
        (try simp only [List.size_toArray] at hge)
        rw [numbers_long (by have := hns.length; rw [List.length_map] at this; omega)]
        exact hns
    rintro s' ⟨h', tk', m', D, k, nvs, rfl, F, N, m1, m2, hD, hns⟩
    have hz := h h' tk' m' D k nvs F N m1 m2 hD hns
    rw [← hr] at hz
    with_reducible exact hz
theorem hdr_total {w : World} {A : Around} {s : Shared} {Q : HdrQ} {p : Program} {loose : List Str} {mg mb : Str → Option Value} {b : List Stmt} {env : Env} {g : Heap} {L : Addr} {m : Str → Option Value} {o1' o2' : Obj}
   (B : IsBody w b env L) (X : (Mine.heap_39 w.params).In g) (T : TopRead p loose mg mb g) (hroom : A.depth + 28 < recursionLimit) (hun : A.units + 280 < cLine) (hh : A.handled = none)
   (F : Fr g L s.heap m) {D : Addr} {nvs : List Value} {kD : Nat} (N : News g L s.heap [(D, PySem.W.listOf nvs.toArray kD), (L + 1 + 1, o1'), (L + 1, o2')])
   {sa : Addr} {vs : List Value} {xs : List Int} (hl : g.IsList sa vs.toArray) (hi : IntsAre vs xs) (hxl : xs.length ≤ 63) (hsa : m (Str.ofString "script") = some (.ref sa)) (hnu : m (Str.ofString "numbers") = some (.ref D)) (hD : @LT.lt Nat _ (L + 1 + 1) D)
   (h : ∀ h' tk' m' tt St svs, Fr g L h' m' → News g L h' [(St, PySem.W.listOf svs.toArray 0), (D, PySem.W.listOf nvs.toArray kD), (L + 1 + 1, o1'), (L + 1, o2')] → m' (Str.ofString "numbers") = some (.ref D) → m' (Str.ofString "total") = some (.int (xs.take 3).sum tt) → m' (Str.ofString "stretches") = some (.ref St) → StrsAre svs (stretchT.map S) → @LT.lt Nat _ (L + 1 + 1) St →
     wpAny (model PySem.Challenge.rw_ij0038_01.row.prog w) (A.deeper env) (execs (b.drop 4) env) Q (fun _ _ => False) { s with heap := h', toks := tk' }) :
  wpAny (model PySem.Challenge.rw_ij0038_01.row.prog w) (A.deeper env) (execs (b.drop 2) env) Q (fun _ _ => False) s := by
  generalize hr : b.drop 4 = rest at h
  obtain ⟨hb, rfl⟩ := B _ _ (show (Mine.heap_39 w.params).lookup 129 = some _ from by k_is) rfl
  replace hb : FuncBody.stmts _ = .stmts b := hb
  injection hb with hb
  subst hb
  dsimp only [List.drop] at hr ⊢
  have hi3 : IntsAre (vs.take 3) (xs.take 3) := ints_take hi 3
  with_reducible refine execs_cut (fun s' => Xs4 fun h' tk' m' t' => Cj5 (s' = { s with heap := h', toks := tk' }) (Fr g L h' m') (News g L h' [(D, PySem.W.listOf nvs.toArray kD), (L + 1 + 1, o1'), (L + 1, o2')]) (m' (Str.ofString "numbers") = some (.ref D)) (m' (Str.ofString "total") = some (.int (xs.take 3).sum t'))) ?cut1 ?cut2
  case cut1 =>
   (with_reducible refine' wpAny_Assign_Name ?_ ?q286); (case q286 => rfl); (with_reducible refine' Call_ ?_ ?q287); (case q287 => rfl); refine' nameX_B (by k_asm) (by k_asm) (by k_asm) (by k_is) (by boot_fast) (by decide) ?_ (by rfl) (by rfl) (by decide); (with_reducible refine' PyProof.Rows.callWith_builtin1 ?_ ?q288 ?q289); (case q288 => rfl); (case q289 => rfl); (with_reducible refine' spliced_more ?_ ?q290); (case q290 => rfl); (with_reducible refine Subscript_ ?_); refine' nameX_L (by k_asm) (by k_all) ?_ (by rfl) (by rfl) (by decide); (with_reducible refine wpAny_Slice ?_); (with_reducible refine evalPart_none_step ?_); (with_reducible refine evalPart_some_step ?_); (with_reducible refine wpAny_Constant_int ?_); with_reducible refine evalPart_none_step ?_
   refine' slice_list_P (s := ⟨_, _, _, _, _⟩) (vs.take 3) ?F ?N ?l .none (.int _ _) ?w ?_ ?hs ?ht ?z
   case F => k_asm
   case N => k_asm
   case l => exact isList_keeps (Fr.keep (by k_asm)) (by assumption)
   case hs => with_unfolding_all rfl
   case ht => intro _; with_unfolding_all rfl
   case z => simp only [List.size_toArray, sizeLine_eq]; have := hi.length; omega
   case w => exact slice3 vs
   k_whole
   intro Ls h₃ F₃ N₃ l₃
   replace l₃ := ltk3 l₃
   generalize vs.take 3 = v3 at hi3 N₃ ⊢
   generalize xs.take 3 = x3 at hi3 ⊢
   walk_at "d"; with_reducible refine spliced_none ?_
   refine sum_P hh (by exact News.isList (by k_asm) (by k_mem)) hi3 fun h' tk t' P₂ => ?_
   (rename Pres _ _ => Pa; rename Fr _ _ _ _ => Fa; rename News _ _ _ _ => Na; have F₂ := Fa.keeps Pa; have N₂ := Na.grown Pa; clear Pa Fa Na)
   walk_at "d"; refine' storeX_L (by k_asm) (by k_asm) ?_ (by rfl) (by rfl); intro h9 F9 N9
   rename Fr _ _ _ _ => Fz
   rename News _ _ _ _ => Nz
   exact ⟨rfl, _, _, _, _, rfl, Fz, News.sub Nz (by intro p hp; simp only [List.mem_cons, List.not_mem_nil, or_false] at hp; rcases hp with rfl | rfl | rfl <;> k_mem), by with_reducible exact upd_miss (by decide) (by assumption), by with_reducible exact upd_hit⟩
  clear F N
  rintro s' ⟨h', tk', m', t', rfl, F, N, m1, m2⟩
  with_reducible refine execs_cut (fun s' => Xs5 fun h' tk' m' St svs => Cj8 (s' = { s with heap := h', toks := tk' }) (Fr g L h' m') (News g L h' [(St, PySem.W.listOf svs.toArray 0), (D, PySem.W.listOf nvs.toArray kD), (L + 1 + 1, o1'), (L + 1, o2')]) (m' (Str.ofString "numbers") = some (.ref D)) (m' (Str.ofString "total") = some (.int (xs.take 3).sum t')) (m' (Str.ofString "stretches") = some (.ref St)) (StrsAre svs (stretchT.map S)) (@LT.lt Nat _ (L + 1 + 1) St)) ?cut3 ?cut4
  case cut3 =>
    (with_reducible refine' wpAny_Assign_Name ?_ ?q291); (case q291 => rfl); refine PyProof.Rows.List_ ?_; (with_reducible refine' spliced_more ?_ ?q292); (case q292 => rfl); (with_reducible refine Calls.Constant_str ?_); walk_at "d"; (with_reducible refine' spliced_more ?_ ?q293); (case q293 => rfl); (with_reducible refine Calls.Constant_str ?_); walk_at "d"; (with_reducible refine' spliced_more ?_ ?q294); (case q294 => rfl); (with_reducible refine Calls.Constant_str ?_); walk_at "d"; (with_reducible refine' spliced_more ?_ ?q295); (case q295 => rfl); (with_reducible refine Calls.Constant_str ?_); walk_at "d"; (with_reducible refine' spliced_more ?_ ?q296); (case q296 => rfl); (with_reducible refine Calls.Constant_str ?_); walk_at "d"; (with_reducible refine' spliced_more ?_ ?q297); (case q297 => rfl); (with_reducible refine Calls.Constant_str ?_); walk_at "d"; (with_reducible refine' spliced_more ?_ ?q298); (case q298 => rfl); (with_reducible refine Calls.Constant_str ?_); walk_at "d"; (with_reducible refine' spliced_more ?_ ?q299); (case q299 => rfl); (with_reducible refine Calls.Constant_str ?_); walk_at "d"; (with_reducible refine spliced_none ?_); refine' newList_P (by k_asm) (by k_asm) ?_ (Nat.le_of_ble_eq_true rfl); intro l9 h9 F9 N9 m9; replace m9 := ltk3 m9; walk_at "d"; refine' storeX_L (by k_asm) (by k_asm) ?_ (by rfl) (by rfl); intro h9 F9 N9
    rename Fr _ _ _ _ => Fz
    rename News _ _ _ _ => Nz
    refine ⟨rfl, _, _, _, _, [_, _, _, _, _, _, _, _], rfl, Fz, News.sub Nz (by intro p hp; simp only [List.mem_cons, List.not_mem_nil, or_false] at hp; rcases hp with rfl | rfl | rfl | rfl <;> k_mem), by with_reducible exact upd_miss (by decide) (by assumption), by with_reducible exact upd_miss (by decide) (by assumption), by with_reducible exact upd_hit, ?_, ?_⟩
    · exact .cons _ _ (.cons _ _ (.cons _ _ (.cons _ _ (.cons _ _ (.cons _ _ (.cons _ _ (.cons _ _ .nil)))))))
    · omega
  rintro s' ⟨h', tk', m', St, svs, rfl, F, N, m1, m2, m3, hst, hSt⟩
  have hz := h h' tk' m' t' St svs F N m1 m2 m3 hst hSt
  rw [← hr] at hz
  with_reducible exact hz
noncomputable def PcR (O : Led) (L : Addr) (v : Value) (x : Str × Str) : Prop := ∃ a t u, v = .ref a ∧ (a, ({ cls := .type "tuple", data := .seq #[.str x.1 t, .str x.2 u] } : Obj)) ∈ O ∧ @LT.lt Nat _ (L + 1 + 1) a
theorem pieceT_get {k : Nat} (hk : k < 8) : pieceT[k]? = some (S (pcTok k).chars, S (pcCls k)) := by
  match k, hk with
  | 0, _ => rfl
  | 1, _ => rfl
  | 2, _ => rfl
  | 3, _ => rfl
  | 4, _ => rfl
  | 5, _ => rfl
  | 6, _ => rfl
  | 7, _ => rfl
theorem pieces_done {g : Heap} {L : Addr} {h' : Heap} {O : Led} {Pc : Addr} {prefs : List Value} (N : News g L h' O) (hP : (Pc, PySem.W.listOf prefs.toArray 0) ∈ O) (R : RO (PcR O L) prefs pieceT) {ia ib : Nat} (ha : ia < 8) (hb : ib < 8) (rest : Led) (hrest : ∀ p ∈ rest, p ∈ O) :
    ∃ pa pb t1 t2 t3 t4, News g L h' ((Pc, PySem.W.listOf prefs.toArray 0) :: (pa, pieceObj ia t1 t2) :: (pb, pieceObj ib t3 t4) :: rest) ∧ prefs[ia]? = some (.ref pa) ∧ prefs[ib]? = some (.ref pb) ∧ @LT.lt Nat _ (L + 1 + 1) pa ∧ @LT.lt Nat _ (L + 1 + 1) pb := by
  obtain ⟨va, ea, pa, t1, t2, rfl, ma, la⟩ := R.get (pieceT_get ha)
  obtain ⟨vb, eb, pb, t3, t4, rfl, mb, lb⟩ := R.get (pieceT_get hb)
  refine ⟨pa, pb, t1, t2, t3, t4, News.sub N fun p hp => ?_, ea, eb, la, lb⟩
  rcases List.mem_cons.mp hp with rfl | hp
  · exact hP
  · rcases List.mem_cons.mp hp with rfl | hp
    · exact ma
    · rcases List.mem_cons.mp hp with rfl | hp
      · exact mb
      · exact hrest p hp
theorem hdr_pieces {w : World} {A : Around} {s : Shared} {Q : HdrQ} {p : Program} {loose : List Str} {mg mb : Str → Option Value} {b : List Stmt} {env : Env} {g : Heap} {L : Addr} {m : Str → Option Value} {o1' o2' : Obj}
   (B : IsBody w b env L) (X : (Mine.heap_39 w.params).In g) (T : TopRead p loose mg mb g) (hroom : A.depth + 28 < recursionLimit) (hun : A.units + 280 < cLine) (hh : A.handled = none)
   (F : Fr g L s.heap m) {D St : Addr} {nvs svs : List Value} {kD kS : Nat} (N : News g L s.heap [(St, PySem.W.listOf svs.toArray kS), (D, PySem.W.listOf nvs.toArray kD), (L + 1 + 1, o1'), (L + 1, o2')])
   {total : Int} {tt : Tok} (hnu : m (Str.ofString "numbers") = some (.ref D)) (hto : m (Str.ofString "total") = some (.int total tt)) (hss : m (Str.ofString "stretches") = some (.ref St)) (hD : @LT.lt Nat _ (L + 1 + 1) D) (hSt : @LT.lt Nat _ (L + 1 + 1) St) {ia ib : Nat} (ha : ia < 8) (hb8 : ib < 8)
   (h : ∀ h' tk' m' Pc (prefs : List Value) pa pb t1 t2 t3 t4, Fr g L h' m' → News g L h' [(Pc, PySem.W.listOf prefs.toArray 0), (pa, pieceObj ia t1 t2), (pb, pieceObj ib t3 t4), (St, PySem.W.listOf svs.toArray kS), (D, PySem.W.listOf nvs.toArray kD), (L + 1 + 1, o1'), (L + 1, o2')] → m' (Str.ofString "numbers") = some (.ref D) → m' (Str.ofString "total") = some (.int total tt) → m' (Str.ofString "stretches") = some (.ref St) →
     m' (Str.ofString "pieces") = some (.ref Pc) → prefs[ia]? = some (.ref pa) → prefs[ib]? = some (.ref pb) → @LT.lt Nat _ (L + 1 + 1) pa → @LT.lt Nat _ (L + 1 + 1) pb → @LT.lt Nat _ (L + 1 + 1) Pc →
     wpAny (model PySem.Challenge.rw_ij0038_01.row.prog w) (A.deeper env) (execs (b.drop 5) env) Q (fun _ _ => False) { s with heap := h', toks := tk' }) :
  wpAny (model PySem.Challenge.rw_ij0038_01.row.prog w) (A.deeper env) (execs (b.drop 4) env) Q (fun _ _ => False) s := by
  generalize hr : b.drop 5 = rest at h
  obtain ⟨hb, rfl⟩ := B _ _ (show (Mine.heap_39 w.params).lookup 129 = some _ from by k_is) rfl
  replace hb : FuncBody.stmts _ = .stmts b := hb
  injection hb with hb
  subst hb
  dsimp only [List.drop] at hr ⊢
  with_reducible refine execs_cut (fun s' => Xs8 fun h' tk' m' Pc (prefs : List Value) pa pb t1 => Xs3 fun t2 t3 t4 => Cj12 (s' = { s with heap := h', toks := tk' }) (Fr g L h' m') (News g L h' [(Pc, PySem.W.listOf prefs.toArray 0), (pa, pieceObj ia t1 t2), (pb, pieceObj ib t3 t4), (St, PySem.W.listOf svs.toArray kS), (D, PySem.W.listOf nvs.toArray kD), (L + 1 + 1, o1'), (L + 1, o2')]) (m' (Str.ofString "numbers") = some (.ref D)) (m' (Str.ofString "total") = some (.int total tt)) (m' (Str.ofString "stretches") = some (.ref St)) (m' (Str.ofString "pieces") = some (.ref Pc)) (prefs[ia]? = some (.ref pa)) (prefs[ib]? = some (.ref pb)) (@LT.lt Nat _ (L + 1 + 1) pa) (@LT.lt Nat _ (L + 1 + 1) pb) (@LT.lt Nat _ (L + 1 + 1) Pc)) ?cut1 ?cut2
  case cut1 =>
    (with_reducible refine' wpAny_Assign_Name ?_ ?q300); (case q300 => rfl); refine PyProof.Rows.List_ ?_; (with_reducible refine' spliced_more ?_ ?q301); (case q301 => rfl); refine PyProof.Rows.Tuple_ ?_; (with_reducible refine' spliced_more ?_ ?q302); (case q302 => rfl); (with_reducible refine Calls.Constant_str ?_); (with_reducible refine' spliced_more ?_ ?q303); (case q303 => rfl); (with_reducible refine Calls.Constant_str ?_); walk_at "d"; (with_reducible refine spliced_none ?_); refine' newTuple_P ?q304 ?q305 ?_ ?q306; (case q304 => k_asm); (case q305 => k_asm); (case q306 => exact Nat.le_of_ble_eq_true rfl); intro l9 h9 F9 N9 m9; replace m9 := ltk4 m9; walk_at "d"; (with_reducible refine' spliced_more ?_ ?q307); (case q307 => rfl); refine PyProof.Rows.Tuple_ ?_; (with_reducible refine' spliced_more ?_ ?q308); (case q308 => rfl); (with_reducible refine Calls.Constant_str ?_); walk_at "d"; (with_reducible refine' spliced_more ?_ ?q309); (case q309 => rfl); (with_reducible refine Calls.Constant_str ?_); walk_at "d"; (with_reducible refine spliced_none ?_); refine' newTuple_P ?q310 ?q311 ?_ ?q312; (case q310 => k_asm); (case q311 => k_asm); (case q312 => exact Nat.le_of_ble_eq_true rfl); intro l9 h9 F9 N9 m9; replace m9 := ltk5 m9; walk_at "d"; (with_reducible refine' spliced_more ?_ ?q313); (case q313 => rfl); refine PyProof.Rows.Tuple_ ?_; (with_reducible refine' spliced_more ?_ ?q314); (case q314 => rfl); (with_reducible refine Calls.Constant_str ?_); walk_at "d"; (with_reducible refine' spliced_more ?_ ?q315); (case q315 => rfl); (with_reducible refine Calls.Constant_str ?_); walk_at "d"; (with_reducible refine spliced_none ?_); refine' newTuple_P ?q316 ?q317 ?_ ?q318; (case q316 => k_asm); (case q317 => k_asm); (case q318 => exact Nat.le_of_ble_eq_true rfl); intro l9 h9 F9 N9 m9; replace m9 := ltk6 m9; walk_at "d"; (with_reducible refine' spliced_more ?_ ?q319); (case q319 => rfl); refine PyProof.Rows.Tuple_ ?_; (with_reducible refine' spliced_more ?_ ?q320); (case q320 => rfl); (with_reducible refine Calls.Constant_str ?_); walk_at "d"; (with_reducible refine' spliced_more ?_ ?q321); (case q321 => rfl); (with_reducible refine Calls.Constant_str ?_); walk_at "d"; (with_reducible refine spliced_none ?_); refine' newTuple_P ?q322 ?q323 ?_ ?q324; (case q322 => k_asm); (case q323 => k_asm); (case q324 => exact Nat.le_of_ble_eq_true rfl); intro l9 h9 F9 N9 m9; replace m9 := ltk7 m9; walk_at "d"; (with_reducible refine' spliced_more ?_ ?q325); (case q325 => rfl); refine PyProof.Rows.Tuple_ ?_; (with_reducible refine' spliced_more ?_ ?q326); (case q326 => rfl); (with_reducible refine Calls.Constant_str ?_); walk_at "d"; (with_reducible refine' spliced_more ?_ ?q327); (case q327 => rfl); (with_reducible refine Calls.Constant_str ?_); walk_at "d"; (with_reducible refine spliced_none ?_); refine' newTuple_P ?q328 ?q329 ?_ ?q330; (case q328 => k_asm); (case q329 => k_asm); (case q330 => exact Nat.le_of_ble_eq_true rfl); intro l9 h9 F9 N9 m9; replace m9 := ltk8 m9; walk_at "d"; (with_reducible refine' spliced_more ?_ ?q331); (case q331 => rfl); refine PyProof.Rows.Tuple_ ?_; (with_reducible refine' spliced_more ?_ ?q332); (case q332 => rfl); (with_reducible refine Calls.Constant_str ?_); walk_at "d"; (with_reducible refine' spliced_more ?_ ?q333); (case q333 => rfl); (with_reducible refine Calls.Constant_str ?_); walk_at "d"; (with_reducible refine spliced_none ?_); refine' newTuple_P ?q334 ?q335 ?_ ?q336; (case q334 => k_asm); (case q335 => k_asm); (case q336 => exact Nat.le_of_ble_eq_true rfl); intro l9 h9 F9 N9 m9; replace m9 := ltk9 m9; walk_at "d"; (with_reducible refine' spliced_more ?_ ?q337); (case q337 => rfl); refine PyProof.Rows.Tuple_ ?_; (with_reducible refine' spliced_more ?_ ?q338); (case q338 => rfl); (with_reducible refine Calls.Constant_str ?_); walk_at "d"; (with_reducible refine' spliced_more ?_ ?q339); (case q339 => rfl); (with_reducible refine Calls.Constant_str ?_); walk_at "d"; (with_reducible refine spliced_none ?_); refine' newTuple_P ?q340 ?q341 ?_ ?q342; (case q340 => k_asm); (case q341 => k_asm); (case q342 => exact Nat.le_of_ble_eq_true rfl); intro l9 h9 F9 N9 m9; replace m9 := ltk10 m9; walk_at "d"; (with_reducible refine' spliced_more ?_ ?q343); (case q343 => rfl); refine PyProof.Rows.Tuple_ ?_; (with_reducible refine' spliced_more ?_ ?q344); (case q344 => rfl); (with_reducible refine Calls.Constant_str ?_); walk_at "d"; (with_reducible refine' spliced_more ?_ ?q345); (case q345 => rfl); (with_reducible refine Calls.Constant_str ?_); walk_at "d"; (with_reducible refine spliced_none ?_); refine' newTuple_P ?q346 ?q347 ?_ ?q348; (case q346 => k_asm); (case q347 => k_asm); (case q348 => exact Nat.le_of_ble_eq_true rfl); intro l9 h9 F9 N9 m9; replace m9 := ltk11 m9; walk_at "d"; (with_reducible refine spliced_none ?_); refine' newList_P (by k_asm) (by k_asm) ?_ (Nat.le_of_ble_eq_true rfl); intro l9 h9 F9 N9 m9; replace m9 := ltk12 m9; walk_at "d"; refine' storeX_L (by k_asm) (by k_asm) ?_ (by rfl) (by rfl); intro h9 F9 N9
    rename Fr _ _ _ _ => Fz
    rename News _ _ _ _ => Nz
    obtain ⟨pa, pb, t1, t2, t3, t4, Ny, q1, q2, q3, q4⟩ := pieces_done (prefs := [_, _, _, _, _, _, _, _]) Nz (.head _) ⟨⟨_, _, _, rfl, by k_mem, by omega⟩, ⟨_, _, _, rfl, by k_mem, by omega⟩, ⟨_, _, _, rfl, by k_mem, by omega⟩, ⟨_, _, _, rfl, by k_mem, by omega⟩, ⟨_, _, _, rfl, by k_mem, by omega⟩, ⟨_, _, _, rfl, by k_mem, by omega⟩, ⟨_, _, _, rfl, by k_mem, by omega⟩, ⟨_, _, _, rfl, by k_mem, by omega⟩, trivial⟩ ha hb8 [(St, PySem.W.listOf svs.toArray kS), (D, PySem.W.listOf nvs.toArray kD), (L + 1 + 1, o1'), (L + 1, o2')] (by intro p hp; simp only [List.mem_cons, List.not_mem_nil, or_false] at hp; rcases hp with rfl | rfl | rfl | rfl <;> k_mem)
    exact ⟨rfl, _, _, _, _, _, pa, pb, t1, t2, t3, t4, rfl, Fz, Ny, by with_reducible exact upd_miss (by decide) (by assumption), by with_reducible exact upd_miss (by decide) (by assumption), by with_reducible exact upd_miss (by decide) (by assumption), by with_reducible exact upd_hit, q1, q2, q3, q4, by omega⟩
  rintro s' ⟨h', tk', m', Pc, prefs, pa, pb, t1, t2, t3, t4, rfl, F, N, m1, m2, m3, m4, q1, q2, q3, q4, q5⟩
  have hz := h h' tk' m' Pc prefs pa pb t1 t2 t3 t4 F N m1 m2 m3 m4 q1 q2 q3 q4 q5
  rw [← hr] at hz
  with_reducible exact hz
theorem hdr_asked {w : World} {A : Around} {s : Shared} {Q : HdrQ} {p : Program} {loose : List Str} {mg mb : Str → Option Value} {b : List Stmt} {env : Env} {g : Heap} {L : Addr} {m : Str → Option Value} {o1' o2' : Obj}
   (B : IsBody w b env L) (X : (Mine.heap_39 w.params).In g) (T : TopRead p loose mg mb g) (hroom : A.depth + 28 < recursionLimit) (hun : A.units + 280 < cLine) (hh : A.handled = none)
   (F : Fr g L s.heap m) {D St Pc pa pb : Addr} {nvs svs prefs : List Value} {kD kS : Nat} {total : Int} {t1 t2 t3 t4 : Tok} {ia ib : Nat} (N : News g L s.heap [(Pc, PySem.W.listOf prefs.toArray 0), (pa, pieceObj ia t1 t2), (pb, pieceObj ib t3 t4), (St, PySem.W.listOf svs.toArray kS), (D, PySem.W.listOf nvs.toArray kD), (L + 1 + 1, o1'), (L + 1, o2')])
   {tt : Tok} {c1 c2 : Option Value} (d1 : o1'.data = .cell c1) (d2 : o2'.data = .cell c2) (hnu : m (Str.ofString "numbers") = some (.ref D)) (hto : m (Str.ofString "total") = some (.int total tt)) (hss : m (Str.ofString "stretches") = some (.ref St)) (hpc : m (Str.ofString "pieces") = some (.ref Pc)) (hD : @LT.lt Nat _ (L + 1 + 1) D) (hSt : @LT.lt Nat _ (L + 1 + 1) St) (hPc : @LT.lt Nat _ (L + 1 + 1) Pc) (hpa : @LT.lt Nat _ (L + 1 + 1) pa) (hpb : @LT.lt Nat _ (L + 1 + 1) pb)
   (ha : ia < 8) (hb8 : ib < 8) (hia : prefs[ia]? = some (.ref pa)) (hib : prefs[ib]? = some (.ref pb)) (hA : total.fmod 8 = (ia : Int)) (hB : 0 < (total.fdiv 8).fmod 9 → (total.fdiv 8).fmod 9 - 1 = (ib : Int))
   (h : ∀ h' tk' m' aL (arefs : List Value) kA (as : List Nat) o2, Fr g L h' m' → News g L h' [(aL, PySem.W.listOf arefs.toArray kA), (pa, pieceObj ia t1 t2), (pb, pieceObj ib t3 t4), (St, PySem.W.listOf svs.toArray kS), (D, PySem.W.listOf nvs.toArray kD), (L + 1 + 1, o1'), (L + 1, o2)] → o2.data = .cell (some (.ref aL)) → m' (Str.ofString "numbers") = some (.ref D) → m' (Str.ofString "total") = some (.int total tt) → m' (Str.ofString "stretches") = some (.ref St) → @LT.lt Nat _ (L + 1 + 1) aL →
     ((arefs = [.ref pa] ∧ as = [ia]) ∨ (arefs = [.ref pa, .ref pb] ∧ as = [ia, ib])) →
     wpAny (model PySem.Challenge.rw_ij0038_01.row.prog w) (A.deeper env) (execs (b.drop 7) env) Q (fun _ _ => False) { s with heap := h', toks := tk' }) :
  wpAny (model PySem.Challenge.rw_ij0038_01.row.prog w) (A.deeper env) (execs (b.drop 5) env) Q (fun _ _ => False) s := by
  generalize hr : b.drop 7 = rest at h
  obtain ⟨hb, rfl⟩ := B _ _ (show (Mine.heap_39 w.params).lookup 129 = some _ from by k_is) rfl
  replace hb : FuncBody.stmts _ = .stmts b := hb
  injection hb with hb
  subst hb
  dsimp only [List.drop] at hr ⊢
  (with_reducible refine execs_k ?_); (with_reducible refine' wpAny_Assign_Name ?_ ?q349); (case q349 => rfl); refine PyProof.Rows.List_ ?_; (with_reducible refine' spliced_more ?_ ?q350); (case q350 => rfl); (with_reducible refine Subscript_ ?_); refine' nameX_L (by k_asm) (by k_all) ?_ (by rfl) (by rfl) (by decide); refine' pe_eval (by k_asm) (by k_asm) (by refine' PE.mod (by refine' PE.nameI ⟨rfl, rfl, by decide⟩ (by k_all)) (PE.int) (by decide)) ?_; refine At.same rfl ?_; intro k9; with_reducible (refine PV.all_i ?_; intro t9)
  refine' item_list (i := ia) ?l hia hA (by omega) ?_ ?hs
  case l => exact News.isList (by k_asm) (by k_mem)
  case hs => with_unfolding_all rfl
  (with_reducible refine spliced_none ?_); refine' newList_P (by k_asm) (by k_asm) ?_ (Nat.le_of_ble_eq_true rfl); intro aL hq1 Fq1 Nq1 lq; replace lq := ltk7 lq; walk_at "d"; refine' storeX_C (by k_asm) (by k_asm) (by rfl) (by k_updF) (by k_asm) ?_ (by rfl) (by rfl); intro hq oC Fq Nq dq; walk_at "d"; with_reducible refine Kx_next ?_
  skip
  clear Fq1 Nq1 N F
  with_reducible refine execs_cut (fun s' => Xs5 fun h' tk' (arefs : List Value) kA (as : List Nat) => Cj4 (s' = { s with heap := h', toks := tk' }) (Fr g L h' m) (News g L h' [(aL, PySem.W.listOf arefs.toArray kA), (pa, pieceObj ia t1 t2), (pb, pieceObj ib t3 t4), (St, PySem.W.listOf svs.toArray kS), (D, PySem.W.listOf nvs.toArray kD), (L + 1 + 1, o1'), (L + 1, oC)]) ((arefs = [.ref pa] ∧ as = [ia]) ∨ (arefs = [.ref pa, .ref pb] ∧ as = [ia, ib]))) ?cut1 ?cut2
  case cut1 =>
    (with_reducible refine wpAny_If ?_); (with_reducible refine' wpAny_isTrue_Compare1 ?_ (by with_unfolding_all rfl)); (with_reducible refine wpAny_BinOp ?_); (with_reducible refine wpAny_BinOp ?_); refine' nameX_L (by k_asm) (by k_all) ?_ (by rfl) (by rfl) (by decide); (with_reducible refine wpAny_Constant_int ?_); walk_at "d"; (with_reducible (refine' floordiv_int (by decide) ?_ (Or.inl (PyProof.noPylong_of_log2 (by decide +kernel))))); walk_at "d"; (with_reducible refine wpAny_Constant_int ?_); walk_at "d"; (with_reducible (refine' mod_int' (by decide) ?_)); walk_at "d"; (with_reducible refine wpAny_Constant_int ?_); walk_at "d"; (with_reducible refine gt_int ?_); with_reducible refine wpAny_truthy_bool ?_
    refine ite_d (fun hlt => ?_) (fun hge => ?_)
    · (with_reducible refine execs_1 ?_); refine wpAny_Expr_any ?_; (with_reducible refine' PyProof.Rows.MethodCall_ ?_ ?q351); (case q351 => rfl); refine' nameX_C (by k_asm) (by rfl) (by k_mem) (by k_asm) ?_ (by rfl) (by rfl) (by decide); refine' getMethod_append_N (by k_asm) (by k_mem) ?_ (by rfl) (by rfl); walk_at "d"; (with_reducible refine' PyProof.Rows.callWith_method1 ?_ ?q352 ?q353); (case q352 => rfl); (case q353 => rfl); walk_at "d"; (with_reducible refine' spliced_more ?_ ?q354); (case q354 => rfl); (with_reducible refine Subscript_ ?_); refine' nameX_L (by k_asm) (by k_all) ?_ (by rfl) (by rfl) (by decide); (with_reducible refine wpAny_BinOp ?_); (with_reducible refine wpAny_BinOp ?_); (with_reducible refine wpAny_BinOp ?_); refine' nameX_L (by k_asm) (by k_all) ?_ (by rfl) (by rfl) (by decide); (with_reducible refine wpAny_Constant_int ?_); walk_at "d"; (with_reducible (refine' floordiv_int (by decide) ?_ (Or.inl (PyProof.noPylong_of_log2 (by decide +kernel))))); walk_at "d"; (with_reducible refine wpAny_Constant_int ?_); walk_at "d"; (with_reducible (refine' mod_int' (by decide) ?_)); walk_at "d"; (with_reducible refine wpAny_Constant_int ?_); walk_at "d"; (with_reducible refine sub_int ?_); walk_at "d"; refine' item_list (News.isList (by k_asm) (by k_mem)) (by assumption) (by omega) (by omega) ?_ (by with_unfolding_all rfl); (with_reducible refine spliced_none ?_); refine' append_K (by k_asm) (by k_asm) (by refine' Upd.head (by refine List.forall_mem_cons.mpr ⟨by (refine neN ?_; dsimp only; with_reducible exact nq0 (by k_all)), ?_⟩; refine List.forall_mem_cons.mpr ⟨by (refine neN ?_; dsimp only; with_reducible exact nq1 (by k_all)), ?_⟩; refine List.forall_mem_cons.mpr ⟨by (refine neN ?_; dsimp only; with_reducible exact nq2 (by k_all)), ?_⟩; refine List.forall_mem_cons.mpr ⟨by (refine neN ?_; dsimp only; with_reducible exact nq3 (by k_all)), ?_⟩; refine List.forall_mem_cons.mpr ⟨by (refine neN ?_; dsimp only; with_reducible exact nq4 (by k_all)), ?_⟩; refine List.forall_mem_cons.mpr ⟨by (refine neN ?_; dsimp only; with_reducible exact nq5 (by k_all)), ?_⟩; refine List.forall_mem_cons.mpr ⟨by (refine neN ?_; dsimp only; with_reducible exact nl6 (by k_all)), ?_⟩; exact List.forall_mem_nil _)) ?_ (by first | (simp only [sizeLine_eq, List.size_toArray, List.length_append, List.length_cons, List.length_nil]; omega) | size_fits); intro h9 F9 N9; simp only [List.push_toArray, List.nil_append, List.cons_append] at N9
      rename Fr _ _ _ _ => Fz
      rename News _ _ _ _ => Nz
      exact ⟨rfl, _, _, [_, _], _, _, rfl, Fz, News.sub Nz (by intro p hp; simp only [List.mem_cons, List.not_mem_nil, or_false] at hp; rcases hp with rfl | rfl | rfl | rfl | rfl | rfl | rfl <;> k_mem), .inr ⟨rfl, rfl⟩⟩
    · with_reducible refine wpAny_execs_nil ?_
      rename Fr _ _ _ _ => Fz
      rename News _ _ _ _ => Nz
      exact ⟨rfl, _, _, [_], 0, _, rfl, Fz, News.sub Nz (by intro p hp; simp only [List.mem_cons, List.not_mem_nil, or_false] at hp; rcases hp with rfl | rfl | rfl | rfl | rfl | rfl | rfl <;> k_mem), .inl ⟨rfl, rfl⟩⟩
  rintro s' ⟨h', tk', arefs, kA, as, rfl, F, N, hor⟩
  have hz := h h' tk' m aL arefs kA as oC F N dq hnu hto hss (by omega) hor
  rw [← hr] at hz
  with_reducible exact hz
noncomputable def loopOf (b : List Stmt) : List Stmt := match b.drop 9 with | .For _ _ body _ _ :: _ => body | _ => []
noncomputable def IsLoop (w : World) (lb : List Stmt) (env : Env) (L : Addr) : Prop := ∀ o fd, (Mine.heap_39 w.params).lookup 129 = some o → o.data = .func fd → ∃ b, fd.body = .stmts b ∧ lb = loopOf b ∧ env = envOfC fd.qualname fd.scope L 129 fd.code
theorem strs_get {vs : List Value} {xs : List (List Nat)} (h : StrsAre vs (xs.map S)) {i : Nat} (hi : i < xs.length) : ∃ t, vs[i]? = some (.str (S (xs.getD i [])) t) := by
  refine h.get i _ ?_
  rw [List.getElem?_map, List.getElem?_eq_getElem hi, List.getD_eq_getElem?_getD, List.getElem?_eq_getElem hi]; rfl
theorem octs_get {vs : List Value} (h : IntsAre vs (octT.map Int.ofNat)) {i : Nat} (hi : i < 8) : ∃ t, vs[i]? = some (.int ((octT.getD i 0 : Nat) : Int) t) := by
  cases e : vs[i]? with
  | none => have := h.length; rw [List.getElem?_eq_none_iff] at e; simp at this; omega
  | some v =>
    obtain ⟨x, t, hx, rfl⟩ := ints_get h e
    refine ⟨t, ?_⟩
    have : octT.map Int.ofNat = [63, 61, 32, 95, 42, 51, 70, 113] := rfl
    match i, hi with
    | 0, _ => cases hx; rfl
    | 1, _ => cases hx; rfl
    | 2, _ => cases hx; rfl
    | 3, _ => cases hx; rfl
    | 4, _ => cases hx; rfl
    | 5, _ => cases hx; rfl
    | 6, _ => cases hx; rfl
    | 7, _ => cases hx; rfl
theorem lp_row {w : World} {A : Around} {s : Shared} {Q : HdrQ} {p : Program} {loose : List Str} {mg mb : Str → Option Value} {lb : List Stmt} {env : Env} {g : Heap} {L : Addr} {m : Str → Option Value} {oC o1 oI : Obj}
   (B : IsLoop w lb env L) (X : (Mine.heap_39 w.params).In g) (T : TopRead p loose mg mb g) (hroom : A.depth + 28 < recursionLimit) (hun : A.units + 280 < cLine) (hh : A.handled = none)
   (F : Fr g L s.heap m) {I tl aL pa pb St D : Addr} {tvs arefs svs nvs : List Value} {kT kA kS kD ia ib : Nat} {t1 t2 t3 t4 : Tok} (N : News g L s.heap [(I, oI), (tl, PySem.W.listOf tvs.toArray kT), (aL, PySem.W.listOf arefs.toArray kA), (pa, pieceObj ia t1 t2), (pb, pieceObj ib t3 t4), (St, PySem.W.listOf svs.toArray kS), (D, PySem.W.listOf nvs.toArray kD), (L + 1 + 1, o1), (L + 1, oC)]) {c1 : Option Value} (d1 : o1.data = .cell c1) {n : Nat} {tx : Tok} (hx : m (Str.ofString "x") = some (.int (Int.ofNat n) tx))
   (hI : @LT.lt Nat _ (L + 1 + 1) I) (hlt : @LT.lt Nat _ (L + 1 + 1) tl) (hA : @LT.lt Nat _ (L + 1 + 1) aL) (hpa : @LT.lt Nat _ (L + 1 + 1) pa) (hpb : @LT.lt Nat _ (L + 1 + 1) pb) (hSt : @LT.lt Nat _ (L + 1 + 1) St) (hD : @LT.lt Nat _ (L + 1 + 1) D)
   (h : ∀ h' tk' m' rw (rvs : List Value) kR o1' tc, Fr g L h' m' → News g L h' [(rw, PySem.W.listOf rvs.toArray kR), (I, oI), (tl, PySem.W.listOf tvs.toArray kT), (aL, PySem.W.listOf arefs.toArray kA), (pa, pieceObj ia t1 t2), (pb, pieceObj ib t3 t4), (St, PySem.W.listOf svs.toArray kS), (D, PySem.W.listOf nvs.toArray kD), (L + 1 + 1, o1'), (L + 1, oC)] → o1'.data = .cell (some (.str (S (charOf n)) tc)) → IntsAre rvs ((rowOf n).map Int.ofNat) → m' (Str.ofString "row") = some (.ref rw) →
     (∀ z, z ≠ Str.ofString "row" → z ≠ Str.ofString "k" → z ≠ Str.ofString "kind" → m' z = m z) → (@LT.lt Nat _ I rw ∧ @LT.lt Nat _ tl rw ∧ @LT.lt Nat _ aL rw ∧ @LT.lt Nat _ pa rw ∧ @LT.lt Nat _ pb rw ∧ @LT.lt Nat _ St rw ∧ @LT.lt Nat _ D rw ∧ @LT.lt Nat _ (L + 1 + 1) rw) →
     wpAny (model PySem.Challenge.rw_ij0038_01.row.prog w) (A.deeper env) (execs (lb.drop 3) env) Q (fun _ _ => False) { s with heap := h', toks := tk' }) :
  wpAny (model PySem.Challenge.rw_ij0038_01.row.prog w) (A.deeper env) (execs (lb) env) Q (fun _ _ => False) s := by
  generalize hr : lb.drop 3 = rest at h
  obtain ⟨b, hb, hlb, rfl⟩ := B _ _ (show (Mine.heap_39 w.params).lookup 129 = some _ from by k_is) rfl
  replace hb : FuncBody.stmts _ = .stmts b := hb
  injection hb with hb
  subst hb
  replace hlb : lb = _ := hlb
  dsimp only [loopOf, List.drop] at hlb
  subst hlb
  dsimp only [List.drop] at hr ⊢
  with_reducible refine execs_cut (fun s' => Xs4 fun h' tk' o1' tc => Cj4 (s' = { s with heap := h', toks := tk' }) (Fr g L h' m) (News g L h' [(I, oI), (tl, PySem.W.listOf tvs.toArray kT), (aL, PySem.W.listOf arefs.toArray kA), (pa, pieceObj ia t1 t2), (pb, pieceObj ib t3 t4), (St, PySem.W.listOf svs.toArray kS), (D, PySem.W.listOf nvs.toArray kD), (L + 1 + 1, o1'), (L + 1, oC)]) (o1'.data = .cell (some (.str (S (charOf n)) tc)))) ?cut1 ?cut2
  case cut1 =>
    (with_reducible refine' wpAny_Assign_Name ?_ ?q355); (case q355 => rfl); (with_reducible refine Subscript_ ?_); refine PyProof.Rows.List_ ?_; (with_reducible refine' spliced_more ?_ ?q356); (case q356 => rfl); (with_reducible refine Calls.Constant_str ?_); (with_reducible refine' spliced_more ?_ ?q357); (case q357 => rfl); (with_reducible refine Calls.Constant_str ?_); walk_at "d"; (with_reducible refine' spliced_more ?_ ?q358); (case q358 => rfl); (with_reducible refine Calls.Constant_str ?_); walk_at "d"; (with_reducible refine' spliced_more ?_ ?q359); (case q359 => rfl); (with_reducible refine Calls.Constant_str ?_); walk_at "d"; (with_reducible refine' spliced_more ?_ ?q360); (case q360 => rfl); (with_reducible refine Calls.Constant_str ?_); walk_at "d"; (with_reducible refine' spliced_more ?_ ?q361); (case q361 => rfl); (with_reducible refine Calls.Constant_str ?_); walk_at "d"; (with_reducible refine' spliced_more ?_ ?q362); (case q362 => rfl); (with_reducible refine Calls.Constant_str ?_); walk_at "d"; (with_reducible refine' spliced_more ?_ ?q363); (case q363 => rfl); (with_reducible refine Calls.Constant_str ?_); walk_at "d"; (with_reducible refine spliced_none ?_); refine' newList_P (by k_asm) (by k_asm) ?_ (Nat.le_of_ble_eq_true rfl); intro l9 h9 F9 N9 m9; replace m9 := ltk9 m9; walk_at "d"; (with_reducible refine wpAny_BinOp ?_); (with_reducible refine wpAny_BinOp ?_); refine' nameX_L (by k_asm) (by k_all) ?_ (by rfl) (by rfl) (by decide); (with_reducible refine wpAny_Constant_int ?_); walk_at "d"; (with_reducible (refine' floordiv_int (by decide) ?_ (Or.inl (PyProof.noPylong_of_log2 (by decide +kernel))))); walk_at "d"; (with_reducible refine wpAny_Constant_int ?_); walk_at "d"; with_reducible (refine' mod_int' (by decide) ?_)
    refine' item_list (i := n / 8 % 8) ?l ?x (div_mod n 8 8) (by omega) ?_ ?hs
    case l => exact News.isList (by k_asm) (by k_mem)
    case hs => with_unfolding_all rfl
    case x => exact (strs_get (xs := charT) (.cons _ _ (.cons _ _ (.cons _ _ (.cons _ _ (.cons _ _ (.cons _ _ (.cons _ _ (.cons _ _ .nil)))))))) (Nat.mod_lt (n / 8) (by decide))).choose_spec
    walk_at "d"; refine' storeX_C (by k_asm) (by k_asm) (by rfl) (by k_updF) (by k_asm) ?_ (by rfl) (by rfl); intro h9 o9 F9 N9 d9
    rename Fr _ _ _ _ => Fz
    rename News _ _ _ _ => Nz
    exact ⟨rfl, _, _, _, _, rfl, Fz, News.sub Nz (by intro p hp; simp only [List.mem_cons, List.not_mem_nil, or_false] at hp; rcases hp with rfl | rfl | rfl | rfl | rfl | rfl | rfl | rfl | rfl <;> k_mem), by assumption⟩
  clear F N
  rintro s' ⟨h', tk', o1', tc, rfl, F, N, d1'⟩
  (with_reducible refine execs_k ?_); (with_reducible refine' wpAny_Assign_Name ?_ ?q364); (case q364 => rfl); refine PyProof.Rows.List_ ?_; (with_reducible refine spliced_none ?_); refine' newList_P (by k_asm) (by k_asm) ?_ (Nat.le_of_ble_eq_true rfl); intro rw hq1 Fq1 Nq1 lq; replace lq := ltk9 lq; walk_at "d"; refine' storeX_L (by k_asm) (by k_asm) ?_ (by rfl) (by rfl); intro hq Fq Nq; walk_at "d"; (with_reducible refine Kx_next ?_); with_reducible refine execs_k ?_
  refine wpAny_For ?_ (fun _ => rfl)
  (with_reducible refine' Call_ ?_ ?q365); (case q365 => rfl); refine' nameX_B (by k_asm) (by k_asm) (by k_asm) (by k_is) (by boot_fast) (by decide) ?_ (by rfl) (by rfl) (by decide); (with_reducible refine' callWith_type1 ?_ ?q366 ?q367); (case q366 => rfl); (case q367 => rfl); (with_reducible refine' spliced_more ?_ ?q368); (case q368 => rfl); (with_reducible refine wpAny_BinOp ?_); (with_reducible refine wpAny_Constant_int ?_); walk_at "d"; (with_reducible refine wpAny_BinOp ?_); (with_reducible refine wpAny_BinOp ?_); refine' nameX_L (by k_asm) (by with_reducible exact upd_miss (by decide) (by assumption)) ?_ (by rfl) (by rfl) (by decide); (with_reducible refine wpAny_Constant_int ?_); walk_at "d"; (with_reducible (refine' floordiv_int (by decide) ?_ (Or.inl (PyProof.noPylong_of_log2 (by decide +kernel))))); walk_at "d"; (with_reducible refine wpAny_Constant_int ?_); walk_at "d"; (with_reducible (refine' mod_int' (by decide) ?_)); walk_at "d"; (with_reducible refine add_int ?_); walk_at "d"; with_reducible refine spliced_none ?_
  rw [show 1 + ((Int.ofNat n).fdiv 3).fmod 3 = ((1 + n / 3 % 3 : Nat) : Int) by rw [Int.natCast_add]; exact congrArg (1 + ·) (div_mod n 3 3)]
  skip
  refine for_rangeN hh (by omega) Fq Nq (fun _ _ => rfl) (fun i m' news' => Xs2 fun (rvs : List Value) (kR : Nat) => Cj4 (news' = [(rw, PySem.W.listOf rvs.toArray kR), (I, oI), (tl, PySem.W.listOf tvs.toArray kT), (aL, PySem.W.listOf arefs.toArray kA), (pa, pieceObj ia t1 t2), (pb, pieceObj ib t3 t4), (St, PySem.W.listOf svs.toArray kS), (D, PySem.W.listOf nvs.toArray kD), (L + 1 + 1, o1'), (L + 1, oC)]) (IntsAre rvs (((List.range i).map (octet n)).map Int.ofNat)) (m' (Str.ofString "row") = some (.ref rw)) (∀ z, z ≠ Str.ofString "row" → z ≠ Str.ofString "k" → z ≠ Str.ofString "kind" → m' z = m z)) ?h0 ?turn ?done
  case h0 => exact ⟨[], 0, rfl, .nil, by with_reducible exact upd_hit, fun z h1 h2 h3 => if_neg h1⟩
  case turn =>
    rintro i I2 t m₁ news₁ oI2 h2 tk2 hi hI2 ⟨rvs, kR, rfl, hrv, hrw, hmz⟩ hoff F N
    have hx1 := (hmz (Str.ofString "x") (by decide) (by decide) (by decide)).trans hx
    clear Fq Nq Fq1 Nq1
    replace hI2 := ltk10 hI2
    have hrl : rvs.length ≤ 3 := by have := hrv.length; simp at this; omega
    have hi3 : i < 3 := by omega
    have em : ((List.range (i + 1)).map (octet n)).map Int.ofNat = ((List.range i).map (octet n)).map Int.ofNat ++ [Int.ofNat (octet n i)] := by rw [List.range_succ, List.map_append, List.map_append]; rfl
    obtain ⟨d, hd1, hd2, hd3⟩ : ∃ d : Nat, [64, 1024, 16384].getD i 0 = d ∧ 0 < d ∧ d < 20000 := by
      rcases (by omega : i = 0 ∨ i = 1 ∨ i = 2) with rfl | rfl | rfl <;> exact ⟨_, rfl, by decide, by decide⟩
    walk_at "d"; (with_reducible refine wpAny_assign_Name ?_); refine' storeX_L (by k_asm) (by k_asm) ?_ (by rfl) (by rfl); intro h9 F9 N9; walk_at "d"; (with_reducible refine execs_k ?_); (with_reducible refine' wpAny_Assign_Name ?_ ?q369); (case q369 => rfl); (with_reducible refine wpAny_BinOp ?_); (with_reducible refine wpAny_BinOp ?_); refine' nameX_L (by k_asm) (by with_reducible exact upd_miss (by decide) (by assumption)) ?_ (by rfl) (by rfl) (by decide); (with_reducible refine Subscript_ ?_); refine PyProof.Rows.List_ ?_; (with_reducible refine' spliced_more ?_ ?q370); (case q370 => rfl); (with_reducible refine wpAny_Constant_int ?_); walk_at "d"; (with_reducible refine' spliced_more ?_ ?q371); (case q371 => rfl); (with_reducible refine wpAny_Constant_int ?_); walk_at "d"; (with_reducible refine' spliced_more ?_ ?q372); (case q372 => rfl); (with_reducible refine wpAny_Constant_int ?_); walk_at "d"; (with_reducible refine spliced_none ?_); refine' newList_P (by k_asm) (by k_asm) ?_ (Nat.le_of_ble_eq_true rfl); intro l9 h9 F9 N9 m9; replace m9 := ltk11 m9; walk_at "d"; refine' nameX_L (by k_asm) (by with_reducible exact upd_hit) ?_ (by rfl) (by rfl) (by decide)
    refine' item_list (i := i) (x := .int (d : Int) (if i = 0 then ?ta else if i = 1 then ?tb else ?tc)) ?l ?x rfl (by omega) ?_ ?hs
    case l => exact News.isList (by k_asm) (by k_mem)
    case hs => with_unfolding_all rfl
    case x =>
      rcases (by omega : i = 0 ∨ i = 1 ∨ i = 2) with rfl | rfl | rfl
      · subst hd1; rfl
      · subst hd1; rfl
      · subst hd1; rfl
    refine floordiv_int (by omega) ?_ (Or.inl (PyProof.noPylong_small (by omega)))
    walk_at "d"; (with_reducible refine wpAny_Constant_int ?_); walk_at "d"; (with_reducible (refine' mod_int' (by decide) ?_)); walk_at "d"; refine' storeX_L (by k_asm) (by k_asm) ?_ (by rfl) (by rfl); intro h9 F9 N9; walk_at "d"; (with_reducible refine Kx_next ?_); (with_reducible refine execs_1 ?_); refine wpAny_Expr_any ?_; (with_reducible refine' PyProof.Rows.MethodCall_ ?_ ?q373); (case q373 => rfl); refine' nameX_L (by k_asm) (by with_reducible exact upd_miss (by decide) (upd_miss (by decide) (by assumption))) ?_ (by rfl) (by rfl) (by decide); refine' getMethod_append_N (by k_asm) (by k_mem) ?_ (by rfl) (by rfl); walk_at "d"; (with_reducible refine' PyProof.Rows.callWith_method1 ?_ ?q374 ?q375); (case q374 => rfl); (case q375 => rfl); walk_at "d"; (with_reducible refine' spliced_more ?_ ?q376); (case q376 => rfl); (with_reducible refine wpAny_IfExp ?_); refine' pt_test (by k_asm) (by k_asm) (by refine' PT.cmpI (by refine' PE.nameI ⟨rfl, rfl, by decide⟩ (by with_reducible exact upd_hit)) (PE.int) (by rfl) (by with_unfolding_all rfl)) ?_; refine At.same rfl ?_; intro k9
    have ek : ((Int.ofNat n).fdiv (d : Int)).fmod 16 = ((n / d % 16 : Nat) : Int) := div_mod n d 16
    refine ite_d (fun hlt8 => ?_) (fun hge8 => ?_)
    · rw [ek] at hlt8
      have hlt9 : n / d % 16 < 8 := by omega
      have hoc : octet n i = octT.getD (n / d % 16) 0 := by unfold octet; rw [hd1, if_pos hlt9]
      (with_reducible refine Subscript_ ?_); refine PyProof.Rows.List_ ?_; (with_reducible refine' spliced_more ?_ ?q377); (case q377 => rfl); (with_reducible refine wpAny_Constant_int ?_); walk_at "d"; (with_reducible refine' spliced_more ?_ ?q378); (case q378 => rfl); (with_reducible refine wpAny_Constant_int ?_); walk_at "d"; (with_reducible refine' spliced_more ?_ ?q379); (case q379 => rfl); (with_reducible refine wpAny_Constant_int ?_); walk_at "d"; (with_reducible refine' spliced_more ?_ ?q380); (case q380 => rfl); (with_reducible refine wpAny_Constant_int ?_); walk_at "d"; (with_reducible refine' spliced_more ?_ ?q381); (case q381 => rfl); (with_reducible refine wpAny_Constant_int ?_); walk_at "d"; (with_reducible refine' spliced_more ?_ ?q382); (case q382 => rfl); (with_reducible refine wpAny_Constant_int ?_); walk_at "d"; (with_reducible refine' spliced_more ?_ ?q383); (case q383 => rfl); (with_reducible refine wpAny_Constant_int ?_); walk_at "d"; (with_reducible refine' spliced_more ?_ ?q384); (case q384 => rfl); (with_reducible refine wpAny_Constant_int ?_); walk_at "d"; (with_reducible refine spliced_none ?_); refine' newList_P (by k_asm) (by k_asm) ?_ (Nat.le_of_ble_eq_true rfl); intro l9 h9 F9 N9 m9; replace m9 := ltk12 m9; walk_at "d"; refine' nameX_L (by k_asm) (by with_reducible exact upd_hit) ?_ (by rfl) (by rfl) (by decide)
      refine' item_list (i := n / d % 16) ?l ?x ek (by omega) ?_ ?hs
      case l => exact News.isList (by k_asm) (by k_mem)
      case hs => with_unfolding_all rfl
      case x => exact (octs_get (.cons _ _ (.cons _ _ (.cons _ _ (.cons _ _ (.cons _ _ (.cons _ _ (.cons _ _ (.cons _ _ .nil)))))))) hlt9).choose_spec
      (with_reducible refine spliced_none ?_); refine' append_K (by k_asm) (by k_asm) (by refine' Upd.tail (by refine neN ?_; dsimp only; with_reducible exact rq2 (by k_all)) (by refine' Upd.tail (by refine neN ?_; dsimp only; with_reducible exact rq1 (by k_all)) (by refine' Upd.tail (by refine neN ?_; dsimp only; with_reducible exact rq0 (by k_all)) (by refine' Upd.head (by refine List.forall_mem_cons.mpr ⟨by (refine neN ?_; dsimp only; with_reducible exact nq0 (by k_all)), ?_⟩; refine List.forall_mem_cons.mpr ⟨by (refine neN ?_; dsimp only; with_reducible exact nq1 (by k_all)), ?_⟩; refine List.forall_mem_cons.mpr ⟨by (refine neN ?_; dsimp only; with_reducible exact nq2 (by k_all)), ?_⟩; refine List.forall_mem_cons.mpr ⟨by (refine neN ?_; dsimp only; with_reducible exact nq3 (by k_all)), ?_⟩; refine List.forall_mem_cons.mpr ⟨by (refine neN ?_; dsimp only; with_reducible exact nq4 (by k_all)), ?_⟩; refine List.forall_mem_cons.mpr ⟨by (refine neN ?_; dsimp only; with_reducible exact nq5 (by k_all)), ?_⟩; refine List.forall_mem_cons.mpr ⟨by (refine neN ?_; dsimp only; with_reducible exact nq6 (by k_all)), ?_⟩; refine List.forall_mem_cons.mpr ⟨by (refine neN ?_; dsimp only; with_reducible exact nq7 (by k_all)), ?_⟩; refine List.forall_mem_cons.mpr ⟨by (refine neN ?_; dsimp only; with_reducible exact nl8 (by k_all)), ?_⟩; exact List.forall_mem_nil _))))) ?_ (by first | (simp only [sizeLine_eq, List.size_toArray, List.length_append, List.length_cons, List.length_nil]; omega) | size_fits); intro h9 F9 N9; simp only [List.push_toArray, List.nil_append, List.cons_append] at N9
      rename Fr _ _ _ _ => Fe
      rename News _ _ _ _ => Ne
      refine forEnd_intro Fe (News.sub Ne fun p hp => .tail _ (.tail _ hp)) ?_ ?_ ?_
      · intro p hp; simp only [List.mem_cons, List.not_mem_nil, or_false] at hp; rcases hp with rfl | rfl | rfl | rfl | rfl | rfl | rfl | rfl | rfl | rfl <;> (first | (refine neN ?_; dsimp only; with_reducible exact nq0 (by k_all)) | (refine neN ?_; dsimp only; with_reducible exact nq1 (by k_all)) | (refine neN ?_; dsimp only; with_reducible exact nq2 (by k_all)) | (refine neN ?_; dsimp only; with_reducible exact nq3 (by k_all)) | (refine neN ?_; dsimp only; with_reducible exact nq4 (by k_all)) | (refine neN ?_; dsimp only; with_reducible exact nq5 (by k_all)) | (refine neN ?_; dsimp only; with_reducible exact nq6 (by k_all)) | (refine neN ?_; dsimp only; with_reducible exact nq7 (by k_all)) | (refine neN ?_; dsimp only; with_reducible exact nq8 (by k_all)) | (refine neN ?_; dsimp only; with_reducible exact nl9 (by k_all)))
      · intro b hb; exact absurd hb (by simp)
      · refine ⟨rvs ++ [_], kR + 1, rfl, ?_, by with_reducible exact upd_miss (by decide) (upd_miss (by decide) (by assumption)), fun z z1 z2 z3 => ?_⟩
        · rw [em]
          exact (congrArg (fun z => IntsAre (rvs ++ [_]) (_ ++ [z])) (show Int.ofNat (octet n i) = _ from (congrArg Int.ofNat hoc).trans rfl)).mpr (intsAre_snoc hrv)
        · simp only [z1, z2, z3, if_false]; exact hmz z z1 z2 z3
    · rw [ek] at hge8
      have hge9 : ¬ n / d % 16 < 8 := by omega
      have hoc : octet n i = n / 256 ^ i / 262144 % 256 := by unfold octet; rw [hd1, if_neg hge9]
      (with_reducible refine wpAny_BinOp ?_); (with_reducible refine wpAny_BinOp ?_); (with_reducible refine wpAny_BinOp ?_); refine' nameX_L (by k_asm) (by with_reducible exact upd_miss (by decide) (upd_miss (by decide) (by assumption))) ?_ (by rfl) (by rfl) (by decide); (with_reducible refine wpAny_BinOp ?_); (with_reducible refine wpAny_Constant_int ?_); walk_at "d"; refine' nameX_L (by k_asm) (by with_reducible exact upd_miss (by decide) upd_hit) ?_ (by rfl) (by rfl) (by decide)
      refine pow_256 hi3 ?_
      refine floordiv_int (by have : 0 < 256 ^ i := Nat.pos_of_ne_zero (by simp); omega) ?_ (Or.inl (PyProof.noPylong_small ?hsmall))
      case hsmall =>
        have : (256 : Nat) ^ i ≤ 256 ^ 2 := Nat.pow_le_pow_right (by decide) (by omega)
        rw [Int.natAbs_natCast]; omega
      walk_at "d"; (with_reducible refine wpAny_Constant_int ?_); walk_at "d"; (with_reducible (refine' floordiv_int (by decide) ?_ (Or.inl (PyProof.noPylong_of_log2 (by decide +kernel))))); walk_at "d"; (with_reducible refine wpAny_Constant_int ?_); walk_at "d"; (with_reducible (refine' mod_int' (by decide) ?_)); walk_at "d"; (with_reducible refine spliced_none ?_); refine' append_K (by k_asm) (by k_asm) (by refine' Upd.tail (by refine neN ?_; dsimp only; with_reducible exact rq1 (by k_all)) (by refine' Upd.tail (by refine neN ?_; dsimp only; with_reducible exact rq0 (by k_all)) (by refine' Upd.head (by refine List.forall_mem_cons.mpr ⟨by (refine neN ?_; dsimp only; with_reducible exact nq0 (by k_all)), ?_⟩; refine List.forall_mem_cons.mpr ⟨by (refine neN ?_; dsimp only; with_reducible exact nq1 (by k_all)), ?_⟩; refine List.forall_mem_cons.mpr ⟨by (refine neN ?_; dsimp only; with_reducible exact nq2 (by k_all)), ?_⟩; refine List.forall_mem_cons.mpr ⟨by (refine neN ?_; dsimp only; with_reducible exact nq3 (by k_all)), ?_⟩; refine List.forall_mem_cons.mpr ⟨by (refine neN ?_; dsimp only; with_reducible exact nq4 (by k_all)), ?_⟩; refine List.forall_mem_cons.mpr ⟨by (refine neN ?_; dsimp only; with_reducible exact nq5 (by k_all)), ?_⟩; refine List.forall_mem_cons.mpr ⟨by (refine neN ?_; dsimp only; with_reducible exact nq6 (by k_all)), ?_⟩; refine List.forall_mem_cons.mpr ⟨by (refine neN ?_; dsimp only; with_reducible exact nq7 (by k_all)), ?_⟩; refine List.forall_mem_cons.mpr ⟨by (refine neN ?_; dsimp only; with_reducible exact nl8 (by k_all)), ?_⟩; exact List.forall_mem_nil _)))) ?_ (by first | (simp only [sizeLine_eq, List.size_toArray, List.length_append, List.length_cons, List.length_nil]; omega) | size_fits); intro h9 F9 N9; simp only [List.push_toArray, List.nil_append, List.cons_append] at N9
      have ek2 : (((Int.ofNat n).fdiv ((256 ^ i : Nat) : Int)).fdiv 262144).fmod 256 = ((n / 256 ^ i / 262144 % 256 : Nat) : Int) := div_div_mod n (256 ^ i) 262144 256
      rename Fr _ _ _ _ => Fe
      rename News _ _ _ _ => Ne
      refine forEnd_intro Fe (News.sub Ne fun p hp => .tail _ hp) ?_ ?_ ?_
      · intro p hp; simp only [List.mem_cons, List.not_mem_nil, or_false] at hp; rcases hp with rfl | rfl | rfl | rfl | rfl | rfl | rfl | rfl | rfl | rfl <;> (first | (refine neN ?_; dsimp only; with_reducible exact nq0 (by k_all)) | (refine neN ?_; dsimp only; with_reducible exact nq1 (by k_all)) | (refine neN ?_; dsimp only; with_reducible exact nq2 (by k_all)) | (refine neN ?_; dsimp only; with_reducible exact nq3 (by k_all)) | (refine neN ?_; dsimp only; with_reducible exact nq4 (by k_all)) | (refine neN ?_; dsimp only; with_reducible exact nq5 (by k_all)) | (refine neN ?_; dsimp only; with_reducible exact nq6 (by k_all)) | (refine neN ?_; dsimp only; with_reducible exact nq7 (by k_all)) | (refine neN ?_; dsimp only; with_reducible exact nq8 (by k_all)) | (refine neN ?_; dsimp only; with_reducible exact nl9 (by k_all)))
      · intro b hb; exact absurd hb (by simp)
      · refine ⟨rvs ++ [_], kR + 1, rfl, ?_, by with_reducible exact upd_miss (by decide) (upd_miss (by decide) (by assumption)), fun z z1 z2 z3 => ?_⟩
        · rw [em]
          exact (congrArg (fun z => IntsAre (rvs ++ [_]) (_ ++ [z])) (show Int.ofNat (octet n i) = _ from (congrArg Int.ofNat hoc).trans ek2.symm)).mpr (intsAre_snoc hrv)
        · simp only [z1, z2, z3, if_false]; exact hmz z z1 z2 z3
  case done =>
    rintro m₁ news₁ h2 tk2 ⟨rvs, kR, rfl, hrv, hrw, hmz⟩ F N
    have hz := h h2 tk2 m₁ rw rvs kR o1' tc F N d1' hrv hrw hmz ?_
    · rw [← hr] at hz
      show Kx _ _ _ _ _ _ _ _
      with_reducible exact Kx_next hz
    · refine ⟨?_, ?_, ?_, ?_, ?_, ?_, ?_, ?_⟩ <;> omega
theorem lp_word {w : World} {A : Around} {s : Shared} {Q : HdrQ} {p : Program} {loose : List Str} {mg mb : Str → Option Value} {lb : List Stmt} {env : Env} {g : Heap} {L : Addr} {m : Str → Option Value} {oC o1 oI : Obj}
   (B : IsLoop w lb env L) (X : (Mine.heap_39 w.params).In g) (T : TopRead p loose mg mb g) (hroom : A.depth + 28 < recursionLimit) (hun : A.units + 280 < cLine) (hh : A.handled = none)
   (F : Fr g L s.heap m) {I tl aL pa pb St D : Addr} {tvs arefs svs nvs : List Value} {kT kA kS kD ia ib : Nat} {t1 t2 t3 t4 : Tok} {rw : Addr} {rvs : List Value} {kR : Nat} (N : News g L s.heap [(rw, PySem.W.listOf rvs.toArray kR), (I, oI), (tl, PySem.W.listOf tvs.toArray kT), (aL, PySem.W.listOf arefs.toArray kA), (pa, pieceObj ia t1 t2), (pb, pieceObj ib t3 t4), (St, PySem.W.listOf svs.toArray kS), (D, PySem.W.listOf nvs.toArray kD), (L + 1 + 1, o1), (L + 1, oC)]) {n : Nat} {tx tc th : Tok} (d1 : o1.data = .cell (some (.str (S (charOf n)) tc))) (hx : m (Str.ofString "x") = some (.int (Int.ofNat n) tx))
   (hrv : IntsAre rvs ((rowOf n).map Int.ofNat)) (hrw : m (Str.ofString "row") = some (.ref rw)) (hst : m (Str.ofString "stretches") = some (.ref St)) (hto : m (Str.ofString "told") = some (.ref tl)) {hdr acc : List Nat} {ini : List (List Nat)} (hhd : m (Str.ofString "header") = some (.str (S hdr) th))
   (hsv : StrsAre svs (stretchT.map S)) (htv : StrsAre tvs ((ini ++ [acc]).map S)) (hsz1 : hdr.length ≤ 1000) (hsz2 : acc.length ≤ 1000) (hsz3 : ini.length ≤ 1000)
   (hI : @LT.lt Nat _ (L + 1 + 1) I) (hlt : @LT.lt Nat _ (L + 1 + 1) tl) (hA : @LT.lt Nat _ (L + 1 + 1) aL) (hpa : @LT.lt Nat _ (L + 1 + 1) pa) (hpb : @LT.lt Nat _ (L + 1 + 1) pb) (hSt : @LT.lt Nat _ (L + 1 + 1) St) (hD : @LT.lt Nat _ (L + 1 + 1) D)
   (hfr : @LT.lt Nat _ I rw ∧ @LT.lt Nat _ tl rw ∧ @LT.lt Nat _ aL rw ∧ @LT.lt Nat _ pa rw ∧ @LT.lt Nat _ pb rw ∧ @LT.lt Nat _ St rw ∧ @LT.lt Nat _ D rw ∧ @LT.lt Nat _ (L + 1 + 1) rw) (hft : @Ne Nat I tl ∧ @Ne Nat aL tl ∧ @Ne Nat pa tl ∧ @Ne Nat pb tl ∧ @Ne Nat St tl ∧ @Ne Nat D tl)
   (h : ∀ h' tk' m' (tvs' : List Value) kT' tw th', Fr g L h' m' → News g L h' [(rw, PySem.W.listOf rvs.toArray kR), (I, oI), (tl, PySem.W.listOf tvs'.toArray kT'), (aL, PySem.W.listOf arefs.toArray kA), (pa, pieceObj ia t1 t2), (pb, pieceObj ib t3 t4), (St, PySem.W.listOf svs.toArray kS), (D, PySem.W.listOf nvs.toArray kD), (L + 1 + 1, o1), (L + 1, oC)] → StrsAre tvs' ((ini ++ [acc ++ stretchOf n]).map S) → m' (Str.ofString "word") = some (.str (S (wordL (charOf n) (rowOf n))) tw) →
     m' (Str.ofString "header") = some (.str (S (hdr ++ (stretchOf n ++ wordL (charOf n) (rowOf n)))) th') → (∀ z, z ≠ Str.ofString "word" → z ≠ Str.ofString "header" → m' z = m z) →
     wpAny (model PySem.Challenge.rw_ij0038_01.row.prog w) (A.deeper env) (execs (lb.drop 6) env) Q (fun _ _ => False) { s with heap := h', toks := tk' }) :
  wpAny (model PySem.Challenge.rw_ij0038_01.row.prog w) (A.deeper env) (execs (lb.drop 3) env) Q (fun _ _ => False) s := by
  generalize hr : lb.drop 6 = rest at h
  obtain ⟨b, hb, hlb, rfl⟩ := B _ _ (show (Mine.heap_39 w.params).lookup 129 = some _ from by k_is) rfl
  replace hb : FuncBody.stmts _ = .stmts b := hb
  injection hb with hb
  subst hb
  replace hlb : lb = _ := hlb
  dsimp only [loopOf, List.drop] at hlb
  subst hlb
  dsimp only [List.drop] at hr ⊢
  (with_reducible refine execs_k ?_); (with_reducible refine' wpAny_Assign_Name ?_ ?q385); (case q385 => rfl); (with_reducible refine' Call_ ?_ ?q386); (case q386 => rfl); refine' nameX_K (by k_asm) (by k_asm) (by k_asm) (by k_is) ?_ (by rfl) (by rfl) (by decide); refine' callWith_K (by k_asm) (by k_is) ?_; walk_at "d"; (with_reducible refine' spliced_more ?_ ?q387); (case q387 => rfl); (with_reducible refine' Call_ ?_ ?q388); (case q388 => rfl); refine' nameX_B (by k_asm) (by k_asm) (by k_asm) (by k_is) (by boot_fast) (by decide) ?_ (by rfl) (by rfl) (by decide); (with_reducible refine' callWith_type1 ?_ ?q389 ?q390); (case q389 => rfl); (case q390 => rfl); (with_reducible refine' spliced_more ?_ ?q391); (case q391 => rfl); refine' nameX_L (by k_asm) (by k_all) ?_ (by rfl) (by rfl) (by decide); with_reducible refine spliced_none ?_
  have hrl := row_len n
  refine call_bytes_ints (by exact News.isList (by k_asm) (by k_mem)) hrv (fun k hk => ?_) (by have := hrv.length; rw [List.length_map] at this; rw [sizeLine_eq]; omega) hh ?_
  · simp only [rowOf, List.mem_map] at hk
    obtain ⟨_, ⟨j, _, rfl⟩, rfl⟩ := hk
    have := octet_lt n j
    exact ⟨Int.ofNat_nonneg _, by show ((octet n j : Nat) : Int) < 256; omega⟩
  intro hb tb kb pb'
  (rename Pres _ _ => Pa; rename Fr _ _ _ _ => Fa; rename News _ _ _ _ => Na; have F₂ := Fa.keeps Pa; have N₂ := Na.grown Pa; clear Pa Fa Na)
  rw [show byteArr ((rowOf n).map Int.ofNat) = ((rowOf n).map Nat.toUInt8).toArray by simp [byteArr, Function.comp_def]]
  (with_reducible refine' spliced_more ?_ ?q392); (case q392 => rfl); refine' nameX_C (by k_asm) (by rfl) (by k_mem) (by k_asm) ?_ (by rfl) (by rfl) (by decide); (with_reducible refine spliced_none ?_); walk_at "d"; refine ⟨by k_in, ?_⟩
  refine' henc_spec ?tX ?tT ?tr ?th (fun c hc => ?hrow) hrl.1 hrl.2 (char_ok n).2.2 ?_
  case tX => k_in
  case tT => exact TopRead.keeps (by assumption) (Fr.keep (by k_asm))
  case tr => (simp only [Around.deeper]; omega)
  case th => exact hh
  case hrow => exact (piece_ok n).row c hc
  intro h2 k2 t2 p2
  (rename Pres _ _ => Pa; rename Fr _ _ _ _ => Fa; rename News _ _ _ _ => Na; have F₂ := Fa.keeps Pa; have N₂ := Na.grown Pa; clear Pa Fa Na)
  have hmx : (Int.ofNat n).fmod 8 = ((n % 8 : Nat) : Int) := mod_nat n 8
  obtain ⟨ts, hsx⟩ : ∃ t, svs[n % 8]? = some (.str (S (stretchOf n)) t) := strs_get (xs := stretchT) hsv (Nat.mod_lt n (by decide))
  have hwl : (wordL (charOf n) (rowOf n)).length ≤ 100 := by have := enc_len (rowOf n); have := (char_ok n).2.2; simp [wordL]; omega
  have hsl := (stretch_ok n).2
  generalize wordL (charOf n) (rowOf n) = wd at hwl h ⊢
  generalize stretchOf n = st at hsl hsx h ⊢
  obtain ⟨tpre, tu, rfl, htp⟩ := strs_snoc htv
  have htl : tpre.length ≤ 1000 := by have := htp.length; rw [List.length_map] at this; omega
  walk_at "d"; refine' storeX_L (by k_asm) (by k_asm) ?_ (by rfl) (by rfl); intro h9 F9 N9; walk_at "d"; (with_reducible refine Kx_next ?_); (with_reducible refine execs_k ?_); (with_reducible refine wpAny_AugAssign_Name ?_); refine' loadX_Lm (by k_asm) (by with_reducible exact upd_miss (by decide) (by assumption)) ?_ (by rfl) (by rfl); (with_reducible refine wpAny_BinOp ?_); refine' pe_eval (by k_asm) (by k_asm) (by refine' PE.itemL (by refine' PE.name ⟨rfl, rfl, by decide⟩ (by with_reducible exact upd_miss (by decide) (by assumption))) (by refine' PE.mod (by refine' PE.nameI ⟨rfl, rfl, by decide⟩ (by with_reducible exact upd_miss (by decide) (by assumption))) (PE.int) (by decide)) (Px.lst_new (by k_mem)) (by assumption) (by omega) (by omega) rfl) ?_; refine At.same rfl ?_; intro k9; (with_reducible refine PV.all_v ?_); refine' nameX_L (by k_asm) (by with_reducible exact upd_hit) ?_ (by rfl) (by rfl) (by decide)
  refine add_S (by omega) fun t3 k3 => ?_
  skip
  refine iadd_S (by simp; omega) fun t4' k4 => ?_
  walk_at "d"; refine' storeX_L (by k_asm) (by k_asm) ?_ (by rfl) (by rfl); intro h9 F9 N9; walk_at "d"; (with_reducible refine Kx_next ?_); with_reducible refine execs_k ?_
  refine wpAny_AugAssign_Subscript_any ?_ (fun _ _ _ => rfl)
  refine' nameX_L (by k_asm) (by with_reducible exact upd_miss (by decide) (upd_miss (by decide) (by assumption))) ?_ (by rfl) (by rfl) (by decide); refine' pe_eval (by k_asm) (by k_asm) (by refine' PE.neg (PE.int)) ?_; refine At.same rfl ?_; intro k9; with_reducible (refine PV.all_i ?_; intro t9)
  refine get_last (by exact News.isList (by k_asm) (by k_mem)) (by omega) ?_
  refine' pe_eval (by k_asm) (by k_asm) (by refine' PE.itemL (by refine' PE.name ⟨rfl, rfl, by decide⟩ (by with_reducible exact upd_miss (by decide) (upd_miss (by decide) (by assumption)))) (by refine' PE.mod (by refine' PE.nameI ⟨rfl, rfl, by decide⟩ (by with_reducible exact upd_miss (by decide) (upd_miss (by decide) (by assumption)))) (PE.int) (by decide)) (Px.lst_new (by k_mem)) (by assumption) (by omega) (by omega) rfl) ?_; refine At.same rfl ?_; intro k9; with_reducible refine PV.all_v ?_
  refine iadd_S (by omega) fun t5 k5 => ?_
  skip
  obtain ⟨n1, n2, n3, n4, n5, n6⟩ := hft
  refine' set_last (pre := tpre) (x := .str (S acc) tu) (n := kT) ?F ?N ?U (by omega) ?_
  case F => k_asm
  case N => k_asm
  case U => (refine' Upd.tail (by refine neN ?_; dsimp only; with_reducible exact rq1 (by k_all)) (by refine' Upd.tail (by k_all) (by refine' Upd.head (by refine List.forall_mem_cons.mpr ⟨by with_reducible assumption, ?_⟩; refine List.forall_mem_cons.mpr ⟨by with_reducible assumption, ?_⟩; refine List.forall_mem_cons.mpr ⟨by with_reducible assumption, ?_⟩; refine List.forall_mem_cons.mpr ⟨by with_reducible assumption, ?_⟩; refine List.forall_mem_cons.mpr ⟨by with_reducible assumption, ?_⟩; refine List.forall_mem_cons.mpr ⟨by (refine neN ?_; dsimp only; with_reducible exact nl0 (by k_all)), ?_⟩; refine List.forall_mem_cons.mpr ⟨by (refine neN ?_; dsimp only; omega), ?_⟩; exact List.forall_mem_nil _))))
  intro h6 F6 N6
  walk_at "d"; with_reducible refine Kx_next ?_
  subst hr
  with_reducible refine' h h6 _ _ (tpre ++ [.str (S (acc ++ st)) t5]) kT t2 t4' F6 N6 ?q1 ?q2 ?q3 ?q4
  case q1 => rw [List.map_append]; exact strs_add htp (.cons _ _ .nil)
  case q2 => with_reducible exact upd_miss (by decide) upd_hit
  case q3 => with_reducible exact upd_hit
  case q4 =>
    intro z z1 z2
    simp only [z1, z2, if_false]
noncomputable def inCls (as cs : List Nat) (k : Nat) : Bool := (pcCls (as.getD k 0)).contains (cs.getD k 0)
theorem hit_iff {as cs : List Nat} (h8 : ∀ a ∈ as, a < 8) (hc : ∀ c ∈ cs, c = 117 ∨ c = 118 ∨ c = 119) (hl : as.length = cs.length) (h2 : cs.length ≤ 2) :
    hitL (signsOf as) cs = ((List.range as.length).filter fun k => !inCls as cs k).isEmpty := by
  match as, cs, hl, h2 with
  | _ :: _ :: _ :: _, cs, hl, h2 => exact absurd h2 (by simp at hl; omega)
  | [], [], _, _ => rfl
  | [a], [c], _, _ =>
    have e := cls_ok (h8 a (by simp)) (hc c (by simp))
    simp only [signsOf, List.map_cons, List.map_nil, hitL, e, Bool.and_true]
    show _ = ((List.range 1).filter fun k => !inCls [a] [c] k).isEmpty
    rw [show List.range 1 = [0] from rfl]
    simp only [List.filter_cons, List.filter_nil, inCls, List.getD_cons_zero]
    cases (pcCls a).contains c <;> rfl
  | [a, b], [c, d], _, _ =>
    have e := cls_ok (h8 a (by simp)) (hc c (by simp))
    have e2 := cls_ok (h8 b (by simp)) (hc d (by simp))
    simp only [signsOf, List.map_cons, List.map_nil, hitL, e, e2, Bool.and_true]
    show _ = ((List.range 2).filter fun k => !inCls [a, b] [c, d] k).isEmpty
    rw [show List.range 2 = [0, 1] from rfl]
    simp only [List.filter_cons, List.filter_nil, inCls, List.getD_cons_zero, List.getD_cons_succ]
    cases (pcCls a).contains c <;> cases (pcCls b).contains d <;> rfl
theorem hit_not {as cs : List Nat} (hl : as.length ≠ cs.length) : hitL (signsOf as) cs = false := by
  cases e : hitL (signsOf as) cs with
  | false => rfl
  | true => have := hit_len e; rw [List.length_map] at this; exact absurd this hl
theorem single_flat (l : List Nat) : (l.map fun c => S [c]).flatMap (·.cps.toList) = l := by
  induction l with
  | nil => rfl
  | cons c r ih => simp only [List.map_cons, List.flatMap_cons, ih]; rfl
theorem lp_if {w : World} {A : Around} {s : Shared} {Q : HdrQ} {p : Program} {loose : List Str} {mg mb : Str → Option Value} {lb : List Stmt} {env : Env} {g : Heap} {L : Addr} {m : Str → Option Value} {oC o1 oI : Obj}
   (B : IsLoop w lb env L) (X : (Mine.heap_39 w.params).In g) (T : TopRead p loose mg mb g) (hroom : A.depth + 28 < recursionLimit) (hun : A.units + 280 < cLine) (hh : A.handled = none)
   (F : Fr g L s.heap m) {I tl aL pa pb St D : Addr} {tvs arefs svs nvs : List Value} {kT kA kS kD ia ib : Nat} {t1 t2 t3 t4 : Tok} {rw : Addr} {rvs : List Value} {kR : Nat} (N : News g L s.heap [(rw, PySem.W.listOf rvs.toArray kR), (I, oI), (tl, PySem.W.listOf tvs.toArray kT), (aL, PySem.W.listOf arefs.toArray kA), (pa, pieceObj ia t1 t2), (pb, pieceObj ib t3 t4), (St, PySem.W.listOf svs.toArray kS), (D, PySem.W.listOf nvs.toArray kD), (L + 1 + 1, o1), (L + 1, oC)]) {n : Nat} {tc tw : Tok} (d1 : o1.data = .cell (some (.str (S (charOf n)) tc))) (d2 : oC.data = .cell (some (.ref aL)))
   (hrv : IntsAre rvs ((rowOf n).map Int.ofNat)) (hrw : m (Str.ofString "row") = some (.ref rw)) (hto : m (Str.ofString "told") = some (.ref tl)) {wd acc : List Nat} {ini : List (List Nat)} (hwd : m (Str.ofString "word") = some (.str (S wd) tw))
   (htv : StrsAre tvs ((ini ++ [acc]).map S)) (hsz1 : wd.length ≤ 1000) (hsz2 : acc.length ≤ 1000) (hsz3 : ini.length ≤ 1000) {as : List Nat} (has : (arefs = [.ref pa] ∧ as = [ia]) ∨ (arefs = [.ref pa, .ref pb] ∧ as = [ia, ib])) (hia : ia < 8) (hib : ib < 8)
   (hI : @LT.lt Nat _ (L + 1 + 1) I) (hlt : @LT.lt Nat _ (L + 1 + 1) tl) (hA : @LT.lt Nat _ (L + 1 + 1) aL) (hpa : @LT.lt Nat _ (L + 1 + 1) pa) (hpb : @LT.lt Nat _ (L + 1 + 1) pb) (hSt : @LT.lt Nat _ (L + 1 + 1) St) (hD : @LT.lt Nat _ (L + 1 + 1) D)
   (hfr : @LT.lt Nat _ I rw ∧ @LT.lt Nat _ tl rw ∧ @LT.lt Nat _ aL rw ∧ @LT.lt Nat _ pa rw ∧ @LT.lt Nat _ pb rw ∧ @LT.lt Nat _ St rw ∧ @LT.lt Nat _ D rw ∧ @LT.lt Nat _ (L + 1 + 1) rw) (hft : @Ne Nat I tl ∧ @Ne Nat aL tl ∧ @Ne Nat pa tl ∧ @Ne Nat pb tl ∧ @Ne Nat St tl ∧ @Ne Nat D tl)
   (h : ∀ h' tk' m' tl' (tvs' : List Value) kT', Fr g L h' m' → News g L h' [(I, oI), (tl', PySem.W.listOf tvs'.toArray kT'), (aL, PySem.W.listOf arefs.toArray kA), (pa, pieceObj ia t1 t2), (pb, pieceObj ib t3 t4), (St, PySem.W.listOf svs.toArray kS), (D, PySem.W.listOf nvs.toArray kD), (L + 1 + 1, o1), (L + 1, oC)] → StrsAre tvs' ((if hitL (signsOf as) (charOf n) then ini ++ [acc, rowOf n, []] else ini ++ [acc ++ wd]).map S) → m' (Str.ofString "told") = some (.ref tl') →
     (∀ z, z ≠ Str.ofString "told" → m' z = m z) → @LT.lt Nat _ (L + 1 + 1) tl' → (@Ne Nat I tl' ∧ @Ne Nat aL tl' ∧ @Ne Nat pa tl' ∧ @Ne Nat pb tl' ∧ @Ne Nat St tl' ∧ @Ne Nat D tl') →
     Q .next { s with heap := h', toks := tk' }) :
  wpAny (model PySem.Challenge.rw_ij0038_01.row.prog w) (A.deeper env) (execs (lb.drop 6) env) Q (fun _ _ => False) s := by
  obtain ⟨b, hb, hlb, rfl⟩ := B _ _ (show (Mine.heap_39 w.params).lookup 129 = some _ from by k_is) rfl
  replace hb : FuncBody.stmts _ = .stmts b := hb
  injection hb with hb
  subst hb
  replace hlb : lb = _ := hlb
  dsimp only [loopOf, List.drop] at hlb
  subst hlb
  dsimp only [List.drop]
  obtain ⟨n1, n2, n3, n4, n5, n6⟩ := hft
  obtain ⟨tpre, tu, rfl, htp⟩ := strs_snoc htv
  have htl : tpre.length ≤ 1000 := by have := htp.length; rw [List.length_map] at this; omega
  obtain ⟨hc1, hc2, hc3⟩ := char_ok n
  generalize charOf n = cs at hc1 hc2 hc3 d1 h
  have hcsl : (S cs).length = cs.length := S_len cs
  have halen : arefs.length = as.length ∧ as.length ≤ 2 := by rcases has with ⟨rfl, rfl⟩ | ⟨rfl, rfl⟩ <;> simp
  have h8 : ∀ a ∈ as, a < 8 := by rcases has with ⟨_, rfl⟩ | ⟨_, rfl⟩ <;> (intro a ha; simp only [List.mem_cons, List.not_mem_nil, or_false] at ha; omega)
  (with_reducible refine execs_1 ?_); (with_reducible refine wpAny_If ?_); (with_reducible refine isTrue_and ?_); (with_reducible refine' wpAny_isTrue_Compare1 ?_ (by with_unfolding_all rfl)); (with_reducible refine' Call_ ?_ ?q393); (case q393 => rfl); refine' nameX_B (by k_asm) (by k_asm) (by k_asm) (by k_is) (by boot_fast) (by decide) ?_ (by rfl) (by rfl) (by decide); (with_reducible refine' PyProof.Rows.callWith_builtin1 ?_ ?q394 ?q395); (case q394 => rfl); (case q395 => rfl); (with_reducible refine' spliced_more ?_ ?q396); (case q396 => rfl); refine' nameX_C (by k_asm) (by rfl) (by k_mem) (by k_asm) ?_ (by rfl) (by rfl) (by decide); (with_reducible refine spliced_none ?_); refine' PySem.P.len_str (by omega) ?_; (with_reducible refine' Call_ ?_ ?q397); (case q397 => rfl); refine' nameX_B (by k_asm) (by k_asm) (by k_asm) (by k_is) (by boot_fast) (by decide) ?_ (by rfl) (by rfl) (by decide); (with_reducible refine' PyProof.Rows.callWith_builtin1 ?_ ?q398 ?q399); (case q398 => rfl); (case q399 => rfl); (with_reducible refine' spliced_more ?_ ?q400); (case q400 => rfl); refine' nameX_C (by k_asm) (by rfl) (by k_mem) (by k_asm) ?_ (by rfl) (by rfl) (by decide); (with_reducible refine spliced_none ?_); refine' len_here (News.isList (by k_asm) (by k_mem)) (by simp only [List.size_toArray, List.length_append, List.length_cons, List.length_nil]; omega) ?_; walk_at "d"; (with_reducible refine eq_int ?_); with_reducible refine wpAny_truthy_bool ?_
  refine ite_b (fun he => ?_) (fun he => ?_)
  · have hle : as.length = cs.length := by simp at he; omega
    (with_reducible refine isTrue_and ?_); with_reducible refine' wpAny_isTrue_Compare1 ?_ (by with_unfolding_all rfl)
    refine' lc_node ?hclos ?hkind ?hnames ?hs ?_
    case hclos => with_unfolding_all rfl
    case hkind => rfl
    case hnames => decide
    case hs => intro _; rfl
    (with_reducible refine' Call_ ?_ ?q401); (case q401 => rfl); refine' nameX_B (by k_asm) (by k_asm) (by k_asm) (by k_is) (by boot_fast) (by decide) ?_ (by rfl) (by rfl) (by decide); (with_reducible refine' callWith_type1 ?_ ?q402 ?q403); (case q402 => rfl); (case q403 => rfl); (with_reducible refine' spliced_more ?_ ?q404); (case q404 => rfl); (with_reducible refine' Call_ ?_ ?q405); (case q405 => rfl); refine' nameX_B (by k_asm) (by k_asm) (by k_asm) (by k_is) (by boot_fast) (by decide) ?_ (by rfl) (by rfl) (by decide); (with_reducible refine' PyProof.Rows.callWith_builtin1 ?_ ?q406 ?q407); (case q406 => rfl); (case q407 => rfl); (with_reducible refine' spliced_more ?_ ?q408); (case q408 => rfl); refine' nameX_C (by k_asm) (by rfl) (by k_mem) (by k_asm) ?_ (by rfl) (by rfl) (by decide); (with_reducible refine spliced_none ?_); refine' len_here (News.isList (by k_asm) (by k_mem)) (by simp only [List.size_toArray, List.length_append, List.length_cons, List.length_nil]; omega) ?_; walk_at "d"; with_reducible refine spliced_none ?_
    rename Fr _ _ _ _ => Fx
    rename News _ _ _ _ => Nx
    refine' lc_rangeN hh ?hn ?c ?k Fx Nx (fun i ys led => led = [] ∧ ys.length ≤ i ∧ IntsAre ys (((List.range i).filter fun k => !inCls as cs k).map Int.ofNat)) ?h0 ?hJ ?turn ?done
    case hn => (try simp only [List.size_toArray]); omega
    case c => decide
    case k => rfl
    case h0 => exact ⟨rfl, Nat.le_refl _, .nil⟩
    case hJ => exact fun _ _ _ h => h.2.1
    case turn =>
      intro I0 hB0 hkB i' v' ys' led' C own hC mC tkC hi' hv' hJ' hsep' hown' F N
      obtain ⟨rfl, hyl, hns⟩ := hJ'
      obtain ⟨t', rfl⟩ := hv'
      obtain ⟨oI', nm, hoI, hcI, hnI⟩ := hown'
      (try simp only [List.size_toArray] at hi')
      have hk1 := hkB _ _ (Nx (L + 1 + 1, o1) (by k_mem)).1
      have hk2 := hkB _ _ (Nx (L + 1, oC) (by k_mem)).1
      have hla : hB0.IsList aL arefs.toArray := isList_keeps hkB (News.isList Nx (by k_mem))
      obtain ⟨pk, kk, ta, tb, hak, htup, hkk, hk8⟩ : ∃ pk kk ta tb, arefs[i']? = some (.ref pk) ∧ IsTup hB0 pk #[.str (S (pcTok kk).chars) ta, .str (S (pcCls kk)) tb] ∧ as.getD i' 0 = kk ∧ kk < 8 := by
        have ma : IsTup hB0 pa #[.str (S (pcTok ia).chars) t1, .str (S (pcCls ia)) t2] := isTup_keeps hkB (News.isTup Nx (show (pa, pieceObj ia t1 t2) ∈ _ by k_mem))
        have mb : IsTup hB0 pb #[.str (S (pcTok ib).chars) t3, .str (S (pcCls ib)) t4] := isTup_keeps hkB (News.isTup Nx (show (pb, pieceObj ib t3 t4) ∈ _ by k_mem))
        rcases has with ⟨rfl, rfl⟩ | ⟨rfl, rfl⟩
        · have : i' = 0 := by simpa using hi'
          subst this
          exact ⟨pa, ia, _, _, rfl, ma, rfl, hia⟩
        · rcases (by simp at hi'; omega : i' = 0 ∨ i' = 1) with rfl | rfl
          · exact ⟨pa, ia, _, _, rfl, ma, rfl, hia⟩
          · exact ⟨pb, ib, _, _, rfl, mb, rfl, hib⟩
      have hci : (S cs).cps[i']? = some (cs.getD i' 0) := by
        rw [S_get, List.getElem?_eq_getElem (show i' < cs.length by omega), List.getD_eq_getElem?_getD, List.getElem?_eq_getElem (show i' < cs.length by omega)]; rfl
      have hcond : inCls as cs i' = decide (cs.getD i' 0 ∈ pcCls kk) := by unfold inCls; rw [hkk, List.contains_eq_mem]
      refine letOwned_skip (N _ (List.mem_append_left _ hoI)).1 hcI hnI ?_
      walk_at "d"; (with_reducible refine wpAny_assign_Name ?_); refine' storeC_L (by k_asm) (by k_asm) ?_ (by rfl) (by rfl); intro h9 F9 N9
      refine wpAny_tests_one ?_
      walk_at "d"; (with_reducible refine' wpAny_isTrue_Compare1 ?_ (by with_unfolding_all rfl)); (with_reducible refine Subscript_ ?_); refine' nameC_C (by k_asm) (by rfl) (by assumption) (by assumption) ?_ (by rfl) (by rfl) (by decide); refine' nameC_L (by k_asm) (by with_reducible exact upd_hit) ?_ (by rfl) (by rfl) (by decide); refine' str_at (by assumption) (by rfl) (by omega) ?_ (by with_unfolding_all rfl); walk_at "d"; (with_reducible refine Subscript_ ?_); (with_reducible refine Subscript_ ?_); refine' nameC_C (by k_asm) (by rfl) (by assumption) (by assumption) ?_ (by rfl) (by rfl) (by decide); refine' nameC_L (by k_asm) (by with_reducible exact upd_hit) ?_ (by rfl) (by rfl) (by decide); refine' item_list (isList_keeps (Fr.keep (by k_asm)) (by assumption)) (by assumption) (by rfl) (by omega) ?_ (by with_unfolding_all rfl); with_reducible refine wpAny_Constant_int ?_
      refine' item_tup (vs := [.str (S (pcTok kk).chars) ta, .str (S (pcCls kk)) tb]) (i := 1) (x := .str (S (pcCls kk)) tb) ?lq rfl rfl (by omega) ?_ ?hs
      case lq => exact isTup_keeps (Fr.keep (by k_asm)) (by assumption)
      case hs => with_unfolding_all rfl
      walk_at "d"; (with_reducible refine P.notIn_str ?_); with_reducible refine wpAny_truthy_bool ?_
      rw [StrLaws.found_one, S_list, ← hcond]
      have hfl : ((List.range (i' + 1)).filter fun k => !inCls as cs k) = ((List.range i').filter fun k => !inCls as cs k) ++ (if (!inCls as cs i') = true then [i'] else []) := by
        rw [List.range_succ, List.filter_append]; cases e : inCls as cs i' <;> simp [e]
      refine ite_b (fun hin => ?_) (fun hin => ?_)
      · refine' nameC_L (by k_asm) (by with_reducible exact upd_hit) ?_ (by rfl) (by rfl) (by decide)
        refine ⟨_, _, _, [], _, rfl, by assumption, by assumption, fun p hp => List.mem_append_left _ hp, fun p hp => absurd hp (by simp), fun p hp => absurd hp (by simp), rfl, ?_, ?_⟩
        · simp; omega
        · rw [hfl, if_pos hin, List.map_append]; exact intsAre_snoc hns
      · refine ⟨_, _, _, [], _, rfl, by assumption, by assumption, fun p hp => List.mem_append_left _ hp, fun p hp => absurd hp (by simp), fun p hp => absurd hp (by simp), rfl, ?_, ?_⟩
        · omega
        · rw [hfl, if_neg (by rw [hin]; simp), List.append_nil]; exact hns
    case done =>
      rintro D' ys led h' tk₂ k ⟨rfl, _, hns⟩ F N hld hND
      clear Fx Nx
      replace hND := ltk10 hND
      walk_at "d"; refine PyProof.Rows.List_ ?_; (with_reducible refine spliced_none ?_); refine' newList_P (by k_asm) (by k_asm) ?_ (Nat.le_of_ble_eq_true rfl); intro l9 h9 F9 N9 m9; replace m9 := ltk11 m9
      refine eq_nilK (by exact News.isList (by k_asm) (by k_mem)) (by exact News.isList (by k_asm) (by k_mem)) (by simp only [Around.deeper]; omega) ?_
      walk_at "d"; with_reducible refine wpAny_truthy_bool ?_
      have hys : ys.isEmpty = hitL (signsOf as) cs := by
        rw [hit_iff h8 hc1 hle hc3]
        simp only [List.size_toArray, halen.1] at hns
        have := hns.length
        rw [List.length_map] at this
        generalize (List.range as.length).filter _ = fl at this ⊢
        cases ys <;> cases fl <;> simp at this ⊢
      rw [hys]
      refine ite_b (fun hh1 => ?_) (fun hnh => ?_)
      · (with_reducible refine isTrue_and_nil ?_); (with_reducible refine ite_t ?_); (with_reducible refine execs_1 ?_); (with_reducible refine' wpAny_Assign_Name ?_ ?q409); (case q409 => rfl); (with_reducible refine wpAny_BinOp ?_); refine' nameX_L (by k_asm) (by k_all) ?_ (by rfl) (by rfl) (by decide); refine PyProof.Rows.List_ ?_; (with_reducible refine' spliced_more ?_ ?q410); (case q410 => rfl); (with_reducible refine' PyProof.Rows.MethodCall_ ?_ ?q411); (case q411 => rfl); (with_reducible refine Calls.Constant_str ?_); walk_at "d"; (with_reducible refine GM.join ?_); walk_at "d"; (with_reducible refine' PyProof.Rows.callWith_method1 ?_ ?q412 ?q413); (case q412 => rfl); (case q413 => rfl); walk_at "d"; (with_reducible refine' spliced_more ?_ ?q414); (case q414 => rfl)
        refine' lc_node ?hclos2 ?hkind2 ?hnames2 ?hs2 ?_
        case hclos2 => with_unfolding_all rfl
        case hkind2 => rfl
        case hnames2 => decide
        case hs2 => intro _; rfl
        refine' nameX_L (by k_asm) (by k_all) ?_ (by rfl) (by rfl) (by decide)
        rename Fr _ _ _ _ => Fx
        rename News _ _ _ _ => Nx
        have X9 : (Mine.heap_39 w.params).In _ := X.keeps Fx.keep
        have T9 := T.keeps Fx.keep
        have hrl3 : rvs.length ≤ 3 := by have := hrv.length; rw [List.length_map] at this; have := (row_len n).2; omega
        refine' lc_list (vs := rvs) hh ?l2 ?z2 ?c2 ?k2 Fx Nx (fun i ys led => led = [] ∧ ys.length ≤ i ∧ StrsAre ys (((rowOf n).take i).map fun c => S [c])) ?h02 ?hJ2 ?turn2 ?done2
        case l2 => exact News.isList (by k_asm) (by k_mem)
        case z2 => rw [sizeLine_eq]; omega
        case c2 => decide
        case k2 => rfl
        case h02 => exact ⟨rfl, Nat.le_refl _, .nil⟩
        case hJ2 => exact fun _ _ _ h => h.2.1
        case turn2 =>
          intro I0 i' v' ys' led' C own hC mC tkC hi' hv' hJ' hsep' hown' F N
          obtain ⟨rfl, hyl, hns⟩ := hJ'
          obtain ⟨oI', nm, hoI, hcI, hnI⟩ := hown'
          obtain ⟨xi, t, hxi, rfl⟩ := ints_get hrv hv'
          rw [List.getElem?_map] at hxi
          obtain ⟨c, hc, rfl⟩ := Option.map_eq_some_iff.mp hxi
          have hc256 : c < 256 := (piece_ok n).row c (List.mem_of_getElem? hc)
          refine letOwned_skip (N _ (List.mem_append_left _ hoI)).1 hcI hnI ?_
          walk_at "d"; (with_reducible refine wpAny_assign_Name ?_); refine' storeC_L (by k_asm) (by k_asm) ?_ (by rfl) (by rfl); intro h9 F9 N9
          refine wpAny_tests_nil ?_
          walk_at "d"; (with_reducible refine ite_t ?_); (with_reducible refine' Call_ ?_ ?q415); (case q415 => rfl); refine' nameC_B (by k_asm) (by k_asm) (by k_asm) (by rfl) (by rfl) (by k_is) (by boot_fast) (by decide) ?_ (by rfl) (by rfl) (by decide); (with_reducible refine' PyProof.Rows.callWith_builtin1 ?_ ?q416 ?q417); (case q416 => rfl); (case q417 => rfl); (with_reducible refine' spliced_more ?_ ?q418); (case q418 => rfl); refine' nameC_L (by k_asm) (by with_reducible exact upd_hit) ?_ (by rfl) (by rfl) (by decide); with_reducible refine spliced_none ?_
          refine chr_of_range (Int.ofNat_nonneg _) (by show ((c : Nat) : Int) ≤ _; omega) ?_
          refine ⟨_, _, _, [], _, rfl, by assumption, by assumption, fun p hp => List.mem_append_left _ hp, fun p hp => absurd hp (by simp), fun p hp => absurd hp (by simp), rfl, ?_, ?_⟩
          · simp; omega
          · rw [List.take_add_one, hc, Option.toList_some, List.map_append]; exact strs_add hns (.cons _ _ .nil)
        case done2 =>
          rintro D2 ys2 led2 h' tk₂ k ⟨rfl, _, hns⟩ F N hld hND
          clear Fx Nx
          replace hND := ltk12 hND
          rw [List.take_of_length_le (by have := hrv.length; rw [List.length_map] at this; omega)] at hns
          walk_at "d"; with_reducible refine spliced_none ?_
          rename News _ _ _ _ => Nj
          refine join_list (ys := (rowOf n).map fun c => S [c]) (Nj.isList (by k_mem)) (by rw [List.toList_toArray]; exact hns) ?_ fun t' kk => ?_
          · have hsep : (Str.ofString "").length = 0 := rfl
            rw [sum_flat, single_flat, hsep, Nat.mul_zero]; have := (row_len n).2; omega
          rw [show (Str.ofString "" : Str) = ⟨#[]⟩ from rfl, join_nil_flat, single_flat]
          walk_at "d"; (with_reducible refine' spliced_more ?_ ?q419); (case q419 => rfl); (with_reducible refine Calls.Constant_str ?_); walk_at "d"; (with_reducible refine spliced_none ?_); refine' newList_P (by k_asm) (by k_asm) ?_ (Nat.le_of_ble_eq_true rfl); intro l9 h9 F9 N9 m9; replace m9 := allLt_of m9; simp only [AllLt, and_true] at m9
          refine' add_lists_P (vs := tpre ++ [.str (S acc) tu]) (ws := [_, _]) ?Fa ?Na ?la ?lb ?_ ?za
          case Fa => k_asm
          case Na => k_asm
          case la => exact News.isList (by k_asm) (by k_mem)
          case lb => exact News.isList (by k_asm) (by k_mem)
          case za => simp only [sizeLine_eq, List.length_append, List.length_cons, List.length_nil]; omega
          k_whole
          intro Lr h₃ F₃ N₃ l₃
          replace l₃ := allLt_of l₃; simp only [AllLt, and_true] at l₃
          walk_at "d"; refine' storeX_L (by k_asm) (by k_asm) ?_ (by rfl) (by rfl); intro h9 F9 N9
          rename Fr _ _ _ _ => Fz
          rename News _ _ _ _ => Nz
          refine' h _ _ _ Lr ((tpre ++ [.str (S acc) tu]) ++ [_, _]) 0 Fz (News.sub Nz ?u0) ?u1 ?u2 ?u3 ?u4 ?u5
          case u0 => intro p hp; simp only [List.mem_cons, List.not_mem_nil, or_false] at hp; rcases hp with rfl | rfl | rfl | rfl | rfl | rfl | rfl | rfl | rfl <;> k_mem
          case u1 => rw [hh1, if_pos rfl, show ini ++ [acc, rowOf n, []] = (ini ++ [acc]) ++ [rowOf n, []] by simp, List.map_append, List.map_append]; exact strs_add (strs_add htp (.cons _ _ .nil)) (.cons _ _ (.cons _ _ .nil))
          case u2 => with_reducible exact upd_hit
          case u3 => intro z z1; simp only [z1, if_false]
          case u4 => omega
          case u5 => refine ⟨?_, ?_, ?_, ?_, ?_, ?_⟩ <;> omega
      · (with_reducible refine ite_f ?_); with_reducible refine execs_1 ?_
        refine wpAny_AugAssign_Subscript_any ?_ (fun _ _ _ => rfl)
        refine' nameX_L (by k_asm) (by k_all) ?_ (by rfl) (by rfl) (by decide); refine' pe_eval (by k_asm) (by k_asm) (by refine' PE.neg (PE.int)) ?_; refine At.same rfl ?_; intro k9; with_reducible (refine PV.all_i ?_; intro t9)
        refine get_last (by exact News.isList (by k_asm) (by k_mem)) (by omega) ?_
        refine' nameX_L (by k_asm) (by k_all) ?_ (by rfl) (by rfl) (by decide)
        refine iadd_S (by omega) fun t5 k5 => ?_
        skip
        refine' set_last (pre := tpre) (x := .str (S acc) tu) (n := kT) ?F9 ?N9 ?U9 (by omega) ?_
        case F9 => k_asm
        case N9 => k_asm
        case U9 => (refine' Upd.tail (by refine neN ?_; dsimp only; with_reducible exact rq3 (by k_all)) (by refine' Upd.tail (by refine neN ?_; dsimp only; with_reducible exact rq2 (by k_all)) (by refine' Upd.tail (by refine neN ?_; dsimp only; with_reducible exact rq1 (by k_all)) (by refine' Upd.tail (by k_all) (by refine' Upd.head (by refine List.forall_mem_cons.mpr ⟨by with_reducible assumption, ?_⟩; refine List.forall_mem_cons.mpr ⟨by with_reducible assumption, ?_⟩; refine List.forall_mem_cons.mpr ⟨by with_reducible assumption, ?_⟩; refine List.forall_mem_cons.mpr ⟨by with_reducible assumption, ?_⟩; refine List.forall_mem_cons.mpr ⟨by with_reducible assumption, ?_⟩; refine List.forall_mem_cons.mpr ⟨by (refine neN ?_; dsimp only; with_reducible exact nl0 (by k_all)), ?_⟩; refine List.forall_mem_cons.mpr ⟨by (refine neN ?_; dsimp only; omega), ?_⟩; exact List.forall_mem_nil _))))))
        intro h6 F6 N6
        skip
        refine' h h6 _ _ tl (tpre ++ [.str (S (acc ++ wd)) t5]) kT F6 (News.sub N6 (by intro p hp; simp only [List.mem_cons, List.not_mem_nil, or_false] at hp; rcases hp with rfl | rfl | rfl | rfl | rfl | rfl | rfl | rfl | rfl <;> k_mem)) ?r1 ?r2 ?r3 ?r4 ?r5
        case r1 => rw [hnh, if_neg (by simp), List.map_append]; exact strs_add htp (.cons _ _ .nil)
        case r2 => with_reducible assumption
        case r3 => exact fun z z1 => rfl
        case r4 => exact hlt
        case r5 => exact ⟨n1, n2, n3, n4, n5, n6⟩
  · have hnh : hitL (signsOf as) cs = false := hit_not (by simp at he; omega)
    refine ite_b (fun hff => absurd hff (by simp)) (fun _ => ?_)
    with_reducible refine execs_1 ?_
    refine wpAny_AugAssign_Subscript_any ?_ (fun _ _ _ => rfl)
    refine' nameX_L (by k_asm) (by k_all) ?_ (by rfl) (by rfl) (by decide); refine' pe_eval (by k_asm) (by k_asm) (by refine' PE.neg (PE.int)) ?_; refine At.same rfl ?_; intro k9; with_reducible (refine PV.all_i ?_; intro t9)
    refine get_last (by exact News.isList (by k_asm) (by k_mem)) (by omega) ?_
    refine' nameX_L (by k_asm) (by k_all) ?_ (by rfl) (by rfl) (by decide)
    refine iadd_S (by omega) fun t5 k5 => ?_
    skip
    refine' set_last (pre := tpre) (x := .str (S acc) tu) (n := kT) ?F ?N ?U (by omega) ?_
    case F => k_asm
    case N => k_asm
    case U => (refine' Upd.tail (by refine neN ?_; dsimp only; with_reducible exact rq1 (by k_all)) (by refine' Upd.tail (by k_all) (by refine' Upd.head (by refine List.forall_mem_cons.mpr ⟨by with_reducible assumption, ?_⟩; refine List.forall_mem_cons.mpr ⟨by with_reducible assumption, ?_⟩; refine List.forall_mem_cons.mpr ⟨by with_reducible assumption, ?_⟩; refine List.forall_mem_cons.mpr ⟨by with_reducible assumption, ?_⟩; refine List.forall_mem_cons.mpr ⟨by with_reducible assumption, ?_⟩; refine List.forall_mem_cons.mpr ⟨by (refine neN ?_; dsimp only; with_reducible exact nl0 (by k_all)), ?_⟩; refine List.forall_mem_cons.mpr ⟨by (refine neN ?_; dsimp only; omega), ?_⟩; exact List.forall_mem_nil _))))
    intro h6 F6 N6
    skip
    refine' h h6 _ _ tl (tpre ++ [.str (S (acc ++ wd)) t5]) kT F6 (News.sub N6 (fun p hp => .tail _ hp)) ?q1 ?q2 ?q3 ?q4 ?q5
    case q1 => rw [hnh, if_neg (by simp), List.map_append]; exact strs_add htp (.cons _ _ .nil)
    case q2 => with_reducible assumption
    case q3 => exact fun z z1 => rfl
    case q4 => exact hlt
    case q5 => exact ⟨n1, n2, n3, n4, n5, n6⟩
theorem loop_of_body {w : World} {b : List Stmt} {env : Env} {L : Addr} (B : IsBody w b env L) : IsLoop w (loopOf b) env L := fun o fd h1 h2 => let ⟨e1, e2⟩ := B o fd h1 h2; ⟨b, e1, rfl, e2⟩
theorem headL_snoc (p : Piece) : ∀ l : List Piece, headL [] (l ++ [p]) = headL [] l ++ (p.1 ++ wordL p.2.1 p.2.2)
  | [] => by simp [headL]
  | q :: r => by simp [headL, headL_snoc p r]
theorem headL_tail (tail : List Nat) : ∀ l : List Piece, headL tail l = headL [] l ++ tail
  | [] => by simp [headL]
  | q :: r => by simp [headL, headL_tail tail r]
theorem word_len (n : Nat) : (wordL (charOf n) (rowOf n)).length ≤ 100 := by
  have := enc_len (rowOf n); have := (char_ok n).2.2; have := (row_len n).2; simp [wordL]; omega
noncomputable abbrev textOf (as : List Nat) : List Nat := as.flatMap fun a => (pcTok a).chars
theorem many_flat : ∀ as : List Nat, (as.map fun a => S (pcTok a).chars).flatMap (·.cps.toList) = textOf as
  | [] => rfl
  | a :: r => by simp only [List.map_cons, List.flatMap_cons, many_flat r, textOf]
theorem text_le {as : List Nat} (h8 : ∀ a ∈ as, a < 8) (h2 : as.length ≤ 2) : (textOf as).length ≤ 12 := by
  match as, h8, h2 with
  | [], _, _ => simp [textOf]
  | [a], h, _ => have := (pc_len (h a (by simp))).1; simp only [textOf, List.flatMap_cons, List.flatMap_nil, List.append_nil]; omega
  | [a, b], h, _ => have := (pc_len (h a (by simp))).1; have := (pc_len (h b (by simp))).1; simp only [textOf, List.flatMap_cons, List.flatMap_nil, List.append_nil, List.length_append]; omega
  | _ :: _ :: _ :: _, _, h => exact absurd h (by simp)
theorem hdr_loop {w : World} {A : Around} {s : Shared} {Q : HdrQ} {p : Program} {loose : List Str} {mg mb : Str → Option Value} {b : List Stmt} {env : Env} {g : Heap} {L : Addr} {m : Str → Option Value} {o1' o2' : Obj}
   (B : IsBody w b env L) (X : (Mine.heap_39 w.params).In g) (T : TopRead p loose mg mb g) (hroom : A.depth + 28 < recursionLimit) (hun : A.units + 280 < cLine) (hh : A.handled = none)
   (F : Fr g L s.heap m) {aL pa pb St D : Addr} {arefs svs nvs : List Value} {kA kS kD ia ib : Nat} {t1 t2 t3 t4 : Tok} (N : News g L s.heap [(aL, PySem.W.listOf arefs.toArray kA), (pa, pieceObj ia t1 t2), (pb, pieceObj ib t3 t4), (St, PySem.W.listOf svs.toArray kS), (D, PySem.W.listOf nvs.toArray kD), (L + 1 + 1, o1'), (L + 1, o2')])
   {ns : List Nat} {total : Int} {tt : Tok} {as : List Nat} {c1 : Option Value} (d1 : o1'.data = .cell c1) (d2 : o2'.data = .cell (some (.ref aL))) (hnu : m (Str.ofString "numbers") = some (.ref D)) (hto : m (Str.ofString "total") = some (.int total tt)) (hss : m (Str.ofString "stretches") = some (.ref St))
   (hns : IntsAre nvs (ns.map Int.ofNat)) (hnl : ns.length ≤ 3) (hsv : StrsAre svs (stretchT.map S)) (has : (arefs = [.ref pa] ∧ as = [ia]) ∨ (arefs = [.ref pa, .ref pb] ∧ as = [ia, ib])) (hia : ia < 8) (hib : ib < 8)
   (hA : @LT.lt Nat _ (L + 1 + 1) aL) (hpa : @LT.lt Nat _ (L + 1 + 1) pa) (hpb : @LT.lt Nat _ (L + 1 + 1) pb) (hSt : @LT.lt Nat _ (L + 1 + 1) St) (hD : @LT.lt Nat _ (L + 1 + 1) D) {iT : Nat} (hiT : iT < 8) (hiT2 : (total.fdiv 72).fmod 8 = (iT : Int))
   (h : ∀ h' tk' r tl (tvs : List Value) kk t5 t6, Pres g h' → IsTup h' r #[.str (S (headL (stretchT.getD iT []) (ns.map pieceOf))) t5, .ref tl, .str (S (textOf as)) t6] → h'.get? tl = some (PySem.W.listOf tvs.toArray kk) → g.get? tl = none → StrsAre tvs ((toldGo (signsOf as) (stretchT.getD iT []) [] (ns.map pieceOf)).map S) → Q (.ret (.ref r)) { s with heap := h', toks := tk' }) :
  wpAny (model PySem.Challenge.rw_ij0038_01.row.prog w) (A.deeper env) (execs (b.drop 7) env) Q (fun _ _ => False) s := by
  have BL := loop_of_body B
  obtain ⟨hb, rfl⟩ := B _ _ (show (Mine.heap_39 w.params).lookup 129 = some _ from by k_is) rfl
  replace hb : FuncBody.stmts _ = .stmts b := hb
  injection hb with hb
  subst hb
  dsimp only [loopOf, List.drop] at BL ⊢
  (with_reducible refine execs_k ?_); refine' exec_asg (by k_asm) (by k_asm) (PE.str) (by rfl) (by rfl) (by rfl) ?_; intro h9 k9; (with_reducible (refine PV.all_s ?_; intro t9)); intro F9 N9; (with_reducible refine Kx_next ?_); (with_reducible refine execs_k ?_); (with_reducible refine' wpAny_Assign_Name ?_ ?q420); (case q420 => rfl); refine PyProof.Rows.List_ ?_; (with_reducible refine' spliced_more ?_ ?q421); (case q421 => rfl); (with_reducible refine Calls.Constant_str ?_); walk_at "d"; (with_reducible refine spliced_none ?_); refine' newList_P (by k_asm) (by k_asm) ?_ (Nat.le_of_ble_eq_true rfl); intro tl0 hq1 Fq1 Nq1 lq; replace lq := ltk7 lq; walk_at "d"; refine' storeX_L (by k_asm) (by k_asm) ?_ (by rfl) (by rfl); intro hq Fq Nq; walk_at "d"; (with_reducible refine Kx_next ?_); with_reducible refine execs_k ?_
  refine wpAny_For ?_ (fun _ => rfl)
  refine' nameX_L (by k_asm) (by with_reducible exact upd_miss (by decide) (upd_off (by decide) (by assumption))) ?_ (by rfl) (by rfl) (by decide)
  skip
  clear Fq1 Nq1 F N
  refine for_list (vs := nvs) hh (News.isList Nq (by k_mem)) Fq Nq (fun _ _ => rfl) (fun i m' news' => Xs8 fun (ini : List (List Nat)) (acc : List Nat) (o1 : Obj) (c1 : Option Value) (tl : Addr) (tvs : List Value) (kT : Nat) (th : Tok) => Cj13 (news' = [(tl, PySem.W.listOf tvs.toArray kT), (aL, PySem.W.listOf arefs.toArray kA), (pa, pieceObj ia t1 t2), (pb, pieceObj ib t3 t4), (St, PySem.W.listOf svs.toArray kS), (D, PySem.W.listOf nvs.toArray kD), (L + 1 + 1, o1), (L + 1, o2')]) (o1.data = .cell c1) (m' (Str.ofString "total") = some (.int total tt)) (m' (Str.ofString "stretches") = some (.ref St)) (m' (Str.ofString "told") = some (.ref tl)) (m' (Str.ofString "header") = some (.str (S (headL [] ((ns.map pieceOf).take i))) th)) (StrsAre tvs ((ini ++ [acc]).map S)) (toldGo (signsOf as) (stretchT.getD iT []) [] (ns.map pieceOf) = ini ++ toldGo (signsOf as) (stretchT.getD iT []) acc ((ns.map pieceOf).drop i)) ((headL [] ((ns.map pieceOf).take i)).length ≤ i * 200) (acc.length ≤ i * 200) (ini.length ≤ 2 * i) (@LT.lt Nat _ (L + 1 + 1) tl) (@Ne Nat aL tl ∧ @Ne Nat pa tl ∧ @Ne Nat pb tl ∧ @Ne Nat St tl ∧ @Ne Nat D tl)) ?h0 ?turn ?done
  case h0 =>
    refine ⟨[], [], o1', c1, tl0, [_], 0, _, rfl, d1, by with_reducible exact upd_miss (by decide) (upd_off (by decide) (by assumption)), by with_reducible exact upd_miss (by decide) (upd_off (by decide) (by assumption)), by with_reducible exact upd_hit, by rfl, .cons _ _ .nil, rfl, Nat.le_refl _, Nat.le_refl _, Nat.le_refl _, by omega, ?_⟩
    refine ⟨?_, ?_, ?_, ?_, ?_⟩ <;> omega
  case turn =>
    rintro i I v m₁ news₁ oI h1 tk1 hv hI ⟨ini, acc, o1, c1, tl, tvs, kT, th, rfl, e1, e2, e3, e4, e5, e6, e7, e8, e9, e10, e11, n2, n3, n4, n5, n6⟩ hoff F N
    clear Fq Nq
    replace hI := ltk8 hI
    obtain ⟨x0, tx, hx0, rfl⟩ := ints_get hns hv
    rw [List.getElem?_map] at hx0
    obtain ⟨n, hn, rfl⟩ := Option.map_eq_some_iff.mp hx0
    have hin : i < ns.length := by
      rcases Nat.lt_or_ge i ns.length with q | q
      · exact q
      · rw [List.getElem?_eq_none q] at hn; cases hn
    have hpi : (ns.map pieceOf)[i]? = some (pieceOf n) := by rw [List.getElem?_map, hn]; rfl
    have htk : (ns.map pieceOf).take (i + 1) = (ns.map pieceOf).take i ++ [pieceOf n] := by rw [List.take_add_one, hpi]; rfl
    have hdr : (ns.map pieceOf).drop i = pieceOf n :: (ns.map pieceOf).drop (i + 1) := by
      rw [List.drop_eq_getElem_cons (by simpa using hin)]; congr 1
      have := List.getElem?_eq_getElem (l := ns.map pieceOf) (i := i) (by simpa using hin)
      rw [hpi] at this; exact (Option.some.inj this).symm
    generalize hHd : headL [] ((ns.map pieceOf).take i) = hdv at e5 e8
    have n1 : @Ne Nat I tl := by have := hoff _ (.head _); exact fun e => this e.symm
    have g0 := (N (D, PySem.W.listOf nvs.toArray kD) (by k_mem)).1
    refine wpAny_assign_Name ?_
    refine' storeX_L F N ?_ ?ka ?kb
    case ka => rfl
    case kb => rfl
    intro h2 F2 N2
    clear F N
    with_reducible refine' lp_row (n := n) (tx := tx) BL X T hroom hun hh F2 N2 e1 ?ax ?b1 ?b2 ?b3 ?b4 ?b5 ?b6 ?b7 ?_
    case ax => exact if_pos rfl
    case b1 => omega
    case b2 => omega
    case b3 => omega
    case b4 => omega
    case b5 => omega
    case b6 => omega
    case b7 => omega
    intro h3 tk3 m3 rw3 rvs kR o3 tc F3 N3 d3 hrv hrw hm3 hfr
    clear F2 N2
    have g1 := (hm3 (Str.ofString "x") (by decide) (by decide) (by decide)).trans (show _ = some (.int (Int.ofNat n) tx) from if_pos rfl)
    have g2 := (hm3 (Str.ofString "stretches") (by decide) (by decide) (by decide)).trans ((if_neg (by decide)).trans e3)
    have g3 := (hm3 (Str.ofString "told") (by decide) (by decide) (by decide)).trans ((if_neg (by decide)).trans e4)
    have g4 := (hm3 (Str.ofString "header") (by decide) (by decide) (by decide)).trans ((if_neg (by decide)).trans e5)
    have g5 := (hm3 (Str.ofString "total") (by decide) (by decide) (by decide)).trans ((if_neg (by decide)).trans e2)
    with_reducible refine' lp_word (n := n) (tx := tx) BL X T hroom hun hh F3 N3 d3 g1 hrv hrw g2 g3 g4 hsv e6 ?y1 ?y2 ?y3 ?b1 ?b2 ?b3 ?b4 ?b5 ?b6 ?b7 hfr ⟨n1, n2, n3, n4, n5, n6⟩ ?_
    case y1 => omega
    case y2 => omega
    case y3 => omega
    case b1 => omega
    case b2 => omega
    case b3 => omega
    case b4 => omega
    case b5 => omega
    case b6 => omega
    case b7 => omega
    intro h4 tk4 m4 tvs4 kT4 tw th4 F4 N4 htv4 hw4 hh4 hm4
    clear F3 N3
    have hwl := word_len n
    have hsl := (stretch_ok n).2
    with_reducible refine' lp_if (n := n) (as := as) BL X T hroom hun hh F4 N4 d3 d2 hrv ?y0 ?y4 hw4 htv4 ?y1 ?y2 ?y3 has hia hib ?b1 ?b2 ?b3 ?b4 ?b5 ?b6 ?b7 hfr ⟨n1, n2, n3, n4, n5, n6⟩ ?_
    case y0 => exact (hm4 _ (by decide) (by decide)).trans hrw
    case y4 => exact (hm4 _ (by decide) (by decide)).trans g3
    case y1 => omega
    case y2 => rw [List.length_append]; omega
    case y3 => omega
    case b1 => omega
    case b2 => omega
    case b3 => omega
    case b4 => omega
    case b5 => omega
    case b6 => omega
    case b7 => omega
    intro h5 tk5 m5 tl5 tvs5 kT5 F5 N5 htv5 hto5 hm5 hl5 hne5
    obtain ⟨q1, q2, q3, q4, q5, q6⟩ := hne5
    have k1 := (hm5 (Str.ofString "total") (by decide)).trans ((hm4 (Str.ofString "total") (by decide) (by decide)).trans g5)
    have k2 := (hm5 (Str.ofString "stretches") (by decide)).trans ((hm4 (Str.ofString "stretches") (by decide) (by decide)).trans g2)
    have k3 := (hm5 (Str.ofString "header") (by decide)).trans hh4
    have hd2 : headL [] ((ns.map pieceOf).take (i + 1)) = hdv ++ (stretchOf n ++ wordL (charOf n) (rowOf n)) := by rw [htk, headL_snoc, hHd]; rfl
    refine forEnd_intro F5 N5 ?_ ?_ ?_
    · intro p hp; simp only [List.mem_cons, List.not_mem_nil, or_false] at hp; rcases hp with rfl | rfl | rfl | rfl | rfl | rfl | rfl | rfl <;> (first | (with_reducible exact Ne.symm (by k_all)) | (refine neN ?_; dsimp only; with_reducible exact nq1 (by k_all)) | (refine neN ?_; dsimp only; with_reducible exact nq2 (by k_all)) | (refine neN ?_; dsimp only; with_reducible exact nq3 (by k_all)) | (refine neN ?_; dsimp only; with_reducible exact nq4 (by k_all)) | (refine neN ?_; dsimp only; with_reducible exact nq5 (by k_all)) | (refine neN ?_; dsimp only; with_reducible exact nq6 (by k_all)) | (refine neN ?_; dsimp only; with_reducible exact nl7 (by k_all)))
    · intro b hb hbI o ho
      have : b = D := by simpa using hb
      have e := (N5 (D, PySem.W.listOf nvs.toArray kD) (by k_mem)).1
      rw [this] at ho ⊢
      rw [g0] at ho; cases ho; exact e
    · cases hh : hitL (signsOf as) (charOf n) with
      | true =>
        rw [hh, if_pos rfl] at htv5
        refine ⟨ini ++ [acc ++ stretchOf n, rowOf n], [], o3, _, tl5, tvs5, kT5, th4, rfl, d3, k1, k2, hto5, by rw [hd2]; exact k3, by simpa using htv5, ?_, ?_, by simp, ?_, hl5, ⟨q2, q3, q4, q5, q6⟩⟩
        · rw [e7, hdr]; simp only [toldGo, pieceOf, hh, if_true]; simp
        · rw [hd2, List.length_append, List.length_append]; omega
        · rw [List.length_append]; simp; omega
      | false =>
        rw [hh, if_neg (by simp)] at htv5
        refine ⟨ini, acc ++ stretchOf n ++ wordL (charOf n) (rowOf n), o3, _, tl5, tvs5, kT5, th4, rfl, d3, k1, k2, hto5, by rw [hd2]; exact k3, htv5, ?_, ?_, ?_, ?_, hl5, ⟨q2, q3, q4, q5, q6⟩⟩
        · rw [e7, hdr]; simp only [toldGo, pieceOf, hh, Bool.false_eq_true, if_false]; rw [List.append_assoc]
        · rw [hd2, List.length_append, List.length_append]; omega
        · rw [List.length_append, List.length_append]; omega
        · omega
  case done =>
    rintro m₁ news₁ h1 tk1 ⟨ini, acc, o1, c1, tl, tvs, kT, th, rfl, e1, e2, e3, e4, e5, e6, e7, e8, e9, e10, e11, n2, n3, n4, n5, n6⟩ F N
    clear Fq Nq
    have hvl := hns.length
    rw [List.length_map] at hvl
    rw [List.take_of_length_le (by simp; omega)] at e5 e8
    rw [List.drop_of_length_le (by simp; omega)] at e7
    obtain ⟨ts, hsx⟩ : ∃ t, svs[iT]? = some (.str (S (stretchT.getD iT [])) t) := strs_get (xs := stretchT) hsv hiT
    have htl8 : (stretchT.getD iT []).length ≤ 2 := lt8 (P := fun k => (stretchT.getD k []).length ≤ 2) (by decide) hiT
    rw [headL_tail] at h
    generalize stretchT.getD iT [] = tail at *
    generalize headL [] (ns.map pieceOf) = hdv at *
    obtain ⟨tpre, tu, rfl, htp⟩ := strs_snoc e6
    have htl : tpre.length ≤ 1000 := by have := htp.length; rw [List.length_map] at this; omega
    walk_at "d"; (with_reducible refine Kx_next ?_); (with_reducible refine execs_k ?_); (with_reducible refine' wpAny_Assign_Name ?_ ?q422); (case q422 => rfl); (with_reducible refine Subscript_ ?_); refine' nameX_L (by k_asm) (by k_all) ?_ (by rfl) (by rfl) (by decide); (with_reducible refine wpAny_BinOp ?_); (with_reducible refine wpAny_BinOp ?_); refine' nameX_L (by k_asm) (by k_all) ?_ (by rfl) (by rfl) (by decide); (with_reducible refine wpAny_Constant_int ?_); walk_at "d"; (with_reducible (refine' floordiv_int (by decide) ?_ (Or.inl (PyProof.noPylong_of_log2 (by decide +kernel))))); walk_at "d"; (with_reducible refine wpAny_Constant_int ?_); walk_at "d"; (with_reducible (refine' mod_int' (by decide) ?_)); walk_at "d"; refine' item_list (News.isList (by k_asm) (by k_mem)) (by assumption) (by omega) (by omega) ?_ (by with_unfolding_all rfl); refine' storeX_L (by k_asm) (by k_asm) ?_ (by rfl) (by rfl); intro h9 F9 N9; walk_at "d"; (with_reducible refine Kx_next ?_); with_reducible refine execs_k ?_
    refine wpAny_AugAssign_Subscript_any ?_ (fun _ _ _ => rfl)
    refine' nameX_L (by k_asm) (by with_reducible exact upd_miss (by decide) (by assumption)) ?_ (by rfl) (by rfl) (by decide); refine' pe_eval (by k_asm) (by k_asm) (by refine' PE.neg (PE.int)) ?_; refine At.same rfl ?_; intro k9; with_reducible (refine PV.all_i ?_; intro t9)
    refine get_last (by exact News.isList (by k_asm) (by k_mem)) (by omega) ?_
    refine' nameX_L (by k_asm) (by with_reducible exact upd_hit) ?_ (by rfl) (by rfl) (by decide)
    refine iadd_S (by omega) fun t5 k5 => ?_
    skip
    refine' set_last (pre := tpre) (x := .str (S acc) tu) (n := kT) ?F ?N ?U (by omega) ?_
    case F => k_asm
    case N => k_asm
    case U => (refine' Upd.head (by refine List.forall_mem_cons.mpr ⟨by with_reducible assumption, ?_⟩; refine List.forall_mem_cons.mpr ⟨by with_reducible assumption, ?_⟩; refine List.forall_mem_cons.mpr ⟨by with_reducible assumption, ?_⟩; refine List.forall_mem_cons.mpr ⟨by with_reducible assumption, ?_⟩; refine List.forall_mem_cons.mpr ⟨by with_reducible assumption, ?_⟩; refine List.forall_mem_cons.mpr ⟨by (refine neN ?_; dsimp only; with_reducible exact nl0 (by k_all)), ?_⟩; refine List.forall_mem_cons.mpr ⟨by (refine neN ?_; dsimp only; omega), ?_⟩; exact List.forall_mem_nil _))
    intro h6 F6 N6
    walk_at "d"; (with_reducible refine Kx_next ?_); (with_reducible refine execs_1 ?_); (with_reducible refine wpAny_Return_some ?_); refine PyProof.Rows.Tuple_ ?_; (with_reducible refine' spliced_more ?_ ?q423); (case q423 => rfl); (with_reducible refine wpAny_BinOp ?_); refine' nameX_L (by k_asm) (by with_reducible exact upd_miss (by decide) (by assumption)) ?_ (by rfl) (by rfl) (by decide); refine' nameX_L (by k_asm) (by with_reducible exact upd_hit) ?_ (by rfl) (by rfl) (by decide)
    refine add_S (by omega) fun t6 k6 => ?_
    walk_at "d"; (with_reducible refine' spliced_more ?_ ?q424); (case q424 => rfl); refine' nameX_L (by k_asm) (by with_reducible exact upd_miss (by decide) (by assumption)) ?_ (by rfl) (by rfl) (by decide); (with_reducible refine' spliced_more ?_ ?q425); (case q425 => rfl); (with_reducible refine' PyProof.Rows.MethodCall_ ?_ ?q426); (case q426 => rfl); (with_reducible refine Calls.Constant_str ?_); walk_at "d"; (with_reducible refine GM.join ?_); walk_at "d"; (with_reducible refine' PyProof.Rows.callWith_method1 ?_ ?q427 ?q428); (case q427 => rfl); (case q428 => rfl); walk_at "d"; (with_reducible refine' spliced_more ?_ ?q429); (case q429 => rfl)
    have halen : arefs.length = as.length ∧ as.length ≤ 2 := by rcases has with ⟨rfl, rfl⟩ | ⟨rfl, rfl⟩ <;> simp
    have h8 : ∀ a ∈ as, a < 8 := by rcases has with ⟨_, rfl⟩ | ⟨_, rfl⟩ <;> (intro a ha; simp only [List.mem_cons, List.not_mem_nil, or_false] at ha; omega)
    refine' lc_node ?hclos ?hkind ?hnames ?hs ?_
    case hclos => with_unfolding_all rfl
    case hkind => rfl
    case hnames => decide
    case hs => intro _; rfl
    refine' nameX_C (by k_asm) (by rfl) (by k_mem) (by k_asm) ?_ (by rfl) (by rfl) (by decide)
    rename Fr _ _ _ _ => Fx
    rename News _ _ _ _ => Nx
    refine' lc_list (vs := arefs) hh ?l2 ?z2 ?c2 ?k2 Fx Nx (fun i ys led => led = [] ∧ ys.length ≤ i ∧ StrsAre ys ((as.take i).map fun a => S (pcTok a).chars)) ?h02 ?hJ2 ?turn2 ?done2
    case l2 => exact News.isList (by k_asm) (by k_mem)
    case z2 => rw [sizeLine_eq]; omega
    case c2 => decide
    case k2 => rfl
    case h02 => exact ⟨rfl, Nat.le_refl _, .nil⟩
    case hJ2 => exact fun _ _ _ h => h.2.1
    case turn2 =>
      intro I0 i' v' ys' led' C own hC mC tkC hi' hv' hJ' hsep' hown' F N
      obtain ⟨rfl, hyl, hns'⟩ := hJ'
      obtain ⟨oI', nm, hoI, hcI, hnI⟩ := hown'
      obtain ⟨pk, kk, ta, tb, rfl, htup, hkk⟩ : ∃ pk kk ta tb, v' = .ref pk ∧ IsTup _ pk #[.str (S (pcTok kk).chars) ta, .str (S (pcCls kk)) tb] ∧ as[i']? = some kk := by
        have ma : IsTup _ pa #[.str (S (pcTok ia).chars) t1, .str (S (pcCls ia)) t2] := News.isTup Nx (show (pa, pieceObj ia t1 t2) ∈ _ by k_mem)
        have mb : IsTup _ pb #[.str (S (pcTok ib).chars) t3, .str (S (pcCls ib)) t4] := News.isTup Nx (show (pb, pieceObj ib t3 t4) ∈ _ by k_mem)
        rcases has with ⟨rfl, rfl⟩ | ⟨rfl, rfl⟩
        · have : i' = 0 := by simpa using hi'
          subst this
          exact ⟨pa, ia, _, _, by simpa using hv'.symm, ma, rfl⟩
        · rcases (by simp at hi'; omega : i' = 0 ∨ i' = 1) with rfl | rfl
          · exact ⟨pa, ia, _, _, by simpa using hv'.symm, ma, rfl⟩
          · exact ⟨pb, ib, _, _, by simpa using hv'.symm, mb, rfl⟩
      refine letOwned_skip (N _ (List.mem_append_left _ hoI)).1 hcI hnI ?_
      walk_at "d"; (with_reducible refine wpAny_assign_Name ?_); refine' storeC_L (by k_asm) (by k_asm) ?_ (by rfl) (by rfl); intro h9 F9 N9
      refine wpAny_tests_nil ?_
      walk_at "d"; (with_reducible refine ite_t ?_); (with_reducible refine Subscript_ ?_); refine' nameC_L (by k_asm) (by with_reducible exact upd_hit) ?_ (by rfl) (by rfl) (by decide); with_reducible refine wpAny_Constant_int ?_
      refine' item_tup (vs := [.str (S (pcTok kk).chars) ta, .str (S (pcCls kk)) tb]) (i := 0) (x := .str (S (pcTok kk).chars) ta) ?lq rfl rfl (by omega) ?_ ?hsq
      case lq => exact isTup_keeps (Fr.keep (by k_asm)) (by assumption)
      case hsq => with_unfolding_all rfl
      refine ⟨_, _, _, [], _, rfl, by assumption, by assumption, fun p hp => List.mem_append_left _ hp, fun p hp => absurd hp (by simp), fun p hp => absurd hp (by simp), rfl, ?_, ?_⟩
      · simp; omega
      · rw [List.take_add_one, hkk, Option.toList_some, List.map_append]; exact strs_add hns' (.cons _ _ .nil)
    case done2 =>
      rintro D2 ys2 led2 h' tk₂ k ⟨rfl, _, hns'⟩ F N hld hND
      clear Fx Nx
      replace hND := ltk8 hND
      rw [halen.1, List.take_length] at hns'
      walk_at "d"; with_reducible refine spliced_none ?_
      rename News _ _ _ _ => Nj
      have htx := text_le h8 halen.2
      refine join_list (ys := as.map fun a => S (pcTok a).chars) (Nj.isList (by k_mem)) (by rw [List.toList_toArray]; exact hns') ?_ fun t' kk => ?_
      · have hsep : (Str.ofString "").length = 0 := rfl
        rw [sum_flat, many_flat, hsep, Nat.mul_zero]; omega
      rw [show (Str.ofString "" : Str) = ⟨#[]⟩ from rfl, join_nil_flat, many_flat]
      walk_at "d"; (with_reducible refine spliced_none ?_); refine' newTuple_P ?q430 ?q431 ?_ ?q432; (case q430 => k_asm); (case q431 => k_asm); (case q432 => exact Nat.le_of_ble_eq_true rfl); intro l9 h9 F9 N9 m9; replace m9 := ltk9 m9
      rename Fr _ _ _ _ => Fz
      rename News _ _ _ _ => Nz
      refine' h _ _ _ tl (tpre ++ [.str (S (acc ++ tail)) t5]) kT _ _ (Fr.keep Fz) ?v1 ?v2 ?v4 ?v3
      case v1 => exact News.isTup Nz (by k_mem)
      case v2 => exact (Nz (tl, PySem.W.listOf (tpre ++ [Value.str (S (acc ++ tail)) t5]).toArray kT) (by k_mem)).1
      case v4 => exact (Nz (tl, PySem.W.listOf (tpre ++ [Value.str (S (acc ++ tail)) t5]).toArray kT) (by k_mem)).2.2
      case v3 => rw [e7]; show StrsAre _ ((ini ++ [acc ++ tail]).map S); rw [List.map_append]; exact strs_add htp (.cons _ _ .nil)
theorem idxA_lt (t : Int) : idxA t < 8 ∧ t.fmod 8 = (idxA t : Int) := by
  have h1 := Int.fmod_nonneg_of_pos t (show (0 : Int) < 8 by decide)
  have h2 := Int.fmod_lt_of_pos t (show (0 : Int) < 8 by decide)
  unfold idxA; omega
theorem idxB_lt (t : Int) : idxB t < 8 ∧ (0 < (t.fdiv 8).fmod 9 → (t.fdiv 8).fmod 9 - 1 = (idxB t : Int)) := by
  have h2 := Int.fmod_lt_of_pos (t.fdiv 8) (show (0 : Int) < 9 by decide)
  unfold idxB; omega
theorem idxT_lt (t : Int) : ((t.fdiv 72).fmod 8).toNat < 8 ∧ (t.fdiv 72).fmod 8 = (((t.fdiv 72).fmod 8).toNat : Int) := by
  have h1 := Int.fmod_nonneg_of_pos (t.fdiv 72) (show (0 : Int) < 8 by decide)
  have h2 := Int.fmod_lt_of_pos (t.fdiv 72) (show (0 : Int) < 8 by decide)
  omega
theorem head_len {tail : List Nat} (ht : tail.length ≤ 2) : ∀ ns : List Nat, (headL tail (ns.map pieceOf)).length ≤ ns.length * 200 + 2
  | [] => by simpa [headL] using ht
  | n :: r => by
    have ih := head_len ht r
    have h1 := word_len n
    have h2 := (stretch_ok n).2
    simp only [List.map_cons, headL, pieceOf, List.length_append, List.length_cons] at *; omega
theorem header_spec {w : World} {A : Around} {s : Shared} {Q E : Value → Shared → Prop} {p : Program} {loose : List Str} {mg mb : Str → Option Value}
   (X : (Mine.heap_39 w.params).In s.heap) (T : TopRead p loose mg mb s.heap) (hroom : A.depth + 30 < recursionLimit) (hun : A.units + 300 < cLine) (hh : A.handled = none)
   {sa : Addr} {vs : List Value} {xs : List Int} (hl : s.heap.IsList sa vs.toArray) (hi : IntsAre vs xs) (hxl : xs.length ≤ 63)
   (hQ : ∀ h' tk' r tl (tvs : List Value) kk t5 t6 (as : List Nat) (tail : List Nat) (pcs : List Piece), 1 ≤ as.length → as.length ≤ 2 → (∀ a ∈ as, a < 8) → 63 ∉ tail → (∀ p ∈ pcs, PieceOk p ∧ p.2.2.length ≤ 3) → pcs.length ≤ 3 → (headL tail pcs).length ≤ 1000 → Pres s.heap h' →
     IsTup h' r #[.str (S (headL tail pcs)) t5, .ref tl, .str (S (textOf as)) t6] → h'.get? tl = some (PySem.W.listOf tvs.toArray kk) → s.heap.get? tl = none → StrsAre tvs ((toldGo (signsOf as) tail [] pcs).map S) → Q (.ref r) {s with heap := h', toks := tk'}) :
  wpAny (model PySem.Challenge.rw_ij0038_01.row.prog w) A (call (.ref 129) [.ref sa]) Q E s := by
  refine' enter_cells (K := Mine.heap_39 w.params) X T.nolimit ?r ?ho ?hcd ?hb ?hl ?hc ?_ ?c2 ?c3 ?c4
  case r => omega
  case ho => k_is
  case hcd => k_is
  case hb => exact BindsTo.of_eq rfl
  case hl => rfl
  case hc => decide +kernel
  case c2 => rfl
  case c3 => rfl
  case c4 => rfl
  intro h₁ tk cells F N Y
  have hY := CellsAre.two Y; obtain ⟨o1', o2', hE', d1', d2'⟩ := hY; subst hE'; clear Y
  obtain ⟨a1, a2⟩ := idxA_lt (xs.take 3).sum
  obtain ⟨b1, b2⟩ := idxB_lt (xs.take 3).sum
  obtain ⟨c1, c2⟩ := idxT_lt (xs.take 3).sum
  with_reducible refine' hdr_numbers (g := s.heap) (L := s.heap.objs.size) ?B1 X T ?r1 ?u1 hh F N hl hi hxl ?sc ?_
  case B1 =>
    intro o fd h1 h2
    rw [show (Mine.heap_39 w.params).lookup 129 = some _ from by k_is] at h1
    cases h1
    cases h2
    exact ⟨rfl, rfl⟩
  case r1 => omega
  case u1 => omega
  case sc => rfl
  intro h2 tk2 m2 D k nvs F2 N2 s2 n2 lD hn2
  clear F N
  with_reducible refine' hdr_total (g := s.heap) (L := s.heap.objs.size) ?B2 X T ?r2 ?u2 hh F2 N2 hl hi hxl s2 n2 lD ?_
  case B2 =>
    intro o fd h1 h2
    rw [show (Mine.heap_39 w.params).lookup 129 = some _ from by k_is] at h1
    cases h1
    cases h2
    exact ⟨rfl, rfl⟩
  case r2 => omega
  case u2 => omega
  intro h3 tk3 m3 tt St svs F3 N3 n3 t3 s3 hsv lSt
  clear F2 N2
  with_reducible refine' hdr_pieces (g := s.heap) (L := s.heap.objs.size) ?B3 X T ?r3 ?u3 hh F3 N3 n3 t3 s3 lD lSt a1 b1 ?_
  case B3 =>
    intro o fd h1 h2
    rw [show (Mine.heap_39 w.params).lookup 129 = some _ from by k_is] at h1
    cases h1
    cases h2
    exact ⟨rfl, rfl⟩
  case r3 => omega
  case u3 => omega
  intro h4 tk4 m4 Pc prefs pa pb p1 p2 p3 p4 F4 N4 n4 t4 s4 pc4 ga gb la lb lp
  clear F3 N3
  with_reducible refine' hdr_asked (g := s.heap) (L := s.heap.objs.size) ?B4 X T ?r4 ?u4 hh F4 N4 d1' d2' n4 t4 s4 pc4 lD lSt lp la lb a1 b1 ga gb a2 b2 ?_
  case B4 =>
    intro o fd h1 h2
    rw [show (Mine.heap_39 w.params).lookup 129 = some _ from by k_is] at h1
    cases h1
    cases h2
    exact ⟨rfl, rfl⟩
  case r4 => omega
  case u4 => omega
  intro h5 tk5 m5 aL arefs kA as o2 F5 N5 d5 n5 t5 s5 lA hor
  clear F4 N4
  have hxs : (xs.take 3).length ≤ 3 := by simp; omega
  have hnl := numbers_len hxs
  with_reducible refine' hdr_loop (g := s.heap) (L := s.heap.objs.size) ?B5 X T ?r5 ?u5 hh F5 N5 d1' d5 n5 t5 s5 hn2 hnl hsv hor a1 b1 lA la lb lSt lD c1 c2 ?_
  case B5 =>
    intro o fd h1 h2
    rw [show (Mine.heap_39 w.params).lookup 129 = some _ from by k_is] at h1
    cases h1
    cases h2
    exact ⟨rfl, rfl⟩
  case r5 => omega
  case u5 => omega
  intro h6 tk6 r tl tvs kk t6 t7 P6 i6 l6 z6 v6
  have hT := lt8 (P := fun k => 63 ∉ stretchT.getD k [] ∧ (stretchT.getD k []).length ≤ 2) (by decide) c1
  refine hQ h6 tk6 r tl tvs kk t6 t7 as _ _ ?_ ?_ ?_ hT.1 ?_ ?_ ?_ P6 i6 l6 z6 v6
  · rcases hor with ⟨_, rfl⟩ | ⟨_, rfl⟩ <;> simp
  · rcases hor with ⟨_, rfl⟩ | ⟨_, rfl⟩ <;> simp
  · rcases hor with ⟨_, rfl⟩ | ⟨_, rfl⟩ <;> (intro a ha; simp only [List.mem_cons, List.not_mem_nil, or_false] at ha; omega)
  · intro q hq
    obtain ⟨n, _, rfl⟩ := List.mem_map.mp hq
    exact ⟨piece_ok n, (row_len n).2⟩
  · simpa using hnl
  · have := head_len hT.2 (numbersOf (xs.take 3)); omega
noncomputable def IsLaw (w : World) (b : List Stmt) (env : Env) (L fa : Addr) (cd : Value) : Prop := ∀ o fd, (Mine.heap_39 w.params).lookup 151 = some o → o.data = .func fd → fd.body = .stmts b ∧ env = envOfC fd.qualname fd.scope L fa cd
structure LawFacts (as : List Nat) (tail : List Nat) (pcs : List Piece) : Prop where
  a1 : 1 ≤ as.length
  a2 : as.length ≤ 2
  a8 : ∀ a ∈ as, a < 8
  tq : 63 ∉ tail
  ok : ∀ p ∈ pcs, PieceOk p ∧ p.2.2.length ≤ 3
  pl : pcs.length ≤ 3
  hl : (headL tail pcs).length ≤ 1000
theorem LawFacts.hits {as : List Nat} {tail : List Nat} {pcs : List Piece} (f : LawFacts as tail pcs) : hitsOf (signsOf as) pcs ≤ 3 := Nat.le_trans (List.countP_le_length) f.pl
theorem law1 {w : World} {A : Around} {s : Shared} {Q : HdrQ} {p : Program} {loose : List Str} {mg mb : Str → Option Value} {b : List Stmt} {env : Env} {g : Heap} {L fa : Addr} {cd : Value} {m : Str → Option Value} {oc : Obj} {ps : Array Value}
   (B : IsLaw w b env L fa cd) (X : (Mine.heap_39 w.params).In g) (T : TopRead p loose mg mb g) (hroom : A.depth + 40 < recursionLimit) (hun : A.units + 400 < cLine) (hh : A.handled = none) (hg57 : g.get? 57 = none)
   (F : Fr g L s.heap m) (N : News g L s.heap [(L + 1, oc), (57, tabObj ps)]) {sa : Addr} {vs : List Value} {xs : List Int} (hl : g.IsList sa vs.toArray) (hi : IntsAre vs xs) (hxl : xs.length ≤ 63) (hsa : m (Str.ofString "script") = some (.ref sa)) (hL57 : @LT.lt Nat _ 57 L)
   (h : ∀ h' tk' m' tl (tvs : List Value) kk t5 t7 t8 (as : List Nat) (tail : List Nat) (pcs : List Piece), LawFacts as tail pcs → Fr g L h' m' → News g L h' [(tl, PySem.W.listOf tvs.toArray kk), (L + 1, oc), (57, tabObj ps)] → StrsAre tvs ((toldGo (signsOf as) tail [] pcs).map S) →
     m' (Str.ofString "header") = some (.str (S (headL tail pcs)) t5) → m' (Str.ofString "told") = some (.ref tl) → m' (Str.ofString "hits") = some (.int ((hitsOf (signsOf as) pcs : Nat) : Int) t7) → m' (Str.ofString "unit") = some (.str (S (pchars (unitT as))) t8) → (@Ne Nat tl 57 ∧ @Ne Nat tl (L + 1)) →
     wpAny (model PySem.Challenge.rw_ij0038_01.row.prog w) (A.deeper env) (execs (b.drop 3) env) Q (fun _ _ => False) { s with heap := h', toks := tk' }) :
  wpAny (model PySem.Challenge.rw_ij0038_01.row.prog w) (A.deeper env) (execs (b) env) Q (fun _ _ => False) s := by
  generalize hr : b.drop 3 = rest at h
  obtain ⟨hb, rfl⟩ := B _ _ (show (Mine.heap_39 w.params).lookup 151 = some _ from by k_is) rfl
  replace hb : FuncBody.stmts _ = .stmts b := hb
  injection hb with hb
  subst hb
  dsimp only [List.drop] at hr ⊢
  with_reducible refine execs_cut (fun s' => Xs8 fun h' tk' m' tl (tvs : List Value) kk t5 t6 => Xs3 fun (as : List Nat) (tail : List Nat) (pcs : List Piece) => Cj9 (s' = { s with heap := h', toks := tk' }) (LawFacts as tail pcs) (Fr g L h' m') (News g L h' [(tl, PySem.W.listOf tvs.toArray kk), (L + 1, oc), (57, tabObj ps)]) (StrsAre tvs ((toldGo (signsOf as) tail [] pcs).map S)) (m' (Str.ofString "header") = some (.str (S (headL tail pcs)) t5)) (m' (Str.ofString "told") = some (.ref tl)) (m' (Str.ofString "charset") = some (.str (S (textOf as)) t6)) (@Ne Nat tl 57 ∧ @Ne Nat tl (L + 1))) ?cut1 ?cut2
  case cut1 =>
    (with_reducible refine' Assign_Tuple ?_ ?q433 ?q434); (case q433 => rfl); (case q434 => rfl); (with_reducible refine' Call_ ?_ ?q435); (case q435 => rfl); refine' nameX_K (by k_asm) (by k_asm) (by k_asm) (by k_is) ?_ (by rfl) (by rfl) (by decide); refine' callWith_K (by k_asm) (by k_is) ?_; walk_at "d"; (with_reducible refine' spliced_more ?_ ?q436); (case q436 => rfl); refine' nameX_L (by k_asm) (by k_all) ?_ (by rfl) (by rfl) (by decide); (with_reducible refine spliced_none ?_); refine ⟨by k_in, ?_⟩
    refine' header_spec ?tX ?tT ?tr ?tu ?th ?hls hi hxl ?_
    case tX => k_in
    case tT => exact TopRead.keeps (by assumption) (Fr.keep (by k_asm))
    case tr => (simp only [Around.deeper]; omega)
    case tu => show A.units + _ + 300 < _; omega
    case th => exact hh
    case hls => exact isList_keeps (Fr.keep (by k_asm)) (by assumption)
    intro h6 tk6 r tl tvs kk t5 t6 as tail pcs a1 a2 a8 tq ok pl hlq P6 i6 l6 z6 v6
    have q57 := (N (57, tabObj ps) (by k_mem)).1
    have qL1 := (N (L + 1, oc) (by k_mem)).1
    have N6 : News g L h6 [(tl, PySem.W.listOf tvs.toArray kk), (L + 1, oc), (57, tabObj ps)] := by
      intro p hp
      rcases List.mem_cons.mp hp with rfl | hp
      · refine ⟨l6, fun e => ?_, ?_⟩
        · obtain ⟨o, _, _, e1, _⟩ := F.ns
          dsimp only at e
          rw [e] at z6
          exact absurd (z6.symm.trans e1) (by simp)
        · cases q : g.get? tl with
          | none => rfl
          | some o => exact absurd (z6.symm.trans (F.keep _ _ q)) (by simp)
      · exact ⟨P6 _ _ (N p hp).1, (N p hp).2⟩
    have n57 : @Ne Nat tl 57 := fun e => by rw [show tl = 57 from e] at z6; exact absurd (z6.symm.trans q57) (by simp)
    have nL1 : @Ne Nat tl (L + 1) := fun e => by rw [show tl = L + 1 from e] at z6; exact absurd (z6.symm.trans qL1) (by simp)
    have F6 := F.keeps P6
    clear F N
    refine' unpackN_ (by k_asm) (by k_asm) (by assumption) (by assumption) (by rfl) (by rfl) ?_; intro h9 F9 N9; walk_at "d"; refine assignInOrder_cons ?_; walk_at "d"; (with_reducible refine wpAny_assign_Name ?_); refine' storeX_L (by k_asm) (by k_asm) ?_ (by rfl) (by rfl); intro h9 F9 N9; walk_at "d"; refine assignInOrder_cons ?_; walk_at "d"; (with_reducible refine wpAny_assign_Name ?_); refine' storeX_L (by k_asm) (by k_asm) ?_ (by rfl) (by rfl); intro h9 F9 N9; walk_at "d"; refine assignInOrder_cons ?_; walk_at "d"; (with_reducible refine wpAny_assign_Name ?_); refine' storeX_L (by k_asm) (by k_asm) ?_ (by rfl) (by rfl); intro h9 F9 N9; walk_at "d"; refine assignInOrder_nil ?_
    rename Fr _ _ _ _ => Fz
    rename News _ _ _ _ => Nz
    exact ⟨rfl, _, _, _, tl, tvs, kk, t5, t6, as, tail, pcs, rfl, ⟨a1, a2, a8, tq, ok, pl, hlq⟩, Fz, Nz, v6, by with_reducible exact upd_miss (by decide) (upd_miss (by decide) upd_hit), by with_reducible exact upd_miss (by decide) upd_hit, by with_reducible exact upd_hit, n57, nL1⟩
  clear F N
  rintro s' ⟨h', tk', m', tl, tvs, kk, t5, t6, as, tail, pcs, rfl, LF, F, N, hst, m1, m2, m3, n57⟩
  have htl := hst.length
  rw [List.length_map, told_len] at htl
  have h3 := LF.hits
  have hhits : ((2 * hitsOf (signsOf as) pcs + 1 : Nat) : Int).fdiv 2 = ((hitsOf (signsOf as) pcs : Nat) : Int) := by
    have e := Int.ofNat_fdiv (2 * hitsOf (signsOf as) pcs + 1) 2
    rw [show ((2 : Nat) : Int) = 2 from rfl] at e
    rw [← e]; congr 1; omega
  generalize hHe : hitsOf (signsOf as) pcs = H at htl h3 hhits
  with_reducible refine execs_cut (fun s' => Xs4 fun h' tk' m' t7 => Cj7 (s' = { s with heap := h', toks := tk' }) (Fr g L h' m') (News g L h' [(tl, PySem.W.listOf tvs.toArray kk), (L + 1, oc), (57, tabObj ps)]) (m' (Str.ofString "header") = some (.str (S (headL tail pcs)) t5)) (m' (Str.ofString "told") = some (.ref tl)) (m' (Str.ofString "charset") = some (.str (S (textOf as)) t6)) (m' (Str.ofString "hits") = some (.int (H : Int) t7))) ?cut3 ?cut4
  case cut3 =>
    (with_reducible refine' wpAny_Assign_Name ?_ ?q437); (case q437 => rfl); (with_reducible refine wpAny_BinOp ?_); refine' pe_eval (by k_asm) (by k_asm) (by refine' PE.lenL (by refine' PE.lenB (by k_asm) (by k_asm) ⟨rfl, rfl⟩ (by k_is)) (by refine' PE.name ⟨rfl, rfl, by decide⟩ (by k_all)) (Px.lst_new (by k_mem)) (by omega) rfl) ?_; refine At.same rfl ?_; intro k9; (with_reducible (refine PV.all_i ?_; intro t9)); (with_reducible refine wpAny_Constant_int ?_); walk_at "d"; (with_reducible (refine' floordiv_int (by decide) ?_ (Or.inl (PyProof.noPylong_of_log2 (by decide +kernel))))); walk_at "d"; refine' storeX_L (by k_asm) (by k_asm) ?_ (by rfl) (by rfl); intro h9 F9 N9
    rename Fr _ _ _ _ => Fz
    rename News _ _ _ _ => Nz
    refine ⟨rfl, _, _, _, ?tq, rfl, Fz, Nz, by with_reducible exact upd_miss (by decide) (by assumption), by with_reducible exact upd_miss (by decide) (by assumption), by with_reducible exact upd_miss (by decide) (by assumption), ?_⟩
    rotate_left
    rw [← hhits, ← htl, ← List.size_toArray]
    with_reducible exact upd_hit
  clear F N
  rintro s' ⟨h', tk', m', t7, rfl, F, N, m1, m2, m3, m4⟩
  have htx := text_le LF.a8 LF.a2
  with_reducible refine execs_cut (fun s' => Xs4 fun h' tk' m' t8 => Cj7 (s' = { s with heap := h', toks := tk' }) (Fr g L h' m') (News g L h' [(tl, PySem.W.listOf tvs.toArray kk), (L + 1, oc), (57, tabObj ps)]) (m' (Str.ofString "header") = some (.str (S (headL tail pcs)) t5)) (m' (Str.ofString "told") = some (.ref tl)) (m' (Str.ofString "hits") = some (.int (H : Int) t7)) (m' (Str.ofString "unit") = some (.str (S (pchars (unitT as))) t8))) ?cut5 ?cut6
  case cut5 =>
    (with_reducible refine' wpAny_Assign_Name ?_ ?q438); (case q438 => rfl); (with_reducible refine wpAny_BinOp ?_); (with_reducible refine wpAny_BinOp ?_); (with_reducible refine Calls.Constant_str ?_); walk_at "d"; refine' nameX_L (by k_asm) (by k_all) ?_ (by rfl) (by rfl) (by decide)
    rw [show Str.ofString "*=[?]" = S [42, 61, 91, 63, 93] from rfl]
    refine add_S (by simp only [List.length_cons, List.length_nil]; omega) fun u1 k1 => ?_
    walk_at "d"; with_reducible refine Calls.Constant_str ?_
    rw [show Str.ofString "[?]q[?]*[?]=" = S [91, 63, 93, 113, 91, 63, 93, 42, 91, 63, 93, 61] from rfl]
    refine add_S (by simp only [List.length_append, List.length_cons, List.length_nil]; omega) fun u2 k2 => ?_
    rw [show 42 :: 61 :: 91 :: 63 :: 93 :: textOf as ++ [91, 63, 93, 113, 91, 63, 93, 42, 91, 63, 93, 61] = pchars (unitT as) from (unit_text as).symm]
    walk_at "d"; refine' storeX_L (by k_asm) (by k_asm) ?_ (by rfl) (by rfl); intro h9 F9 N9
    rename Fr _ _ _ _ => Fz
    rename News _ _ _ _ => Nz
    exact ⟨rfl, _, _, _, _, rfl, Fz, Nz, by with_reducible exact upd_miss (by decide) (by assumption), by with_reducible exact upd_miss (by decide) (by assumption), by with_reducible exact upd_miss (by decide) (by assumption), by with_reducible exact upd_hit⟩
  clear F N
  rintro s' ⟨h', tk', m', t8, rfl, F, N, m1, m2, m4, m5⟩
  subst hr
  rw [← hHe] at m4
  with_reducible exact h h' _ m' tl tvs kk t5 t7 t8 as tail pcs LF F N hst m1 m2 m4 m5 n57
theorem runs_small {as : List Nat} (h8 : ∀ a ∈ as, a < 8) (h2 : as.length ≤ 2) (n : Nat) : (∀ r ∈ runsN (signsOf as) n, r.length < 1000) ∧ ∀ r ∈ runsN (signsOf as) n, ∀ x ∈ r, x.2.length < 1000 := by
  have hr : ∀ r ∈ runsN (signsOf as) n, r = [] ∨ r = runA (signsOf as) ∨ r = runB := by
    intro r hr
    simp only [runsN, List.mem_cons, List.mem_append, reps, List.mem_flatten, List.mem_replicate, List.not_mem_nil, or_false] at hr
    rcases hr with rfl | ⟨l, ⟨_, rfl⟩, hr⟩ | rfl
    · exact .inl rfl
    · simp only [List.mem_cons, List.not_mem_nil, or_false] at hr; exact .inr hr
    · exact .inl rfl
  refine ⟨fun r q => ?_, fun r q x hx => ?_⟩
  · rcases hr r q with rfl | rfl | rfl <;> simp <;> omega
  · rcases hr r q with rfl | rfl | rfl
    · cases hx
    · simp only [runA, List.mem_cons, List.mem_append, List.mem_map, List.not_mem_nil, or_false] at hx
      rcases hx with rfl | rfl | ⟨a, ha, rfl⟩ | rfl | rfl | rfl
      · simp
      · simp
      · have := (pc_len (h8 a ha)).2.2; omega
      · simp
      · simp
      · simp
    · simp only [List.mem_cons, List.not_mem_nil, or_false] at hx
      rcases hx with rfl | rfl <;> simp
theorem runs_len (ps : List Sign) (n : Nat) : (runsN ps n).length = 2 * n + 2 := by
  have : (reps ps n).length = 2 * n := by
    induction n with
    | zero => rfl
    | succ n ih => rw [reps_succ, List.length_cons, List.length_cons, ih]; omega
  simp [runsN, this]
theorem unit_len {as : List Nat} (h8 : ∀ a ∈ as, a < 8) (h2 : as.length ≤ 2) : (pchars (unitT as)).length ≤ 40 := by
  have : (as.flatMap fun a => (pcTok a).chars).length ≤ 12 := text_le h8 h2
  rw [unit_text]; simp only [List.length_append, List.length_cons, List.length_nil]; omega
theorem news_of {g h h' : Heap} {L : Addr} {m : Str → Option Value} (F : Fr g L h m) {O : Led} (hO : ∀ p ∈ O, h'.get? p.1 = some p.2 ∧ h.get? p.1 = none) : News g L h' O := fun p hp => by
  obtain ⟨e1, e2⟩ := hO p hp
  refine ⟨e1, fun e => ?_, ?_⟩
  · obtain ⟨o, _, _, e3, _⟩ := F.ns
    rw [e] at e2
    exact absurd (e2.symm.trans e3) (by simp)
  · cases q : g.get? p.1 with
    | none => rfl
    | some o => exact absurd (e2.symm.trans (F.keep _ _ q)) (by simp)
theorem law2 {w : World} {A : Around} {s : Shared} {Q : HdrQ} {p : Program} {loose : List Str} {mg mb : Str → Option Value} {b : List Stmt} {env : Env} {g : Heap} {L fa : Addr} {cd : Value} {m : Str → Option Value} {oc : Obj} {ps : Array Value}
   (B : IsLaw w b env L fa cd) (X : (Mine.heap_39 w.params).In g) (T : TopRead p loose mg mb g) (hroom : A.depth + 40 < recursionLimit) (hun : A.units + 400 < cLine) (hh : A.handled = none) (hg57 : g.get? 57 = none)
   (F : Fr g L s.heap m) {tl : Addr} {tvs : List Value} {kk : Nat} (N : News g L s.heap [(tl, PySem.W.listOf tvs.toArray kk), (L + 1, oc), (57, tabObj ps)]) {c0 : Option Value} (hoc : oc.data = .cell c0) (ht : TriplesOk ps.toList) (hb : g.BuiltinsAt mg 57) (hG : AllBare s.gens) (hL57 : @LT.lt Nat _ 57 L) (n57 : @Ne Nat tl 57 ∧ @Ne Nat tl (L + 1))
   {as tail : List Nat} {pcs : List Piece} {t5 t7 t8 : Tok} (LF : LawFacts as tail pcs) (m1 : m (Str.ofString "header") = some (.str (S (headL tail pcs)) t5)) (m4 : m (Str.ofString "hits") = some (.int ((hitsOf (signsOf as) pcs : Nat) : Int) t7)) (m5 : m (Str.ofString "unit") = some (.str (S (pchars (unitT as))) t8))
   (h : ∀ (s' : Shared) sl (svs : List Value) ks oc' (ps' : Array Value), Fr g L s'.heap m → News g L s'.heap [(sl, PySem.W.listOf svs.toArray ks), (tl, PySem.W.listOf tvs.toArray kk), (L + 1, oc'), (57, tabObj ps')] → oc'.data = .cell (some (.ref sl)) → StrsAre svs ((rawGo (signsOf as) tail [] pcs).map S) → TriplesOk ps'.toList → AllBare s'.gens → s'.os = s.os → (@Ne Nat sl 57 ∧ @Ne Nat sl (L + 1)) →
     wpAny (model PySem.Challenge.rw_ij0038_01.row.prog w) (A.deeper env) (execs (b.drop 4) env) Q (fun _ _ => False) s') :
  wpAny (model PySem.Challenge.rw_ij0038_01.row.prog w) (A.deeper env) (execs (b.drop 3) env) Q (fun _ _ => False) s := by
  generalize hr : b.drop 4 = rest at h
  obtain ⟨hb, rfl⟩ := B _ _ (show (Mine.heap_39 w.params).lookup 151 = some _ from by k_is) rfl
  replace hb : FuncBody.stmts _ = .stmts b := hb
  injection hb with hb
  subst hb
  dsimp only [List.drop] at hr ⊢
  have hH := LF.hits
  have hul := unit_len LF.a8 LF.a2
  have hsh := (shares_hit (ps := signsOf as) (by rw [List.length_map]; exact ⟨LF.a1, LF.a2⟩) LF.tq (fun p hp => (LF.ok p hp).1)).1
  generalize hHe : hitsOf (signsOf as) pcs = H at m4 hH hsh
  have hpl := pat_len LF.a8 LF.a2 H
  have hrl := reg_len LF.a8 LF.a2 H
  have hil := items_len LF.a2 H
  have htl := text_len LF.a8 LF.a2 H
  have hns : (S (headL tail pcs)).length ≤ 1000 := by rw [S_len]; exact LF.hl
  (with_reducible refine execs_k ?_); (with_reducible refine' wpAny_Assign_Name ?_ ?q439); (case q439 => rfl); (with_reducible refine' Call_ ?_ ?q440); (case q440 => rfl); refine' nameX_K (by k_asm) (by k_asm) (by k_asm) (by k_is) ?_ (by rfl) (by rfl) (by decide); refine' callWith_K (by k_asm) (by k_is) ?_; walk_at "d"; (with_reducible refine' spliced_more ?_ ?q441); (case q441 => rfl); (with_reducible refine' Call_ ?_ ?q442); (case q442 => rfl); refine' nameX_K (by k_asm) (by k_asm) (by k_asm) (by k_is) ?_ (by rfl) (by rfl) (by decide); refine' callWith_K (by k_asm) (by k_is) ?_; walk_at "d"; (with_reducible refine' spliced_more ?_ ?q443); (case q443 => rfl); (with_reducible refine' Call_ ?_ ?q444); (case q444 => rfl); refine' nameX_K (by k_asm) (by k_asm) (by k_asm) (by k_is) ?_ (by rfl) (by rfl) (by decide); refine' callWith_K (by k_asm) (by k_is) ?_; walk_at "d"; (with_reducible refine' spliced_more ?_ ?q445); (case q445 => rfl); (with_reducible refine wpAny_BinOp ?_); (with_reducible refine wpAny_BinOp ?_); refine' nameX_L (by k_asm) (by k_all) ?_ (by rfl) (by rfl) (by decide); refine' nameX_L (by k_asm) (by k_all) ?_ (by rfl) (by rfl) (by decide)
  refine mul_P (by omega) (by omega) fun u1 k1 => ?_
  with_reducible refine Calls.Constant_str ?_
  refine add_S (b := [42]) (by rw [List.length_flatten, List.map_replicate, List.sum_replicate_nat]; have : H * (pchars (unitT as)).length ≤ 4 * 40 := Nat.mul_le_mul (by omega) hul; simp; omega) fun u2 k2 => ?_
  rw [← pat_text]
  walk_at "d"; (with_reducible refine spliced_none ?_); walk_at "d"; refine ⟨by k_in, ?_⟩
  refine' translate_spec ?tX ?tT ?tr ?tu ?th ?tb ?tab ?tG (patT as (H)) (pat_ok LF.a8 _) (by omega) (pat_items LF.a8 _) blks_ne (by omega) (by omega) ?_
  case tX => k_in
  case tT => exact TopRead.keeps (by assumption) (Fr.keep (by k_asm))
  case tr => (simp only [Around.deeper]; omega)
  case tu => show A.units + _ + 210 < _; omega
  case th => exact hh
  case tb => exact hb.keeps (Fr.keep (by k_asm))
  case tab => exact ⟨_, News.get (by k_asm) (show ((57 : Addr), tabObj ps) ∈ _ by k_mem), ht⟩
  case tG => exact hG
  intro s' t' hk hT' hG' hos
  have Fs := under_but F hk hg57 (Nat.ne_of_gt hL57)
  obtain ⟨ps1, hP1, htr1⟩ := hT'
  have q1 := N (tl, PySem.W.listOf tvs.toArray kk) (by k_mem)
  have q2 := N (L + 1, oc) (by k_mem)
  have q3 := N (57, tabObj ps) (by k_mem)
  have Ns : News g L s'.heap [(tl, PySem.W.listOf tvs.toArray kk), (L + 1, oc), (57, tabObj ps1)] := by
    intro p hp
    simp only [List.mem_cons, List.not_mem_nil, or_false] at hp
    rcases hp with rfl | rfl | rfl
    · exact ⟨hk _ _ n57.1 q1.1, q1.2⟩
    · exact ⟨hk _ _ (by show @Ne Nat (L + 1) 57; omega) q2.1, q2.2⟩
    · exact ⟨hP1, q3.2⟩
  clear F N
  obtain ⟨hp', gs', dr', tk', os'⟩ := s'
  dsimp only at hk hG' hos Fs Ns hP1
  rw [join_reg]
  walk_at "d"; (with_reducible refine spliced_none ?_); walk_at "d"; refine ⟨by k_in, ?_⟩
  refine' read_spec ?tX2 ?tT2 ?tr2 ?tu2 ?th2 (regT as H) (reg_ok LF.a8 H).1 (by omega) ?_
  case tX2 => k_in
  case tT2 => exact TopRead.keeps (by assumption) (Fr.keep (by k_asm))
  case tr2 => (simp only [Around.deeper]; omega)
  case tu2 => show A.units + _ + 200 < _; omega
  case th2 => exact hh
  intro h2 tk2 ra O P2 hO hR
  rw [read_runs] at hR
  have NO := news_of Fs hO
  have RR := ORuns.rep NO hR
  have F2 := Fs.keeps P2
  have N2 : News g L h2 [(tl, PySem.W.listOf tvs.toArray kk), (L + 1, oc), (57, tabObj ps1)] := fun p hp => ⟨P2 _ _ (Ns p hp).1, (Ns p hp).2⟩
  clear Fs Ns NO
  walk_at "d"; (with_reducible refine' spliced_more ?_ ?q446); (case q446 => rfl); refine' nameX_L (by k_asm) (by k_all) ?_ (by rfl) (by rfl) (by decide); (with_reducible refine spliced_none ?_); walk_at "d"; refine ⟨by k_in, ?_⟩
  have hrs := runs_small LF.a8 LF.a2 H
  refine' shares_spec ?tX3 ?tT3 ?tr3 ?tu3 ?th3 RR (by rw [runs_len]; omega) hrs.1 hrs.2 (S (headL tail pcs)) _ (by omega) ?hn ?hs
  case tX3 => k_in
  case tT3 => exact TopRead.keeps (by assumption) (Fr.keep (by k_asm))
  case tr3 => (simp only [Around.deeper]; omega)
  case tu3 => show A.units + _ + 200 < _; omega
  case th3 => exact hh
  case hn => intro e; rw [hsh] at e; cases e
  intro shs e h3 tk3 sl svs ks P3 e3 z3 v3
  rw [hsh] at e
  cases e
  have q4 := N2 (57, tabObj ps1) (by k_mem)
  have q5 := N2 (L + 1, oc) (by k_mem)
  have NS := news_of F2 (O := [(sl, PySem.W.listOf svs.toArray ks)]) (h' := h3) (by intro p hp; rw [List.mem_singleton.mp hp]; exact ⟨e3, z3⟩)
  have s57 : @Ne Nat sl 57 := fun e => by rw [show sl = 57 from e] at z3; exact absurd (z3.symm.trans q4.1) (by simp)
  have sL1 : @Ne Nat sl (L + 1) := fun e => by rw [show sl = L + 1 from e] at z3; exact absurd (z3.symm.trans q5.1) (by simp)
  have N3 : News g L h3 [(sl, PySem.W.listOf svs.toArray ks), (tl, PySem.W.listOf tvs.toArray kk), (L + 1, oc), (57, tabObj ps1)] := by
    intro p hp
    rcases List.mem_cons.mp hp with rfl | hp
    · exact NS _ (.head _)
    · exact ⟨P3 _ _ (N2 p hp).1, (N2 p hp).2⟩
  have F3 := F2.keeps P3
  clear F2 N2 NS
  obtain ⟨nt1, nt2⟩ := n57
  refine' storeX_C F3 N3 ?kc ?kU ?kd ?_ ?ka ?kb
  case ka => rfl
  case kb => rfl
  case kc => rfl
  case kU => k_updF
  case kd => exact hoc
  intro h4 o4 F4 N4 d4
  try dsimp only at N4
  subst hr
  show Kx _ _ _ _ _ _ _ _
  with_reducible exact Kx_next (h ⟨h4, gs', dr', _, os'⟩ sl svs ks o4 ps1 F4 N4 d4 v3 htr1 hG' hos ⟨s57, sL1⟩)
theorem law3 {w : World} {A : Around} {s : Shared} {Q : HdrQ} {p : Program} {loose : List Str} {mg mb : Str → Option Value} {b : List Stmt} {env : Env} {g : Heap} {L fa : Addr} {cd : Value} {m : Str → Option Value} {oc : Obj} {ps : Array Value}
   (B : IsLaw w b env L fa cd) (X : (Mine.heap_39 w.params).In g) (T : TopRead p loose mg mb g) (hroom : A.depth + 40 < recursionLimit) (hun : A.units + 400 < cLine) (hh : A.handled = none) (hg57 : g.get? 57 = none)
   (F : Fr g L s.heap m) {sl tl : Addr} {svs tvs : List Value} {ks kk : Nat} (N : News g L s.heap [(sl, PySem.W.listOf svs.toArray ks), (tl, PySem.W.listOf tvs.toArray kk), (L + 1, oc), (57, tabObj ps)]) (ht : TriplesOk ps.toList) (hb : g.BuiltinsAt mg 57) (hG : AllBare s.gens) (hL57 : @LT.lt Nat _ 57 L) (n57 : @Ne Nat tl 57 ∧ @Ne Nat tl (L + 1)) (s57 : @Ne Nat sl 57 ∧ @Ne Nat sl (L + 1))
   {as tail : List Nat} {pcs : List Piece} {t7 t8 : Tok} (LF : LawFacts as tail pcs) (m4 : m (Str.ofString "hits") = some (.int ((hitsOf (signsOf as) pcs : Nat) : Int) t7)) (m5 : m (Str.ofString "unit") = some (.str (S (pchars (unitT as))) t8))
   (h : ∀ (s' : Shared) m' ra (O : Led) (ps' : Array Value), Fr g L s'.heap m' → News g L s'.heap ((sl, PySem.W.listOf svs.toArray ks) :: (tl, PySem.W.listOf tvs.toArray kk) :: (L + 1, oc) :: (57, tabObj ps') :: O) → ORuns O (.ref ra) (runsN (signsOf as) (hitsOf (signsOf as) pcs + 1)) → TriplesOk ps'.toList → AllBare s'.gens → s'.os = s.os → m' (Str.ofString "more") = some (.ref ra) → (∀ z, z ≠ Str.ofString "more" → m' z = m z) →
     wpAny (model PySem.Challenge.rw_ij0038_01.row.prog w) (A.deeper env) (execs (b.drop 5) env) Q (fun _ _ => False) s') :
  wpAny (model PySem.Challenge.rw_ij0038_01.row.prog w) (A.deeper env) (execs (b.drop 4) env) Q (fun _ _ => False) s := by
  generalize hr : b.drop 5 = rest at h
  obtain ⟨hb, rfl⟩ := B _ _ (show (Mine.heap_39 w.params).lookup 151 = some _ from by k_is) rfl
  replace hb : FuncBody.stmts _ = .stmts b := hb
  injection hb with hb
  subst hb
  dsimp only [List.drop] at hr ⊢
  have hH := LF.hits
  have hul := unit_len LF.a8 LF.a2
  generalize hHe : hitsOf (signsOf as) pcs = H at m4 hH
  have hpl := pat_len LF.a8 LF.a2 (H + 1)
  have hrl := reg_len LF.a8 LF.a2 (H + 1)
  have hil := items_len LF.a2 (H + 1)
  have htl := text_len LF.a8 LF.a2 (H + 1)
  (with_reducible refine execs_k ?_); (with_reducible refine' wpAny_Assign_Name ?_ ?q447); (case q447 => rfl); (with_reducible refine' Call_ ?_ ?q448); (case q448 => rfl); refine' nameX_K (by k_asm) (by k_asm) (by k_asm) (by k_is) ?_ (by rfl) (by rfl) (by decide); refine' callWith_K (by k_asm) (by k_is) ?_; walk_at "d"; (with_reducible refine' spliced_more ?_ ?q449); (case q449 => rfl); (with_reducible refine' Call_ ?_ ?q450); (case q450 => rfl); refine' nameX_K (by k_asm) (by k_asm) (by k_asm) (by k_is) ?_ (by rfl) (by rfl) (by decide); refine' callWith_K (by k_asm) (by k_is) ?_; walk_at "d"; (with_reducible refine' spliced_more ?_ ?q451); (case q451 => rfl); (with_reducible refine wpAny_BinOp ?_); (with_reducible refine wpAny_BinOp ?_); refine' nameX_L (by k_asm) (by k_all) ?_ (by rfl) (by rfl) (by decide); refine' pe_eval (by k_asm) (by k_asm) (by refine' PE.add (by refine' PE.nameI ⟨rfl, rfl, by decide⟩ (by k_all)) (PE.int)) ?_; refine At.same rfl ?_; intro k9; with_reducible (refine PV.all_i ?_; intro t9)
  rw [show (H : Int) + 1 = ((H + 1 : Nat) : Int) from rfl]
  refine mul_P (by omega) (by omega) fun u1 k1 => ?_
  walk_at "d"; with_reducible refine Calls.Constant_str ?_
  refine add_S (b := [42]) (by rw [List.length_flatten, List.map_replicate, List.sum_replicate_nat]; have : (H + 1) * (pchars (unitT as)).length ≤ 4 * 40 := Nat.mul_le_mul (by omega) hul; simp; omega) fun u2 k2 => ?_
  rw [← pat_text]
  walk_at "d"; (with_reducible refine spliced_none ?_); walk_at "d"; refine ⟨by k_in, ?_⟩
  refine' translate_spec ?tX ?tT ?tr ?tu ?th ?tb ?tab ?tG (patT as (H + 1)) (pat_ok LF.a8 _) (by omega) (pat_items LF.a8 _) blks_ne (by omega) (by omega) ?_
  case tX => k_in
  case tT => exact TopRead.keeps (by assumption) (Fr.keep (by k_asm))
  case tr => (simp only [Around.deeper]; omega)
  case tu => show A.units + _ + 210 < _; omega
  case th => exact hh
  case tb => exact hb.keeps (Fr.keep (by k_asm))
  case tab => exact ⟨_, News.get (by k_asm) (show ((57 : Addr), tabObj ps) ∈ _ by k_mem), ht⟩
  case tG => exact hG
  intro s' t' hk hT' hG' hos
  have Fs := under_but F hk hg57 (Nat.ne_of_gt hL57)
  obtain ⟨ps1, hP1, htr1⟩ := hT'
  have q0 := N (sl, PySem.W.listOf svs.toArray ks) (by k_mem)
  have q1 := N (tl, PySem.W.listOf tvs.toArray kk) (by k_mem)
  have q2 := N (L + 1, oc) (by k_mem)
  have q3 := N (57, tabObj ps) (by k_mem)
  have Ns : News g L s'.heap [(sl, PySem.W.listOf svs.toArray ks), (tl, PySem.W.listOf tvs.toArray kk), (L + 1, oc), (57, tabObj ps1)] := by
    intro p hp
    simp only [List.mem_cons, List.not_mem_nil, or_false] at hp
    rcases hp with rfl | rfl | rfl | rfl
    · exact ⟨hk _ _ s57.1 q0.1, q0.2⟩
    · exact ⟨hk _ _ n57.1 q1.1, q1.2⟩
    · exact ⟨hk _ _ (by show @Ne Nat (L + 1) 57; omega) q2.1, q2.2⟩
    · exact ⟨hP1, q3.2⟩
  clear F N
  obtain ⟨hp', gs', dr', tk', os'⟩ := s'
  dsimp only at hk hG' hos Fs Ns hP1
  rw [join_reg]
  walk_at "d"; (with_reducible refine spliced_none ?_); walk_at "d"; refine ⟨by k_in, ?_⟩
  refine' read_spec ?tX2 ?tT2 ?tr2 ?tu2 ?th2 (regT as (H + 1)) (reg_ok LF.a8 (H + 1)).1 (by omega) ?_
  case tX2 => k_in
  case tT2 => exact TopRead.keeps (by assumption) (Fr.keep (by k_asm))
  case tr2 => (simp only [Around.deeper]; omega)
  case tu2 => show A.units + _ + 200 < _; omega
  case th2 => exact hh
  intro h2 tk2 ra O P2 hO hR
  rw [read_runs] at hR
  have NO := news_of Fs hO
  have F2 := Fs.keeps P2
  have N2 : News g L h2 ((sl, PySem.W.listOf svs.toArray ks) :: (tl, PySem.W.listOf tvs.toArray kk) :: (L + 1, oc) :: (57, tabObj ps1) :: O) := by
    intro p hp
    have hp' : p ∈ [(sl, PySem.W.listOf svs.toArray ks), (tl, PySem.W.listOf tvs.toArray kk), (L + 1, oc), (57, tabObj ps1)] ++ O := hp
    rcases List.mem_append.mp hp' with hp | hp
    · exact ⟨P2 _ _ (Ns p hp).1, (Ns p hp).2⟩
    · exact NO p hp
  clear Fs Ns NO
  refine' storeX_L F2 N2 ?_ ?ka ?kb
  case ka => rfl
  case kb => rfl
  intro h4 F4 N4
  subst hr
  rw [hHe] at h
  show Kx _ _ _ _ _ _ _ _
  with_reducible exact Kx_next (h ⟨h4, gs', dr', _, os'⟩ _ ra O ps1 F4 N4 hR htr1 hG' hos (if_pos rfl) (fun z hz => if_neg hz))
theorem law4 {w : World} {A : Around} {s : Shared} {Q : HdrQ} {p : Program} {loose : List Str} {mg mb : Str → Option Value} {b : List Stmt} {env : Env} {g : Heap} {L fa : Addr} {cd : Value} {m : Str → Option Value} {oc : Obj} {ps : Array Value}
   (B : IsLaw w b env L fa cd) (X : (Mine.heap_39 w.params).In g) (T : TopRead p loose mg mb g) (hroom : A.depth + 40 < recursionLimit) (hun : A.units + 400 < cLine) (hh : A.handled = none) (hg57 : g.get? 57 = none)
   (F : Fr g L s.heap m) {sl tl ra : Addr} {svs tvs : List Value} {ks kk : Nat} {O : Led} (N : News g L s.heap ((sl, PySem.W.listOf svs.toArray ks) :: (tl, PySem.W.listOf tvs.toArray kk) :: (L + 1, oc) :: (57, tabObj ps) :: O)) (hoc : oc.data = .cell (some (.ref sl)))
   {as tail : List Nat} {pcs : List Piece} {t5 : Tok} (LF : LawFacts as tail pcs) (hR : ORuns O (.ref ra) (runsN (signsOf as) (hitsOf (signsOf as) pcs + 1))) (hsv : StrsAre svs ((rawGo (signsOf as) tail [] pcs).map S)) (htv : StrsAre tvs ((toldGo (signsOf as) tail [] pcs).map S))
   (m1 : m (Str.ofString "header") = some (.str (S (headL tail pcs)) t5)) (m2 : m (Str.ofString "told") = some (.ref tl)) (m3 : m (Str.ofString "more") = some (.ref ra))
   (h : ∀ h' tk' m', Fr g L h' m' → News g L h' [(57, tabObj ps)] → Q (.ret (.bool true)) { s with heap := h', toks := tk' }) :
  wpAny (model PySem.Challenge.rw_ij0038_01.row.prog w) (A.deeper env) (execs (b.drop 5) env) Q (fun _ _ => False) s := by
  obtain ⟨hb, rfl⟩ := B _ _ (show (Mine.heap_39 w.params).lookup 151 = some _ from by k_is) rfl
  replace hb : FuncBody.stmts _ = .stmts b := hb
  injection hb with hb
  subst hb
  dsimp only [List.drop]
  have hH := LF.hits
  have hsh := (shares_hit (ps := signsOf as) (by rw [List.length_map]; exact ⟨LF.a1, LF.a2⟩) LF.tq (fun p hp => (LF.ok p hp).1)).2
  have hrt := raw_told (signsOf as) tail pcs []
  have hrl := raw_len (signsOf as) tail pcs []
  have htl := told_len (signsOf as) tail pcs []
  generalize rawGo (signsOf as) tail [] pcs = raw at hsv hrt hrl
  generalize toldGo (signsOf as) tail [] pcs = told at htv hrt htl
  generalize hHe : hitsOf (signsOf as) pcs = H at hR hH hsh hrl htl
  have hns : (S (headL tail pcs)).length ≤ 1000 := by rw [S_len]; exact LF.hl
  (with_reducible refine execs_k ?_); (with_reducible refine wpAny_If ?_); (with_reducible refine isTrue_or ?_); (with_reducible refine' wpAny_isTrue_Compare1 ?_ (by with_unfolding_all rfl)); refine' nameX_C (by k_asm) (by rfl) (by k_mem) (by k_asm) ?_ (by rfl) (by rfl) (by decide); with_reducible refine wpAny_Constant_none ?_
  refine wpAny_is_other rfl (fun e => nomatch e) ?_
  (with_reducible refine wpAny_truthy_bool ?_); (with_reducible refine ite_f ?_); (with_reducible refine isTrue_or ?_); (with_reducible refine' wpAny_isTrue_Compare1 ?_ (by with_unfolding_all rfl)); refine' nameX_L (by k_asm) (by k_all) ?_ (by rfl) (by rfl) (by decide); refine PyProof.Rows.List_ ?_; (with_reducible refine spliced_none ?_); refine' newList_P (by k_asm) (by k_asm) ?_ (Nat.le_of_ble_eq_true rfl); intro l9 h9 F9 N9 m9; replace m9 := allLt_of m9; simp only [AllLt, and_true] at m9
  have hR0 := hR
  obtain ⟨_, rvs, er, ⟨kr, hmem⟩, hro⟩ := hR0
  cases er
  have hrvl := hro.len
  rw [runs_len] at hrvl
  rename News _ _ _ _ => Nx
  refine eq_nilK (vs := rvs) (News.isList Nx (.tail _ (.tail _ (.tail _ (.tail _ (.tail _ hmem)))))) (by exact News.isList (by k_asm) (by k_mem)) (by simp only [Around.deeper]; omega) ?_
  have hne : rvs.isEmpty = false := by cases rvs with | nil => simp at hrvl | cons _ _ => rfl
  rw [hne]
  (with_reducible refine wpAny_truthy_bool ?_); (with_reducible refine ite_f ?_); (with_reducible refine isTrue_or ?_); (with_reducible refine' wpAny_isTrue_Compare1 ?_ (by with_unfolding_all rfl)); (with_reducible refine' Call_ ?_ ?q452); (case q452 => rfl); refine' nameX_K (by k_asm) (by k_asm) (by k_asm) (by k_is) ?_ (by rfl) (by rfl) (by decide); refine' callWith_K (by k_asm) (by k_is) ?_; walk_at "d"; (with_reducible refine' spliced_more ?_ ?q453); (case q453 => rfl); refine' nameX_L (by k_asm) (by k_all) ?_ (by rfl) (by rfl) (by decide); (with_reducible refine' spliced_more ?_ ?q454); (case q454 => rfl); refine' nameX_L (by k_asm) (by k_all) ?_ (by rfl) (by rfl) (by decide); (with_reducible refine spliced_none ?_); walk_at "d"; refine ⟨by k_in, ?_⟩
  have hrs := runs_small LF.a8 LF.a2 (H + 1)
  refine' shares_spec ?tX3 ?tT3 ?tr3 ?tu3 ?th3 (ORuns.rep (News.sub Nx fun p hp => .tail _ (.tail _ (.tail _ (.tail _ (.tail _ hp))))) hR) (by rw [runs_len]; omega) hrs.1 hrs.2 (S (headL tail pcs)) _ (by omega) ?hn ?hs
  case tX3 => k_in
  case tT3 => exact TopRead.keeps (by assumption) (Fr.keep (by k_asm))
  case tr3 => (simp only [Around.deeper]; omega)
  case tu3 => show A.units + _ + 200 < _; omega
  case th3 => exact hh
  case hs => intro shs e; rw [hsh] at e; cases e
  intro _ h3 tk3 P3
  (rename Pres _ _ => Pa; rename Fr _ _ _ _ => Fa; rename News _ _ _ _ => Na; have F₂ := Fa.keeps Pa; have N₂ := Na.grown Pa; clear Pa Fa Na)
  walk_at "d"; with_reducible refine wpAny_Constant_none ?_
  refine wpAny_isNot_self (a := .none) rfl ?_
  (with_reducible refine wpAny_truthy_bool ?_); (with_reducible refine ite_f ?_); (with_reducible refine isTrue_or_nil ?_); (with_reducible refine ite_f ?_); (with_reducible refine wpAny_execs_nil ?_); (with_reducible refine Kx_next ?_); (with_reducible refine execs_1 ?_); (with_reducible refine wpAny_Return_some ?_); with_reducible refine' wpAny_Compare1 ?_ (by with_unfolding_all rfl)
  refine' lc_node ?hclos ?hkind ?hnames ?hs2 ?_
  case hclos => with_unfolding_all rfl
  case hkind => rfl
  case hnames => decide
  case hs2 => intro _; rfl
  have hsl := hsv.length
  rw [List.length_map, hrl] at hsl
  (with_reducible refine' Call_ ?_ ?q455); (case q455 => rfl); refine' nameX_B (by k_asm) (by k_asm) (by k_asm) (by k_is) (by boot_fast) (by decide) ?_ (by rfl) (by rfl) (by decide); (with_reducible refine' callWith_type1 ?_ ?q456 ?q457); (case q456 => rfl); (case q457 => rfl); (with_reducible refine' spliced_more ?_ ?q458); (case q458 => rfl); (with_reducible refine' Call_ ?_ ?q459); (case q459 => rfl); refine' nameX_B (by k_asm) (by k_asm) (by k_asm) (by k_is) (by boot_fast) (by decide) ?_ (by rfl) (by rfl) (by decide); (with_reducible refine' PyProof.Rows.callWith_builtin1 ?_ ?q460 ?q461); (case q460 => rfl); (case q461 => rfl); (with_reducible refine' spliced_more ?_ ?q462); (case q462 => rfl); refine' nameX_C (by k_asm) (by rfl) (by k_mem) (by k_asm) ?_ (by rfl) (by rfl) (by decide); (with_reducible refine spliced_none ?_); refine' len_here (News.isList (by k_asm) (by k_mem)) (by simp only [List.size_toArray, List.length_append, List.length_cons, List.length_nil]; omega) ?_; walk_at "d"; with_reducible refine spliced_none ?_
  rename Fr _ _ _ _ => Fx
  rename News _ _ _ _ => Nx
  refine' lc_rangeN hh ?hn2 ?c2 ?k2 Fx Nx (fun i ys led => led = [] ∧ ys.length ≤ i ∧ StrsAre ys ((told.take i).map S)) ?h02 ?hJ2 ?turn2 ?done2
  case hn2 => (try simp only [List.size_toArray]); omega
  case c2 => decide
  case k2 => rfl
  case h02 => exact ⟨rfl, Nat.le_refl _, .nil⟩
  case hJ2 => exact fun _ _ _ h => h.2.1
  case turn2 =>
    intro I0 hB0 hkB i' v' ys' led' C own hC mC tkC hi' hv' hJ' hsep' hown' F N
    obtain ⟨rfl, hyl, hns'⟩ := hJ'
    obtain ⟨t', rfl⟩ := hv'
    obtain ⟨oI', nm, hoI, hcI, hnI⟩ := hown'
    (try simp only [List.size_toArray] at hi')
    have hk1 := hkB _ _ (Nx (L + 1, oc) (by k_mem)).1
    have hla : hB0.IsList sl svs.toArray := isList_keeps hkB (News.isList Nx (by k_mem))
    have X9 : (Mine.heap_39 w.params).In hB0 := X.keeps fun b o e => hkB b o (Fx.keep b o e)
    have T9 : TopRead p loose mg mb hB0 := T.keeps fun b o e => hkB b o (Fx.keep b o e)
    have hri : i' < raw.length := by omega
    have hti : i' < told.length := by omega
    have hrx := hrt i' raw[i'] (List.getElem?_eq_getElem hri)
    obtain ⟨tx, hsx⟩ := hsv.get i' (S raw[i']) (by rw [List.getElem?_map, List.getElem?_eq_getElem hri]; rfl)
    have htk : told.take (i' + 1) = told.take i' ++ [told[i']] := by rw [List.take_add_one, List.getElem?_eq_getElem hti]; rfl
    have hmod : ((i' : Nat) : Int).fmod 2 = ((i' % 2 : Nat) : Int) := mod_nat i' 2
    refine letOwned_skip (N _ (List.mem_append_left _ hoI)).1 hcI hnI ?_
    walk_at "d"; (with_reducible refine wpAny_assign_Name ?_); refine' storeC_L (by k_asm) (by k_asm) ?_ (by rfl) (by rfl); intro h9 F9 N9
    refine wpAny_tests_nil ?_
    walk_at "d"; (with_reducible refine ite_t ?_); (with_reducible refine wpAny_IfExp ?_); (with_reducible refine' wpAny_isTrue_Compare1 ?_ (by with_unfolding_all rfl)); (with_reducible refine wpAny_BinOp ?_); refine' nameC_L (by k_asm) (by with_reducible exact upd_hit) ?_ (by rfl) (by rfl) (by decide); (with_reducible refine wpAny_Constant_int ?_); walk_at "d"; (with_reducible (refine' mod_int' (by decide) ?_)); walk_at "d"; (with_reducible refine wpAny_Constant_int ?_); walk_at "d"; (with_reducible refine eq_int ?_); with_reducible refine wpAny_truthy_bool ?_
    refine ite_b (fun he => ?_) (fun he => ?_)
    · have hodd : i' % 2 = 1 := by rw [hmod] at he; have := eq_of_beq he; omega
      rw [if_pos hodd] at hrx
      obtain ⟨q, hq, e1, e2⟩ := hrx
      rw [List.getElem?_eq_getElem hti] at e2
      rw [Option.some.inj e2] at htk
      rw [e1] at hsx
      (with_reducible refine' Call_ ?_ ?q463); (case q463 => rfl); refine' nameC_K (by k_asm) (by k_asm) (by k_asm) (by rfl) (by k_is) ?_ (by rfl) (by rfl) (by decide); refine' callWith_K (by k_asm) (by k_is) ?_; walk_at "d"; (with_reducible refine' spliced_more ?_ ?q464); (case q464 => rfl); (with_reducible refine Subscript_ ?_); refine' nameC_C (by k_asm) (by rfl) (by assumption) (by assumption) ?_ (by rfl) (by rfl) (by decide); refine' nameC_L (by k_asm) (by with_reducible exact upd_hit) ?_ (by rfl) (by rfl) (by decide); refine' item_list (isList_keeps (Fr.keep (by k_asm)) (by assumption)) (by assumption) (by rfl) (by omega) ?_ (by with_unfolding_all rfl); (with_reducible refine spliced_none ?_); walk_at "d"; refine ⟨by k_in, ?_⟩
      refine' hdec_spec ?tX4 ?tT4 ?tr4 ?th4 (fun c hc => ?hrow) (LF.ok q hq).2 ?_
      case tX4 => k_in
      case tT4 => exact TopRead.keeps (by assumption) (Fr.keep (by k_asm))
      case tr4 => (simp only [Around.deeper]; omega)
      case th4 => exact hh
      case hrow => exact (LF.ok q hq).1.row c hc
      intro h5 tk5 t6 P5
      (rename Pres _ _ => Pa; rename Fr _ _ _ _ => Fa; rename News _ _ _ _ => Na; have F₂ := Fa.keeps Pa; have N₂ := Na.grown Pa; clear Pa Fa Na)
      refine ⟨_, _, _, [], _, rfl, by assumption, by assumption, fun p hp => List.mem_append_left _ hp, fun p hp => absurd hp (by simp), fun p hp => absurd hp (by simp), rfl, ?_, ?_⟩
      · simp; omega
      · rw [htk, List.map_append]; exact strs_add hns' (.cons _ _ .nil)
    · have hev : ¬ i' % 2 = 1 := by rw [hmod] at he; intro e; rw [e] at he; exact absurd he (by decide)
      rw [if_neg hev, List.getElem?_eq_getElem hti] at hrx
      rw [Option.some.inj hrx] at htk
      (with_reducible refine Subscript_ ?_); refine' nameC_C (by k_asm) (by rfl) (by assumption) (by assumption) ?_ (by rfl) (by rfl) (by decide); refine' nameC_L (by k_asm) (by with_reducible exact upd_hit) ?_ (by rfl) (by rfl) (by decide); refine' item_list (isList_keeps (Fr.keep (by k_asm)) (by assumption)) (by assumption) (by rfl) (by omega) ?_ (by with_unfolding_all rfl)
      refine ⟨_, _, _, [], _, rfl, by assumption, by assumption, fun p hp => List.mem_append_left _ hp, fun p hp => absurd hp (by simp), fun p hp => absurd hp (by simp), rfl, ?_, ?_⟩
      · simp; omega
      · rw [htk, List.map_append]; exact strs_add hns' (.cons _ _ .nil)
  case done2 =>
    rintro D2 ys2 led2 h' tk₂ k ⟨rfl, _, hns'⟩ F N hld hND
    clear Fx Nx
    replace hND := allLt_of hND; simp only [AllLt, and_true] at hND
    rw [List.size_toArray, hsl, List.take_of_length_le (by omega)] at hns'
    walk_at "d"; refine' nameX_L (by k_asm) (by k_all) ?_ (by rfl) (by rfl) (by decide)
    refine eq_strs_same (by exact News.isList (by k_asm) (by k_mem)) hns' (by exact News.isList (by k_asm) (by k_mem)) htv (by simp only [Around.deeper]; omega) ?_
    skip
    rename Fr _ _ _ _ => Fz
    rename News _ _ _ _ => Nz
    exact h _ _ _ Fz (News.sub Nz (by intro p hp; rw [List.mem_singleton.mp hp]; k_mem))
theorem law_all {w : World} {A : Around} {s : Shared} {Q : HdrQ} {p : Program} {loose : List Str} {mg mb : Str → Option Value} {b : List Stmt} {env : Env} {g : Heap} {L fa : Addr} {cd : Value} {m : Str → Option Value} {oc : Obj} {ps : Array Value}
   (B : IsLaw w b env L fa cd) (X : (Mine.heap_39 w.params).In g) (T : TopRead p loose mg mb g) (hroom : A.depth + 40 < recursionLimit) (hun : A.units + 400 < cLine) (hh : A.handled = none) (hg57 : g.get? 57 = none)
   (F : Fr g L s.heap m) (N : News g L s.heap [(L + 1, oc), (57, tabObj ps)]) {sa : Addr} {vs : List Value} {xs : List Int} (hl : g.IsList sa vs.toArray) (hi : IntsAre vs xs) (hxl : xs.length ≤ 63) (hsa : m (Str.ofString "script") = some (.ref sa)) (hL57 : @LT.lt Nat _ 57 L)
   {c0 : Option Value} (hoc : oc.data = .cell c0) (ht : TriplesOk ps.toList) (hb : g.BuiltinsAt mg 57) (hG : AllBare s.gens)
   (h : ∀ (s' : Shared) m' (ps' : Array Value), Fr g L s'.heap m' → News g L s'.heap [(57, tabObj ps')] → AllBare s'.gens → s'.os = s.os → Q (.ret (.bool true)) s') :
  wpAny (model PySem.Challenge.rw_ij0038_01.row.prog w) (A.deeper env) (execs (b) env) Q (fun _ _ => False) s := by
  with_reducible refine law1 B X T hroom hun hh hg57 F N hl hi hxl hsa hL57 ?_
  intro h1 k1 m1 tl tvs kk t5 t7 t8 as tail pcs LF F1 N1 v1 e1 e2 e3 e4 n57
  with_reducible refine law2 B X T hroom hun hh hg57 F1 N1 hoc ht hb hG hL57 n57 LF e1 e3 e4 ?_
  intro s2 sl svs ks o2 ps2 F2 N2 d2 v2 ht2 hG2 ho2 s57
  with_reducible refine law3 B X T hroom hun hh hg57 F2 N2 ht2 hb hG2 hL57 n57 s57 LF e3 e4 ?_
  intro s3 m3 ra O ps3 F3 N3 hR ht3 hG3 ho3 q1 q2
  with_reducible refine law4 B X T hroom hun hh hg57 F3 N3 d2 LF hR v2 v1 ((q2 _ (by decide)).trans e1) ((q2 _ (by decide)).trans e2) q1 ?_
  intro h4 k4 m4 F4 N4
  exact h _ m4 ps3 F4 N4 hG3 (ho3.trans ho2)

end Mine
set_option maxRecDepth 100000 in
set_option maxHeartbeats 8000000 in
theorem PySem.Challenge.cw_ij0038_01_holds : PySem.Challenge.rw_ij0038_01.Holds := by
  w_on
  refine holds_law (by rw [PySem.W.Fast.te9446332074065402090]; kernel_rfl) fun said => ?_
  refine holds_open (q := Mine.vw) (loose := Mine.lse) (Xt := Mine.xt) (XP := XL Mine.vw Mine.lvs) (Yf := Hook.obs (kmHook Mine.heap_39 Mine.kas Mine.kas_eq [57])) (Ya := Hook.val (kmHook Mine.heap_39 Mine.kas Mine.kas_eq [57])) (YP := Hook.says (kmHook Mine.heap_39 Mine.kas Mine.kas_eq [57])) (N := 38234) ?hl (Hook.of (kmHook Mine.heap_39 Mine.kas Mine.kas_eq [57])) (Hook.keeps (kmHook Mine.heap_39 Mine.kas Mine.kas_eq [57])) (fun s e => xl_of s (Bool.and_eq_true_iff.mp e).1) XL.keeps (by rfl) (by rfl) (by rfl) (fun s e => recFacts_of (Bool.and_eq_true_iff.mp e).2) (by rfl) (by first | assumption | decide +kernel) (by decide +kernel) ⟨rfl, rfl, rfl, rfl, rfl, by decide +kernel⟩ ?hw ?hc
  case hl => exact Mine.left
  case hw => w_witness2
  case hc =>
  k_fill
  intro w s₀ s₁ mg mb G Y fa o pm cd doc dV kV ho hdf hcd hD hmg hg args vals as hpre hlay hrd hwl hlo
  have KX := km_in_of Y
  km_tabs Y
  have X := (Ground.X G).1
  have V := (Ground.X G).2
  refine Ground.open G ?_
  intro T B D TE TW
  try (refine guard_noD D (by decide +kernel) ?_; clear D)
  km_lay T hmg ho hdf cd
  clear hmg
  wrow_args hpre hlay hrd hwl hlo
  all_goals (first | refine callC_kw (enter_call ?_) | refine enter_call ?_)
  w_top on
  refine Mine.kn_postG hT9 ?_
  w_call any ho hdf hcd hD T F
  clear hdf
  kn_ghosts F T
  k_drop
  rename Top _ _ _ _ _ (ghostOf _ _) => TG
  have hbu : (ghostOf s₁.heap [(61, 57)]).BuiltinsAt mg 57 := Mine.builtins_of TG (hideAll_none _ (.head _))
  refine wpAny_mono (Mine.law_all (w := w) (A := callerA) (mg := mg) (g := ghostOf s₁.heap [(61, 57)]) (L := s₁.heap.objs.size) (fa := fa) (cd := cd) ?B (by assumption) (topRead_of TG) ?r ?u rfl (hideAll_none _ (.head _)) (by assumption) (by assumption) lifted (by assumption) ?xl ?sa ?l57 (by assumption) ?tr hbu ?bare ?fin) (fun _ _ q => q) (fun _ _ q => q.elim)
  case B =>
    intro o fd h1 h2
    rw [show (Mine.heap_39 w.params).lookup 151 = some _ from by k_is] at h1
    cases h1
    cases h2
    exact ⟨rfl, rfl⟩
  case r => decide
  case u => decide
  case xl => omega
  case sa => rfl
  case l57 => assumption
  case tr => trivial
  case bare => exact AllBare.of_eq hg
  case fin =>
    intro s' m' ps' F' N' hG' hos
    refine ⟨⟨⟨.bool true, .bool true, [], rfl, fun _ => rfl, .bool true, ?pst, fun _ => ⟨List.nodup_nil, fun a ha => nomatch ha⟩⟩, fun b o e => F'.keep b o e, hos, hG'⟩, GrownAt.of N' (.head _), trivial⟩
    case pst => first | with_unfolding_all rfl | kernel_rfl | (generalize ofPy (PyData.list (List.map PyData.int _)) = dd; kernel_rfl)
