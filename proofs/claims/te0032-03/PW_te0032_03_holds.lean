import PyProof.Rows.All
import Wide.All
import OpenK.AllK
import Wide.FinOn
import Lean
import PySem.Challenge.RW_te0032_03
set_option Elab.async false
set_option linter.all false
set_option bootstrap.genMatcherCode false
set_option genSizeOf false
set_option genInjectivity false
section
namespace Mine
open PySem PySem.W PySem.Calls PyProof.Rows
theorem dn {G : Prop} (h : (G → False) → False) : G := Classical.byContradiction h
theorem obA {a1 : Prop} {a2 : Prop} {G : Prop} (h : a1 ∧ a2) (k : a1 → a2 → G) : G := k (h).1 (h).2
theorem obE {T1 : Type} {a1 : T1 → Prop} {G : Prop} (h : ∃ x1, a1 x1) (k : ∀ x1, a1 x1 → G) : G := (h).elim fun x1 h0 => k x1 h0
theorem obEA {T1 : Type} {a1 : T1 → Prop} {a2 : T1 → Prop} {G : Prop} (h : ∃ x1, a1 x1 ∧ a2 x1) (k : ∀ x1, a1 x1 → a2 x1 → G) : G := (h).elim fun x1 h0 => k x1 (h0).1 (h0).2
theorem obEE {T1 T2 : Type} {a1 : T1 → T2 → Prop} {G : Prop} (h : ∃ x1, ∃ x2, a1 x1 x2) (k : ∀ x1, ∀ x2, a1 x1 x2 → G) : G := (h).elim fun x1 h0 => (h0).elim fun x2 h1 => k x1 x2 h1
theorem obAA {a1 : Prop} {a2 : Prop} {a3 : Prop} {G : Prop} (h : a1 ∧ a2 ∧ a3) (k : a1 → a2 → a3 → G) : G := k (h).1 ((h).2).1 ((h).2).2
theorem obAEA {T1 : Type} {a1 : Prop} {a2 : T1 → Prop} {a3 : T1 → Prop} {G : Prop} (h : a1 ∧ ∃ x1, a2 x1 ∧ a3 x1) (k : a1 → ∀ x1, a2 x1 → a3 x1 → G) : G := ((h).2).elim fun x1 h1 => k (h).1 x1 (h1).1 (h1).2
theorem obAAA {a1 : Prop} {a2 : Prop} {a3 : Prop} {a4 : Prop} {G : Prop} (h : a1 ∧ a2 ∧ a3 ∧ a4) (k : a1 → a2 → a3 → a4 → G) : G := k (h).1 ((h).2).1 (((h).2).2).1 (((h).2).2).2
theorem obEEA {T1 T2 : Type} {a1 : T1 → T2 → Prop} {a2 : T1 → T2 → Prop} {G : Prop} (h : ∃ x1, ∃ x2, a1 x1 x2 ∧ a2 x1 x2) (k : ∀ x1, ∀ x2, a1 x1 x2 → a2 x1 x2 → G) : G := (h).elim fun x1 h0 => (h0).elim fun x2 h1 => k x1 x2 (h1).1 (h1).2
theorem obEAA {T1 : Type} {a1 : T1 → Prop} {a2 : T1 → Prop} {a3 : T1 → Prop} {G : Prop} (h : ∃ x1, a1 x1 ∧ a2 x1 ∧ a3 x1) (k : ∀ x1, a1 x1 → a2 x1 → a3 x1 → G) : G := (h).elim fun x1 h0 => k x1 (h0).1 ((h0).2).1 ((h0).2).2
theorem obAEEA {T1 T2 : Type} {a1 : Prop} {a2 : T1 → T2 → Prop} {a3 : T1 → T2 → Prop} {G : Prop} (h : a1 ∧ ∃ x1, ∃ x2, a2 x1 x2 ∧ a3 x1 x2) (k : a1 → ∀ x1, ∀ x2, a2 x1 x2 → a3 x1 x2 → G) : G := ((h).2).elim fun x1 h1 => (h1).elim fun x2 h2 => k (h).1 x1 x2 (h2).1 (h2).2
theorem obEEEA {T1 T2 T3 : Type} {a1 : T1 → T2 → T3 → Prop} {a2 : T1 → T2 → T3 → Prop} {G : Prop} (h : ∃ x1, ∃ x2, ∃ x3, a1 x1 x2 x3 ∧ a2 x1 x2 x3) (k : ∀ x1, ∀ x2, ∀ x3, a1 x1 x2 x3 → a2 x1 x2 x3 → G) : G := (h).elim fun x1 h0 => (h0).elim fun x2 h1 => (h1).elim fun x3 h2 => k x1 x2 x3 (h2).1 (h2).2
theorem obEAAA {T1 : Type} {a1 : T1 → Prop} {a2 : T1 → Prop} {a3 : T1 → Prop} {a4 : T1 → Prop} {G : Prop} (h : ∃ x1, a1 x1 ∧ a2 x1 ∧ a3 x1 ∧ a4 x1) (k : ∀ x1, a1 x1 → a2 x1 → a3 x1 → a4 x1 → G) : G := (h).elim fun x1 h0 => k x1 (h0).1 ((h0).2).1 (((h0).2).2).1 (((h0).2).2).2
theorem obAEAA {T1 : Type} {a1 : Prop} {a2 : T1 → Prop} {a3 : T1 → Prop} {a4 : T1 → Prop} {G : Prop} (h : a1 ∧ ∃ x1, a2 x1 ∧ a3 x1 ∧ a4 x1) (k : a1 → ∀ x1, a2 x1 → a3 x1 → a4 x1 → G) : G := ((h).2).elim fun x1 h1 => k (h).1 x1 (h1).1 ((h1).2).1 ((h1).2).2
theorem obAAAA {a1 : Prop} {a2 : Prop} {a3 : Prop} {a4 : Prop} {a5 : Prop} {G : Prop} (h : a1 ∧ a2 ∧ a3 ∧ a4 ∧ a5) (k : a1 → a2 → a3 → a4 → a5 → G) : G := k (h).1 ((h).2).1 (((h).2).2).1 ((((h).2).2).2).1 ((((h).2).2).2).2
theorem obEEAA {T1 T2 : Type} {a1 : T1 → T2 → Prop} {a2 : T1 → T2 → Prop} {a3 : T1 → T2 → Prop} {G : Prop} (h : ∃ x1, ∃ x2, a1 x1 x2 ∧ a2 x1 x2 ∧ a3 x1 x2) (k : ∀ x1, ∀ x2, a1 x1 x2 → a2 x1 x2 → a3 x1 x2 → G) : G := (h).elim fun x1 h0 => (h0).elim fun x2 h1 => k x1 x2 (h1).1 ((h1).2).1 ((h1).2).2
theorem obEAAE {T1 T2 : Type} {a1 : T1 → Prop} {a2 : T1 → Prop} {a3 : T1 → T2 → Prop} {G : Prop} (h : ∃ x1, a1 x1 ∧ a2 x1 ∧ ∃ x2, a3 x1 x2) (k : ∀ x1, a1 x1 → a2 x1 → ∀ x2, a3 x1 x2 → G) : G := (h).elim fun x1 h0 => (((h0).2).2).elim fun x2 h3 => k x1 (h0).1 ((h0).2).1 x2 h3
theorem obEEAAA {T1 T2 : Type} {a1 : T1 → T2 → Prop} {a2 : T1 → T2 → Prop} {a3 : T1 → T2 → Prop} {a4 : T1 → T2 → Prop} {G : Prop} (h : ∃ x1, ∃ x2, a1 x1 x2 ∧ a2 x1 x2 ∧ a3 x1 x2 ∧ a4 x1 x2) (k : ∀ x1, ∀ x2, a1 x1 x2 → a2 x1 x2 → a3 x1 x2 → a4 x1 x2 → G) : G := (h).elim fun x1 h0 => (h0).elim fun x2 h1 => k x1 x2 (h1).1 ((h1).2).1 (((h1).2).2).1 (((h1).2).2).2
theorem obEEAAAA {T1 T2 : Type} {a1 : T1 → T2 → Prop} {a2 : T1 → T2 → Prop} {a3 : T1 → T2 → Prop} {a4 : T1 → T2 → Prop} {a5 : T1 → T2 → Prop} {G : Prop} (h : ∃ x1, ∃ x2, a1 x1 x2 ∧ a2 x1 x2 ∧ a3 x1 x2 ∧ a4 x1 x2 ∧ a5 x1 x2) (k : ∀ x1, ∀ x2, a1 x1 x2 → a2 x1 x2 → a3 x1 x2 → a4 x1 x2 → a5 x1 x2 → G) : G := (h).elim fun x1 h0 => (h0).elim fun x2 h1 => k x1 x2 (h1).1 ((h1).2).1 (((h1).2).2).1 ((((h1).2).2).2).1 ((((h1).2).2).2).2
theorem obEEAAEA {T1 T2 T3 : Type} {a1 : T1 → T2 → Prop} {a2 : T1 → T2 → Prop} {a3 : T1 → T2 → T3 → Prop} {a4 : T1 → T2 → T3 → Prop} {G : Prop} (h : ∃ x1, ∃ x2, a1 x1 x2 ∧ a2 x1 x2 ∧ ∃ x3, a3 x1 x2 x3 ∧ a4 x1 x2 x3) (k : ∀ x1, ∀ x2, a1 x1 x2 → a2 x1 x2 → ∀ x3, a3 x1 x2 x3 → a4 x1 x2 x3 → G) : G := (h).elim fun x1 h0 => (h0).elim fun x2 h1 => (((h1).2).2).elim fun x3 h4 => k x1 x2 (h1).1 ((h1).2).1 x3 (h4).1 (h4).2
theorem obEEEEEA {T1 T2 T3 T4 T5 : Type} {a1 : T1 → T2 → T3 → T4 → T5 → Prop} {a2 : T1 → T2 → T3 → T4 → T5 → Prop} {G : Prop} (h : ∃ x1, ∃ x2, ∃ x3, ∃ x4, ∃ x5, a1 x1 x2 x3 x4 x5 ∧ a2 x1 x2 x3 x4 x5) (k : ∀ x1, ∀ x2, ∀ x3, ∀ x4, ∀ x5, a1 x1 x2 x3 x4 x5 → a2 x1 x2 x3 x4 x5 → G) : G := (h).elim fun x1 h0 => (h0).elim fun x2 h1 => (h1).elim fun x3 h2 => (h2).elim fun x4 h3 => (h3).elim fun x5 h4 => k x1 x2 x3 x4 x5 (h4).1 (h4).2
theorem obEEEEEAA {T1 T2 T3 T4 T5 : Type} {a1 : T1 → T2 → T3 → T4 → T5 → Prop} {a2 : T1 → T2 → T3 → T4 → T5 → Prop} {a3 : T1 → T2 → T3 → T4 → T5 → Prop} {G : Prop} (h : ∃ x1, ∃ x2, ∃ x3, ∃ x4, ∃ x5, a1 x1 x2 x3 x4 x5 ∧ a2 x1 x2 x3 x4 x5 ∧ a3 x1 x2 x3 x4 x5) (k : ∀ x1, ∀ x2, ∀ x3, ∀ x4, ∀ x5, a1 x1 x2 x3 x4 x5 → a2 x1 x2 x3 x4 x5 → a3 x1 x2 x3 x4 x5 → G) : G := (h).elim fun x1 h0 => (h0).elim fun x2 h1 => (h1).elim fun x3 h2 => (h2).elim fun x4 h3 => (h3).elim fun x5 h4 => k x1 x2 x3 x4 x5 (h4).1 ((h4).2).1 ((h4).2).2
theorem obEEAAEAA {T1 T2 T3 : Type} {a1 : T1 → T2 → Prop} {a2 : T1 → T2 → Prop} {a3 : T1 → T2 → T3 → Prop} {a4 : T1 → T2 → T3 → Prop} {a5 : T1 → T2 → T3 → Prop} {G : Prop} (h : ∃ x1, ∃ x2, a1 x1 x2 ∧ a2 x1 x2 ∧ ∃ x3, a3 x1 x2 x3 ∧ a4 x1 x2 x3 ∧ a5 x1 x2 x3) (k : ∀ x1, ∀ x2, a1 x1 x2 → a2 x1 x2 → ∀ x3, a3 x1 x2 x3 → a4 x1 x2 x3 → a5 x1 x2 x3 → G) : G := (h).elim fun x1 h0 => (h0).elim fun x2 h1 => (((h1).2).2).elim fun x3 h4 => k x1 x2 (h1).1 ((h1).2).1 x3 (h4).1 ((h4).2).1 ((h4).2).2
theorem obEEAAAAAA {T1 T2 : Type} {a1 : T1 → T2 → Prop} {a2 : T1 → T2 → Prop} {a3 : T1 → T2 → Prop} {a4 : T1 → T2 → Prop} {a5 : T1 → T2 → Prop} {a6 : T1 → T2 → Prop} {a7 : T1 → T2 → Prop} {G : Prop} (h : ∃ x1, ∃ x2, a1 x1 x2 ∧ a2 x1 x2 ∧ a3 x1 x2 ∧ a4 x1 x2 ∧ a5 x1 x2 ∧ a6 x1 x2 ∧ a7 x1 x2) (k : ∀ x1, ∀ x2, a1 x1 x2 → a2 x1 x2 → a3 x1 x2 → a4 x1 x2 → a5 x1 x2 → a6 x1 x2 → a7 x1 x2 → G) : G := (h).elim fun x1 h0 => (h0).elim fun x2 h1 => k x1 x2 (h1).1 ((h1).2).1 (((h1).2).2).1 ((((h1).2).2).2).1 (((((h1).2).2).2).2).1 ((((((h1).2).2).2).2).2).1 ((((((h1).2).2).2).2).2).2
theorem obEEAAEAAA {T1 T2 T3 : Type} {a1 : T1 → T2 → Prop} {a2 : T1 → T2 → Prop} {a3 : T1 → T2 → T3 → Prop} {a4 : T1 → T2 → T3 → Prop} {a5 : T1 → T2 → T3 → Prop} {a6 : T1 → T2 → T3 → Prop} {G : Prop} (h : ∃ x1, ∃ x2, a1 x1 x2 ∧ a2 x1 x2 ∧ ∃ x3, a3 x1 x2 x3 ∧ a4 x1 x2 x3 ∧ a5 x1 x2 x3 ∧ a6 x1 x2 x3) (k : ∀ x1, ∀ x2, a1 x1 x2 → a2 x1 x2 → ∀ x3, a3 x1 x2 x3 → a4 x1 x2 x3 → a5 x1 x2 x3 → a6 x1 x2 x3 → G) : G := (h).elim fun x1 h0 => (h0).elim fun x2 h1 => (((h1).2).2).elim fun x3 h4 => k x1 x2 (h1).1 ((h1).2).1 x3 (h4).1 ((h4).2).1 (((h4).2).2).1 (((h4).2).2).2
theorem obEEEEAAAA {T1 T2 T3 T4 : Type} {a1 : T1 → T2 → T3 → T4 → Prop} {a2 : T1 → T2 → T3 → T4 → Prop} {a3 : T1 → T2 → T3 → T4 → Prop} {a4 : T1 → T2 → T3 → T4 → Prop} {a5 : T1 → T2 → T3 → T4 → Prop} {G : Prop} (h : ∃ x1, ∃ x2, ∃ x3, ∃ x4, a1 x1 x2 x3 x4 ∧ a2 x1 x2 x3 x4 ∧ a3 x1 x2 x3 x4 ∧ a4 x1 x2 x3 x4 ∧ a5 x1 x2 x3 x4) (k : ∀ x1, ∀ x2, ∀ x3, ∀ x4, a1 x1 x2 x3 x4 → a2 x1 x2 x3 x4 → a3 x1 x2 x3 x4 → a4 x1 x2 x3 x4 → a5 x1 x2 x3 x4 → G) : G := (h).elim fun x1 h0 => (h0).elim fun x2 h1 => (h1).elim fun x3 h2 => (h2).elim fun x4 h3 => k x1 x2 x3 x4 (h3).1 ((h3).2).1 (((h3).2).2).1 ((((h3).2).2).2).1 ((((h3).2).2).2).2
theorem obAAAAAAAA {a1 : Prop} {a2 : Prop} {a3 : Prop} {a4 : Prop} {a5 : Prop} {a6 : Prop} {a7 : Prop} {a8 : Prop} {a9 : Prop} {G : Prop} (h : a1 ∧ a2 ∧ a3 ∧ a4 ∧ a5 ∧ a6 ∧ a7 ∧ a8 ∧ a9) (k : a1 → a2 → a3 → a4 → a5 → a6 → a7 → a8 → a9 → G) : G := k (h).1 ((h).2).1 (((h).2).2).1 ((((h).2).2).2).1 (((((h).2).2).2).2).1 ((((((h).2).2).2).2).2).1 (((((((h).2).2).2).2).2).2).1 ((((((((h).2).2).2).2).2).2).2).1 ((((((((h).2).2).2).2).2).2).2).2
theorem obEAAAAAAA {T1 : Type} {a1 : T1 → Prop} {a2 : T1 → Prop} {a3 : T1 → Prop} {a4 : T1 → Prop} {a5 : T1 → Prop} {a6 : T1 → Prop} {a7 : T1 → Prop} {a8 : T1 → Prop} {G : Prop} (h : ∃ x1, a1 x1 ∧ a2 x1 ∧ a3 x1 ∧ a4 x1 ∧ a5 x1 ∧ a6 x1 ∧ a7 x1 ∧ a8 x1) (k : ∀ x1, a1 x1 → a2 x1 → a3 x1 → a4 x1 → a5 x1 → a6 x1 → a7 x1 → a8 x1 → G) : G := (h).elim fun x1 h0 => k x1 (h0).1 ((h0).2).1 (((h0).2).2).1 ((((h0).2).2).2).1 (((((h0).2).2).2).2).1 ((((((h0).2).2).2).2).2).1 (((((((h0).2).2).2).2).2).2).1 (((((((h0).2).2).2).2).2).2).2
theorem obEEEAAAAA {T1 T2 T3 : Type} {a1 : T1 → T2 → T3 → Prop} {a2 : T1 → T2 → T3 → Prop} {a3 : T1 → T2 → T3 → Prop} {a4 : T1 → T2 → T3 → Prop} {a5 : T1 → T2 → T3 → Prop} {a6 : T1 → T2 → T3 → Prop} {G : Prop} (h : ∃ x1, ∃ x2, ∃ x3, a1 x1 x2 x3 ∧ a2 x1 x2 x3 ∧ a3 x1 x2 x3 ∧ a4 x1 x2 x3 ∧ a5 x1 x2 x3 ∧ a6 x1 x2 x3) (k : ∀ x1, ∀ x2, ∀ x3, a1 x1 x2 x3 → a2 x1 x2 x3 → a3 x1 x2 x3 → a4 x1 x2 x3 → a5 x1 x2 x3 → a6 x1 x2 x3 → G) : G := (h).elim fun x1 h0 => (h0).elim fun x2 h1 => (h1).elim fun x3 h2 => k x1 x2 x3 (h2).1 ((h2).2).1 (((h2).2).2).1 ((((h2).2).2).2).1 (((((h2).2).2).2).2).1 (((((h2).2).2).2).2).2
theorem obEEAAEEAAA {T1 T2 T3 T4 : Type} {a1 : T1 → T2 → Prop} {a2 : T1 → T2 → Prop} {a3 : T1 → T2 → T3 → T4 → Prop} {a4 : T1 → T2 → T3 → T4 → Prop} {a5 : T1 → T2 → T3 → T4 → Prop} {a6 : T1 → T2 → T3 → T4 → Prop} {G : Prop} (h : ∃ x1, ∃ x2, a1 x1 x2 ∧ a2 x1 x2 ∧ ∃ x3, ∃ x4, a3 x1 x2 x3 x4 ∧ a4 x1 x2 x3 x4 ∧ a5 x1 x2 x3 x4 ∧ a6 x1 x2 x3 x4) (k : ∀ x1, ∀ x2, a1 x1 x2 → a2 x1 x2 → ∀ x3, ∀ x4, a3 x1 x2 x3 x4 → a4 x1 x2 x3 x4 → a5 x1 x2 x3 x4 → a6 x1 x2 x3 x4 → G) : G := (h).elim fun x1 h0 => (h0).elim fun x2 h1 => (((h1).2).2).elim fun x3 h4 => (h4).elim fun x4 h5 => k x1 x2 (h1).1 ((h1).2).1 x3 x4 (h5).1 ((h5).2).1 (((h5).2).2).1 (((h5).2).2).2
theorem obAEEEEEAAA {T1 T2 T3 T4 T5 : Type} {a1 : Prop} {a2 : T1 → T2 → T3 → T4 → T5 → Prop} {a3 : T1 → T2 → T3 → T4 → T5 → Prop} {a4 : T1 → T2 → T3 → T4 → T5 → Prop} {a5 : T1 → T2 → T3 → T4 → T5 → Prop} {G : Prop} (h : a1 ∧ ∃ x1, ∃ x2, ∃ x3, ∃ x4, ∃ x5, a2 x1 x2 x3 x4 x5 ∧ a3 x1 x2 x3 x4 x5 ∧ a4 x1 x2 x3 x4 x5 ∧ a5 x1 x2 x3 x4 x5) (k : a1 → ∀ x1, ∀ x2, ∀ x3, ∀ x4, ∀ x5, a2 x1 x2 x3 x4 x5 → a3 x1 x2 x3 x4 x5 → a4 x1 x2 x3 x4 x5 → a5 x1 x2 x3 x4 x5 → G) : G := ((h).2).elim fun x1 h1 => (h1).elim fun x2 h2 => (h2).elim fun x3 h3 => (h3).elim fun x4 h4 => (h4).elim fun x5 h5 => k (h).1 x1 x2 x3 x4 x5 (h5).1 ((h5).2).1 (((h5).2).2).1 (((h5).2).2).2
theorem obEEEAAAAAA {T1 T2 T3 : Type} {a1 : T1 → T2 → T3 → Prop} {a2 : T1 → T2 → T3 → Prop} {a3 : T1 → T2 → T3 → Prop} {a4 : T1 → T2 → T3 → Prop} {a5 : T1 → T2 → T3 → Prop} {a6 : T1 → T2 → T3 → Prop} {a7 : T1 → T2 → T3 → Prop} {G : Prop} (h : ∃ x1, ∃ x2, ∃ x3, a1 x1 x2 x3 ∧ a2 x1 x2 x3 ∧ a3 x1 x2 x3 ∧ a4 x1 x2 x3 ∧ a5 x1 x2 x3 ∧ a6 x1 x2 x3 ∧ a7 x1 x2 x3) (k : ∀ x1, ∀ x2, ∀ x3, a1 x1 x2 x3 → a2 x1 x2 x3 → a3 x1 x2 x3 → a4 x1 x2 x3 → a5 x1 x2 x3 → a6 x1 x2 x3 → a7 x1 x2 x3 → G) : G := (h).elim fun x1 h0 => (h0).elim fun x2 h1 => (h1).elim fun x3 h2 => k x1 x2 x3 (h2).1 ((h2).2).1 (((h2).2).2).1 ((((h2).2).2).2).1 (((((h2).2).2).2).2).1 ((((((h2).2).2).2).2).2).1 ((((((h2).2).2).2).2).2).2
theorem obEEAAAAAAAA {T1 T2 : Type} {a1 : T1 → T2 → Prop} {a2 : T1 → T2 → Prop} {a3 : T1 → T2 → Prop} {a4 : T1 → T2 → Prop} {a5 : T1 → T2 → Prop} {a6 : T1 → T2 → Prop} {a7 : T1 → T2 → Prop} {a8 : T1 → T2 → Prop} {a9 : T1 → T2 → Prop} {G : Prop} (h : ∃ x1, ∃ x2, a1 x1 x2 ∧ a2 x1 x2 ∧ a3 x1 x2 ∧ a4 x1 x2 ∧ a5 x1 x2 ∧ a6 x1 x2 ∧ a7 x1 x2 ∧ a8 x1 x2 ∧ a9 x1 x2) (k : ∀ x1, ∀ x2, a1 x1 x2 → a2 x1 x2 → a3 x1 x2 → a4 x1 x2 → a5 x1 x2 → a6 x1 x2 → a7 x1 x2 → a8 x1 x2 → a9 x1 x2 → G) : G := (h).elim fun x1 h0 => (h0).elim fun x2 h1 => k x1 x2 (h1).1 ((h1).2).1 (((h1).2).2).1 ((((h1).2).2).2).1 (((((h1).2).2).2).2).1 ((((((h1).2).2).2).2).2).1 (((((((h1).2).2).2).2).2).2).1 ((((((((h1).2).2).2).2).2).2).2).1 ((((((((h1).2).2).2).2).2).2).2).2
theorem obEEEEAAAAAA {T1 T2 T3 T4 : Type} {a1 : T1 → T2 → T3 → T4 → Prop} {a2 : T1 → T2 → T3 → T4 → Prop} {a3 : T1 → T2 → T3 → T4 → Prop} {a4 : T1 → T2 → T3 → T4 → Prop} {a5 : T1 → T2 → T3 → T4 → Prop} {a6 : T1 → T2 → T3 → T4 → Prop} {a7 : T1 → T2 → T3 → T4 → Prop} {G : Prop} (h : ∃ x1, ∃ x2, ∃ x3, ∃ x4, a1 x1 x2 x3 x4 ∧ a2 x1 x2 x3 x4 ∧ a3 x1 x2 x3 x4 ∧ a4 x1 x2 x3 x4 ∧ a5 x1 x2 x3 x4 ∧ a6 x1 x2 x3 x4 ∧ a7 x1 x2 x3 x4) (k : ∀ x1, ∀ x2, ∀ x3, ∀ x4, a1 x1 x2 x3 x4 → a2 x1 x2 x3 x4 → a3 x1 x2 x3 x4 → a4 x1 x2 x3 x4 → a5 x1 x2 x3 x4 → a6 x1 x2 x3 x4 → a7 x1 x2 x3 x4 → G) : G := (h).elim fun x1 h0 => (h0).elim fun x2 h1 => (h1).elim fun x3 h2 => (h2).elim fun x4 h3 => k x1 x2 x3 x4 (h3).1 ((h3).2).1 (((h3).2).2).1 ((((h3).2).2).2).1 (((((h3).2).2).2).2).1 ((((((h3).2).2).2).2).2).1 ((((((h3).2).2).2).2).2).2
theorem obAEEEAAAAAA {T1 T2 T3 : Type} {a1 : Prop} {a2 : T1 → T2 → T3 → Prop} {a3 : T1 → T2 → T3 → Prop} {a4 : T1 → T2 → T3 → Prop} {a5 : T1 → T2 → T3 → Prop} {a6 : T1 → T2 → T3 → Prop} {a7 : T1 → T2 → T3 → Prop} {a8 : T1 → T2 → T3 → Prop} {G : Prop} (h : a1 ∧ ∃ x1, ∃ x2, ∃ x3, a2 x1 x2 x3 ∧ a3 x1 x2 x3 ∧ a4 x1 x2 x3 ∧ a5 x1 x2 x3 ∧ a6 x1 x2 x3 ∧ a7 x1 x2 x3 ∧ a8 x1 x2 x3) (k : a1 → ∀ x1, ∀ x2, ∀ x3, a2 x1 x2 x3 → a3 x1 x2 x3 → a4 x1 x2 x3 → a5 x1 x2 x3 → a6 x1 x2 x3 → a7 x1 x2 x3 → a8 x1 x2 x3 → G) : G := ((h).2).elim fun x1 h1 => (h1).elim fun x2 h2 => (h2).elim fun x3 h3 => k (h).1 x1 x2 x3 (h3).1 ((h3).2).1 (((h3).2).2).1 ((((h3).2).2).2).1 (((((h3).2).2).2).2).1 ((((((h3).2).2).2).2).2).1 ((((((h3).2).2).2).2).2).2
theorem obAEAAAAAAAA {T1 : Type} {a1 : Prop} {a2 : T1 → Prop} {a3 : T1 → Prop} {a4 : T1 → Prop} {a5 : T1 → Prop} {a6 : T1 → Prop} {a7 : T1 → Prop} {a8 : T1 → Prop} {a9 : T1 → Prop} {a10 : T1 → Prop} {G : Prop} (h : a1 ∧ ∃ x1, a2 x1 ∧ a3 x1 ∧ a4 x1 ∧ a5 x1 ∧ a6 x1 ∧ a7 x1 ∧ a8 x1 ∧ a9 x1 ∧ a10 x1) (k : a1 → ∀ x1, a2 x1 → a3 x1 → a4 x1 → a5 x1 → a6 x1 → a7 x1 → a8 x1 → a9 x1 → a10 x1 → G) : G := ((h).2).elim fun x1 h1 => k (h).1 x1 (h1).1 ((h1).2).1 (((h1).2).2).1 ((((h1).2).2).2).1 (((((h1).2).2).2).2).1 ((((((h1).2).2).2).2).2).1 (((((((h1).2).2).2).2).2).2).1 ((((((((h1).2).2).2).2).2).2).2).1 ((((((((h1).2).2).2).2).2).2).2).2
theorem obAEEEAAAAAAA {T1 T2 T3 : Type} {a1 : Prop} {a2 : T1 → T2 → T3 → Prop} {a3 : T1 → T2 → T3 → Prop} {a4 : T1 → T2 → T3 → Prop} {a5 : T1 → T2 → T3 → Prop} {a6 : T1 → T2 → T3 → Prop} {a7 : T1 → T2 → T3 → Prop} {a8 : T1 → T2 → T3 → Prop} {a9 : T1 → T2 → T3 → Prop} {G : Prop} (h : a1 ∧ ∃ x1, ∃ x2, ∃ x3, a2 x1 x2 x3 ∧ a3 x1 x2 x3 ∧ a4 x1 x2 x3 ∧ a5 x1 x2 x3 ∧ a6 x1 x2 x3 ∧ a7 x1 x2 x3 ∧ a8 x1 x2 x3 ∧ a9 x1 x2 x3) (k : a1 → ∀ x1, ∀ x2, ∀ x3, a2 x1 x2 x3 → a3 x1 x2 x3 → a4 x1 x2 x3 → a5 x1 x2 x3 → a6 x1 x2 x3 → a7 x1 x2 x3 → a8 x1 x2 x3 → a9 x1 x2 x3 → G) : G := ((h).2).elim fun x1 h1 => (h1).elim fun x2 h2 => (h2).elim fun x3 h3 => k (h).1 x1 x2 x3 (h3).1 ((h3).2).1 (((h3).2).2).1 ((((h3).2).2).2).1 (((((h3).2).2).2).2).1 ((((((h3).2).2).2).2).2).1 (((((((h3).2).2).2).2).2).2).1 (((((((h3).2).2).2).2).2).2).2
theorem obEEEEEAAAAAAAA {T1 T2 T3 T4 T5 : Type} {a1 : T1 → T2 → T3 → T4 → T5 → Prop} {a2 : T1 → T2 → T3 → T4 → T5 → Prop} {a3 : T1 → T2 → T3 → T4 → T5 → Prop} {a4 : T1 → T2 → T3 → T4 → T5 → Prop} {a5 : T1 → T2 → T3 → T4 → T5 → Prop} {a6 : T1 → T2 → T3 → T4 → T5 → Prop} {a7 : T1 → T2 → T3 → T4 → T5 → Prop} {a8 : T1 → T2 → T3 → T4 → T5 → Prop} {a9 : T1 → T2 → T3 → T4 → T5 → Prop} {G : Prop} (h : ∃ x1, ∃ x2, ∃ x3, ∃ x4, ∃ x5, a1 x1 x2 x3 x4 x5 ∧ a2 x1 x2 x3 x4 x5 ∧ a3 x1 x2 x3 x4 x5 ∧ a4 x1 x2 x3 x4 x5 ∧ a5 x1 x2 x3 x4 x5 ∧ a6 x1 x2 x3 x4 x5 ∧ a7 x1 x2 x3 x4 x5 ∧ a8 x1 x2 x3 x4 x5 ∧ a9 x1 x2 x3 x4 x5) (k : ∀ x1, ∀ x2, ∀ x3, ∀ x4, ∀ x5, a1 x1 x2 x3 x4 x5 → a2 x1 x2 x3 x4 x5 → a3 x1 x2 x3 x4 x5 → a4 x1 x2 x3 x4 x5 → a5 x1 x2 x3 x4 x5 → a6 x1 x2 x3 x4 x5 → a7 x1 x2 x3 x4 x5 → a8 x1 x2 x3 x4 x5 → a9 x1 x2 x3 x4 x5 → G) : G := (h).elim fun x1 h0 => (h0).elim fun x2 h1 => (h1).elim fun x3 h2 => (h2).elim fun x4 h3 => (h3).elim fun x5 h4 => k x1 x2 x3 x4 x5 (h4).1 ((h4).2).1 (((h4).2).2).1 ((((h4).2).2).2).1 (((((h4).2).2).2).2).1 ((((((h4).2).2).2).2).2).1 (((((((h4).2).2).2).2).2).2).1 ((((((((h4).2).2).2).2).2).2).2).1 ((((((((h4).2).2).2).2).2).2).2).2
theorem obAEEEEAAAAAAAAAAAAAA {T1 T2 T3 T4 : Type} {a1 : Prop} {a2 : T1 → T2 → T3 → T4 → Prop} {a3 : T1 → T2 → T3 → T4 → Prop} {a4 : T1 → T2 → T3 → T4 → Prop} {a5 : T1 → T2 → T3 → T4 → Prop} {a6 : T1 → T2 → T3 → T4 → Prop} {a7 : T1 → T2 → T3 → T4 → Prop} {a8 : T1 → T2 → T3 → T4 → Prop} {a9 : T1 → T2 → T3 → T4 → Prop} {a10 : T1 → T2 → T3 → T4 → Prop} {a11 : T1 → T2 → T3 → T4 → Prop} {a12 : T1 → T2 → T3 → T4 → Prop} {a13 : T1 → T2 → T3 → T4 → Prop} {a14 : T1 → T2 → T3 → T4 → Prop} {a15 : T1 → T2 → T3 → T4 → Prop} {a16 : T1 → T2 → T3 → T4 → Prop} {G : Prop} (h : a1 ∧ ∃ x1, ∃ x2, ∃ x3, ∃ x4, a2 x1 x2 x3 x4 ∧ a3 x1 x2 x3 x4 ∧ a4 x1 x2 x3 x4 ∧ a5 x1 x2 x3 x4 ∧ a6 x1 x2 x3 x4 ∧ a7 x1 x2 x3 x4 ∧ a8 x1 x2 x3 x4 ∧ a9 x1 x2 x3 x4 ∧ a10 x1 x2 x3 x4 ∧ a11 x1 x2 x3 x4 ∧ a12 x1 x2 x3 x4 ∧ a13 x1 x2 x3 x4 ∧ a14 x1 x2 x3 x4 ∧ a15 x1 x2 x3 x4 ∧ a16 x1 x2 x3 x4) (k : a1 → ∀ x1, ∀ x2, ∀ x3, ∀ x4, a2 x1 x2 x3 x4 → a3 x1 x2 x3 x4 → a4 x1 x2 x3 x4 → a5 x1 x2 x3 x4 → a6 x1 x2 x3 x4 → a7 x1 x2 x3 x4 → a8 x1 x2 x3 x4 → a9 x1 x2 x3 x4 → a10 x1 x2 x3 x4 → a11 x1 x2 x3 x4 → a12 x1 x2 x3 x4 → a13 x1 x2 x3 x4 → a14 x1 x2 x3 x4 → a15 x1 x2 x3 x4 → a16 x1 x2 x3 x4 → G) : G := ((h).2).elim fun x1 h1 => (h1).elim fun x2 h2 => (h2).elim fun x3 h3 => (h3).elim fun x4 h4 => k (h).1 x1 x2 x3 x4 (h4).1 ((h4).2).1 (((h4).2).2).1 ((((h4).2).2).2).1 (((((h4).2).2).2).2).1 ((((((h4).2).2).2).2).2).1 (((((((h4).2).2).2).2).2).2).1 ((((((((h4).2).2).2).2).2).2).2).1 (((((((((h4).2).2).2).2).2).2).2).2).1 ((((((((((h4).2).2).2).2).2).2).2).2).2).1 (((((((((((h4).2).2).2).2).2).2).2).2).2).2).1 ((((((((((((h4).2).2).2).2).2).2).2).2).2).2).2).1 (((((((((((((h4).2).2).2).2).2).2).2).2).2).2).2).2).1 ((((((((((((((h4).2).2).2).2).2).2).2).2).2).2).2).2).2).1 ((((((((((((((h4).2).2).2).2).2).2).2).2).2).2).2).2).2).2


noncomputable def er : Value → Value
  | .int i _ => .int i 0
  | .float b _ => .float b 0
  | .str x _ => .str x 0
  | .bytes b _ => .bytes b 0
  | v => v

theorem er_none {v : Value} (h : er v = .none) : v = .none := by cases v <;> simp_all [er]
theorem er_bool {v : Value} {b : Bool} (h : er v = .bool b) : v = .bool b := by cases v <;> simp_all [er]
theorem er_int {v : Value} {i : Int} (h : er v = .int i 0) : ∃ t, v = .int i t := by cases v <;> simp_all [er]
theorem er_str {v : Value} {x : Str} (h : er v = .str x 0) : ∃ t, v = .str x t := by cases v <;> simp_all [er]
theorem er_ref {v : Value} {a : Addr} (h : er v = .ref a) : v = .ref a := by cases v <;> simp_all [er]
theorem er_builtin {v : Value} {a : String} (h : er v = .builtin a) : v = .builtin a := by cases v <;> simp_all [er]
theorem er_type {v : Value} {a : String} (h : er v = .type a) : v = .type a := by cases v <;> simp_all [er]
@[simp] theorem er_er (v : Value) : er (er v) = er v := by cases v <;> rfl
@[simp] theorem er_of_ref (a : Addr) : er (.ref a) = .ref a := rfl
@[simp] theorem er_of_none : er .none = .none := rfl
@[simp] theorem er_of_bool (b : Bool) : er (.bool b) = .bool b := rfl
@[simp] theorem er_of_int (i : Int) (t : Tok) : er (.int i t) = .int i 0 := rfl
@[simp] theorem er_of_str (i : Str) (t : Tok) : er (.str i t) = .str i 0 := rfl
@[simp] theorem er_of_builtin (i : String) : er (.builtin i) = .builtin i := rfl
@[simp] theorem er_of_type (i : String) : er (.type i) = .type i := rfl

noncomputable abbrev Loc := Str → Option Value

inductive AO where
  | inst (C : Addr) (k : Nat) (f : Str → Option Value)
  | dct (es : List (Str × Value))
  | lst (xs : List Value)
  | tup (xs : List Value)
  | obj (o : Obj)

noncomputable abbrev Mem := Addr → Option AO
noncomputable abbrev Frz := Addr → Option Obj

noncomputable def setL (m : Loc) (x : Str) (v : Value) : Loc := fun y => if y = x then some v else m y
noncomputable def setM (M : Mem) (a : Addr) (o : AO) : Mem := fun b => if b = a then some o else M b
theorem setM_same (M : Mem) (a : Addr) (o : AO) : setM M a o a = some o := if_pos rfl
theorem setM_ne (M : Mem) {a b : Addr} (o : AO) (h : b ≠ a) : setM M a o b = M b := if_neg h
theorem setM_setM (M : Mem) (a : Addr) (o o' : AO) : setM (setM M a o) a o' = setM M a o' := by
  funext b; unfold setM; split <;> rfl

noncomputable def KeysOk (P : Params) (es : List DictEntry) : Prop := ∀ e ∈ es, ∃ x t, e.key = .str x t ∧ e.hash = PyData.keyHash P x
noncomputable def fieldOf (es : List DictEntry) (x : Str) : Option Value := (es.find? (·.key.isStr x)).map (·.val)

structure Cx where
  prog : Program
  w : World
  K : Frag
  T : Heap
  p : Program
  loose : List Str
  mg : Str → Option Value
  mb : Str → Option Value
  X : K.In T
  R : TopRead p loose mg mb T

noncomputable def ORep (X : Cx) (own : Addr → Option Addr) (h : Heap) (a : Addr) : AO → Prop
  | .inst C k f => ∃ dx es n, h.get? a = some (instObj C dx) ∧ own dx = some a ∧ dx ≠ a ∧ h.get? dx = some (dictOf es n) ∧ KeysOk X.w.params es ∧ es.length ≤ k ∧ ∀ x, (fieldOf es x).map er = f x
  | .dct l => ∃ kvs : List (Str × Value), h.DictOf (strKind X.prog X.w) a kvs ∧ 3 < a ∧ kvs.map (fun p => (p.1, er p.2)) = l
  | .lst xs => ∃ vs : Array Value, h.PlainList a vs ∧ vs.toList.map er = xs
  | .tup xs => ∃ vs : Array Value, IsTup h a vs ∧ vs.toList.map er = xs
  | .obj o => h.get? a = some o

structure Inv (X : Cx) (fz : Frz) (M : Mem) (own : Addr → Option Addr) (h : Heap) : Prop where
  top : ∀ b o, X.T.get? b = some o → fz b = some o
  fz : ∀ b o, fz b = some o → h.get? b = some o ∧ own b = none
  rep : ∀ a o, M a = some o → own a = some a ∧ ORep X own h a o

structure FVo (X : Cx) (fz : Frz) (L : Addr) (loc : Loc) (M : Mem) (own : Addr → Option Addr) (h : Heap) : Prop where
  inv : Inv X fz M own h
  ownL : own L = none
  fzL : fz L = none
  loc : ∃ m, h.Ns L m ∧ ∀ x, (m x).map er = loc x

noncomputable def GV (X : Cx) (fz : Frz) (M : Mem) (h : Heap) : Prop := ∃ own, Inv X fz M own h
noncomputable def FV (X : Cx) (fz : Frz) (L : Addr) (loc : Loc) (M : Mem) (h : Heap) : Prop := ∃ own, FVo X fz L loc M own h

noncomputable def Like (s s' : Shared) : Prop := ∃ h' t', s' = { s with heap := h', toks := t' } ∧ s.toks ≤ t'
theorem Like.refl (s : Shared) : Like s s := ⟨s.heap, s.toks, rfl, Nat.le_refl _⟩
theorem Like.trans {a b c : Shared} (x : Like a b) (y : Like b c) : Like a c := by
  (refine obEEA (x) ?_; intro h1 t1 hz2 l1; subst hz2)
  (refine obEEA (y) ?_; intro h2 t2 hz2 l2; subst hz2)
  exact ⟨h2, t2, rfl, Nat.le_trans l1 l2⟩
theorem Like.tok {a b : Shared} (x : Like a b) : a.toks ≤ b.toks := by obtain ⟨h1, t1, rfl, l1⟩ := x; exact l1
theorem Like.one {a b : Shared} (x : Like a b) (h : 1 ≤ a.toks) : 1 ≤ b.toks := Nat.le_trans h x.tok
theorem Like.mk' (s : Shared) (h : Heap) (t : Nat) (l : s.toks ≤ t) : Like s { s with heap := h, toks := t } := ⟨h, t, rfl, l⟩
theorem Like.heap (s : Shared) (h : Heap) : Like s { s with heap := h } := ⟨h, s.toks, rfl, Nat.le_refl _⟩
theorem Like.tokn (s : Shared) (t : Nat) (l : s.toks ≤ t) : Like s { s with toks := t } := ⟨s.heap, t, rfl, l⟩

structure Room (A : Around) (n : Nat) : Prop where
  handled : A.handled = none
  depth : A.depth + 4 * n < recursionLimit
  units : A.units + 8 * n < cLine
theorem Room.le {A : Around} {n m : Nat} (r : Room A n) (h : m ≤ n) : Room A m := ⟨r.handled, by have := r.depth; (lia), by have := r.units; (lia)⟩
theorem Room.deeper {A : Around} {n : Nat} {env : Env} (r : Room A (n + 1)) : Room (A.deeper env) n := ⟨r.handled, by have := r.depth; show A.depth + 1 + 4 * n < _; (lia), by have := r.units; show A.units + 3 + 8 * n < _; (lia)⟩

section
variable {α β : Type}

noncomputable def WT (X : Cx) (n : Nat) (fz : Frz) (L : Addr) (t : Sem α) (Q : α → Loc → Mem → Prop) (loc : Loc) (M : Mem) : Prop :=
  ∀ A s, Room A n → FV X fz L loc M s.heap → 1 ≤ s.toks →
    wpAny (model X.prog X.w) A t (fun v s' => ∃ loc' M', FV X fz L loc' M' s'.heap ∧ Like s s' ∧ Q v loc' M') (fun _ _ => False) s

variable {X : Cx} {n : Nat} {fz : Frz} {L : Addr} {loc : Loc} {M : Mem}

noncomputable def WPost (X : Cx) (fz : Frz) (L : Addr) (s : Shared) (Q : α → Loc → Mem → Prop) : α → Shared → Prop :=
  fun v s' => ∃ loc' M', FV X fz L loc' M' s'.heap ∧ Like s s' ∧ Q v loc' M'

theorem WT.use {t : Sem α} {Q : α → Loc → Mem → Prop} (h : WT X n fz L t Q loc M) {A : Around} {s₀ s : Shared} (r : Room A n) (f : FV X fz L loc M s.heap) (l : Like s₀ s) (o : 1 ≤ s₀.toks) :
    wpAny (model X.prog X.w) A t (WPost X fz L s₀ Q) (fun _ _ => False) s :=
  wpAny_mono (h A s r f (l.one o)) (fun _ _ w => obEEAA w fun l' M' f' k' q => ⟨l', M', f', l.trans k', q⟩) (fun _ _ e => e)

theorem WT.mono {t : Sem α} {Q Q' : α → Loc → Mem → Prop} (h : WT X n fz L t Q loc M) (k : ∀ v l m, Q v l m → Q' v l m) : WT X n fz L t Q' loc M :=
  fun A s r f o => wpAny_mono (h A s r f o) (fun _ _ w => obEEAA w fun l' M' f' k' q => ⟨l', M', f', k', k _ _ _ q⟩) (fun _ _ e => e)

end
end Mine
end
section
set_option linter.unusedVariables false
namespace Mine
open PySem PySem.W PySem.Calls PyProof.Rows

section
variable {X : Cx} {n : Nat} {fz : Frz} {L : Addr} {loc : Loc} {M : Mem} {own : Addr → Option Addr} {h h' : Heap} {a : Addr} {o : AO}

noncomputable def Ext (h h' : Heap) : Prop := ∀ b o, h.get? b = some o → h'.get? b = some o
theorem Ext.trans {a b c : Heap} (x : Ext a b) (y : Ext b c) : Ext a c := fun _ _ e => y _ _ (x _ _ e)
theorem Ext.push (h : Heap) (o : Obj) : Ext h (h.push o) := fun _ _ e => Heap.get?_push_of_some _ e


theorem ORep.mono {own' : Addr → Option Addr} (r : ORep X own h a o) (k : ∀ b x, h.get? b = some x → own b = some a → h'.get? b = some x)
    (w : ∀ b x, h.get? b = some x → own b = some a → own' b = some a) (s : own a = some a) : ORep X own' h' a o := by
  cases o with
  | inst C kk f =>
    (refine obEEEAAAAAA (r) ?_; intro dx es n h1 h2 h3 h4 h5 h6 h7)
    exact ⟨dx, es, n, k _ _ h1 s, w _ _ h4 h2, h3, k _ _ h4 h2, h5, h6, h7⟩
  | dct l =>
    (refine obEA (r) ?_; intro kvs hz1 h2; refine dn fun hG0 => ?_; obtain ⟨o, es, ep, ho, q⟩ := hz1; refine hG0 ?_; clear hG0)
    exact ⟨kvs, ⟨o, es, ep, k _ _ ho s, q⟩, h2⟩
  | lst xs =>
    (refine obEA (r) ?_; intro vs h1 h2)
    (refine obE (h1) ?_; intro n h1)
    exact ⟨vs, ⟨n, k _ _ h1 s⟩, h2⟩
  | tup xs =>
    (refine obEA (r) ?_; intro vs hz1 h2; refine dn fun hG0 => ?_; obtain ⟨o, ho, r⟩ := hz1; refine hG0 ?_; clear hG0)
    exact ⟨vs, ⟨o, k _ _ ho s, r⟩, h2⟩
  | obj o => exact k _ _ r s

theorem ORep.lt (r : ORep X own h a o) : a < h.objs.size := by
  cases o with
  | inst C kk f => obtain ⟨dx, es, n, h1, _⟩ := r; exact Heap.lt_size h1
  | dct l => obtain ⟨kvs, ⟨o, es, ep, ho, _⟩, _⟩ := r; exact Heap.lt_size ho
  | lst xs => obtain ⟨vs, ⟨o, ho⟩, _⟩ := r; exact Heap.lt_size ho
  | tup xs => obtain ⟨vs, ⟨o, ho, _⟩, _⟩ := r; exact Heap.lt_size ho
  | obj o => exact Heap.lt_size r

theorem Inv.ext (I : Inv X fz M own h) (k : Ext h h') : Inv X fz M own h' :=
  ⟨I.top, fun b o e => ⟨k _ _ (I.fz b o e).1, (I.fz b o e).2⟩, fun a o e => ⟨(I.rep a o e).1, (I.rep a o e).2.mono (fun _ _ q _ => k _ _ q) (fun _ _ _ q => q) (I.rep a o e).1⟩⟩

theorem FV.ext (F : FV X fz L loc M h) (k : Ext h h') : FV X fz L loc M h' := by
  (refine dn fun hG0 => ?_; obtain ⟨own, I, a, b, m, hm, he⟩ := F; refine hG0 ?_; clear hG0)
  exact ⟨own, I.ext k, a, b, m, hm.keeps k, he⟩
theorem FV.gv (F : FV X fz L loc M h) : GV X fz M h := let ⟨own, I⟩ := F; ⟨own, I.inv⟩
theorem FV.topKeep (F : FV X fz L loc M h) : Ext X.T h := by
  (refine obE (F) ?_; intro own I)
  exact fun b o e => (I.inv.fz b o (I.inv.top b o e)).1
theorem GV.topKeep (F : GV X fz M h) : Ext X.T h := by
  (refine obE (F) ?_; intro own I)
  exact fun b o e => (I.fz b o (I.top b o e)).1
theorem FV.kin (F : FV X fz L loc M h) : X.K.In h := X.X.keeps F.topKeep
theorem GV.kin (F : GV X fz M h) : X.K.In h := X.X.keeps F.topKeep
theorem FV.ns (F : FV X fz L loc M h) : ∃ m, h.Ns L m ∧ ∀ x, (m x).map er = loc x := let ⟨_, I⟩ := F; I.loc

theorem FV.change {b : Addr} {o' : AO} (F : FVo X fz L loc M own h) (hb : own b = some a) (hs : ∀ c, c ≠ b → h'.get? c = h.get? c)
    (r : ORep X own h' a o') (s : own a = some a) : FVo X fz L loc (setM M a o') own h' := by
  (refine dn fun hG0 => ?_; obtain ⟨⟨i1, i2, i3⟩, a1, a2, m, hm, he⟩ := F; refine hG0 ?_; clear hG0)
  have nb : ∀ c, own c = none → c ≠ b := fun c hc e => by rw [e, hb] at hc; cases hc
  refine ⟨⟨i1, fun c o e => ⟨(hs c (nb c (i2 c o e).2)).trans (i2 c o e).1, (i2 c o e).2⟩, fun c o e => ?_⟩, a1, a2, m, ?_, he⟩
  · by_cases hc : c = a
    · subst hc
      rw [setM_same] at e; cases e
      exact ⟨s, r⟩
    · rw [setM_ne _ _ hc] at e
      (refine obA (i3 c o e) ?_; intro q1 q2)
      refine ⟨q1, q2.mono (fun d x hd od => (hs d fun z => ?_).trans hd) (fun _ _ _ q => q) q1⟩
      rw [z, hb] at od; exact hc (Option.some.inj od).symm
  · (refine obEEEA (hm) ?_; intro o es ep ho r')
    exact ⟨o, es, ep, (hs L (nb L a1)).trans ho, r'⟩

theorem FV.store {m' : Loc} {loc' : Loc} (F : FV X fz L loc M h) (hs : Heap.SameBut L h h') (hn : h'.Ns L m') (he : ∀ x, (m' x).map er = loc' x) : FV X fz L loc' M h' := by
  (refine dn fun hG0 => ?_; obtain ⟨own, ⟨i1, i2, i3⟩, a1, a2, _⟩ := F; refine hG0 ?_; clear hG0)
  refine ⟨own, ⟨i1, fun c o e => ⟨(hs.2 c fun z => ?_).trans (i2 c o e).1, (i2 c o e).2⟩, fun c o e => ⟨(i3 c o e).1, (i3 c o e).2.mono (fun d x hd od => (hs.2 d fun z => ?_).trans hd) (fun _ _ _ q => q) (i3 c o e).1⟩⟩, a1, a2, m', hn, he⟩
  · rw [z, a2] at e; cases e
  · rw [z, a1] at od; cases od

theorem FV.new1 (F : FV X fz L loc M h) (k : Ext h h') (hnew : h.objs.size = a)
    (r : ∀ own, own a = some a → ORep X own h' a o) : FV X fz L loc (setM M a o) h' := by
  (refine dn fun hG0 => ?_; obtain ⟨own, ⟨i1, i2, i3⟩, a1, a2, m, hm, he⟩ := F; refine hG0 ?_; clear hG0)
  subst hnew
  let own' : Addr → Option Addr := fun b => if b = h.objs.size then some h.objs.size else own b
  have oo : ∀ b x, h.get? b = some x → own' b = own b := fun b x e => if_neg (Nat.ne_of_lt (Heap.lt_size e))
  have hL : own' L = none := (if_neg (Nat.ne_of_lt hm.lt)).trans a1
  refine ⟨own', ⟨i1, fun c x e => ⟨k _ _ (i2 c x e).1, (oo _ _ (i2 c x e).1).trans (i2 c x e).2⟩, fun c x e => ?_⟩, hL, a2, m, hm.keeps k, he⟩
  by_cases hc : c = h.objs.size
  · subst hc
    rw [setM_same] at e; cases e
    exact ⟨if_pos rfl, r own' (if_pos rfl)⟩
  · rw [setM_ne _ _ hc] at e
    have q := i3 c x e
    refine ⟨(if_neg hc).trans q.1, q.2.mono (fun _ _ hd _ => k _ _ hd) (fun d y hd od => (oo d y hd).trans od) q.1⟩

theorem FV.old (F : FV X fz L loc M h) (e : M a = some o) : a < h.objs.size := by
  (refine dn fun hG0 => ?_; obtain ⟨own, ⟨i1, i2, i3⟩, _⟩ := F; refine hG0 ?_; clear hG0)
  exact (i3 a o e).2.lt
theorem FV.size3 (F : FV X fz L loc M h) : 3 < h.objs.size := Heap.Ns.lt (X.R.g.keeps F.topKeep)
theorem FV.fresh (F : FV X fz L loc M h) : M h.objs.size = none := by
  cases e : M h.objs.size with
  | none => rfl
  | some o => exact absurd (F.old e) (Nat.lt_irrefl _)
end

section
variable {X : Cx} {n : Nat} {fz : Frz} {L : Addr} {loc : Loc} {M : Mem} {env : Env}

noncomputable def erF : Flow → Flow
  | .ret v => .ret (er v)
  | f => f

noncomputable abbrev QV := Value → Loc → Mem → Prop
noncomputable abbrev QB := Bool → Loc → Mem → Prop
noncomputable abbrev QF := Flow → Loc → Mem → Prop

noncomputable def EV (X : Cx) (n : Nat) (fz : Frz) (L : Addr) (env : Env) (e : Expr) (Q : QV) (loc : Loc) (M : Mem) : Prop :=
  WT X n fz L (eval e env) (fun v l m => Q (er v) l m) loc M
noncomputable def TV (X : Cx) (n : Nat) (fz : Frz) (L : Addr) (env : Env) (e : Expr) (Q : QB) (loc : Loc) (M : Mem) : Prop :=
  ∀ whole, whole = eval e env → WT X n fz L (isTrue e env whole) Q loc M
noncomputable def EX (X : Cx) (n : Nat) (fz : Frz) (L : Addr) (env : Env) (ss : List Stmt) (Q : QF) (loc : Loc) (M : Mem) : Prop :=
  WT X n fz L (execs ss env) (fun f l m => Q (erF f) l m) loc M
noncomputable def E1 (X : Cx) (n : Nat) (fz : Frz) (L : Addr) (env : Env) (s : Stmt) (Q : QF) (loc : Loc) (M : Mem) : Prop :=
  WT X n fz L (exec s env) (fun f l m => Q (erF f) l m) loc M

noncomputable def O1 (X : Cx) (n : Nat) (fz : Frz) (L : Addr) (t : Value → Sem Value) (a : Value) (Q : QV) (loc : Loc) (M : Mem) : Prop :=
  ∀ va, er va = a → WT X n fz L (t va) (fun v l m => Q (er v) l m) loc M
noncomputable def O1B (X : Cx) (n : Nat) (fz : Frz) (L : Addr) (t : Value → Sem Bool) (a : Value) (Q : QB) (loc : Loc) (M : Mem) : Prop :=
  ∀ va, er va = a → WT X n fz L (t va) Q loc M
noncomputable def O2 (X : Cx) (n : Nat) (fz : Frz) (L : Addr) (t : Value → Value → Sem Value) (a b : Value) (Q : QV) (loc : Loc) (M : Mem) : Prop :=
  ∀ va vb, er va = a → er vb = b → WT X n fz L (t va vb) (fun v l m => Q (er v) l m) loc M
noncomputable def SA (X : Cx) (n : Nat) (fz : Frz) (L : Addr) (o : Value) (name : Str) (v : Value) (Q : Loc → Mem → Prop) (loc : Loc) (M : Mem) : Prop :=
  ∀ vo vv, er vo = o → er vv = v → WT X n fz L (setAttr vo name vv) (fun _ l m => Q l m) loc M
noncomputable def ST (X : Cx) (n : Nat) (fz : Frz) (L : Addr) (env : Env) (x : Str) (v : Value) (Q : Loc → Mem → Prop) (loc : Loc) (M : Mem) : Prop :=
  ∀ vv, er vv = v → WT X n fz L (storeName env x vv) (fun _ l m => Q l m) loc M

theorem EX_nil {Q : QF} (h : Q .next loc M) : EX X n fz L env [] Q loc M :=
  fun _ s _ f _ => wpAny_execs_nil ⟨loc, M, f, Like.refl s, h⟩

noncomputable def seqQ (X : Cx) (n : Nat) (fz : Frz) (L : Addr) (env : Env) (rest : List Stmt) (Q : QF) : QF := fun f l m => match f with
  | .next => EX X n fz L env rest Q l m
  | f => Q f l m
theorem EX_cons {Q : QF} {st : Stmt} {rest : List Stmt} (h : E1 X n fz L env st (seqQ X n fz L env rest Q) loc M) : EX X n fz L env (st :: rest) Q loc M :=
  fun A s r f o => wpAny_execs_cons (wpAny_mono (h A s r f o) (fun fl s' w => obEEAA w fun l' M' f' k' q => by
    cases fl with
    | next => exact WT.use q r f' k' o
    | brk => exact ⟨l', M', f', k', q⟩
    | cont => exact ⟨l', M', f', k', q⟩
    | ret v => exact ⟨l', M', f', k', q⟩) (fun _ _ e => e))
theorem seq_next {Q : QF} {rest : List Stmt} (h : EX X n fz L env rest Q loc M) : seqQ X n fz L env rest Q .next loc M := h
theorem seq_ret {Q : QF} {rest : List Stmt} {v : Value} (h : Q (.ret v) loc M) : seqQ X n fz L env rest Q (.ret v) loc M := h

theorem E1_Break {Q : QF} {pos : Pos} (h : Q .brk loc M) : E1 X n fz L env (.Break pos) Q loc M :=
  fun _ s _ f _ => wpAny_Break ⟨loc, M, f, Like.refl s, h⟩
theorem E1_Return {Q : QF} {e : Expr} {pos : Pos} (h : EV X n fz L env e (fun v l m => Q (.ret v) l m) loc M) : E1 X n fz L env (.Return (some e) pos) Q loc M :=
  fun A s r f o => wpAny_Return_some (wpAny_mono (h A s r f o) (fun _ _ q => q) (fun _ _ e => e))
theorem E1_Expr {Q : QF} {e : Expr} {pos : Pos} (h : EV X n fz L env e (fun _ l m => Q .next l m) loc M)
    (hi : interactive env = false := by rfl) (hs : swapsWith e none pos.line env = pure false := by rfl) : E1 X n fz L env (.Expr e pos) Q loc M :=
  fun A s r f o => wpAny_Expr_any (wpAny_mono (h A s r f o) (fun _ _ q => q) (fun _ _ e => e)) hi hs
theorem E1_If {Q : QF} {test : Expr} {body orelse : List Stmt} {pos : Pos} (h : TV X n fz L env test (fun b l m => (b = true → EX X n fz L env body Q l m) ∧ (b = false → EX X n fz L env orelse Q l m)) loc M) :
    E1 X n fz L env (.If test body orelse pos) Q loc M :=
  fun A s r f o => wpAny_If (wpAny_mono (h _ rfl A s r f o) (fun b s' w => obEEAA w fun l' M' f' k' q => by
    cases b
    · exact WT.use (q.2 rfl) r f' k' o
    · exact WT.use (q.1 rfl) r f' k' o) (fun _ _ e => e))
theorem E1_Assert {Q : QF} {test : Expr} {msg : Option Expr} {pos : Pos} (h : TV X n fz L env test (fun b l m => b = true ∧ Q .next l m) loc M) :
    E1 X n fz L env (.Assert test msg pos) Q loc M :=
  fun A s r f o => wpAny_Assert_holds (wpAny_mono (h _ rfl A s r f o) (fun _ _ w => obEEAA w fun l' M' f' k' q => ⟨q.1, l', M', f', k', q.2⟩) (fun _ _ e => e))
theorem E1_AssignName {Q : QF} {x : Str} {p pos : Pos} {e : Expr} (h : EV X n fz L env e (fun v l m => ST X n fz L env x v (fun l m => Q .next l m) l m) loc M)
    (hs : swapsWith e (some (.Name x p)) pos.line env = pure false := by rfl) : E1 X n fz L env (.Assign [.Name x p] e pos) Q loc M :=
  fun A s r f o => wpAny_Assign_Name (wpAny_mono (h A s r f o) (fun _ _ w => obEEAA w fun _ _ f' k' q => wpAny_mono (WT.use (q _ rfl) r f' k' o) (fun _ _ q => q) (fun _ _ e => e)) (fun _ _ e => e)) hs
theorem E1_AssignAttr {Q : QF} {ob : Expr} {attr : Str} {p pos : Pos} {e : Expr} (h : EV X n fz L env e (fun v l m => EV X n fz L env ob (fun ov l m => SA X n fz L ov attr v (fun l m => Q .next l m) l m) l m) loc M)
    (hs : swapsWith e (some (.Attribute ob attr p)) pos.line env = pure false := by rfl) : E1 X n fz L env (.Assign [.Attribute ob attr p] e pos) Q loc M :=
  fun A s r f o => plainObj_wpAny_Assign_Attribute (wpAny_mono (h A s r f o) (fun _ _ w => obEEAA w fun _ _ f' k' q => wpAny_mono (WT.use q r f' k' o) (fun _ _ w => obEEAA w fun _ _ f' k' q =>
    wpAny_mono (WT.use (q _ _ rfl rfl) r f' k' o) (fun _ _ q => q) (fun _ _ e => e)) (fun _ _ e => e)) (fun _ _ e => e)) hs
theorem E1_AugAttr {Q : QF} {ob : Expr} {attr : Str} {p pos : Pos} {op : Operator} {e : Expr}
    (h : EV X n fz L env ob (fun ov l m => O1 X n fz L (fun o => getAttr o attr true) ov (fun a l m => EV X n fz L env e (fun b l m => O2 X n fz L (inplaceOp op) a b (fun v l m => SA X n fz L ov attr v (fun l m => Q .next l m) l m) l m) l m) l m) loc M) :
    E1 X n fz L env (.AugAssign (.Attribute ob attr p) op e pos) Q loc M :=
  fun A s r f o => wpAny_AugAssign_AttributeAny (wpAny_mono (h A s r f o) (fun _ _ w => obEEAA w fun _ _ f' k' q => wpAny_mono (WT.use (q _ rfl) r f' k' o) (fun _ _ w => obEEAA w fun _ _ f' k' q =>
    wpAny_mono (WT.use q r f' k' o) (fun _ _ w => obEEAA w fun _ _ f' k' q => wpAny_mono (WT.use (q _ _ rfl rfl) r f' k' o) (fun _ _ w => obEEAA w fun _ _ f' k' q => wpAny_mono (WT.use (q _ _ rfl rfl) r f' k' o) (fun _ _ q => q) (fun _ _ e => e)) (fun _ _ e => e)) (fun _ _ e => e)) (fun _ _ e => e)) (fun _ _ e => e))

structure Fun (env : Env) (L : Addr) : Prop where
  kind : env.scope.kind = .function
  loc : env.locals = L
  glob : env.globals = mainGlobals
  bi : env.builtins = builtinsNs

theorem EV_local {Q : QV} {x : Str} {p : Pos} {v : Value} (hE : Fun env L) (hx : env.kindOf x = some .local) (hv : loc x = some v) (h : Q v loc M)
    (hd : (x == ("__debug__" : Str)) = false := by decide) : EV X n fz L env (.Name x p) Q loc M := fun A s r f o => by
  (refine obEA (f.ns) ?_; intro m hn he)
  have hm := he x
  rw [hv] at hm
  (refine obEA (Option.map_eq_some_iff.mp hm) ?_; intro v' e1 e2)
  refine wpAny_Name (wpAny_loadName_local hE.kind hx (hE.loc ▸ hn) e1 ⟨loc, M, f, Like.refl s, ?_⟩) hd
  show Q (er v') loc M
  rw [e2]; exact h
theorem EV_global {Q : QV} {x : Str} {p : Pos} {v : Value} (hE : Fun env L) (hx : env.kindOf x = some .globalImplicit) (hv : nsIn X.K mainGlobals x = some (some v)) (h : Q (er v) loc M)
    (hd : (x == ("__debug__" : Str)) = false := by decide) : EV X n fz L env (.Name x p) Q loc M := fun A s r f o =>
  Name_function_global hE.kind hx (loadGlobal_global (hE.glob ▸ X.R.g.keeps f.topKeep) (mg_of X.X X.R.g hv) ⟨loc, M, f, Like.refl s, h⟩) hd
theorem EV_builtin {Q : QV} {x : Str} {p : Pos} {v : Value} (hE : Fun env L) (hx : env.kindOf x = some .globalImplicit) (hv : nsIn X.K mainGlobals x = some none) (hb : bootBuiltins x = some v) (h : Q (er v) loc M)
    (hn : x ≠ "__name__" := by decide) (hd : (x == ("__debug__" : Str)) = false := by decide) : EV X n fz L env (.Name x p) Q loc M := fun A s r f o =>
  Name_function_global hE.kind hx (loadGlobal_builtin (hE.glob ▸ X.R.g.keeps f.topKeep) (mg_none_of X.X X.R.g hv) (hE.bi ▸ X.R.b.keeps f.topKeep) ((X.R.builtins x hn).trans hb) ⟨loc, M, f, Like.refl s, h⟩) hd
theorem ST_local {Q : Loc → Mem → Prop} {x : Str} {v : Value} (hE : Fun env L) (hx : env.kindOf x = some .local) (h : Q (setL loc x v) M) : ST X n fz L env x v Q loc M := fun vv hv A s r f o => by
  (refine obEA (f.ns) ?_; intro m hn he)
  refine wpAny_storeName_local hx (hE.loc ▸ hn) (fun h' hn' hs => ⟨setL loc x v, M, f.store (hE.loc ▸ hs) (hE.loc ▸ hn') (fun y => ?_), Like.mk' s _ _ (Nat.le_succ _), h⟩) ?_
  · unfold setL
    by_cases hy : y = x
    · simp [hy, hv]
    · simp [hy, he]
  · rw [hE.kind]; rfl
end
end Mine
end
section
set_option linter.unusedVariables false
namespace Mine
open PySem PySem.W PySem.Calls PyProof.Rows

section
variable {X : Cx} {n : Nat} {fz : Frz} {L : Addr} {loc : Loc} {M : Mem} {env : Env}

noncomputable abbrev QL := List Value → Loc → Mem → Prop

noncomputable def AR (X : Cx) (n : Nat) (fz : Frz) (L : Addr) (env : Env) : List Expr → QL → Loc → Mem → Prop
  | [], Q => Q []
  | e :: r, Q => EV X n fz L env e (fun v => AR X n fz L env r (fun vs => Q (v :: vs)))

theorem star_cons {e : Expr} {r : List Expr} (h : isStarred e = false) : starEach (e :: r) env = (false, eval e env) :: starEach r env := by
  cases e <;> first | rfl | cases h
theorem noStar_any {pos : Pos} : ∀ {es : List Expr}, es.any isStarred = false → (backTo pos (starEach es env)).any (·.1) = false
  | [], _ => rfl
  | e :: r, h => by
    rw [List.any_cons, Bool.or_eq_false_iff] at h
    rw [star_cons h.1]
    show (false || (backTo pos (starEach r env)).any (·.1)) = false
    rw [noStar_any h.2]; rfl

theorem AR_spliced {pos : Pos} : ∀ {es : List Expr} {Q : QL} {loc : Loc} {M : Mem}, es.any isStarred = false → AR X n fz L env es Q loc M →
    WT X n fz L (spliced (backTo pos (starEach es env))) (fun vs l m => Q (vs.map er) l m) loc M
  | [], Q, loc, M, _, h => fun A s r f o => wpAny_items_nil ⟨loc, M, f, Like.refl s, h⟩
  | e :: r, Q, loc, M, hs, h => fun A s rm f o => by
    rw [List.any_cons, Bool.or_eq_false_iff] at hs
    refine wpAny_items_cons (wpAny_mono (h A s rm f o) (fun v s₁ w => obEEAA w fun l' M' f' k' q => ?_) fun _ _ e => e) (star_cons hs.1)
    exact WT.use (AR_spliced (pos := pos) hs.2 q) rm f' k' o

noncomputable def CA (X : Cx) (n : Nat) (fz : Frz) (L : Addr) (f : Value) (args : List Value) (Q : QV) (loc : Loc) (M : Mem) : Prop :=
  ∀ vs, vs.map er = args → WT X n fz L (call f vs) (fun v l m => Q (er v) l m) loc M

noncomputable def KeepOk (X : Cx) (f : Value) : Prop := (∃ id, f = .builtin id) ∨ (∃ T, f = .type T) ∨ keepIn X.K f = true
theorem KeepOk.of {f : Value} (h : KeepOk X f) {M : Model} (hh : Heap) (x : X.K.In hh) : ∃ k, (k = Keeper.frame ∨ k = Keeper.machine ∨ k = Keeper.boundFrame) ∧ Looks M hh (keeperOf f) k := by
  rcases h with ⟨id, rfl⟩ | ⟨T, rfl⟩ | h
  · exact ⟨.machine, .inr (.inl rfl), Looks.of_pure rfl⟩
  · exact ⟨.machine, .inr (.inl rfl), Looks.of_pure rfl⟩
  · exact keeps_K h hh x

noncomputable def CW (X : Cx) (n : Nat) (fz : Frz) (L : Addr) (env : Env) (pos : Pos) (f : Value) (first : List Value) (args : List Expr) (Q : QV) (loc : Loc) (M : Mem) : Prop :=
  ∀ fv fs, er fv = f → fs.map er = first → WT X n fz L (callWith pos fv fs (backTo pos (starEach args env)) []) (fun v l m => Q (er v) l m) loc M

theorem er_callee {f fv : Value} (h : KeepOk X f) (e : er fv = f) : fv = f := by
  rcases h with ⟨id, rfl⟩ | ⟨T, rfl⟩ | h
  · exact er_builtin e
  · exact er_type e
  · unfold keepIn at h
    split at h
    · exact er_ref e
    · cases h

theorem CW_go {Q : QV} {pos : Pos} {f : Value} {first : List Value} {args : List Expr} (hk : KeepOk X f) (h : AR X n fz L env args (fun vs l m => CA X n fz L f (first ++ vs) Q l m) loc M)
    (hs : args.any isStarred = false := by rfl) : CW X n fz L env pos f first args Q loc M := fun fv fs e1 e2 A s r ff o => by
  have e1 := er_callee hk e1
  subst e1
  refine callWith_of (P := X.K.In) (by rw [noStar_any hs]; rfl) (fun hh x => hk.of hh x) ?_
  have fin : ∀ vs l' M' s₁, FV X fz L l' M' s₁.heap → Like s s₁ → CA X n fz L fv (first ++ vs.map er) Q l' M' →
      X.K.In s₁.heap ∧ wpAny (model X.prog X.w) A (call fv (fs ++ vs) []) (fun v s' => ∃ loc' M', FV X fz L loc' M' s'.heap ∧ Like s s' ∧ Q (er v) loc' M') (fun _ _ => False) s₁ :=
    fun vs l' M' s₁ f' k' q => ⟨f'.kin, WT.use (q (fs ++ vs) (by rw [List.map_append, e2])) r f' k' o⟩
  cases args with
  | nil => exact evalArgs_nil3 (by simpa using fin [] loc M s ff (Like.refl s) (by simpa [AR] using h))
  | cons e rest =>
    have hs' := hs
    rw [List.any_cons, Bool.or_eq_false_iff] at hs'
    rw [star_cons hs'.1]
    refine evalArgs_plain ?_
    have sp := AR_spliced (pos := pos) hs h A s r ff o
    rw [star_cons hs'.1] at sp
    exact wpAny_mono sp (fun vs s₁ w => obEEAA w fun l' M' f' k' q => fin vs l' M' s₁ f' k' q) fun _ _ e => e

noncomputable def GM (X : Cx) (n : Nat) (fz : Frz) (L : Addr) (name : Str) (o : Value) (Q : Value → List Value → Loc → Mem → Prop) (loc : Loc) (M : Mem) : Prop :=
  ∀ vo pl, er vo = o → WT X n fz L (getMethod vo name pl) (fun p l m => Q (er p.1) (p.2.map er) l m) loc M

theorem EV_mcall {Q : QV} {o : Expr} {name : Str} {apos pos : Pos} {args : List Expr} {pl : Sem Bool}
    (h : EV X n fz L env o (fun ov l m => GM X n fz L name ov (fun f first l m => CW X n fz L env pos f first args Q l m) l m) loc M)
    (he : eval (.Call (.Attribute o name apos) args [] pos) env = (do
      let ov ← eval o env
      standAt apos.atName
      let (f, first) ← holding [ov] (getMethod ov name pl)
      callWith pos f first (backTo pos (starEach args env)) []) := by rfl) :
    EV X n fz L env (.Call (.Attribute o name apos) args [] pos) Q loc M := fun A s r f o =>
  MethodCall_ (wpAny_mono (h A s r f o) (fun _ _ w => obEEAA w fun _ _ f' k' q => wpAny_mono (WT.use (q _ _ rfl) r f' k' o) (fun _ _ w => obEEAA w fun _ _ f' k' q => WT.use (q _ _ rfl rfl) r f' k' o) (fun _ _ e => e)) (fun _ _ e => e)) he
theorem EV_ncall {Q : QV} {x : Str} {p pos : Pos} {args : List Expr}
    (h : EV X n fz L env (.Name x p) (fun f l m => CW X n fz L env pos f [] args Q l m) loc M) : EV X n fz L env (.Call (.Name x p) args [] pos) Q loc M := fun A s r f o =>
  wpAny_Call_NameR (wpAny_mono (h A s r f o) (fun _ _ w => obEEAA w fun _ _ f' k' q => WT.use (q _ _ rfl rfl) r f' k' o) (fun _ _ e => e))

noncomputable def CL (X : Cx) (n : Nat) (f : Value) (args : List Value) (Q : Value → Mem → Prop) (M : Mem) : Prop :=
  ∀ fz A s vs, Room A n → vs.map er = args → GV X fz M s.heap → 1 ≤ s.toks →
    codeAny (model X.prog X.w) A (.call f ⟨vs, []⟩) (fun r s' => ∃ v M', r = .ok (.ret v) ∧ GV X fz M' s'.heap ∧ Like s s' ∧ Q (er v) M') s

theorem CL.mono {f : Value} {args : List Value} {Q Q' : Value → Mem → Prop} (h : CL X n f args Q M) (k : ∀ v m, Q v m → Q' v m) : CL X n f args Q' M :=
  fun fz A s vs r e g o => codeAny_mono (h fz A s vs r e g o) fun r s' ⟨v, M', e, g', l, q⟩ => ⟨v, M', e, g', l, k _ _ q⟩

theorem CA_CL {f : Value} {args : List Value} {Q : QV} {k : Nat} (h : CL X k f args (fun v m => Q v loc m) M) (hk : k ≤ n) : CA X n fz L f args Q loc M := fun vs e A s r F o => by
  (refine obE (F) ?_; intro own F)
  (refine obEA (F.loc) ?_; intro m hz1 he; refine dn fun hG0 => ?_; obtain ⟨oL, es, ep, hL, hd⟩ := hz1; refine hG0 ?_; clear hG0)
  let fz' : Frz := fun b => if b = L then some oL else fz b
  have g : GV X fz' M s.heap := ⟨own, ⟨fun b o e => by
      have q := F.inv.top b o e
      have : b ≠ L := fun z => by rw [z, F.fzL] at q; cases q
      show (if b = L then _ else _) = _
      rw [if_neg this]; exact q,
    fun b o e => by
      by_cases hb : b = L
      · subst hb
        have : some oL = some o := (if_pos rfl : fz' b = some oL).symm.trans e
        cases this
        exact ⟨hL, F.ownL⟩
      · have : fz b = some o := (if_neg hb : fz' b = fz b).symm.trans e
        exact F.inv.fz b o this, F.inv.rep⟩⟩
  refine wpAny_call (codeAny_mono (h fz' A s vs (r.le hk) e g o) fun r s' ⟨v, M', e, g', l, q⟩ => ?_)
  subst e
  (refine obE (g') ?_; intro own' I)
  have hL' := I.fz L oL (if_pos rfl)
  have fzz : ∀ b o, fz b = some o → fz' b = some o := fun b o e => by
    have : b ≠ L := fun z => by rw [z, F.fzL] at e; cases e
    exact (if_neg this).trans e
  exact ⟨loc, M', ⟨own', ⟨fun b o e => F.inv.top b o e, fun b o e => I.fz b o (fzz b o e), I.rep⟩, hL'.2, F.fzL, m, ⟨oL, es, ep, hL'.1, hd⟩, he⟩, l, q⟩

noncomputable def bindL (binds : List (Str × Value)) : Loc := fun x => binds.reverse.lookup x
theorem lookup_er (l : List (Str × Value)) (x : Str) : (l.lookup x).map er = (l.map fun p => (p.1, er p.2)).lookup x := by
  induction l with
  | nil => rfl
  | cons p r ih =>
    (refine dn fun hG0 => ?_; obtain ⟨a, b⟩ := p; refine hG0 ?_; clear hG0)
    simp only [List.lookup_cons, List.map_cons]
    cases x == a <;> simp [ih]

noncomputable def retOf : Flow → Value
  | .ret v => v
  | _ => .none

theorem CL_fn {Q : Value → Mem → Prop} {args : List Value} {binds : List (Str × Value)} {a : Addr} {oc : Value} {od : Option Addr} {osl : Array (Option Value)}
    {name qual : Str} {params : Arguments} {body : List Stmt} {scope : Scope} {dV kV doc pm cdv ct : Value} {an : Option Addr}
    (ho : X.K.lookup a = some ⟨oc, od, .func (fnOf name qual params body scope dV kV doc pm an cdv ct), osl⟩) (hcd : codeIn X.K cdv qual = true)
    (hb : ∀ vs, vs.map er = args → ∃ cb, (∀ s, X.K.In s.heap → BindsTo s (fnOf name qual params body scope dV kV doc pm an cdv ct) ⟨vs, []⟩ cb) ∧ cb.map (fun p => (p.1, er p.2)) = binds)
    (hloc : (binds.all fun y => decide (scope.names.lookup y.1 = some .local)) = true)
    (h : ∀ fz L env, Fun env L → env = callEnv (fnOf name qual params body scope dV kV doc pm an cdv ct) L a → EX X n fz L env body (fun f _ m => Q (retOf f) m) (bindL binds) M)
    (hco : scope.isCoroutine = false := by rfl) (hgen : scope.isGenerator = false := by rfl) (hk : scope.kind = .function := by rfl)
    (hcell : (scope.names.all fun x => decide (x.2 ≠ .cell)) = true := by rfl) : CL X (n + 1) (.ref a) args Q M := fun fz A s vs r e g o => by
  (refine obEA (hb vs e) ?_; intro cb hb hbe)
  have hx := g.kin
  have hcbloc : ∀ x ∈ cb, scope.names.lookup x.1 = some .local := fun x hx => by
    have this : (x.1, er x.2) ∈ binds := hbe ▸ List.mem_map_of_mem (f := fun p : Str × Value => (p.1, er p.2)) hx
    exact of_decide_eq_true (List.all_eq_true.mp hloc (x.1, er x.2) this)
  refine codeAny_call_def (fd := fnOf name qual params body scope dV kV doc pm an cdv ct) (body := body) (binds := cb) (by have := r.depth; (lia)) (hx _ _ ho) rfl (X.R.nolimit.keeps g.topKeep) (codeRec_of hx hcd) rfl (hb s hx)
    (fun x hx => of_decide_eq_true (List.all_eq_true.mp hcell x hx)) hcbloc (fun h₁ hns hk₁ => ?_) hco hgen hk
  (refine obE (g) ?_; intro own I)
  let own' : Addr → Option Addr := fun b => if b = s.heap.objs.size then none else own b
  have oo : ∀ b x, s.heap.get? b = some x → own' b = own b := fun b x e => if_neg (Nat.ne_of_lt (Heap.lt_size e))
  have FF : FV X fz s.heap.objs.size (bindL binds) M h₁ := ⟨own', ⟨I.top, fun b o e => ⟨hk₁ _ _ (I.fz b o e).1, (oo _ _ (I.fz b o e).1).trans (I.fz b o e).2⟩,
      fun b o e => ⟨(if_neg (Nat.ne_of_lt (I.rep b o e).2.lt)).trans (I.rep b o e).1, (I.rep b o e).2.mono (fun _ _ q _ => hk₁ _ _ q) (fun b x q w => (oo b x q).trans w) (I.rep b o e).1⟩⟩, if_pos rfl,
    by
      cases q : fz s.heap.objs.size with
      | none => rfl
      | some x => exact absurd (Heap.lt_size (I.fz _ _ q).1) (Nat.lt_irrefl _),
    _, hns, fun x => by
      show Option.map er (cb.reverse.lookup x) = binds.reverse.lookup x
      rw [lookup_er, List.map_reverse, hbe]⟩
  have w := h fz s.heap.objs.size (callEnv (fnOf name qual params body scope dV kV doc pm an cdv ct) s.heap.objs.size a) ⟨hk, rfl, rfl, rfl⟩ rfl (A.deeper (callEnv (fnOf name qual params body scope dV kV doc pm an cdv ct) s.heap.objs.size a))
    { s with heap := h₁, toks := s.toks + cb.length } r.deeper FF (Nat.le_trans o (Nat.le_add_right _ _))
  refine wpAny_mono w (fun f s' hq => ?_) (fun _ _ e => e.elim)
  (refine obEEAA (hq) ?_; intro l' M' f' k' q)
  refine ⟨_, M', rfl, f'.gv, (Like.mk' s _ _ (Nat.le_add_right _ _)).trans k', ?_⟩
  cases f <;> exact q
end
end Mine
end
section
set_option linter.unusedVariables false
namespace Mine
open PySem PySem.W PySem.Calls PyProof.Rows

section
variable {X : Cx} {n : Nat} {fz : Frz} {L : Addr} {loc : Loc} {M : Mem} {env : Env} {a C : Addr} {k : Nat} {f : Str → Option Value} {name : Str} {v : Value}

structure FieldOk (K : Frag) (C : Addr) (name : Str) : Prop where
  get : plainGet K C name = true
  dict : hasDictIn K C = true
  attr : ∃ attr, findIn K (.ref C) name = some attr ∧ noGet K attr = true
structure StoreOk (K : Frag) (C : Addr) (name : Str) : Prop where
  set : findIn K (.ref C) "__setattr__" = some (some (.builtin "object.__setattr__"))
  over : plainOver K C = true
  taker : takerIn K C name = some none
  dict : hasDictIn K C = true
structure MethOk (K : Frag) (C : Addr) (name : Str) (g : Addr) : Prop where
  get : plainGet K C name = true
  dict : hasDictIn K C = true
  find : findIn K (.ref C) name = some (some (.ref g))
  fn : isFn K (.ref g) = true
  gget : specialIn K (.ref g) "__get__" = some (some (.builtin "function.__get__"))
  takes : takesIn K (.ref g) = some false
  copied : copiedNames.contains name = false
structure ClsOk (K : Frag) (C : Addr) (name : Str) (v : Value) : Prop where
  get : plainGet K C name = true
  dict : hasDictIn K C = true
  find : findIn K (.ref C) name = some (some v)
  nget : specialIn K v "__get__" = some none
  handed : handedIn v = true
  copied : copiedNames.contains name = false

theorem keysOk_noRef {P : Params} {es : List DictEntry} (h : KeysOk P es) : es.any (·.refKey) = false := by
  rw [List.any_eq_false]
  intro e he
  (refine obEEA (h e he) ?_; intro x t e1 _)
  unfold DictEntry.refKey
  rw [e1]; simp
theorem getL_of {P : Params} {es : List DictEntry} (h : KeysOk P es) (x : Str) : getL x es = some (fieldOf es x) := by
  unfold getL fieldOf
  cases q : es.find? (·.key.isStr x) with
  | some e => rfl
  | none => simp only [keysOk_noRef h]; rfl

theorem handed_er {v w : Value} (e : er v = w) (h : handedIn w = true) : handedIn v = true := by
  subst e; cases v <;> first | rfl | exact h

theorem GA_field {Q : QV} (hm : M a = some (.inst C k f)) (hf : f name = some v) (ok : FieldOk X.K C name) (h : Q v loc M) (hh : handedIn v = true := by rfl) :
    O1 X n fz L (fun o => getAttr o name true) (.ref a) Q loc M := fun va e A s r F o => by
  have e := er_ref e
  subst e
  have kin := F.kin
  (refine obE (id F) ?_; intro own I)
  (refine obAEEEAAAAAA (I.inv.rep a _ hm) ?_; intro _ dx es nn h1 h2 h3 h4 h5 h6 h7)
  have hx := h7 name
  rw [hf] at hx
  (refine obEA (Option.map_eq_some_iff.mp hx) ?_; intro v' e1 e2)
  (refine obEA (ok.attr) ?_; intro attr ha hn)
  refine get_value kin (⟨h1, rfl, rfl, h4⟩ : InstAt s.heap a (instObj C dx) C (some (dictOf es nn))) (plainGet_of ok.get).1
    (findObj_own ok.dict ha hn (by rw [lookIn_dict, getL_of h5, e1])) (handed_er e2 hh) ⟨loc, M, F, Like.tokn s _ (Nat.le_succ _), ?_⟩
  show Q (er v') loc M
  rw [e2]; exact h

theorem GA_cls {Q : QV} (hm : M a = some (.inst C k f)) (hf : f name = none) (ok : ClsOk X.K C name v) (h : Q (er v) loc M) :
    O1 X n fz L (fun o => getAttr o name true) (.ref a) Q loc M := fun va e A s r F o => by
  have e := er_ref e
  subst e
  have kin := F.kin
  (refine obE (id F) ?_; intro own I)
  (refine obAEEEAAAAAA (I.inv.rep a _ hm) ?_; intro _ dx es nn h1 h2 h3 h4 h5 h6 h7)
  have hx := h7 name
  rw [hf, Option.map_eq_none_iff] at hx
  exact get_value kin (⟨h1, rfl, rfl, h4⟩ : InstAt s.heap a (instObj C dx) C (some (dictOf es nn))) (plainGet_of ok.get).1
    (findObj_cls ok.dict ok.find ok.nget ok.handed ok.copied (by rw [lookIn_dict, getL_of h5, hx])) ok.handed ⟨loc, M, F, Like.tokn s _ (Nat.le_succ _), h⟩

theorem GA_bound {Q : QV} {g : Addr} (hm : M a = some (.inst C k f)) (hf : f name = none) (ok : MethOk X.K C name g) (h : ∀ q, Q (.ref q) loc M) :
    O1 X n fz L (fun o => getAttr o name true) (.ref a) Q loc M := fun va e A s r F o => by
  have e := er_ref e
  subst e
  have kin := F.kin
  (refine obE (id F) ?_; intro own I)
  (refine obAEEEAAAAAA (I.inv.rep a _ hm) ?_; intro _ dx es nn h1 h2 h3 h4 h5 h6 h7)
  have hx := h7 name
  rw [hf, Option.map_eq_none_iff] at hx
  refine get_bind kin (⟨h1, rfl, rfl, h4⟩ : InstAt s.heap a (instObj C dx) C (some (dictOf es nn))) (plainGet_of ok.get).1
    (findObj_fn ok.dict ok.find ok.gget ok.takes ok.copied (by rw [lookIn_dict, getL_of h5, hx])) (plainGet_of ok.get).2
    (wpAny_call (fn_get (s := { s with toks := s.toks + 1 }) kin (beq_iff_eq.mp ok.fn) (handed_on rfl ⟨loc, M, F.ext (Ext.push _ _), Like.mk' s _ _ (Nat.le_succ _), h _⟩)))

theorem EV_attr {Q : QV} {o : Expr} {pos : Pos} (h : EV X n fz L env o (fun ov l m => O1 X n fz L (fun o => getAttr o name true) ov Q l m) loc M)
    (he : ∀ M : Model, eval (.Attribute o name pos) env = (do
      let o' ← eval o env
      standAt pos.atName
      let r ← holding [o'] (getAttr o' name true)
      letTemporaryGo o o' r
      pure r) := by intro _; with_unfolding_all rfl) : EV X n fz L env (.Attribute o name pos) Q loc M := fun A s r f o =>
  Attribute_any_ (wpAny_mono (h A s r f o) (fun _ _ w => obEEAA w fun _ _ f' k' q => WT.use (q _ rfl) r f' k' o) (fun _ _ e => e)) (he (model X.prog X.w))

theorem GM_meth {Q : Value → List Value → Loc → Mem → Prop} {g : Addr} (hm : M a = some (.inst C k f)) (hf : f name = none) (ok : MethOk X.K C name g) (h : Q (.ref g) [.ref a] loc M) :
    GM X n fz L name (.ref a) Q loc M := fun vo pl e A s r F o => by
  have e := er_ref e
  subst e
  have kin := F.kin
  (refine obE (id F) ?_; intro own I)
  (refine obAEEEAAAAAA (I.inv.rep a _ hm) ?_; intro _ dx es nn h1 h2 h3 h4 h5 h6 h7)
  have hx := h7 name
  rw [hf, Option.map_eq_none_iff] at hx
  exact method_fn kin (⟨h1, rfl, rfl, h4⟩ : InstAt s.heap a (instObj C dx) C (some (dictOf es nn))) (plainGet_of ok.get).1 (plainGet_of ok.get).2 ok.find (beq_iff_eq.mp ok.fn)
    (by show (lookIn name (dictOf es nn)).map _ = _; rw [lookIn_dict, getL_of h5, hx]; rfl) ⟨loc, M, F, Like.refl s, h⟩

theorem fieldOf_putL {P : Params} {es : List DictEntry} (h : KeysOk P es) (hsh : Int) (t : Tok) (v : Value) (x : Str) :
    fieldOf (putL name hsh (.str name t) v es) x = if x = name then some v else fieldOf es x := by
  have key : ∀ (y z : Str) (tt : Tok), (Value.str y tt).isStr z = decide (y = z) := fun y z tt => by
    show (y == z) = _
    by_cases q : y = z <;> simp [q]
  induction es with
  | nil =>
    unfold fieldOf
    simp only [putL, List.find?_cons, List.find?_nil, key]
    by_cases q : x = name
    · simp [q]
    · have : ¬ name = x := fun z => q z.symm
      simp [q, this]
  | cons e r ih =>
    have ih := ih (fun e he => h e (List.mem_cons_of_mem _ he))
    (refine obEEA (h e (List.mem_cons_self)) ?_; intro y u e1 e2)
    (refine dn fun hG0 => ?_; obtain ⟨eh, ek, ev⟩ := e; refine hG0 ?_; clear hG0)
    dsimp only at e1 e2
    subst e1
    unfold fieldOf at ih ⊢
    simp only [putL, key]
    by_cases q : y = name
    · subst q
      simp only [decide_true, if_true, List.find?_cons, key]
      by_cases z : y = x
      · subst z; simp
      · have : ¬ x = y := fun w => z w.symm
        simp [z, this]
    · simp only [q, decide_false, Bool.false_eq_true, if_false, List.find?_cons, key]
      by_cases z : y = x
      · subst z; simp [q]
      · simp only [z, decide_false]
        exact ih
theorem keysOk_putL {P : Params} {es : List DictEntry} (h : KeysOk P es) (t : Tok) (v : Value) : KeysOk P (putL name (PyData.keyHash P name) (.str name t) v es) := by
  induction es with
  | nil =>
    intro e he
    rcases List.mem_singleton.mp he with rfl
    exact ⟨name, t, rfl, rfl⟩
  | cons e r ih =>
    have ih := ih (fun e he => h e (List.mem_cons_of_mem _ he))
    have he := h e (List.mem_cons_self)
    unfold putL
    split
    · intro e' he'
      rcases List.mem_cons.mp he' with rfl | q
      · exact he
      · exact h e' (List.mem_cons_of_mem _ q)
    · intro e' he'
      rcases List.mem_cons.mp he' with rfl | q
      · exact he
      · exact ih e' q
theorem putL_len {P : Params} {es : List DictEntry} (h : KeysOk P es) (hsh : Int) (t : Tok) (v : Value) :
    (putL name hsh (.str name t) v es).length = if (fieldOf es name).isSome then es.length else es.length + 1 := by
  induction es with
  | nil => rfl
  | cons e r ih =>
    have ih := ih (fun e he => h e (List.mem_cons_of_mem _ he))
    unfold putL fieldOf
    cases q : e.key.isStr name with
    | true => simp [q]
    | false =>
      simp only [Bool.false_eq_true, if_false, List.length_cons, List.find?_cons, q]
      rw [ih]
      unfold fieldOf
      split <;> rfl

theorem SA_go {Q : Loc → Mem → Prop} {k' : Nat} (hm : M a = some (.inst C k f)) (ok : StoreOk X.K C name) (hk : (f name).isSome = true ∧ k' = k ∨ k' = k + 1) (h1000 : k' ≤ 900)
    (h : Q loc (setM M a (.inst C k' (setL f name v)))) : SA X n fz L (.ref a) name v Q loc M := fun vo vv e ev A s r F o => by
  have e := er_ref e
  subst e
  have kin := F.kin
  (refine obE (id F) ?_; intro own I)
  (refine obAEEEAAAAAA (I.inv.rep a _ hm) ?_; intro hown dx es nn h1 h2 h3 h4 h5 h6 h7)
  have II : InstAt s.heap a (instObj C dx) C (some (dictOf es nn)) := ⟨h1, rfl, rfl, h4⟩
  refine set_plain kin II ok.set (osa_open (s := { s with toks := s.toks + 1 }) kin II ok.over ok.taker fun b => ?_)
  (refine obEA (any_some ok.dict) ?_; intro cd hc hd')
  have hlen : (putL name (PyData.keyHash X.w.params name) (.str name (s.toks + 1)) vv es).length ≤ k' := by
    rw [putL_len h5]
    rcases hk with ⟨z, rfl⟩ | rfl
    · have : (fieldOf es name).isSome = true := by
        have q := h7 name
        cases w : fieldOf es name with
        | some _ => rfl
        | none => rw [w] at q; rw [← q] at z; cases z
      rw [if_pos this]; exact h6
    · split <;> (first | lia | omega)
  let fo := Obj.putName name (PyData.keyHash X.w.params name) (.str name (s.toks + 1)) vv
  have efo : fo (dictOf es nn) = dictOf (putL name (PyData.keyHash X.w.params name) (.str name (s.toks + 1)) vv es) (putN name es nn) := putName_dict _ _ _ _ _ _
  have hs : Heap.SameBut dx s.heap (s.heap.update dx fo) := Heap.SameBut.update ..
  have hD : (s.heap.update dx fo).get? dx = some (dictOf (putL name (PyData.keyHash X.w.params name) (.str name (s.toks + 1)) vv es) (putN name es nn)) := by
    have q : (s.heap.update dx fo).get? dx = some (fo (dictOf es nn)) := Heap.get?_update_self fo h4 (by rw [efo]; rfl)
    rw [q, efo]
  refine wpAny_bind (wpAny_pure (wpAny_bind (wpAny_bind (wpAny_loadPart h1 (wpAny_bind (looks_clsIn kin hc _ _ _ _ (fun _ _ e => e) ?_))))))
  rw [hd']
  refine wpAny_pure (a := some dx) (wpAny_bind (wpAny_pure (wpAny_bind ?_)))
  unfold nsSet
  refine wpAny_bind (wpAny_bind (wpAny_askSetting (wpAny_pure (wpAny_bind (wpAny_mkText (wpAny_bind (wpAny_loadPart h4 ?_)))))))
  have c : (!es.toArray.any (·.key.isStr name) && es.toArray.any (·.refKey)) = false := by
    rw [← Array.any_toList, ← Array.any_toList, keysOk_noRef h5, Bool.and_false]
  dsimp only [dictOf]
  rw [aRefKeyMayBeTheName_at, c]
  refine wpAny_updatePart h4 ?_
  refine wpAny_bind (wpAny_lookBehind hD (pastItsLine_dict (by rw [List.size_toArray, sizeLine_eq]; (lia))) ?_)
  refine wpAny_pure ⟨loc, _, ⟨own, FV.change I h2 (fun c hc => hs.2 c hc) ?_ hown⟩, Like.mk' s _ _ (by simp only []; (lia)), h⟩
  refine ⟨dx, _, _, (hs.2 a (Ne.symm h3)).trans h1, h2, h3, hD, keysOk_putL h5 _ _, hlen, fun x => ?_⟩
  rw [fieldOf_putL h5]
  unfold setL
  by_cases q : x = name
  · simp [q, ev]
  · simp [q, h7]
end
end Mine
end
section
set_option linter.unusedVariables false
namespace Mine
open PySem PySem.W PySem.Calls PyProof.Rows

noncomputable def mkS (l : List Nat) : Str := ⟨l.toArray⟩
@[simp] theorem mkS_length (l : List Nat) : (mkS l).length = l.length := by simp [mkS, Str.length]
theorem mkS_cps (x : Str) : mkS x.cps.toList = x := by obtain ⟨⟨l⟩⟩ := x; rfl
@[simp] theorem mkS_toList (l : List Nat) : (mkS l).cps.toList = l := rfl
theorem mkS_inj {a b : List Nat} (h : mkS a = mkS b) : a = b := by
  have := congrArg (fun x : Str => x.cps.toList) h
  exact this
theorem mkS_beq (a b : List Nat) : (mkS a == mkS b) = decide (a = b) := by
  by_cases h : a = b
  · simp [h]
  · have : ¬ mkS a = mkS b := fun e => h (mkS_inj e)
    simp [h, this]
theorem mkS_append (a b : List Nat) : mkS a ++ mkS b = mkS (a ++ b) := by
  apply Str.ext'
  rw [Str.cps_append]
  simp [mkS]

noncomputable def clipI (v : Option Int) (d n : Nat) : Nat := match v with
  | none => d
  | some i => if i < 0 then (i + n).toNat else min i.toNat n
noncomputable def pySl {α : Type} (l : List α) (lo hi : Option Int) : List α := (l.take (clipI hi l.length l.length)).drop (clipI lo 0 l.length)

theorem range_pick {α : Type} (l : List α) (a b : Nat) (hb : b ≤ l.length) : ((List.range (b - a)).map (a + ·)).filterMap (l[·]?) = (l.take b).drop a := by
  apply List.ext_getElem?
  intro i
  have key : ∀ (n : Nat) (a : Nat), a + n ≤ l.length → ((List.range n).map (a + ·)).filterMap (l[·]?) = (l.drop a).take n := fun n a h => by
    exact StrLaws.picks l n a h
  by_cases hab : a ≤ b
  · rw [key (b - a) a (by (lia)), List.drop_take]
  · have e : b - a = 0 := by (lia)
    rw [e]
    simp only [List.range_zero, List.map_nil, List.filterMap_nil, List.getElem?_nil]
    rw [List.getElem?_drop, List.getElem?_take]
    split
    · (lia)
    · rfl

theorem clip_eq (v : Option Int) (d n : Nat) (hd : d ≤ n) : ((match v with | none => (d : Int) | some i => (let i := if i < 0 then i + (n : Int) else i; if (1 : Int) > 0 then max 0 (min i n) else max (-1) (min i ((n : Int) - 1)))) : Int) = ((clipI v d n : Nat) : Int) := by
  cases v with
  | none => rfl
  | some i =>
    unfold clipI
    simp only [show ((1 : Int) > 0) = True by decide, if_true]
    split <;> (clear hd; lia)
theorem clipI_le (v : Option Int) (d n : Nat) (hd : d ≤ n) : clipI v d n ≤ n := by
  unfold clipI
  split
  · exact hd
  · split <;> (first | lia | omega)

theorem slice_mkS (l : List Nat) (lo hi : Option Int) : Txt.slice (mkS l) lo hi = mkS (pySl l lo hi) := by
  have hidx : Builtin.Str.strSliceIndices lo hi 1 l.length = (List.range (clipI hi l.length l.length - clipI lo 0 l.length)).map (clipI lo 0 l.length + ·) := by
    have e1 := clip_eq lo 0 l.length (Nat.zero_le _)
    have e2 := clip_eq hi l.length l.length (Nat.le_refl _)
    have : Builtin.Str.strSliceIndices lo hi 1 l.length = sliceRange (clipI lo 0 l.length : Nat) (clipI hi l.length l.length : Nat) 1 := by
      rw [← e1, ← e2]
      rfl
    rw [this]
    exact sliceRange_one _ _
  unfold Txt.slice
  rw [mkS_length, hidx]
  have pick := range_pick l (clipI lo 0 l.length) (clipI hi l.length l.length) (clipI_le _ _ _ (Nat.le_refl _))
  split
  · rename_i h
    simp only [beq_self_eq_true, Bool.true_and, List.length_map, List.length_range, beq_iff_eq] at h
    have h2 := clipI_le hi l.length l.length (Nat.le_refl _)
    unfold pySl
    have a0 : clipI lo 0 l.length = 0 ∨ l.length = 0 := by (lia)
    have b0 : clipI hi l.length l.length = l.length := by (lia)
    rw [b0, List.take_length]
    rcases a0 with a0 | a0
    · rw [a0, List.drop_zero]
    · have : l = [] := List.length_eq_zero_iff.mp a0
      subst this; simp
  · show (⟨(List.filterMap (fun x => (mkS l).cps[x]?) _).toArray⟩ : Str) = _
    have : (fun x : Nat => (mkS l).cps[x]?) = fun x : Nat => l[x]? := by funext x; simp [mkS]
    rw [this, pick]; rfl

section
variable {X : Cx} {n : Nat} {fz : Frz} {L : Addr} {loc : Loc} {M : Mem} {env : Env}

theorem EV_int {Q : QV} {i : Int} {k pos} (h : Q (.int i 0) loc M) : EV X n fz L env (.Constant (.int i) k pos) Q loc M := fun A s r F o =>
  wpAny_Constant_int ⟨loc, M, F, Like.tokn s _ (Nat.le_succ _), h⟩
theorem EV_none {Q : QV} {k pos} (h : Q .none loc M) : EV X n fz L env (.Constant .none k pos) Q loc M := fun A s r F o =>
  wpAny_Constant_none ⟨loc, M, F, Like.refl s, h⟩
theorem EV_bool {Q : QV} {b : Bool} {k pos} (h : Q (.bool b) loc M) : EV X n fz L env (.Constant (.bool b) k pos) Q loc M := fun A s r F o =>
  wpAny_Constant_bool ⟨loc, M, F, Like.refl s, h⟩
theorem EV_str {Q : QV} {x : Str} {l : List Nat} {k pos} (e : x = mkS l) (h : Q (.str (mkS l) 0) loc M) : EV X n fz L env (.Constant (.str x) k pos) Q loc M := fun A s r F o =>
  wpAny_Constant_str ⟨loc, M, F, Like.tokn s _ (Nat.le_succ _), by subst e; exact h⟩

theorem EV_compare {Q : QV} {l op r pos} (h : EV X n fz L env l (fun a lo m => EV X n fz L env r (fun b lo m => O2 X n fz L (compareOp op) a b Q lo m) lo m) loc M)
    (hm : behindInMarks op r = false := by with_unfolding_all rfl) : EV X n fz L env (.Compare l [op] [r] pos) Q loc M := fun A s rm F o =>
  wpAny_Compare1 (wpAny_mono (h A s rm F o) (fun _ _ w => obEEAA w fun _ _ f' k' q => wpAny_mono (WT.use q rm f' k' o) (fun _ _ w => obEEAA w fun _ _ f' k' q => WT.use (q _ _ rfl rfl) rm f' k' o) (fun _ _ e => e)) (fun _ _ e => e)) hm
theorem EV_binop {Q : QV} {l op r pos} (h : EV X n fz L env l (fun a lo m => EV X n fz L env r (fun b lo m => O2 X n fz L (binaryOp op) a b Q lo m) lo m) loc M) :
    EV X n fz L env (.BinOp l op r pos) Q loc M := fun A s rm F o =>
  wpAny_BinOp (wpAny_mono (h A s rm F o) (fun _ _ w => obEEAA w fun _ _ f' k' q => wpAny_mono (WT.use q rm f' k' o) (fun _ _ w => obEEAA w fun _ _ f' k' q => WT.use (q _ _ rfl rfl) rm f' k' o) (fun _ _ e => e)) (fun _ _ e => e))
theorem EV_unop {Q : QV} {op x pos} (h : EV X n fz L env x (fun a lo m => O1 X n fz L (unaryOp op) a Q lo m) loc M) : EV X n fz L env (.UnaryOp op x pos) Q loc M := fun A s rm F o =>
  wpAny_UnaryOp (wpAny_mono (h A s rm F o) (fun _ _ w => obEEAA w fun _ _ f' k' q => WT.use (q _ rfl) rm f' k' o) (fun _ _ e => e))
theorem EV_ifexp {Q : QV} {t b e pos} (h : TV X n fz L env t (fun c lo m => (c = true → EV X n fz L env b Q lo m) ∧ (c = false → EV X n fz L env e Q lo m)) loc M) : EV X n fz L env (.IfExp t b e pos) Q loc M := fun A s rm F o =>
  wpAny_IfExp (wpAny_mono (h _ rfl A s rm F o) (fun c s' w => obEEAA w fun _ _ f' k' q => by
    cases c
    · exact WT.use (q.2 rfl) rm f' k' o
    · exact WT.use (q.1 rfl) rm f' k' o) (fun _ _ e => e))

theorem TV_compare {Q : QB} {l op r pos} (h : EV X n fz L env l (fun a lo m => EV X n fz L env r (fun b lo m => O2 X n fz L (compareOp op) a b (fun c lo m => O1B X n fz L truthy c Q lo m) lo m) lo m) loc M)
    (hm : behindInMarks op r = false := by with_unfolding_all rfl) : TV X n fz L env (.Compare l [op] [r] pos) Q loc M := fun whole hw A s rm F o =>
  wpAny_isTrue_Compare1 (wpAny_mono (h A s rm F o) (fun _ _ w => obEEAA w fun _ _ f' k' q => wpAny_mono (WT.use q rm f' k' o) (fun _ _ w => obEEAA w fun _ _ f' k' q => wpAny_mono (WT.use (q _ _ rfl rfl) rm f' k' o) (fun v _ w => obEEAA w fun _ _ f' k' q => WT.use (q v rfl) rm f' k' o)
    (fun _ _ e => e)) (fun _ _ e => e)) (fun _ _ e => e)) hm
theorem TV_not {Q : QB} {x pos} (h : TV X n fz L env x (fun b lo m => Q (!b) lo m) loc M) : TV X n fz L env (.UnaryOp .Not x pos) Q loc M := fun whole hw A s rm F o =>
  wpAny_isTrue_Not (h _ rfl A s rm F o)
noncomputable def TAll (X : Cx) (n : Nat) (fz : Frz) (L : Addr) (env : Env) (op : BoolOp) (es : List Expr) (Q : QB) (loc : Loc) (M : Mem) : Prop := WT X n fz L (allTrue op es env) Q loc M
theorem TV_boolop {Q : QB} {op es pos} (h : TAll X n fz L env op es Q loc M) : TV X n fz L env (.BoolOp op es pos) Q loc M := fun whole hw A s rm F o => wpAny_isTrue_BoolOp (h A s rm F o)
theorem TAll_and_nil {Q : QB} (h : Q true loc M) : TAll X n fz L env .And [] Q loc M := fun A s rm F o => wpAny_allTrue_And_nil ⟨loc, M, F, Like.refl s, h⟩
theorem TAll_or_nil {Q : QB} (h : Q false loc M) : TAll X n fz L env .Or [] Q loc M := fun A s rm F o => wpAny_allTrue_Or_nil ⟨loc, M, F, Like.refl s, h⟩
theorem TAll_and {Q : QB} {x r} (h : TV X n fz L env x (fun b lo m => (b = true → TAll X n fz L env .And r Q lo m) ∧ (b = false → Q false lo m)) loc M) : TAll X n fz L env .And (x :: r) Q loc M := fun A s rm F o =>
  wpAny_allTrue_And_cons (wpAny_mono (h _ rfl A s rm F o) (fun b s' w => obEEAA w fun l' M' f' k' q => by
    cases b
    · exact ⟨l', M', f', k', q.2 rfl⟩
    · exact WT.use (q.1 rfl) rm f' k' o) (fun _ _ e => e))
theorem TAll_or {Q : QB} {x r} (h : TV X n fz L env x (fun b lo m => (b = true → Q true lo m) ∧ (b = false → TAll X n fz L env .Or r Q lo m)) loc M) : TAll X n fz L env .Or (x :: r) Q loc M := fun A s rm F o =>
  wpAny_allTrue_Or_cons (wpAny_mono (h _ rfl A s rm F o) (fun b s' w => obEEAA w fun l' M' f' k' q => by
    cases b
    · exact WT.use (q.2 rfl) rm f' k' o
    · exact ⟨l', M', f', k', q.1 rfl⟩) (fun _ _ e => e))
theorem TV_value {Q : QB} {e} (h : EV X n fz L env e (fun v lo m => O1B X n fz L truthy v Q lo m) loc M)
    (he : ∀ whole, isTrue e env whole = (do let v ← whole; standAt e.pos; holding [v] (truthy v)) := by intro _; rfl) : TV X n fz L env e Q loc M := fun whole hw A s rm F o => by
  subst hw
  exact wpAny_isTrue_value (wpAny_mono (h A s rm F o) (fun v _ w => obEEAA w fun _ _ f' k' q => WT.use (q v rfl) rm f' k' o) (fun _ _ e => e)) (he _)

theorem TR_bool {Q : QB} {b : Bool} (h : Q b loc M) : O1B X n fz L truthy (.bool b) Q loc M := fun va e A s r F o => by
  rw [er_bool e]; exact wpAny_truthy_bool ⟨loc, M, F, Like.refl s, h⟩
theorem TR_none {Q : QB} (h : Q false loc M) : O1B X n fz L truthy .none Q loc M := fun va e A s r F o => by
  rw [er_none e]; exact fun _ _ _ => ⟨loc, M, F, Like.refl s, h⟩
theorem TR_str {Q : QB} {l : List Nat} (hl : l.length ≤ 16777216) (h : Q (!l.isEmpty) loc M) : O1B X n fz L truthy (.str (mkS l) 0) Q loc M := fun va e A s r F o => by
  (refine obE (er_str e) ?_; intro t hz1; subst hz1)
  refine P.truthy_str (by rw [mkS_length]; (lia)) ⟨loc, M, F, Like.tokn s _ (by (lia)), ?_⟩
  have : (((mkS l).length : Int) != 0) = !l.isEmpty := by
    rw [mkS_length]
    cases l <;> simp
    (lia)
  rw [this]; exact h
theorem TR_list {Q : QB} {a : Addr} {xs : List Value} (hm : M a = some (.lst xs)) (hl : xs.length ≤ 16777216) (h : Q (!xs.isEmpty) loc M) : O1B X n fz L truthy (.ref a) Q loc M := fun va e A s r F o => by
  rw [er_ref e]
  (refine obE (id F) ?_; intro own I)
  (refine obAEA (I.inv.rep a _ hm) ?_; intro _ vs h1 h2)
  have h1 := h1.isList
  have hs : vs.size = xs.length := by rw [← h2, List.length_map, Array.length_toList]
  refine wpAny_truthy_list h1 (by (lia)) ?_
  have e : (!vs.isEmpty) = !xs.isEmpty := by
    have : vs.isEmpty = xs.isEmpty := by
      rw [Bool.eq_iff_iff, Array.isEmpty_iff_size_eq_zero, List.isEmpty_iff_length_eq_zero, hs]
    rw [this]
  first
    | exact ⟨loc, M, F, Like.refl s, e ▸ h⟩
    | exact ⟨loc, M, F, Like.tokn s _ (by (lia)), e ▸ h⟩
    | exact ⟨loc, M, F, Like.tokn s _ (Nat.le_succ_of_le (Nat.le_succ _)), e ▸ h⟩

theorem O2_eq_str {Q : QV} {a b : List Nat} (h : Q (.bool (decide (a = b))) loc M) : O2 X n fz L (compareOp .Eq) (.str (mkS a) 0) (.str (mkS b) 0) Q loc M := fun va vb e1 e2 A s r F o => by
  (refine obE (er_str e1) ?_; intro t hz1; subst hz1)
  (refine obE (er_str e2) ?_; intro u hz1; subst hz1)
  exact P.eq_str ⟨loc, M, F, Like.refl s, by
    have : ((mkS a).cps.toList == (mkS b).cps.toList) = decide (a = b) := by simp only [mkS_toList]; by_cases q : a = b <;> simp [q]
    rw [this]; exact h⟩
theorem O2_ne_str {Q : QV} {a b : List Nat} (h : Q (.bool (!decide (a = b))) loc M) : O2 X n fz L (compareOp .NotEq) (.str (mkS a) 0) (.str (mkS b) 0) Q loc M := fun va vb e1 e2 A s r F o => by
  (refine obE (er_str e1) ?_; intro t hz1; subst hz1)
  (refine obE (er_str e2) ?_; intro u hz1; subst hz1)
  exact P.ne_str ⟨loc, M, F, Like.refl s, by
    have : ((mkS a).cps.toList != (mkS b).cps.toList) = !decide (a = b) := by simp only [mkS_toList]; by_cases q : a = b <;> simp [q]
    rw [this]; exact h⟩
theorem O2_eq_str_none {Q : QV} {a : Str} (h : Q (.bool false) loc M) : O2 X n fz L (compareOp .Eq) (.str a 0) .none Q loc M := fun va vb e1 e2 A s r F o => by
  (refine obE (er_str e1) ?_; intro t hz1; subst hz1)
  rw [er_none e2]
  exact EqNone.eq_str_none ⟨loc, M, F, Like.refl s, h⟩
theorem O2_eq_none_str {Q : QV} {a : Str} (h : Q (.bool false) loc M) : O2 X n fz L (compareOp .Eq) .none (.str a 0) Q loc M := fun va vb e1 e2 A s r F o => by
  (refine obE (er_str e2) ?_; intro t hz1; subst hz1)
  rw [er_none e1]
  exact EqNone.eq_none_str ⟨loc, M, F, Like.refl s, h⟩
theorem O2_eq_none_none {Q : QV} (h : Q (.bool true) loc M) : O2 X n fz L (compareOp .Eq) .none .none Q loc M := fun va vb e1 e2 A s r F o => by
  rw [er_none e1, er_none e2]
  exact EqNone.eq_none_none ⟨loc, M, F, Like.refl s, h⟩
theorem O2_eq_int {Q : QV} {a b : Int} (h : Q (.bool (decide (a = b))) loc M) : O2 X n fz L (compareOp .Eq) (.int a 0) (.int b 0) Q loc M := fun va vb e1 e2 A s r F o => by
  (refine obE (er_int e1) ?_; intro t hz1; subst hz1)
  (refine obE (er_int e2) ?_; intro u hz1; subst hz1)
  exact P.eq_int ⟨loc, M, F, Like.refl s, by
    have : (a == b) = decide (a = b) := by by_cases q : a = b <;> simp [q]
    rw [this]; exact h⟩
theorem O2_ne_int {Q : QV} {a b : Int} (h : Q (.bool (!decide (a = b))) loc M) : O2 X n fz L (compareOp .NotEq) (.int a 0) (.int b 0) Q loc M := fun va vb e1 e2 A s r F o => by
  (refine obE (er_int e1) ?_; intro t hz1; subst hz1)
  (refine obE (er_int e2) ?_; intro u hz1; subst hz1)
  exact P.ne_int ⟨loc, M, F, Like.refl s, by
    have : (a != b) = !decide (a = b) := by by_cases q : a = b <;> simp [q]
    rw [this]; exact h⟩
theorem O2_lt_int {Q : QV} {a b : Int} (h : Q (.bool (decide (a < b))) loc M) : O2 X n fz L (compareOp .Lt) (.int a 0) (.int b 0) Q loc M := fun va vb e1 e2 A s r F o => by
  (refine obE (er_int e1) ?_; intro t hz1; subst hz1)
  (refine obE (er_int e2) ?_; intro u hz1; subst hz1)
  exact P.lt_int ⟨loc, M, F, Like.refl s, h⟩
theorem O2_le_int {Q : QV} {a b : Int} (h : Q (.bool (decide (a ≤ b))) loc M) : O2 X n fz L (compareOp .LtE) (.int a 0) (.int b 0) Q loc M := fun va vb e1 e2 A s r F o => by
  (refine obE (er_int e1) ?_; intro t hz1; subst hz1)
  (refine obE (er_int e2) ?_; intro u hz1; subst hz1)
  exact P.le_int ⟨loc, M, F, Like.refl s, h⟩
theorem O2_gt_int {Q : QV} {a b : Int} (h : Q (.bool (decide (b < a))) loc M) : O2 X n fz L (compareOp .Gt) (.int a 0) (.int b 0) Q loc M := fun va vb e1 e2 A s r F o => by
  (refine obE (er_int e1) ?_; intro t hz1; subst hz1)
  (refine obE (er_int e2) ?_; intro u hz1; subst hz1)
  exact P.gt_int ⟨loc, M, F, Like.refl s, h⟩
theorem O2_ge_int {Q : QV} {a b : Int} (h : Q (.bool (decide (b ≤ a))) loc M) : O2 X n fz L (compareOp .GtE) (.int a 0) (.int b 0) Q loc M := fun va vb e1 e2 A s r F o => by
  (refine obE (er_int e1) ?_; intro t hz1; subst hz1)
  (refine obE (er_int e2) ?_; intro u hz1; subst hz1)
  exact P.ge_int ⟨loc, M, F, Like.refl s, h⟩
theorem O2_eq_bool {Q : QV} {a b : Bool} (h : Q (.bool (a == b)) loc M) : O2 X n fz L (compareOp .Eq) (.bool a) (.bool b) Q loc M := fun va vb e1 e2 A s r F o => by
  rw [er_bool e1, er_bool e2]
  exact eq_bool ⟨loc, M, F, Like.refl s, h⟩
theorem O2_ne_bool {Q : QV} {a b : Bool} (h : Q (.bool (a != b)) loc M) : O2 X n fz L (compareOp .NotEq) (.bool a) (.bool b) Q loc M := fun va vb e1 e2 A s r F o => by
  rw [er_bool e1, er_bool e2]
  exact ne_bool ⟨loc, M, F, Like.refl s, h⟩
theorem er_beq_none (v : Value) : (er v == .none) = (v == .none) := by cases v <;> rfl
theorem O2_is_none {Q : QV} {v : Value} (h : Q (.bool (v == .none)) loc M) : O2 X n fz L (compareOp .Is) v .none Q loc M := fun va vb e1 e2 A s r F o => by
  rw [er_none e2]
  exact is_none ⟨loc, M, F, Like.refl s, by rw [← er_beq_none, e1]; exact h⟩
theorem O2_isnot_none {Q : QV} {v : Value} (h : Q (.bool (!(v == .none))) loc M) : O2 X n fz L (compareOp .IsNot) v .none Q loc M := fun va vb e1 e2 A s r F o => by
  rw [er_none e2]
  exact isNot_none ⟨loc, M, F, Like.refl s, by rw [← er_beq_none, e1]; exact h⟩
theorem O2_isnot_bool {Q : QV} {a b : Bool} (h : Q (.bool (a != b)) loc M) : O2 X n fz L (compareOp .IsNot) (.bool a) (.bool b) Q loc M := fun va vb e1 e2 A s r F o => by
  rw [er_bool e1, er_bool e2]
  show wpAny _ _ (do return Value.bool (!(← isSame (.bool a) (.bool b))) : Sem Value) _ _ _
  have : isSame (.bool a) (.bool b) = pure (a == b) := by cases a <;> cases b <;> rfl
  rw [this]
  exact wpAny_bind (wpAny_pure (wpAny_pure ⟨loc, M, F, Like.refl s, h⟩))

theorem O2_add_int {Q : QV} {a b : Int} (h : Q (.int (a + b) 0) loc M) : O2 X n fz L (binaryOp .Add) (.int a 0) (.int b 0) Q loc M := fun va vb e1 e2 A s r F o => by
  (refine obE (er_int e1) ?_; intro t hz1; subst hz1)
  (refine obE (er_int e2) ?_; intro u hz1; subst hz1)
  exact P.add_int ⟨loc, M, F, Like.tokn s _ (Nat.le_succ _), h⟩
theorem O2_sub_int {Q : QV} {a b : Int} (h : Q (.int (a - b) 0) loc M) : O2 X n fz L (binaryOp .Sub) (.int a 0) (.int b 0) Q loc M := fun va vb e1 e2 A s r F o => by
  (refine obE (er_int e1) ?_; intro t hz1; subst hz1)
  (refine obE (er_int e2) ?_; intro u hz1; subst hz1)
  exact P.sub_int ⟨loc, M, F, Like.tokn s _ (Nat.le_succ _), h⟩
theorem O2_iadd_int {Q : QV} {a b : Int} (h : Q (.int (a + b) 0) loc M) : O2 X n fz L (inplaceOp .Add) (.int a 0) (.int b 0) Q loc M := fun va vb e1 e2 A s r F o => by
  (refine obE (er_int e1) ?_; intro t hz1; subst hz1)
  (refine obE (er_int e2) ?_; intro u hz1; subst hz1)
  exact P.iadd_int ⟨loc, M, F, Like.tokn s _ (Nat.le_succ _), h⟩
theorem O2_isub_int {Q : QV} {a b : Int} (h : Q (.int (a - b) 0) loc M) : O2 X n fz L (inplaceOp .Sub) (.int a 0) (.int b 0) Q loc M := fun va vb e1 e2 A s r F o => by
  (refine obE (er_int e1) ?_; intro t hz1; subst hz1)
  (refine obE (er_int e2) ?_; intro u hz1; subst hz1)
  exact P.isub_int ⟨loc, M, F, Like.tokn s _ (Nat.le_succ _), h⟩
theorem O2_mod_int {Q : QV} {a b : Int} (hb : b ≠ 0) (h : Q (.int (a.fmod b) 0) loc M) : O2 X n fz L (binaryOp .Mod) (.int a 0) (.int b 0) Q loc M := fun va vb e1 e2 A s r F o => by
  (refine obE (er_int e1) ?_; intro t hz1; subst hz1)
  (refine obE (er_int e2) ?_; intro u hz1; subst hz1)
  exact mod_int' hb ⟨loc, M, F, Like.tokn s _ (Nat.le_succ _), h⟩
theorem O2_floordiv_int {Q : QV} {a b : Int} (hb : b ≠ 0) (h : Q (.int (a.fdiv b) 0) loc M) (hp : Builtin.divisionGoesByPylong a b = false) :
    O2 X n fz L (binaryOp .FloorDiv) (.int a 0) (.int b 0) Q loc M := fun va vb e1 e2 A s r F o => by
  (refine obE (er_int e1) ?_; intro t hz1; subst hz1)
  (refine obE (er_int e2) ?_; intro u hz1; subst hz1)
  exact floordiv_int hb ⟨loc, M, F, Like.tokn s _ (Nat.le_succ _), h⟩ (.inl hp)
theorem O1_neg_int {Q : QV} {a : Int} (h : Q (.int (-a) 0) loc M) : O1 X n fz L (unaryOp .USub) (.int a 0) Q loc M := fun va e1 A s r F o => by
  (refine obE (er_int e1) ?_; intro t hz1; subst hz1)
  exact P.neg_int ⟨loc, M, F, Like.tokn s _ (Nat.le_succ _), h⟩

theorem add_post {s : Shared} {a b : List Nat} {t u : Tok} {Qs : Value → Shared → Prop} (hl : a.length + b.length ≤ 16777216) (h : ∀ t' k, s.toks ≤ k → Qs (.str (mkS (a ++ b)) t') { s with toks := k }) :
    (if (mkS a).length == 0 then Made.val (.str (mkS b) u) else if (mkS b).length == 0 then Made.val (.str (mkS a) t) else Made.str (mkS a ++ mkS b)).post Qs s := by
  rw [mkS_length, mkS_length]
  split
  · rename_i q
    have : a = [] := List.length_eq_zero_iff.mp (by simpa using q)
    subst this
    exact h u s.toks (Nat.le_refl _)
  · split
    · rename_i q
      have : b = [] := List.length_eq_zero_iff.mp (by simpa using q)
      subst this
      have z := h t s.toks (Nat.le_refl _)
      rw [List.append_nil] at z; exact z
    · refine ⟨?_, ?_⟩
      · rw [mkS_append, mkS_length, List.length_append, sizeLine_eq]; (assumption)
      · rw [mkS_append]; exact h _ _ (Nat.le_succ _)
theorem O2_add_str {Q : QV} {a b : List Nat} (hl : a.length + b.length ≤ 16777216) (h : Q (.str (mkS (a ++ b)) 0) loc M) : O2 X n fz L (binaryOp .Add) (.str (mkS a) 0) (.str (mkS b) 0) Q loc M := fun va vb e1 e2 A s r F o => by
  (refine obE (er_str e1) ?_; intro t hz1; subst hz1)
  (refine obE (er_str e2) ?_; intro u hz1; subst hz1)
  exact P.add_str (add_post hl fun t' k hk => ⟨loc, M, F, Like.tokn s _ hk, h⟩)
theorem O2_iadd_str {Q : QV} {a b : List Nat} (hl : a.length + b.length ≤ 16777216) (h : Q (.str (mkS (a ++ b)) 0) loc M) : O2 X n fz L (inplaceOp .Add) (.str (mkS a) 0) (.str (mkS b) 0) Q loc M := fun va vb e1 e2 A s r F o => by
  (refine obE (er_str e1) ?_; intro t hz1; subst hz1)
  (refine obE (er_str e2) ?_; intro u hz1; subst hz1)
  exact P.iadd_str (add_post hl fun t' k hk => ⟨loc, M, F, Like.tokn s _ hk, h⟩)
end
end Mine
end
section
set_option linter.unusedVariables false
namespace Mine
open PySem PySem.W PySem.Calls PyProof.Rows

section
variable {X : Cx} {n : Nat} {fz : Frz} {L : Addr} {loc : Loc} {M : Mem} {env : Env} {a : Addr}

noncomputable def ReadO (X : Cx) (h : Heap) (a : Addr) : AO → Prop
  | .inst _ _ _ => False
  | .dct l => ∃ kvs : List (Str × Value), h.DictOf (strKind X.prog X.w) a kvs ∧ 3 < a ∧ kvs.map (fun p => (p.1, er p.2)) = l
  | .lst xs => ∃ vs : Array Value, h.IsList a vs ∧ vs.toList.map er = xs
  | .tup xs => ∃ vs : Array Value, IsTup h a vs ∧ vs.toList.map er = xs
  | .obj o => h.get? a = some o
theorem ReadO.ext {h h' : Heap} {o : AO} (r : ReadO X h a o) (k : Ext h h') : ReadO X h' a o := by
  cases o with
  | inst => exact r
  | dct l => obtain ⟨kvs, h1, h2⟩ := r; exact ⟨kvs, h1.keep k, h2⟩
  | lst xs => obtain ⟨vs, h1, h2⟩ := r; exact ⟨vs, h1.at fun o e => k a o e, h2⟩
  | tup xs => obtain ⟨vs, ⟨o, ho, q⟩, h2⟩ := r; exact ⟨vs, ⟨o, k _ _ ho, q⟩, h2⟩
  | obj o => exact k _ _ r
noncomputable def isRead : AO → Bool
  | .inst _ _ _ => false
  | _ => true
noncomputable def RdM (X : Cx) (M : Mem) (a : Addr) (o : AO) : Prop := (M a = some o ∧ isRead o = true) ∨ ReadO X X.T a o
theorem RdM.get {o : AO} {h : Heap} (r : RdM X M a o) (F : FV X fz L loc M h) : ReadO X h a o := by
  rcases r with ⟨r, q⟩ | r
  · (refine obE (F) ?_; intro own I)
    have := (I.inv.rep a o r).2
    cases o with
    | inst => cases q
    | dct => exact this
    | lst => obtain ⟨vs, h1, h2⟩ := this; exact ⟨vs, h1.isList, h2⟩
    | tup => exact this
    | obj => exact this
  · exact r.ext F.topKeep
theorem RdM.lst {xs : List Value} (h : M a = some (.lst xs)) : RdM X M a (.lst xs) := .inl ⟨h, rfl⟩
theorem RdM.tup {xs : List Value} (h : M a = some (.tup xs)) : RdM X M a (.tup xs) := .inl ⟨h, rfl⟩
theorem RdM.dct {xs : List (Str × Value)} (h : M a = some (.dct xs)) : RdM X M a (.dct xs) := .inl ⟨h, rfl⟩

theorem EV_sub {Q : QV} {value slice pos} (h : EV X n fz L env value (fun o lo m => EV X n fz L env slice (fun i lo m => O2 X n fz L (subscriptTail value slice) o i Q lo m) lo m) loc M) :
    EV X n fz L env (.Subscript value slice pos) Q loc M := fun A s rm F o =>
  Subscript_ (wpAny_mono (h A s rm F o) (fun _ _ w => obEEAA w fun _ _ f' k' q => wpAny_mono (WT.use q rm f' k' o) (fun _ _ w => obEEAA w fun _ _ f' k' q => WT.use (q _ _ rfl rfl) rm f' k' o) (fun _ _ e => e)) (fun _ _ e => e))

theorem map_get {vs : Array Value} {xs : List Value} {j : Nat} {x : Value} (h : vs.toList.map er = xs) (e : xs[j]? = some x) : ∃ v, vs[j]? = some v ∧ er v = x := by
  subst h
  rw [List.getElem?_map] at e
  (refine obEA (Option.map_eq_some_iff.mp e) ?_; intro v h1 h2)
  exact ⟨v, by simpa using h1, h2⟩

theorem SUB_str {Q : QV} {value slice : Expr} {l : List Nat} {i : Int} {c : Nat} {j : Nat} (hi : -(2 ^ 62) ≤ i ∧ i < 2 ^ 62) (hj : (if i < 0 then i + l.length else i) = (j : Int)) (hc : l[j]? = some c) (h : Q (.str (mkS [c]) 0) loc M)
    (hs : ∀ t u, subscripted slice false (.str (mkS l) t) (.int i u) = operate [.str (mkS l) t, .int i u] (getItem (.str (mkS l) t) (.int i u)) := by intro _ _; with_unfolding_all rfl)
    (ht : ∀ t r, letTemporaryGo value (.str (mkS l) t) r = pure () := by intro _ _; with_unfolding_all rfl) :
    O2 X n fz L (subscriptTail value slice) (.str (mkS l) 0) (.int i 0) Q loc M := fun va vb e1 e2 A s r F o => by
  (refine obE (er_str e1) ?_; intro t hz1; subst hz1)
  (refine obE (er_int e2) ?_; intro u hz1; subst hz1)
  have hlt : j < l.length := (List.getElem?_eq_some_iff.mp hc).1
  have hlo : -((mkS l).length : Int) ≤ i := by
    rw [mkS_length]
    by_cases q : i < 0
    · rw [if_pos q] at hj; (clear q hlt e2 e1 o F r ht hs h hc hi; lia)
    · rw [if_neg q] at hj; (clear q hlt e2 e1 o F r ht hs h hc; lia)
  have hhi : i < (mkS l).length := by
    rw [mkS_length]
    by_cases q : i < 0
    · rw [if_pos q] at hj; (clear q hlo e2 e1 o F r ht hs h hc hi; lia)
    · rw [if_neg q] at hj; (clear q hlo e2 e1 o F r ht hs h hc hi; lia)
  refine item_str (by unfold fitsSsize; rw [Bool.not_eq_true', Bool.or_eq_false_iff]; exact ⟨decide_eq_false (by (lia)), decide_eq_false (by (lia))⟩) hlo hhi (fun _ => ⟨loc, M, F, Like.tokn s _ (Nat.le_succ _), ?_⟩) (hs t u) (ht t)
  have e : (mkS l).cps[j]? = some c := by simpa [mkS] using hc
  have hseq : seqIndex? i l.length = some j := by
    unfold seqIndex?
    rw [hj]
    have : (decide ((0 : Int) ≤ (j : Int)) && decide ((j : Int) < (l.length : Int))) = true := by
      rw [Bool.and_eq_true, decide_eq_true_eq, decide_eq_true_eq]; (lia)
    simp only [this, if_true]
    rfl
  have : Txt.item (mkS l) i = mkS [c] := by
    unfold Txt.item Txt.charAt
    rw [mkS_length, hseq]
    show (⟨#[((mkS l).cps[j]?).getD 0]⟩ : Str) = _
    rw [e]; rfl
  show Q (.str (Txt.item (mkS l) i) 0) loc M
  rw [this]; exact h

theorem SUB_list {Q : QV} {value slice : Expr} {xs : List Value} {i : Int} {x : Value} (hm : RdM X M a (.lst xs)) (h0 : 0 ≤ i) (hhi : i < 2 ^ 62) (hx : xs[i.toNat]? = some x) (h : Q x loc M)
    (hs : ∀ u, subscripted slice false (.ref a) (.int i u) = operate [.ref a, .int i u] (getItem (.ref a) (.int i u)) := by intro _; with_unfolding_all rfl) :
    O2 X n fz L (subscriptTail value slice) (.ref a) (.int i 0) Q loc M := fun va vb e1 e2 A s r F o => by
  rw [er_ref e1]
  (refine obE (er_int e2) ?_; intro u hz1; subst hz1)
  (refine obEA (hm.get F) ?_; intro vs h1 h2)
  (refine obEA (map_get h2 hx) ?_; intro v g1 g2)
  exact tail_any h1.typeIs slot_list_getitem.lookup (wpAny_getItem_list h1 h0 (by (lia)) g1 ⟨loc, M, F, Like.refl s, by show Q (er _) loc M; rw [g2]; exact h⟩) (hs u)
theorem SUB_list_neg {Q : QV} {value slice : Expr} {xs : List Value} {i : Int} {x : Value} (hm : RdM X M a (.lst xs)) (h0 : i < 0) (hlo : -(xs.length : Int) ≤ i) (hhi : -(2 ^ 62) ≤ i) (hx : xs[(i + xs.length).toNat]? = some x) (h : Q x loc M)
    (hs : ∀ u, subscripted slice false (.ref a) (.int i u) = operate [.ref a, .int i u] (getItem (.ref a) (.int i u)) := by intro _; with_unfolding_all rfl) :
    O2 X n fz L (subscriptTail value slice) (.ref a) (.int i 0) Q loc M := fun va vb e1 e2 A s r F o => by
  rw [er_ref e1]
  (refine obE (er_int e2) ?_; intro u hz1; subst hz1)
  (refine obEA (hm.get F) ?_; intro vs h1 h2)
  (refine obEA (map_get h2 hx) ?_; intro v g1 g2)
  have hsz : vs.size = xs.length := by rw [← h2, List.length_map, Array.length_toList]
  exact tail_any h1.typeIs slot_list_getitem.lookup (wpAny_getItem_list_neg h1 h0 (by rw [hsz]; exact hlo) (by (lia)) (by rw [hsz]; exact g1) ⟨loc, M, F, Like.refl s, by show Q (er _) loc M; rw [g2]; exact h⟩) (hs u)

theorem valueAt_er {kvs : List (Str × Value)} {x : Str} {v : Value} (h : (kvs.map (fun p => (p.1, er p.2))).lookup x = some v) : ∃ w, valueAt kvs x = some w ∧ er w = v := by
  induction kvs with
  | nil => cases h
  | cons p r ih =>
    (refine dn fun hG0 => ?_; obtain ⟨k, w⟩ := p; refine hG0 ?_; clear hG0)
    simp only [List.map_cons, List.lookup_cons] at h
    unfold valueAt
    simp only [List.find?_cons]
    by_cases q : k = x
    · subst q
      simp only [beq_self_eq_true] at h
      exact ⟨w, by simp, by simpa using h⟩
    · have : (x == k) = false := by simpa using fun e : x = k => q e.symm
      rw [this] at h
      (refine obEA (ih h) ?_; intro w' h1 h2)
      refine ⟨w', ?_, h2⟩
      have : decide (k = x) = false := by simp [q]
      simp only [this]
      exact h1
theorem SUB_dict {Q : QV} {value slice : Expr} {es : List (Str × Value)} {x : Str} {v : Value} (hm : RdM X M a (.dct es)) (hx : es.lookup x = some v) (h : Q v loc M)
    (hs : ∀ u, subscripted slice false (.ref a) (.str x u) = operate [.ref a, .str x u] (getItem (.ref a) (.str x u)) := by intro _; with_unfolding_all rfl) :
    O2 X n fz L (subscriptTail value slice) (.ref a) (.str x 0) Q loc M := fun va vb e1 e2 A s r F o => by
  rw [er_ref e1]
  (refine obE (er_str e2) ?_; intro u hz1; subst hz1)
  (refine obEAA (hm.get F) ?_; intro kvs h1 _ h2)
  subst h2
  (refine obEA (valueAt_er hx) ?_; intro w g1 g2)
  exact tail_any h1.mapOf.typeIs slot_dict_getitem.lookup (wpAny_getItem_of (strKind_is X.prog X.w x u) h1.mapOf g1 ⟨loc, M, F, Like.tokn s _ (Nat.le_succ _), by show Q (er _) loc M; rw [g2]; exact h⟩) (hs u)

noncomputable def optInt (v : Value) : Option Int := match v with | .int i _ => some i | _ => none
noncomputable def PT (X : Cx) (n : Nat) (fz : Frz) (L : Addr) (env : Env) (e : Option Expr) (Q : Option Int → Loc → Mem → Prop) (loc : Loc) (M : Mem) : Prop :=
  WT X n fz L (evalPart e env) (fun v l m => ((∃ i t, v = .int i t) ∨ v = .none) ∧ Q (optInt v) l m) loc M
theorem PT_none {Q : Option Int → Loc → Mem → Prop} (h : Q none loc M) : PT X n fz L env none Q loc M := fun A s r F o => wpAny_evalPart_none ⟨loc, M, F, Like.refl s, .inr rfl, h⟩
theorem PT_some {Q : Option Int → Loc → Mem → Prop} {e : Expr} (h : EV X n fz L env e (fun v l m => ∃ i, v = .int i 0 ∧ Q (some i) l m) loc M) : PT X n fz L env (some e) Q loc M := fun A s r F o =>
  wpAny_evalPart_some (wpAny_mono (h A s r F o) (fun v s' ⟨l', M', f', k', i, e, q⟩ => by
    (refine obE (er_int e) ?_; intro t hz1; subst hz1)
    exact ⟨l', M', f', k', .inl ⟨i, t, rfl⟩, q⟩) (fun _ _ e => e))

theorem keptFV : KeptH (fun h => FV X fz L loc M h) := fun h ob F => F.ext (Ext.push _ _)

theorem EV_slice_str {Q : QV} {value : Expr} {lower upper : Option Expr} {p pos : Pos} 
    (h : EV X n fz L env value (fun o lo m => ∃ l, o = .str (mkS l) 0 ∧ l.length ≤ 16777216 ∧ PT X n fz L env lower (fun i lo m => PT X n fz L env upper (fun j lo m => Q (.str (mkS (pySl l i j)) 0) lo m) lo m) lo m) loc M)
    (hs : ∀ l t q, subscripted (.Slice lower upper none p) false (.str (mkS l) t) (.ref q) = operate [.ref q, .str (mkS l) t] (getItem (.str (mkS l) t) (.ref q)) := by intro _ _ _; with_unfolding_all rfl)
    (ht : ∀ l t r, letTemporaryGo value (.str (mkS l) t) r = pure () := by intro _ _ _; with_unfolding_all rfl) :
    EV X n fz L env (.Subscript value (.Slice lower upper none p) pos) Q loc M := fun A s rm F o => by
  refine Subscript_ (wpAny_mono (h A s rm F o) (fun v s₁ hq => ?_) (fun _ _ e => e))
  (refine obEEAAEAA (hq) ?_; intro l₁ M₁ f₁ k₁ l el hl q)
  (refine obE (er_str el) ?_; intro t hz1; subst hz1)
  refine wpAny_Slice (wpAny_mono (WT.use q rm f₁ k₁ o) (fun vi s₂ hq => ?_) (fun _ _ e => e))
  (refine obEEAAA (hq) ?_; intro l₂ M₂ f₂ k₂ hi q)
  refine wpAny_mono (WT.use q rm f₂ k₂ o) (fun vj s₃ hq => wpAny_evalPart_none ?_) (fun _ _ e => e)
  (refine obEEAAA (hq) ?_; intro l₃ M₃ f₃ k₃ hj q)
  have hl' : (mkS l).length ≤ sizeLine := by rw [mkS_length, sizeLine_eq]; exact hl
  refine wpAny_with_toks (Nat.le_refl s₃.toks) ?_
  have fin : ∀ i j, i = optInt vi → j = optInt vj → ∀ h' t' k, FV X fz L l₃ M₃ h' → s₃.toks ≤ k → ∃ loc' M', FV X fz L loc' M' h' ∧ Like s { s₃ with heap := h', toks := k } ∧ Q (er (.str (Txt.slice (mkS l) i j) t')) loc' M' := by
    rintro i j rfl rfl h' t' k F' hk
    exact ⟨l₃, M₃, F', k₃.trans (Like.mk' s₃ _ _ hk), by rw [slice_mkS]; exact q⟩
  rcases hi with ⟨i, ti, rfl⟩ | rfl <;> rcases hj with ⟨j, tj, rfl⟩ | rfl
  · exact tail_of_ItemOn (SBH.sliceItem_ss (P := fun h => FV X fz L l₃ M₃ h) keptFV f₃ (fun h' t' k p hk => fin _ _ rfl rfl h' t' k p hk) hl') (hs l t _) (ht l t)
  · exact tail_of_ItemOn (SBH.sliceItem_sn (P := fun h => FV X fz L l₃ M₃ h) keptFV f₃ (fun h' t' k p hk => fin _ _ rfl rfl h' t' k p hk) hl') (hs l t _) (ht l t)
  · exact tail_of_ItemOn (SBH.sliceItem_ns (P := fun h => FV X fz L l₃ M₃ h) keptFV f₃ (fun h' t' k p hk => fin _ _ rfl rfl h' t' k p hk) hl') (hs l t _) (ht l t)
  · exact tail_of_ItemOn (SBH.sliceItem_nn (P := fun h => FV X fz L l₃ M₃ h) keptFV f₃ (fun h' t' k p hk => fin _ _ rfl rfl h' t' k p hk) hl') (hs l t _) (ht l t)
end
end Mine
end
section
set_option linter.unusedVariables false
set_option maxRecDepth 100000
namespace Mine
open PySem PySem.W PySem.Calls PyProof.Rows

section
variable {X : Cx} {n : Nat} {fz : Frz} {L : Addr} {loc : Loc} {M : Mem} {env : Env} {a : Addr}

noncomputable def lastI (o : Option Nat) : Int := match o with | some k => (k : Int) | none => -1
theorem GMS {Q : Value → List Value → Loc → Mem → Prop} {x : Str} {name : Str} {id : String} (slot : Slot "str" name id) (ty : typeOf (.builtin id) = pure (.type "method_descriptor")) (h : Q (.builtin id) [.str x 0] loc M) :
    GM X n fz L name (.str x 0) Q loc M := fun vo pl e A s r F o => by
  (refine obE (er_str e) ?_; intro t hz1; subst hz1)
  have q : (fun p l m => Q (er p.1) (p.2.map er) l m : Value × List Value → Loc → Mem → Prop) (.builtin id, [.str x t]) loc M := h
  with_reducible exact PySem.GM.of (.str x t) (typeIs_str _ _ _) slot ty PySem.GM.noRef ⟨loc, M, F, Like.refl s, q⟩
theorem GM_lower {Q : Value → List Value → Loc → Mem → Prop} {x : Str} (h : Q (.builtin "str.lower") [.str x 0] loc M) : GM X n fz L "lower" (.str x 0) Q loc M := GMS PySem.F.slot_str_lower PySem.F.type_str_lower h
theorem GM_count {Q : Value → List Value → Loc → Mem → Prop} {x : Str} (h : Q (.builtin "str.count") [.str x 0] loc M) : GM X n fz L "count" (.str x 0) Q loc M := GMS PySem.F.slot_str_count PySem.F.type_str_count h
theorem GM_rfind {Q : Value → List Value → Loc → Mem → Prop} {x : Str} (h : Q (.builtin "str.rfind") [.str x 0] loc M) : GM X n fz L "rfind" (.str x 0) Q loc M := GMS PySem.F.slot_str_rfind PySem.F.type_str_rfind h
theorem GM_split {Q : Value → List Value → Loc → Mem → Prop} {x : Str} (h : Q (.builtin "str.split") [.str x 0] loc M) : GM X n fz L "split" (.str x 0) Q loc M := GMS PySem.F.slot_str_split PySem.F.type_str_split h
theorem GM_join {Q : Value → List Value → Loc → Mem → Prop} {x : Str} (h : Q (.builtin "str.join") [.str x 0] loc M) : GM X n fz L "join" (.str x 0) Q loc M := GMS PySem.F.slot_str_join PySem.F.type_str_join h

theorem vs1 {vs : List Value} {a : Value} (h : vs.map er = [a]) : ∃ v, vs = [v] ∧ er v = a := by
  (refine obEEAA (List.map_eq_cons_iff.mp h) ?_; intro v r hz2 h1 h2; subst hz2)
  obtain rfl := List.map_eq_nil_iff.mp h2
  exact ⟨v, rfl, h1⟩
theorem vs2 {vs : List Value} {a b : Value} (h : vs.map er = [a, b]) : ∃ v w, vs = [v, w] ∧ er v = a ∧ er w = b := by
  (refine obEEAA (List.map_eq_cons_iff.mp h) ?_; intro v r hz2 h1 h2; subst hz2)
  (refine obEA (vs1 h2) ?_; intro w hz1 h3; subst hz1)
  exact ⟨v, w, rfl, h1, h3⟩
theorem vs3 {vs : List Value} {a b c : Value} (h : vs.map er = [a, b, c]) : ∃ v w u, vs = [v, w, u] ∧ er v = a ∧ er w = b ∧ er u = c := by
  (refine obEEAA (List.map_eq_cons_iff.mp h) ?_; intro v r hz2 h1 h2; subst hz2)
  (refine obEEA (vs2 h2) ?_; intro w u hz2 h3; subst hz2)
  exact ⟨v, w, u, rfl, h1, h3⟩
theorem vs4 {vs : List Value} {a b c d : Value} (h : vs.map er = [a, b, c, d]) : ∃ v w u z, vs = [v, w, u, z] ∧ er v = a ∧ er w = b ∧ er u = c ∧ er z = d := by
  (refine obEEAA (List.map_eq_cons_iff.mp h) ?_; intro v r hz2 h1 h2; subst hz2)
  (refine obEEEA (vs3 h2) ?_; intro w u z hz3 h3; subst hz3)
  exact ⟨v, w, u, z, rfl, h1, h3⟩
theorem vs0 {vs : List Value} (h : vs.map er = []) : vs = [] := List.map_eq_nil_iff.mp h

theorem CA_lower {Q : QV} {x : Str} (hl : x.length ≤ 5592405) (h : Q (.str (Txt.lower x) 0) loc M) : CA X n fz L (.builtin "str.lower") [.str x 0] Q loc M := fun vs e A s r F o => by
  (refine obEA (vs1 e) ?_; intro v hz1 e1; subst hz1)
  (refine obE (er_str e1) ?_; intro t hz1; subst hz1)
  exact PyProof.Rows.SCL.lower hl fun _ => ⟨loc, M, F, Like.tokn s _ (Nat.le_succ _), h⟩

open Builtin Builtin.Str in
theorem gives_count4 (x y : Str) (i j : Int) (t u v w : Tok) : Gives («str.count» ⟨[.str x t, .str y u, .int i v, .int j w], []⟩) (.int (occurrences x y (fromIndex x.length i) (min (fromIndex x.length j) x.length) (x.length + 1)).length) := by
  show Gives (retInt (occurrences x y (fromIndex x.length i) (min (fromIndex x.length j) x.length) (x.length + 1)).length) _
  exact .of_eq rfl
open Builtin Builtin.Str in
theorem gives_rfind4 (x y : Str) (i j : Int) (t u v w : Tok) : Gives («str.rfind» ⟨[.str x t, .str y u, .int i v, .int j w], []⟩) (.int (match lastOccurrence x y (fromIndex x.length i) (min (fromIndex x.length j) x.length) with | some k => (k : Int) | none => -1)) := by
  show Gives (match lastOccurrence x y (fromIndex x.length i) (min (fromIndex x.length j) x.length) with | some k => retInt k | none => (do rule "str.rfind.not-found"; retInt (-1))) _
  cases lastOccurrence x y (fromIndex x.length i) (min (fromIndex x.length j) x.length) with
  | none => exact .rule (.of_eq rfl)
  | some k => exact .of_eq rfl
open Builtin Builtin.Str in
theorem CA_count4 {Q : QV} {x y : Str} {i j : Int} (h : Q (.int ((occurrences x y (fromIndex x.length i) (min (fromIndex x.length j) x.length) (x.length + 1)).length) 0) loc M) : CA X n fz L (.builtin "str.count") [.str x 0, .str y 0, .int i 0, .int j 0] Q loc M := fun vs e A s r F o => by
  (refine obEEEEAAAA (vs4 e) ?_; intro v w u z hz4 e1 e2 e3 e4; subst hz4)
  (refine obE (er_str e1) ?_; intro t hz1; subst hz1)
  (refine obE (er_str e2) ?_; intro u hz1; subst hz1)
  (refine obE (er_int e3) ?_; intro t3 hz1; subst hz1)
  (refine obE (er_int e4) ?_; intro t4 hz1; subst hz1)
  exact call_gives PySem.F.slot_str_count (typeIs_str _ _ _) PySem.F.entry_str_count (PySem.F.args_str_count_4 _ _ _ _) (gives_count4 x y i j t u t3 t4) ⟨loc, M, F, Like.tokn s _ (Nat.le_succ _), h⟩
open Builtin Builtin.Str in
theorem CA_rfind4 {Q : QV} {x y : Str} {i j : Int} (h : Q (.int (lastI (lastOccurrence x y (fromIndex x.length i) (min (fromIndex x.length j) x.length))) 0) loc M) : CA X n fz L (.builtin "str.rfind") [.str x 0, .str y 0, .int i 0, .int j 0] Q loc M := fun vs e A s r F o => by
  (refine obEEEEAAAA (vs4 e) ?_; intro v w u z hz4 e1 e2 e3 e4; subst hz4)
  (refine obE (er_str e1) ?_; intro t hz1; subst hz1)
  (refine obE (er_str e2) ?_; intro u hz1; subst hz1)
  (refine obE (er_int e3) ?_; intro t3 hz1; subst hz1)
  (refine obE (er_int e4) ?_; intro t4 hz1; subst hz1)
  exact call_gives PySem.F.slot_str_rfind (typeIs_str _ _ _) PySem.F.entry_str_rfind (PySem.F.args_str_rfind_4 _ _ _ _) (gives_rfind4 x y i j t u t3 t4) ⟨loc, M, F, Like.tokn s _ (Nat.le_succ _), h⟩

theorem EV_replace {Q : QV} {ob : Expr} {apos pos p1 p2 : Pos} {k1 k2 : Nat} {y z : Str} {pl : Sem Bool} (hyz : (y == z) = false)
    (h : EV X n fz L env ob (fun v l m => ∃ x, v = .str x 0 ∧ x.length + (x.length + 1) * z.length ≤ 16777216 ∧ Q (.str (Txt.replace x y z) 0) l m) loc M)
    (he : eval (.Call (.Attribute ob "replace" apos) [.Constant (.str y) k1 p1, .Constant (.str z) k2 p2] [] pos) env = (do
      let ov ← eval ob env
      standAt apos.atName
      let (f, first) ← holding [ov] (getMethod ov "replace" pl)
      callWith pos f first (backTo pos (starEach [.Constant (.str y) k1 p1, .Constant (.str z) k2 p2] env)) []) := by rfl) :
    EV X n fz L env (.Call (.Attribute ob "replace" apos) [.Constant (.str y) k1 p1, .Constant (.str z) k2 p2] [] pos) Q loc M := fun A s r F o => by
  refine MethodCall_ (wpAny_mono (h A s r F o) (fun v s₁ hq => ?_) (fun _ _ e => e)) he
  (refine obEEAAEAA (hq) ?_; intro l' M' f' k' x e hl q)
  (refine obE (er_str e) ?_; intro t hz1; subst hz1)
  refine PySem.GM.replace ?_
  refine callWith_method1 (e := .Constant (.str y) k1 p1) (rest := [.Constant (.str z) k2 p2]) ?_
  refine wpAny_items_cons (wpAny_Constant_str (wpAny_items_cons (wpAny_Constant_str (wpAny_items_nil ?_))))
  refine wpAny_with_toks (n := s₁.toks + 1 + 1) (Nat.le_refl _) ?_
  have o1 := k'.one o
  exact SC.replace (Nat.ne_of_gt o1) (Nat.succ_ne_zero _) (Nat.ne_of_lt (Nat.lt_succ_self _)) hyz hl fun t' k hk => ⟨l', M', f', k'.trans (Like.mk' s₁ _ _ (Nat.le_trans (Nat.le_succ_of_le (Nat.le_succ _)) hk)), q⟩

noncomputable def strsV (ts : List (List Nat)) : List Value := ts.map fun l => .str (mkS l) 0
theorem strsOf {vs : List Value} {ts : List (List Nat)} (h : vs.map er = strsV ts) : ∃ l : List (Str × Tok), vs = strValues l ∧ l.map (·.1) = ts.map mkS := by
  induction vs generalizing ts with
  | nil =>
    cases ts with
    | nil => exact ⟨[], rfl, rfl⟩
    | cons _ _ => cases h
  | cons v r ih =>
    cases ts with
    | nil => cases h
    | cons t ts =>
      simp only [List.map_cons, strsV, List.cons.injEq] at h
      (refine obEA (ih h.2) ?_; intro l hz1 e; subst hz1)
      (refine obE (er_str h.1) ?_; intro u hz1; subst hz1)
      exact ⟨(mkS t, u) :: l, rfl, by simp [e]⟩

theorem join_mkS (s : List Nat) : ∀ ts : List (List Nat), Txt.join (mkS s) (ts.map mkS) = mkS (s.intercalate ts) := by
  intro ts
  show Builtin.Str.glued (mkS s) (ts.map mkS) = _
  rw [StrLaws.glued_eq_join]
  induction ts with
  | nil => rfl
  | cons a r ih =>
    cases r with
    | nil => simp [Str.join, List.intercalate]
    | cons b r =>
      show mkS a ++ mkS s ++ Str.join (mkS s) ((b :: r).map mkS) = _
      rw [ih, mkS_append, mkS_append]
      simp [List.intercalate, List.intersperse]

theorem CA_join {Q : QV} {sep : List Nat} {ts : List (List Nat)} (hm : RdM X M a (.lst (strsV ts))) (hok : JoinOk (mkS sep) (ts.map mkS) = true) (h : Q (.str (mkS (sep.intercalate ts)) 0) loc M) :
    CA X n fz L (.builtin "str.join") [.str (mkS sep) 0, .ref a] Q loc M := fun vs e A s r F o => by
  (refine obEEAA (vs2 e) ?_; intro v w hz2 e1 e2; subst hz2)
  (refine obE (er_str e1) ?_; intro t hz1; subst hz1)
  rw [er_ref e2]
  (refine obEA (hm.get F) ?_; intro vs h1 h2)
  (refine obEA (strsOf h2) ?_; intro l e hl)
  have h1' : s.heap.IsList a (strValues l).toArray := by rw [← e]; exact h1
  refine wpAny_with_toks (Nat.le_refl s.toks) ?_
  exact SC.join h1' hl hok fun t' k hk => ⟨loc, M, F, Like.tokn s _ hk, by rw [join_mkS]; exact h⟩

theorem new_list {loc' : Loc} {M' : Mem} {hh : Heap} {vs : List Value} (F : FV X fz L loc' M' hh) : FV X fz L loc' (setM M' hh.objs.size (.lst (vs.map er))) (hh.push { cls := .type "list", data := .seq vs.toArray }) :=
  F.new1 (Ext.push _ _) rfl fun own _ => ⟨vs.toArray, ⟨_, Heap.get?_push_size _ rfl⟩, by simp⟩
theorem new_tup {loc' : Loc} {M' : Mem} {hh : Heap} {vs : List Value} (F : FV X fz L loc' M' hh) : FV X fz L loc' (setM M' hh.objs.size (.tup (vs.map er))) (hh.push { cls := .type "tuple", data := .seq vs.toArray }) :=
  F.new1 (Ext.push _ _) rfl fun own _ => ⟨vs.toArray, ⟨_, Heap.get?_push_size _ rfl, rfl, _, rfl⟩, by simp⟩

theorem numbered_er : ∀ (tk : Nat) (xs : List Str), (strValues (numbered tk xs)).map er = xs.map fun x => .str x 0
  | _, [] => rfl
  | tk, x :: r => by
    show er (.str x tk) :: (strValues (numbered (tk + 1) r)).map er = _
    rw [numbered_er]; rfl

theorem CA_split {Q : QV} {x y : Str} (hy : (y.length == 0) = false) (hx : x.length ≤ 16777216) (hn : (Txt.split x y).length ≤ 16777216) (h : ∀ D, M D = none → Q (.ref D) loc (setM M D (.lst ((Txt.split x y).map fun z => .str z 0)))) :
    CA X n fz L (.builtin "str.split") [.str x 0, .str y 0] Q loc M := fun vs e A s r F o => by
  (refine obEEAA (vs2 e) ?_; intro v w hz2 e1 e2; subst hz2)
  (refine obE (er_str e1) ?_; intro t hz1; subst hz1)
  (refine obE (er_str e2) ?_; intro u hz1; subst hz1)
  have hx' : x.length ≤ sizeLine := by rw [sizeLine_eq]; exact hx
  have self : Txt.split x y = [x] → ∃ loc' M', FV X fz L loc' M' (s.heap.push { cls := .type "list", data := .seq #[.str x t] }) ∧ Like s { s with heap := s.heap.push { cls := .type "list", data := .seq #[.str x t] } } ∧ Q (.ref s.heap.objs.size) loc' M' := fun e => by
    have z := h s.heap.objs.size F.fresh
    rw [e] at z
    exact ⟨loc, _, new_list (vs := [.str x t]) F, Like.heap s _, z⟩
  cases h1 : (decide (x.length < y.length) || decide (Builtin.Str.strKind x < Builtin.Str.strKind y))
  · cases hf : (Builtin.Str.occurrences x y 0 x.length (x.length + 1)).isEmpty
    · have ee : Txt.split x y = Builtin.Str.partsBetween x (Builtin.Str.occurrences x y 0 x.length (x.length + 1)) y.length := (if_neg (ne_true_of_eq_false h1)).trans (if_neg (ne_true_of_eq_false hf))
      rw [ee] at hn h
      refine call_meets PySem.F.slot_str_split (typeIs_str _ _ _) PySem.F.entry_str_split (PySem.F.args_str_split_2 _ _) (meets_str_split_sep x y t u h1 hy hf hx' (by rw [sizeLine_eq]; exact hn)) ?_
      rw [strsFrom_eq]
      refine ⟨loc, _, new_list (vs := strValues (numbered s.toks _)) F, Like.mk' s _ _ (Nat.le_add_right _ _), ?_⟩
      rw [numbered_er]
      exact h _ F.fresh
    · exact call_meets PySem.F.slot_str_split (typeIs_str _ _ _) PySem.F.entry_str_split (PySem.F.args_str_split_2 _ _) (meets_str_split_not_found x y t u h1 hy hf) (self ((if_neg (ne_true_of_eq_false h1)).trans (if_pos hf)))
  · exact call_meets PySem.F.slot_str_split (typeIs_str _ _ _) PySem.F.entry_str_split (PySem.F.args_str_split_2 _ _) (meets_str_split_cannot_occur x y t u h1) (self (if_pos h1))
end
end Mine
end
section
set_option linter.unusedVariables false
set_option maxRecDepth 100000
namespace Mine
open PySem PySem.W PySem.Calls PyProof.Rows

section
variable {X : Cx} {n : Nat} {fz : Frz} {L : Addr} {loc : Loc} {M : Mem} {env : Env} {a b : Addr}

theorem EV_list {Q : QV} {es : List Expr} {pos : Pos} (h : AR X n fz L env es (fun vs l m => vs.length ≤ 16777216 ∧ ∀ D, m D = none → Q (.ref D) l (setM m D (.lst vs))) loc M)
    (hs : es.any isStarred = false := by rfl) : EV X n fz L env (.List es pos) Q loc M := fun A s r F o =>
  wpAny_List (wpAny_mono (AR_spliced (pos := pos) hs h A s r F o) (fun vs s₁ ⟨l', M', f', k', hl, q⟩ =>
    ⟨by rw [sizeLine_eq]; simpa using hl, l', _, new_list f', k'.trans (Like.heap s₁ _), q _ f'.fresh⟩) (fun _ _ e => e))
theorem EV_tuple {Q : QV} {es : List Expr} {k : Nat} {pos : Pos} (h : AR X n fz L env es (fun vs l m => vs.length ≤ 16777216 ∧ ∀ D, m D = none → Q (.ref D) l (setM m D (.tup vs))) loc M)
    (hs : es.any isStarred = false := by rfl) : EV X n fz L env (.Tuple es k pos) Q loc M := fun A s r F o =>
  wpAny_Tuple (wpAny_mono (AR_spliced (pos := pos) hs h A s r F o) (fun vs s₁ ⟨l', M', f', k', hl, q⟩ =>
    ⟨by rw [sizeLine_eq]; simpa using hl, l', _, new_tup f', k'.trans (Like.heap s₁ _), q _ f'.fresh⟩) (fun _ _ e => e))

noncomputable abbrev KE := Str × Nat × Pos × Expr
noncomputable def DP (X : Cx) (n : Nat) (fz : Frz) (L : Addr) (env : Env) : List KE → (List (Str × Value) → Loc → Mem → Prop) → Loc → Mem → Prop
  | [], Q => Q []
  | t :: r, Q => EV X n fz L env t.2.2.2 (fun v => DP X n fz L env r (fun vs => Q ((t.1, v) :: vs)))
noncomputable def kexpr (t : KE) : Option Expr := some (.Constant (.str t.1) t.2.1 t.2.2.1)
noncomputable def pairOf (pos : Pos) (env : Env) (t : KE) : Sem Value × Sem Value := (eval (.Constant (.str t.1) t.2.1 t.2.2.1) env, do let x ← eval t.2.2.2 env; standAt pos; pure x)
theorem pairs_zip (pos : Pos) (env : Env) : ∀ kes : List KE, (evalEachOpt (kes.map kexpr) env).zip ((evalEach (kes.map (·.2.2.2)) env).map fun v => do let x ← v; standAt pos; pure x) = (kes.map (pairOf pos env)).map (fun p => (some p.1, p.2))
  | [] => rfl
  | t :: r => by
    show (_ :: evalEachOpt (r.map kexpr) env).zip (_ :: (evalEach (r.map (·.2.2.2)) env).map _) = _
    rw [List.zip_cons_cons, pairs_zip pos env r]
    rfl
theorem DP_pairs {pos : Pos} : ∀ {kes : List KE} {Q : List (Str × Value) → Loc → Mem → Prop} {loc : Loc} {M : Mem}, DP X n fz L env kes Q loc M →
    WT X n fz L (evalPairs (kes.map (pairOf pos env))) (fun vs l m => ∃ kvs : List (Str × Value), kvs.map (·.1) = kes.map (·.1) ∧ Carries (strKind X.prog X.w) vs kvs ∧ Q (kvs.map fun p => (p.1, er p.2)) l m) loc M
  | [], Q, loc, M, h => fun A s r F o => wpAny_pure ⟨loc, M, F, Like.refl s, [], rfl, trivial, h⟩
  | (x, kk, pp, e) :: kes, Q, loc, M, h => fun A s r F o => by
    show wpAny _ _ (do
      let kv ← eval (.Constant (.str x) kk pp) env
      let vv ← holding [kv] (do let x ← eval e env; standAt pos; pure x)
      return (kv, vv) :: (← holding [kv, vv] (evalPairs (kes.map (pairOf pos env))))) _ _ _
    refine wpAny_bind (wpAny_Constant_str (wpAny_bind (wpAny_holding (wpAny_bind ?_))))
    refine wpAny_mono (WT.use h r F (Like.tokn s _ (Nat.le_succ _)) o) (fun v s₁ hq => ?_) (fun _ _ e => e)
    (refine obEEAA (hq) ?_; intro l₁ M₁ F₁ k₁ q)
    refine wpAny_bind (wpAny_standAt (wpAny_pure (wpAny_bind (wpAny_holding ?_))))
    refine wpAny_mono (WT.use (DP_pairs (pos := pos) q) r F₁ k₁ o) (fun vs s₂ hq => ?_) (fun _ _ e => e)
    (refine obEEAAEAA (hq) ?_; intro l₂ M₂ F₂ k₂ kvs hk hc q)
    exact wpAny_pure ⟨l₂, M₂, F₂, k₂, (x, v) :: kvs, by simp [hk], ⟨strKind_is X.prog X.w x _, rfl, hc⟩, q⟩

theorem stored_new {K : Type} [DecidableEq K] (acc : List (K × Value)) (k : K) (v : Value) (h : k ∉ acc.map (·.1)) : stored acc k v = acc ++ [(k, v)] := by
  unfold stored
  have : acc.any (fun kv => decide (kv.1 = k)) = false := by
    rw [List.any_eq_false]
    intro p hp
    simp only [decide_eq_true_eq]
    intro e
    exact h (e ▸ List.mem_map_of_mem hp)
  rw [this]; rfl
theorem merged_nodup {K : Type} [DecidableEq K] : ∀ (more acc : List (K × Value)), ((acc ++ more).map (·.1)).Nodup → merged acc more = acc ++ more
  | [], acc, _ => by simp [merged]
  | (k, v) :: r, acc, h => by
    have hk : k ∉ acc.map (·.1) := by
      rw [List.map_append, List.nodup_append] at h
      intro hm
      exact h.2.2 k hm k (by simp) rfl
    show merged (stored acc k v) r = _
    rw [stored_new acc k v hk, merged_nodup r (acc ++ [(k, v)]) (by simpa using h)]
    simp

theorem dictOf_empty {hh : Heap} : (hh.push { cls := .type "dict", data := .dict #[] }).DictOf (strKind X.prog X.w) hh.objs.size [] :=
  ⟨_, #[], 0, Heap.get?_push_size _ rfl, ⟨rfl, rfl, rfl⟩, rfl, (fun e he => by simp at he), .nil, List.nodup_nil⟩

theorem EV_dictK {Q : QV} {kes : List KE} {pos : Pos} (h0 : kes ≠ []) (hlen : kes.length ≤ 15) (hnd : (kes.map (·.1)).Nodup)
    (h : ∀ D, M D = none → DP X n fz L env kes (fun es l m => m D = some (.dct []) ∧ Q (.ref D) l (setM m D (.dct es))) loc (setM M D (.dct []))) :
    EV X n fz L env (.Dict (kes.map kexpr) (kes.map (·.2.2.2)) pos) Q loc M := fun A s r F o => by
  have F0 : FV X fz L loc (setM M s.heap.objs.size (.dct [])) (s.heap.push { cls := .type "dict", data := .dict #[] }) :=
    F.new1 (Ext.push _ _) rfl fun own _ => ⟨[], dictOf_empty, F.size3, rfl⟩
  refine wpAny_Dict_pairs (knd := strKind X.prog X.w) (pairs_zip pos env kes) (by simpa using h0) (by simpa using hlen) ?_
  refine wpAny_mono (WT.use (DP_pairs (pos := pos) (h _ F.fresh)) r F0 (Like.heap s _) o) (fun vs s₁ hq => ?_) (fun _ _ e => e)
  (refine obEEAAEAAA (hq) ?_; intro l₁ M₁ F₁ k₁ kvs hk hc hD q)
  (refine obE (id F₁) ?_; intro own I)
  (refine obAEAA (I.inv.rep _ _ hD) ?_; intro hown kv0 hd0 h3 hm0)
  have : kv0 = [] := by simpa using hm0
  subst this
  refine ⟨kvs, hc, hd0, fun h' hd' hs => ?_⟩
  have := merged_nodup kvs [] (by simpa [hk] using hnd)
  rw [this] at hd'
  have hr : ORep X own h' s.heap.objs.size (.dct (kvs.map fun p => (p.1, er p.2))) := ⟨kvs, hd', h3, rfl⟩
  exact ⟨l₁, _, ⟨own, FV.change I hown hs.2 hr hown⟩, k₁.trans (Like.mk' s₁ _ _ (Nat.le_add_right _ _)), q⟩

theorem EV_dict2 {Q : QV} {x1 x2 : Str} {k1 k2 : Nat} {p1 p2 : Pos} {e1 e2 : Expr} {pos : Pos}
    (h : ∀ D, M D = none → EV X n fz L env e1 (fun v1 => EV X n fz L env e2 (fun v2 l m => m D = some (.dct []) ∧ Q (.ref D) l (setM m D (.dct [(x1, v1), (x2, v2)])))) loc (setM M D (.dct [])))
    (hnd : [x1, x2].Nodup := by decide +kernel) :
    EV X n fz L env (.Dict [some (.Constant (.str x1) k1 p1), some (.Constant (.str x2) k2 p2)] [e1, e2] pos) Q loc M :=
  EV_dictK (kes := [(x1, k1, p1, e1), (x2, k2, p2, e2)]) (by simp) (by simp) hnd h
theorem EV_dict4 {Q : QV} {x1 x2 x3 x4 : Str} {k1 k2 k3 k4 : Nat} {p1 p2 p3 p4 : Pos} {e1 e2 e3 e4 : Expr} {pos : Pos}
    (h : ∀ D, M D = none → EV X n fz L env e1 (fun v1 => EV X n fz L env e2 (fun v2 => EV X n fz L env e3 (fun v3 => EV X n fz L env e4 (fun v4 l m => m D = some (.dct []) ∧ Q (.ref D) l (setM m D (.dct [(x1, v1), (x2, v2), (x3, v3), (x4, v4)])))))) loc (setM M D (.dct [])))
    (hnd : [x1, x2, x3, x4].Nodup := by decide +kernel) :
    EV X n fz L env (.Dict [some (.Constant (.str x1) k1 p1), some (.Constant (.str x2) k2 p2), some (.Constant (.str x3) k3 p3), some (.Constant (.str x4) k4 p4)] [e1, e2, e3, e4] pos) Q loc M :=
  EV_dictK (kes := [(x1, k1, p1, e1), (x2, k2, p2, e2), (x3, k3, p3, e3), (x4, k4, p4, e4)]) (by simp) (by simp) hnd h

theorem GM_append {Q : Value → List Value → Loc → Mem → Prop} {xs : List Value} (hm : M a = some (.lst xs)) (h : Q (.builtin "list.append") [.ref a] loc M) : GM X n fz L "append" (.ref a) Q loc M := fun vo pl e A s r F o => by
  rw [er_ref e]
  (refine obE (id F) ?_; intro own I)
  (refine obAEA (I.inv.rep a _ hm) ?_; intro _ vs hz2 h2; refine dn fun hG0 => ?_; obtain ⟨nn, h1⟩ := hz2; refine hG0 ?_; clear hG0)
  have q : (fun p l m => Q (er p.1) (p.2.map er) l m : Value × List Value → Loc → Mem → Prop) (.builtin "list.append", [.ref a]) loc M := h
  exact getMethod_builtin (T := "list") ⟨_, h1, rfl⟩ PySem.F.plainAttrs_list PySem.F.slot_list_append PySem.F.type_list_append (fun a' e' => by cases e'; exact ⟨_, h1, rfl⟩) ⟨loc, M, F, Like.refl s, q⟩
theorem CA_append {Q : QV} {xs : List Value} {v : Value} (hm : M a = some (.lst xs)) (hl : xs.length ≤ 16777216) (h : Q .none loc (setM M a (.lst (xs ++ [v])))) : CA X n fz L (.builtin "list.append") [.ref a, v] Q loc M := fun vs e A s r F o => by
  (refine obEEAA (vs2 e) ?_; intro v1 v2 hz2 e1 e2; subst hz2)
  rw [er_ref e1]
  (refine obE (id F) ?_; intro own I)
  (refine obAEA (I.inv.rep a _ hm) ?_; intro hown us h1 h2)
  have hsz : us.size = xs.length := by rw [← h2, List.length_map, Array.length_toList]
  refine wpAny_list_append_plain h1 (fun h' hp hs => ?_) (by rw [hsz, sizeLine_eq]; exact hl)
  have hr : ORep X own h' a (.lst (xs ++ [v])) := ⟨us.push v2, hp, by simp [h2, e2]⟩
  exact ⟨loc, _, ⟨own, FV.change I hown hs.2 hr hown⟩, Like.heap s h', h⟩

theorem CA_len_str {Q : QV} {l : List Nat} (hl : l.length ≤ 16777216) (h : Q (.int l.length 0) loc M) : CA X n fz L (.builtin "len") [.str (mkS l) 0] Q loc M := fun vs e A s r F o => by
  (refine obEA (vs1 e) ?_; intro v hz1 e1; subst hz1)
  (refine obE (er_str e1) ?_; intro t hz1; subst hz1)
  exact P.len_str (by rw [mkS_length]; (lia)) ⟨loc, M, F, Like.tokn s _ (Nat.le_succ_of_le (Nat.le_succ _)), by show Q (.int (mkS l).length 0) loc M; rw [mkS_length]; exact h⟩
theorem CA_len_list {Q : QV} {xs : List Value} (hm : RdM X M a (.lst xs)) (hl : xs.length ≤ 16777216) (h : Q (.int xs.length 0) loc M) : CA X n fz L (.builtin "len") [.ref a] Q loc M := fun vs e A s r F o => by
  (refine obEA (vs1 e) ?_; intro v hz1 e1; subst hz1)
  rw [er_ref e1]
  (refine obEA (hm.get F) ?_; intro us h1 h2)
  have hsz : us.size = xs.length := by rw [← h2, List.length_map, Array.length_toList]
  exact PyProof.Rows.len_list h1 (by (lia)) ⟨loc, M, F, Like.tokn s _ (Nat.le_succ_of_le (Nat.le_succ _)), by show Q (.int us.size 0) loc M; rw [hsz]; exact h⟩
theorem CA_ord {Q : QV} {c : Nat} (h : Q (.int c 0) loc M) : CA X n fz L (.builtin "ord") [.str (mkS [c]) 0] Q loc M := fun vs e A s r F o => by
  (refine obEA (vs1 e) ?_; intro v hz1 e1; subst hz1)
  (refine obE (er_str e1) ?_; intro t hz1; subst hz1)
  exact P.ord_of_char ⟨loc, M, F, Like.tokn s _ (Nat.le_succ _), h⟩
theorem CA_chr {Q : QV} {i : Int} (h0 : 0 ≤ i) (h1 : i ≤ 0x10FFFF) (h : Q (.str (mkS [i.toNat]) 0) loc M) : CA X n fz L (.builtin "chr") [.int i 0] Q loc M := fun vs e A s r F o => by
  (refine obEA (vs1 e) ?_; intro v hz1 e1; subst hz1)
  (refine obE (er_int e1) ?_; intro t hz1; subst hz1)
  exact P.chr_of_int (by rw [Bool.or_eq_false_iff]; exact ⟨decide_eq_false (by (lia)), decide_eq_false (by (lia))⟩) ⟨loc, M, F, Like.tokn s _ (Nat.le_succ _), h⟩

theorem intsOf {vs : List Value} {ns : List Int} (h : vs.map er = ns.map fun i => .int i 0) : IntsAre vs ns ∧ AllInts vs.toArray := by
  induction vs generalizing ns with
  | nil =>
    cases ns with
    | nil => exact ⟨IntsAre.nil, fun v hv => by simp at hv⟩
    | cons _ _ => cases h
  | cons v r ih =>
    cases ns with
    | nil => cases h
    | cons i ns =>
      simp only [List.map_cons, List.cons.injEq] at h
      (refine obE (er_int h.1) ?_; intro t hz1; subst hz1)
      (refine obA (ih h.2) ?_; intro h1 h2)
      refine ⟨IntsAre.cons i t h1, fun v hv => ?_⟩
      rcases List.mem_cons.mp (by simpa using hv) with rfl | hv
      · exact ⟨i, t, rfl⟩
      · exact h2 v (by simpa using hv)
theorem CA_sum {Q : QV} {ns : List Int} (hm : RdM X M a (.lst (ns.map fun i => .int i 0))) (h : Q (.int ns.sum 0) loc M) : CA X n fz L (.builtin "sum") [.ref a] Q loc M := fun vs e A s r F o => by
  (refine obEA (vs1 e) ?_; intro v hz1 e1; subst hz1)
  rw [er_ref e1]
  (refine obEA (hm.get F) ?_; intro us h1 h2)
  (refine obA (intsOf h2) ?_; intro hi ha)
  (refine obE (ha.items) ?_; intro xs e)
  have e' : us = intItems xs := by rw [← e]
  subst e'
  refine wpAny_with_toks (Nat.le_refl s.toks) (sum_intListG r.handled h1 fun h' tk t' hk hle => ⟨loc, M, F.ext hk, Like.mk' s _ _ hle, ?_⟩)
  have : preSum (numAt xs) xs.size = ns.sum := by
    have q := hi.numsOf
    rw [preSum_eq, List.take_of_length_le (by simp)]
    have := nums_intItems xs
    rw [← this]
    rw [q]
  show Q (.int (preSum (numAt xs) xs.size) 0) loc M
  rw [this]; exact h

theorem strs_mem {vs : List Value} {ts : List (List Nat)} (h : vs.map er = strsV ts) {y : Value} (hy : y ∈ vs) : ∃ l t, y = .str (mkS l) t := by
  have : er y ∈ strsV ts := h ▸ List.mem_map_of_mem hy
  (refine obEA (List.mem_map.mp this) ?_; intro l _ e)
  (refine obE (er_str e.symm) ?_; intro t hz1; subst hz1)
  exact ⟨l, t, rfl⟩
noncomputable def strEq (x : List Nat) (v : Value) : Bool := match v with | .str y _ => decide (y = mkS x) | _ => false
theorem any_strs {vs : List Value} {ts : List (List Nat)} (h : vs.map er = strsV ts) (x : List Nat) : vs.any (strEq x) = decide (x ∈ ts) := by
  induction vs generalizing ts with
  | nil =>
    cases ts with
    | nil => rfl
    | cons _ _ => cases h
  | cons v r ih =>
    cases ts with
    | nil => cases h
    | cons t ts =>
      simp only [List.map_cons, strsV, List.cons.injEq] at h
      (refine obE (er_str h.1) ?_; intro u hz1; subst hz1)
      rw [List.any_cons, ih h.2]
      show (decide (mkS t = mkS x) || _) = _
      by_cases q : x = t
      · subst q; simp
      · have : ¬ mkS t = mkS x := fun e => q (mkS_inj e).symm
        simp [q, this]
theorem O2_in_tup {Q : QV} {x : List Nat} {ts : List (List Nat)} (hm : RdM X M b (.tup (strsV ts))) (h : Q (.bool (decide (x ∈ ts))) loc M) : O2 X n fz L (compareOp .In) (.str (mkS x) 0) (.ref b) Q loc M := fun va vb e1 e2 A s r F o => by
  (refine obE (er_str e1) ?_; intro t hz1; subst hz1)
  rw [er_ref e2]
  (refine obEA (hm.get F) ?_; intro us hz1 h2; refine dn fun hG0 => ?_; obtain ⟨ob, ho, hc, nn, hd⟩ := hz1; refine hG0 ?_; clear hG0)
  refine SeqAt.in_tupleAt (strEq x) ⟨ob, ho, hc, nn, hd⟩ (fun y hy => ?_) ⟨loc, M, F, Like.refl s, ?_⟩
  · (refine obEE (strs_mem h2 (by simpa using hy)) ?_; intro l u hz2; subst hz2)
    have := SeqAt.EqAt.str_str (A := A.in1) (s := s) (mkS l) u (mkS x) t
    have e : (mkS l == mkS x) = strEq x (.str (mkS l) u) := by
      show _ = decide (mkS l = mkS x)
      by_cases q : mkS l = mkS x <;> simp [q]
    rw [← e]; exact this
  · have : us.any (strEq x) = decide (x ∈ ts) := by rw [← any_strs h2 x, Array.any_toList]
    show Q (.bool (us.any (strEq x))) loc M
    rw [this]; exact h
theorem O2_in_tup_none {Q : QV} {ts : List (List Nat)} (hm : RdM X M b (.tup (strsV ts))) (h : Q (.bool false) loc M) : O2 X n fz L (compareOp .In) .none (.ref b) Q loc M := fun va vb e1 e2 A s r F o => by
  rw [er_none e1, er_ref e2]
  (refine obEA (hm.get F) ?_; intro us hz1 h2; refine dn fun hG0 => ?_; obtain ⟨ob, ho, hc, nn, hd⟩ := hz1; refine hG0 ?_; clear hG0)
  refine SeqAt.in_tupleAt (fun _ => false) ⟨ob, ho, hc, nn, hd⟩ (fun y hy => ?_) ⟨loc, M, F, Like.refl s, ?_⟩
  · (refine obEE (strs_mem h2 (by simpa using hy)) ?_; intro l u hz2; subst hz2)
    exact SeqAt.EqAt.str_none (mkS l) u
  · have : us.any (fun _ => false) = false := by rw [← Array.any_toList]; simp
    show Q (.bool (us.any (fun _ => false))) loc M
    rw [this]; exact h
end
end Mine
end
section
set_option linter.unusedVariables false
set_option maxRecDepth 100000
namespace Mine
open PySem PySem.W PySem.Calls PyProof.Rows

noncomputable def loopQ (Q : QF) (next : Loc → Mem → Prop) : QF := fun f l m => match f with
  | .next | .cont => next l m
  | .brk => Q .next l m
  | .ret v => Q (.ret v) l m

section
variable {X : Cx} {n : Nat} {fz : Frz} {L : Addr} {loc : Loc} {M : Mem} {env : Env} {a b : Addr}

theorem E1_While {Q : QF} {test : Expr} {body : List Stmt} {pos : Pos} (I : Nat → Loc → Mem → Prop) (k : Nat) (h0 : I k loc M)
    (h : ∀ k l m, I k l m → TV X n fz L env test (fun b l m => (b = true → EX X n fz L env body (loopQ Q fun l m => ∃ k', k' < k ∧ I k' l m) l m) ∧ (b = false → Q .next l m)) l m) :
    E1 X n fz L env (.While test body [] pos) Q loc M := fun A s r F o => by
  refine wpAny_While (codeAny_whileLoop (fun k s' => ∃ l m, FV X fz L l m s'.heap ∧ Like s s' ∧ I k l m) (fun k s₁ hI => ?_) k ⟨loc, M, F, Like.refl s, h0⟩)
  (refine obEEAA (hI) ?_; intro l₁ M₁ F₁ k₁ hI)
  refine wpAny_mono (WT.use (h k l₁ M₁ hI _ rfl) r F₁ k₁ o) (fun b s₂ hq => ?_) (fun _ _ e => e.elim)
  (refine obEEAA (hq) ?_; intro l₂ M₂ F₂ k₂ q)
  cases b with
  | false => exact wpAny_execs_nil ⟨l₂, M₂, F₂, k₂, q.2 rfl⟩
  | true =>
    refine wpAny_mono (WT.use (q.1 rfl) r F₂ k₂ o) (fun f s₃ hq => ?_) (fun _ _ e => e.elim)
    (refine obEEAA (hq) ?_; intro l₃ M₃ F₃ k₃ q)
    cases f with
    | next => obtain ⟨k', hk, q⟩ := q; exact ⟨k', hk, l₃, M₃, F₃, k₃, q⟩
    | cont => obtain ⟨k', hk, q⟩ := q; exact ⟨k', hk, l₃, M₃, F₃, k₃, q⟩
    | brk => exact ⟨l₃, M₃, F₃, k₃, q⟩
    | ret v => exact ⟨l₃, M₃, F₃, k₃, q⟩

noncomputable def frzL (fz : Frz) (ips : List Addr) (h : Heap) : Frz := fun b => if b ∈ ips then h.get? b else fz b
noncomputable def Off (X : Cx) (fz : Frz) (ips : List Addr) : Prop := ∀ b ∈ ips, fz b = none ∧ X.T.get? b = none

theorem FV.mv {ips : List Addr} {h h' : Heap} (F : FV X (frzL fz ips h) L loc M h) (off : Off X fz ips) (k : ∀ b o, b ∉ ips → h.get? b = some o → h'.get? b = some o)
    (live : ∀ b ∈ ips, ∃ o, h.get? b = some o) : FV X (frzL fz ips h') L loc M h' := by
  (refine dn fun hG0 => ?_; obtain ⟨own, ⟨i1, i2, i3⟩, a1, a2, m, hm, he⟩ := F; refine hG0 ?_; clear hG0)
  have own0 : ∀ b ∈ ips, own b = none := fun b hb => by
    (refine obE (live b hb) ?_; intro o ho)
    exact (i2 b o ((if_pos hb).trans ho)).2
  have hL : L ∉ ips := fun hb => by
    (refine obE (live L hb) ?_; intro o ho)
    rw [show frzL fz ips h L = h.get? L from if_pos hb, ho] at a2; cases a2
  have own1 : ∀ d y, own d = some y → d ∉ ips := fun d y e hd => by rw [own0 d hd] at e; cases e
  refine ⟨own, ⟨fun c x e => ?_, fun c x e => ?_, fun c x e => ?_⟩, a1, ?_, m, ?_, he⟩
  · have hc : c ∉ ips := fun hc => by rw [(off c hc).2] at e; cases e
    have := i1 c x e
    rw [show frzL fz ips h c = fz c from if_neg hc] at this
    exact (if_neg hc).trans this
  · by_cases hc : c ∈ ips
    · exact ⟨(if_pos hc : frzL fz ips h' c = _).symm.trans e, own0 c hc⟩
    · have e' : frzL fz ips h c = some x := (if_neg hc).trans ((if_neg hc : frzL fz ips h' c = _).symm.trans e)
      exact ⟨k _ _ hc (i2 c x e').1, (i2 c x e').2⟩
  · have q := i3 c x e
    exact ⟨q.1, q.2.mono (fun d y hd od => k d y (own1 d _ od) hd) (fun _ _ _ q => q) q.1⟩
  · rw [show frzL fz ips h L = fz L from if_neg hL] at a2
    exact (if_neg hL).trans a2
  · exact hm.at' fun o e => k L o hL e
theorem FV.thaw {ips : List Addr} {h : Heap} (F : FV X (frzL fz ips h) L loc M h) (off : Off X fz ips) : FV X fz L loc M h := by
  (refine dn fun hG0 => ?_; obtain ⟨own, ⟨i1, i2, i3⟩, a1, a2, r⟩ := F; refine hG0 ?_; clear hG0)
  have sub : ∀ c x, fz c = some x → frzL fz ips h c = some x := fun c x e => by
    have hc : c ∉ ips := fun hc => by rw [(off c hc).1] at e; cases e
    exact (if_neg hc).trans e
  refine ⟨own, ⟨fun c x e => ?_, fun c x e => i2 c x (sub c x e), i3⟩, a1, ?_, r⟩
  · have hc : c ∉ ips := fun hc => by rw [(off c hc).2] at e; cases e
    exact (if_neg hc : frzL fz ips h c = _).symm.trans (i1 c x e)
  · cases q : fz L with
    | none => rfl
    | some x => rw [sub _ _ q] at a2; cases a2
theorem FV.setApart {ips : List Addr} {h h' : Heap} (F : FV X fz L loc M h) (k : Ext h h') (new : ∀ b ∈ ips, h.get? b = none) : FV X (frzL fz ips h') L loc M h' ∧ Off X fz ips := by
  (refine dn fun hG0 => ?_; obtain ⟨own, ⟨i1, i2, i3⟩, a1, a2, m, hm, he⟩ := F; refine hG0 ?_; clear hG0)
  have hoff : Off X fz ips := fun b hb => by
    constructor
    · cases q : fz b with
      | none => rfl
      | some x => exact absurd (i2 b x q).1 (by rw [new b hb]; exact fun e => by cases e)
    · cases q : X.T.get? b with
      | none => rfl
      | some x => exact absurd (i2 b x (i1 b x q)).1 (by rw [new b hb]; exact fun e => by cases e)
  have hL : L ∉ ips := fun hb => by
    (refine obEEEA (hm) ?_; intro o es ep ho _)
    rw [new L hb] at ho; cases ho
  let own' : Addr → Option Addr := fun b => if b ∈ ips then none else own b
  have oo : ∀ b x, h.get? b = some x → own' b = own b := fun b x e => if_neg fun hb => by rw [new b hb] at e; cases e
  refine ⟨⟨own', ⟨fun c x e => ?_, fun c x e => ?_, fun c x e => ?_⟩, (if_neg hL).trans a1, (if_neg hL).trans a2, m, hm.keeps k, he⟩, hoff⟩
  · have hc : c ∉ ips := fun hc => by rw [(hoff c hc).2] at e; cases e
    exact (if_neg hc).trans (i1 c x e)
  · by_cases hc : c ∈ ips
    · exact ⟨(if_pos hc : frzL fz ips h' c = _).symm.trans e, if_pos hc⟩
    · have e' : fz c = some x := (if_neg hc : frzL fz ips h' c = _).symm.trans e
      exact ⟨k _ _ (i2 c x e').1, (if_neg hc).trans (i2 c x e').2⟩
  · have q := i3 c x e
    refine ⟨(if_neg fun hb => ?_).trans q.1, q.2.mono (fun _ _ hd _ => k _ _ hd) (fun d y hd od => (oo d y hd).trans od) q.1⟩
    have := q.2.lt
    have h0 := new c hb
    cases x with
    | inst C kk f => obtain ⟨dx, es, n, h1, _⟩ := q.2; rw [h0] at h1; cases h1
    | dct l => obtain ⟨kvs, ⟨o, es, ep, ho, _⟩, _⟩ := q.2; rw [h0] at ho; cases ho
    | lst xs => obtain ⟨vs, ⟨o, ho⟩, _⟩ := q.2; rw [h0] at ho; cases ho
    | tup xs => obtain ⟨vs, ⟨o, ho, _⟩, _⟩ := q.2; rw [h0] at ho; cases ho
    | obj o => have ho : h.get? c = some o := q.2; rw [h0] at ho; cases ho

structure Itr (X : Cx) (n : Nat) (I : Addr) (ips : List Addr) (tgt : Expr) (tOk : Env → Prop) (upd : Nat → Loc → Loc) (len : Nat) (St : Nat → Heap → Prop) (G : Mem → Prop) : Prop where
  live : ∀ i h, St i h → ∀ b ∈ ips, ∃ o, h.get? b = some o
  only : ∀ i h h', St i h → (∀ b ∈ ips, ∀ o, h.get? b = some o → h'.get? b = some o) → St i h'
  item : ∀ i A (s : Shared) env L fz loc M, Room A n → tOk env → env.locals = L → env.scope.kind = .function → Off X fz ips → FV X (frzL fz ips s.heap) L loc M s.heap → G M → St i s.heap → i < len →
    wpAny (model X.prog X.w) A (pyNext (.ref I)) (fun r s₁ => ∃ v, r = some v ∧ wpAny (model X.prog X.w) A (letOwnedTupleGo tgt (.ref I) v) (fun _ s₂ => wpAny (model X.prog X.w) A (assign tgt env v)
      (fun _ s₃ => FV X (frzL fz ips s₃.heap) L (upd i loc) M s₃.heap ∧ St (i + 1) s₃.heap ∧ Like s s₃) (fun _ _ => False) s₂) (fun _ _ => False) s₁) (fun _ _ => False) s
  done : ∀ A (s : Shared) L fz loc M, Room A n → Off X fz ips → FV X (frzL fz ips s.heap) L loc M s.heap → G M → St len s.heap →
    wpAny (model X.prog X.w) A (pyNext (.ref I)) (fun r s₁ => r = none ∧ FV X fz L loc M s₁.heap ∧ Like s s₁) (fun _ _ => False) s
  self : ∀ i A (s : Shared) (Q : Value → Shared → Prop) (E : Value → Shared → Prop), St i s.heap → Q (.ref I) s → wpAny (model X.prog X.w) A (pyIter (.ref I)) Q E s

theorem Itr.stay {I : Addr} {ips : List Addr} {tgt : Expr} {tOk : Env → Prop} {upd : Nat → Loc → Loc} {len : Nat} {St : Nat → Heap → Prop} {G : Mem → Prop} (hI : Itr X n I ips tgt tOk upd len St G) {i : Nat} {h h' : Heap} {l : Loc} {m : Mem} {C : Addr}
    (F : FV X (frzL fz ips h) C l m h') (st : St i h) : FV X (frzL fz ips h') C l m h' ∧ St i h' := by
  have lv := hI.live _ _ st
  (refine obE (id F) ?_; intro own I4)
  have same : frzL fz ips h' = frzL fz ips h := by
    funext b
    unfold frzL
    split
    · rename_i hb
      (refine obE (lv b hb) ?_; intro x hx)
      rw [hx, (I4.inv.fz b x ((if_pos hb).trans hx)).1]
    · rfl
  exact ⟨by rw [same]; exact F, hI.only _ _ _ st fun b hb o ho => (I4.inv.fz b o ((if_pos hb).trans ho)).1⟩

noncomputable abbrev QI := (Env → Prop) → Nat → (Nat → Loc → Loc) → (Mem → Prop) → Loc → Mem → Prop
noncomputable def IE (X : Cx) (n : Nat) (fz : Frz) (L : Addr) (env : Env) (iter tgt : Expr) (Q : QI) (loc : Loc) (M : Mem) : Prop :=
  ∀ A s (R : Value → Shared → Prop), Room A n → FV X fz L loc M s.heap → 1 ≤ s.toks →
    (∀ I ips St tOk len upd G l m s', Itr X n I ips tgt tOk upd len St G → Off X fz ips → FV X (frzL fz ips s'.heap) L l m s'.heap → St 0 s'.heap → Like s s' → Q tOk len upd G l m → R (.ref I) s') →
    wpAny (model X.prog X.w) A (eval iter env) (fun v s₁ => wpAny (model X.prog X.w) A (pyIter v) R (fun _ _ => False) s₁) (fun _ _ => False) s

theorem E1_For {Q : QF} {tgt iter : Expr} {body : List Stmt} {pos : Pos} (hE : Fun env L)
    (h : IE X n fz L env iter tgt (fun tOk len upd G l m => tOk env ∧ ∃ Inv : Nat → Loc → Mem → Prop, Inv 0 l m ∧
      (∀ i l m, i < len → Inv i l m → G m ∧ ∀ fz, EX X n fz L env body (loopQ Q (Inv (i + 1))) (upd i l) m) ∧ (∀ l m, Inv len l m → G m ∧ Q .next l m)) loc M)
    (hs : ∀ x, foldedSetIterable iter env x = pure x := by intro _; rfl) :
    E1 X n fz L env (.For tgt iter body [] pos) Q loc M := fun A s r F o => by
  refine wpAny_For (h A s _ r F o fun I ips St tOk len upd G l m s₁ hI off F₁ st₁ k₁ hq => ?_) hs
  (refine obAEAA (hq) ?_; intro ht Inv i0 turn fin)
  refine codeAny_forLoop_any (fun k s' => ∃ i l m, k = len - i ∧ i ≤ len ∧ FV X (frzL fz ips s'.heap) L l m s'.heap ∧ St i s'.heap ∧ Like s s' ∧ Inv i l m) (fun k s₂ hJ => ?_) len
    ⟨0, l, m, rfl, Nat.zero_le _, F₁, st₁, k₁, i0⟩
  (refine obEEEAAAAA (hJ) ?_; intro i l₂ M₂ hz3 hi F₂ st₂ k₂ inv₂; subst hz3)
  by_cases hlt : i < len
  · (refine obA (turn i l₂ M₂ hlt inv₂) ?_; intro g tr)
    refine wpAny_mono (hI.item i A s₂ env L fz l₂ M₂ r ht hE.loc hE.kind off F₂ g st₂ hlt) (fun r' s₃ hr => ?_) (fun _ _ e => e.elim)
    (refine obEA (hr) ?_; intro v hz1 w; subst hz1)
    refine wpAny_mono w (fun _ s₄ w => wpAny_mono w (fun _ s₃ w => ?_) (fun _ _ e => e.elim)) (fun _ _ e => e.elim)
    (refine obAA (w) ?_; intro F₃ st₃ k₃)
    refine wpAny_mono (WT.use (tr _) r F₃ (k₂.trans k₃) o) (fun f s₄ hq => ?_) (fun _ _ e => e.elim)
    (refine obEEAA (hq) ?_; intro l₄ M₄ F₄ k₄ q)
    (refine obA (hI.stay F₄ st₃) ?_; intro F₄' st₄)
    have again : Inv (i + 1) l₄ M₄ → ∃ m, m < len - i ∧ ∃ i l m', m = len - i ∧ i ≤ len ∧ FV X (frzL fz ips s₄.heap) L l m' s₄.heap ∧ St i s₄.heap ∧ Like s s₄ ∧ Inv i l m' := fun q =>
      ⟨len - (i + 1), by (clear q st₄ F₄' k₄ F₄ hq k₃ st₃ F₃ w tr g inv₂ k₂ st₂ F₂ fin turn i0 ht k₁ st₁ F₁ off hI o F r hs h hE; omega), i + 1, l₄, M₄, rfl, hlt, F₄', st₄, k₄, q⟩
    cases f with
    | next => exact again q
    | cont => exact again q
    | brk => exact ⟨l₄, M₄, F₄'.thaw off, k₄, q⟩
    | ret v => exact ⟨l₄, M₄, F₄'.thaw off, k₄, q⟩
  · have : i = len := by (lia)
    subst this
    (refine obA (fin _ _ inv₂) ?_; intro g q)
    refine wpAny_mono (hI.done A s₂ L fz l₂ M₂ r off F₂ g st₂) (fun r' s₃ hr => ?_) (fun _ _ e => e.elim)
    (refine obAA (hr) ?_; intro hz0 F₃ k₃; subst hz0)
    exact wpAny_execs_nil ⟨l₂, M₂, F₃, k₂.trans k₃, q⟩
end
end Mine
end
section
set_option linter.unusedVariables false
set_option maxRecDepth 100000
namespace Mine
open PySem PySem.W PySem.Calls PyProof.Rows

section
variable {X : Cx} {n : Nat} {fz : Frz} {L : Addr} {loc : Loc} {M : Mem} {env : Env} {a b : Addr}



theorem FV.stayL {ips : List Addr} {h h' : Heap} (F : FV X (frzL fz ips h) L loc M h') (lv : ∀ b ∈ ips, ∃ o, h.get? b = some o) :
    FV X (frzL fz ips h') L loc M h' ∧ ∀ b ∈ ips, ∀ o, h.get? b = some o → h'.get? b = some o := by
  (refine obE (id F) ?_; intro own I4)
  have same : frzL fz ips h' = frzL fz ips h := by
    funext b
    unfold frzL
    split
    · rename_i hb
      (refine obE (lv b hb) ?_; intro x hx)
      rw [hx, (I4.inv.fz b x ((if_pos hb).trans hx)).1]
    · rfl
  exact ⟨by rw [same]; exact F, fun b hb o ho => (I4.inv.fz b o ((if_pos hb).trans ho)).1⟩
theorem asgName {ips : List Addr} {A : Around} {s : Shared} {x : Str} {p : Pos} {v : Value} (F : FV X (frzL fz ips s.heap) L loc M s.heap) (lv : ∀ b ∈ ips, ∃ o, s.heap.get? b = some o)
    (hx : env.kindOf x = some .local) (hL : env.locals = L) (hk : env.scope.kind = .function) :
    wpAny (model X.prog X.w) A (assign (.Name x p) env v) (fun _ s' => FV X (frzL fz ips s'.heap) L (setL loc x (er v)) M s'.heap ∧ (∀ b ∈ ips, ∀ o, s.heap.get? b = some o → s'.heap.get? b = some o) ∧ Like s s') (fun _ _ => False) s := by
  subst hL
  (refine obEA (F.ns) ?_; intro m hn he)
  refine wpAny_assign_Name (wpAny_storeName_local hx hn (fun h' hn' hs => ?_) (by rw [hk]; rfl))
  have F' : FV X (frzL fz ips s.heap) env.locals (setL loc x (er v)) M h' := F.store hs hn' fun y => by
    unfold setL
    by_cases hy : y = x
    · simp [hy]
    · simp [hy, he]
  (refine obA (F'.stayL lv) ?_; intro F₂ k)
  exact ⟨F₂, k, Like.mk' s _ _ (Nat.le_succ _)⟩


theorem Itr_str {I : Addr} {l : List Nat} {t : Tok} {x : Str} {p : Pos} {ty : String} (hty : ty = "str_ascii_iterator" ∨ ty = "str_iterator") :
    Itr X n I [I] (.Name x p) (fun env => env.kindOf x = some .local) (fun i lo => setL lo x (.str (mkS [l.getD i 0]) 0)) l.length (fun i h => h.IsStrIter I ty (mkS l) t i) (fun m => True) where
  live := fun i h st b hb => by rw [List.mem_singleton.mp hb]; obtain ⟨o, ho, _⟩ := st; exact ⟨o, ho⟩
  only := fun i h h' st k => by obtain ⟨o, ho, r⟩ := st; exact ⟨o, k I (by simp) o ho, r⟩
  item := fun i A s env L fz loc M r ht hL hk off F g st hi => by
    have hx : (mkS l).cps[i]? = some l[i] := by simp [mkS, hi]
    have lvs : ∀ {j : Nat} {h : Heap}, h.IsStrIter I ty (mkS l) t j → ∀ b ∈ [I], ∃ o, h.get? b = some o := fun st b hb => by rw [List.mem_singleton.mp hb]; obtain ⟨o, ho, _⟩ := st; exact ⟨o, ho⟩
    have go : ∀ (h' : Heap) (v : Value) (tk : Tok), er v = .str (mkS [l[i]]) 0 → s.toks ≤ tk → h'.IsStrIter I ty (mkS l) t (i + 1) → Heap.SameBut I s.heap h' →
        wpAny (model X.prog X.w) A (letOwnedTupleGo (.Name x p) (.ref I) v) (fun _ s₂ => wpAny (model X.prog X.w) A (assign (.Name x p) env v)
          (fun _ s₃ => FV X (frzL fz [I] s₃.heap) L (setL loc x (.str (mkS [l.getD i 0]) 0)) M s₃.heap ∧ s₃.heap.IsStrIter I ty (mkS l) t (i + 1) ∧ Like s s₃) (fun _ _ => False) s₂) (fun _ _ => False) { s with heap := h', toks := tk } := fun h' v tk ev htk st' hs => by
      have F₁ := F.mv off (h' := h') (fun b o hb ho => (hs.2 b (fun e => hb (by simp [e]))).trans ho) (lvs st)
      refine wpAny_of_eq (rfl : letOwnedTupleGo (.Name x p) (.ref I) v = pure ()) ?_
      have w := asgName (A := A) (s := { s with heap := h', toks := tk }) (x := x) (p := p) (v := v) F₁ (lvs st') ht hL hk
      refine wpAny_mono w (fun _ s' q => ?_) (fun _ _ e => e)
      (refine obAA (q) ?_; intro F₂ k lk)
      have : er v = .str (mkS [l.getD i 0]) 0 := by rw [ev]; simp [List.getD, List.getElem?_eq_getElem hi]
      (refine obEA (st') ?_; intro o ho rr)
      exact ⟨by rw [← this]; exact F₂, ⟨o, k I (by simp) o ho, rr⟩, (Like.mk' s h' tk htk).trans lk⟩
    rcases hty with rfl | rfl
    · exact wpAny_pyNext_ascii_item st hx fun h' st' hs => ⟨_, rfl, go h' _ _ rfl (Nat.le_succ _) st' hs⟩
    · exact wpAny_pyNext_wide_item st hx fun h' st' hs => ⟨_, rfl, go h' _ _ rfl (Nat.le_succ _) st' hs⟩
  done := fun A s L fz loc M r off F g st => by
    have lv : ∀ b ∈ [I], ∃ o, s.heap.get? b = some o := fun b hb => by rw [List.mem_singleton.mp hb]; obtain ⟨o, ho, _⟩ := st; exact ⟨o, ho⟩
    have hx : (mkS l).cps[l.length]? = none := by simp [mkS]
    rcases hty with rfl | rfl
    · exact wpAny_pyNext_ascii_end r.handled st hx fun h' hs => ⟨rfl, (F.mv off (h' := h') (fun b o hb ho => hs b o (fun e => hb (by simp [e])) ho) lv).thaw off, Like.heap s h'⟩
    · exact wpAny_pyNext_wide_end r.handled st hx fun h' hs => ⟨rfl, (F.mv off (h' := h') (fun b o hb ho => hs b o (fun e => hb (by simp [e])) ho) lv).thaw off, Like.heap s h'⟩
  self := fun i A s Q E st hq => by
    rcases hty with rfl | rfl
    · exact wpAny_pyIter_striter_ascii st hq
    · exact wpAny_pyIter_striter_wide st hq
theorem fresh_get (h : Heap) : ∀ b ∈ [h.objs.size], h.get? b = none := fun b hb => by
  rw [List.mem_singleton.mp hb]
  cases z : h.get? h.objs.size with
  | none => rfl
  | some y => exact absurd (Heap.lt_size z) (Nat.lt_irrefl _)
theorem IE_str {Q : QI} {iter : Expr} {x : Str} {p : Pos} (h : EV X n fz L env iter (fun v lo m => ∃ l, v = .str (mkS l) 0 ∧ Q (fun env => env.kindOf x = some .local) l.length (fun i lo => setL lo x (.str (mkS [l.getD i 0]) 0)) (fun m => True) lo m) loc M) :
    IE X n fz L env iter (.Name x p) Q loc M := fun A s R r F o fin => by
  refine wpAny_mono (h A s r F o) (fun v s₁ hq => ?_) (fun _ _ e => e)
  (refine obEEAAEA (hq) ?_; intro l₁ M₁ F₁ k₁ l e q)
  (refine obE (er_str e) ?_; intro t hz1; subst hz1)
  cases ha : (mkS l).cps.all (· < 128)
  · refine wpAny_pyIter_wide ha ?_
    (refine obA (F₁.setApart (ips := [s₁.heap.objs.size]) (Ext.push s₁.heap { cls := .type "str_iterator", data := .fields #[.str (mkS l) t, .int 0 0] }) (fresh_get _)) ?_; intro F₂ off)
    exact fin _ [s₁.heap.objs.size] _ _ _ _ _ l₁ M₁ _ (Itr_str (l := l) (t := t) (x := x) (p := p) (.inr rfl)) off F₂ ⟨_, Heap.get?_push_size _ rfl, rfl, rfl⟩ (k₁.trans (Like.heap s₁ _)) q
  · refine wpAny_pyIter_ascii ha ?_
    (refine obA (F₁.setApart (ips := [s₁.heap.objs.size]) (Ext.push s₁.heap { cls := .type "str_ascii_iterator", data := .fields #[.str (mkS l) t, .int 0 0] }) (fresh_get _)) ?_; intro F₂ off)
    exact fin _ [s₁.heap.objs.size] _ _ _ _ _ l₁ M₁ _ (Itr_str (l := l) (t := t) (x := x) (p := p) (.inl rfl)) off F₂ ⟨_, Heap.get?_push_size _ rfl, rfl, rfl⟩ (k₁.trans (Like.heap s₁ _)) q

end
end Mine
end
section
set_option linter.unusedVariables false
set_option maxRecDepth 100000
namespace Mine
open PySem PySem.W PySem.Calls PyProof.Rows

section
variable {X : Cx} {n : Nat} {fz : Frz} {L : Addr} {loc : Loc} {M : Mem} {env : Env} {a b : Addr}


noncomputable def frz1 (fz : Frz) (L : Addr) (o : Obj) : Frz := fun b => if b = L then some o else fz b
theorem FV.frame {h : Heap} (F : FV X fz L loc M h) : ∃ oL, h.get? L = some oL ∧ GV X (frz1 fz L oL) M h ∧ fz L = none ∧ ∀ M' h', GV X (frz1 fz L oL) M' h' → FV X fz L loc M' h' := by
  (refine obE (F) ?_; intro own F)
  (refine obEA (F.loc) ?_; intro m hz1 he; refine dn fun hG0 => ?_; obtain ⟨oL, es, ep, hL, hd⟩ := hz1; refine hG0 ?_; clear hG0)
  have T0 : ∀ b o, X.T.get? b = some o → b ≠ L := fun b o e z => by
    have q := F.inv.top b o e
    rw [z, F.fzL] at q; cases q
  refine ⟨oL, hL, ⟨own, ⟨fun b o e => (if_neg (T0 b o e)).trans (F.inv.top b o e), fun b o e => ?_, F.inv.rep⟩⟩, F.fzL, fun M' h' g' => ?_⟩
  · by_cases hb : b = L
    · subst hb
      have : some oL = some o := (if_pos rfl : frz1 fz b oL b = some oL).symm.trans e
      cases this
      exact ⟨hL, F.ownL⟩
    · have : fz b = some o := (if_neg hb : frz1 fz L oL b = fz b).symm.trans e
      exact F.inv.fz b o this
  · (refine obE (g') ?_; intro own' I)
    have hL' := I.fz L oL (if_pos rfl)
    have fzz : ∀ b o, fz b = some o → frz1 fz L oL b = some o := fun b o e => by
      have : b ≠ L := fun z => by rw [z, F.fzL] at e; cases e
      exact (if_neg this).trans e
    exact ⟨own', ⟨F.inv.top, fun b o e => I.fz b o (fzz b o e), I.rep⟩, hL'.2, F.fzL, m, ⟨oL, es, ep, hL'.1, hd⟩, he⟩
theorem GV.enter {h h' : Heap} {C : Addr} {m : Str → Option Value} (g : GV X fz M h) (k : Ext h h') (hC : h.get? C = none) (hn : h'.Ns C m) (he : ∀ x, (m x).map er = loc x) : FV X fz C loc M h' := by
  (refine obE (g) ?_; intro own I)
  let own' : Addr → Option Addr := fun b => if b = C then none else own b
  have oo : ∀ b x, h.get? b = some x → own' b = own b := fun b x e => if_neg fun z => by rw [z, hC] at e; cases e
  refine ⟨own', ⟨I.top, fun b o e => ⟨k _ _ (I.fz b o e).1, (oo _ _ (I.fz b o e).1).trans (I.fz b o e).2⟩, fun b o e => ?_⟩, if_pos rfl, ?_, m, hn, he⟩
  · have q := I.rep b o e
    refine ⟨(if_neg fun z => ?_).trans q.1, q.2.mono (fun _ _ hd _ => k _ _ hd) (fun d y hd od => (oo d y hd).trans od) q.1⟩
    have lt := q.2
    cases o with
    | inst C' kk f => obtain ⟨dx, es, n, h1, _⟩ := lt; rw [z, hC] at h1; cases h1
    | dct l => obtain ⟨kvs, ⟨o, es, ep, ho, _⟩, _⟩ := lt; rw [z, hC] at ho; cases ho
    | lst xs => obtain ⟨vs, ⟨o, ho⟩, _⟩ := lt; rw [z, hC] at ho; cases ho
    | tup xs => obtain ⟨vs, ⟨o, ho, _⟩, _⟩ := lt; rw [z, hC] at ho; cases ho
    | obj o => have ho : h.get? b = some o := lt; rw [z, hC] at ho; cases ho
  · cases q : fz C with
    | none => rfl
    | some x => have := (I.fz _ _ q).1; rw [hC] at this; cases this
theorem FV.leave {h h' : Heap} {C : Addr} (F : FV X fz C loc M h) (hs : Heap.SameBut C h h') : GV X fz M h' := by
  (refine dn fun hG0 => ?_; obtain ⟨own, ⟨i1, i2, i3⟩, a1, a2, _⟩ := F; refine hG0 ?_; clear hG0)
  refine ⟨own, ⟨i1, fun c o e => ⟨(hs.2 c fun z => ?_).trans (i2 c o e).1, (i2 c o e).2⟩, fun c o e => ⟨(i3 c o e).1, (i3 c o e).2.mono (fun d x hd od => (hs.2 d fun z => ?_).trans hd) (fun _ _ _ q => q) (i3 c o e).1⟩⟩⟩
  · rw [z, a2] at e; cases e
  · rw [z, a1] at od; cases od
theorem GV.thawList {h : Heap} {D : Addr} {us : Array Value} (g : GV X (frzL fz [D] h) M h) (off : Off X fz [D]) (hD : h.PlainList D us) : GV X fz (setM M D (.lst (us.toList.map er))) h ∧ M D = none := by
  (refine obE (g) ?_; intro own I)
  (refine obE (id hD) ?_; intro nn hd)
  have oD : own D = none := (I.fz D _ ((if_pos (by simp)).trans hd)).2
  have MD : M D = none := by
    cases q : M D with
    | none => rfl
    | some x => have := (I.rep D x q).1; rw [oD] at this; cases this
  refine ⟨⟨fun b => if b = D then some D else own b, ⟨fun c x e => ?_, fun c x e => ?_, fun c x e => ?_⟩⟩, MD⟩
  · have hc : c ∉ [D] := fun hc => by rw [(off c hc).2] at e; cases e
    exact (if_neg hc : frzL fz [D] h c = _).symm.trans (I.top c x e)
  · have hc : c ∉ [D] := fun hc => by rw [(off c hc).1] at e; cases e
    have e' : frzL fz [D] h c = some x := (if_neg hc).trans e
    have hcD : c ≠ D := fun z => hc (by simp [z])
    exact ⟨(I.fz c x e').1, (if_neg hcD).trans (I.fz c x e').2⟩
  · by_cases hc : c = D
    · subst hc
      rw [setM_same] at e; cases e
      exact ⟨if_pos rfl, us, hD, rfl⟩
    · rw [setM_ne _ _ hc] at e
      have q := I.rep c x e
      refine ⟨(if_neg hc).trans q.1, q.2.mono (fun _ _ hd _ => hd) (fun d y hd od => ?_) q.1⟩
      have : d ≠ D := fun z => by rw [z, oD] at od; cases od
      exact (if_neg this).trans od

theorem frzL_cons (fz : Frz) (D : Addr) (ips : List Addr) (h : Heap) : frzL fz (D :: ips) h = frzL (frzL fz [D] h) ips h := by
  funext b
  unfold frzL
  by_cases q : b ∈ ips
  · simp [q]
  · by_cases z : b = D
    · simp [z]
    · simp [q, z]

theorem EV_comp {Q : QV} {elt tgt iter : Expr} {scope : Scope} {pos : Pos} (hE : Fun env L)
    (h : IE X n fz L env iter tgt (fun tOk len upd G l m => len ≤ 16777216 ∧ ∃ Inv : Nat → List Value → Loc → Mem → Prop, Inv 0 [] (fun _ => none) m ∧
      (∀ i ys lc mm, i < len → ys.length = i → Inv i ys lc mm → G mm ∧ ∀ fz C cenv, Fun cenv C → cenv.scope = scope → tOk cenv ∧ EV X n fz C cenv elt (fun y lc mm => Inv (i + 1) (ys ++ [y]) lc mm) (upd i lc) mm) ∧
      (∀ ys lc mm, ys.length = len → Inv len ys lc mm → G mm ∧ ∀ D, mm D = none → Q (.ref D) l (setM mm D (.lst ys)))) loc M)
    (hfree : ∀ x ∈ scope.names, x.2 ≠ .free := by decide +kernel) (hcell : ∀ y ∈ scope.names, y.2 ≠ .cell := by decide +kernel) (hkind : scope.kind = .function := by rfl)
    (hnames : ∀ x ∈ scope.names, x.2 = .local → scope.names.lookup x.1 = some .local := by decide +kernel)
    (hs : ∀ x, foldedSetIterable iter env x = pure x := by intro _; rfl) :
    EV X n fz L env (.ListComp elt [⟨tgt, iter, [], 0⟩] scope pos) Q loc M := fun A s r F o => by
  refine wpAny_ListComp hfree hkind hnames (h A s _ r F o fun I ips St tOk len upd G l m s₂ hI off F₂ st₂ k₂ hq => ?_) hs
  (refine obAEAA (hq) ?_; intro hlen Inv i0 turn fin)
  have hh := r.handled
  refine wpAny_newObj_type (wpAny_newFunctionEnv hcell (by intro y hy; simp at hy) (fun h₁ hns₁ hsb₁ => ?_) hkind) (by size_fits)
  dsimp only at hns₁ hsb₁ ⊢
  -- the new list D, the comprehension's frame C
  generalize hD : s₂.heap.objs.size = D at *
  generalize hH2 : s₂.heap.push { cls := .type "list", dict := none, data := .seq ([] : List Value).toArray } = H2 at *
  have hC : H2.objs.size = D + 1 := by rw [← hH2, Heap.size_push, hD]
  generalize hCC : H2.objs.size = C at *
  have fresh : ∀ a, D ≤ a → s₂.heap.get? a = none := fun a ha => by
    cases e : s₂.heap.get? a with
    | none => rfl
    | some o' => have := Heap.lt_size e; rw [hD] at this; exact absurd this (Nat.not_lt.mpr ha)
  have extH : Ext s₂.heap H2 := by rw [← hH2]; exact Ext.push _ _
  have H2C : H2.get? C = none := by
    cases e : H2.get? C with
    | none => rfl
    | some o' => have := Heap.lt_size e; rw [hCC] at this; exact absurd this (Nat.lt_irrefl _)
  have ext2 : Ext H2 h₁ := fun b o' hb => by
    have : b ≠ C := fun z => by rw [z, H2C] at hb; cases hb
    exact hsb₁.extBut b o' this (Heap.get?_push_of_some _ hb)
  obtain ⟨FD, offD⟩ := F₂.setApart (ips := [D]) extH (fun b hb => by rw [List.mem_singleton.mp hb]; exact fresh D (Nat.le_refl _))
  (refine obEAAA (FD.frame) ?_; intro oL hoL gL fzL0 back)
  -- names for the frozen parts
  have lv₂ := hI.live _ _ st₂
  have hDip : D ∉ ips := fun hb => by obtain ⟨x, hx⟩ := lv₂ D hb; rw [fresh D (Nat.le_refl _)] at hx; cases hx
  have hLip : L ∉ ips := fun hb => by
    (refine obE (lv₂ L hb) ?_; intro x hx)
    (refine obE (F₂) ?_; intro own I2)
    have := I2.fzL
    rw [show frzL fz ips s₂.heap L = s₂.heap.get? L from if_pos hb, hx] at this; cases this
  have hLD : L ≠ D := fun z => by
    (refine obE (F₂) ?_; intro own I2)
    (refine obEA (I2.loc) ?_; intro m' hz1 _; refine dn fun hG0 => ?_; obtain ⟨o', es, ep, ho', _⟩ := hz1; refine hG0 ?_; clear hG0)
    rw [z, fresh D (Nat.le_refl _)] at ho'; cases ho'
  have fzL : fz L = none := by
    (refine obE (F₂) ?_; intro own I2)
    exact (if_neg hLip : frzL fz ips s₂.heap L = fz L).symm.trans I2.fzL
  have lvH : ∀ b ∈ ips, H2.get? b = s₂.heap.get? b := fun b hb => by obtain ⟨x, hx⟩ := lv₂ b hb; rw [hx]; exact extH _ _ hx
  have fzD : fz D = none := (if_neg hDip : frzL fz ips s₂.heap D = fz D).symm.trans (offD D (by simp)).1
  have eqfz : frz1 (frzL (frzL fz ips s₂.heap) [D] H2) L oL = frzL (frz1 fz L oL) (D :: ips) H2 := by
    funext b
    unfold frz1 frzL
    by_cases q : b = L
    · subst q; simp [hLip, hLD]
    · by_cases z : b = D
      · subst z; simp [q]
      · by_cases y : b ∈ ips
        · simp [q, z, y, lvH b y]
        · simp [q, z, y]
  have offA : Off X (frz1 fz L oL) (D :: ips) := fun b hb => by
    rcases List.mem_cons.mp hb with rfl | hb
    · exact ⟨(if_neg (Ne.symm hLD)).trans fzD, (offD b (by simp)).2⟩
    · have hbL : b ≠ L := fun z => hLip (by rw [← z]; exact hb)
      exact ⟨(if_neg hbL : frz1 fz L oL b = fz b).trans (off b hb).1, (off b hb).2⟩
  have offI : ∀ h, Off X (frzL (frz1 fz L oL) [D] h) ips := fun h b hb => by
    have := offA b (List.mem_cons_of_mem _ hb)
    have hbD : b ∉ [D] := fun z => hDip (by rw [← List.mem_singleton.mp z]; exact hb)
    exact ⟨(if_neg hbD : frzL (frz1 fz L oL) [D] h b = frz1 fz L oL b).trans this.1, this.2⟩
  rw [eqfz] at gL
  have FC : FV X (frzL (frz1 fz L oL) (D :: ips) H2) C (fun _ => none) m h₁ := gL.enter ext2 H2C hns₁ (fun x => rfl)
  have H2D : H2.PlainList D #[] := by rw [← hH2, ← hD]; exact ⟨_, Heap.get?_push_size _ rfl⟩
  have lvA : ∀ b ∈ D :: ips, ∃ o, H2.get? b = some o := fun b hb => by
    rcases List.mem_cons.mp hb with rfl | hb
    · obtain ⟨nn, e⟩ := H2D; exact ⟨_, e⟩
    · rw [lvH b hb]; exact lv₂ b hb
  (refine obA (FC.stayL lvA) ?_; intro FC₁ kC)
  have stC : St 0 h₁ := hI.only _ _ _ st₂ fun b hb o' ho' => ext2 _ _ (extH _ _ ho')
  have plC : h₁.PlainList D #[] := H2D.at fun o' e => kC D (by simp) o' e
  let cenv : Env := compEnv scope C env
  have hcE : Fun cenv C := ⟨hkind, rfl, hE.glob, hE.bi⟩
  have hcS : cenv.scope = scope := rfl
  have hcL : cenv.locals = C := rfl
  have loop : ∀ s₃ : Shared, s₃.heap = h₁ → Like s s₃ → codeAny (model X.prog X.w) A (.compLoop (.ListComp elt [⟨tgt, iter, [], 0⟩] scope pos) 0 (.ref I) (.ref D) cenv)
      (fun r s' => ∃ m, s'.heap.Ns cenv.locals m ∧ ∀ h', Heap.SameBut cenv.locals s'.heap h' → match r with
        | .ok _ => ∃ loc' M', FV X fz L loc' M' h' ∧ Like s { s' with heap := h' } ∧ Q (er (.ref D)) loc' M'
        | .error x => wpAny (model X.prog X.w) A (passOn "comprehension.variables-let-go" x cenv) (fun v s' => ∃ loc' M', FV X fz L loc' M' s'.heap ∧ Like s s' ∧ Q (er v) loc' M') (fun _ _ => False) { s' with heap := h' }) s₃ := fun s₃ hs₃ lk₃ => by
    subst hs₃
    refine kcp_loop (fun k s' => ∃ i ys us lc mm, k = len - i ∧ i ≤ len ∧ ys.length = i ∧ FV X (frzL (frz1 fz L oL) (D :: ips) s'.heap) C lc mm s'.heap ∧ St i s'.heap ∧ s'.heap.PlainList D us ∧ us.toList.map er = ys ∧ Like s s' ∧ Inv i ys lc mm)
      (fun k s₄ hJ => ?_) len ⟨0, [], #[], fun _ => none, m, rfl, Nat.zero_le _, rfl, FC₁, stC, plC, rfl, lk₃, i0⟩
    (refine obEEEEEAAAAAAAA (hJ) ?_; intro i ys us lc mm hz5 hi hys F₄ st₄ pl₄ hus k₄ inv; subst hz5)
    by_cases hlt : i < len
    · (refine obA (turn i ys lc mm hlt hys inv) ?_; intro g tr)
      have F₄' := F₄
      rw [frzL_cons] at F₄'
      (refine obA (tr (frzL (frz1 fz L oL) (D :: ips) s₄.heap) C cenv hcE hcS) ?_; intro tk _)
      refine wpAny_mono (hI.item i A s₄ cenv C _ lc mm r tk hcL hcE.kind (offI _) F₄' g st₄ hlt) (fun r' s₅ hr => ?_) (fun _ _ e => e.elim)
      (refine obEA (hr) ?_; intro v hz1 w; subst hz1)
      refine wpAny_mono w (fun _ s₆ w => wpAny_mono w (fun _ s₇ w => ?_) (fun _ _ e => e.elim)) (fun _ _ e => e.elim)
      (refine obAA (w) ?_; intro F₇ st₇ k₇)
      (refine obE (id pl₄) ?_; intro nn hD4)
      have hD7 : s₇.heap.get? D = s₄.heap.get? D := by
        (refine obE (F₇) ?_; intro own I7)
        rw [hD4]
        exact (I7.inv.fz D _ ((if_neg hDip).trans ((if_pos (by simp)).trans hD4))).1
      have F₇' : FV X (frzL (frz1 fz L oL) (D :: ips) s₇.heap) C (upd i lc) mm s₇.heap := by
        rw [frzL_cons]
        have : frzL (frz1 fz L oL) [D] s₇.heap = frzL (frz1 fz L oL) [D] s₄.heap := by
          funext b
          unfold frzL
          by_cases z : b ∈ [D]
          · rw [if_pos z, if_pos z, List.mem_singleton.mp z, hD7]
          · rw [if_neg z, if_neg z]
        rw [this]; exact F₇
      (refine obA (tr (frzL (frz1 fz L oL) (D :: ips) s₇.heap) C cenv hcE hcS) ?_; intro _ ev)
      refine wpAny_mono (WT.use ev r F₇' (k₄.trans k₇) o) (fun y s₈ hq => ?_) (fun _ _ e => e.elim)
      (refine obEEAA (hq) ?_; intro lc' mm' F₈ k₈ inv')
      have pl₇ : s₇.heap.PlainList D us := ⟨nn, hD7.trans hD4⟩
      have lv₇ : ∀ b ∈ D :: ips, ∃ o, s₇.heap.get? b = some o := fun b hb => by
        rcases List.mem_cons.mp hb with rfl | hb
        · exact ⟨_, hD7.trans hD4⟩
        · exact hI.live _ _ st₇ b hb
      (refine obA (F₈.stayL lv₇) ?_; intro F₈' k₈')
      have hsz : us.size = i := by rw [← hys, ← hus, List.length_map, Array.length_toList]
      refine wpAny_list_append_plain (pl₇.at fun o' e => k₈' D (by simp) o' e) (fun h₉ pl₉ hs₉ => ?_) (by rw [hsz, sizeLine_eq]; (clear hsz k₈' F₈' lv₇ pl₇ inv' k₈ F₈ hq ev F₇' hD7 hD4 k₇ st₇ F₇ w hr tk F₄' tr g hJ inv k₄ hus pl₄ st₄ F₄ hys hi plC stC kC FC₁ FC ext2 hsb₁ hns₁ lk₃ hcL hcS hcE lvA H2D offI offA eqfz fzD lvH fzL hLD hLip hDip lv₂ back fzL0 gL hoL offD FD H2C extH fresh hC hCC hH2 hD hh fin turn i0 hlen k₂ st₂ F₂ off hI o F r hs hnames hkind hcell hfree h hE; omega))
      have lv₈ : ∀ b ∈ D :: ips, ∃ o, s₈.heap.get? b = some o := fun b hb => by obtain ⟨x, hx⟩ := lv₇ b hb; exact ⟨x, k₈' b hb x hx⟩
      refine ⟨len - (i + 1), by (clear lv₈ hs₉ pl₉ hsz k₈' F₈' lv₇ pl₇ inv' k₈ F₈ hq ev F₇' hD7 hD4 k₇ st₇ F₇ w tk F₄' tr g inv k₄ hus pl₄ st₄ F₄ hys plC stC kC FC₁ FC ext2 hsb₁ hns₁ lk₃ hcL hcS hcE lvA H2D offI offA eqfz fzD lvH fzL hLD hLip hDip lv₂ back fzL0 gL hoL offD FD H2C extH fresh hC hCC hH2 hD hh fin turn i0 hlen k₂ st₂ F₂ off hI o F r hs hnames hkind hcell hfree h hE; omega), i + 1, ys ++ [er y], us.push y, lc', mm', rfl, hlt, by simp [hys], F₈'.mv offA (fun b o' hb ho' => (hs₉.2 b fun z => hb (by simp [z])).trans ho') lv₈, ?_, pl₉, by simp [hus], k₈.trans (Like.heap s₈ h₉), inv'⟩
      exact hI.only _ _ _ st₇ fun b hb o' ho' => (hs₉.2 b fun z => hDip (z ▸ hb)).trans (k₈' b (List.mem_cons_of_mem _ hb) o' ho')
    · have : i = len := by (lia)
      subst this
      (refine obA (fin ys lc mm hys inv) ?_; intro g q)
      have F₄' := F₄
      rw [frzL_cons] at F₄'
      refine wpAny_mono (hI.done A s₄ C _ lc mm r (offI _) F₄' g st₄) (fun r' s₅ hr => ?_) (fun _ _ e => e.elim)
      (refine obAA (hr) ?_; intro hz0 F₅ k₅; subst hz0)
      (refine obE (id pl₄) ?_; intro nn hD4)
      have hD5 : s₅.heap.get? D = s₄.heap.get? D := by
        (refine obE (F₅) ?_; intro own I5)
        rw [hD4]
        exact (I5.inv.fz D _ ((if_pos (by simp)).trans hD4)).1
      (refine obEA (F₅.ns) ?_; intro m' hn' _)
      rw [hcL]
      refine ⟨m', hn', fun h' hs' => ?_⟩
      have hCD : C ≠ D := fun z => by rw [hC] at z; exact absurd z (Nat.succ_ne_self D)
      have hD' : h'.get? D = s₄.heap.get? D := (hs'.2 D (Ne.symm hCD)).trans hD5
      have g' : GV X (frzL (frz1 fz L oL) [D] h') mm h' := by
        have : frzL (frz1 fz L oL) [D] h' = frzL (frz1 fz L oL) [D] s₄.heap := by
          funext b
          unfold frzL
          by_cases z : b ∈ [D]
          · rw [if_pos z, if_pos z, List.mem_singleton.mp z, hD']
          · rw [if_neg z, if_neg z]
        rw [this]; exact F₅.leave hs'
      obtain ⟨gg, mD⟩ := g'.thawList (fun b hb => by rw [List.mem_singleton.mp hb]; exact offA D (by simp)) ⟨nn, hD'.trans hD4⟩
      rw [hus] at gg
      (refine obEAAA ((F₂.thaw off).frame) ?_; intro oL' hoL' gL' fzL' back')
      have : oL' = oL := by
        have e1 : H2.get? L = some oL' := extH _ _ hoL'
        rw [hoL] at e1; exact (Option.some.inj e1).symm
      subst this
      exact ⟨l, _, back' _ _ gg, (k₄.trans k₅).trans (Like.heap s₅ h'), q D mD⟩
  have lk₁ : Like s { s₂ with heap := h₁, toks := s₂.toks + ([] : List (Str × Value)).length } := k₂.trans (Like.mk' s₂ _ _ (Nat.le_add_right _ _))
  refine codeAny_compStart_list (loop _ rfl lk₁) (hI.self 0 A _ _ _ stC (loop _ rfl lk₁))
end
end Mine
end
section
set_option linter.unusedVariables false
set_option maxRecDepth 100000
namespace Mine
open PySem PySem.W PySem.Calls PyProof.Rows

section
variable {X : Cx} {n : Nat} {fz : Frz} {L : Addr} {loc : Loc} {M : Mem} {env : Env} {a b C : Addr} {k : Nat} {f : Str → Option Value} {name : Str} {v : Value}

theorem GA_boundO {Q : QV} {g : Addr} (hm : M a = some (.inst C k f)) (hf : f name = none) (ok : MethOk X.K C name g) (h : ∀ q, M q = none → Q (.ref q) loc (setM M q (.obj (methodObj (.ref g) (.ref a))))) :
    O1 X n fz L (fun o => getAttr o name true) (.ref a) Q loc M := fun va e A s r F o => by
  have e := er_ref e
  subst e
  have kin := F.kin
  (refine obE (id F) ?_; intro own I)
  (refine obAEEEAAAAAA (I.inv.rep a _ hm) ?_; intro _ dx es nn h1 h2 h3 h4 h5 h6 h7)
  have hx := h7 name
  rw [hf, Option.map_eq_none_iff] at hx
  refine get_bind kin (⟨h1, rfl, rfl, h4⟩ : InstAt s.heap a (instObj C dx) C (some (dictOf es nn))) (plainGet_of ok.get).1
    (findObj_fn ok.dict ok.find ok.gget ok.takes ok.copied (by rw [lookIn_dict, getL_of h5, hx])) (plainGet_of ok.get).2
    (wpAny_call (fn_get (s := { s with toks := s.toks + 1 }) kin (beq_iff_eq.mp ok.fn) (handed_on rfl
      ⟨loc, _, F.new1 (o := .obj (methodObj (.ref g) (.ref a))) (Ext.push _ _) rfl (fun own _ => Heap.get?_push_size _ rfl), Like.mk' s _ _ (Nat.le_succ _), h _ F.fresh⟩)))

theorem GM_usual {Q : Value → List Value → Loc → Mem → Prop} (hm : M a = some (.inst C k f)) (hf : f name = some v) (ok : FieldOk X.K C name) (hn : findIn X.K (.ref C) name = some none) (h : Q v [] loc M) (hh : handedIn v = true := by rfl) :
    GM X n fz L name (.ref a) Q loc M := fun vo pl e A s r F o => by
  have e := er_ref e
  subst e
  have kin := F.kin
  (refine obE (id F) ?_; intro own I)
  (refine obAEEEAAAAAA (I.inv.rep a _ hm) ?_; intro _ dx es nn h1 h2 h3 h4 h5 h6 h7)
  have hx := h7 name
  rw [hf] at hx
  (refine obEA (Option.map_eq_some_iff.mp hx) ?_; intro v' e1 e2)
  (refine obEA (ok.attr) ?_; intro attr ha hng)
  refine method_usual kin (⟨h1, rfl, rfl, h4⟩ : InstAt s.heap a (instObj C dx) C (some (dictOf es nn))) (plainGet_of ok.get).1 (plainGet_of ok.get).2 hn rfl ?_
  refine get_value kin (⟨h1, rfl, rfl, h4⟩ : InstAt s.heap a (instObj C dx) C (some (dictOf es nn))) (plainGet_of ok.get).1
    (findObj_own ok.dict ha hng (by rw [lookIn_dict, getL_of h5, e1])) (handed_er e2 hh) ⟨loc, M, F, Like.tokn s _ (Nat.le_succ _), ?_⟩
  show Q (er v') [] loc M
  rw [e2]; exact h

theorem nil_er {fs : List Value} (h : fs.map er = []) : fs = [] := List.map_eq_nil_iff.mp h
theorem CL_bound {Q : Value → Mem → Prop} {q g : Addr} {self : Value} {args : List Value} (h0 : M q = some (.obj (methodObj (.ref g) self))) (hse : er self = self) (h : CL X n (.ref g) (self :: args) Q M) : CL X n (.ref q) args Q M :=
  fun fz A s vs r e gv o => by
    (refine obE (id gv) ?_; intro own I)
    exact method_call (I.rep q _ h0).2 (h fz A s (self :: vs) r (by rw [List.map_cons, hse, e]) gv o)
theorem CW_bound {Q : QV} {pos : Pos} {q g : Addr} {self : Value} {args : List Expr} (hg : fnIn X.K g = true)
    (h : AR X n fz L env args (fun vs l m => m q = some (.obj (methodObj (.ref g) self)) ∧ CA X n fz L (.ref q) vs Q l m) loc M)
    (hs : args.any isStarred = false := by rfl) : CW X n fz L env pos (.ref q) [] args Q loc M := fun fv fs e1 e2 A s r ff o => by
  rw [er_ref e1, nil_er e2]
  refine callWith_of (P := MethP X.K q g self) (by rw [noStar_any hs]; rfl) (fun hh x => keeps_M hg hh x) ?_
  have fin : ∀ vs l' M' s₁, FV X fz L l' M' s₁.heap → Like s s₁ → (M' q = some (.obj (methodObj (.ref g) self)) ∧ CA X n fz L (.ref q) (vs.map er) Q l' M') →
      MethP X.K q g self s₁.heap ∧ wpAny (model X.prog X.w) A (call (.ref q) ([] ++ vs) []) (fun v s' => ∃ loc' M', FV X fz L loc' M' s'.heap ∧ Like s s' ∧ Q (er v) loc' M') (fun _ _ => False) s₁ :=
    fun vs l' M' s₁ f' k' q' => by
      (refine obE (id f') ?_; intro own I)
      have ho : s₁.heap.get? q = some (methodObj (.ref g) self) := (I.inv.rep q _ q'.1).2
      exact ⟨⟨ho, f'.kin⟩, WT.use (q'.2 vs rfl) r f' k' o⟩
  cases args with
  | nil => exact evalArgs_nil3 (by simpa using fin [] loc M s ff (Like.refl s) (by simpa [AR] using h))
  | cons e rest =>
    have hs' := hs
    rw [List.any_cons, Bool.or_eq_false_iff] at hs'
    rw [star_cons hs'.1]
    refine evalArgs_plain ?_
    have sp := AR_spliced (pos := pos) hs h A s r ff o
    rw [star_cons hs'.1] at sp
    exact wpAny_mono sp (fun vs s₁ w => obEEAA w fun l' M' f' k' q => by simpa using fin vs l' M' s₁ f' k' q) fun _ _ e => e

theorem find_mbool (K : Frag) : findIn K (.type "method") "__bool__" = some none := by kernel_rfl
theorem find_mlen (K : Frag) : findIn K (.type "method") "__len__" = some none := by kernel_rfl
theorem TR_meth {Q : QB} {q : Addr} {g self : Value} (h0 : M q = some (.obj (methodObj g self))) (h : Q true loc M) : O1B X n fz L truthy (.ref q) Q loc M := fun va e A s r F o => by
  rw [er_ref e]
  have kin := F.kin
  (refine obE (id F) ?_; intro own I)
  have ho : s.heap.get? q = some (methodObj g self) := (I.inv.rep q _ h0).2
  have ty : Looks (model X.prog X.w) s.heap (typeOf (.ref q)) (.type "method") := (Looks.ld ho).andThen .now
  unfold truthy
  refine wpAny_bind (m := callSpecial? (.ref q) (Str.ofString "__bool__")) (wpAny_bind (wpAny_bind (ty.here ((looks_findIn kin (find_mbool _)).here (wpAny_pure ?_)))))
  refine wpAny_bind (wpAny_bind (ty.here ((looks_findIn kin (find_mlen _)).here ?_)))
  exact wpAny_pure ⟨loc, M, F, Like.refl s, h⟩


theorem GV.new1 {o : AO} {h h' : Heap} (g : GV X fz M h) (k : Ext h h') {x : Addr} (hx : h.get? x = none) (r : ∀ own : Addr → Option Addr, (∀ b, h.get? b = none → own b = some x) → ORep X own h' x o) : GV X fz (setM M x o) h' := by
  (refine dn fun hG0 => ?_; obtain ⟨own, i1, i2, i3⟩ := g; refine hG0 ?_; clear hG0)
  let own' : Addr → Option Addr := fun b => if h.get? b = none then some x else own b
  have oo : ∀ b y, h.get? b = some y → own' b = own b := fun b y e => if_neg (by rw [e]; exact fun z => by cases z)
  have ox : own' x = some x := if_pos hx
  refine ⟨own', ⟨i1, fun c y e => ⟨k _ _ (i2 c y e).1, (oo _ _ (i2 c y e).1).trans (i2 c y e).2⟩, fun c y e => ?_⟩⟩
  by_cases hc : c = x
  · subst hc
    rw [setM_same] at e; cases e
    exact ⟨ox, r own' fun b hb => if_pos hb⟩
  · rw [setM_ne _ _ hc] at e
    have q := i3 c y e
    have lt : ∃ z, h.get? c = some z := by
      cases y with
      | inst C' kk f => obtain ⟨dx, es, n, h1, _⟩ := q.2; exact ⟨_, h1⟩
      | dct l => obtain ⟨kvs, ⟨o, es, ep, ho, _⟩, _⟩ := q.2; exact ⟨_, ho⟩
      | lst xs => obtain ⟨vs, ⟨o, ho⟩, _⟩ := q.2; exact ⟨_, ho⟩
      | tup xs => obtain ⟨vs, ⟨o, ho, _⟩, _⟩ := q.2; exact ⟨_, ho⟩
      | obj o => exact ⟨_, q.2⟩
    (refine obE (lt) ?_; intro z hz)
    refine ⟨(oo c z hz).trans q.1, q.2.mono (fun _ _ hd _ => k _ _ hd) (fun d y hd od => (oo d y hd).trans od) q.1⟩

theorem CL_make {Q : Value → Mem → Prop} {fI : Addr} {args : List Value} (hm : makesIn X.K C = true) (hi : findIn X.K (.ref C) "__init__" = some (some (.ref fI))) (hf : typeIn X.K (.ref fI) = some (.type "function"))
    (h : ∀ x, M x = none → CL X n (.ref fI) (.ref x :: args) (fun v m => v = .none ∧ Q (.ref x) m) (setM M x (.inst C 0 (fun _ => none)))) : CL X (n + 1) (.ref C) args Q M := fun fz A s vs r e g o => by
  have kin := g.kin
  (refine dn fun hG0 => ?_; obtain ⟨hh, gg, d, t, os⟩ := s; refine hG0 ?_; clear hG0)
  dsimp only at g o kin
  have fx : hh.get? (hh.objs.size + 1) = none := by
    cases q : hh.get? (hh.objs.size + 1) with
    | none => rfl
    | some z => exact absurd (Heap.lt_size q) (Nat.not_lt.mpr (Nat.le_succ _))
  have fd : hh.get? hh.objs.size = none := by
    cases q : hh.get? hh.objs.size with
    | none => rfl
    | some z => exact absurd (Heap.lt_size q) (Nat.lt_irrefl _)
  have Mx : M (hh.objs.size + 1) = none := by
    cases q : M (hh.objs.size + 1) with
    | none => rfl
    | some z => obtain ⟨own, I⟩ := g; exact absurd (I.rep _ z q).2.lt (Nat.not_lt.mpr (Nat.le_succ _))
  have g' : GV X fz (setM M (hh.objs.size + 1) (.inst C 0 (fun _ => none))) ((hh.push emptyDict).push (instObj C hh.objs.size)) := by
    refine g.new1 ((Ext.push _ _).trans (Ext.push _ _)) fx fun own ho => ?_
    have h1 : ((hh.push emptyDict).push (instObj C hh.objs.size)).get? (hh.objs.size + 1) = some (instObj C hh.objs.size) := by
      have := Heap.get?_push_size (hh.push emptyDict) (o := instObj C hh.objs.size) rfl
      rw [Heap.size_push] at this; exact this
    have h2 : ((hh.push emptyDict).push (instObj C hh.objs.size)).get? hh.objs.size = some emptyDict := Heap.get?_push_of_some _ (Heap.get?_push_size _ rfl)
    exact ⟨hh.objs.size, [], 0, h1, ho _ fd, Nat.ne_of_lt (Nat.lt_succ_self _), h2, fun e he => by simp at he, Nat.le_refl _, fun x => rfl⟩
  refine make_core (makes_of kin hm) (looks_findIn kin hi) (fun self => bind_fn kin self hf) (.inl rfl) ?_
  have w1 : Code.weight (.builtin "type.__call__" ⟨.ref C :: vs, []⟩) ≤ 4 := by
    have e : Code.weight (.builtin "type.__call__" ⟨.ref C :: vs, []⟩) = Code.weight (.builtin "type.__call__" ⟨[.ref 0], []⟩) := by kernel_rfl
    rw [e]; decide +kernel
  have w2 : Code.cUnits (.builtin "type.__call__" ⟨.ref C :: vs, []⟩) ≤ 8 := by
    have e : Code.cUnits (.builtin "type.__call__" ⟨.ref C :: vs, []⟩) = Code.cUnits (.builtin "type.__call__" ⟨[.ref 0], []⟩) := by kernel_rfl
    rw [e]; decide +kernel
  have r' : Room (A.under (.builtin "type.__call__" ⟨.ref C :: vs, []⟩)) n := ⟨r.handled,
    by have := r.depth; show A.depth + Code.weight _ + 4 * n < _; (lia), by have := r.units; show A.units + Code.cUnits _ + 8 * n < _; (lia)⟩
  refine codeAny_mono (h _ Mx fz _ _ (.ref (hh.objs.size + 1) :: vs) r' (by rw [List.map_cons, e]; rfl) g' o) fun rr s' hq => ?_
  (refine obEEAAAA (hq) ?_; intro v M' hz2 g₂ lk hv q; subst hz2)
  have : v = .none := er_none hv
  subst this
  exact ⟨rfl, _, M', rfl, g₂, lk, q⟩



theorem O2_le_str {Q : QV} {x y : List Nat} (h : Q (.bool (!decide (y < x))) loc M) : O2 X n fz L (compareOp .LtE) (.str (mkS x) 0) (.str (mkS y) 0) Q loc M := fun va vb e1 e2 A s r F o => by
  (refine obE (er_str e1) ?_; intro t hz1; subst hz1)
  (refine obE (er_str e2) ?_; intro u hz1; subst hz1)
  exact P.le_str ⟨loc, M, F, Like.refl s, h⟩
theorem TV_chain2 {Q : QB} {l r₁ r₂ : Expr} {op₁ op₂ : CmpOp} {pos : Pos}
    (h : EV X n fz L env l (fun a lo m => EV X n fz L env r₁ (fun b lo m => O2 X n fz L (compareOp op₁) a b (fun c lo m => O1B X n fz L truthy c (fun t lo m =>
      (t = true → EV X n fz L env r₂ (fun d lo m => O2 X n fz L (compareOp op₂) b d (fun c lo m => O1B X n fz L truthy c Q lo m) lo m) lo m) ∧ (t = false → Q false lo m)) lo m) lo m) lo m) loc M)
    (hm : lastMarks [op₁, op₂] [r₁, r₂] = false := by with_unfolding_all rfl) : TV X n fz L env (.Compare l [op₁, op₂] [r₁, r₂] pos) Q loc M := fun whole hw A s rm F o => by
  refine isTrue_chain (wpAny_mono (h A s rm F o) (fun va s₁ hq => test_link ?_) (fun _ _ e => e)) hm
  (refine obEEAA (hq) ?_; intro l₁ M₁ F₁ k₁ q)
  refine wpAny_mono (WT.use q rm F₁ k₁ o) (fun vb s₂ hq => ?_) (fun _ _ e => e)
  (refine obEEAA (hq) ?_; intro l₂ M₂ F₂ k₂ q)
  refine wpAny_mono (WT.use (q va vb rfl rfl) rm F₂ k₂ o) (fun vc s₃ hq => ?_) (fun _ _ e => e)
  (refine obEEAA (hq) ?_; intro l₃ M₃ F₃ k₃ q)
  refine wpAny_mono (WT.use (q vc rfl) rm F₃ k₃ o) (fun t s₄ hq => ?_) (fun _ _ e => e)
  (refine obEEAA (hq) ?_; intro l₄ M₄ F₄ k₄ q)
  cases t with
  | false => exact ⟨l₄, M₄, F₄, k₄, q.2 rfl⟩
  | true =>
    refine test_last (wpAny_mono (WT.use (q.1 rfl) rm F₄ k₄ o) (fun vd s₅ hq => ?_) (fun _ _ e => e))
    (refine obEEAA (hq) ?_; intro l₅ M₅ F₅ k₅ q)
    refine wpAny_mono (WT.use (q vb vd rfl rfl) rm F₅ k₅ o) (fun vc s₆ hq => ?_) (fun _ _ e => e)
    (refine obEEAA (hq) ?_; intro l₆ M₆ F₆ k₆ q)
    exact WT.use (q vc rfl) rm F₆ k₆ o

noncomputable def SI (X : Cx) (n : Nat) (fz : Frz) (L : Addr) (o i v : Value) (Q : Loc → Mem → Prop) (loc : Loc) (M : Mem) : Prop :=
  ∀ vo vi vv, er vo = o → er vi = i → er vv = v → WT X n fz L (setItem vo vi vv) (fun _ l m => Q l m) loc M
theorem E1_AssignSub {Q : QF} {ob i e : Expr} {p pos : Pos} (h : EV X n fz L env e (fun v l m => EV X n fz L env ob (fun ov l m => EV X n fz L env i (fun iv l m => SI X n fz L ov iv v (fun l m => Q .next l m) l m) l m) l m) loc M)
    (hs : swapsWith e (some (.Subscript ob i p)) pos.line env = pure false := by rfl) : E1 X n fz L env (.Assign [.Subscript ob i p] e pos) Q loc M := fun A s r F o =>
  wpAny_Assign_Subscript (wpAny_mono (h A s r F o) (fun _ _ w => obEEAA w fun _ _ f' k' q => wpAny_mono (WT.use q r f' k' o) (fun _ _ w => obEEAA w fun _ _ f' k' q => wpAny_mono (WT.use q r f' k' o) (fun _ _ w => obEEAA w fun _ _ f' k' q =>
    wpAny_mono (WT.use (q _ _ _ rfl rfl rfl) r f' k' o) (fun _ _ q => q) (fun _ _ e => e)) (fun _ _ e => e)) (fun _ _ e => e)) (fun _ _ e => e)) hs
theorem stored_er (kvs : List (Str × Value)) (x : Str) (v : Value) : (stored kvs x v).map (fun p => (p.1, er p.2)) = stored (kvs.map fun p => (p.1, er p.2)) x (er v) := by
  unfold stored
  have : (kvs.map fun p : Str × Value => (p.1, er p.2)).any (fun kv => decide (kv.1 = x)) = kvs.any fun kv => decide (kv.1 = x) := by rw [List.any_map]; rfl
  rw [this]
  split
  · rw [List.map_map, List.map_map]
    apply List.map_congr_left
    intro p hp
    simp only [Function.comp]
    split <;> rfl
  · simp
theorem SI_dict {Q : Loc → Mem → Prop} {es : List (Str × Value)} {x : Str} {v : Value} (hm : M a = some (.dct es)) (hl : es.length ≤ 16777216) (h : Q loc (setM M a (.dct (stored es x v)))) : SI X n fz L (.ref a) (.str x 0) v Q loc M := fun vo vi vv e1 e2 e3 A s r F o => by
  rw [er_ref e1]
  (refine obE (er_str e2) ?_; intro u hz1; subst hz1)
  (refine obE (id F) ?_; intro own I)
  (refine obAEAA (I.inv.rep a _ hm) ?_; intro hown kvs h1 h3 h2)
  subst h2
  refine wpAny_setItem_pairs (strKind_is X.prog X.w x u) h1 (fun h' hd' hs => ?_) (by rw [sizeLine_eq]; simpa using hl)
  have hr : ORep X own h' a (.dct (stored (kvs.map fun p => (p.1, er p.2)) x v)) := ⟨_, hd', h3, by rw [stored_er, e3]⟩
  exact ⟨loc, _, ⟨own, FV.change I hown hs.2 hr hown⟩, Like.mk' s h' _ (Nat.le_succ _), h⟩

noncomputable def AT (X : Cx) (n : Nat) (fz : Frz) (L : Addr) (env : Env) (t : Expr) (v : Value) (Q : Loc → Mem → Prop) (loc : Loc) (M : Mem) : Prop :=
  ∀ vv, er vv = v → WT X n fz L (assign t env vv) (fun _ l m => Q l m) loc M
theorem AT_name {Q : Loc → Mem → Prop} {x : Str} {p : Pos} (h : ST X n fz L env x v Q loc M) : AT X n fz L env (.Name x p) v Q loc M := fun vv e A s r F o => wpAny_assign_Name (h vv e A s r F o)
theorem AT_attr {Q : Loc → Mem → Prop} {ob : Expr} {attr : Str} {p : Pos} (h : EV X n fz L env ob (fun ov l m => SA X n fz L ov attr v Q l m) loc M) : AT X n fz L env (.Attribute ob attr p) v Q loc M := fun vv e A s r F o => by
  rw [assign_Attribute]
  refine wpAny_bind (wpAny_holding (wpAny_mono (h A s r F o) (fun vo s₁ hq => ?_) (fun _ _ e => e)))
  (refine obEEAA (hq) ?_; intro l₁ M₁ F₁ k₁ q)
  refine wpAny_bind (wpAny_standAt (wpAny_bind (wpAny_holding (wpAny_mono (WT.use (q _ _ rfl e) r F₁ k₁ o) (fun _ s₂ hq => ?_) (fun _ _ e => e)))))
  exact wpAny_release' hq
noncomputable def ATs (X : Cx) (n : Nat) (fz : Frz) (L : Addr) (env : Env) : List Expr → List Value → (Loc → Mem → Prop) → Loc → Mem → Prop
  | [], [], Q => Q
  | t :: ts, v :: vs, Q => AT X n fz L env t v (ATs X n fz L env ts vs Q)
  | _, _, _ => fun _ _ => False
theorem ATs_go : ∀ {ts : List Expr} {vs : List Value} {vv : List Value} {Q : Loc → Mem → Prop} {loc : Loc} {M : Mem}, vv.map er = vs → ATs X n fz L env ts vs Q loc M → WT X n fz L (assignInOrder (ts.map fun t => assign t env) vv) (fun _ l m => Q l m) loc M
  | [], [], [], Q, loc, M, _, h => fun A s r F o => assignInOrder_nil ⟨loc, M, F, Like.refl s, h⟩
  | t :: ts, v :: vs, w :: ws, Q, loc, M, e, h => fun A s r F o => by
    simp only [List.map_cons, List.cons.injEq] at e
    refine assignInOrder_cons (wpAny_mono (h w e.1 A s r F o) (fun _ s₁ hq => ?_) (fun _ _ e => e))
    (refine obEEAA (hq) ?_; intro l₁ M₁ F₁ k₁ q)
    exact WT.use (ATs_go e.2 q) r F₁ k₁ o
  | [], _ :: _, _, _, _, _, _, h => h.elim
  | _ :: _, [], _, _, _, _, _, h => h.elim
  | _ :: _, _ :: _, [], _, _, _, e, _ => by cases e
  | [], [], _ :: _, _, _, _, e, _ => by cases e
theorem E1_AssignTuple {Q : QF} {elts : List Expr} {kk : Nat} {tp pos : Pos} {e : Expr} (h : EV X n fz L env e (fun v l m => ∃ D vs, v = .ref D ∧ RdM X m D (.tup vs) ∧ elts.length = vs.length ∧ ATs X n fz L env elts vs (fun l m => Q .next l m) l m) loc M)
    (hae : assignEach elts env = elts.map fun t => (false, assign t env) := by rfl)
    (hs : swapsWithSole [.Tuple elts kk tp] e pos.line env = pure false := by rfl)
    (hw : swappedStores [.Tuple elts kk tp] e env = pure none := by rfl) : E1 X n fz L env (.Assign [.Tuple elts kk tp] e pos) Q loc M := fun A s r F o => by
  refine Assign_Tuple (wpAny_mono (h A s r F o) (fun v s₁ hq => ?_) (fun _ _ e => e)) hs hw
  (refine obEEAAEEAAA (hq) ?_; intro l₁ M₁ F₁ k₁ D vs e hm hlen q)
  rw [er_ref e]
  (refine obEA (hm.get F₁) ?_; intro us ht h2)
  have hsz : us.size = vs.length := by rw [← h2, List.length_map, Array.length_toList]
  refine assign_Tuple_tuple r.handled ht (by rw [hae, List.length_map, hlen, hsz]) (by rw [hae, List.findIdx?_map]; simp) fun h' he => ?_
  have F₂ : FV X fz L l₁ M₁ h' := F₁.ext fun b o hb => he b o (Nat.ne_of_lt (Heap.lt_size hb)) hb
  have ee : (assignEach elts env).map (·.2) = elts.map fun t => assign t env := by rw [hae, List.map_map]; rfl
  rw [ee]
  exact wpAny_mono (WT.use (ATs_go h2 q) r F₂ (k₁.trans (Like.heap s₁ h')) o) (fun _ _ q => q) (fun _ _ e => e)
end
end Mine
end
section
set_option linter.unusedVariables false
set_option maxRecDepth 100000
namespace Mine
open PySem PySem.W PySem.Calls PyProof.Rows PySem.SeqAt
open PySem.AutoSeq1 (wpAny_loadPart')
open PySem.MeetsSeq PySem.MeetsSeq2 PySem.MeetsSeq3

section
variable {prog : Program} {w : World}
noncomputable def EqP (prog : Program) (w : World) (A : Around) (s : Shared) (y x : Value) : Prop :=
  ∀ (E : Value → Shared → Prop) (Q : Bool → Shared → Prop), Q true s → wpAny (model prog w) A (eqBool y x) Q E s

theorem lne_loop (l b : Addr) (items items2 : Array Value) (n n2 : Nat) (dd dd2 : Option Addr) (sl sl2 : Array (Option Value)) (hsz : items.size = items2.size) (k : Nat) :
    ∀ i : Nat, items.size - i = k → ∀ (A : Around) (R : Result → Shared → Prop) (s : Shared), (s.heap.get? l = some { cls := .type "list", dict := dd, data := .seq items n, slots := sl } ∧ s.heap.get? b = some { cls := .type "list", dict := dd2, data := .seq items2 n2, slots := sl2 } ∧
        (∀ j (h1 : j < items.size) (h2 : j < items2.size), EqP prog w A.in1 s items[j] items2[j]) ∧ R (.ok (.ret (.bool false))) s) →
      wpAny (model prog w) A.in1 (Builtin.«list.__eq__.loop» ⟨[.ref l, .ref b, rawInt i, rawInt 3], []⟩) (fun fin s' => match fin with | .done f => R (.ok f) s' | .again c' => c'.quiet = true ∧ codeAny (model prog w) A c' R s') (fun e s' => R (.error e) s') s := by
  induction k with
  | zero =>
    intro i hk A R s h
    obtain ⟨hp, g, d, tk, os⟩ := s; obtain ⟨hl, hb, he, h⟩ := h
    wp_walk using wpAny_loadPart' hl, wpAny_loadPart' hb
    have hi1 : items[((i : Nat) : Int).toNat]? = none := by simp; (lia)
    have hi2 : items2[((i : Nat) : Int).toNat]? = none := by simp; (lia)
    rw [hi1, hi2]
    wp_walk using wpAny_loadPart' hl, wpAny_loadPart' hb
    show R (.ok (.ret (.bool (items.size != items2.size)))) _
    rw [hsz]
    simpa using h
  | succ k ih =>
    intro i hk A R s h
    obtain ⟨hp, g, d, tk, os⟩ := s; obtain ⟨hl, hb, he, h⟩ := h
    wp_walk using wpAny_loadPart' hl, wpAny_loadPart' hb
    have hlt : i < items.size := by (clear h he hb hl ih hsz; omega)
    have hlt2 : i < items2.size := by (lia)
    have hi1 : items[((i : Nat) : Int).toNat]? = some items[i] := by simp [hlt]
    have hi2 : items2[((i : Nat) : Int).toNat]? = some items2[i] := by simp [hlt2]
    have hc : ((i : Int) + 1) = ((i + 1 : Nat) : Int) := by push_cast; rfl
    rw [hi1, hi2]
    refine wpAny_bind (he i hlt hlt2 _ _ ?_)
    wp_walk
    rw [hc]
    exact ⟨plainId_quiet plain_eq_loop _, codeAny_builtin entry_eq_loop (by
      rw [Around.under_plainId plain_eq_loop _]
      exact ih (i + 1) (by (lia)) A R _ ⟨hl, hb, he, h⟩)⟩

theorem lne_lists {A : Around} {s : Shared} {l b : Addr} {items items2 : Array Value} {Q E : Value → Shared → Prop} (hl : s.heap.IsList l items) (hb : s.heap.IsList b items2) (hsz : items.size = items2.size) (hu : A.units < cLine)
    (he : ∀ j (h1 : j < items.size) (h2 : j < items2.size), EqP prog w A.in1 s items[j] items2[j]) (h : Q (.bool false) s) : wpAny (model prog w) A (richCompare .NotEq (.ref l) (.ref b)) Q E s := by
  (refine obEAAE (id hl) ?_; intro hz0 ho hc n hd; refine dn fun hG0 => ?_; obtain ⟨cls, dd, data, sl⟩ := hz0; refine hG0 ?_; clear hG0)
  (refine obEAAE (id hb) ?_; intro hz0 ho2 hc2 n2 hd2; refine dn fun hG0 => ?_; obtain ⟨cls2, dd2, data2, sl2⟩ := hz0; refine hG0 ?_; clear hG0)
  simp only at hc hd hc2 hd2
  subst hc hd hc2 hd2
  refine wpAny_richCompare_same_room (op := .NotEq) ⟨_, ho, rfl⟩ ⟨_, ho2, rfl⟩ PySem.F.slot_list_ne ?_ hu
  refine wpAny_call (codeAny_call_builtin PySem.F.slot_list_ne.plain PySem.F.entry_list_ne (PySem.F.slot_list_ne.check _ _ _ _ _ _ _ _ ⟨_, ho, rfl⟩ (PySem.F.args_list_ne_2 _ _) ?_))
  (refine dn fun hG0 => ?_; obtain ⟨hp, g, d, tk, os⟩ := s; refine hG0 ?_; clear hG0)
  have f3 := AutoSeq1.sub_list_list
  have hne : ¬ (items.size != items2.size) = true := by simp [hsz]
  dsimp only at ho ho2
  wp_walk using wpAny_loadPart' ho, wpAny_loadPart' ho2
  exact ⟨plainId_quiet plain_eq_loop _, codeAny_builtin entry_eq_loop (by
    rw [Around.under_plainId plain_eq_loop _]
    exact lne_loop l b items items2 n n2 dd dd2 sl sl2 hsz _ 0 rfl A (wants (fun v s' => v ≠ .notImplemented ∧ Q v s') E) _ ⟨ho, ho2, he, (show Value.bool false ≠ Value.notImplemented ∧ Q (.bool false) _ from ⟨(fun x => nomatch x), h⟩)⟩)⟩
end

section
variable {X : Cx} {n : Nat} {fz : Frz} {L : Addr} {loc : Loc} {M : Mem} {env : Env} {a b : Addr}

inductive SameM (X : Cx) (M : Mem) : Nat → Value → Value → Prop
  | int (k : Nat) (i : Int) : SameM X M k (.int i 0) (.int i 0)
  | str (k : Nat) (x : Str) : SameM X M k (.str x 0) (.str x 0)
  | none (k : Nat) : SameM X M k .none .none
  | bool (k : Nat) (b : Bool) : SameM X M k (.bool b) (.bool b)
  | lst {k : Nat} {a b : Addr} {xs ys : List Value} : RdM X M a (.lst xs) → RdM X M b (.lst ys) → xs.length = ys.length → (∀ (j : Nat) x y, xs[j]? = some x → ys[j]? = some y → SameM X M k x y) → SameM X M (k + 1) (.ref a) (.ref b)
  | tup {k : Nat} {a b : Addr} {xs ys : List Value} : RdM X M a (.tup xs) → RdM X M b (.tup ys) → xs.length = ys.length → (∀ (j : Nat) x y, xs[j]? = some x → ys[j]? = some y → SameM X M k x y) → SameM X M (k + 1) (.ref a) (.ref b)

theorem SameM.eqAt {k : Nat} {v w : Value} (h : SameM X M k v w) : ∀ {A : Around} {s : Shared} {vv ww : Value}, FV X fz L loc M s.heap → er vv = v → er ww = w → A.units + 2 * k < cLine → EqAt A s vv ww true := by
  induction h with
  | int k i =>
    intro A s vv ww F e1 e2 hu
    (refine obE (er_int e1) ?_; intro t hz1; subst hz1)
    (refine obE (er_int e2) ?_; intro u hz1; subst hz1)
    have := EqAt.int_int (A := A) (s := s) i t i u
    simpa using this
  | str k x =>
    intro A s vv ww F e1 e2 hu
    (refine obE (er_str e1) ?_; intro t hz1; subst hz1)
    (refine obE (er_str e2) ?_; intro u hz1; subst hz1)
    have := EqAt.str_str (A := A) (s := s) x t x u
    simpa using this
  | none k =>
    intro A s vv ww F e1 e2 hu
    rw [er_none e1, er_none e2]
    exact EqAt.same _
  | bool k b =>
    intro A s vv ww F e1 e2 hu
    rw [er_bool e1, er_bool e2]
    exact EqAt.same _
  | @lst k a b xs ys h1 h2 hl _ ih =>
    intro A s vv ww F e1 e2 hu
    rw [er_ref e1, er_ref e2]
    by_cases hab : a = b
    · subst hab; exact EqAt.same _
    · (refine obEA (h1.get F) ?_; intro us g1 g2)
      (refine obEA (h2.get F) ?_; intro ws g3 g4)
      have z1 : us.size = xs.length := by rw [← g2, List.length_map, Array.length_toList]
      have z2 : ws.size = ys.length := by rw [← g4, List.length_map, Array.length_toList]
      have r := RcAt.lists (A := A) (s := s) (e := fun _ => true) g1 g3 (by (lia)) (by (lia)) (fun j j1 j2 =>
        ih j (er us[j]) (er ws[j]) (by subst g2; simp [j1]) (by subst g4; simp [j2]) F rfl rfl (by show A.units + 1 + 2 * k < cLine; (lia)))
      have e : (List.range us.size).all (fun _ => true) = true := by simp
      rw [e] at r
      exact EqAt.of_refs hab r
  | @tup k a b xs ys h1 h2 hl _ ih =>
    intro A s vv ww F e1 e2 hu
    rw [er_ref e1, er_ref e2]
    by_cases hab : a = b
    · subst hab; exact EqAt.same _
    · (refine obEA (h1.get F) ?_; intro us g1 g2)
      (refine obEA (h2.get F) ?_; intro ws g3 g4)
      have z1 : us.size = xs.length := by rw [← g2, List.length_map, Array.length_toList]
      have z2 : ws.size = ys.length := by rw [← g4, List.length_map, Array.length_toList]
      have r := RcAt.tuples (A := A) (s := s) (e := fun _ => true) g1 g3 (by (lia)) (fun j j1 j2 =>
        ih j (er us[j]) (er ws[j]) (by subst g2; simp [j1]) (by subst g4; simp [j2]) F rfl rfl (by show A.units + 1 + 2 * k < cLine; (lia)))
      have e : ((List.range (min us.size ws.size)).all (fun _ => true) && us.size == ws.size) = true := by simp; (lia)
      rw [e] at r
      exact EqAt.of_refs hab r

noncomputable def SameD (X : Cx) (M : Mem) (v w : Value) : Prop := ∃ a b es fs, v = .ref a ∧ w = .ref b ∧ RdM X M a (.dct es) ∧ RdM X M b (.dct fs) ∧ es.map (·.1) = fs.map (·.1) ∧ (es.map (·.1)).Nodup ∧ ∀ (j : Nat) x y, es[j]? = some x → fs[j]? = some y → SameM X M 2 x.2 y.2

theorem valueAt_idx {kvs : List (Str × Value)} (hnd : (kvs.map (·.1)).Nodup) {j : Nat} {p : Str × Value} (h : kvs[j]? = some p) : valueAt kvs p.1 = some p.2 := by
  induction kvs generalizing j with
  | nil => simp at h
  | cons q r ih =>
    unfold valueAt
    rw [List.map_cons, List.nodup_cons] at hnd
    cases j with
    | zero => simp at h; subst h; simp
    | succ j =>
      simp only [List.getElem?_cons_succ] at h
      have : p.1 ∈ r.map (·.1) := List.mem_map_of_mem (List.mem_of_getElem? h)
      have ne : q.1 ≠ p.1 := fun e => hnd.1 (e ▸ this)
      have := ih hnd.2 h
      unfold valueAt at this
      simp [ne, this]
theorem hits_of {A : Around} {s : Shared} {kb : List (Str × Value)} (hnd : (kb.map (·.1)).Nodup) : ∀ (ka : List (Str × Value)) (i : Nat), ka.map (·.1) = (kb.drop i).map (·.1) →
    (∀ (j : Nat) x y, ka[j]? = some x → kb[i + j]? = some y → EqAt A s x.2 y.2 true) → KeqHits A s kb ka true
  | [], _, _, _ => .nil
  | (k, v) :: r, i, hk, he => by
    cases hd : kb[i]? with
    | none =>
      have : kb.drop i = [] := List.drop_eq_nil_iff.mpr (List.getElem?_eq_none_iff.mp hd)
      rw [this] at hk; cases hk
    | some p =>
      have hlt : i < kb.length := (List.getElem?_eq_some_iff.mp hd).1
      have e : kb.drop i = p :: kb.drop (i + 1) := by
        rw [List.drop_eq_getElem_cons hlt]
        have := (List.getElem?_eq_some_iff.mp hd).2
        rw [this]
      rw [e, List.map_cons, List.map_cons, List.cons.injEq] at hk
      have hv := valueAt_idx hnd hd
      dsimp only at hk
      rw [← hk.1] at hv
      have h1 := he 0 (k, v) p rfl (by simpa using hd)
      have h2 := hits_of hnd r (i + 1) hk.2 (fun j x y hx hy => he (j + 1) x y (by simpa using hx) (by rw [← hy]; congr 1; (clear hy hx h1 hv e hlt hd hk he hnd; lia)))
      exact KeqHits.hit (e := true) (b := true) hv h1 h2
theorem sysM {a : Addr} (h : 3 < a) : (a == sysModules) = false := by
  have : a ≠ sysModules := fun e => by rw [e] at h; exact absurd h (by decide)
  simpa using this
theorem SameD.hits {v w : Value} (h : SameD X M v w) {A : Around} {s : Shared} {vv ww : Value} (F : FV X fz L loc M s.heap) (e1 : er vv = v) (e2 : er ww = w) (hu : A.units + 4 < cLine) :
    ∃ a b ka kb, vv = .ref a ∧ ww = .ref b ∧ 3 < a ∧ 3 < b ∧ s.heap.DictOf (strKind X.prog X.w) a ka ∧ s.heap.DictOf (strKind X.prog X.w) b kb ∧ ka.length = kb.length ∧ KeqHits A s kb ka true := by
  (refine obEEEEAAAAAA (h) ?_; intro a b es fs hz4 hz5 h1 h2 hk hnd hs; subst hz4; subst hz5)
  (refine obEAA (h1.get F) ?_; intro ka g1 g2 g3)
  (refine obEAA (h2.get F) ?_; intro kb g4 g5 g6)
  have k1 : ka.map (·.1) = es.map (·.1) := by rw [← g3, List.map_map]; rfl
  have k2 : kb.map (·.1) = fs.map (·.1) := by rw [← g6, List.map_map]; rfl
  have hl : ka.length = kb.length := by
    have := congrArg List.length (k1.trans (hk.trans k2.symm))
    simpa using this
  refine ⟨a, b, ka, kb, er_ref e1, er_ref e2, g2, g5, g1, g4, hl, hits_of (by rw [k2, ← hk]; exact hnd) ka 0 (by rw [List.drop_zero, k1, hk, k2]) fun j x y hx hy => ?_⟩
  rw [Nat.zero_add] at hy
  exact (hs j (x.1, er x.2) (y.1, er y.2) (by rw [← g3, List.getElem?_map, hx]; rfl) (by rw [← g6, List.getElem?_map, hy]; rfl)).eqAt F rfl rfl hu
theorem SameD.eqP {v w : Value} (h : SameD X M v w) {A : Around} {s : Shared} {vv ww : Value} (F : FV X fz L loc M s.heap) (e1 : er vv = v) (e2 : er ww = w) (hu : A.units + 8 < cLine) : EqP X.prog X.w A s vv ww := by
  obtain ⟨a, b, ka, kb, rfl, rfl, l1, l2, d1, d2, hl, hits⟩ := h.hits (A := A.in1) F e1 e2 (by show A.units + 1 + 4 < cLine; (lia))
  intro E Q q
  by_cases hab : a = b
  · subst hab; exact EqAt.same _ _ _ E Q q
  · unfold eqBool
    refine wpAny_holding ?_
    refine wpAny_ite_split (fun hab' => absurd (by have := eq_of_beq hab'; injection this) hab) (fun _ => ?_)
    refine wpAny_bind (m := richCompare .Eq (.ref a) (.ref b)) ?_
    exact keq_eq (sysM l1) (sysM l2) d1 d2 (by (lia)) (fun _ => hits) (wpAny_truthy_bool (by simpa [hl] using q))
theorem O2_ne_dct {Q : QV} {v w : Value} (hs : SameD X M v w) (hn : 2 ≤ n) (h : Q (.bool false) loc M) : O2 X n fz L (compareOp .NotEq) v w Q loc M := fun va vb e1 e2 A s r F o => by
  have hu := r.units
  obtain ⟨a, b, ka, kb, rfl, rfl, l1, l2, d1, d2, hl, hits⟩ := hs.hits (A := A.in1) F e1 e2 (by show A.units + 1 + 4 < cLine; (lia))
  refine keq_ne (sysM l1) (sysM l2) d1 d2 (by (lia)) (fun _ => hits) ⟨loc, M, F, Like.refl s, ?_⟩
  simpa [hl] using h
theorem O2_ne_dcts {Q : QV} {xs ys : List Value} (h1 : RdM X M a (.lst xs)) (h2 : RdM X M b (.lst ys)) (hl : xs.length = ys.length) (hs : ∀ (j : Nat) x y, xs[j]? = some x → ys[j]? = some y → SameD X M x y) (hn : 2 ≤ n) (h : Q (.bool false) loc M) :
    O2 X n fz L (compareOp .NotEq) (.ref a) (.ref b) Q loc M := fun va vb e1 e2 A s r F o => by
  rw [er_ref e1, er_ref e2]
  have hu := r.units
  (refine obEA (h1.get F) ?_; intro us g1 g2)
  (refine obEA (h2.get F) ?_; intro ws g3 g4)
  have z1 : us.size = xs.length := by rw [← g2, List.length_map, Array.length_toList]
  have z2 : ws.size = ys.length := by rw [← g4, List.length_map, Array.length_toList]
  show wpAny _ _ (richCompare .NotEq (.ref a) (.ref b)) _ _ _
  refine lne_lists g1 g3 (by (lia)) (by (lia)) (fun j j1 j2 => (hs j (er us[j]) (er ws[j]) (by subst g2; simp [j1]) (by subst g4; simp [j2])).eqP F rfl rfl (by show A.units + 1 + 8 < cLine; (lia))) ⟨loc, M, F, Like.refl s, h⟩
theorem O2_ne_tups {Q : QV} {xs ys : List Value} (h1 : RdM X M a (.tup xs)) (h2 : RdM X M b (.tup ys)) (hl : xs.length = ys.length) (hs : ∀ (j : Nat) x y, xs[j]? = some x → ys[j]? = some y → SameM X M 2 x y) (hn : 2 ≤ n) (h : Q (.bool false) loc M) :
    O2 X n fz L (compareOp .NotEq) (.ref a) (.ref b) Q loc M := fun va vb e1 e2 A s r F o => by
  rw [er_ref e1, er_ref e2]
  have hu := r.units
  (refine obEA (h1.get F) ?_; intro us g1 g2)
  (refine obEA (h2.get F) ?_; intro ws g3 g4)
  have z1 : us.size = xs.length := by rw [← g2, List.length_map, Array.length_toList]
  have z2 : ws.size = ys.length := by rw [← g4, List.length_map, Array.length_toList]
  show wpAny _ _ (richCompare .NotEq (.ref a) (.ref b)) _ _ _
  refine RcNeAt.tuples (e := fun _ => true) g1 g3 (by (lia)) (fun j j1 j2 => (hs j (er us[j]) (er ws[j]) (by subst g2; simp [j1]) (by subst g4; simp [j2])).eqAt F rfl rfl (by show A.units + 1 + 2 * 2 < cLine; (lia))) X.prog X.w _ _ ⟨loc, M, F, Like.refl s, ?_⟩
  have e : (!((List.range (min us.size ws.size)).all (fun _ => true) && us.size == ws.size)) = false := by simp; (lia)
  show Q (.bool _) loc M
  rw [e]; exact h

theorem EV_bool1 {Q : QV} {op e pos} (h : EV X n fz L env e Q loc M) : EV X n fz L env (.BoolOp op [e] pos) Q loc M := h
theorem EV_orN {Q : QV} {x y rest pos} (h : EV X n fz L env x (fun a lo m => O1B X n fz L truthy a (fun t lo m => (t = true → Q a lo m) ∧ (t = false → EV X n fz L env (.BoolOp .Or (y :: rest) pos) Q lo m)) lo m) loc M) : EV X n fz L env (.BoolOp .Or (x :: y :: rest) pos) Q loc M := fun A s rm F o =>
  BoolOp_or (wpAny_mono (h A s rm F o) (fun v _ w => obEEAA w fun _ _ f' k' q => wpAny_mono (WT.use (q v rfl) rm f' k' o) (fun t s' w => obEEAA w fun l' M' f' k' q => by
    cases t
    · exact WT.use (q.2 rfl) rm f' k' o
    · exact ⟨l', M', f', k', q.1 rfl⟩) (fun _ _ e => e)) (fun _ _ e => e))
theorem EV_andN {Q : QV} {x y rest pos} (h : EV X n fz L env x (fun a lo m => O1B X n fz L truthy a (fun t lo m => (t = true → EV X n fz L env (.BoolOp .And (y :: rest) pos) Q lo m) ∧ (t = false → Q a lo m)) lo m) loc M) : EV X n fz L env (.BoolOp .And (x :: y :: rest) pos) Q loc M := fun A s rm F o =>
  BoolOp_and (wpAny_mono (h A s rm F o) (fun v _ w => obEEAA w fun _ _ f' k' q => wpAny_mono (WT.use (q v rfl) rm f' k' o) (fun t s' w => obEEAA w fun l' M' f' k' q => by
    cases t
    · exact ⟨l', M', f', k', q.2 rfl⟩
    · exact WT.use (q.1 rfl) rm f' k' o) (fun _ _ e => e)) (fun _ _ e => e))
theorem EV_chain2 {Q : QV} {l r₁ r₂ : Expr} {op₁ op₂ : CmpOp} {pos : Pos}
    (h : EV X n fz L env l (fun a lo m => EV X n fz L env r₁ (fun b lo m => O2 X n fz L (compareOp op₁) a b (fun c lo m => O1B X n fz L truthy c (fun t lo m =>
      (t = true → EV X n fz L env r₂ (fun d lo m => O2 X n fz L (compareOp op₂) b d Q lo m) lo m) ∧ (t = false → Q c lo m)) lo m) lo m) lo m) loc M)
    (hm : lastMarks [op₁, op₂] [r₁, r₂] = false := by with_unfolding_all rfl) : EV X n fz L env (.Compare l [op₁, op₂] [r₁, r₂] pos) Q loc M := fun A s rm F o => by
  refine Compare_chain (wpAny_mono (h A s rm F o) (fun va s₁ hq => chain_link ?_) (fun _ _ e => e)) hm
  (refine obEEAA (hq) ?_; intro l₁ M₁ F₁ k₁ q)
  refine wpAny_mono (WT.use q rm F₁ k₁ o) (fun vb s₂ hq => ?_) (fun _ _ e => e)
  (refine obEEAA (hq) ?_; intro l₂ M₂ F₂ k₂ q)
  refine wpAny_mono (WT.use (q va vb rfl rfl) rm F₂ k₂ o) (fun vc s₃ hq => ?_) (fun _ _ e => e)
  (refine obEEAA (hq) ?_; intro l₃ M₃ F₃ k₃ q)
  refine wpAny_mono (WT.use (q vc rfl) rm F₃ k₃ o) (fun t s₄ hq => ?_) (fun _ _ e => e)
  (refine obEEAA (hq) ?_; intro l₄ M₄ F₄ k₄ q)
  cases t with
  | false => exact ⟨l₄, M₄, F₄, k₄, q.2 rfl⟩
  | true =>
    refine chain_last (wpAny_mono (WT.use (q.1 rfl) rm F₄ k₄ o) (fun vd s₅ hq => ?_) (fun _ _ e => e))
    (refine obEEAA (hq) ?_; intro l₅ M₅ F₅ k₅ q)
    exact WT.use (q vb vd rfl rfl) rm F₅ k₅ o

noncomputable def intsV (ns : List Int) : List Value := ns.map fun i => .int i 0
theorem O2_in_tupI {Q : QV} {i : Int} {ns : List Int} (hm : RdM X M b (.tup (intsV ns))) (h : Q (.bool (decide (i ∈ ns))) loc M) : O2 X n fz L (compareOp .In) (.int i 0) (.ref b) Q loc M := fun va vb e1 e2 A s r F o => by
  (refine obE (er_int e1) ?_; intro t hz1; subst hz1)
  rw [er_ref e2]
  (refine obEA (hm.get F) ?_; intro us hz1 h2; refine dn fun hG0 => ?_; obtain ⟨ob, ho, hc, nn, hd⟩ := hz1; refine hG0 ?_; clear hG0)
  have isI : ∀ y ∈ us, ∃ j u, y = .int j u ∧ j ∈ ns := fun y hy => by
    have : er y ∈ intsV ns := h2 ▸ List.mem_map_of_mem (by simpa using hy)
    (refine obEA (List.mem_map.mp this) ?_; intro j hj e)
    (refine obE (er_int e.symm) ?_; intro u hz1; subst hz1)
    exact ⟨j, u, rfl, hj⟩
  refine SeqAt.in_tupleAt (fun y => match y with | .int j _ => j == i | _ => false) ⟨ob, ho, hc, nn, hd⟩ (fun y hy => ?_) ⟨loc, M, F, Like.refl s, ?_⟩
  · (refine obEEA (isI y hy) ?_; intro j u hz2 _; subst hz2)
    exact SeqAt.EqAt.int_int j u i t
  · have : us.any (fun y => match y with | .int j _ => j == i | _ => false) = decide (i ∈ ns) := by
      rw [Bool.eq_iff_iff, decide_eq_true_eq, ← Array.any_toList, List.any_eq_true]
      constructor
      · rintro ⟨y, hy, e⟩
        (refine obEEA (isI y (by simpa using hy)) ?_; intro j u hz2 hj; subst hz2)
        simp at e; subst e; exact hj
      · intro hi
        have : Value.int i 0 ∈ us.toList.map er := by rw [h2]; exact List.mem_map_of_mem hi
        (refine obEA (List.mem_map.mp this) ?_; intro y hy e)
        (refine obE (er_int e) ?_; intro u hz1; subst hz1)
        exact ⟨_, hy, by simp⟩
    show Q (.bool (us.any _)) loc M
    rw [this]; exact h
end
end Mine
end
section
set_option linter.unusedVariables false
set_option maxRecDepth 100000
namespace Mine
open PySem PySem.W PySem.Calls PyProof.Rows

noncomputable def tblF (l : List (Str × Value)) : Str → Option Value := fun x => l.lookup x
noncomputable def putA : List (Str × Value) → Str → Value → List (Str × Value)
  | [], x, v => [(x, v)]
  | (y, w) :: r, x, v => if y = x then (y, v) :: r else (y, w) :: putA r x v
theorem setL_tbl (l : List (Str × Value)) (x : Str) (v : Value) : setL (tblF l) x v = tblF (putA l x v) := by
  funext y
  unfold setL tblF
  induction l with
  | nil =>
    by_cases h : y = x
    · subst h; simp [putA]
    · have : (y == x) = false := by simpa using h
      simp [putA, h]
      simp [List.lookup, this]
  | cons p r ih =>
    (refine dn fun hG0 => ?_; obtain ⟨z, w⟩ := p; refine hG0 ?_; clear hG0)
    unfold putA
    by_cases hz : z = x
    · subst hz
      rw [if_pos rfl]
      by_cases h : y = z
      · subst h; simp [List.lookup]
      · have : (y == z) = false := by simpa using h
        simp [List.lookup, this, h]
    · rw [if_neg hz]
      by_cases h : y = z
      · subst h
        simp [List.lookup, hz]
      · have : (y == z) = false := by simpa using h
        simp only [List.lookup, this]
        exact ih
theorem none_tbl : (fun _ => none : Str → Option Value) = tblF [] := rfl
theorem bindL1 (a : Str) (v : Value) : bindL [(a, v)] = setL (fun _ => none) a v := by
  funext x; unfold bindL setL
  by_cases h : x = a
  · subst h; simp
  · have : (x == a) = false := by simpa using h
    simp [h, List.lookup, this]
theorem bindL_snoc (l : List (Str × Value)) (a : Str) (v : Value) : bindL (l ++ [(a, v)]) = setL (bindL l) a v := by
  funext x; unfold bindL setL
  rw [List.reverse_append]
  by_cases h : x = a
  · subst h; simp
  · have : (x == a) = false := by simpa using h
    simp [h, List.lookup, this]
theorem bindL2 (a b : Str) (v w : Value) : bindL [(a, v), (b, w)] = setL (setL (fun _ => none) a v) b w := by
  rw [← bindL1]; exact bindL_snoc [(a, v)] b w
theorem bindL3 (a b c : Str) (v w u : Value) : bindL [(a, v), (b, w), (c, u)] = setL (setL (setL (fun _ => none) a v) b w) c u := by
  rw [← bindL2]; exact bindL_snoc [(a, v), (b, w)] c u

theorem setL_setL (m : Loc) (x : Str) (v w : Value) : setL (setL m x v) x w = setL m x w := by
  funext y; unfold setL; split <;> rfl
theorem setM_old {M : Mem} {a D : Addr} {o x : AO} (hD : M D = none) (ha : M a = some x) : setM M D o a = some x := by
  have : a ≠ D := fun e => by rw [e, hD] at ha; cases ha
  rw [setM_ne _ _ this]; exact ha
theorem setM_none {M : Mem} {a D : Addr} {o : AO} (h : setM M D o a = none) : M a = none ∧ a ≠ D := by
  by_cases e : a = D
  · subst e; rw [setM_same] at h; cases h
  · rw [setM_ne _ _ e] at h; exact ⟨h, e⟩

theorem setL_other {m : Loc} {x y : Str} {v : Value} {w : Option Value} (h : x ≠ y) (e : m x = w) : setL m y v x = w := (if_neg h).trans e
theorem setL_self (m : Loc) (x : Str) (v : Value) : setL m x v x = some v := if_pos rfl
theorem sH {m : Loc} {x : Str} {v : Value} : setL m x v x = some v := if_pos rfl
theorem sS {m : Loc} {x y : Str} {v : Value} {w : Option Value} (e : m x = w) (h : (x == y) = false := by kernel_rfl) : setL m y v x = w := setL_other (by simpa using h) e
theorem tH {r : List (Str × Value)} {x : Str} {v : Value} : tblF ((x, v) :: r) x = some v := by unfold tblF; simp [List.lookup]
theorem tE {r : List (Str × Value)} {x y : Str} {v : Value} (h : (x == y) = true := by kernel_rfl) : tblF ((y, v) :: r) x = some v := by unfold tblF; simp [List.lookup, h]
theorem tS {r : List (Str × Value)} {x y : Str} {v : Value} {w : Option Value} (e : tblF r x = w) (h : (x == y) = false := by kernel_rfl) : tblF ((y, v) :: r) x = w := by unfold tblF at e ⊢; simp [List.lookup, h, e]
theorem tN {x : Str} : tblF [] x = none := rfl
theorem pH {r : List (Str × Value)} {x : Str} {v w : Value} : putA ((x, w) :: r) x v = (x, v) :: r := if_pos rfl
theorem pS {r l : List (Str × Value)} {x y : Str} {v w : Value} (e : putA r x v = l) (h : (x == y) = false := by kernel_rfl) : putA ((y, w) :: r) x v = (y, w) :: l := by
  unfold putA
  have : ¬ y = x := fun z => by rw [z] at h; simp at h
  rw [if_neg this, e]
theorem pN {x : Str} {v : Value} : putA [] x v = [(x, v)] := rfl
end Mine
namespace Mine
open PySem PySem.W PySem.Calls PyProof.Rows
section
variable {X : Cx} {n : Nat} {fz : Frz} {L : Addr} {loc : Loc} {M M0 : Mem} {env : Env} {a b C : Addr} {k : Nat} {l l' : List (Str × Value)} {name : Str} {v : Value}
theorem SA_tbl {Q : Loc → Mem → Prop} {k' : Nat} (hm : M a = some (.inst C k (tblF l))) (ok : StoreOk X.K C name) (hk : (tblF l name).isSome = true ∧ k' = k ∨ k' = k + 1) (h1000 : k' ≤ 900) (hp : putA l name v = l')
    (h : Q loc (setM M a (.inst C k' (tblF l')))) : SA X n fz L (.ref a) name v Q loc M := SA_go hm ok hk h1000 (by rw [setL_tbl, hp]; exact h)
theorem SA_tbl2 {Q : Loc → Mem → Prop} {k' : Nat} (ok : StoreOk X.K C name) (hk : (tblF l name).isSome = true ∧ k' = k ∨ k' = k + 1) (h1000 : k' ≤ 900) (hp : putA l name v = l')
    (h : Q loc (setM M0 a (.inst C k' (tblF l')))) : SA X n fz L (.ref a) name v Q loc (setM M0 a (.inst C k (tblF l))) := SA_tbl (setM_same _ _ _) ok hk h1000 hp (by rw [setM_setM]; exact h)
theorem EV_builtinF {Q : QV} {x : Str} {p : Pos} {id : String} (hE : Fun env L) (hx : env.kindOf x = some .globalImplicit) (hv : nsIn X.K mainGlobals x = some none) (hb : bootBuiltins x = some (.builtin id)) (h : Q (.builtin id) loc M)
    (hn : x ≠ "__name__" := by decide +kernel) (hd : (x == ("__debug__" : Str)) = false := by decide +kernel) : EV X n fz L env (.Name x p) Q loc M := EV_builtin hE hx hv hb h hn hd
theorem EV_gref {Q : QV} {x : Str} {p : Pos} {a : Addr} (hE : Fun env L) (hx : env.kindOf x = some .globalImplicit) (hv : nsIn X.K mainGlobals x = some (some (.ref a))) (h : Q (.ref a) loc M)
    (hd : (x == ("__debug__" : Str)) = false := by decide +kernel) : EV X n fz L env (.Name x p) Q loc M := EV_global hE hx hv h hd
theorem EV_gnone {Q : QV} {x : Str} {p : Pos} (hE : Fun env L) (hx : env.kindOf x = some .globalImplicit) (hv : nsIn X.K mainGlobals x = some (some .none)) (h : Q .none loc M)
    (hd : (x == ("__debug__" : Str)) = false := by decide +kernel) : EV X n fz L env (.Name x p) Q loc M := EV_global hE hx hv h hd
theorem KeepOk.bf (id : String) : KeepOk X (.builtin id) := .inl ⟨_, rfl⟩
theorem KeepOk.rf (h : keepIn X.K (.ref a) = true) : KeepOk X (.ref a) := .inr (.inr h)
theorem CW_go0 {Q : QV} {pos : Pos} {f : Value} {args : List Expr} (hk : KeepOk X f) (h : AR X n fz L env args (fun vs l m => CA X n fz L f vs Q l m) loc M)
    (hs : args.any isStarred = false := by rfl) : CW X n fz L env pos f [] args Q loc M := CW_go hk h hs
theorem CW_go1 {Q : QV} {pos : Pos} {f w : Value} {args : List Expr} (hk : KeepOk X f) (h : AR X n fz L env args (fun vs l m => CA X n fz L f (w :: vs) Q l m) loc M)
    (hs : args.any isStarred = false := by rfl) : CW X n fz L env pos f [w] args Q loc M := CW_go hk h hs
theorem EX_cut {Q : QF} {st : Stmt} {rest : List Stmt} {R : Loc → Mem → Prop} (h1 : E1 X n fz L env st (fun f l m => f = .next ∧ R l m) loc M) (h2 : ∀ l m, R l m → EX X n fz L env rest Q l m) : EX X n fz L env (st :: rest) Q loc M :=
  EX_cons (WT.mono h1 fun f l m ⟨e, r⟩ => by show seqQ X n fz L env rest Q (erF f) l m; rw [e]; exact h2 l m r)
theorem EX_cutG {Q : QF} {st : Stmt} {rest : List Stmt} {R : Loc → Mem → Prop} (h1 : ∀ R' : Loc → Mem → Prop, (∀ l m, R l m → R' l m) → E1 X n fz L env st (fun f l m => f = .next ∧ R' l m) loc M) (h2 : ∀ l m, R l m → EX X n fz L env rest Q l m) : EX X n fz L env (st :: rest) Q loc M := EX_cut (h1 R fun _ _ h => h) h2
theorem E1_WhileG {Q : QF} {test : Expr} {body : List Stmt} {pos : Pos} (I : Nat → Loc → Mem → Prop) (k : Nat) (h0 : I k loc M)
    (h : ∀ k l m, I k l m → ∀ R' : Loc → Mem → Prop, (∀ k' l m, k' < k → I k' l m → R' l m) → TV X n fz L env test (fun b l m => (b = true → EX X n fz L env body (loopQ Q R') l m) ∧ (b = false → Q .next l m)) l m) :
    E1 X n fz L env (.While test body [] pos) Q loc M := E1_While I k h0 fun k l m i => h k l m i _ fun k' l m lt i => ⟨k', lt, i⟩
theorem GA_clsI {Q : QV} {f : Str → Option Value} {i : Int} {t : Tok} (hm : M a = some (.inst C k f)) (hf : f name = none) (ok : ClsOk X.K C name (.int i t)) (h : Q (.int i 0) loc M) :
    O1 X n fz L (fun o => getAttr o name true) (.ref a) Q loc M := GA_cls hm hf ok h
theorem EX_cutR {Q : QF} {st : Stmt} {rest : List Stmt} {R : Loc → Mem → Prop} (h1 : E1 X n fz L env st (fun f l m => (f = .next ∧ R l m) ∨ ∃ v, f = .ret v ∧ Q (.ret v) l m) loc M) (h2 : ∀ l m, R l m → EX X n fz L env rest Q l m) : EX X n fz L env (st :: rest) Q loc M :=
  EX_cons (WT.mono h1 fun f l m h => by
    show seqQ X n fz L env rest Q (erF f) l m
    rcases h with ⟨e, r⟩ | ⟨v, e, q⟩
    · rw [e]; exact h2 l m r
    · rw [e]; exact q)
theorem ATs_nil {Q : Loc → Mem → Prop} (h : Q loc M) : ATs X n fz L env [] [] Q loc M := h
theorem ATs_cons {Q : Loc → Mem → Prop} {t : Expr} {ts : List Expr} {v : Value} {vs : List Value} (h : AT X n fz L env t v (ATs X n fz L env ts vs Q) loc M) : ATs X n fz L env (t :: ts) (v :: vs) Q loc M := h
theorem EX_abs {Q : QF} {ss : List Stmt} {R : Mem → Prop} (r : R M) (h : ∀ m, R m → EX X n fz L env ss Q loc m) : EX X n fz L env ss Q loc M := h M r
theorem EX_cutF {Q : QF} {st : Stmt} {rest : List Stmt} {R : Loc → Mem → Prop} (h1 : E1 X n fz L env st (fun f l m => (f = .next ∧ R l m) ∨ (f ≠ .next ∧ Q f l m)) loc M) (h2 : ∀ l m, R l m → EX X n fz L env rest Q l m) : EX X n fz L env (st :: rest) Q loc M :=
  EX_cons (WT.mono h1 fun f l m h => by
    show seqQ X n fz L env rest Q (erF f) l m
    rcases h with ⟨e, r⟩ | ⟨e, q⟩
    · rw [e]; exact h2 l m r
    · cases f with
      | next => exact absurd rfl e
      | brk => exact q
      | cont => exact q
      | ret v => exact q)
theorem E1_AugLocal {Q : QF} {x : Str} {p pos : Pos} {op : Operator} {e : Expr} {v : Value} (hE : Fun env L) (hx : env.kindOf x = some .local) (hv : loc x = some v)
    (h : EV X n fz L env e (fun b l m => O2 X n fz L (inplaceOp op) v b (fun v l m => ST X n fz L env x v (fun l m => Q .next l m) l m) l m) loc M) : E1 X n fz L env (.AugAssign (.Name x p) op e pos) Q loc M := fun A s r F o => by
  (refine obEA (F.ns) ?_; intro m hn he)
  have hm := he x
  rw [hv] at hm
  (refine obEA (Option.map_eq_some_iff.mp hm) ?_; intro v' e1 e2)
  refine wpAny_AugAssign_Name (wpAny_loadName_local hE.kind hx (hE.loc ▸ hn) e1 ?_)
  refine wpAny_mono (h A s r F o) (fun _ _ w => obEEAA w fun _ _ f' k' q => wpAny_mono (WT.use (q _ _ e2 rfl) r f' k' o) (fun _ _ w => obEEAA w fun _ _ f' k' q =>
    wpAny_mono (WT.use (q _ rfl) r f' k' o) (fun _ _ q => q) (fun _ _ e => e)) (fun _ _ e => e)) (fun _ _ e => e)
theorem SUB_dictT {Q : QV} {value slice : Expr} {es : List (Str × Value)} {x : Str} {v : Value} (hm : RdM X M a (.dct es)) (hx : tblF es x = some v) (h : Q v loc M)
    (hs : ∀ u, subscripted slice false (.ref a) (.str x u) = operate [.ref a, .str x u] (getItem (.ref a) (.str x u)) := by intro _; with_unfolding_all rfl) :
    O2 X n fz L (subscriptTail value slice) (.ref a) (.str x 0) Q loc M := SUB_dict hm hx h hs
theorem EV_dict2K {Q : QV} {x1 x2 : Str} {k1 k2 : Nat} {p1 p2 : Pos} {e1 e2 : Expr} {pos : Pos}
    (h : ∀ D, M D = none → EV X n fz L env e1 (fun v1 => EV X n fz L env e2 (fun v2 l m => m = setM M D (.dct []) ∧ Q (.ref D) l (setM M D (.dct [(x1, v1), (x2, v2)])))) loc (setM M D (.dct [])))
    (hnd : [x1, x2].Nodup := by decide +kernel) :
    EV X n fz L env (.Dict [some (.Constant (.str x1) k1 p1), some (.Constant (.str x2) k2 p2)] [e1, e2] pos) Q loc M :=
  EV_dict2 (fun D hD => WT.mono (h D hD) fun v1 l m q => WT.mono q fun v2 l m ⟨e, q⟩ => by subst e; rw [setM_setM]; exact ⟨setM_same _ _ _, q⟩) hnd
theorem AR_nil {Q : QL} (h : Q [] loc M) : AR X n fz L env [] Q loc M := h
theorem AR_cons {Q : QL} {e : Expr} {r : List Expr} (h : EV X n fz L env e (fun v l m => AR X n fz L env r (fun vs l m => Q (v :: vs) l m) l m) loc M) : AR X n fz L env (e :: r) Q loc M := h
theorem EV_gstr2 {Q : QV} {x : Str} {p : Pos} {l : List Nat} (hE : Fun env L) (hx : env.kindOf x = some .globalImplicit) (hv : (nsIn X.K mainGlobals x).map (fun o => o.map er) = some (some (.str (mkS l) 0))) (h : Q (.str (mkS l) 0) loc M)
    (hd : (x == ("__debug__" : Str)) = false := by decide +kernel) : EV X n fz L env (.Name x p) Q loc M := by
  (refine obEA (Option.map_eq_some_iff.mp hv) ?_; intro o h1 h2)
  (refine obEA (Option.map_eq_some_iff.mp h2) ?_; intro v h3 h4)
  subst h3
  exact EV_global hE hx h1 (by rw [h4]; exact h) hd
end

end Mine
end
section
set_option linter.unusedVariables false
set_option maxRecDepth 100000
namespace Mine
open PySem PySem.W PySem.Calls PyProof.Rows PySem.StrLaws PySem.Builtin PySem.Builtin.Str

theorem At_mkS {l p : List Nat} {i : Nat} (hp : p ≠ []) : At (mkS l) (mkS p) (mkS l).length i ↔ p <+: l.drop i := by
  unfold At
  rw [subAt_eq]
  simp only [mkS_toList, mkS_length]
  constructor
  · rintro ⟨h1, h2⟩
    rw [beq_iff_eq] at h2
    exact List.prefix_iff_eq_take.mpr h2.symm
  · intro h
    have hl := h.length_le
    rw [List.length_drop] at hl
    have : 0 < p.length := List.length_pos_iff.mpr hp
    exact ⟨by (lia), by rw [beq_iff_eq]; exact (List.prefix_iff_eq_take.mp h).symm⟩

noncomputable def repL (p z : List Nat) : Nat → List Nat → List Nat
  | 0, l => l
  | _ + 1, [] => []
  | k + 1, c :: r => if p <+: c :: r then z ++ repL p z k ((c :: r).drop p.length) else c :: repL p z k r

theorem strSub_mkS (l : List Nat) (i j : Nat) : strSub (mkS l) i j = mkS ((l.drop i).take (j - i)) := by
  apply Str.ext'
  have := strSub_toList (mkS l) i j
  rw [mkS_toList] at this
  apply Array.toList_inj.mp
  rw [this]; rfl

theorem repL_run (p z : List Nat) (hp : p ≠ []) (l : List Nat) : ∀ (d a : Nat) (k : Nat), (∀ j, a ≤ j → j < a + d → ¬ p <+: l.drop j) → a + d ≤ l.length → (l.drop a).length ≤ k →
    repL p z k (l.drop a) = (l.drop a).take d ++ repL p z (k - d) (l.drop (a + d))
  | 0, a, k, _, _, _ => by simp
  | d + 1, a, k, hn, hl, hk => by
    have hlt : a < l.length := by (lia)
    have e : l.drop a = l[a] :: l.drop (a + 1) := List.drop_eq_getElem_cons hlt
    cases k with
    | zero => rw [List.length_drop] at hk; (clear e hl hn hp; omega)
    | succ k =>
      have h0 := hn a (Nat.le_refl _) (by (lia))
      rw [e] at h0 hk ⊢
      rw [repL, if_neg h0]
      rw [repL_run p z hp l d (a + 1) k (fun j h1 h2 => hn j (by (exact Nat.le_of_lt (by assumption))) (by (lia))) (by (lia)) (by simp only [List.length_cons] at hk; (lia))]
      have e2 : a + 1 + d = a + (d + 1) := by (lia)
      rw [e2, Nat.succ_sub_succ, List.take_succ_cons, List.cons_append]

theorem repL_fuel (p z : List Nat) (hp : p ≠ []) : ∀ (k k' : Nat) (l : List Nat), l.length ≤ k → l.length ≤ k' → repL p z k l = repL p z k' l
  | 0, k', l, h, h' => by
    have : l = [] := List.length_eq_zero_iff.mp (by (lia))
    subst this; cases k' <;> rfl
  | k + 1, 0, l, h, h' => by
    have : l = [] := List.length_eq_zero_iff.mp (by (lia))
    subst this; rfl
  | k + 1, k' + 1, [], _, _ => rfl
  | k + 1, k' + 1, c :: r, h, h' => by
    have pl : 0 < p.length := List.length_pos_iff.mpr hp
    simp only [List.length_cons] at h h'
    simp only [repL]
    split
    · rw [repL_fuel p z hp k k' _ (by simp; (lia)) (by simp; (lia))]
    · rw [repL_fuel p z hp k k' r (by (lia)) (by (lia))]

theorem rep_parts (p z : List Nat) (hp : p ≠ []) (l : List Nat) : ∀ (cuts : List Nat) (a f : Nat), a ≤ l.length → ChainG (mkS l) (mkS p) (mkS l).length a cuts f → (∀ k, f ≤ k → ¬ At (mkS l) (mkS p) (mkS l).length k) →
    Str.join (mkS z) (partsFrom (mkS l) (mkS p).length a cuts) = mkS (repL p z l.length (l.drop a))
  | [], a, f, ha, h, hn => by
    have e : f = a := h
    subst e
    show strSub (mkS l) f (mkS l).length = _
    have no : ∀ j, f ≤ j → j < f + (l.length - f) → ¬ p <+: l.drop j := fun j h1 _ hx => hn j h1 ((At_mkS hp).mpr hx)
    rw [strSub_mkS, mkS_length, repL_run p z hp l (l.length - f) f l.length no (by (lia)) (by simp)]
    have : l.drop (f + (l.length - f)) = [] := List.drop_eq_nil_of_le (by (lia))
    rw [this]
    have e2 : repL p z (l.length - (l.length - f)) [] = [] := by cases l.length - (l.length - f) <;> rfl
    rw [e2, List.append_nil]
  | c :: r, a, f, ha, h, hn => by
    (refine obAAA (h) ?_; intro h1 h2 h3 h4)
    have hpre := (At_mkS hp).mp h2
    have hc : c + p.length ≤ l.length := by have := h2.1; simpa using this
    have pl : 0 < p.length := List.length_pos_iff.mpr hp
    have ih := rep_parts p z hp l r (c + (mkS p).length) f (by simpa using hc) h4 hn
    have no : ∀ j, a ≤ j → j < a + (c - a) → ¬ p <+: l.drop j := fun j k1 k2 hx => h3 j k1 (by (lia)) ((At_mkS hp).mpr hx)
    rw [repL_run p z hp l (c - a) a l.length no (by (clear no ih hpre h4 h3 h2 hn h ha hp; lia)) (by simp)]
    have e1 : a + (c - a) = c := by (lia)
    rw [e1]
    have hlt : c < l.length := by (lia)
    have e2 : l.drop c = l[c] :: l.drop (c + 1) := List.drop_eq_getElem_cons hlt
    obtain ⟨k, hk⟩ : ∃ k, l.length - (c - a) = k + 1 := ⟨l.length - (c - a) - 1, by (clear e2 no ih pl hc hpre h4 h3 h2 h1 hn h ha hp; lia)⟩
    have e3 : repL p z (l.length - (c - a)) (l.drop c) = z ++ repL p z l.length (l.drop (c + p.length)) := by
      rw [hk, e2, repL, ← e2, if_pos hpre, List.drop_drop]
      rw [repL_fuel p z hp k l.length _ (by simp; (lia)) (by simp)]
    rw [e3]
    (refine obEE (partsFrom_ne (mkS l) (mkS p).length (c + (mkS p).length) r) ?_; intro q rr hq)
    show Str.join (mkS z) (strSub (mkS l) a c :: partsFrom (mkS l) (mkS p).length (c + (mkS p).length) r) = _
    rw [hq]
    show strSub (mkS l) a c ++ mkS z ++ Str.join (mkS z) (q :: rr) = _
    rw [← hq, ih, strSub_mkS, mkS_append, mkS_append, mkS_length, List.append_assoc]

theorem replace_mkS (p z l : List Nat) (hp : p ≠ []) : Txt.replace (mkS l) (mkS p) (mkS z) = mkS (repL p z l.length l) := by
  obtain ⟨f, hG, hn⟩ := occ_tight (mkS l) (mkS p) (by rw [mkS_length]; exact List.length_pos_iff.mpr hp)
  have key := rep_parts p z hp l _ 0 f (Nat.zero_le _) hG hn
  rw [List.drop_zero] at key
  unfold Txt.replace
  split
  · rename_i hc
    rw [Bool.or_eq_true] at hc
    rcases hc with hc | hc
    · have e : occurrences (mkS l) (mkS p) 0 (mkS l).length ((mkS l).length + 1) = [] := List.isEmpty_iff.mp hc
      rw [e] at key
      rw [← key]
      show _ = strSub (mkS l) 0 (mkS l).length
      rw [sub_whole]
    · rw [mkS_length] at hc
      simp only [Bool.and_eq_true, beq_iff_eq] at hc
      exact absurd hc.1 (Nat.ne_of_gt (List.length_pos_iff.mpr hp))
  · rw [glued_eq_join, partsBetween_eq]; exact key

noncomputable def mend : List Nat → List Nat
  | [] => []
  | 13 :: 10 :: r => 10 :: mend r
  | 13 :: r => 10 :: mend r
  | c :: r => c :: mend r

theorem mend_13 (r : List Nat) (h : r.head? ≠ some 10) : mend (13 :: r) = 10 :: mend r := by
  cases r with
  | nil => rfl
  | cons d r =>
    have : d ≠ 10 := fun e => h (by simp [e])
    rw [mend]
    · intro r' e; cases e; exact this rfl
theorem mend_c (c : Nat) (r : List Nat) (h : c ≠ 13) : mend (c :: r) = c :: mend r := by
  rw [mend]
  · intro r' e; exact absurd e h
  · intro e; exact absurd e h

theorem rep_mend : ∀ (k : Nat) (l : List Nat), l.length ≤ k → repL [13] [10] k (repL [13, 10] [10] k l) = mend l := by
  intro k
  induction k with
  | zero =>
    intro l h
    have : l = [] := List.length_eq_zero_iff.mp (by (lia))
    subst this; rfl
  | succ k ih =>
    intro l h
    have small : ∀ (k : Nat) (l : List Nat), (repL [13, 10] [10] k l).length ≤ l.length := by
      intro k
      induction k with
      | zero => intro l; exact Nat.le_refl _
      | succ k ih =>
        intro l
        cases l with
        | nil => exact Nat.le_refl _
        | cons c r =>
          rw [repL]
          split
          · rename_i hp
            have := hp.length_le
            have h2 := ih ((c :: r).drop [13, 10].length)
            simp only [List.length_append, List.length_cons, List.length_nil, List.length_drop] at h2 this ⊢
            (clear hp ih h; omega)
          · simp only [List.length_cons]
            have := ih r
            (lia)
    cases l with
    | nil => rfl
    | cons c r =>
      simp only [List.length_cons] at h
      rw [repL]
      split
      · rename_i hp
        (refine obE (hp) ?_; intro t ht)
        simp only [List.cons_append, List.nil_append, List.cons.injEq] at ht
        (refine obA (ht) ?_; intro hz0 hz1; subst hz0; subst hz1)
        show repL [13] [10] (k + 1) (10 :: repL [13, 10] [10] k t) = _
        rw [repL, if_neg (by rintro ⟨s, hs⟩; simp at hs)]
        rw [mend, ih t (by simp only [List.length_cons] at h; (lia))]
      · rename_i hp
        by_cases hc : c = 13
        · subst hc
          have hh : r.head? ≠ some 10 := fun e => hp (by
            cases r with
            | nil => cases e
            | cons d r => simp at e; subst e; exact ⟨r, rfl⟩)
          rw [repL, if_pos ⟨_, rfl⟩, mend_13 r hh]
          show 10 :: repL [13] [10] k (repL [13, 10] [10] k r) = _
          rw [ih r (by (lia))]
        · rw [repL, if_neg (by rintro ⟨s, hs⟩; simp at hs; exact hc hs.1.symm), mend_c c r hc, ih r (by (lia))]


theorem mend_append : ∀ (a b : List Nat), (a.getLast? = some 13 → b.head? ≠ some 10) → mend (a ++ b) = mend a ++ mend b
  | [], b, _ => rfl
  | [c], b, h => by
    by_cases hc : c = 13
    · subst hc
      exact mend_13 b (h rfl)
    · rw [List.singleton_append, mend_c c b hc, mend_c c [] hc]; rfl
  | c :: d :: a, b, h => by
    by_cases hc : c = 13
    · subst hc
      by_cases hd : d = 10
      · subst hd
        have ih := mend_append a b (fun e => h (by cases a with | nil => cases e | cons x a => simpa [List.getLast?_cons_cons] using e))
        show mend (13 :: 10 :: (a ++ b)) = mend (13 :: 10 :: a) ++ mend b
        rw [mend, mend, ih, List.cons_append]
      · have ih := mend_append (d :: a) b (fun e => h (by simpa [List.getLast?_cons_cons] using e))
        show mend (13 :: (d :: a ++ b)) = _
        rw [mend_13 _ (by simp [hd]), mend_13 (d :: a) (by simp [hd]), ih, List.cons_append]
    · have ih := mend_append (d :: a) b (fun e => h (by simpa [List.getLast?_cons_cons] using e))
      show mend (c :: (d :: a ++ b)) = _
      rw [mend_c _ _ hc, mend_c _ _ hc, ih, List.cons_append]
theorem mend_length (l : List Nat) : (mend l).length ≤ l.length := by
  have : ∀ (k : Nat) (l : List Nat), l.length ≤ k → (mend l).length ≤ l.length := by
    intro k
    induction k with
    | zero => intro l h; have : l = [] := List.length_eq_zero_iff.mp (by (lia)); subst this; exact Nat.le_refl _
    | succ k ih =>
      intro l h
      cases l with
      | nil => exact Nat.le_refl _
      | cons c r =>
        simp only [List.length_cons] at h
        by_cases hc : c = 13
        · subst hc
          by_cases hr : r.head? = some 10
          · cases r with
            | nil => cases hr
            | cons d r => simp at hr; subst hr; rw [mend]; have := ih r (by simp at h; (exact Nat.le_of_lt (by assumption))); simp; (exact Nat.le_succ_of_le (by assumption))
          · rw [mend_13 r hr]; have := ih r (by (lia)); simp; (assumption)
        · rw [mend_c c r hc]; have := ih r (by (lia)); simp; (assumption)
  exact this _ l (Nat.le_refl _)
theorem mend_ne (l : List Nat) (h : l ≠ []) : mend l ≠ [] := by
  cases l with
  | nil => exact absurd rfl h
  | cons c r =>
    by_cases hc : c = 13
    · subst hc
      by_cases hr : r.head? = some 10
      · cases r with
        | nil => cases hr
        | cons d r => simp at hr; subst hr; rw [mend]; simp
      · rw [mend_13 r hr]; simp
    · rw [mend_c c r hc]; simp

noncomputable def trail (l : List Nat) : Nat := (l.reverse.takeWhile (· != 10)).length
theorem tw_all {α : Type} (p : α → Bool) : ∀ l : List α, (∀ x ∈ l, p x = true) → l.takeWhile p = l
  | [], _ => rfl
  | a :: r, h => by rw [List.takeWhile_cons, h a (List.mem_cons_self ..), if_pos rfl, tw_all p r fun x hx => h x (List.mem_cons_of_mem _ hx)]
theorem tw_len {α : Type} (p : α → Bool) : ∀ l : List α, (l.takeWhile p).length = l.length → ∀ x ∈ l, p x = true
  | [], _, x, hx => by cases hx
  | a :: r, h, x, hx => by
    rw [List.takeWhile_cons] at h
    cases ha : p a with
    | false => rw [ha] at h; simp at h
    | true =>
      rw [ha, if_pos rfl] at h
      rcases List.mem_cons.mp hx with rfl | hx
      · exact ha
      · exact tw_len p r (by simpa using h) x hx
theorem trail_append (a b : List Nat) : trail (a ++ b) = if 10 ∈ b then trail b else trail a + b.length := by
  unfold trail
  rw [List.reverse_append, List.takeWhile_append]
  by_cases h : 10 ∈ b
  · rw [if_pos h, if_neg]
    intro e
    have := tw_len (· != 10) b.reverse e 10 (by simpa using h)
    simp at this
  · rw [if_neg h]
    have e : b.reverse.takeWhile (· != 10) = b.reverse := by
      refine tw_all _ _ fun x hx => ?_
      simp only [bne_iff_ne, ne_eq]
      intro z; subst z; exact h (by simpa using hx)
    rw [e, if_pos rfl, List.length_append, List.length_reverse]
    (lia)

theorem trail_le (l : List Nat) : trail l ≤ l.length := by
  have := (List.takeWhile_sublist (l := l.reverse) (· != 10)).length_le
  unfold trail; simpa using this
theorem trail_lt (l : List Nat) (h : 10 ∈ l) : trail l < l.length := by
  rcases Nat.lt_or_ge (trail l) l.length with h1 | h1
  · exact h1
  · exfalso
    have e : (l.reverse.takeWhile (· != 10)).length = l.reverse.length := by
      have := trail_le l
      unfold trail at this h1
      rw [List.length_reverse]; (lia)
    have := tw_len (· != 10) l.reverse e 10 (by simpa using h)
    simp at this
theorem cnt_run (l : List Nat) (c hi limit : Nat) (hh : hi ≤ l.length) : ∀ (m cur : Nat) (st : Array Nat × Nat), st.snd ≤ cur → st.fst.size + m ≤ limit →
    (forIn (List.range' cur m) st (occBody (mkS l) (mkS [c]) hi limit)).run.fst.size = st.fst.size + ((l.take (min (cur + m) hi)).drop cur).count c
  | 0, cur, st, _, _ => by
    have : (l.take (min (cur + 0) hi)).drop cur = [] := List.drop_eq_nil_of_le (by simp; (lia))
    rw [this]; rfl
  | m + 1, cur, st, h1, h2 => by
    rw [List.range'_succ, List.forIn_cons]
    have hsub : (cur + (mkS [c]).length ≤ hi ∧ subAt (mkS l) (mkS [c]) cur = true) ↔ (cur < hi ∧ l[cur]? = some c) := by
      rw [subAt_eq, mkS_length]
      show (cur + 1 ≤ hi ∧ ((l.drop cur).take 1 == [c]) = true) ↔ _
      rw [take1_drop]
      exact ⟨fun h => ⟨by (lia), h.2⟩, fun h => ⟨by (lia), h.2⟩⟩
    have e : min (cur + (m + 1)) hi = min (cur + 1 + m) hi := by (lia)
    by_cases hc : cur < hi ∧ l[cur]? = some c
    · have hb : occBody (mkS l) (mkS [c]) hi limit cur st = pure (ForInStep.yield (st.fst.push cur, cur + (mkS [c]).length)) := by
        unfold occBody
        exact if_pos ⟨⟨⟨by (lia), h1⟩, (hsub.mpr hc).1⟩, (hsub.mpr hc).2⟩
      rw [hb]
      show (forIn (List.range' (cur + 1) m) (st.fst.push cur, cur + (mkS [c]).length) (occBody (mkS l) (mkS [c]) hi limit)).run.fst.size = _
      rw [cnt_run l c hi limit hh m (cur + 1) _ (by simp) (by simp; (lia))]
      have hlt : cur < (l.take (min (cur + (m + 1)) hi)).length := by simp; (lia)
      rw [List.drop_eq_getElem_cons hlt, List.count_cons]
      have hx : (l.take (min (cur + (m + 1)) hi))[cur] = c := by
        rw [List.getElem_take]
        exact (List.getElem?_eq_some_iff.mp hc.2).2
      rw [hx, e]
      simp
      (lia)
    · have hb : occBody (mkS l) (mkS [c]) hi limit cur st = pure (ForInStep.yield (st.fst, st.snd)) := by
        unfold occBody
        exact if_neg fun hx => hc (hsub.mp ⟨hx.1.2, hx.2⟩)
      rw [hb]
      show (forIn (List.range' (cur + 1) m) (st.fst, st.snd) (occBody (mkS l) (mkS [c]) hi limit)).run.fst.size = _
      rw [cnt_run l c hi limit hh m (cur + 1) _ (by simp; (exact Nat.le_succ_of_le (by assumption))) (by simp; (exact Nat.le_of_lt (by assumption)))]
      by_cases hlt : cur < (l.take (min (cur + (m + 1)) hi)).length
      · rw [List.drop_eq_getElem_cons hlt, List.count_cons]
        have hl2 : cur < l.length ∧ cur < hi := by simp at hlt; (clear hb hc e hsub h2 h1; lia)
        have hx : (l.take (min (cur + (m + 1)) hi))[cur] ≠ c := by
          rw [List.getElem_take]
          intro z
          exact hc ⟨hl2.2, by rw [← z]; exact List.getElem?_eq_getElem hl2.1⟩
        rw [if_neg (by simpa using hx), e]
        simp
      · have n1 := Nat.not_lt.mp hlt
        rw [List.drop_eq_nil_of_le n1, List.drop_eq_nil_of_le (by rw [← e]; (exact Nat.le_succ_of_le (by assumption)))]
theorem count_mkS (l : List Nat) (c : Nat) (off : Nat) (ho : off ≤ l.length) : (occurrences (mkS l) (mkS [c]) (fromIndex (mkS l).length 0) (min (fromIndex (mkS l).length (off : Int)) (mkS l).length) ((mkS l).length + 1)).length = (l.take off).count c := by
  have e0 : fromIndex (mkS l).length 0 = 0 := rfl
  have e1 : fromIndex (mkS l).length (off : Int) = off := by
    unfold fromIndex
    rw [mkS_length, if_neg (by (lia))]
    (lia)
  rw [e0, e1, mkS_length, Nat.min_eq_left ho, occ_eq, Array.length_toList, cnt_run l c off (l.length + 1) ho _ 0 _ (Nat.le_refl _) (by simp; (assumption))]
  simp

theorem last_mkS (l : List Nat) (off : Nat) (ho : off ≤ l.length) :
    lastI (lastOccurrence (mkS l) (mkS [10]) (fromIndex (mkS l).length 0) (min (fromIndex (mkS l).length (off : Int)) (mkS l).length)) =
      if 10 ∈ l.take off then (off : Int) - 1 - trail (l.take off) else -1 := by
  have e0 : fromIndex (mkS l).length 0 = 0 := rfl
  have e1 : fromIndex (mkS l).length (off : Int) = off := by
    unfold fromIndex
    rw [mkS_length, if_neg (by (lia))]
    (lia)
  rw [e0, e1, mkS_length, Nat.min_eq_left ho]
  have key : LastOk (mkS l) (mkS [10]) off ([] ++ List.range' 0 (off + 1 - 0)) (lastOccurrence (mkS l) (mkS [10]) 0 off) := by
    rw [last_eq]
    exact last_run (mkS l) (mkS [10]) off _ [] none (fun i hi => by cases hi) (fun i hi => by cases hi) (List.pairwise_lt_range' ..)
  have hAt : ∀ i, At (mkS l) (mkS [10]) off i ↔ (i < off ∧ l[i]? = some 10) := fun i => by
    unfold At
    rw [subAt_eq, mkS_length]
    show (i + 1 ≤ off ∧ ((l.drop i).take 1 == [10]) = true) ↔ _
    rw [take1_drop]
    exact ⟨fun h => ⟨by (lia), h.2⟩, fun h => ⟨by (lia), h.2⟩⟩
  have mem : 10 ∈ l.take off ↔ ∃ i, i < off ∧ l[i]? = some 10 := by
    rw [List.mem_iff_getElem?]
    constructor
    · rintro ⟨i, hi⟩
      rw [List.getElem?_take] at hi
      split at hi
      · exact ⟨i, by assumption, hi⟩
      · cases hi
    · rintro ⟨i, h1, h2⟩
      exact ⟨i, by rw [List.getElem?_take, if_pos h1]; exact h2⟩
  cases q : lastOccurrence (mkS l) (mkS [10]) 0 off with
  | none =>
    rw [q] at key
    have : ¬ 10 ∈ l.take off := fun hm => by
      (refine obEA (mem.mp hm) ?_; intro i h1 h2)
      exact key i (by simp [List.mem_range']; (exact Nat.le_succ_of_le (by assumption))) ((hAt i).mpr ⟨h1, h2⟩)
    rw [if_neg this]; rfl
  | some i =>
    rw [q] at key
    (refine obA (key) ?_; intro k1 k2)
    (refine obA ((hAt i).mp k1) ?_; intro h1 h2)
    have hm : 10 ∈ l.take off := mem.mpr ⟨i, h1, h2⟩
    rw [if_pos hm]
    have hd : l.take off = l.take i ++ 10 :: ((l.take off).drop (i + 1)) := by
      have hlt : i < (l.take off).length := by simp; (lia)
      have e : (l.take off)[i] = 10 := by
        rw [List.getElem_take]
        exact (List.getElem?_eq_some_iff.mp h2).2
      have := List.take_append_drop i (l.take off)
      rw [List.drop_eq_getElem_cons hlt, e, List.take_take, Nat.min_eq_left (by (exact Nat.le_of_lt (by assumption)))] at this
      exact this.symm
    have hfree : 10 ∉ (l.take off).drop (i + 1) := fun hx => by
      (refine obE (List.getElem?_of_mem hx) ?_; intro j hj)
      rw [List.getElem?_drop, List.getElem?_take] at hj
      split at hj
      · exact k2 (i + 1 + j) (by simp [List.mem_range']; (exact Nat.le_succ_of_le (by assumption))) (by (exact Nat.le_add_right _ _)) ((hAt _).mpr ⟨by assumption, hj⟩)
      · cases hj
    have ht : trail (l.take off) = ((l.take off).drop (i + 1)).length := by
      have e3 : l.take i ++ 10 :: ((l.take off).drop (i + 1)) = (l.take i ++ [10]) ++ ((l.take off).drop (i + 1)) := by simp
      have e4 := congrArg trail (hd.trans e3)
      rw [trail_append, if_neg hfree] at e4
      have : trail (l.take i ++ [10]) = 0 := by
        rw [trail_append, if_pos (by simp)]
        rfl
      rw [e4, this, Nat.zero_add]
    rw [ht]
    show ((i : Nat) : Int) = _
    simp
    (clear ht hfree hd hm h2 k2 k1 q key mem hAt e0; lia)
end Mine
end
section
open PySem PySem.W PyProof.Rows
set_option maxRecDepth 100000
set_option maxHeartbeats 4000000
set_option linter.unusedVariables false
namespace Mine
section
variable {X : Cx} {n : Nat} {fz : Frz} {L : Addr} {loc : Loc} {M : Mem}
theorem cps_mkS (l : List Nat) : (mkS l).cps.toList = l := by simp [mkS]
theorem O2_in_sc {Q : QV} {c : Nat} {l : List Nat} (h : Q (.bool (decide (c ∈ l))) loc M) : O2 X n fz L (compareOp .In) (.str (mkS [c]) 0) (.str (mkS l) 0) Q loc M := fun va vb e1 e2 A s r F o => by
  (refine obE (er_str e1) ?_; intro t hz1; subst hz1)
  (refine obE (er_str e2) ?_; intro u hz1; subst hz1)
  refine in_str ⟨loc, M, F, Like.refl s, ?_⟩
  have h1 := StrLaws.found_one (mkS l) c
  rw [cps_mkS] at h1
  rw [← h1] at h
  exact h
theorem O2_notin_sc {Q : QV} {c : Nat} {l : List Nat} (h : Q (.bool (!decide (c ∈ l))) loc M) : O2 X n fz L (compareOp .NotIn) (.str (mkS [c]) 0) (.str (mkS l) 0) Q loc M := fun va vb e1 e2 A s r F o => by
  (refine obE (er_str e1) ?_; intro t hz1; subst hz1)
  (refine obE (er_str e2) ?_; intro u hz1; subst hz1)
  refine notIn_str ⟨loc, M, F, Like.refl s, ?_⟩
  have h1 := StrLaws.found_one (mkS l) c
  rw [cps_mkS] at h1
  rw [← h1] at h
  exact h
end
theorem trail_free {l : List Nat} (h : 10 ∉ l) : trail l = l.length := by
  unfold trail
  rw [tw_all _ l.reverse (fun x hx => by
    have : x ∈ l := by simpa using hx
    simp; rintro rfl; exact h this)]
  simp
theorem lines_law : ∀ (ts : List (List Nat)), ts ≠ [] → (∀ t ∈ ts, 10 ∉ t) → ([10].intercalate ts).count 10 + 1 = ts.length ∧ ∃ z, ts.getLast? = some z ∧ trail ([10].intercalate ts) = z.length
  | [], h, _ => absurd rfl h
  | [a], _, h => by
    have ha := h a (by simp)
    refine ⟨?_, a, rfl, ?_⟩
    · simp [List.intercalate, List.count_eq_zero.mpr ha]
    · simp only [List.intercalate, List.intersperse, List.flatten_cons, List.flatten_nil, List.append_nil]; exact trail_free ha
  | a :: b :: r, _, h => by
    have ha := h a (by simp)
    obtain ⟨h1, z, h2, h3⟩ := lines_law (b :: r) (by simp) (fun t ht => h t (by simp at ht ⊢; right; exact ht))
    have e : [10].intercalate (a :: b :: r) = a ++ ([10] ++ [10].intercalate (b :: r)) := by simp [List.intercalate, List.intersperse]
    rw [e]
    refine ⟨?_, z, ?_, ?_⟩
    · rw [List.count_append, List.count_append, List.count_eq_zero.mpr ha]
      simp at h1 ⊢
      (lia)
    · simpa using h2
    · rw [trail_append, if_pos (by simp), trail_append]
      by_cases h10 : 10 ∈ [10].intercalate (b :: r)
      · rw [if_pos h10]; exact h3
      · rw [if_neg h10, ← h3, trail_free h10]; simp [trail]
theorem split_lines (l : List Nat) : ∃ ts : List (List Nat), Txt.split (mkS l) (mkS [10]) = ts.map mkS ∧ ts.length = l.count 10 + 1 ∧ ∃ z, ts.getLast? = some z ∧ z.length = trail l := by
  have h1 := StrLaws.join_split (mkS l) (mkS [10])
  have h2 := StrLaws.split_free (mkS l) 10
  have e : Txt.split (mkS l) (mkS [10]) = ((Txt.split (mkS l) (mkS [10])).map fun s => s.cps.toList).map mkS := by
    rw [List.map_map]
    conv => lhs; rw [← List.map_id (Txt.split (mkS l) (mkS [10]))]
    refine List.map_congr_left fun s _ => ?_
    simp [mkS]
  generalize hts : (Txt.split (mkS l) (mkS [10])).map (fun s => s.cps.toList) = ts at e
  have hne : ts ≠ [] := by
    intro z
    rw [z] at hts
    have : Txt.split (mkS l) (mkS [10]) = [] := by simpa using hts
    rw [this] at h1
    have hl : l = [] := by
      have h0 : Str.join (mkS [10]) [] = mkS [] := rfl
      exact (mkS_inj (h0.symm.trans h1)).symm
    subst hl
    have h9 : (Txt.split (mkS []) (mkS [10])).length = 1 := by decide +kernel
    rw [this] at h9
    cases h9
  have hfree : ∀ t ∈ ts, 10 ∉ t := by
    intro t ht
    rw [← hts] at ht
    (refine obEA (List.mem_map.mp ht) ?_; intro s hs hz2; subst hz2)
    exact h2 s hs
  have hj : [10].intercalate ts = l := by
    have := join_mkS [10] ts
    have h1' : Txt.join (mkS [10]) (ts.map mkS) = mkS l := by
      show Builtin.Str.glued (mkS [10]) (ts.map mkS) = _
      rw [StrLaws.glued_eq_join, ← e]; exact h1
    rw [h1'] at this
    exact (mkS_inj this).symm
  (refine obAEA (lines_law ts hne hfree) ?_; intro h4 z h5 h6)
  rw [hj] at h4 h6
  exact ⟨ts, e, by (exact (by assumption : _ = _).symm), z, h5, h6.symm⟩
end Mine
end
section
open PySem PySem.W PySem.Calls PyProof.Rows
set_option maxRecDepth 100000
namespace Mine
variable {X : Cx} {n : Nat} {fz : Frz} {L : Addr} {loc : Loc} {M : Mem} {env : Env} {a b C C2 : Addr} {k kb : Nat} {f f2 : Str → Option Value} {l : List (Str × Value)} {name name2 x y : Str} {v w : Value} {Q : QF} {rest body orelse : List Stmt} {p p1 p2 p3 p4 p5 p6 p7 p8 p9 p10 p11 p12 : Pos} {kk k1 k2 k3 k4 : Nat}
theorem EXn (h : EX X n fz L env rest Q loc M) : EX X n fz L env [] (seqQ X n fz L env rest Q) loc M := EX_nil h
theorem RETb {b : Bool} (h : Q (.ret (.bool b)) loc M) : EX X n fz L env (.Return (some (.Constant (.bool b) kk p)) p1 :: rest) Q loc M := EX_cons (E1_Return (EV_bool h))
theorem STn (hE : Fun env L) (hx : env.kindOf x = some .local) (h : EX X n fz L env rest Q (setL loc x v) M) : ST X n fz L env x v (fun l m => seqQ X n fz L env rest Q .next l m) loc M := ST_local hE hx h
theorem EVaf {Q : QV} (hE : Fun env L) (hx : env.kindOf x = some .local) (hv : loc x = some (.ref a)) (hm : M a = some (.inst C k f)) (hf : f name = some v) (ok : FieldOk X.K C name) (h : Q v loc M)
    (hh : handedIn v = true := by rfl) (hd : (x == ("__debug__" : Str)) = false := by decide) : EV X n fz L env (.Attribute (.Name x p) name p1) Q loc M :=
  EV_attr (EV_local hE hx hv (GA_field hm hf ok h hh) hd) (fun _ => by with_unfolding_all rfl)
theorem EX_gen {ss : List Stmt} (h : ∀ Q' : QF, (∀ f l m, Q f l m → Q' f l m) → EX X n fz L env ss Q' loc M) : EX X n fz L env ss Q loc M := h Q fun _ _ _ h => h
theorem IFs1 {s t : Nat} {y : Str} (hE : Fun env L) (hx : env.kindOf x = some .local) (hv : loc x = some (.str (mkS [s]) 0)) (e : y = mkS [t])
    (h : (s = t → EX X n fz L env body (seqQ X n fz L env rest Q) loc M) ∧ (¬ s = t → EX X n fz L env orelse (seqQ X n fz L env rest Q) loc M))
    (hd : (x == ("__debug__" : Str)) = false := by decide) : EX X n fz L env (.If (.Compare (.Name x p) [.Eq] [.Constant (.str y) kk p1] p2) body orelse p3 :: rest) Q loc M :=
  EX_cons (E1_If (TV_compare (EV_local hE hx hv (EV_str e (O2_eq_str (TR_bool ⟨fun z => h.1 (by simpa using z), fun z => h.2 (by simpa using z)⟩))) hd) (by with_unfolding_all rfl)))
theorem IFs {s t : List Nat} {y : Str} (hE : Fun env L) (hx : env.kindOf x = some .local) (hv : loc x = some (.str (mkS s) 0)) (e : y = mkS t)
    (h : (decide (s = t) = true → EX X n fz L env body (seqQ X n fz L env rest Q) loc M) ∧ (decide (s = t) = false → EX X n fz L env orelse (seqQ X n fz L env rest Q) loc M))
    (hd : (x == ("__debug__" : Str)) = false := by decide) : EX X n fz L env (.If (.Compare (.Name x p) [.Eq] [.Constant (.str y) kk p1] p2) body orelse p3 :: rest) Q loc M :=
  EX_cons (E1_If (TV_compare (EV_local hE hx hv (EV_str e (O2_eq_str (TR_bool h))) hd) (by with_unfolding_all rfl)))
theorem IFn {y : Str} {t : List Nat} (hE : Fun env L) (hx : env.kindOf x = some .local) (hv : loc x = some .none) (e : y = mkS t) (h : EX X n fz L env orelse (seqQ X n fz L env rest Q) loc M)
    (hd : (x == ("__debug__" : Str)) = false := by decide) : EX X n fz L env (.If (.Compare (.Name x p) [.Eq] [.Constant (.str y) kk p1] p2) body orelse p3 :: rest) Q loc M :=
  EX_cons (E1_If (TV_compare (EV_local hE hx hv (EV_str e (O2_eq_none_str (TR_bool ⟨(fun z => nomatch z), fun _ => h⟩))) hd) (by with_unfolding_all rfl)))
theorem IFi {i j : Int} (hE : Fun env L) (hx : env.kindOf x = some .local) (hv : loc x = some (.int i 0))
    (h : (decide (i = j) = true → EX X n fz L env body (seqQ X n fz L env rest Q) loc M) ∧ (decide (i = j) = false → EX X n fz L env orelse (seqQ X n fz L env rest Q) loc M))
    (hd : (x == ("__debug__" : Str)) = false := by decide) : EX X n fz L env (.If (.Compare (.Name x p) [.Eq] [.Constant (.int j) kk p1] p2) body orelse p3 :: rest) Q loc M :=
  EX_cons (E1_If (TV_compare (EV_local hE hx hv (EV_int (O2_eq_int (TR_bool h))) hd) (by with_unfolding_all rfl)))
theorem IFiN {i j : Int} (hE : Fun env L) (hx : env.kindOf x = some .local) (hv : loc x = some (.int i 0)) (hn : decide (i = j) = false) (h : EX X n fz L env rest Q loc M)
    (hd : (x == ("__debug__" : Str)) = false := by decide) : EX X n fz L env (.If (.Compare (.Name x p) [.Eq] [.Constant (.int j) kk p1] p2) body [] p3 :: rest) Q loc M :=
  IFi hE hx hv ⟨fun z => absurd (hn.symm.trans z) (by decide), fun _ => EXn h⟩ hd
theorem IFc {op : CmpOp} {r : Expr} (hE : Fun env L) (hx : env.kindOf x = some .local) (hv : loc x = some v)
    (h : EV X n fz L env r (fun b lo m => O2 X n fz L (compareOp op) v b (fun c lo m => O1B X n fz L truthy c (fun b l m => (b = true → EX X n fz L env body (seqQ X n fz L env rest Q) l m) ∧ (b = false → EX X n fz L env orelse (seqQ X n fz L env rest Q) l m)) lo m) lo m) loc M)
    (hm : behindInMarks op r = false := by with_unfolding_all rfl) (hd : (x == ("__debug__" : Str)) = false := by decide) : EX X n fz L env (.If (.Compare (.Name x p) [op] [r] p2) body orelse p3 :: rest) Q loc M :=
  EX_cons (E1_If (TV_compare (EV_local hE hx hv h hd) hm))
theorem STA {g : Addr} {k' : Nat} {at1 at2 : Str} {l' : Addr → List (Str × Value)} (hE : Fun env L) (hx : env.kindOf x = some .local) (hv : loc x = some (.ref a)) (hm : M a = some (.inst C k (tblF l))) (hf : tblF l at1 = none) (ok : MethOk X.K C at1 g)
    (ok2 : StoreOk X.K C at2) (hk : (tblF l at2).isSome = true ∧ k' = k ∨ k' = k + 1) (h1000 : k' ≤ 900) (hp : ∀ q, putA l at2 (.ref q) = l' q)
    (h : ∀ q, EX X n fz L env rest Q loc (setM M a (.inst C k' (tblF (l' q)))))
    (hs : swapsWith (.Attribute (.Name x p) at1 p1) (some (.Attribute (.Name x p2) at2 p3)) p4.line env = pure false := by rfl)
    (hd : (x == ("__debug__" : Str)) = false := by decide) : EX X n fz L env (.Assign [.Attribute (.Name x p2) at2 p3] (.Attribute (.Name x p) at1 p1) p4 :: rest) Q loc M :=
  EX_cons (E1_AssignAttr (EV_attr (EV_local hE hx hv (GA_bound hm hf ok (fun q => EV_local hE hx hv (SA_tbl hm ok2 hk h1000 (hp q) (h q)) hd)) hd) (fun _ => by with_unfolding_all rfl)) hs)
theorem TOKg {q td : Addr} {xs : List Value} {x1 x2 yt ns : Str} {l1 : List Nat} {es : List (Str × Value)} {e2 : Expr} {pl : Sem Bool}
    (hE : Fun env L) (hx : env.kindOf x = some .local) (hv : loc x = some (.ref a)) (hm : M a = some (.inst C k f)) (hf : f name = some (.ref q)) (ok : FieldOk X.K C name) (hq : M q = some (.lst xs))
    (hg : env.kindOf ns = some .globalImplicit) (hn : nsIn X.K mainGlobals ns = some (some (.ref td))) (e1 : yt = mkS l1) (hTT : ReadO X X.T td (.dct es)) (ht : tblF es (mkS l1) = some v) (hl : xs.length ≤ 16777216)
    (h : ∀ D, M D = none → EV X n fz L env e2 (fun w l m => m = setM M D (.dct []) ∧ EX X n fz L env rest Q l (setM (setM M D (.dct [(x1, v), (x2, w)])) q (.lst (xs ++ [.ref D])))) loc (setM M D (.dct [])))
    (he : eval (.Call (.Attribute (.Attribute (.Name x p) name p1) "append" p2) [.Dict [some (.Constant (.str x1) k1 p3), some (.Constant (.str x2) k2 p4)] [.Subscript (.Name ns p5) (.Constant (.str yt) k3 p6) p7, e2] p9] [] p10) env = (do
      let ov ← eval (.Attribute (.Name x p) name p1) env
      standAt p2.atName
      let (f, first) ← holding [ov] (getMethod ov "append" pl)
      callWith p10 f first (backTo p10 (starEach [.Dict [some (.Constant (.str x1) k1 p3), some (.Constant (.str x2) k2 p4)] [.Subscript (.Name ns p5) (.Constant (.str yt) k3 p6) p7, e2] p9] env)) []) := by rfl)
    (hi : interactive env = false := by rfl) (hnd : [x1, x2].Nodup := by decide +kernel) (hd : (x == ("__debug__" : Str)) = false := by decide) (hd' : (ns == ("__debug__" : Str)) = false := by decide +kernel)
    (hs : swapsWith (.Call (.Attribute (.Attribute (.Name x p) name p1) "append" p2) [.Dict [some (.Constant (.str x1) k1 p3), some (.Constant (.str x2) k2 p4)] [.Subscript (.Name ns p5) (.Constant (.str yt) k3 p6) p7, e2] p9] [] p10) none p11.line env = pure false := by rfl) :
    EX X n fz L env (.Expr (.Call (.Attribute (.Attribute (.Name x p) name p1) "append" p2) [.Dict [some (.Constant (.str x1) k1 p3), some (.Constant (.str x2) k2 p4)] [.Subscript (.Name ns p5) (.Constant (.str yt) k3 p6) p7, e2] p9] [] p10) p11 :: rest) Q loc M :=
  EX_cons (E1_Expr (EV_mcall (EVaf hE hx hv hm hf ok (GM_append hq (CW_go1 (KeepOk.bf _) (AR_cons (EV_dict2K (fun D hD => EV_sub (EV_gref hE hg hn (EV_str e1 (SUB_dictT (.inr hTT) ht (WT.mono (h D hD) fun w l m ⟨e, r⟩ => ⟨e, AR_nil (CA_append (setM_old hD hq) hl r)⟩) (by intro _; with_unfolding_all rfl))) hd')) hnd)) rfl)) rfl hd) he) hi hs)
theorem CHR {meth : Str} {g : Addr} {pl : Sem Bool} (hE : Fun env L) (hx : env.kindOf x = some .local) (hv : loc x = some (.ref a)) (hm : M a = some (.inst C k f)) (hf : f name = some (.ref b)) (ok : FieldOk X.K C name)
    (hm2 : M b = some (.inst C2 kb f2)) (hf2 : f2 meth = none) (ok2 : MethOk X.K C2 meth g) (hk : KeepOk X (.ref g))
    (h : CA X n fz L (.ref g) [.ref b] (fun v l m => ST X n fz L env y v (fun l m => seqQ X n fz L env rest Q .next l m) l m) loc M)
    (he : eval (.Call (.Attribute (.Attribute (.Name x p) name p1) meth p2) [] [] p3) env = (do
      let ov ← eval (.Attribute (.Name x p) name p1) env
      standAt p2.atName
      let (f, first) ← holding [ov] (getMethod ov meth pl)
      callWith p3 f first (backTo p3 (starEach [] env)) []) := by rfl)
    (hd : (x == ("__debug__" : Str)) = false := by decide)
    (hs : swapsWith (.Call (.Attribute (.Attribute (.Name x p) name p1) meth p2) [] [] p3) (some (.Name y p4)) p5.line env = pure false := by rfl) :
    EX X n fz L env (.Assign [.Name y p4] (.Call (.Attribute (.Attribute (.Name x p) name p1) meth p2) [] [] p3) p5 :: rest) Q loc M :=
  EX_cons (E1_AssignName (EV_mcall (EVaf hE hx hv hm hf ok (GM_meth hm2 hf2 ok2 (CW_go1 hk (AR_nil h) rfl)) rfl hd) he) hs)
theorem UNG {meth : Str} {g : Addr} {pl : Sem Bool} (hE : Fun env L) (hx : env.kindOf x = some .local) (hv : loc x = some (.ref a)) (hm : M a = some (.inst C k f)) (hf : f name = some (.ref b)) (ok : FieldOk X.K C name)
    (hm2 : M b = some (.inst C2 kb f2)) (hf2 : f2 meth = none) (ok2 : MethOk X.K C2 meth g) (hk : KeepOk X (.ref g)) (hy : env.kindOf y = some .local) (hw : loc y = some w)
    (h : CA X n fz L (.ref g) [.ref b, w] (fun _ l m => seqQ X n fz L env rest Q .next l m) loc M)
    (he : eval (.Call (.Attribute (.Attribute (.Name x p) name p1) meth p2) [.Name y p4] [] p3) env = (do
      let ov ← eval (.Attribute (.Name x p) name p1) env
      standAt p2.atName
      let (f, first) ← holding [ov] (getMethod ov meth pl)
      callWith p3 f first (backTo p3 (starEach [.Name y p4] env)) []) := by rfl)
    (hi : interactive env = false := by rfl) (hd : (x == ("__debug__" : Str)) = false := by decide) (hd2 : (y == ("__debug__" : Str)) = false := by decide)
    (hs : swapsWith (.Call (.Attribute (.Attribute (.Name x p) name p1) meth p2) [.Name y p4] [] p3) none p5.line env = pure false := by rfl) :
    EX X n fz L env (.Expr (.Call (.Attribute (.Attribute (.Name x p) name p1) meth p2) [.Name y p4] [] p3) p5 :: rest) Q loc M :=
  EX_cons (E1_Expr (EV_mcall (EVaf hE hx hv hm hf ok (GM_meth hm2 hf2 ok2 (CW_go1 hk (AR_cons (EV_local hE hy hw (AR_nil h) hd2)) rfl)) rfl hd) he) hi hs)
end Mine
end
section
open PySem PySem.W PyProof.Rows
set_option maxRecDepth 100000
set_option maxHeartbeats 4000000
set_option linter.unusedVariables false
namespace Mine
noncomputable section
noncomputable def bodyL (i : Nat) : Option Stmt := PySem.Challenge.pw_te0032_03.main.body[i]?
noncomputable def fd : Option Stmt → Arguments × List Stmt × Scope
  | some (.FunctionDef _ a b _ _ _ s _ _ _) => (a, b, s)
  | _ => default
noncomputable def T (i : Nat) := fd (bodyL i)
noncomputable def D (i j : Nat) := fd (match bodyL i with | some (.ClassDef _ _ _ b _ _ _ _ _ _ _) => b[j]? | _ => none)
noncomputable def fo (x : Arguments × List Stmt × Scope) (nm q : Str) (dv : Value) (pm : Str) (t : Tok) (c : Addr) : Obj :=
  { cls := .type "function", data := .func { name := nm, qualname := q, params := x.1, body := .stmts x.2.1, scope := x.2.2, globals := 3, closure := [], defaults := dv, kwdefaults := .none, pyModule := .str pm t, code := .ref c } }
noncomputable def ob (c : Value) (d : Data) : Obj := { cls := c, data := d }
noncomputable def en (P : Params) (k : Str) (t : Tok) (v : Value) : DictEntry := { hash := PyData.keyHash P k, key := .str k t, val := v }
noncomputable def KP (P : Params) : Frag := [
(2, { cls := .none, data := .dict #[] }),
(3, { cls := .type "dict", data := .dict #[en P "__name__" 165 (.str "law_te0032_03" 1467), en P "__doc__" 166 .none, en P "__package__" 167 .none, en P "__loader__" 168 (.builtin "__main__.__loader__#opaque"), en P "__spec__" 169 .none, en P "__annotations__" 170 (.ref 6), en P "__builtins__" 171 (.ref 4), en P "__file__" 173 (.str "/claim/cut.py" 172), en P "__cached__" 174 .none, en P "_wall" 193 (.ref 21), en P "EOF" 196 .none, en P "spaceCharacters" 202 (.ref 22), en P "asciiLetters" 256 (.ref 27), en P "digits" 268 (.ref 32), en P "hexDigits" 292 (.ref 37), en P "asciiLower" 298 (.ref 42), en P "entities" 428 (.ref 43), en P "replacementCharacters" 531 (.ref 46), en P "tokenTypes" 556 (.ref 48), en P "tagTokenTypes" 563 (.ref 49), en P "Text" 604 (.ref 73), en P "_is_invalid" 611 (.ref 84), en P "HTMLUnicodeInputStream" 737 (.ref 166), en P "bisect_left" 751 (.ref 178), en P "Trie" 826 (.ref 230), en P "entitiesTrie" 843 (.ref 236), en P "HTMLTokenizer" 1466 (.ref 762), en P "_law_PIECES" 1493 (.ref 767), en P "_law_NAMES" 1499 (.ref 774), en P "_law_STOPS" 1505 (.ref 781), en P "_law_LETTERS" 1507 (.str "abcdefghijklmnopqrstuvwxyzABCDEFGHIJKLMNOPQRSTUVWXYZ" 1506), en P "_law_call" 1516 (.ref 788), en P "_law_tag" 1524 (.ref 795), en P "_law_say" 1531 (.ref 802), en P "_law_plan" 1547 (.ref 809), en P "law" 1553 (.ref 814)] 36 }),
(22, { cls := .type "tuple", data := .seq #[.str "\t" 197, .str "\n" 198, .str "\x0c" 199, .str " " 200, .str "\x0d" 201] }),
(27, { cls := .type "tuple", data := .seq #[.str "a" 204, .str "b" 205, .str "c" 206, .str "d" 207, .str "e" 208, .str "f" 209, .str "g" 210, .str "h" 211, .str "i" 212, .str "j" 213, .str "k" 214, .str "l" 215, .str "m" 216, .str "n" 217, .str "o" 218, .str "p" 219, .str "q" 220, .str "r" 221, .str "s" 222, .str "t" 223, .str "u" 224, .str "v" 225, .str "w" 226, .str "x" 227, .str "y" 228, .str "z" 229, .str "A" 230, .str "B" 231, .str "C" 232, .str "D" 233, .str "E" 234, .str "F" 235, .str "G" 236, .str "H" 237, .str "I" 238, .str "J" 239, .str "K" 240, .str "L" 241, .str "M" 242, .str "N" 243, .str "O" 244, .str "P" 245, .str "Q" 246, .str "R" 247, .str "S" 248, .str "T" 249, .str "U" 250, .str "V" 251, .str "W" 252, .str "X" 253, .str "Y" 254, .str "Z" 255] }),
(42, fo (T 7) "asciiLower" "asciiLower" .none "html5lib.constants" 194 41),
(41, ob (.type "code") (.fields #[.str "asciiLower" 293, .str "asciiLower" 294, .str "/claim/cut.py" 295, .int 10 0, .int 1 0, .int 0 0, .int 0 0, .int 3 0, .ref 38, .bool true, .int 181 0, .ref 39, .none, .none, .none, .ref 40, .int 296 0, .int 10 0, .str "/claim/cut.py" 297])),
(48, { cls := .type "dict", data := .dict #[en P "Doctype" 532 (.int 0 533), en P "Characters" 534 (.int 1 535), en P "SpaceCharacters" 536 (.int 2 537), en P "StartTag" 538 (.int 3 539), en P "EndTag" 540 (.int 4 541), en P "EmptyTag" 542 (.int 5 543), en P "Comment" 544 (.int 6 545), en P "ParseError" 546 (.int 7 547)] 8 }),
(49, { cls := .type "tuple", data := .seq #[.int 3 539, .int 4 541, .int 5 543] }),
(72, { cls := .type "dict", data := .dict #[en P "__module__" 573 (.str "html5lib._inputstream" 564), en P "__firstlineno__" 577 (.int 17 576), en P "__init__" 585 (.ref 63), en P "read" 594 (.ref 70), en P "__static_attributes__" 597 (.ref 71), en P "__dict__" 599 (.ref 74), en P "__weakref__" 601 (.ref 75), en P "__doc__" 602 .none] 4 }),
(73, { cls := .type "type", data := .cls { name := "Text", bases := [.type "object"], mro := [.ref 73, .type "object"], ns := 72, qualname := "Text" }, slots := #[some (.ref 50), none, some (.str "Text" 566), some (.str "Text" 574), some (.builtin "object.__new__"), some (.bool true)] }),
(165, { cls := .type "dict", data := .dict #[en P "__module__" 619 (.str "html5lib._inputstream" 564), en P "__firstlineno__" 623 (.int 29 622), en P "_defaultChunkSize" 625 (.int 10240 624), en P "__init__" 633 (.ref 98), en P "reset" 640 (.ref 105), en P "openStream" 649 (.ref 112), en P "_position" 662 (.ref 119), en P "position" 671 (.ref 126), en P "char" 680 (.ref 133), en P "readChunk" 690 (.ref 141), en P "characterErrorsUCS4" 699 (.ref 148), en P "charsUntil" 711 (.ref 156), en P "unget" 719 (.ref 163), en P "__static_attributes__" 730 (.ref 164), en P "__dict__" 732 (.ref 167), en P "__weakref__" 734 (.ref 168), en P "__doc__" 735 .none] 4 }),
(166, { cls := .type "type", data := .cls { name := "HTMLUnicodeInputStream", bases := [.type "object"], mro := [.ref 166, .type "object"], ns := 165, qualname := "HTMLUnicodeInputStream" }, slots := #[some (.ref 85), none, some (.str "HTMLUnicodeInputStream" 612), some (.str "HTMLUnicodeInputStream" 620), some (.builtin "object.__new__"), some (.bool true)] }),
(761, { cls := .type "dict", data := .dict #[en P "__module__" 851 (.str "html5lib._tokenizer" 827), en P "__firstlineno__" 855 (.int 182 854), en P "__init__" 864 (.ref 261), en P "__iter__" 871 (.ref 268), en P "consumeNumberEntity" 886 (.ref 275), en P "consumeEntity" 901 (.ref 283), en P "processEntityInAttribute" 909 (.ref 290), en P "emitCurrentToken" 919 (.ref 297), en P "dataState" 928 (.ref 304), en P "entityDataState" 935 (.ref 311), en P "rcdataState" 942 (.ref 318), en P "characterReferenceInRcdata" 949 (.ref 325), en P "rawtextState" 956 (.ref 332), en P "scriptDataState" 965 (.ref 339), en P "plaintextState" 972 (.ref 346), en P "tagOpenState" 980 (.ref 353), en P "closeTagOpenState" 988 (.ref 360), en P "tagNameState" 996 (.ref 367), en P "rcdataLessThanSignState" 1003 (.ref 374), en P "rcdataEndTagOpenState" 1010 (.ref 381), en P "rcdataEndTagNameState" 1017 (.ref 388), en P "rawtextLessThanSignState" 1024 (.ref 395), en P "rawtextEndTagOpenState" 1031 (.ref 402), en P "rawtextEndTagNameState" 1038 (.ref 409), en P "scriptDataLessThanSignState" 1046 (.ref 416), en P "scriptDataEndTagOpenState" 1054 (.ref 423), en P "scriptDataEndTagNameState" 1063 (.ref 430), en P "scriptDataEscapeStartState" 1071 (.ref 437), en P "scriptDataEscapeStartDashState" 1079 (.ref 444), en P "scriptDataEscapedState" 1088 (.ref 451), en P "scriptDataEscapedDashState" 1096 (.ref 458), en P "scriptDataEscapedDashDashState" 1104 (.ref 465), en P "scriptDataEscapedLessThanSignState" 1112 (.ref 472), en P "scriptDataEscapedEndTagOpenState" 1120 (.ref 479), en P "scriptDataEscapedEndTagNameState" 1129 (.ref 486), en P "scriptDataDoubleEscapeStartState" 1137 (.ref 493), en P "scriptDataDoubleEscapedState" 1145 (.ref 500), en P "scriptDataDoubleEscapedDashState" 1153 (.ref 507), en P "scriptDataDoubleEscapedDashDashState" 1161 (.ref 514), en P "scriptDataDoubleEscapedLessThanSignState" 1169 (.ref 521), en P "scriptDataDoubleEscapeEndState" 1177 (.ref 528), en P "beforeAttributeNameState" 1185 (.ref 535), en P "attributeNameState" 1197 (.ref 542), en P "afterAttributeNameState" 1205 (.ref 549), en P "beforeAttributeValueState" 1213 (.ref 556), en P "attributeValueDoubleQuotedState" 1221 (.ref 563), en P "attributeValueSingleQuotedState" 1229 (.ref 570), en P "attributeValueUnQuotedState" 1237 (.ref 577), en P "afterAttributeValueState" 1245 (.ref 584), en P "selfClosingStartTagState" 1253 (.ref 591), en P "bogusCommentState" 1261 (.ref 598), en P "markupDeclarationOpenState" 1271 (.ref 605), en P "commentStartState" 1279 (.ref 612), en P "commentStartDashState" 1287 (.ref 619), en P "commentState" 1295 (.ref 626), en P "commentEndDashState" 1303 (.ref 633), en P "commentEndState" 1311 (.ref 640), en P "commentEndBangState" 1319 (.ref 647), en P "doctypeState" 1327 (.ref 654), en P "beforeDoctypeNameState" 1335 (.ref 661), en P "doctypeNameState" 1343 (.ref 668), en P "afterDoctypeNameState" 1353 (.ref 675), en P "afterDoctypePublicKeywordState" 1361 (.ref 682), en P "beforeDoctypePublicIdentifierState" 1369 (.ref 689), en P "doctypePublicIdentifierDoubleQuotedState" 1377 (.ref 696), en P "doctypePublicIdentifierSingleQuotedState" 1385 (.ref 703), en P "afterDoctypePublicIdentifierState" 1393 (.ref 710), en P "betweenDoctypePublicAndSystemIdentifiersState" 1401 (.ref 717), en P "afterDoctypeSystemKeywordState" 1409 (.ref 724), en P "beforeDoctypeSystemIdentifierState" 1417 (.ref 731), en P "doctypeSystemIdentifierDoubleQuotedState" 1425 (.ref 738), en P "doctypeSystemIdentifierSingleQuotedState" 1433 (.ref 745), en P "afterDoctypeSystemIdentifierState" 1441 (.ref 752), en P "bogusDoctypeState" 1449 (.ref 759), en P "__static_attributes__" 1459 (.ref 760), en P "__dict__" 1461 (.ref 763), en P "__weakref__" 1463 (.ref 764), en P "__doc__" 1464 .none] 4 }),
(762, { cls := .type "type", data := .cls { name := "HTMLTokenizer", bases := [.type "object"], mro := [.ref 762, .type "object"], ns := 761, qualname := "HTMLTokenizer" }, slots := #[some (.ref 247), none, some (.str "HTMLTokenizer" 844), some (.str "HTMLTokenizer" 852), some (.builtin "object.__new__"), some (.bool true)] }),
(63, fo (D 13 0) "__init__" "Text.__init__" .none "html5lib._inputstream" 564 62),
(62, ob (.type "code") (.fields #[.str "__init__" 578, .str "Text.__init__" 579, .str "/claim/cut.py" 580, .int 19 0, .int 2 0, .int 0 0, .int 0 0, .int 3 0, .ref 57, .bool true, .int 181 0, .ref 58, .none, .ref 59, .ref 60, .ref 61, .int 583 0, .int 19 0, .str "/claim/cut.py" 584])),
(70, fo (D 13 1) "read" "Text.read" .none "html5lib._inputstream" 564 69),
(69, ob (.type "code") (.fields #[.str "read" 586, .str "Text.read" 587, .str "/claim/cut.py" 588, .int 23 0, .int 2 0, .int 0 0, .int 0 0, .int 3 0, .ref 64, .bool true, .int 181 0, .ref 65, .none, .ref 66, .ref 67, .ref 68, .int 592 0, .int 23 0, .str "/claim/cut.py" 593])),
(84, fo (T 14) "_is_invalid" "_is_invalid" .none "html5lib._inputstream" 564 83),
(83, ob (.type "code") (.fields #[.str "_is_invalid" 605, .str "_is_invalid" 606, .str "/claim/cut.py" 607, .int 27 0, .int 1 0, .int 0 0, .int 0 0, .int 3 0, .ref 78, .bool true, .int 181 0, .ref 79, .none, .ref 80, .ref 81, .ref 82, .int 609 0, .int 27 0, .str "/claim/cut.py" 610])),
(98, fo (D 15 1) "__init__" "HTMLUnicodeInputStream.__init__" .none "html5lib._inputstream" 564 97),
(97, ob (.type "code") (.fields #[.str "__init__" 626, .str "HTMLUnicodeInputStream.__init__" 627, .str "/claim/cut.py" 628, .int 32 0, .int 2 0, .int 0 0, .int 0 0, .int 3 0, .ref 92, .bool true, .int 181 0, .ref 93, .none, .ref 94, .ref 95, .ref 96, .int 631 0, .int 32 0, .str "/claim/cut.py" 632])),
(105, fo (D 15 2) "reset" "HTMLUnicodeInputStream.reset" .none "html5lib._inputstream" 564 104),
(104, ob (.type "code") (.fields #[.str "reset" 634, .str "HTMLUnicodeInputStream.reset" 635, .str "/claim/cut.py" 636, .int 38 0, .int 1 0, .int 0 0, .int 0 0, .int 3 0, .ref 99, .bool true, .int 181 0, .ref 100, .none, .ref 101, .ref 102, .ref 103, .int 638 0, .int 38 0, .str "/claim/cut.py" 639])),
(112, fo (D 15 3) "openStream" "HTMLUnicodeInputStream.openStream" .none "html5lib._inputstream" 564 111),
(111, ob (.type "code") (.fields #[.str "openStream" 641, .str "HTMLUnicodeInputStream.openStream" 642, .str "/claim/cut.py" 643, .int 47 0, .int 2 0, .int 0 0, .int 0 0, .int 3 0, .ref 106, .bool true, .int 181 0, .ref 107, .none, .ref 108, .ref 109, .ref 110, .int 647 0, .int 47 0, .str "/claim/cut.py" 648])),
(119, fo (D 15 4) "_position" "HTMLUnicodeInputStream._position" .none "html5lib._inputstream" 564 118),
(118, ob (.type "code") (.fields #[.str "_position" 650, .str "HTMLUnicodeInputStream._position" 651, .str "/claim/cut.py" 652, .int 51 0, .int 2 0, .int 0 0, .int 0 0, .int 3 0, .ref 113, .bool true, .int 181 0, .ref 114, .none, .ref 115, .ref 116, .ref 117, .int 660 0, .int 51 0, .str "/claim/cut.py" 661])),
(126, fo (D 15 5) "position" "HTMLUnicodeInputStream.position" .none "html5lib._inputstream" 564 125),
(125, ob (.type "code") (.fields #[.str "position" 663, .str "HTMLUnicodeInputStream.position" 664, .str "/claim/cut.py" 665, .int 62 0, .int 1 0, .int 0 0, .int 0 0, .int 3 0, .ref 120, .bool true, .int 181 0, .ref 121, .none, .ref 122, .ref 123, .ref 124, .int 669 0, .int 62 0, .str "/claim/cut.py" 670])),
(133, fo (D 15 6) "char" "HTMLUnicodeInputStream.char" .none "html5lib._inputstream" 564 132),
(132, ob (.type "code") (.fields #[.str "char" 672, .str "HTMLUnicodeInputStream.char" 673, .str "/claim/cut.py" 674, .int 66 0, .int 1 0, .int 0 0, .int 0 0, .int 3 0, .ref 127, .bool true, .int 181 0, .ref 128, .none, .ref 129, .ref 130, .ref 131, .int 678 0, .int 66 0, .str "/claim/cut.py" 679])),
(141, fo (D 15 7) "readChunk" "HTMLUnicodeInputStream.readChunk" (.ref 134) "html5lib._inputstream" 564 140),
(140, ob (.type "code") (.fields #[.str "readChunk" 681, .str "HTMLUnicodeInputStream.readChunk" 682, .str "/claim/cut.py" 683, .int 75 0, .int 2 0, .int 0 0, .int 0 0, .int 3 0, .ref 135, .bool true, .int 181 0, .ref 136, .none, .ref 137, .ref 138, .ref 139, .int 688 0, .int 75 0, .str "/claim/cut.py" 689])),
(148, fo (D 15 8) "characterErrorsUCS4" "HTMLUnicodeInputStream.characterErrorsUCS4" .none "html5lib._inputstream" 564 147),
(147, ob (.type "code") (.fields #[.str "characterErrorsUCS4" 691, .str "HTMLUnicodeInputStream.characterErrorsUCS4" 692, .str "/claim/cut.py" 693, .int 101 0, .int 2 0, .int 0 0, .int 0 0, .int 3 0, .ref 142, .bool true, .int 181 0, .ref 143, .none, .ref 144, .ref 145, .ref 146, .int 697 0, .int 101 0, .str "/claim/cut.py" 698])),
(156, fo (D 15 9) "charsUntil" "HTMLUnicodeInputStream.charsUntil" (.ref 149) "html5lib._inputstream" 564 155),
(155, ob (.type "code") (.fields #[.str "charsUntil" 700, .str "HTMLUnicodeInputStream.charsUntil" 701, .str "/claim/cut.py" 702, .int 106 0, .int 3 0, .int 0 0, .int 0 0, .int 3 0, .ref 150, .bool true, .int 181 0, .ref 151, .none, .ref 152, .ref 153, .ref 154, .int 709 0, .int 106 0, .str "/claim/cut.py" 710])),
(163, fo (D 15 10) "unget" "HTMLUnicodeInputStream.unget" .none "html5lib._inputstream" 564 162),
(162, ob (.type "code") (.fields #[.str "unget" 712, .str "HTMLUnicodeInputStream.unget" 713, .str "/claim/cut.py" 714, .int 125 0, .int 2 0, .int 0 0, .int 0 0, .int 3 0, .ref 157, .bool true, .int 181 0, .ref 158, .none, .ref 159, .ref 160, .ref 161, .int 717 0, .int 125 0, .str "/claim/cut.py" 718])),
(261, fo (D 21 0) "__init__" "HTMLTokenizer.__init__" (.ref 254) "html5lib._tokenizer" 827 260),
(260, ob (.type "code") (.fields #[.str "__init__" 856, .str "HTMLTokenizer.__init__" 857, .str "/claim/cut.py" 858, .int 184 0, .int 3 0, .int 0 0, .int 0 0, .int 3 0, .ref 255, .bool true, .int 181 0, .ref 256, .none, .ref 257, .ref 258, .ref 259, .int 862 0, .int 184 0, .str "/claim/cut.py" 863])),
(297, fo (D 21 5) "emitCurrentToken" "HTMLTokenizer.emitCurrentToken" .none "html5lib._tokenizer" 827 296),
(296, ob (.type "code") (.fields #[.str "emitCurrentToken" 910, .str "HTMLTokenizer.emitCurrentToken" 911, .str "/claim/cut.py" 912, .int 286 0, .int 1 0, .int 0 0, .int 0 0, .int 3 0, .ref 291, .bool true, .int 181 0, .ref 292, .none, .ref 293, .ref 294, .ref 295, .int 917 0, .int 286 0, .str "/claim/cut.py" 918])),
(304, fo (D 21 6) "dataState" "HTMLTokenizer.dataState" .none "html5lib._tokenizer" 827 303),
(303, ob (.type "code") (.fields #[.str "dataState" 920, .str "HTMLTokenizer.dataState" 921, .str "/claim/cut.py" 922, .int 304 0, .int 1 0, .int 0 0, .int 0 0, .int 3 0, .ref 298, .bool true, .int 181 0, .ref 299, .none, .ref 300, .ref 301, .ref 302, .int 926 0, .int 304 0, .str "/claim/cut.py" 927])),
(339, fo (D 21 11) "scriptDataState" "HTMLTokenizer.scriptDataState" .none "html5lib._tokenizer" 827 338),
(338, ob (.type "code") (.fields #[.str "scriptDataState" 957, .str "HTMLTokenizer.scriptDataState" 958, .str "/claim/cut.py" 959, .int 336 0, .int 1 0, .int 0 0, .int 0 0, .int 3 0, .ref 333, .bool true, .int 181 0, .ref 334, .none, .ref 335, .ref 336, .ref 337, .int 963 0, .int 336 0, .str "/claim/cut.py" 964])),
(437, fo (D 21 25) "scriptDataEscapeStartState" "HTMLTokenizer.scriptDataEscapeStartState" .none "html5lib._tokenizer" 827 436),
(436, ob (.type "code") (.fields #[.str "scriptDataEscapeStartState" 1064, .str "HTMLTokenizer.scriptDataEscapeStartState" 1065, .str "/claim/cut.py" 1066, .int 477 0, .int 1 0, .int 0 0, .int 0 0, .int 3 0, .ref 431, .bool true, .int 181 0, .ref 432, .none, .ref 433, .ref 434, .ref 435, .int 1069 0, .int 477 0, .str "/claim/cut.py" 1070])),
(444, fo (D 21 26) "scriptDataEscapeStartDashState" "HTMLTokenizer.scriptDataEscapeStartDashState" .none "html5lib._tokenizer" 827 443),
(443, ob (.type "code") (.fields #[.str "scriptDataEscapeStartDashState" 1072, .str "HTMLTokenizer.scriptDataEscapeStartDashState" 1073, .str "/claim/cut.py" 1074, .int 487 0, .int 1 0, .int 0 0, .int 0 0, .int 3 0, .ref 438, .bool true, .int 181 0, .ref 439, .none, .ref 440, .ref 441, .ref 442, .int 1077 0, .int 487 0, .str "/claim/cut.py" 1078])),
(451, fo (D 21 27) "scriptDataEscapedState" "HTMLTokenizer.scriptDataEscapedState" .none "html5lib._tokenizer" 827 450),
(450, ob (.type "code") (.fields #[.str "scriptDataEscapedState" 1080, .str "HTMLTokenizer.scriptDataEscapedState" 1081, .str "/claim/cut.py" 1082, .int 497 0, .int 1 0, .int 0 0, .int 0 0, .int 3 0, .ref 445, .bool true, .int 181 0, .ref 446, .none, .ref 447, .ref 448, .ref 449, .int 1086 0, .int 497 0, .str "/claim/cut.py" 1087])),
(458, fo (D 21 28) "scriptDataEscapedDashState" "HTMLTokenizer.scriptDataEscapedDashState" .none "html5lib._tokenizer" 827 457),
(457, ob (.type "code") (.fields #[.str "scriptDataEscapedDashState" 1089, .str "HTMLTokenizer.scriptDataEscapedDashState" 1090, .str "/claim/cut.py" 1091, .int 514 0, .int 1 0, .int 0 0, .int 0 0, .int 3 0, .ref 452, .bool true, .int 181 0, .ref 453, .none, .ref 454, .ref 455, .ref 456, .int 1094 0, .int 514 0, .str "/claim/cut.py" 1095])),
(465, fo (D 21 29) "scriptDataEscapedDashDashState" "HTMLTokenizer.scriptDataEscapedDashDashState" .none "html5lib._tokenizer" 827 464),
(464, ob (.type "code") (.fields #[.str "scriptDataEscapedDashDashState" 1097, .str "HTMLTokenizer.scriptDataEscapedDashDashState" 1098, .str "/claim/cut.py" 1099, .int 532 0, .int 1 0, .int 0 0, .int 0 0, .int 3 0, .ref 459, .bool true, .int 181 0, .ref 460, .none, .ref 461, .ref 462, .ref 463, .int 1102 0, .int 532 0, .str "/claim/cut.py" 1103])),
(472, fo (D 21 30) "scriptDataEscapedLessThanSignState" "HTMLTokenizer.scriptDataEscapedLessThanSignState" .none "html5lib._tokenizer" 827 471),
(471, ob (.type "code") (.fields #[.str "scriptDataEscapedLessThanSignState" 1105, .str "HTMLTokenizer.scriptDataEscapedLessThanSignState" 1106, .str "/claim/cut.py" 1107, .int 552 0, .int 1 0, .int 0 0, .int 0 0, .int 3 0, .ref 466, .bool true, .int 181 0, .ref 467, .none, .ref 468, .ref 469, .ref 470, .int 1110 0, .int 552 0, .str "/claim/cut.py" 1111])),
(479, fo (D 21 31) "scriptDataEscapedEndTagOpenState" "HTMLTokenizer.scriptDataEscapedEndTagOpenState" .none "html5lib._tokenizer" 827 478),
(478, ob (.type "code") (.fields #[.str "scriptDataEscapedEndTagOpenState" 1113, .str "HTMLTokenizer.scriptDataEscapedEndTagOpenState" 1114, .str "/claim/cut.py" 1115, .int 567 0, .int 1 0, .int 0 0, .int 0 0, .int 3 0, .ref 473, .bool true, .int 181 0, .ref 474, .none, .ref 475, .ref 476, .ref 477, .int 1118 0, .int 567 0, .str "/claim/cut.py" 1119])),
(486, fo (D 21 32) "scriptDataEscapedEndTagNameState" "HTMLTokenizer.scriptDataEscapedEndTagNameState" .none "html5lib._tokenizer" 827 485),
(485, ob (.type "code") (.fields #[.str "scriptDataEscapedEndTagNameState" 1121, .str "HTMLTokenizer.scriptDataEscapedEndTagNameState" 1122, .str "/claim/cut.py" 1123, .int 578 0, .int 1 0, .int 0 0, .int 0 0, .int 3 0, .ref 480, .bool true, .int 181 0, .ref 481, .none, .ref 482, .ref 483, .ref 484, .int 1127 0, .int 578 0, .str "/claim/cut.py" 1128])),
(493, fo (D 21 33) "scriptDataDoubleEscapeStartState" "HTMLTokenizer.scriptDataDoubleEscapeStartState" .none "html5lib._tokenizer" 827 492),
(492, ob (.type "code") (.fields #[.str "scriptDataDoubleEscapeStartState" 1130, .str "HTMLTokenizer.scriptDataDoubleEscapeStartState" 1131, .str "/claim/cut.py" 1132, .int 599 0, .int 1 0, .int 0 0, .int 0 0, .int 3 0, .ref 487, .bool true, .int 181 0, .ref 488, .none, .ref 489, .ref 490, .ref 491, .int 1135 0, .int 599 0, .str "/claim/cut.py" 1136])),
(500, fo (D 21 34) "scriptDataDoubleEscapedState" "HTMLTokenizer.scriptDataDoubleEscapedState" .none "html5lib._tokenizer" 827 499),
(499, ob (.type "code") (.fields #[.str "scriptDataDoubleEscapedState" 1138, .str "HTMLTokenizer.scriptDataDoubleEscapedState" 1139, .str "/claim/cut.py" 1140, .int 615 0, .int 1 0, .int 0 0, .int 0 0, .int 3 0, .ref 494, .bool true, .int 181 0, .ref 495, .none, .ref 496, .ref 497, .ref 498, .int 1143 0, .int 615 0, .str "/claim/cut.py" 1144])),
(507, fo (D 21 35) "scriptDataDoubleEscapedDashState" "HTMLTokenizer.scriptDataDoubleEscapedDashState" .none "html5lib._tokenizer" 827 506),
(506, ob (.type "code") (.fields #[.str "scriptDataDoubleEscapedDashState" 1146, .str "HTMLTokenizer.scriptDataDoubleEscapedDashState" 1147, .str "/claim/cut.py" 1148, .int 633 0, .int 1 0, .int 0 0, .int 0 0, .int 3 0, .ref 501, .bool true, .int 181 0, .ref 502, .none, .ref 503, .ref 504, .ref 505, .int 1151 0, .int 633 0, .str "/claim/cut.py" 1152])),
(514, fo (D 21 36) "scriptDataDoubleEscapedDashDashState" "HTMLTokenizer.scriptDataDoubleEscapedDashDashState" .none "html5lib._tokenizer" 827 513),
(513, ob (.type "code") (.fields #[.str "scriptDataDoubleEscapedDashDashState" 1154, .str "HTMLTokenizer.scriptDataDoubleEscapedDashDashState" 1155, .str "/claim/cut.py" 1156, .int 653 0, .int 1 0, .int 0 0, .int 0 0, .int 3 0, .ref 508, .bool true, .int 181 0, .ref 509, .none, .ref 510, .ref 511, .ref 512, .int 1159 0, .int 653 0, .str "/claim/cut.py" 1160])),
(521, fo (D 21 37) "scriptDataDoubleEscapedLessThanSignState" "HTMLTokenizer.scriptDataDoubleEscapedLessThanSignState" .none "html5lib._tokenizer" 827 520),
(520, ob (.type "code") (.fields #[.str "scriptDataDoubleEscapedLessThanSignState" 1162, .str "HTMLTokenizer.scriptDataDoubleEscapedLessThanSignState" 1163, .str "/claim/cut.py" 1164, .int 675 0, .int 1 0, .int 0 0, .int 0 0, .int 3 0, .ref 515, .bool true, .int 181 0, .ref 516, .none, .ref 517, .ref 518, .ref 519, .int 1167 0, .int 675 0, .str "/claim/cut.py" 1168])),
(528, fo (D 21 38) "scriptDataDoubleEscapeEndState" "HTMLTokenizer.scriptDataDoubleEscapeEndState" .none "html5lib._tokenizer" 827 527),
(527, ob (.type "code") (.fields #[.str "scriptDataDoubleEscapeEndState" 1170, .str "HTMLTokenizer.scriptDataDoubleEscapeEndState" 1171, .str "/claim/cut.py" 1172, .int 686 0, .int 1 0, .int 0 0, .int 0 0, .int 3 0, .ref 522, .bool true, .int 181 0, .ref 523, .none, .ref 524, .ref 525, .ref 526, .int 1175 0, .int 686 0, .str "/claim/cut.py" 1176])),
(535, fo (D 21 39) "beforeAttributeNameState" "HTMLTokenizer.beforeAttributeNameState" .none "html5lib._tokenizer" 827 534),
(534, ob (.type "code") (.fields #[.str "beforeAttributeNameState" 1178, .str "HTMLTokenizer.beforeAttributeNameState" 1179, .str "/claim/cut.py" 1180, .int 702 0, .int 1 0, .int 0 0, .int 0 0, .int 3 0, .ref 529, .bool true, .int 181 0, .ref 530, .none, .ref 531, .ref 532, .ref 533, .int 1183 0, .int 702 0, .str "/claim/cut.py" 1184])),
(591, fo (D 21 47) "selfClosingStartTagState" "HTMLTokenizer.selfClosingStartTagState" .none "html5lib._tokenizer" 827 590),
(590, ob (.type "code") (.fields #[.str "selfClosingStartTagState" 1246, .str "HTMLTokenizer.selfClosingStartTagState" 1247, .str "/claim/cut.py" 1248, .int 898 0, .int 1 0, .int 0 0, .int 0 0, .int 3 0, .ref 585, .bool true, .int 181 0, .ref 586, .none, .ref 587, .ref 588, .ref 589, .int 1251 0, .int 898 0, .str "/claim/cut.py" 1252])),
(416, fo (D 21 22) "scriptDataLessThanSignState" "HTMLTokenizer.scriptDataLessThanSignState" .none "html5lib._tokenizer" 827 415),
(415, ob (.type "code") (.fields #[.str "scriptDataLessThanSignState" 1039, .str "HTMLTokenizer.scriptDataLessThanSignState" 1040, .str "/claim/cut.py" 1041, .int 431 0, .int 1 0, .int 0 0, .int 0 0, .int 3 0, .ref 410, .bool true, .int 181 0, .ref 411, .none, .ref 412, .ref 413, .ref 414, .int 1044 0, .int 431 0, .str "/claim/cut.py" 1045])),
(423, fo (D 21 23) "scriptDataEndTagOpenState" "HTMLTokenizer.scriptDataEndTagOpenState" .none "html5lib._tokenizer" 827 422),
(422, ob (.type "code") (.fields #[.str "scriptDataEndTagOpenState" 1047, .str "HTMLTokenizer.scriptDataEndTagOpenState" 1048, .str "/claim/cut.py" 1049, .int 445 0, .int 1 0, .int 0 0, .int 0 0, .int 3 0, .ref 417, .bool true, .int 181 0, .ref 418, .none, .ref 419, .ref 420, .ref 421, .int 1052 0, .int 445 0, .str "/claim/cut.py" 1053])),
(430, fo (D 21 24) "scriptDataEndTagNameState" "HTMLTokenizer.scriptDataEndTagNameState" .none "html5lib._tokenizer" 827 429),
(429, ob (.type "code") (.fields #[.str "scriptDataEndTagNameState" 1055, .str "HTMLTokenizer.scriptDataEndTagNameState" 1056, .str "/claim/cut.py" 1057, .int 456 0, .int 1 0, .int 0 0, .int 0 0, .int 3 0, .ref 424, .bool true, .int 181 0, .ref 425, .none, .ref 426, .ref 427, .ref 428, .int 1061 0, .int 456 0, .str "/claim/cut.py" 1062])),
(767, { cls := .type "list", data := .seq #[.str "<!--" 1469, .str "x" 1470, .str "<" 1471, .str "</script" 1472, .str ">" 1473, .str "-->" 1474, .str "<!" 1475, .str "-" 1476, .str "</" 1477, .str "\x00" 1478, .str "/" 1479, .str "</SCRIPT " 1480, .str "ab>c" 1481, .str "<!-" 1482, .str "</scripts>" 1483, .str " " 1484, .str "\x0d\n" 1485, .str "</b>" 1486, .str "!" 1487, .str "--" 1488, .str "\x0c" 1489, .str "é<" 1490, .str "</X/" 1491, .str "\x0d" 1492] }),
(774, fo (T 24) "_law_NAMES" "_law_NAMES" .none "law_te0032_03" 1467 773),
(773, ob (.type "code") (.fields #[.str "_law_NAMES" 1494, .str "_law_NAMES" 1495, .str "/claim/cut.py" 1496, .int 1418 0, .int 0 0, .int 0 0, .int 0 0, .int 3 0, .ref 768, .bool true, .int 181 0, .ref 769, .none, .ref 770, .ref 771, .ref 772, .int 1497 0, .int 1418 0, .str "/claim/cut.py" 1498])),
(781, fo (T 25) "_law_STOPS" "_law_STOPS" .none "law_te0032_03" 1467 780),
(780, ob (.type "code") (.fields #[.str "_law_STOPS" 1500, .str "_law_STOPS" 1501, .str "/claim/cut.py" 1502, .int 1420 0, .int 0 0, .int 0 0, .int 0 0, .int 3 0, .ref 775, .bool true, .int 181 0, .ref 776, .none, .ref 777, .ref 778, .ref 779, .int 1503 0, .int 1420 0, .str "/claim/cut.py" 1504])),
(788, fo (T 27) "_law_call" "_law_call" .none "law_te0032_03" 1467 787),
(787, ob (.type "code") (.fields #[.str "_law_call" 1508, .str "_law_call" 1509, .str "/claim/cut.py" 1510, .int 1423 0, .int 3 0, .int 0 0, .int 0 0, .int 3 0, .ref 782, .bool true, .int 181 0, .ref 783, .none, .ref 784, .ref 785, .ref 786, .int 1514 0, .int 1423 0, .str "/claim/cut.py" 1515])),
(795, fo (T 28) "_law_tag" "_law_tag" .none "law_te0032_03" 1467 794),
(794, ob (.type "code") (.fields #[.str "_law_tag" 1517, .str "_law_tag" 1518, .str "/claim/cut.py" 1519, .int 1437 0, .int 2 0, .int 0 0, .int 0 0, .int 3 0, .ref 789, .bool true, .int 181 0, .ref 790, .none, .ref 791, .ref 792, .ref 793, .int 1522 0, .int 1437 0, .str "/claim/cut.py" 1523])),
(802, fo (T 29) "_law_say" "_law_say" .none "law_te0032_03" 1467 801),
(801, ob (.type "code") (.fields #[.str "_law_say" 1525, .str "_law_say" 1526, .str "/claim/cut.py" 1527, .int 1439 0, .int 1 0, .int 0 0, .int 0 0, .int 3 0, .ref 796, .bool true, .int 181 0, .ref 797, .none, .ref 798, .ref 799, .ref 800, .int 1529 0, .int 1439 0, .str "/claim/cut.py" 1530])),
(809, fo (T 30) "_law_plan" "_law_plan" .none "law_te0032_03" 1467 808),
(808, ob (.type "code") (.fields #[.str "_law_plan" 1532, .str "_law_plan" 1533, .str "/claim/cut.py" 1534, .int 1443 0, .int 2 0, .int 0 0, .int 0 0, .int 3 0, .ref 803, .bool true, .int 181 0, .ref 804, .none, .ref 805, .ref 806, .ref 807, .int 1545 0, .int 1443 0, .str "/claim/cut.py" 1546])),
(814, fo (T 31) "law" "law" .none "law_te0032_03" 1467 813),
(813, ob (.type "code") (.fields #[.str "law" 1548, .str "law" 1549, .str "/claim/cut.py" 1550, .int 1492 0, .int 1 0, .int 0 0, .int 0 0, .int 3 0, .ref 810, .bool true, .int 181 0, .ref 811, .none, .none, .none, .ref 812, .int 1551 0, .int 1492 0, .str "/claim/cut.py" 1552])),
(134, { cls := .type "tuple", data := .seq #[.none] }),
(149, { cls := .type "tuple", data := .seq #[.bool false] }),
(254, { cls := .type "tuple", data := .seq #[.none] })]
end

structure Cz where
  prog : Program
  w : World
  T : Heap
  p : Program
  loose : List Str
  mg : Str → Option Value
  mb : Str → Option Value
  X : (KP w.params).In T
  R : TopRead p loose mg mb T
noncomputable def Cz.cx (z : Cz) : Cx := ⟨z.prog, z.w, KP z.w.params, z.T, z.p, z.loose, z.mg, z.mb, z.X, z.R⟩
theorem Cz.of {X : Cx} (h : X.K = KP X.w.params) : ∃ z : Cz, z.cx = X := by
  obtain ⟨a, b, K, d, e, f, g, i, j, k⟩ := X
  have h : K = KP b.params := h
  subst h
  exact ⟨⟨a, b, d, e, f, g, i, j, k⟩, rfl⟩
noncomputable def fokB (K : Frag) (C : Addr) (nm : Str) : Bool := plainGet K C nm && hasDictIn K C && (match findIn K (.ref C) nm with | some x => noGet K x | none => false)
theorem fok {K : Frag} {C : Addr} {nm : Str} (h : fokB K C nm = true) : FieldOk K C nm := by
  unfold fokB at h
  simp only [Bool.and_eq_true] at h
  refine ⟨h.1.1, h.1.2, ?_⟩
  cases q : findIn K (.ref C) nm with
  | none => rw [q] at h; cases h.2
  | some x => rw [q] at h; exact ⟨x, rfl, h.2⟩
noncomputable def isB (v : Option (Option Value)) (s : String) : Bool := match v with | some (some (.builtin x)) => x == s | _ => false
theorem isB_eq {v : Option (Option Value)} {s : String} (h : isB v s = true) : v = some (some (.builtin s)) := by
  unfold isB at h
  split at h
  · rw [eq_of_beq h]
  · cases h
noncomputable def sokB (K : Frag) (C : Addr) (nm : Str) : Bool := isB (findIn K (.ref C) "__setattr__") "object.__setattr__" && plainOver K C && (match takerIn K C nm with | some none => true | _ => false) && hasDictIn K C
theorem sok {K : Frag} {C : Addr} {nm : Str} (h : sokB K C nm = true) : StoreOk K C nm := by
  unfold sokB at h
  simp only [Bool.and_eq_true] at h
  obtain ⟨⟨⟨a, b⟩, c⟩, d⟩ := h
  refine ⟨isB_eq a, b, ?_, d⟩
  split at c
  · assumption
  · cases c
noncomputable def mokB (K : Frag) (C : Addr) (nm : Str) (g : Addr) : Bool := plainGet K C nm && hasDictIn K C && (match findIn K (.ref C) nm with | some (some (.ref x)) => x == g | _ => false) && isFn K (.ref g)
  && isB (specialIn K (.ref g) "__get__") "function.__get__" && (match takesIn K (.ref g) with | some false => true | _ => false) && !copiedNames.contains nm
theorem mok {K : Frag} {C : Addr} {nm : Str} {g : Addr} (h : mokB K C nm g = true) : MethOk K C nm g := by
  unfold mokB at h
  simp only [Bool.and_eq_true] at h
  obtain ⟨⟨⟨⟨⟨⟨a, b⟩, c⟩, d⟩, e⟩, f⟩, k⟩ := h
  refine ⟨a, b, ?_, d, isB_eq e, ?_, by simpa using k⟩
  · split at c
    · rename_i q; rw [q, eq_of_beq c]
    · cases c
  · split at f
    · assumption
    · cases f
theorem el2 {α β : Type} {G : α → β → Prop} {a : α} {b : β} (h : G a b) : ∀ v m, v = a ∧ m = b → G v m := by rintro _ _ ⟨rfl, rfl⟩; exact h
theorem el1 {α β : Type} {G R : α → β → Prop} {a : α} (h : ∀ m, R a m → G a m) : ∀ v m, v = a ∧ R v m → G v m := by rintro _ m ⟨rfl, r⟩; exact h m r

theorem pySl_nat {α : Type} (l : List α) (a b : Nat) : pySl l (some (a : Int)) (some (b : Int)) = (l.take b).drop a := by
  unfold pySl clipI
  have h1 : ¬ ((a : Int) < 0) := by (lia)
  have h2 : ¬ ((b : Int) < 0) := by (lia)
  simp only [h1, h2, if_false, Int.toNat_natCast]
  by_cases hb : b ≤ l.length
  · rw [Nat.min_eq_left hb]
    by_cases ha : a ≤ l.length
    · rw [Nat.min_eq_left ha]
    · rw [Nat.min_eq_right (Nat.le_of_not_le ha), List.drop_eq_nil_of_le (by simp; (lia)), List.drop_eq_nil_of_le (by simp; (lia))]
  · rw [Nat.min_eq_right (Nat.le_of_not_le hb), List.take_length, List.take_of_length_le (Nat.le_of_not_le hb)]
    by_cases ha : a ≤ l.length
    · rw [Nat.min_eq_left ha]
    · rw [Nat.min_eq_right (Nat.le_of_not_le ha), List.drop_eq_nil_of_le (Nat.le_refl _), List.drop_eq_nil_of_le (Nat.le_of_not_le ha)]
theorem pySl_from {α : Type} (l : List α) (a : Nat) : pySl l (some (a : Int)) none = l.drop a := by
  unfold pySl clipI
  have h2 : ¬ ((a : Int) < 0) := by (lia)
  simp only [h2, if_false, Int.toNat_natCast, List.take_length]
  by_cases ha : a ≤ l.length
  · rw [Nat.min_eq_left ha]
  · rw [Nat.min_eq_right (Nat.le_of_not_le ha), List.drop_eq_nil_of_le (Nat.le_refl _), List.drop_eq_nil_of_le (Nat.le_of_not_le ha)]
theorem pySl_upto {α : Type} (l : List α) (b : Nat) : pySl l none (some (b : Int)) = l.take b := by
  have := pySl_nat l 0 b
  unfold pySl clipI at this ⊢
  simpa using this

structure G where
  S : Addr
  X : Addr
  E : Addr
  Q : Addr
  N : Addr
  txt : List Nat
noncomputable def bv (b : List Nat) : Value := match b with | [] => .none | b => .str (mkS b) 0
noncomputable def stT (g : G) (c : List Nat) (co : Nat) (pl pc : Nat) (b : List Nat) : List (Str × Value) :=
  [("reportCharacterErrors", .ref g.Q), ("newLines", .ref g.N), ("dataStream", .ref g.X), ("chunk", .str (mkS c) 0), ("chunkSize", .int c.length 0), ("chunkOffset", .int co 0), ("errors", .ref g.E),
   ("prevNumLines", .int pl 0), ("prevNumCols", .int pc 0), ("_bufferedCharacter", bv b)]
theorem stNo {g : G} {c : List Nat} {co pl pc : Nat} {b : List Nat} {x : Str} (h : (["reportCharacterErrors", "newLines", "dataStream", "chunk", "chunkSize", "chunkOffset", "errors", "prevNumLines", "prevNumCols", "_bufferedCharacter"] : List Str).all (fun y => (x == y) == false) = true) : tblF (stT g c co pl pc b) x = none := by
  simp only [List.all_cons, List.all_nil, Bool.and_true, Bool.and_eq_true, beq_iff_eq] at h
  obtain ⟨h0, h1, h2, h3, h4, h5, h6, h7, h8, h9⟩ := h
  exact tS (tS (tS (tS (tS (tS (tS (tS (tS (tS tN h9) h8) h7) h6) h5) h4) h3) h2) h1) h0
theorem sgf3 {g : G} {c : List Nat} {co pl pc : Nat} {b : List Nat} : tblF (stT g c co pl pc b) "chunk" = some (.str (mkS c) 0) := tS (tS (tS (tH)))
theorem sgf4 {g : G} {c : List Nat} {co pl pc : Nat} {b : List Nat} : tblF (stT g c co pl pc b) "chunkSize" = some (.int c.length 0) := tS (tS (tS (tS (tH))))
theorem sgf5 {g : G} {c : List Nat} {co pl pc : Nat} {b : List Nat} : tblF (stT g c co pl pc b) "chunkOffset" = some (.int co 0) := tS (tS (tS (tS (tS (tH)))))
theorem sgf7 {g : G} {c : List Nat} {co pl pc : Nat} {b : List Nat} : tblF (stT g c co pl pc b) "prevNumLines" = some (.int pl 0) := tS (tS (tS (tS (tS (tS (tS (tH)))))))
theorem sgf8 {g : G} {c : List Nat} {co pl pc : Nat} {b : List Nat} : tblF (stT g c co pl pc b) "prevNumCols" = some (.int pc 0) := tS (tS (tS (tS (tS (tS (tS (tS (tH))))))))
structure St (M : Mem) (g : G) (pre c : List Nat) (co : Nat) (b : List Nat) (p : Nat) : Prop where
  hS : M g.S = some (.inst 166 10 (tblF (stT g c co (pre.count 10) (trail pre) b)))
  hX : M g.X = some (.inst 73 2 (tblF [("text", .str (mkS g.txt) 0), ("place", .int p 0)]))
  hE : ∃ es, M g.E = some (.lst es) ∧ es.length + b.length ≤ p
  hQ : M g.Q = some (.obj (methodObj (.ref 148) (.ref g.S)))
  hW : mend g.txt = pre ++ c ++ mend (b ++ g.txt.drop p)
  hco : co ≤ c.length
  hb : b = [] ∨ b = [13]
  hp : p ≤ g.txt.length
  len : g.txt.length ≤ 100000
  small : ∀ x ∈ g.txt, x < 55296
noncomputable def Mid (M m : Mem) (g : G) (pl pc : Nat) (b : List Nat) (p : Nat) (es : List Value) : Prop :=
  m g.S = some (.inst 166 10 (tblF (stT g [] 0 pl pc b))) ∧ m g.X = some (.inst 73 2 (tblF [("text", .str (mkS g.txt) 0), ("place", .int p 0)])) ∧ m g.E = some (.lst es) ∧ m g.Q = some (.obj (methodObj (.ref 148) (.ref g.S))) ∧
  ∀ a o, a ≠ g.S → a ≠ g.X → a ≠ g.E → M a = some o → m a = some o
noncomputable def Kp (g : G) (M M' : Mem) : Prop := ∀ a o, a ≠ g.S → a ≠ g.X → a ≠ g.E → M a = some o → M' a = some o
theorem Kp.refl (g : G) (M : Mem) : Kp g M M := fun _ _ _ _ _ e => e
theorem Kp.trans {g : G} {a b c : Mem} (x : Kp g a b) (y : Kp g b c) : Kp g a c := fun d o h1 h2 h3 e => y d o h1 h2 h3 (x d o h1 h2 h3 e)

theorem pySl_m1 {α : Type} (l : List α) : pySl l none (some (-1)) = l.dropLast := by
  unfold pySl clipI
  simp only [show ((-1 : Int) < 0) = True by simp, if_true, List.drop_zero]
  rw [List.dropLast_eq_take]
  congr 1
  (lia)
theorem EV_rep {X : Cx} {n : Nat} {fz : Frz} {L : Addr} {loc : Loc} {M : Mem} {env : Env} {Q : QV} {ob : PySem.Expr} {apos pos p1 p2 : Pos} {k1 k2 : Nat} {y z : Str} {pl : Sem Bool} (p q : List Nat) (hy : y = mkS p) (hz : z = mkS q) (hp : p ≠ []) (hpq : p ≠ q) (hq : q.length ≤ 4)
    (h : EV X n fz L env ob (fun v l m => ∃ t, v = .str (mkS t) 0 ∧ t.length ≤ 1000000 ∧ Q (.str (mkS (repL p q t.length t)) 0) l m) loc M)
    (he : eval (.Call (.Attribute ob "replace" apos) [.Constant (.str y) k1 p1, .Constant (.str z) k2 p2] [] pos) env = (do
      let ov ← eval ob env
      standAt apos.atName
      let (f, first) ← holding [ov] (getMethod ov "replace" pl)
      callWith pos f first (backTo pos (starEach [.Constant (.str y) k1 p1, .Constant (.str z) k2 p2] env)) []) := by rfl) :
    EV X n fz L env (.Call (.Attribute ob "replace" apos) [.Constant (.str y) k1 p1, .Constant (.str z) k2 p2] [] pos) Q loc M := by
  subst hy hz
  refine EV_replace (pl := pl) (by rw [mkS_beq]; simpa using hpq) (WT.mono h ?_) he
  rintro v l m ⟨t, e, hl, hQ⟩
  refine ⟨mkS t, e, ?_, ?_⟩
  · rw [mkS_length, mkS_length]
    have : (t.length + 1) * q.length ≤ 1000001 * 4 := Nat.mul_le_mul (by (exact Nat.lt_of_le_of_lt (by assumption) (by decide))) hq
    (lia)
  · rw [replace_mkS p q t hp]; exact hQ
theorem repL_le (p z : List Nat) (h : z.length ≤ p.length) : ∀ (k : Nat) (l : List Nat), (repL p z k l).length ≤ l.length := by
  intro k
  induction k with
  | zero => intro l; exact Nat.le_refl _
  | succ k ih =>
    intro l
    cases l with
    | nil => exact Nat.le_refl _
    | cons c r =>
      rw [repL]
      split
      · rename_i hp
        have := hp.length_le
        have h2 := ih ((c :: r).drop p.length)
        simp only [List.length_append, List.length_cons, List.length_drop] at h2 this ⊢
        (omega)
      · simp only [List.length_cons]
        have := ih r
        (lia)
theorem mended2 (l : List Nat) : repL [13] [10] (repL [13, 10] [10] l.length l).length (repL [13, 10] [10] l.length l) = mend l := by
  rw [repL_fuel [13] [10] (by simp) _ l.length _ (Nat.le_refl _) (repL_le _ _ (by simp) _ _), rep_mend l.length l (Nat.le_refl _)]
theorem chunk_law {txt b : List Nat} {p k : Nat} (hk : 2 ≤ k) (hb : b = [] ∨ b = [13]) (hp : p ≤ txt.length) :
    let part := (txt.take (p + k)).drop p
    let d := b ++ part
    b ++ txt.drop p = d ++ txt.drop (p + part.length) ∧ p + part.length ≤ txt.length ∧ (d = [] → txt.drop p = []) ∧
    (1 < d.length → d.getLast? = some 13 → mend (b ++ txt.drop p) = mend d.dropLast ++ mend ([13] ++ txt.drop (p + part.length))) ∧
    (¬ (1 < d.length ∧ d.getLast? = some 13) → mend (b ++ txt.drop p) = mend d ++ mend ([] ++ txt.drop (p + part.length))) := by
  intro part d
  have hpart : part = (txt.drop p).take k := by
    show (txt.take (p + k)).drop p = _
    rw [List.drop_take]; congr 1; (lia)
  have hlen : part.length = min k (txt.length - p) := by rw [hpart]; simp
  have hsplit : txt.drop p = part ++ txt.drop (p + part.length) := by
    rw [hlen, hpart, ← List.drop_drop]
    conv => lhs; rw [← List.take_append_drop k (txt.drop p)]
    congr 1
    by_cases h : k ≤ txt.length - p
    · rw [Nat.min_eq_left h]
    · rw [Nat.min_eq_right (by (lia)), List.drop_eq_nil_of_le (by simp; (lia)), List.drop_eq_nil_of_le (by simp)]
  have hall : b ++ txt.drop p = d ++ txt.drop (p + part.length) := by
    show _ = (b ++ part) ++ _
    rw [List.append_assoc, ← hsplit]
  refine ⟨hall, by (clear hall hsplit hpart hb hk; lia), fun h => ?_, fun h1 h2 => ?_, fun h => ?_⟩
  · have h' := List.append_eq_nil_iff.mp h
    have : part.length = 0 := by rw [h'.2]; rfl
    exact List.drop_eq_nil_of_le (by (lia))
  · rw [hall]
    have hd : d = d.dropLast ++ [13] := by
      obtain ⟨ys, hy⟩ := List.getLast?_eq_some_iff.mp h2
      rw [hy]; simp
    conv => lhs; rw [hd]
    rw [List.append_assoc, mend_append _ _ (by simp)]
  · rw [hall, List.nil_append]
    refine mend_append _ _ fun h2 h3 => ?_
    have hd : ¬ 1 < d.length := fun h1 => h ⟨h1, h2⟩
    have hdl : d.length = b.length + part.length := List.length_append
    have hnil : txt.drop (p + part.length) = [] := by
      have : 0 < d.length := by
        rcases Nat.eq_zero_or_pos d.length with z | z
        · rw [List.length_eq_zero_iff.mp z] at h2; cases h2
        · exact z
      exact List.drop_eq_nil_of_le (by (lia))
    rw [hnil] at h3; cases h3

section
variable {Z : Cz} {P : Params}
theorem c_read {n : Nat} {M : Mem} {a : Addr} {txt part : List Nat} {p k : Nat} (hpt : (txt.take (p + k)).drop p = part) (hM : M a = some (.inst 73 2 (tblF [("text", .str (mkS txt) 0), ("place", .int p 0)]))) (hl : txt.length ≤ 16777216) :
    CL Z.cx (n + 1) (.ref 70) [.ref a, .int k 0] (fun v m => v = .str (mkS part) 0 ∧ m = setM M a (.inst 73 2 (tblF [("text", .str (mkS txt) 0), ("place", .int (p + part.length : Nat) 0)]))) M := by
  subst hpt
  refine CL_fn (binds := [("self", .ref a), ("size", .int k 0)]) (by rfl) (by kernel_rfl) ?_ (by kernel_rfl) ?_
  · intro vs e
    obtain ⟨v1, v2, rfl, e1, e2⟩ := vs2 e
    exact ⟨[("self", v1), ("size", v2)], fun s hx => kp_binds hx (fun S => rfl), by simp [e1, e2]⟩
  · intro fz L env hE he; subst he
    rw [bindL2]
    (refine EX_cons ?_; refine E1_AssignName ?_ rfl; refine EV_slice_str ?_; refine EVaf hE (by kernel_rfl) (sS sH) hM tH (fok (by kernel_rfl)) ?_; (with_reducible first | refine exr ?_ | refine ⟨_, rfl, ?_⟩))
    refine ⟨hl, ?_⟩
    (refine PT_some ?_; refine EVaf hE (by kernel_rfl) (sS sH) hM (tS tH) (fok (by kernel_rfl)) ?_; (with_reducible first | refine exr ?_ | refine ⟨_, rfl, ?_⟩); refine PT_some ?_; refine EV_binop ?_; refine EVaf hE (by kernel_rfl) (sS sH) hM (tS tH) (fok (by kernel_rfl)) ?_; refine EV_local hE (by kernel_rfl) sH ?_; (with_reducible refine O2_add_int ?_); (with_reducible first | refine exr ?_ | refine ⟨_, rfl, ?_⟩); refine STn hE (by kernel_rfl) ?_; refine EX_cons ?_; refine E1_AugAttr ?_; refine EV_local hE (by kernel_rfl) (sS (sS sH)) ?_; refine GA_field hM (tS tH) (fok (by kernel_rfl)) ?_; refine EV_ncall ?_; refine EV_builtinF (id := "len") hE (by kernel_rfl) (by kernel_rfl) (by kernel_rfl) ?_; refine CW_go0 (KeepOk.bf _) ?_; refine AR_cons ?_; refine EV_local hE (by kernel_rfl) sH ?_; refine AR_nil ?_; (with_reducible refine CA_len_str ?_ ?_); rotate_left; (with_reducible refine O2_iadd_int ?_); refine SA_tbl hM (sok (by kernel_rfl)) (.inl ⟨(by kernel_rfl), rfl⟩) (by decide) (pS pH) ?_; refine seq_next ?_; refine EX_cons ?_; refine E1_Return ?_; refine EV_local hE (by kernel_rfl) sH ?_; refine seq_ret ?_; rotate_left)
    · have e : ((p : Int) + k) = ((p + k : Nat) : Int) := by (lia)
      rw [e, pySl_nat]
      simp; (lia)
    · have e : ((p : Int) + k) = ((p + k : Nat) : Int) := by (lia)
      rw [e, pySl_nat]
      refine ⟨rfl, ?_⟩
      have e2 : ((p : Int) + ((List.drop p (List.take (p + k) txt)).length : Int)) = ((p + (List.drop p (List.take (p + k) txt)).length : Nat) : Int) := by (lia)
      rw [e2]

theorem c__position {n : Nat} {M : Mem} {g : G} {c : List Nat} {co pl pc : Nat} {b : List Nat} {off : Nat} (hS : M g.S = some (.inst 166 10 (tblF (stT g c co pl pc b)))) (hoff : off ≤ c.length) :
    CL Z.cx (n + 1) (.ref 119) [.ref g.S, .int off 0] (fun v m => ∃ D, M D = none ∧ v = .ref D ∧ m = setM M D (.tup [.int (pl + (c.take off).count 10 : Nat) 0, .int (if 10 ∈ c.take off then trail (c.take off) else pc + off : Nat) 0])) M := by
  refine CL_fn (binds := [("self", .ref g.S), ("offset", .int off 0)]) (by rfl) (by kernel_rfl) ?_ (by kernel_rfl) ?_
  · intro vs e
    obtain ⟨v1, v2, rfl, e1, e2⟩ := vs2 e
    exact ⟨[("self", v1), ("offset", v2)], fun s hx => kp_binds hx (fun S => rfl), by simp [e1, e2]⟩
  · intro fz L env hE he; subst he
    rw [bindL2]
    unfold stT at hS
    (refine EX_cons ?_; refine E1_AssignName ?_ rfl; refine EVaf hE (by kernel_rfl) (sS sH) hS sgf3 (fok (by kernel_rfl)) ?_; refine STn hE (by kernel_rfl) ?_; refine EX_cons ?_; refine E1_AssignName ?_ rfl; refine EV_mcall ?_; refine EV_local hE (by kernel_rfl) sH ?_; (with_reducible refine GM_count ?_); refine CW_go1 (KeepOk.bf _) ?_; refine AR_cons ?_; refine EV_str (l := [10]) (by kernel_rfl) ?_; refine AR_cons ?_; refine EV_int ?_; refine AR_cons ?_; refine EV_local hE (by kernel_rfl) (sS sH) ?_; refine AR_nil ?_; (with_reducible refine CA_count4 ?_); refine STn hE (by kernel_rfl) ?_; refine EX_cons ?_; refine E1_AssignName ?_ rfl; refine EV_binop ?_; refine EVaf hE (by kernel_rfl) (sS (sS (sS sH))) hS sgf7 (fok (by kernel_rfl)) ?_; refine EV_local hE (by kernel_rfl) sH ?_; (with_reducible refine O2_add_int ?_); refine STn hE (by kernel_rfl) ?_; refine EX_cons ?_; refine E1_AssignName ?_ rfl; refine EV_mcall ?_; refine EV_local hE (by kernel_rfl) (sS (sS sH)) ?_; (with_reducible refine GM_rfind ?_); refine CW_go1 (KeepOk.bf _) ?_; refine AR_cons ?_; refine EV_str (l := [10]) (by kernel_rfl) ?_; refine AR_cons ?_; refine EV_int ?_; refine AR_cons ?_; refine EV_local hE (by kernel_rfl) (sS (sS (sS sH))) ?_; refine AR_nil ?_; (with_reducible refine CA_rfind4 ?_); refine STn hE (by kernel_rfl) ?_; refine IFc hE (by kernel_rfl) sH ?_; refine EV_unop ?_; refine EV_int ?_; (with_reducible refine O1_neg_int ?_); (with_reducible refine O2_eq_int ?_); (with_reducible refine TR_bool ?_))
    rw [last_mkS c off hoff, count_mkS c 10 off hoff]
    refine ⟨fun h => ?_, fun h => ?_⟩
    · (refine EX_cons ?_; refine E1_AssignName ?_ rfl; refine EV_binop ?_; refine EVaf hE (by kernel_rfl) (sS (sS (sS (sS (sS sH))))) hS sgf8 (fok (by kernel_rfl)) ?_; refine EV_local hE (by kernel_rfl) (sS (sS (sS (sS sH)))) ?_; (with_reducible refine O2_add_int ?_); refine STn hE (by kernel_rfl) ?_; refine EXn ?_; refine EX_cons ?_; refine E1_Return ?_; refine EV_tuple ?_; refine AR_cons ?_; refine EV_local hE (by kernel_rfl) (sS (sS sH)) ?_; refine AR_cons ?_; refine EV_local hE (by kernel_rfl) sH ?_; refine AR_nil ?_)
      have hn : 10 ∉ c.take off := fun hm => by
        rw [if_pos hm] at h
        have := of_decide_eq_true h
        have h2 := trail_lt (c.take off) hm
        have h3 := List.length_take_le off c
        (clear hm h hE hoff hS; lia)
      refine ⟨by simp, fun D hD => ?_⟩
      refine seq_ret ?_
      refine ⟨D, hD, rfl, ?_⟩
      rw [if_neg hn]
      simp
    · (refine EX_cons ?_; refine E1_AssignName ?_ rfl; refine EV_binop ?_; refine EV_local hE (by kernel_rfl) (sS (sS (sS (sS sH)))) ?_; refine EV_binop ?_; refine EV_local hE (by kernel_rfl) sH ?_; refine EV_int ?_; (with_reducible refine O2_add_int ?_); (with_reducible refine O2_sub_int ?_); refine STn hE (by kernel_rfl) ?_; refine EXn ?_; refine EX_cons ?_; refine E1_Return ?_; refine EV_tuple ?_; refine AR_cons ?_; refine EV_local hE (by kernel_rfl) (sS (sS sH)) ?_; refine AR_cons ?_; refine EV_local hE (by kernel_rfl) sH ?_; refine AR_nil ?_)
      have hn : 10 ∈ c.take off := by
        refine Decidable.byContradiction fun hm => ?_
        rw [if_neg hm] at h
        simp at h
      refine ⟨by simp, fun D hD => ?_⟩
      refine seq_ret ?_
      refine ⟨D, hD, rfl, ?_⟩
      rw [if_pos hn, if_pos hn]
      have e : ((off : Int) - ((off : Int) - 1 - (trail (c.take off) : Int) + 1)) = (trail (c.take off) : Int) := by (lia)
      rw [e]
      simp

theorem c_invalid {n : Nat} {M : Mem} {c : Nat} : CL Z.cx (n + 1) (.ref 84) [.int c 0] (fun v m => (∃ b, v = .bool b) ∧ ∀ a o, M a = some o → m a = some o) M := by
  refine CL_fn (binds := [("codepoint", .int c 0)]) (by rfl) (by kernel_rfl) ?_ (by kernel_rfl) ?_
  · intro vs e
    obtain ⟨v1, rfl, e1⟩ := vs1 e
    exact ⟨[("codepoint", v1)], fun s hx => kp_binds hx (fun S => rfl), by simp [e1]⟩
  · intro fz L env hE he; subst he
    rw [bindL1]
    have fin : ∀ (b : Bool) (m : Mem), (∀ a o, M a = some o → m a = some o) → (∃ b', retOf (.ret (.bool b)) = .bool b') ∧ ∀ a o, M a = some o → m a = some o := fun b m h => ⟨⟨b, rfl⟩, h⟩
    (refine EX_cons ?_; refine E1_Return ?_; refine EV_orN ?_; refine EV_chain2 ?_; refine EV_int ?_; refine EV_local hE (by kernel_rfl) sH ?_; (with_reducible refine O2_le_int ?_); (with_reducible refine TR_bool ?_); (refine And.intro ?_ ?_ <;> intro hb <;> try (cases hb; done)); refine EV_int ?_; (with_reducible refine O2_le_int ?_); (with_reducible refine TR_bool ?_); (refine And.intro ?_ ?_ <;> intro hb <;> try (cases hb; done)); refine seq_ret ?_; rotate_left; refine EV_orN ?_; refine EV_compare ?_; refine EV_local hE (by kernel_rfl) sH ?_; refine EV_int ?_; (with_reducible refine O2_eq_int ?_); (with_reducible refine TR_bool ?_); (refine And.intro ?_ ?_ <;> intro hb <;> try (cases hb; done)); refine seq_ret ?_; rotate_left; refine EV_orN ?_; refine EV_chain2 ?_; refine EV_int ?_; refine EV_local hE (by kernel_rfl) sH ?_; (with_reducible refine O2_le_int ?_); (with_reducible refine TR_bool ?_); (refine And.intro ?_ ?_ <;> intro hb <;> try (cases hb; done)); refine EV_int ?_; (with_reducible refine O2_le_int ?_); (with_reducible refine TR_bool ?_); (refine And.intro ?_ ?_ <;> intro hb <;> try (cases hb; done)); refine seq_ret ?_; rotate_left; refine EV_orN ?_; refine EV_chain2 ?_; refine EV_int ?_; refine EV_local hE (by kernel_rfl) sH ?_; (with_reducible refine O2_le_int ?_); (with_reducible refine TR_bool ?_); (refine And.intro ?_ ?_ <;> intro hb <;> try (cases hb; done)); refine EV_int ?_; (with_reducible refine O2_le_int ?_); (with_reducible refine TR_bool ?_); (refine And.intro ?_ ?_ <;> intro hb <;> try (cases hb; done)); refine seq_ret ?_; rotate_left; refine EV_orN ?_; refine EV_chain2 ?_; refine EV_int ?_; refine EV_local hE (by kernel_rfl) sH ?_; (with_reducible refine O2_le_int ?_); (with_reducible refine TR_bool ?_); (refine And.intro ?_ ?_ <;> intro hb <;> try (cases hb; done)); refine EV_int ?_; (with_reducible refine O2_le_int ?_); (with_reducible refine TR_bool ?_); (refine And.intro ?_ ?_ <;> intro hb <;> try (cases hb; done)); refine seq_ret ?_; rotate_left; refine EV_orN ?_; refine EV_compare ?_; refine EV_binop ?_; refine EV_local hE (by kernel_rfl) sH ?_; refine EV_int ?_; refine O2_mod_int (by decide) ?_; refine EV_tuple ?_; refine AR_cons ?_; refine EV_int ?_; refine AR_cons ?_; refine EV_int ?_; refine AR_nil ?_; rotate_left; (with_reducible refine TR_bool ?_); (refine And.intro ?_ ?_ <;> intro hb <;> try (cases hb; done)); refine seq_ret ?_; rotate_left; refine EV_orN ?_; refine EV_compare ?_; refine EV_binop ?_; refine EV_local hE (by kernel_rfl) sH ?_; refine EV_int ?_; refine O2_mod_int (by decide) ?_; refine EV_tuple ?_; refine AR_cons ?_; refine EV_int ?_; refine AR_cons ?_; refine EV_int ?_; refine AR_nil ?_; rotate_left; (with_reducible refine TR_bool ?_); (refine And.intro ?_ ?_ <;> intro hb <;> try (cases hb; done)); refine seq_ret ?_; rotate_left; refine EV_orN ?_; refine EV_chain2 ?_; refine EV_int ?_; refine EV_local hE (by kernel_rfl) sH ?_; (with_reducible refine O2_le_int ?_); (with_reducible refine TR_bool ?_); (refine And.intro ?_ ?_ <;> intro hb <;> try (cases hb; done)); refine EV_int ?_; (with_reducible refine O2_le_int ?_); (with_reducible refine TR_bool ?_); (refine And.intro ?_ ?_ <;> intro hb <;> try (cases hb; done)); refine seq_ret ?_; rotate_left; refine EV_orN ?_; refine EV_compare ?_; refine EV_binop ?_; refine EV_local hE (by kernel_rfl) sH ?_; refine EV_int ?_; refine O2_mod_int (by decide) ?_; refine EV_tuple ?_; refine AR_cons ?_; refine EV_int ?_; refine AR_cons ?_; refine EV_int ?_; refine AR_nil ?_; rotate_left; (with_reducible refine TR_bool ?_); (refine And.intro ?_ ?_ <;> intro hb <;> try (cases hb; done)); refine seq_ret ?_; rotate_left; refine EV_orN ?_; refine EV_compare ?_; refine EV_binop ?_; refine EV_local hE (by kernel_rfl) sH ?_; refine EV_int ?_; refine O2_mod_int (by decide) ?_; refine EV_tuple ?_; refine AR_cons ?_; refine EV_int ?_; refine AR_cons ?_; refine EV_int ?_; refine AR_nil ?_; rotate_left; (with_reducible refine TR_bool ?_); (refine And.intro ?_ ?_ <;> intro hb <;> try (cases hb; done)); refine seq_ret ?_; rotate_left; refine EV_orN ?_; refine EV_chain2 ?_; refine EV_int ?_; refine EV_local hE (by kernel_rfl) sH ?_; (with_reducible refine O2_le_int ?_); (with_reducible refine TR_bool ?_); (refine And.intro ?_ ?_ <;> intro hb <;> try (cases hb; done)); refine EV_int ?_; (with_reducible refine O2_le_int ?_); (with_reducible refine TR_bool ?_); (refine And.intro ?_ ?_ <;> intro hb <;> try (cases hb; done)); refine seq_ret ?_; rotate_left; refine EV_orN ?_; refine EV_chain2 ?_; refine EV_int ?_; refine EV_local hE (by kernel_rfl) sH ?_; (with_reducible refine O2_le_int ?_); (with_reducible refine TR_bool ?_); (refine And.intro ?_ ?_ <;> intro hb <;> try (cases hb; done)); refine EV_int ?_; (with_reducible refine O2_le_int ?_); (with_reducible refine TR_bool ?_); (refine And.intro ?_ ?_ <;> intro hb <;> try (cases hb; done)); refine seq_ret ?_; rotate_left; refine EV_orN ?_; refine EV_compare ?_; refine EV_binop ?_; refine EV_local hE (by kernel_rfl) sH ?_; refine EV_int ?_; refine O2_mod_int (by decide) ?_; refine EV_tuple ?_; refine AR_cons ?_; refine EV_int ?_; refine AR_cons ?_; refine EV_int ?_; refine AR_nil ?_; rotate_left; (with_reducible refine TR_bool ?_); (refine And.intro ?_ ?_ <;> intro hb <;> try (cases hb; done)); refine seq_ret ?_; rotate_left; refine EV_orN ?_; refine EV_compare ?_; refine EV_binop ?_; refine EV_local hE (by kernel_rfl) sH ?_; refine EV_int ?_; refine O2_mod_int (by decide) ?_; refine EV_tuple ?_; refine AR_cons ?_; refine EV_int ?_; refine AR_cons ?_; refine EV_int ?_; refine AR_nil ?_; rotate_left; (with_reducible refine TR_bool ?_); (refine And.intro ?_ ?_ <;> intro hb <;> try (cases hb; done)); refine seq_ret ?_; rotate_left; refine EV_orN ?_; refine EV_chain2 ?_; refine EV_int ?_; refine EV_local hE (by kernel_rfl) sH ?_; (with_reducible refine O2_le_int ?_); (with_reducible refine TR_bool ?_); (refine And.intro ?_ ?_ <;> intro hb <;> try (cases hb; done)); refine EV_int ?_; (with_reducible refine O2_le_int ?_); (with_reducible refine TR_bool ?_); (refine And.intro ?_ ?_ <;> intro hb <;> try (cases hb; done)); refine seq_ret ?_; rotate_left; refine EV_orN ?_; refine EV_compare ?_; refine EV_binop ?_; refine EV_local hE (by kernel_rfl) sH ?_; refine EV_int ?_; refine O2_mod_int (by decide) ?_; refine EV_tuple ?_; refine AR_cons ?_; refine EV_int ?_; refine AR_cons ?_; refine EV_int ?_; refine AR_nil ?_; rotate_left; (with_reducible refine TR_bool ?_); (refine And.intro ?_ ?_ <;> intro hb <;> try (cases hb; done)); refine seq_ret ?_; rotate_left; refine EV_orN ?_; refine EV_compare ?_; refine EV_binop ?_; refine EV_local hE (by kernel_rfl) sH ?_; refine EV_int ?_; refine O2_mod_int (by decide) ?_; refine EV_tuple ?_; refine AR_cons ?_; refine EV_int ?_; refine AR_cons ?_; refine EV_int ?_; refine AR_nil ?_; rotate_left; (with_reducible refine TR_bool ?_); (refine And.intro ?_ ?_ <;> intro hb <;> try (cases hb; done)); refine seq_ret ?_; rotate_left; refine EV_orN ?_; refine EV_compare ?_; refine EV_local hE (by kernel_rfl) sH ?_; refine EV_int ?_; (with_reducible refine O2_eq_int ?_); (with_reducible refine TR_bool ?_); (refine And.intro ?_ ?_ <;> intro hb <;> try (cases hb; done)); refine seq_ret ?_; rotate_left; refine EV_orN ?_; refine EV_chain2 ?_; refine EV_int ?_; refine EV_local hE (by kernel_rfl) sH ?_; (with_reducible refine O2_le_int ?_); (with_reducible refine TR_bool ?_); (refine And.intro ?_ ?_ <;> intro hb <;> try (cases hb; done)); refine EV_int ?_; (with_reducible refine O2_le_int ?_); (with_reducible refine TR_bool ?_); (refine And.intro ?_ ?_ <;> intro hb <;> try (cases hb; done)); refine seq_ret ?_; rotate_left; refine EV_orN ?_; refine EV_chain2 ?_; refine EV_int ?_; refine EV_local hE (by kernel_rfl) sH ?_; (with_reducible refine O2_le_int ?_); (with_reducible refine TR_bool ?_); (refine And.intro ?_ ?_ <;> intro hb <;> try (cases hb; done)); refine EV_int ?_; (with_reducible refine O2_le_int ?_); (with_reducible refine TR_bool ?_); (refine And.intro ?_ ?_ <;> intro hb <;> try (cases hb; done)); refine seq_ret ?_; rotate_left; refine EV_orN ?_; refine EV_chain2 ?_; refine EV_int ?_; refine EV_local hE (by kernel_rfl) sH ?_; (with_reducible refine O2_le_int ?_); (with_reducible refine TR_bool ?_); (refine And.intro ?_ ?_ <;> intro hb <;> try (cases hb; done)); refine EV_int ?_; (with_reducible refine O2_le_int ?_); (with_reducible refine TR_bool ?_); (refine And.intro ?_ ?_ <;> intro hb <;> try (cases hb; done)); refine seq_ret ?_; rotate_left; refine EV_orN ?_; refine EV_compare ?_; refine EV_binop ?_; refine EV_local hE (by kernel_rfl) sH ?_; refine EV_int ?_; refine O2_mod_int (by decide) ?_; refine EV_tuple ?_; refine AR_cons ?_; refine EV_int ?_; refine AR_cons ?_; refine EV_int ?_; refine AR_nil ?_; rotate_left; (with_reducible refine TR_bool ?_); (refine And.intro ?_ ?_ <;> intro hb <;> try (cases hb; done)); refine seq_ret ?_; rotate_left; refine EV_orN ?_; refine EV_compare ?_; refine EV_binop ?_; refine EV_local hE (by kernel_rfl) sH ?_; refine EV_int ?_; refine O2_mod_int (by decide) ?_; refine EV_tuple ?_; refine AR_cons ?_; refine EV_int ?_; refine AR_cons ?_; refine EV_int ?_; refine AR_nil ?_; rotate_left; (with_reducible refine TR_bool ?_); (refine And.intro ?_ ?_ <;> intro hb <;> try (cases hb; done)); refine seq_ret ?_; rotate_left; refine EV_orN ?_; refine EV_chain2 ?_; refine EV_int ?_; refine EV_local hE (by kernel_rfl) sH ?_; (with_reducible refine O2_le_int ?_); (with_reducible refine TR_bool ?_); (refine And.intro ?_ ?_ <;> intro hb <;> try (cases hb; done)); refine EV_int ?_; (with_reducible refine O2_le_int ?_); (with_reducible refine TR_bool ?_); (refine And.intro ?_ ?_ <;> intro hb <;> try (cases hb; done)); refine seq_ret ?_; rotate_left; refine EV_orN ?_; refine EV_compare ?_; refine EV_binop ?_; refine EV_local hE (by kernel_rfl) sH ?_; refine EV_int ?_; refine O2_mod_int (by decide) ?_; refine EV_tuple ?_; refine AR_cons ?_; refine EV_int ?_; refine AR_cons ?_; refine EV_int ?_; refine AR_nil ?_; rotate_left; (with_reducible refine TR_bool ?_); (refine And.intro ?_ ?_ <;> intro hb <;> try (cases hb; done)); refine seq_ret ?_; rotate_left; refine EV_orN ?_; refine EV_compare ?_; refine EV_binop ?_; refine EV_local hE (by kernel_rfl) sH ?_; refine EV_int ?_; refine O2_mod_int (by decide) ?_; refine EV_tuple ?_; refine AR_cons ?_; refine EV_int ?_; refine AR_cons ?_; refine EV_int ?_; refine AR_nil ?_; rotate_left; (with_reducible refine TR_bool ?_); (refine And.intro ?_ ?_ <;> intro hb <;> try (cases hb; done)); refine seq_ret ?_; rotate_left; refine EV_orN ?_; refine EV_chain2 ?_; refine EV_int ?_; refine EV_local hE (by kernel_rfl) sH ?_; (with_reducible refine O2_le_int ?_); (with_reducible refine TR_bool ?_); (refine And.intro ?_ ?_ <;> intro hb <;> try (cases hb; done)); refine EV_int ?_; (with_reducible refine O2_le_int ?_); (with_reducible refine TR_bool ?_); (refine And.intro ?_ ?_ <;> intro hb <;> try (cases hb; done)); refine seq_ret ?_; rotate_left; refine EV_orN ?_; refine EV_chain2 ?_; refine EV_int ?_; refine EV_local hE (by kernel_rfl) sH ?_; (with_reducible refine O2_le_int ?_); (with_reducible refine TR_bool ?_); (refine And.intro ?_ ?_ <;> intro hb <;> try (cases hb; done)); refine EV_int ?_; (with_reducible refine O2_le_int ?_); (with_reducible refine TR_bool ?_); (refine And.intro ?_ ?_ <;> intro hb <;> try (cases hb; done)); refine seq_ret ?_; rotate_left; refine EV_orN ?_; refine EV_compare ?_; refine EV_binop ?_; refine EV_local hE (by kernel_rfl) sH ?_; refine EV_int ?_; refine O2_mod_int (by decide) ?_; refine EV_tuple ?_; refine AR_cons ?_; refine EV_int ?_; refine AR_cons ?_; refine EV_int ?_; refine AR_nil ?_; rotate_left; (with_reducible refine TR_bool ?_); (refine And.intro ?_ ?_ <;> intro hb <;> try (cases hb; done)); refine seq_ret ?_; rotate_left; refine EV_orN ?_; refine EV_compare ?_; refine EV_binop ?_; refine EV_local hE (by kernel_rfl) sH ?_; refine EV_int ?_; refine O2_mod_int (by decide) ?_; refine EV_tuple ?_; refine AR_cons ?_; refine EV_int ?_; refine AR_cons ?_; refine EV_int ?_; refine AR_nil ?_; rotate_left; (with_reducible refine TR_bool ?_); (refine And.intro ?_ ?_ <;> intro hb <;> try (cases hb; done)); refine seq_ret ?_; rotate_left; refine EV_orN ?_; refine EV_chain2 ?_; refine EV_int ?_; refine EV_local hE (by kernel_rfl) sH ?_; (with_reducible refine O2_le_int ?_); (with_reducible refine TR_bool ?_); (refine And.intro ?_ ?_ <;> intro hb <;> try (cases hb; done)); refine EV_int ?_; (with_reducible refine O2_le_int ?_); (with_reducible refine TR_bool ?_); (refine And.intro ?_ ?_ <;> intro hb <;> try (cases hb; done)); refine seq_ret ?_; rotate_left; refine EV_orN ?_; refine EV_compare ?_; refine EV_binop ?_; refine EV_local hE (by kernel_rfl) sH ?_; refine EV_int ?_; refine O2_mod_int (by decide) ?_; refine EV_tuple ?_; refine AR_cons ?_; refine EV_int ?_; refine AR_cons ?_; refine EV_int ?_; refine AR_nil ?_; rotate_left; (with_reducible refine TR_bool ?_); (refine And.intro ?_ ?_ <;> intro hb <;> try (cases hb; done)); refine seq_ret ?_; rotate_left; refine EV_orN ?_; refine EV_compare ?_; refine EV_binop ?_; refine EV_local hE (by kernel_rfl) sH ?_; refine EV_int ?_; refine O2_mod_int (by decide) ?_; refine EV_tuple ?_; refine AR_cons ?_; refine EV_int ?_; refine AR_cons ?_; refine EV_int ?_; refine AR_nil ?_; rotate_left)
    all_goals first | exact ⟨⟨_, rfl⟩, fun _ _ e => e⟩ | skip
    all_goals (refine ⟨by simp, fun D hD => ?_⟩; refine O2_in_tupI (ns := [65534, 65535]) (.tup (setM_same _ _ _)) ?_; ((with_reducible refine TR_bool ?_); (refine And.intro ?_ ?_ <;> intro hb <;> try (cases hb; done)); refine seq_ret ?_; rotate_left; refine EV_bool1 ?_; refine EV_chain2 ?_; refine EV_int ?_; refine EV_local hE (by kernel_rfl) sH ?_; (with_reducible refine O2_le_int ?_); (with_reducible refine TR_bool ?_); (refine And.intro ?_ ?_ <;> intro hb <;> try (cases hb; done)); refine EV_int ?_; (with_reducible refine O2_le_int ?_); refine seq_ret ?_; rotate_left; refine seq_ret ?_; rotate_left))
    all_goals exact ⟨⟨_, rfl⟩, fun a o e => setM_old hD e⟩

theorem c_errors {n : Nat} {M : Mem} {g : G} {c d : List Nat} {co pl pc : Nat} {b : List Nat} {es : List Value} (hS : M g.S = some (.inst 166 10 (tblF (stT g c co pl pc b)))) (hEr : M g.E = some (.lst es)) (hl : es.length + d.length ≤ 16777216) :
    CL Z.cx (n + 2) (.ref 148) [.ref g.S, .str (mkS d) 0] (fun v m => v = .none ∧ (∃ es', m g.E = some (.lst es') ∧ es'.length ≤ es.length + d.length) ∧ ∀ a o, a ≠ g.E → M a = some o → m a = some o) M := by
  have hne : g.S ≠ g.E := fun e => by rw [e, hEr] at hS; cases hS
  refine CL_fn (binds := [("self", .ref g.S), ("data", .str (mkS d) 0)]) (by rfl) (by kernel_rfl) ?_ (by kernel_rfl) ?_
  · intro vs e
    obtain ⟨v1, v2, rfl, e1, e2⟩ := vs2 e
    exact ⟨[("self", v1), ("data", v2)], fun s hx => kp_binds hx (fun S => rfl), by simp [e1, e2]⟩
  · intro fz L env hE he; subst he
    rw [bindL2]
    refine EX_cons ?_
    refine E1_For hE (IE_str ?_)
    (refine EV_local hE (by kernel_rfl) sH ?_; (with_reducible first | refine exr ?_ | refine ⟨_, rfl, ?_⟩))
    refine ⟨(by kernel_rfl), fun i l m => (∀ v, setL l "c" v = setL (setL (setL (fun x => none) "self" (.ref g.S)) "data" (.str (mkS d) 0)) "c" v) ∧ (∃ es', m g.E = some (.lst es') ∧ es'.length ≤ es.length + i) ∧ ∀ a o, a ≠ g.E → M a = some o → m a = some o,
      ⟨fun _ => rfl, ⟨es, hEr, by (exact Nat.le_refl _)⟩, fun _ _ _ e => e⟩, ?_, ?_⟩
    · rintro i l m hi ⟨hl0, ⟨es', he1, he2⟩, kp⟩
      refine ⟨trivial, fun fz => ?_⟩
      have hS' := kp _ _ hne hS
      unfold stT at hS'
      dsimp only
      rw [hl0]
      (refine EX_cons ?_; refine E1_If ?_; refine TV_value ?_; refine EV_ncall ?_; refine EV_gref (a := 84) hE (by kernel_rfl) (by kernel_rfl) ?_; refine CW_go0 (KeepOk.rf (by kernel_rfl)) ?_; refine AR_cons ?_; refine EV_ncall ?_; refine EV_builtinF (id := "ord") hE (by kernel_rfl) (by kernel_rfl) (by kernel_rfl) ?_; refine CW_go0 (KeepOk.bf _) ?_; refine AR_cons ?_; refine EV_local hE (by kernel_rfl) sH ?_; refine AR_nil ?_; (with_reducible refine CA_ord ?_); refine AR_nil ?_)
      refine CA_CL ((c_invalid (n := n)).mono ?_) (Nat.le_refl _)
      rintro v m' ⟨⟨bb, rfl⟩, kp'⟩
      have he1' := kp' _ _ he1
      have hS'' := kp' _ _ hS'
      ((with_reducible refine TR_bool ?_); (refine And.intro ?_ ?_ <;> intro hb <;> try (cases hb; done)); refine EX_cons ?_; refine E1_Expr ?_ (by rfl) (by rfl); refine EV_mcall ?_; refine EVaf hE (by kernel_rfl) (sS (sS sH)) hS'' (tS (tS (tS (tS (tS (tS tH)))))) (fok (by kernel_rfl)) ?_; (with_reducible refine GM_append he1' ?_); refine CW_go1 (KeepOk.bf _) ?_; refine AR_cons ?_; refine EV_str (l := [105, 110, 118, 97, 108, 105, 100, 45, 99, 111, 100, 101, 112, 111, 105, 110, 116]) (by kernel_rfl) ?_; refine AR_nil ?_; refine CA_append he1' ?_ ?_; rotate_left; refine seq_next ?_; refine EXn ?_; refine EX_nil ?_; rotate_left; refine EXn ?_; refine EX_nil ?_; rotate_left)
      · (lia)
      · refine ⟨fun v => by rw [setL_setL], ⟨_, setM_same _ _ _, by simp; (lia)⟩, fun a o ha e => (setM_ne _ _ ha).trans (kp' _ _ (kp a o ha e))⟩
      · exact ⟨fun v => by rw [setL_setL], ⟨es', he1', by (exact Nat.le_succ_of_le (by assumption))⟩, fun a o ha e => kp' _ _ (kp a o ha e)⟩
    · (intro l m hq0; refine obAA hq0 ?_; clear hq0; intro hl0 he1 kp)
      refine ⟨trivial, ?_⟩
      (refine seq_next ?_; refine EX_nil ?_)
      exact ⟨rfl, he1, kp⟩

theorem c_readChunk {n : Nat} {M : Mem} {g : G} {pre c : List Nat} {co : Nat} {b : List Nat} {p k : Nat} {args : List Value} {cv : Value} (S : St M g pre c co b p) (hk : 2 ≤ k)
    (ha : (args = [.ref g.S] ∧ cv = .none ∧ k = 10240) ∨ (args = [.ref g.S, .int k 0] ∧ cv = .int k 0)) :
    CL Z.cx (n + 4) (.ref 141) args (fun v m => ∃ ok c' b' p', v = .bool ok ∧ St m g (pre ++ c) c' 0 b' p' ∧ Kp g M m ∧ (ok = true → c' ≠ []) ∧ (ok = false → c' = [] ∧ mend (b' ++ g.txt.drop p') = [])) M := by
  have hSX : g.S ≠ g.X := fun e => by have := S.hS; rw [e, S.hX] at this; cases this
  (refine obEA (S.hE) ?_; intro es hEr hes)
  have hSE : g.S ≠ g.E := fun e => by have := S.hS; rw [e, hEr] at this; cases this
  have hXE : g.X ≠ g.E := fun e => by have := S.hX; rw [e, hEr] at this; cases this
  refine CL_fn (binds := [("self", .ref g.S), ("chunkSize", cv)]) (by rfl) (by kernel_rfl) ?_ (by kernel_rfl) ?_
  · intro vs e
    rcases ha with ⟨rfl, rfl, _⟩ | ⟨rfl, rfl⟩
    · obtain ⟨v1, rfl, e1⟩ := vs1 e
      exact ⟨[("self", v1), ("chunkSize", .none)], fun s hx => kp_binds hx (fun S => rfl), by simp [e1]⟩
    · obtain ⟨v1, v2, rfl, e1, e2⟩ := vs2 e
      exact ⟨[("self", v1), ("chunkSize", v2)], fun s hx => kp_binds hx (fun S => rfl), by simp [e1, e2]⟩
  · intro fz L env hE he; subst he; refine EX_gen fun Qg hQg => ?_
    rw [bindL2]
    have hS := S.hS
    unfold stT at hS
    refine EX_cutG (R := fun l m => l = setL (setL (fun x => none) "self" (.ref g.S)) "chunkSize" (.int k 0) ∧ m = M) ?_ ?_
    · intro Rg1 hR1; (refine E1_If ?_; refine TV_compare ?_; refine EV_local hE (by kernel_rfl) sH ?_; refine EV_none ?_; (with_reducible refine O2_is_none ?_); (with_reducible refine TR_bool ?_))
      refine And.intro ?_ ?_ <;> intro hb
      · rcases ha with ⟨rfl, rfl, rfl⟩ | ⟨rfl, rfl⟩
        · (refine EX_cons ?_; refine E1_AssignName ?_ rfl; refine EV_attr ?_; refine EV_local hE (by kernel_rfl) (sS sH) ?_; refine GA_clsI (i := 10240) (t := 624) hS (tS (tS (tS (tS (tS (tS (tS (tS (tS (tS tN)))))))))) ⟨(by kernel_rfl), (by kernel_rfl), (by kernel_rfl), (by kernel_rfl), (by kernel_rfl), (by kernel_rfl)⟩ ?_; refine STn hE (by kernel_rfl) ?_; refine EX_nil ?_)
          exact ⟨rfl, hR1 _ _ ⟨by rw [setL_setL]; rfl, rfl⟩⟩
        · cases hb
      · rcases ha with ⟨rfl, rfl, rfl⟩ | ⟨rfl, rfl⟩
        · cases hb
        · refine EX_nil ?_
          exact ⟨rfl, hR1 _ _ ⟨rfl, rfl⟩⟩
    · (intro l m hq0; refine obA hq0 ?_; clear hq0; intro hz0 hz1; subst hz0; subst hz1)
      have hX := S.hX
      have hQ := S.hQ
      have hQS : g.Q ≠ g.S := fun e => by rw [e, hS] at hQ; cases hQ
      have hQX : g.Q ≠ g.X := fun e => by rw [e, hX] at hQ; cases hQ
      have hpos := c__position (Z := Z) (n := n) hS (Nat.le_refl c.length)
      rw [List.take_length, ← List.count_append, ← trail_append] at hpos
      (refine obAAAA (chunk_law (txt := g.txt) (b := b) (p := p) (k := k) hk S.hb S.hp) ?_; intro ch1 ch2 ch3 ch4 ch5)
      generalize hpart : (g.txt.take (p + k)).drop p = part at *
      have hpl : part.length ≤ 100000 := by rw [← hpart]; have := S.len; simp; (clear ch5 ch4 ch3 ch2 ch1 hpart hpos hQX hQS hQ hX hS hQg hEr S hE hXE hSE hSX ha hk; lia)
      have hbl : b.length ≤ 1 := by rcases S.hb with rfl | rfl <;> simp
      generalize hpl' : (pre ++ c).count 10 = pl' at *
      generalize hpc' : trail (pre ++ c) = pc' at *
      (refine EX_cons ?_; refine E1_AssignTuple ?_ rfl rfl rfl; refine EV_mcall ?_; refine EV_local hE (by kernel_rfl) (sS sH) ?_; refine GM_meth (g := 119) hS (stNo (by kernel_rfl)) (mok (by kernel_rfl)) ?_; refine CW_go1 (KeepOk.rf (by kernel_rfl)) ?_; refine AR_cons ?_; refine EVaf hE (by kernel_rfl) (sS sH) hS sgf4 (fok (by kernel_rfl)) ?_; refine AR_nil ?_)
      refine CA_CL (hpos.mono ?_) (by (lia))
      rintro v m' ⟨D, hD, rfl, rfl⟩
      refine ⟨D, _, rfl, .tup (setM_same _ _ _), rfl, ?_⟩
      (refine ATs_cons ?_; refine AT_attr ?_; refine EV_local hE (by kernel_rfl) (sS sH) ?_; refine SA_tbl (setM_old hD hS) (sok (by kernel_rfl)) (.inl ⟨(by kernel_rfl), rfl⟩) (by decide) (pS (pS (pS (pS (pS (pS (pS pH))))))) ?_; refine ATs_cons ?_; refine AT_attr ?_; refine EV_local hE (by kernel_rfl) (sS sH) ?_; refine SA_tbl2 (sok (by kernel_rfl)) (.inl ⟨(by kernel_rfl), rfl⟩) (by decide) (pS (pS (pS (pS (pS (pS (pS (pS pH)))))))) ?_; refine ATs_nil ?_; refine seq_next ?_; refine EX_cons ?_; refine E1_AssignAttr ?_ rfl; refine EV_str (l := []) (by kernel_rfl) ?_; refine EV_local hE (by kernel_rfl) (sS sH) ?_; refine SA_tbl2 (sok (by kernel_rfl)) (.inl ⟨(by kernel_rfl), rfl⟩) (by decide) (pS (pS (pS pH))) ?_; refine seq_next ?_; refine EX_cons ?_; refine E1_AssignAttr ?_ rfl; refine EV_int ?_; refine EV_local hE (by kernel_rfl) (sS sH) ?_; refine SA_tbl2 (sok (by kernel_rfl)) (.inl ⟨(by kernel_rfl), rfl⟩) (by decide) (pS (pS (pS (pS pH)))) ?_; refine seq_next ?_; refine EX_cons ?_; refine E1_AssignAttr ?_ rfl; refine EV_int ?_; refine EV_local hE (by kernel_rfl) (sS sH) ?_; refine SA_tbl2 (sok (by kernel_rfl)) (.inl ⟨(by kernel_rfl), rfl⟩) (by decide) (pS (pS (pS (pS (pS pH))))) ?_; refine seq_next ?_; refine EX_cons ?_; refine E1_AssignName ?_ rfl; refine EV_mcall ?_; refine EVaf hE (by kernel_rfl) (sS sH) (setM_same _ _ _) (tS (tS tH)) (fok (by kernel_rfl)) ?_; refine GM_meth (g := 70) ((setM_ne _ _ (Ne.symm hSX)).trans (setM_old hD hX)) (tS (tS tN)) (mok (by kernel_rfl)) ?_; refine CW_go1 (KeepOk.rf (by kernel_rfl)) ?_; refine AR_cons ?_; refine EV_local hE (by kernel_rfl) sH ?_; refine AR_nil ?_)
      refine CA_CL (CL.mono (c_read (n := n) hpart (by exact ((setM_ne _ _ (Ne.symm hSX)).trans (setM_old hD hX))) (by have := S.len; (exact Nat.le_trans (by assumption) (by decide)))) ?_) (by (lia))
      rintro v m' ⟨rfl, rfl⟩
      refine ST_local hE (by kernel_rfl) ?_
      refine seq_next ?_
      refine EX_abs (R := fun m' => Mid m m' g pl' pc' b (p + part.length) es) ⟨(setM_ne _ _ hSX).trans (setM_same _ _ _), setM_same _ _ _, ?_, ?_, ?_⟩ ?_
      · exact (setM_ne _ _ (Ne.symm hXE)).trans ((setM_ne _ _ (Ne.symm hSE)).trans (setM_old hD hEr))
      · exact (setM_ne _ _ hQX).trans ((setM_ne _ _ hQS).trans (setM_old hD hQ))
      · exact fun a o h1 h2 h3 e => (setM_ne _ _ h2).trans ((setM_ne _ _ h1).trans (setM_old hD e))
      rintro m' ⟨mS, mX, mE, mQ, mK⟩
      unfold stT at mS
      have hfin : ∀ (b' : List Nat) (c' : List Nat) (m₂ : Mem) (es' : List Value), m₂ g.S = some (.inst 166 10 (tblF (stT g c' 0 pl' pc' b'))) → m₂ g.X = some (.inst 73 2 (tblF [("text", .str (mkS g.txt) 0), ("place", .int (p + part.length : Nat) 0)])) →
          m₂ g.E = some (.lst es') → es'.length + b'.length ≤ p + part.length → m₂ g.Q = some (.obj (methodObj (.ref 148) (.ref g.S))) → (b' = [] ∨ b' = [13]) → mend (b ++ g.txt.drop p) = c' ++ mend (b' ++ g.txt.drop (p + part.length)) →
          St m₂ g (pre ++ c) c' 0 b' (p + part.length) := fun b' c' m₂ es' q1 q2 q3 q4 q5 q6 q7 =>
        ⟨by rw [hpl', hpc']; exact q1, q2, ⟨es', q3, q4⟩, q5, by rw [S.hW, q7]; simp only [List.append_assoc], Nat.zero_le _, q6, ch2, S.len, S.small⟩
      refine EX_cutR (R := fun l m₂ => l = setL (setL (setL (fun x => none) "self" (.ref g.S)) "chunkSize" (.int k 0)) "data" (.str (mkS (b ++ part)) 0) ∧ Mid m m₂ g pl' pc' [] (p + part.length) es ∧ b ++ part ≠ []) ?_ ?_
      · refine E1_If ?_
        (refine TV_value ?_; refine EV_attr ?_; refine EV_local hE (by kernel_rfl) (sS (sS sH)) ?_)
        rcases S.hb with rfl | rfl
        · refine GA_field mS (tS (tS (tS (tS (tS (tS (tS (tS (tS tH))))))))) (fok (by kernel_rfl)) ?_
          refine TR_none ?_
          (refine And.intro ?_ ?_ <;> intro hb <;> try (cases hb; done))
          · (refine EX_cons ?_; refine E1_If ?_; refine TV_not ?_; refine TV_value ?_; refine EV_local hE (by kernel_rfl) sH ?_; (with_reducible refine TR_str ?_ ?_); rotate_left; rotate_left)
            · (exact Nat.le_trans (by assumption) (by decide))
            · (refine And.intro ?_ ?_ <;> intro hb <;> try (cases hb; done))
              · have hp0 : part = [] := by cases part <;> simp_all
                subst hp0
                (refine RETb ?_; refine seq_ret ?_)
                refine .inr ⟨_, rfl, hQg _ _ _ ⟨false, [], [], _, rfl, hfin [] [] m' es mS mX mE (by simpa using hes) mQ (.inl rfl) ?_, mK, (fun h => by cases h), fun _ => ⟨rfl, ?_⟩⟩⟩
                · exact ch5 (by simp)
                · have := ch3 rfl
                  simp only [List.nil_append, List.length_nil, Nat.add_zero] at this ⊢
                  rw [this]; rfl
              · have hp0 : part ≠ [] := by cases part <;> simp_all
                (refine EXn ?_; refine EX_nil ?_)
                exact .inl ⟨rfl, rfl, ⟨mS, mX, mE, mQ, mK⟩, by simpa using hp0⟩
        · refine GA_field mS (tS (tS (tS (tS (tS (tS (tS (tS (tS tH))))))))) (fok (by kernel_rfl)) ?_
          refine TR_str (l := [13]) (by simp) ?_
          (refine And.intro ?_ ?_ <;> intro hb <;> try (cases hb; done))
          · (refine EX_cons ?_; refine E1_AssignName ?_ rfl; refine EV_binop ?_; refine EVaf hE (by kernel_rfl) (sS (sS sH)) mS (tS (tS (tS (tS (tS (tS (tS (tS (tS tH))))))))) (fok (by kernel_rfl)) ?_; refine EV_local hE (by kernel_rfl) sH ?_)
            refine O2_add_str (a := [13]) (by simp; (lia)) ?_
            (refine STn hE (by kernel_rfl) ?_; refine EX_cons ?_; refine E1_AssignAttr ?_ rfl; refine EV_none ?_; refine EV_local hE (by kernel_rfl) (sS (sS (sS sH))) ?_; refine SA_tbl mS (sok (by kernel_rfl)) (.inl ⟨(by kernel_rfl), rfl⟩) (by decide) (pS (pS (pS (pS (pS (pS (pS (pS (pS pH))))))))) ?_; refine seq_next ?_; refine EX_nil ?_)
            exact .inl ⟨rfl, by rw [setL_setL], ⟨setM_same _ _ _, (setM_ne _ _ (Ne.symm hSX)).trans mX, (setM_ne _ _ (Ne.symm hSE)).trans mE, (setM_ne _ _ hQS).trans mQ, fun a o h1 h2 h3 e => (setM_ne _ _ h1).trans (mK a o h1 h2 h3 e)⟩, by simp⟩
      · (intro l m₂ hq0; refine obAA hq0 ?_; clear hq0; intro hz0 hz1 hne; subst hz0; refine dn fun hG0 => ?_; obtain ⟨mS, mX, mE, mQ, mK⟩ := hz1; refine hG0 ?_; clear hG0)
        unfold stT at mS
        have hbp : (b ++ part).length ≤ 100001 := by simp; (clear mK mQ mE mX mS hne hfin hD hpos hpc' hpl' ch5 ch4 ch3 ch2 ch1 hpart hQX hQS hQ hX hS hQg hEr S hE hXE hSE hes hSX ha hk; lia)
        have hch : ∀ x ∈ b ++ part, x < 55296 := by
          intro x hx
          rcases List.mem_append.mp hx with hx | hx
          · rcases S.hb with rfl | rfl
            · cases hx
            · simp at hx; (lia)
          · exact S.small x (by rw [← hpart] at hx; exact List.mem_of_mem_take (List.mem_of_mem_drop hx))
        generalize hd : b ++ part = d at *
        refine EX_cutG (R := fun l m₃ => ∃ d' b', l "self" = some (.ref g.S) ∧ l "data" = some (.str (mkS d') 0) ∧ Mid m m₃ g pl' pc' b' (p + part.length) es ∧ d' ≠ [] ∧ d'.length + b'.length = d.length ∧ (b' = [] ∨ b' = [13]) ∧ mend (b ++ g.txt.drop p) = mend d' ++ mend (b' ++ g.txt.drop (p + part.length))) ?_ ?_
        · intro Rg3 hR3; (refine E1_If ?_; refine TV_compare ?_; refine EV_ncall ?_; refine EV_builtinF (id := "len") hE (by kernel_rfl) (by kernel_rfl) (by kernel_rfl) ?_; refine CW_go0 (KeepOk.bf _) ?_; refine AR_cons ?_; refine EV_local hE (by kernel_rfl) sH ?_; refine AR_nil ?_; (with_reducible refine CA_len_str ?_ ?_); rotate_left; refine EV_int ?_; (with_reducible refine O2_gt_int ?_); (with_reducible refine TR_bool ?_); rotate_left)
          · (exact Nat.le_trans (by assumption) (by decide))
          · (refine And.intro ?_ ?_ <;> intro hb <;> try (cases hb; done))
            · have hlen : 1 < d.length := by have := of_decide_eq_true hb; (clear hb hR3 hch hne ch5 ch4 ch3 ch1 hd mK mQ mE mX mS hfin hD hpos hpc' hpl' hbl hpl ch2 hpart hQX hQS hQ hX hS hQg hEr S hE hXE hSE hes hSX ha hk; lia)
              obtain ⟨lastc, hlast⟩ : ∃ x, d.getLast? = some x := by
                cases q : d.getLast? with
                | none => rw [List.getLast?_eq_none_iff] at q; exact absurd q hne
                | some x => exact ⟨x, rfl⟩
              have hidx : d[d.length - 1]? = some lastc := by rw [← List.getLast?_eq_getElem?]; exact hlast
              have hlc : lastc < 55296 := hch _ (List.mem_of_getElem? hidx)
              (refine EX_cons ?_; refine E1_AssignName ?_ rfl; refine EV_ncall ?_; refine EV_builtinF (id := "ord") hE (by kernel_rfl) (by kernel_rfl) (by kernel_rfl) ?_; refine CW_go0 (KeepOk.bf _) ?_; refine AR_cons ?_; refine EV_sub ?_; refine EV_local hE (by kernel_rfl) sH ?_; refine EV_unop ?_; refine EV_int ?_; (with_reducible refine O1_neg_int ?_))
              refine SUB_str (j := d.length - 1) (c := lastc) (by decide) (by simp; (clear hlc hidx hlast hb hR3 hch hne ch5 ch4 ch3 ch1 hd mK mQ mE mX mS hfin hD hpos hpc' hpl' hbl hpl ch2 hpart hQX hQS hQ hX hS hQg hEr S hE hXE hSE hes hSX ha hk; lia)) hidx ?_
              (refine AR_nil ?_; (with_reducible refine CA_ord ?_); refine STn hE (by kernel_rfl) ?_; refine EX_cons ?_; refine E1_If ?_; refine TV_boolop ?_; refine TAll_or ?_; refine TV_compare ?_; refine EV_local hE (by kernel_rfl) sH ?_; refine EV_int ?_; (with_reducible refine O2_eq_int ?_); (with_reducible refine TR_bool ?_))
              (refine And.intro ?_ ?_ <;> intro hb <;> try (cases hb; done))
              · have h13 : lastc = 13 := by have := of_decide_eq_true hb; (clear hb hlc hidx hlast hlen hR3 hch hbp hne ch5 ch4 ch3 ch1 hd mK mQ mE mX mS hfin hD hpos hpc' hpl' hbl hpl ch2 hpart hQX hQS hQ hX hS hQg hEr S hE hXE hSE hes hSX ha hk; lia)
                subst h13
                (refine And.intro ?_ ?_ <;> intro hb <;> try (cases hb; done))
                (refine EX_cons ?_; refine E1_AssignAttr ?_ rfl; refine EV_sub ?_; refine EV_local hE (by kernel_rfl) (sS sH) ?_; refine EV_unop ?_; refine EV_int ?_; (with_reducible refine O1_neg_int ?_))
                refine SUB_str (j := d.length - 1) (c := 13) (by decide) (by simp; (lia)) hidx ?_
                (refine EV_local hE (by kernel_rfl) (sS (sS (sS sH))) ?_; refine SA_tbl mS (sok (by kernel_rfl)) (.inl ⟨(by kernel_rfl), rfl⟩) (by decide) (pS (pS (pS (pS (pS (pS (pS (pS (pS pH))))))))) ?_; refine seq_next ?_; refine EX_cons ?_; refine E1_AssignName ?_ rfl; refine EV_slice_str ?_; refine EV_local hE (by kernel_rfl) (sS sH) ?_; (with_reducible first | refine exr ?_ | refine ⟨_, rfl, ?_⟩))
                refine ⟨by (exact Nat.le_trans (by assumption) (by decide)), ?_⟩
                (refine PT_none ?_; refine PT_some ?_; refine EV_unop ?_; refine EV_int ?_; (with_reducible refine O1_neg_int ?_); (with_reducible first | refine exr ?_ | refine ⟨_, rfl, ?_⟩); refine STn hE (by kernel_rfl) ?_; refine EXn ?_; refine EX_nil ?_)
                rw [pySl_m1]
                have hdd : d.dropLast.length + 1 = d.length := by simp; (lia)
                exact ⟨rfl, hR3 _ _ ⟨d.dropLast, [13], rfl, rfl, ⟨setM_same _ _ _, (setM_ne _ _ (Ne.symm hSX)).trans mX, (setM_ne _ _ (Ne.symm hSE)).trans mE, (setM_ne _ _ hQS).trans mQ, fun a o h1 h2 h3 e => (setM_ne _ _ h1).trans (mK a o h1 h2 h3 e)⟩,
                  (fun z => by rw [z] at hdd; simp at hdd; (lia)), by simpa using hdd, .inr rfl, ch4 hlen hlast⟩⟩
              · have h13 : ¬ lastc = 13 := by have := of_decide_eq_false hb; (clear hb hlc hidx hlast hlen hR3 hch hbp hne ch5 ch4 ch3 ch1 hd mK mQ mE mX mS hfin hD hpos hpc' hpl' hbl hpl ch2 hpart hQX hQS hQ hX hS hQg hEr S hE hXE hSE hes hSX ha hk; lia)
                (refine TAll_or ?_; refine TV_chain2 ?_; refine EV_int ?_; refine EV_local hE (by kernel_rfl) sH ?_; (with_reducible refine O2_le_int ?_); (with_reducible refine TR_bool ?_))
                (refine And.intro ?_ ?_ <;> intro hb <;> try (cases hb; done))
                · exfalso
                  have := of_decide_eq_true hb; (clear hb h13 hidx hlast hlen hR3 hch hbp hne ch5 ch4 ch3 ch1 hd mK mQ mE mX mS hfin hD hpos hpc' hpl' hbl hpl ch2 hpart hQX hQS hQ hX hS hQg hEr S hE hXE hSE hes hSX ha hk; lia)
                · ((refine And.intro ?_ ?_ <;> intro hb <;> try (cases hb; done)); refine TAll_or_nil ?_; (refine And.intro ?_ ?_ <;> intro hb <;> try (cases hb; done)); refine EXn ?_; refine EX_nil ?_)
                  exact ⟨rfl, hR3 _ _ ⟨d, [], rfl, rfl, ⟨mS, mX, mE, mQ, mK⟩, hne, by simp, .inl rfl, ch5 (fun h => h13 (by have := h.2; rw [hlast] at this; exact Option.some.inj this))⟩⟩
            · have hlen : ¬ 1 < d.length := by have := of_decide_eq_false hb; (clear hb hR3 hch hne ch5 ch4 ch3 ch1 hd mK mQ mE mX mS hfin hD hpos hpc' hpl' hbl hpl ch2 hpart hQX hQS hQ hX hS hQg hEr S hE hXE hSE hes hSX ha hk; lia)
              refine EX_nil ?_
              exact ⟨rfl, hR3 _ _ ⟨d, [], rfl, rfl, ⟨mS, mX, mE, mQ, mK⟩, hne, by simp, .inl rfl, ch5 (fun h => hlen h.1)⟩⟩
        · (intro l m₃ hq0; refine obEEAAAAAA hq0 ?_; clear hq0; intro d' b' hls hld hz4 hne' hlen' hb' hW'; refine dn fun hG0 => ?_; obtain ⟨mS, mX, mE, mQ, mK⟩ := hz4; refine hG0 ?_; clear hG0)
          unfold stT at mS
          (refine EX_cons ?_; refine E1_If ?_; refine TV_value ?_; refine EVaf hE (by kernel_rfl) hls mS tH (fok (by kernel_rfl)) ?_; refine TR_meth mQ ?_)
          (refine And.intro ?_ ?_ <;> intro hb <;> try (cases hb; done))
          (refine EX_cons ?_; refine E1_Expr ?_ (by rfl) (by rfl); refine EV_mcall ?_; refine EV_local hE (by kernel_rfl) hls ?_; refine GM_usual mS tH (fok (by kernel_rfl)) (by kernel_rfl) ?_)
          refine CW_bound (g := 148) (self := .ref g.S) (by kernel_rfl) ?_
          (refine AR_cons ?_; refine EV_local hE (by kernel_rfl) hld ?_; refine AR_nil ?_)
          have hdl' : d'.length ≤ 100001 := by (lia)
          refine ⟨mQ, CA_CL (CL_bound mQ rfl ((c_errors (n := n) (g := g) mS mE (by have := S.len; (clear hb mK mQ mE mX mS hW' hb' hlen' hne' hld hls hch hbp hne ch5 ch4 ch3 ch1 hd hfin hD hpos hpc' hpl' hpart hQX hQS hQ hX hS hQg hEr S hE hXE hSE hSX ha hk; lia))).mono ?_)) (by (exact Nat.le_succ _))⟩
          (intro v m₄ hq0; refine obAA hq0 ?_; clear hq0; intro hz0 hz1 hk4; subst hz0; refine dn fun hG0 => ?_; obtain ⟨es', hE', hes'⟩ := hz1; refine hG0 ?_; clear hG0)
          have nS := hk4 _ _ hSE mS
          have nX := hk4 _ _ hXE mX
          have hQE : g.Q ≠ g.E := fun e => by rw [e, mE] at mQ; cases mQ
          have nQ := hk4 _ _ hQE mQ
          have nK : ∀ a o, a ≠ g.S → a ≠ g.X → a ≠ g.E → m a = some o → m₄ a = some o := fun a o h1 h2 h3 e => hk4 a o h3 (mK a o h1 h2 h3 e)
          (refine seq_next ?_; refine EXn ?_; refine EX_cons ?_; refine E1_AssignName ?_ rfl)
          refine EV_rep [13, 10] [10] (by kernel_rfl) (by kernel_rfl) (by simp) (by simp) (by simp) ?_
          (refine EV_local hE (by kernel_rfl) hld ?_; (with_reducible first | refine exr ?_ | refine ⟨_, rfl, ?_⟩))
          refine ⟨by (exact Nat.le_trans (by assumption) (by decide)), ?_⟩
          (refine STn hE (by kernel_rfl) ?_; refine EX_cons ?_; refine E1_AssignName ?_ rfl)
          refine EV_rep [13] [10] (by kernel_rfl) (by kernel_rfl) (by simp) (by simp) (by simp) ?_
          (refine EV_local hE (by kernel_rfl) sH ?_; (with_reducible first | refine exr ?_ | refine ⟨_, rfl, ?_⟩))
          have hr1 := repL_le [13, 10] [10] (by simp) d'.length d'
          refine ⟨by (clear nK nQ hQE nX nS hes' hE' hk4 hb mK mQ mE mX mS hW' hb' hlen' hne' hld hls hch hbp hne ch5 ch4 ch3 ch1 hd hfin hD hpos hpc' hpl' hbl hpl ch2 hpart hQX hQS hQ hX hS hQg hEr S hE hXE hSE hes hSX ha hk; lia), ?_⟩
          rw [mended2]
          have hml := mend_length d'
          (refine STn hE (by kernel_rfl) ?_; refine EX_cons ?_; refine E1_AssignAttr ?_ rfl; refine EV_local hE (by kernel_rfl) sH ?_; refine EV_local hE (by kernel_rfl) (sS (sS hls)) ?_; refine SA_tbl nS (sok (by kernel_rfl)) (.inl ⟨(by kernel_rfl), rfl⟩) (by decide) (pS (pS (pS pH))) ?_; refine seq_next ?_; refine EX_cons ?_; refine E1_AssignAttr ?_ rfl; refine EV_ncall ?_; refine EV_builtinF (id := "len") hE (by kernel_rfl) (by kernel_rfl) (by kernel_rfl) ?_; refine CW_go0 (KeepOk.bf _) ?_; refine AR_cons ?_; refine EV_local hE (by kernel_rfl) sH ?_; refine AR_nil ?_; (with_reducible refine CA_len_str ?_ ?_); rotate_left; refine EV_local hE (by kernel_rfl) (sS (sS hls)) ?_; refine SA_tbl2 (sok (by kernel_rfl)) (.inl ⟨(by kernel_rfl), rfl⟩) (by decide) (pS (pS (pS (pS pH)))) ?_; refine seq_next ?_; refine RETb ?_; rotate_left)
          · (clear hr1 nK nQ hQE nX nS hes' hE' hk4 hb mK mQ mE mX mS hW' hb' hlen' hne' hld hls hch hbp hne ch5 ch4 ch3 ch1 hd hfin hD hpos hpc' hpl' hbl hpl ch2 hpart hQX hQS hQ hX hS hQg hEr S hE hXE hSE hes hSX ha hk; lia)
          · refine hQg _ _ _ ⟨true, mend d', b', _, rfl, hfin b' (mend d') _ es' (setM_same _ _ _) ((setM_ne _ _ (Ne.symm hSX)).trans nX) ((setM_ne _ _ (Ne.symm hSE)).trans hE') ?_ ((setM_ne _ _ hQS).trans nQ) hb' hW',
              fun a o h1 h2 h3 e => (setM_ne _ _ h1).trans (nK a o h1 h2 h3 e), fun _ => mend_ne _ hne', (fun h => by cases h)⟩
            have : d.length = b.length + part.length := by rw [← hd]; simp
            (clear hml hr1 nK nQ hQE nX nS hE' hk4 hdl' hb mK mQ mE mX mS hW' hb' hne' hld hls hch hbp hne ch5 ch4 ch3 ch1 hd hfin hD hpos hpc' hpl' hbl hpl ch2 hpart hQX hQS hQ hX hS hQg hEr S hE hXE hSE hSX ha hk; lia)
end
end Mine
end
section
open PySem PySem.W PyProof.Rows
set_option maxRecDepth 100000
set_option maxHeartbeats 4000000
set_option linter.unusedVariables false
namespace Mine

noncomputable def SAt (M : Mem) (g : G) (n bk : Nat) : Prop := ∃ pre c co b p, St M g pre c co b p ∧ n = pre.length + co ∧ bk ≤ co
noncomputable def WT' (g : G) : List Nat := mend g.txt
theorem SAt.ex {M : Mem} {g : G} {k bk : Nat} (h : SAt M g k bk) : ∃ l, M g.S = some (.inst 166 10 (tblF l)) ∧ ∀ x, (["reportCharacterErrors", "newLines", "dataStream", "chunk", "chunkSize", "chunkOffset", "errors", "prevNumLines", "prevNumCols", "_bufferedCharacter"] : List Str).all (fun y => (x == y) == false) = true → tblF l x = none :=
  Exists.elim h fun _ h => Exists.elim h fun _ h => Exists.elim h fun _ h => Exists.elim h fun _ h => Exists.elim h fun _ h => ⟨_, h.1.hS, fun _ e => stNo e⟩
noncomputable def SAt.l {M : Mem} {g : G} {k bk : Nat} (h : SAt M g k bk) : List (Str × Value) := Classical.choose h.ex
theorem SAt.hS {M : Mem} {g : G} {k bk : Nat} (h : SAt M g k bk) : M g.S = some (.inst 166 10 (tblF h.l)) := (Classical.choose_spec h.ex).1
theorem SAt.no {M : Mem} {g : G} {k bk : Nat} (h : SAt M g k bk) {x : Str} (e : (["reportCharacterErrors", "newLines", "dataStream", "chunk", "chunkSize", "chunkOffset", "errors", "prevNumLines", "prevNumCols", "_bufferedCharacter"] : List Str).all (fun y => (x == y) == false) = true) : tblF h.l x = none := (Classical.choose_spec h.ex).2 x e
theorem SAt.weak {M : Mem} {g : G} {n bk : Nat} (h : SAt M g n bk) : SAt M g n 0 := by
  obtain ⟨pre, c, co, b, p, S, e, _⟩ := h
  exact ⟨pre, c, co, b, p, S, e, Nat.zero_le _⟩
theorem SAt.le {M : Mem} {g : G} {n bk : Nat} (h : SAt M g n bk) : n ≤ (WT' g).length := by
  obtain ⟨pre, c, co, b, p, S, e, _⟩ := h
  unfold WT'
  rw [S.hW]
  have := S.hco
  simp; (lia)
theorem St.get {M : Mem} {g : G} {pre c : List Nat} {co : Nat} {b : List Nat} {p : Nat} (S : St M g pre c co b p) (h : co < c.length) : (WT' g)[pre.length + co]? = c[co]? := by
  unfold WT'
  rw [S.hW, List.append_assoc, List.getElem?_append_right (by (exact Nat.le_add_right _ _))]
  rw [List.getElem?_append_left (by (lia))]
  congr 1; (lia)
theorem St.take {M : Mem} {g : G} {pre c : List Nat} {co : Nat} {b : List Nat} {p : Nat} (S : St M g pre c co b p) : (WT' g).take (pre.length + co) = pre ++ c.take co := by
  unfold WT'
  have := S.hco
  rw [S.hW, List.append_assoc, List.take_length_add_append, List.take_append_of_le_length this]
theorem St.drop {M : Mem} {g : G} {pre c : List Nat} {co : Nat} {b : List Nat} {p : Nat} (S : St M g pre c co b p) : (WT' g).drop (pre.length + co) = c.drop co ++ mend (b ++ g.txt.drop p) := by
  unfold WT'
  have := S.hco
  rw [S.hW, List.append_assoc, List.drop_length_add_append, List.drop_append_of_le_length this]
theorem St.keep {M M' : Mem} {g : G} {pre c : List Nat} {co : Nat} {b : List Nat} {p : Nat} (S : St M g pre c co b p) (k : ∀ a o, M a = some o → M' a = some o) : St M' g pre c co b p := by
  obtain ⟨es, h1, h2⟩ := S.hE
  exact ⟨k _ _ S.hS, k _ _ S.hX, ⟨es, k _ _ h1, h2⟩, k _ _ S.hQ, S.hW, S.hco, S.hb, S.hp, S.len, S.small⟩
theorem St.at {M : Mem} {g : G} {pre c : List Nat} {co co' : Nat} {b : List Nat} {p : Nat} (S : St M g pre c co b p) (hco : co' ≤ c.length) :
    St (setM M g.S (.inst 166 10 (tblF (stT g c co' (pre.count 10) (trail pre) b)))) g pre c co' b p ∧ Kp g M (setM M g.S (.inst 166 10 (tblF (stT g c co' (pre.count 10) (trail pre) b)))) := by
  obtain ⟨es, h1, h2⟩ := S.hE
  have hS := S.hS
  have hX := S.hX
  have hQ := S.hQ
  have n1 : g.X ≠ g.S := fun e => by rw [e, hS] at hX; cases hX
  have n2 : g.E ≠ g.S := fun e => by rw [e, hS] at h1; cases h1
  have n3 : g.Q ≠ g.S := fun e => by rw [e, hS] at hQ; cases hQ
  exact ⟨⟨setM_same _ _ _, (setM_ne _ _ n1).trans hX, ⟨es, (setM_ne _ _ n2).trans h1, h2⟩, (setM_ne _ _ n3).trans hQ, S.hW, hco, S.hb, S.hp, S.len, S.small⟩, fun a o k1 _ _ e => (setM_ne _ _ k1).trans e⟩

section
variable {Z : Cz} {P : Params}
theorem c_char {n k bk : Nat} {M : Mem} {g : G} (hs : SAt M g k bk) :
    CL Z.cx (n + 5) (.ref 133) [.ref g.S] (fun v m => Kp g M m ∧ ((∃ x, (WT' g)[k]? = some x ∧ v = .str (mkS [x]) 0 ∧ SAt m g (k + 1) 1) ∨ ((WT' g)[k]? = none ∧ v = .none ∧ SAt m g k 0))) M := by
  (refine obEEEEEAA (hs) ?_; intro pre c co b p S e hbk)
  subst e
  refine CL_fn (binds := [("self", .ref g.S)]) (by rfl) (by kernel_rfl) ?_ (by kernel_rfl) ?_
  · intro vs e
    obtain ⟨v1, rfl, e1⟩ := vs1 e
    exact ⟨[("self", v1)], fun s hx => kp_binds hx (fun S => rfl), by simp [e1]⟩
  · intro fz L env hE he; subst he
    rw [bindL1]
    have hS := S.hS
    unfold stT at hS
    refine EX_cutR (R := fun l m => l = setL (fun x => none) "self" (.ref g.S) ∧ ∃ pre' c' co' b' p', St m g pre' c' co' b' p' ∧ co' < c'.length ∧ pre.length + co = pre'.length + co' ∧ Kp g M m) ?_ ?_
    · (refine E1_If ?_; refine TV_compare ?_; refine EVaf hE (by kernel_rfl) sH hS sgf5 (fok (by kernel_rfl)) ?_; refine EVaf hE (by kernel_rfl) sH hS sgf4 (fok (by kernel_rfl)) ?_; (with_reducible refine O2_ge_int ?_); (with_reducible refine TR_bool ?_))
      (refine And.intro ?_ ?_ <;> intro hb <;> try (cases hb; done))
      · have hcc : co = c.length := by have := of_decide_eq_true hb; have := S.hco; (clear hb hS hE hs hbk S; lia)
        (refine EX_cons ?_; refine E1_If ?_; refine TV_not ?_; refine TV_value ?_; refine EV_mcall ?_; refine EV_local hE (by kernel_rfl) sH ?_; refine GM_meth (g := 141) hS (stNo (by kernel_rfl)) (mok (by kernel_rfl)) ?_; refine CW_go1 (KeepOk.rf (by kernel_rfl)) ?_; refine AR_nil ?_)
        refine CA_CL ((c_readChunk (n := n) (k := 10240) (cv := .none) S (by (exact Nat.le_add_left _ _)) (.inl ⟨rfl, rfl, rfl⟩)).mono ?_) (by (exact Nat.le_refl _))
        (intro v m hq0; refine obEEEEAAAA hq0 ?_; clear hq0; intro ok c' b' p' hz4 S' kp h1 h2; subst hz4)
        with_reducible refine TR_bool ?_
        (refine And.intro ?_ ?_ <;> intro hb <;> try (cases hb; done))
        · have hok : ok = false := by simpa using hb
          (refine obA (h2 hok) ?_; intro hz0 hW; subst hz0)
          (refine EX_cons ?_; refine E1_Return ?_; refine EV_gnone hE (by kernel_rfl) (by kernel_rfl) ?_; refine seq_ret ?_; refine seq_ret ?_)
          refine .inr ⟨_, rfl, kp, .inr ⟨?_, rfl, pre ++ c, [], 0, b', p', S', by simp [hcc], Nat.le_refl _⟩⟩
          unfold WT'
          rw [S'.hW, hW]
          simp [hcc]
        · have hok : ok = true := by simpa using hb
          (refine EXn ?_; refine EX_nil ?_)
          exact .inl ⟨rfl, rfl, pre ++ c, c', 0, b', p', S', List.length_pos_iff.mpr (h1 hok), by simp [hcc], kp⟩
      · have hcc : co < c.length := by have := of_decide_eq_false hb; (clear hb hS hE hs hbk S; lia)
        refine EX_nil ?_
        exact .inl ⟨rfl, rfl, pre, c, co, b, p, S, hcc, rfl, Kp.refl _ _⟩
    · (intro l m hq0; refine obAEEEEEAAA hq0 ?_; clear hq0; intro hz0 pre' c' co' b' p' S' hlt hk' kp; subst hz0)
      have hS := S'.hS
      unfold stT at hS
      obtain ⟨x, hx⟩ : ∃ x, c'[co']? = some x := ⟨_, List.getElem?_eq_getElem hlt⟩
      have hlen : c'.length ≤ 100000 := by
        have h1 := mend_length g.txt
        rw [S'.hW] at h1
        have := S'.len
        simp at h1; (clear hx hS kp hk' hlt S' hE hs hbk S; lia)
      (refine EX_cons ?_; refine E1_AssignName ?_ rfl; refine EVaf hE (by kernel_rfl) sH hS sgf5 (fok (by kernel_rfl)) ?_; refine STn hE (by kernel_rfl) ?_; refine EX_cons ?_; refine E1_AssignName ?_ rfl; refine EV_sub ?_; refine EVaf hE (by kernel_rfl) (sS sH) hS sgf3 (fok (by kernel_rfl)) ?_; refine EV_local hE (by kernel_rfl) sH ?_)
      refine SUB_str (j := co') (c := x) (by (lia)) (by rw [if_neg (by (lia))]) hx ?_
      (refine STn hE (by kernel_rfl) ?_; refine EX_cons ?_; refine E1_AssignAttr ?_ rfl; refine EV_binop ?_; refine EV_local hE (by kernel_rfl) (sS sH) ?_; refine EV_int ?_; (with_reducible refine O2_add_int ?_); refine EV_local hE (by kernel_rfl) (sS (sS sH)) ?_; refine SA_tbl hS (sok (by kernel_rfl)) (.inl ⟨(by kernel_rfl), rfl⟩) (by decide) (pS (pS (pS (pS (pS pH))))) ?_; refine seq_next ?_; refine EX_cons ?_; refine E1_Return ?_; refine EV_local hE (by kernel_rfl) sH ?_; refine seq_ret ?_)
      (refine obA (S'.at (co' := co' + 1) (by (assumption))) ?_; intro S2 kp2)
      rw [hk', S'.get hlt]
      refine ⟨kp.trans kp2, .inl ⟨x, hx, rfl, pre', c', co' + 1, b', p', S2, by (lia), by (exact Nat.le_add_left _ _)⟩⟩

theorem c_unget_none {n k bk : Nat} {M : Mem} {g : G} (hs : SAt M g k bk) : CL Z.cx (n + 1) (.ref 163) [.ref g.S, .none] (fun v m => v = .none ∧ m = M) M := by
  refine CL_fn (binds := [("self", .ref g.S), ("char", .none)]) (by rfl) (by kernel_rfl) ?_ (by kernel_rfl) ?_
  · intro vs e
    obtain ⟨v1, v2, rfl, e1, e2⟩ := vs2 e
    exact ⟨[("self", v1), ("char", v2)], fun s hx => kp_binds hx (fun S => rfl), by simp [e1, e2]⟩
  · intro fz L env hE he; subst he
    rw [bindL2]
    (refine IFc hE (by kernel_rfl) sH ?_; refine EV_gnone hE (by kernel_rfl) (by kernel_rfl) ?_; (with_reducible refine O2_isnot_none ?_); (with_reducible refine TR_bool ?_); (refine And.intro ?_ ?_ <;> intro hb <;> try (cases hb; done)); refine EXn ?_; refine EX_nil ?_)
    exact ⟨rfl, rfl⟩
theorem c_unget {n k : Nat} {M : Mem} {g : G} {x : Nat} (hs : SAt M g (k + 1) 1) (hx : (WT' g)[k]? = some x) :
    CL Z.cx (n + 1) (.ref 163) [.ref g.S, .str (mkS [x]) 0] (fun v m => v = .none ∧ Kp g M m ∧ SAt m g k 0) M := by
  (refine obEEEEEAA (hs) ?_; intro pre c co b p S e hbk)
  obtain ⟨co, rfl⟩ : ∃ j, co = j + 1 := ⟨co - 1, by (lia)⟩
  have hk : k = pre.length + co := by (lia)
  have hlt : co < c.length := S.hco
  have hc : c[co]? = some x := by rw [← hx, hk, St.get (co := co) ⟨S.at (co' := co) (by (exact Nat.le_of_lt (by assumption))) |>.1.hS, S.at (co' := co) (by (exact Nat.le_of_lt (by assumption))) |>.1.hX, S.at (co' := co) (by (exact Nat.le_of_lt (by assumption))) |>.1.hE, S.at (co' := co) (by (exact Nat.le_of_lt (by assumption))) |>.1.hQ, S.hW, by (exact Nat.le_of_lt (by assumption)), S.hb, S.hp, S.len, S.small⟩ hlt]
  refine CL_fn (binds := [("self", .ref g.S), ("char", .str (mkS [x]) 0)]) (by rfl) (by kernel_rfl) ?_ (by kernel_rfl) ?_
  · intro vs e
    obtain ⟨v1, v2, rfl, e1, e2⟩ := vs2 e
    exact ⟨[("self", v1), ("char", v2)], fun s hx => kp_binds hx (fun S => rfl), by simp [e1, e2]⟩
  · intro fz L env hE he; subst he
    rw [bindL2]
    have hS := S.hS
    unfold stT at hS
    have hlen : c.length ≤ 100000 := by
      have h1 := mend_length g.txt
      rw [S.hW] at h1
      have := S.len
      simp at h1; (clear hS hE hc hlt hk hbk S hx hs; lia)
    (refine IFc hE (by kernel_rfl) sH ?_; refine EV_gnone hE (by kernel_rfl) (by kernel_rfl) ?_; (with_reducible refine O2_isnot_none ?_); (with_reducible refine TR_bool ?_))
    (refine And.intro ?_ ?_ <;> intro hb <;> try (cases hb; done))
    · (refine EX_cons ?_; refine E1_If ?_; refine TV_compare ?_; refine EVaf hE (by kernel_rfl) (sS sH) hS sgf5 (fok (by kernel_rfl)) ?_; refine EV_int ?_; (with_reducible refine O2_eq_int ?_); (with_reducible refine TR_bool ?_))
      (refine And.intro ?_ ?_ <;> intro hb <;> try (cases hb; done))
      · (refine EX_cons ?_; refine E1_AugAttr ?_; refine EV_local hE (by kernel_rfl) (sS sH) ?_; refine GA_field hS sgf5 (fok (by kernel_rfl)) ?_; refine EV_int ?_; (with_reducible refine O2_isub_int ?_); refine SA_tbl hS (sok (by kernel_rfl)) (.inl ⟨(by kernel_rfl), rfl⟩) (by decide) (pS (pS (pS (pS (pS pH))))) ?_; refine seq_next ?_; refine EX_cons ?_; refine E1_Assert ?_; refine TV_compare ?_; refine EV_sub ?_; refine EVaf hE (by kernel_rfl) (sS sH) (setM_same _ _ _) (tS (tS (tS tH))) (fok (by kernel_rfl)) ?_; refine EVaf hE (by kernel_rfl) (sS sH) (setM_same _ _ _) (tS (tS (tS (tS (tS tH))))) (fok (by kernel_rfl)) ?_)
        have e1 : (((co + 1 : Nat) : Int) - 1) = ((co : Nat) : Int) := by (lia)
        rw [e1]
        skip
        refine SUB_str (j := co) (c := x) (by (lia)) (by rw [if_neg (by (lia))]) hc ?_
        (refine EV_local hE (by kernel_rfl) sH ?_; (with_reducible refine O2_eq_str ?_); (with_reducible refine TR_bool ?_))
        (refine obA (S.at (co' := co) (by (exact Nat.le_of_lt (by assumption)))) ?_; intro S2 kp2)
        refine ⟨by simp, ?_⟩
        (refine seq_next ?_; refine EXn ?_; refine EXn ?_; refine EX_nil ?_)
        exact ⟨rfl, kp2, pre, c, co, b, p, S2, hk, Nat.zero_le _⟩

theorem c_position {n k bk : Nat} {M : Mem} {g : G} (hs : SAt M g k bk) :
    CL Z.cx (n + 2) (.ref 126) [.ref g.S] (fun v m => ∃ D, v = .ref D ∧ m D = some (.tup [.int (((WT' g).take k).count 10 + 1 : Nat) 0, .int (trail ((WT' g).take k) : Nat) 0]) ∧ ∀ a o, M a = some o → m a = some o) M := by
  (refine obEEEEEAA (hs) ?_; intro pre c co b p S e hbk)
  subst e
  refine CL_fn (binds := [("self", .ref g.S)]) (by rfl) (by kernel_rfl) ?_ (by kernel_rfl) ?_
  · intro vs e
    obtain ⟨v1, rfl, e1⟩ := vs1 e
    exact ⟨[("self", v1)], fun s hx => kp_binds hx (fun S => rfl), by simp [e1]⟩
  · intro fz L env hE he; subst he
    rw [bindL1]
    have hS := S.hS
    have hpos := c__position (Z := Z) (n := n) hS S.hco
    unfold stT at hS
    (refine EX_cons ?_; refine E1_AssignTuple ?_ rfl rfl rfl; refine EV_mcall ?_; refine EV_local hE (by kernel_rfl) sH ?_; refine GM_meth (g := 119) hS (stNo (by kernel_rfl)) (mok (by kernel_rfl)) ?_; refine CW_go1 (KeepOk.rf (by kernel_rfl)) ?_; refine AR_cons ?_; refine EVaf hE (by kernel_rfl) sH hS sgf5 (fok (by kernel_rfl)) ?_; refine AR_nil ?_)
    refine CA_CL (hpos.mono ?_) (by (exact Nat.lt_succ_self _))
    rintro v m' ⟨D, hD, rfl, rfl⟩
    refine ⟨D, _, rfl, .tup (setM_same _ _ _), rfl, ?_⟩
    (refine ATs_cons ?_; refine AT_name ?_; refine ST_local hE (by kernel_rfl) ?_; refine ATs_cons ?_; refine AT_name ?_; refine ST_local hE (by kernel_rfl) ?_; refine ATs_nil ?_; refine seq_next ?_; refine EX_cons ?_; refine E1_Return ?_; refine EV_tuple ?_; refine AR_cons ?_; refine EV_binop ?_; refine EV_local hE (by kernel_rfl) (sS sH) ?_; refine EV_int ?_; (with_reducible refine O2_add_int ?_); refine AR_cons ?_; refine EV_local hE (by kernel_rfl) sH ?_; refine AR_nil ?_)
    refine ⟨by simp, fun D' hD' => ?_⟩
    (refine seq_ret ?_; (with_reducible first | refine exr ?_ | refine ⟨_, rfl, ?_⟩))
    refine ⟨?_, fun a o h => setM_old hD' (setM_old hD h)⟩
    have hc : (c.take co).length = co := by have := S.hco; simp; (lia)
    rw [setM_same, S.take, List.count_append, trail_append, hc]
    have e2 : (((pre.count 10 + (c.take co).count 10 + 1 : Nat)) : Int) = ((pre.count 10 + (c.take co).count 10 : Nat) : Int) + 1 := by (lia)
    rw [e2]
end
end Mine
end
section
open PySem PySem.W PyProof.Rows
set_option maxRecDepth 100000
set_option maxHeartbeats 4000000
set_option linter.unusedVariables false
namespace Mine

theorem inter_nil (ts : List (List Nat)) : ([] : List Nat).intercalate ts = ts.flatten := by
  have : ∀ ts : List (List Nat), (List.intersperse ([] : List Nat) ts).flatten = ts.flatten := by
    intro ts
    induction ts with
    | nil => rfl
    | cons a r ih =>
      cases r with
      | nil => simp
      | cons b r => simp only [List.intersperse, List.flatten_cons, List.nil_append] at ih ⊢; rw [ih]
  exact this ts
theorem joinOk_nil (ts : List (List Nat)) (h : ts.flatten.length ≤ 16777216) : JoinOk (mkS []) (ts.map mkS) = true := by
  unfold JoinOk
  rw [PySem.StrLaws.joinTotal]
  have e : (2 : Nat) ^ 24 = 16777216 := by decide
  have : ((ts.map mkS).map (·.length)).sum = ts.flatten.length := by
    rw [List.length_flatten, List.map_map]
    congr 1
  rw [this, mkS_length]
  unfold Builtin.Str.tooLong sizeLine
  rw [Bool.not_eq_true']
  refine decide_eq_false ?_
  have e0 : ([] : List Nat).length = 0 := rfl
  rw [e0]
  (lia)
noncomputable def upTo (g : G) (ts : List (List Nat)) (k : Nat) : List Nat := ((WT' g).drop k).takeWhile fun x => !decide ([x] ∈ ts)
theorem upTo_eq {g : G} {ts : List (List Nat)} {k j : Nat} (hk : k ≤ j) (hj : j ≤ (WT' g).length) (hno : ∀ i x, k ≤ i → i < j → (WT' g)[i]? = some x → [x] ∉ ts) (hend : ∀ x, (WT' g)[j]? = some x → [x] ∈ ts) :
    upTo g ts k = ((WT' g).drop k).take (j - k) := by
  unfold upTo
  have e : (WT' g).drop k = ((WT' g).drop k).take (j - k) ++ (WT' g).drop j := by
    conv => lhs; rw [← List.take_append_drop (j - k) ((WT' g).drop k)]
    rw [List.drop_drop]; congr 2; (lia)
  conv => lhs; rw [e]
  have h1 : (((WT' g).drop k).take (j - k)).takeWhile (fun x => !decide ([x] ∈ ts)) = ((WT' g).drop k).take (j - k) := by
    refine tw_all _ _ fun x hx => ?_
    obtain ⟨i, hi⟩ := List.getElem?_of_mem hx
    rw [List.getElem?_take] at hi
    split at hi
    · rw [List.getElem?_drop] at hi
      have := hno (k + i) x (by (exact Nat.le_add_right _ _)) (by (clear hi hx e hend hno hj hk; omega)) hi
      simpa using this
    · cases hi
  have h2 : ((WT' g).drop j).takeWhile (fun x => !decide ([x] ∈ ts)) = [] := by
    cases q : (WT' g).drop j with
    | nil => rfl
    | cons x r =>
      have : (WT' g)[j]? = some x := by
        have := congrArg (fun l => l[0]?) q
        simpa using this
      rw [List.takeWhile_cons]
      have := hend x this
      simp [this]
  rw [List.takeWhile_append, h1, h2]
  simp

theorem St.off {M : Mem} {g : G} {pre c : List Nat} {co : Nat} {b : List Nat} {p : Nat} {R : Addr} {o : AO} (S : St M g pre c co b p) (h1 : R ≠ g.S) (h2 : R ≠ g.X) (h3 : R ≠ g.E) (h4 : R ≠ g.Q) : St (setM M R o) g pre c co b p := by
  obtain ⟨es, q1, q2⟩ := S.hE
  exact ⟨(setM_ne _ _ h1.symm).trans S.hS, (setM_ne _ _ h2.symm).trans S.hX, ⟨es, (setM_ne _ _ h3.symm).trans q1, q2⟩, (setM_ne _ _ h4.symm).trans S.hQ, S.hW, S.hco, S.hb, S.hp, S.len, S.small⟩
theorem RdM.kp {X : Cx} {M M' : Mem} {g : G} {a : Addr} {xs : List Value} {pre c : List Nat} {co : Nat} {b : List Nat} {p : Nat} (h : RdM X M a (.tup xs)) (S : St M g pre c co b p) (k : ∀ d o, d ≠ g.S → d ≠ g.X → d ≠ g.E → M d = some o → M' d = some o) : RdM X M' a (.tup xs) := by
  rcases h with ⟨h, _⟩ | h
  · obtain ⟨es, h1, _⟩ := S.hE
    refine .inl ⟨k _ _ (fun e => ?_) (fun e => ?_) (fun e => ?_) h, rfl⟩
    · have := S.hS; rw [← e, h] at this; cases this
    · have := S.hX; rw [← e, h] at this; cases this
    · rw [← e, h] at h1; cases h1
  · exact .inr h

section
variable {Z : Cz} {P : Params}
theorem c_charsUntil {n k bk : Nat} {M : Mem} {g : G} {ca : Addr} {ts : List (List Nat)} (hs : SAt M g k bk) (hca : RdM Z.cx M ca (.tup (strsV ts))) :
    CL Z.cx (n + 5) (.ref 156) [.ref g.S, .ref ca] (fun v m => v = .str (mkS (upTo g ts k)) 0 ∧ Kp g M m ∧ SAt m g (k + (upTo g ts k).length) 0) M := by
  (refine obEEEEEAA (hs) ?_; intro pre c co b p S e hbk)
  subst e
  refine CL_fn (binds := [("self", .ref g.S), ("characters", .ref ca), ("opposite", .bool false)]) (by rfl) (by kernel_rfl) ?_ (by kernel_rfl) ?_
  · intro vs e
    obtain ⟨v1, v2, rfl, e1, e2⟩ := vs2 e
    exact ⟨[("self", v1), ("characters", v2), ("opposite", .bool false)], fun s hx => kp_binds hx (fun S => rfl), by simp [e1, e2]⟩
  · intro fz L env hE he; subst he; refine EX_gen fun Qg hQ => ?_
    rw [bindL3]
    have hlen : (WT' g).length ≤ 100000 := by
      have h1 := mend_length g.txt
      have := S.len
      unfold WT'; (lia)
    refine EX_cons ?_
    (refine E1_AssignName ?_ rfl; refine EV_list ?_; refine AR_nil ?_)
    refine ⟨by simp, fun R hR => ?_⟩
    refine ST_local hE (by kernel_rfl) ?_
    refine seq_next ?_
    have hRE : R ≠ g.E := fun e => by refine obEA (S.hE) ?_; intro es0 hE0 _; rw [e, hE0] at hR; cases hR
    have keepR : ∀ a o, M a = some o → setM M R (.lst []) a = some o := fun a o h => setM_old hR h
    -- the loop
    refine EX_cutG (R := fun l m => ∃ parts j, l "self" = some (.ref g.S) ∧ l "rv" = some (.ref R) ∧ m R = some (.lst (strsV parts)) ∧ pre.length + co ≤ j ∧ parts.flatten = ((WT' g).drop (pre.length + co)).take (j - (pre.length + co)) ∧ SAt m g j 0 ∧
      (∀ i x, pre.length + co ≤ i → i < j → (WT' g)[i]? = some x → [x] ∉ ts) ∧ (∀ x, (WT' g)[j]? = some x → [x] ∈ ts) ∧ Kp g M m) ?_ ?_
    · intro Rg1 hR1; refine E1_WhileG (I := fun kk l m => ∃ parts pre' c' co' b' p', kk = (WT' g).length - (pre'.length + co') + (if parts = [] then 1 else 0) ∧ l "self" = some (.ref g.S) ∧ l "characters" = some (.ref ca) ∧ l "opposite" = some (.bool false) ∧ l "rv" = some (.ref R) ∧
        m R = some (.lst (strsV parts)) ∧ pre.length + co ≤ pre'.length + co' ∧ parts.flatten = ((WT' g).drop (pre.length + co)).take (pre'.length + co' - (pre.length + co)) ∧ St m g pre' c' co' b' p' ∧
        (∀ i x, pre.length + co ≤ i → i < pre'.length + co' → (WT' g)[i]? = some x → [x] ∉ ts) ∧ parts.length ≤ pre'.length + co' + 1 ∧ (parts ≠ [] → co' < c'.length) ∧ Kp g M m) _
        ⟨[], pre, c, co, b, p, rfl, rfl, rfl, rfl, rfl, setM_same _ _ _, Nat.le_refl _, by simp, S.keep keepR, fun i x h1 h2 => by (lia), by simp, fun h => absurd rfl h, fun a o _ _ _ h => keepR a o h⟩ ?_
      rintro kk l m ⟨parts, pre', c', co', b', p', rfl, l1, l2, l3, l4, mR, hle, hfl, S', hno, hpl, hpc, kp⟩ Rw1 hRw1
      have hS := S'.hS
      unfold stT at hS
      have hca' := hca.kp S kp
      (refine obEA (S'.hE) ?_; intro es hEr _)
      have hRS : R ≠ g.S := fun e => by rw [e, hS] at mR; cases mR
      have hRX : R ≠ g.X := fun e => by have := S'.hX; rw [← e, mR] at this; cases this
      have hcl : pre'.length + c'.length ≤ (WT' g).length := by
        unfold WT'; rw [S'.hW]; simp
      refine TV_value ?_
      (refine EV_bool ?_; (with_reducible refine TR_bool ?_))
      (refine And.intro ?_ ?_ <;> intro hb <;> try (cases hb; done))
      (refine EX_cons ?_; refine E1_AssignName ?_ rfl; refine EVaf hE (by kernel_rfl) l1 hS sgf5 (fok (by kernel_rfl)) ?_; refine STn hE (by kernel_rfl) ?_)
      refine EX_cutG (R := fun l' m' => m' = m ∧ ∃ e, l' "end" = some (.int (e : Nat) 0) ∧ l' "self" = some (.ref g.S) ∧ l' "characters" = some (.ref ca) ∧ l' "opposite" = some (.bool false) ∧ l' "rv" = some (.ref R) ∧ co' ≤ e ∧ e ≤ c'.length ∧
        (∀ i x, co' ≤ i → i < e → c'[i]? = some x → [x] ∉ ts) ∧ (∀ x, c'[e]? = some x → [x] ∈ ts)) ?_ ?_
      · intro Rg2 hR2; refine E1_WhileG (I := fun jj l' m' => m' = m ∧ ∃ e, jj = c'.length - e ∧ l' "end" = some (.int (e : Nat) 0) ∧ l' "self" = some (.ref g.S) ∧ l' "characters" = some (.ref ca) ∧ l' "opposite" = some (.bool false) ∧ l' "rv" = some (.ref R) ∧ co' ≤ e ∧ e ≤ c'.length ∧
          (∀ i x, co' ≤ i → i < e → c'[i]? = some x → [x] ∉ ts)) (c'.length - co') ⟨rfl, co', rfl, by exact sH, by exact (sS l1), by exact (sS l2), by exact (sS l3), by exact (sS l4), Nat.le_refl _, S'.hco, fun i x h1 h2 => by (lia)⟩ ?_
        rintro jj l' m' ⟨rfl, e, rfl, k0, k1, k2, k3, k4, e1, e2, e3⟩ Rw2 hRw2
        (refine TV_boolop ?_; refine TAll_and ?_; refine TV_compare ?_; refine EV_local hE (by kernel_rfl) k0 ?_; refine EVaf hE (by kernel_rfl) k1 hS sgf4 (fok (by kernel_rfl)) ?_; (with_reducible refine O2_ne_int ?_); (with_reducible refine TR_bool ?_))
        (refine And.intro ?_ ?_ <;> intro hb <;> try (cases hb; done))
        · have hlt : e < c'.length := by
            have : ¬ ((e : Int) = (c'.length : Int)) := by simpa using hb
            (clear hb hRw2 e3 e1 k4 k3 k2 k1 k0 hR2 hEr hca' hS kp S' mR hcl hRX hRS hRw1 hpc hpl hno hfl hle l4 l3 l2 l1 hR1 keepR hRE hR hlen hQ hE hs hbk S hca; lia)
          obtain ⟨x, hx⟩ : ∃ x, c'[e]? = some x := ⟨_, List.getElem?_eq_getElem hlt⟩
          (refine TAll_and ?_; refine TV_compare ?_; refine EV_compare ?_; refine EV_sub ?_; refine EVaf hE (by kernel_rfl) k1 hS sgf3 (fok (by kernel_rfl)) ?_; refine EV_local hE (by kernel_rfl) k0 ?_)
          refine SUB_str (j := e) (c := x) (by (clear hx hb hRw2 e3 e2 e1 k4 k3 k2 k1 k0 hR2 hEr hca' hS kp S' mR hRX hRS hRw1 hpc hpl hno hfl hle l4 l3 l2 l1 hR1 keepR hRE hR hQ hE hs hbk S hca; lia)) (by rw [if_neg (by (lia))]) hx ?_
          refine EV_local hE (by kernel_rfl) k2 ?_
          refine O2_in_tup hca' ?_
          (refine EV_local hE (by kernel_rfl) k3 ?_; (with_reducible refine O2_eq_bool ?_); (with_reducible refine TR_bool ?_))
          (refine And.intro ?_ ?_ <;> intro hb <;> try (cases hb; done))
          · have hn : [x] ∉ ts := by simpa using hb
            (refine TAll_and_nil ?_; (refine And.intro ?_ ?_ <;> intro hb <;> try (cases hb; done)); refine EX_cons ?_; refine E1_AugLocal hE (by kernel_rfl) k0 ?_; refine EV_int ?_; (with_reducible refine O2_iadd_int ?_); refine STn hE (by kernel_rfl) ?_; refine EX_nil ?_)
            refine hRw2 (c'.length - (e + 1)) _ _ (by (lia)) ⟨rfl, e + 1, rfl, ?_, by exact (sS k1), by exact (sS k2), by exact (sS k3), by exact (sS k4), by (exact Nat.le_succ_of_le (by assumption)), hlt, fun i y h1 h2 hy => ?_⟩
            · exact setL_self _ _ _
            · by_cases hi : i < e
              · exact e3 i y h1 hi hy
              · have : i = e := by (lia)
                subst this
                rw [hx] at hy; cases hy; exact hn
          · have hn : [x] ∈ ts := by simpa using hb
            (refine And.intro ?_ ?_ <;> intro hb <;> try (cases hb; done))
            exact ⟨rfl, hR2 _ _ ⟨rfl, e, k0, k1, k2, k3, k4, e1, e2, e3, fun y hy => by rw [hx] at hy; cases hy; exact hn⟩⟩
        · have heq : e = c'.length := by
            have : ((e : Int) = (c'.length : Int)) := by simpa using hb
            (clear hb hRw2 e3 e2 e1 k4 k3 k2 k1 k0 hR2 hEr hca' hS kp S' mR hcl hRX hRS hRw1 hpc hpl hno hfl hle l4 l3 l2 l1 hR1 keepR hRE hR hlen hQ hE hs hbk S hca; lia)
          (refine And.intro ?_ ?_ <;> intro hb <;> try (cases hb; done))
          exact ⟨rfl, hR2 _ _ ⟨rfl, e, k0, k1, k2, k3, k4, e1, e2, e3, fun y hy => by rw [heq, List.getElem?_eq_none (Nat.le_refl _)] at hy; cases hy⟩⟩
      · (intro l2 m2 hq0; refine obAEAAAAAAAA hq0 ?_; clear hq0; intro hz0 e k0 k1 k2 k3 k4 e1 e2 e3 e4; subst hz0)
        have hQR : R ≠ g.Q := fun z => by have := S'.hQ; rw [← z, mR] at this; cases this
        have hcl2 : c'.length ≤ 100000 := by (lia)
        have hend : ∀ {co2 : Nat}, e = co2 → co2 < c'.length → ∀ x, (WT' g)[pre'.length + co2]? = some x → [x] ∈ ts := fun {co2} h1 h2 x hx => by
          subst h1
          refine e4 x ?_
          rw [← hx]
          exact (St.get (co := e) ⟨(S'.at (co' := e) (by (assumption))).1.hS, (S'.at (co' := e) (by (assumption))).1.hX, (S'.at (co' := e) (by (assumption))).1.hE, (S'.at (co' := e) (by (assumption))).1.hQ, S'.hW, by (assumption), S'.hb, S'.hp, S'.len, S'.small⟩ h2).symm
        have hno2 : ∀ co2, co2 ≤ e → ∀ i x, pre.length + co ≤ i → i < pre'.length + co2 → (WT' g)[i]? = some x → [x] ∉ ts := fun co2 hc2 i x h1 h2 hx => by
          by_cases hi : i < pre'.length + co'
          · exact hno i x h1 hi hx
          · obtain ⟨d, rfl⟩ : ∃ d, i = pre'.length + d := ⟨i - pre'.length, by (clear hx h2 h1 hc2 hend hcl2 hQR hEr hca' hS kp S' mR e4 e3 e2 e1 k4 k3 k2 k1 k0 hb hcl hRX hRS hRw1 hpc hpl hno hfl hle l4 l3 l1 hR1 keepR hRE hR hlen hQ hE hs hbk S hca; lia)⟩
            refine e3 d x (by (clear hx h2 h1 hc2 hend hcl2 hQR hEr hca' hS kp S' mR e4 e3 e2 e1 k4 k3 k2 k1 k0 hb hcl hRX hRS hRw1 hpc hpl hno hfl hle l4 l3 l1 hR1 keepR hRE hR hlen hQ hE hs hbk S hca; lia)) (by (clear hi hx h1 hend hcl2 hQR hEr hca' hS kp S' mR e4 e3 e2 e1 k4 k3 k2 k1 k0 hb hcl hRX hRS hRw1 hpc hpl hno hfl hle l4 l3 l1 hR1 keepR hRE hR hlen hQ hE hs hbk S hca; lia)) ?_
            rw [← hx]
            exact (St.get (co := d) ⟨(S'.at (co' := d) (by (lia))).1.hS, (S'.at (co' := d) (by (lia))).1.hX, (S'.at (co' := d) (by (lia))).1.hE, (S'.at (co' := d) (by (lia))).1.hQ, S'.hW, by (lia), S'.hb, S'.hp, S'.len, S'.small⟩ (by (lia))).symm
        have hfl2 : ∀ e, co' ≤ e → e ≤ c'.length → (parts ++ [(c'.take e).drop co']).flatten = ((WT' g).drop (pre.length + co)).take (pre'.length + e - (pre.length + co)) := fun e h1 h2 => by
          rw [List.flatten_append, hfl]
          have hd := S'.drop
          have e6 : pre'.length + e - (pre.length + co) = (pre'.length + co' - (pre.length + co)) + (e - co') := by (clear hd h2 hno2 hend hcl2 hQR hEr hca' hS kp S' mR e4 e3 e2 e1 k4 k3 k2 k1 k0 hb hcl hRX hRS hRw1 hpc hpl hno hfl l4 l3 l1 hR1 keepR hRE hR hlen hQ hE hs hbk S hca; lia)
          have e7 : pre.length + co + (pre'.length + co' - (pre.length + co)) = pre'.length + co' := by (clear e6 hd h2 h1 hno2 hend hcl2 hQR hEr hca' hS kp S' mR e4 e3 e2 e1 k4 k3 k2 k1 k0 hb hcl hRX hRS hRw1 hpc hpl hno hfl l4 l3 l1 hR1 keepR hRE hR hlen hQ hE hs hbk S hca; omega)
          rw [e6, List.take_add, List.drop_drop, e7, hd, List.take_append_of_le_length (by simp; (lia)), List.drop_take]
          simp
        refine EX_cutF (R := fun l' m' => l' = l2 ∧ m' = m2 ∧ e = c'.length) ?_ ?_
        · (refine E1_If ?_; refine TV_compare ?_; refine EV_local hE (by kernel_rfl) k0 ?_; refine EVaf hE (by kernel_rfl) k1 hS sgf5 (fok (by kernel_rfl)) ?_; (with_reducible refine O2_eq_int ?_); (with_reducible refine TR_bool ?_))
          (refine And.intro ?_ ?_ <;> intro hb <;> try (cases hb; done))
          · have he1 : e = co' := by have := of_decide_eq_true hb; (clear hb hfl2 hno2 hend hcl2 hQR hEr hca' hS kp S' mR e4 e3 e2 e1 k4 k3 k2 k1 k0 hcl hRX hRS hRw1 hpc hpl hno hfl hle l4 l3 l1 hR1 keepR hRE hR hlen hQ hE hs hbk S hca; lia)
            (refine EX_cons ?_; refine E1_If ?_; refine TV_compare ?_; refine EVaf hE (by kernel_rfl) k1 hS sgf5 (fok (by kernel_rfl)) ?_; refine EVaf hE (by kernel_rfl) k1 hS sgf4 (fok (by kernel_rfl)) ?_; (with_reducible refine O2_ne_int ?_); (with_reducible refine TR_bool ?_))
            (refine And.intro ?_ ?_ <;> intro hb <;> try (cases hb; done))
            · have hne : co' ≠ c'.length := by
                have : ¬ ((co' : Int) = (c'.length : Int)) := by simpa using hb
                (clear hb he1 hfl2 hno2 hend hcl2 hQR hEr hca' hS kp S' mR e4 e3 e2 e1 k4 k3 k2 k1 k0 hcl hRX hRS hRw1 hpc hpl hno hfl hle l4 l3 l1 hR1 keepR hRE hR hlen hQ hE hs hbk S hca; lia)
              (refine EX_cons ?_; refine E1_Break ?_)
              exact .inr ⟨by simp, rfl, hR1 _ _ ⟨parts, pre'.length + co', k1, k4, mR, hle, hfl, ⟨pre', c', co', b', p', S', rfl, Nat.zero_le _⟩, hno, hend he1 (by (clear hb hfl2 hno2 hend hcl2 hQR hEr hca' hS kp S' mR e4 e3 e1 k4 k3 k2 k1 k0 hcl hRX hRS hRw1 hpc hpl hno hfl hle l4 l3 l1 hR1 keepR hRE hR hlen hQ hE hs hbk S hca; lia)), kp⟩⟩
            · have hne : co' = c'.length := by
                have : ((co' : Int) = (c'.length : Int)) := by simpa using hb
                (lia)
              (refine EXn ?_; refine EX_nil ?_)
              exact .inl ⟨rfl, rfl, rfl, by (lia)⟩
          · have he1 : ¬ e = co' := by have := of_decide_eq_false hb; (clear hb hfl2 hno2 hend hcl2 hQR hEr hca' hS kp S' mR e4 e3 e2 e1 k4 k3 k2 k1 k0 hcl hRX hRS hRw1 hpc hpl hno hfl hle l4 l3 l1 hR1 keepR hRE hR hlen hQ hE hs hbk S hca; lia)
            (refine IFc hE (by kernel_rfl) k0 ?_; refine EVaf hE (by kernel_rfl) k1 hS sgf4 (fok (by kernel_rfl)) ?_; (with_reducible refine O2_ne_int ?_); (with_reducible refine TR_bool ?_))
            (refine And.intro ?_ ?_ <;> intro hb <;> try (cases hb; done))
            · have hne : e ≠ c'.length := by
                have : ¬ ((e : Int) = (c'.length : Int)) := by simpa using hb
                (clear hb he1 hfl2 hno2 hend hcl2 hQR hEr hca' hS kp S' mR e4 e3 e2 e1 k4 k3 k2 k1 k0 hcl hRX hRS hRw1 hpc hpl hno hfl hle l4 l3 l1 hR1 keepR hRE hR hlen hQ hE hs hbk S hca; lia)
              (refine EX_cons ?_; refine E1_Expr ?_ (by rfl) (by rfl); refine EV_mcall ?_; refine EV_local hE (by kernel_rfl) k4 ?_; (with_reducible refine GM_append mR ?_); refine CW_go1 (KeepOk.bf _) ?_; refine AR_cons ?_; refine EV_slice_str ?_; refine EVaf hE (by kernel_rfl) k1 hS sgf3 (fok (by kernel_rfl)) ?_; (with_reducible first | refine exr ?_ | refine ⟨_, rfl, ?_⟩))
              refine ⟨by (exact Nat.le_trans (by assumption) (by decide)), ?_⟩
              (refine PT_some ?_; refine EVaf hE (by kernel_rfl) k1 hS sgf5 (fok (by kernel_rfl)) ?_; (with_reducible first | refine exr ?_ | refine ⟨_, rfl, ?_⟩); refine PT_some ?_; refine EV_local hE (by kernel_rfl) k0 ?_; (with_reducible first | refine exr ?_ | refine ⟨_, rfl, ?_⟩); refine AR_nil ?_; refine CA_append mR ?_ ?_; rotate_left; refine seq_next ?_; refine EX_cons ?_; refine E1_AssignAttr ?_ rfl; refine EV_local hE (by kernel_rfl) k0 ?_; refine EV_local hE (by kernel_rfl) k1 ?_; refine SA_tbl ((setM_ne _ _ (Ne.symm hRS)).trans hS) (sok (by kernel_rfl)) (.inl ⟨(by kernel_rfl), rfl⟩) (by decide) (pS (pS (pS (pS (pS pH))))) ?_; refine seq_next ?_; refine EX_cons ?_; refine E1_Break ?_; rotate_left)
              · simp [strsV]; (clear hne hb he1 hfl2 hno2 hend hcl2 hQR hEr hca' hS kp S' mR e4 e3 k4 k3 k2 k1 k0 hRX hRS hRw1 hpc hno hfl hle l4 l3 l1 hR1 keepR hRE hR hQ hE hs hbk S hca; lia)
              · rw [pySl_nat]
                obtain ⟨S2, kp2⟩ := (S'.off (o := .lst (strsV parts ++ [.str (mkS ((c'.take e).drop co')) 0])) hRS hRX hRE hQR).at (co' := e) e2
                refine .inr ⟨by simp, rfl, hR1 _ _ ⟨parts ++ [(c'.take e).drop co'], pre'.length + e, by exact k1, by exact k4, (setM_ne _ _ hRS).trans ((setM_same _ _ _).trans (by simp [strsV])), by (clear kp2 S2 hne hb he1 hfl2 hno2 hend hcl2 hQR hEr hca' hS kp S' mR e4 e3 e2 k4 k3 k2 k1 k0 hcl hRX hRS hRw1 hpc hpl hno hfl l4 l3 l1 hR1 keepR hRE hR hlen hQ hE hs hbk S hca; lia), hfl2 e e1 e2, ⟨pre', c', e, b', p', S2, rfl, Nat.zero_le _⟩, hno2 e (Nat.le_refl _), hend rfl (by (clear kp2 S2 hb he1 hfl2 hno2 hend hcl2 hQR hEr hca' hS kp S' mR e4 e3 e1 k4 k3 k2 k1 k0 hcl hRX hRS hRw1 hpc hpl hno hfl hle l4 l3 l1 hR1 keepR hRE hR hlen hQ hE hs hbk S hca; lia)),
                  fun a o h1 h2 h3 h => (setM_ne _ _ h1).trans ((setM_ne _ _ (fun z => by rw [z, hR] at h; cases h)).trans (kp a o h1 h2 h3 h))⟩⟩
            · have hne : e = c'.length := by
                have : ((e : Int) = (c'.length : Int)) := by simpa using hb
                (clear hb he1 hfl2 hno2 hend hcl2 hQR hEr hca' hS kp S' mR e4 e3 e2 e1 k4 k3 k2 k1 k0 hcl hRX hRS hRw1 hpc hpl hno hfl hle l4 l3 l1 hR1 keepR hRE hR hlen hQ hE hs hbk S hca; lia)
              (refine EXn ?_; refine EX_nil ?_)
              exact .inl ⟨rfl, rfl, rfl, hne⟩
        · (intro l3 m3 hq0; refine obAA hq0 ?_; clear hq0; intro hz0 hz1 heq; subst hz0; subst hz1)
          (refine EX_cons ?_; refine E1_Expr ?_ (by rfl) (by rfl); refine EV_mcall ?_; refine EV_local hE (by kernel_rfl) k4 ?_; (with_reducible refine GM_append mR ?_); refine CW_go1 (KeepOk.bf _) ?_; refine AR_cons ?_; refine EV_slice_str ?_; refine EVaf hE (by kernel_rfl) k1 hS sgf3 (fok (by kernel_rfl)) ?_; (with_reducible first | refine exr ?_ | refine ⟨_, rfl, ?_⟩))
          refine ⟨by (exact Nat.le_trans (by assumption) (by decide)), ?_⟩
          (refine PT_some ?_; refine EVaf hE (by kernel_rfl) k1 hS sgf5 (fok (by kernel_rfl)) ?_; (with_reducible first | refine exr ?_ | refine ⟨_, rfl, ?_⟩); refine PT_none ?_; refine AR_nil ?_; refine CA_append mR ?_ ?_; rotate_left; refine seq_next ?_; refine EX_cons ?_; refine E1_If ?_; refine TV_not ?_; refine TV_value ?_; refine EV_mcall ?_; refine EV_local hE (by kernel_rfl) k1 ?_; refine GM_meth (g := 141) ((setM_ne _ _ (Ne.symm hRS)).trans hS) (tS (tS (tS (tS (tS (tS (tS (tS (tS (tS tN)))))))))) (mok (by kernel_rfl)) ?_; refine CW_go1 (KeepOk.rf (by kernel_rfl)) ?_; refine AR_nil ?_; rotate_left)
          · simp [strsV]; (clear hEr hca' hS kp S' mR k4 k3 k2 k1 k0 hfl2 hno2 hend hcl2 hQR e4 e3 e2 hb hRX hRS hRw1 hpc hno hfl hle l4 l2 l1 hR1 keepR hRE hR hQ hE hs hbk S hca; lia)
          · rw [pySl_from]
            have S2 := S'.off (o := .lst (strsV parts ++ [.str (mkS (c'.drop co')) 0])) hRS hRX hRE hQR
            refine CA_CL ((c_readChunk (n := n) (k := 10240) (cv := .none) S2 (by (exact Nat.le_add_left _ _)) (.inl ⟨rfl, rfl, rfl⟩)).mono ?_) (by (exact Nat.le_refl _))
            (intro v m4 hq0; refine obEEEEAAAA hq0 ?_; clear hq0; intro ok c4 b4 p4 hz4 S4 kp4 q1 q2; subst hz4)
            have mR4 : m4 R = some (.lst (strsV (parts ++ [c'.drop co']))) := by
              rw [kp4 R _ hRS hRX hRE (setM_same _ _ _)]
              simp [strsV]
            have kpM : Kp g M m4 := fun a o h1 h2 h3 h => kp4 a o h1 h2 h3 ((setM_ne _ _ (fun z => by rw [z, hR] at h; cases h)).trans (kp a o h1 h2 h3 h))
            have hfl4 := hfl2 c'.length S'.hco (Nat.le_refl _)
            rw [List.take_length] at hfl4
            have hno4 := hno2 c'.length (by (lia))
            have hlp : (pre' ++ c').length = pre'.length + c'.length := List.length_append
            with_reducible refine TR_bool ?_
            (refine And.intro ?_ ?_ <;> intro hb <;> try (cases hb; done))
            · have hok : ok = false := by simpa using hb
              (refine obA (q2 hok) ?_; intro hz0 hW0; subst hz0)
              (refine EX_cons ?_; refine E1_Break ?_)
              refine ⟨rfl, hR1 _ _ ⟨parts ++ [c'.drop co'], pre'.length + c'.length, by exact k1, by exact k4, mR4, by (clear q2 q1 S4 hW0 hok hb hlp hno4 hfl4 kpM mR4 kp4 S2 hEr hca' hS kp S' mR k4 k3 k2 k1 k0 hfl2 hno2 hend hcl2 hQR e4 e3 e2 hcl hRX hRS hRw1 hpc hpl hno hfl l4 l2 l1 hR1 keepR hRE hR hlen hQ hE hs hbk S hca; lia), hfl4, ⟨pre' ++ c', [], 0, b4, p4, S4, by (exact (by assumption : _ = _).symm), Nat.le_refl _⟩, hno4, fun x hx => ?_, kpM⟩⟩
              have : (WT' g).length ≤ pre'.length + c'.length := by
                unfold WT'; rw [S4.hW, hW0]; simp
              rw [List.getElem?_eq_none this] at hx; cases hx
            · have hok : ok = true := by simpa using hb
              (refine EXn ?_; refine EX_nil ?_)
              refine hRw1 _ _ _ ?_ ⟨parts ++ [c'.drop co'], pre' ++ c', c4, 0, b4, p4, rfl, by exact k1, by exact k2, by exact k3, by exact k4, mR4, by (clear hok hb hno4 hfl4 kpM mR4 q2 q1 kp4 S4 S2 hEr hca' hS kp S' mR k4 k3 k2 k1 k0 hfl2 hno2 hend hcl2 hQR e4 e3 e2 hcl hRX hRS hRw1 hpc hpl hno hfl l4 l2 l1 hR1 keepR hRE hR hlen hQ hE hs hbk S hca; lia), by rw [hlp, Nat.add_zero]; exact hfl4, S4, by rw [hlp, Nat.add_zero]; exact hno4, ?_, fun _ => List.length_pos_iff.mpr (q1 hok), kpM⟩
              · rw [hlp, if_neg (by simp)]
                by_cases hp0 : parts = []
                · rw [if_pos hp0]; (clear hp0 hok hb hno4 hfl4 kpM mR4 q2 q1 kp4 S4 S2 hEr hca' hS kp S' mR k4 k3 k2 k1 k0 hfl2 hno2 hend hcl2 hQR e4 e3 e2 hRX hRS hRw1 hpc hpl hno hfl hle l4 l2 l1 hR1 keepR hRE hR hlen hQ hE hs hbk S hca; lia)
                · rw [if_neg hp0]; have := hpc hp0; (clear hp0 hok hb hno4 hfl4 kpM mR4 q2 q1 kp4 S4 S2 hEr hca' hS kp S' mR k4 k3 k2 k1 k0 hfl2 hno2 hend hcl2 hQR e4 e3 e2 e1 hRX hRS hRw1 hpc hpl hno hfl hle l4 l2 l1 hR1 keepR hRE hR hlen hQ hE hs hbk S hca; lia)
              · rw [hlp, List.length_append, List.length_singleton]
                by_cases hp0 : parts = []
                · rw [hp0]; simp
                · have := hpc hp0; (clear hp0 hok hb hno4 hfl4 kpM mR4 q2 q1 kp4 S4 S2 hEr hca' hS kp S' mR k4 k3 k2 k1 k0 hfl2 hno2 hend hcl2 hQR e4 e3 e2 e1 hcl hRX hRS hRw1 hpc hno hfl hle l4 l2 l1 hR1 keepR hRE hR hlen hQ hE hs hbk S hca; lia)
    · (intro l m hq0; refine obEEAAAAAAAA hq0 ?_; clear hq0; intro parts j l1 l4 mR hle hfl hat hno hend kp)
      have hj := hat.le
      have hup := upTo_eq hle hj hno hend
      have hul : (upTo g ts (pre.length + co)).length = j - (pre.length + co) := by rw [hup]; simp; (lia)
      (refine EX_cons ?_; refine E1_AssignName ?_ rfl; refine EV_mcall ?_; refine EV_str (l := []) (by kernel_rfl) ?_; (with_reducible refine GM_join ?_); refine CW_go1 (KeepOk.bf _) ?_; refine AR_cons ?_; refine EV_local hE (by kernel_rfl) l4 ?_; refine AR_nil ?_)
      refine CA_join (.lst mR) (joinOk_nil _ ?_) ?_
      · rw [hfl]; simp; (omega)
      · rw [inter_nil, hfl, ← hup]
        (refine STn hE (by kernel_rfl) ?_; refine EX_cons ?_; refine E1_Return ?_; refine EV_local hE (by kernel_rfl) sH ?_; refine seq_ret ?_)
        refine hQ _ _ _ ⟨rfl, kp, ?_⟩
        rw [hul]
        have : pre.length + co + (j - (pre.length + co)) = j := by (clear hul hup hj kp hend hno hat hfl mR l4 l1 keepR hRE hR hlen hQ hE hs hbk S hca; omega)
        rw [this]; exact hat
end
end Mine
end
section
open PySem PySem.W PyProof.Rows
set_option maxRecDepth 100000
set_option maxHeartbeats 4000000
set_option linter.unusedVariables false
namespace Mine
noncomputable def lettersC : List Nat := "abcdefghijklmnopqrstuvwxyzABCDEFGHIJKLMNOPQRSTUVWXYZ".toList.map (·.toNat)
noncomputable def spacesC : List Nat := [9, 10, 12, 32, 13]
section
variable {Z : Cz} {P : Params}
theorem top_tup {a : Addr} {cls : Value} {d : Option Addr} {us : Array Value} {n : Nat} {sl} {xs : List Value} (h : Z.cx.K.lookup a = some ⟨.type "tuple", d, .seq us n, sl⟩) (e : us.toList.map er = xs) : ReadO Z.cx Z.cx.T a (.tup xs) :=
  ⟨us, ⟨_, Z.cx.X _ _ h, rfl, n, rfl⟩, e⟩
theorem top_spaces : ReadO Z.cx Z.cx.T 22 (.tup (strsV (spacesC.map ([·])))) := top_tup (cls := .none) (by rfl) (by kernel_rfl)
theorem top_letters : ReadO Z.cx Z.cx.T 27 (.tup (strsV (lettersC.map ([·])))) := top_tup (cls := .none) (by rfl) (by kernel_rfl)
theorem top_tagTypes : ReadO Z.cx Z.cx.T 49 (.tup (intsV [3, 4, 5])) := top_tup (cls := .none) (by rfl) (by kernel_rfl)

noncomputable def ttL : List (Str × Value) := [("Doctype", .int 0 0), ("Characters", .int 1 0), ("SpaceCharacters", .int 2 0), ("StartTag", .int 3 0), ("EndTag", .int 4 0), ("EmptyTag", .int 5 0), ("Comment", .int 6 0), ("ParseError", .int 7 0)]
noncomputable def keyS (v : Value) : Str := match v with | .str x _ => x | _ => Str.empty
theorem pairs_of : ∀ (es : List DictEntry), (∀ e ∈ es, ∃ x t, e.key = .str x t ∧ e.hash = hashStr Z.cx.w x) → Pairs (PySem.strKind Z.cx.prog Z.cx.w) es (es.map fun e => (keyS e.key, e.val))
  | [], _ => .nil
  | e :: r, h => by
    (refine obEEA (h e (List.mem_cons_self ..)) ?_; intro x t h1 _)
    refine .cons ?_ rfl (pairs_of r fun e he => h e (List.mem_cons_of_mem _ he))
    show (PySem.strKind Z.cx.prog Z.cx.w).is (keyS e.key) e.key = true
    rw [h1]
    exact strKind_is Z.cx.prog Z.cx.w x t
theorem top_dct {a : Addr} {es : Array DictEntry} {ep : Nat} {l : List (Str × Value)} (h : Z.cx.K.lookup a = some { cls := .type "dict", data := .dict es ep }) (ha : 3 < a) (hk : ∀ e ∈ es.toList, ∃ x t, e.key = .str x t ∧ e.hash = hashStr Z.cx.w x)
    (e : es.toList.map (fun e => (keyS e.key, er e.val)) = l) (nd : (l.map (·.1)).Nodup) : ReadO Z.cx Z.cx.T a (.dct l) := by
  refine ⟨es.toList.map fun e => (keyS e.key, e.val), ⟨_, es, ep, Z.cx.X _ _ h, ⟨rfl, rfl, rfl⟩, rfl, fun x hx => ?_, pairs_of _ hk, ?_⟩, ha, ?_⟩
  · (refine obEEA (hk x (by simpa using hx)) ?_; intro y t h1 h2)
    exact ⟨y, by rw [h1]; exact strKind_is Z.cx.prog Z.cx.w y t, h2⟩
  · rw [List.map_map]
    rw [← e, List.map_map] at nd
    exact nd
  · rw [List.map_map, ← e]; rfl
theorem top_types (hP : P = Z.cx.w.params) : ReadO Z.cx Z.cx.T 48 (.dct ttL) := by
  subst hP
  refine top_dct (by rfl) (by decide) ?_ (by kernel_rfl) (by decide +kernel)
  intro e he
  simp only [List.mem_cons, List.not_mem_nil, or_false] at he
  rcases he with rfl | rfl | rfl | rfl | rfl | rfl | rfl | rfl <;> exact ⟨_, _, rfl, rfl⟩
end
end Mine
end
section
open PySem PySem.W PyProof.Rows
set_option maxRecDepth 100000
set_option maxHeartbeats 4000000
set_option linter.unusedVariables false
namespace Mine
inductive TK where
  | err (s : List Nat)
  | chars (s : List Nat)
  | tag (ty : Int) (nm : List Nat)
noncomputable def TkRep (g : G) (q : Addr) (M : Mem) : TK → Value → Prop
  | .err s, v => ∃ a, v = .ref a ∧ M a = some (.dct [("type", .int 7 0), ("data", .str (mkS s) 0)])
  | .chars s, v => ∃ a, v = .ref a ∧ M a = some (.dct [("type", .int 1 0), ("data", .str (mkS s) 0)])
  | .tag ty nm, v => ∃ a e, v = .ref a ∧ M a = some (.dct [("type", .int ty 0), ("name", .str (mkS nm) 0), ("data", .ref e), ("selfClosing", .bool false)]) ∧ M e = some (.lst []) ∧ e ≠ g.E ∧ e ≠ q
noncomputable def NowR (g : G) (q : Addr) (M : Mem) : Option (Int × List Nat) → Value → Prop
  | none, v => v = .none
  | some (ty, nm), v => TkRep g q M (.tag ty nm) v
noncomputable def tkT (g : G) (lf : Addr) (sv ct : Value) (q : Addr) (kept : List Nat) : List (Str × Value) :=
  [("stream", .ref g.S), ("parser", .none), ("escapeFlag", .bool false), ("lastFourChars", .ref lf), ("state", sv), ("escape", .bool false), ("currentToken", ct), ("tokenQueue", .ref q), ("temporaryBuffer", .str (mkS kept) 0)]
theorem tkf0 {g : G} {lf q : Addr} {sv ct : Value} {kept : List Nat} : tblF (tkT g lf sv ct q kept) "stream" = some (.ref g.S) := tH
theorem tkf4 {g : G} {lf q : Addr} {sv ct : Value} {kept : List Nat} : tblF (tkT g lf sv ct q kept) "state" = some (sv) := tS (tS (tS (tS (tH))))
theorem tkf6 {g : G} {lf q : Addr} {sv ct : Value} {kept : List Nat} : tblF (tkT g lf sv ct q kept) "currentToken" = some (ct) := tS (tS (tS (tS (tS (tS (tH))))))
theorem tkf7 {g : G} {lf q : Addr} {sv ct : Value} {kept : List Nat} : tblF (tkT g lf sv ct q kept) "tokenQueue" = some (.ref q) := tS (tS (tS (tS (tS (tS (tS (tH)))))))
theorem tkf8 {g : G} {lf q : Addr} {sv ct : Value} {kept : List Nat} : tblF (tkT g lf sv ct q kept) "temporaryBuffer" = some (.str (mkS kept) 0) := tS (tS (tS (tS (tS (tS (tS (tS (tH))))))))
theorem tkNo {g : G} {lf q : Addr} {sv ct : Value} {kept : List Nat} {x : Str} (h : (["stream", "parser", "escapeFlag", "lastFourChars", "state", "escape", "currentToken", "tokenQueue", "temporaryBuffer"] : List Str).all (fun y => (x == y) == false) = true) : tblF (tkT g lf sv ct q kept) x = none := by
  simp only [List.all_cons, List.all_nil, Bool.and_true, Bool.and_eq_true, beq_iff_eq] at h
  obtain ⟨h0, h1, h2, h3, h4, h5, h6, h7, h8⟩ := h
  exact tS (tS (tS (tS (tS (tS (tS (tS (tS tN h8) h7) h6) h5) h4) h3) h2) h1) h0
theorem ptk4 {g : G} {lf q : Addr} {sv ct : Value} {kept : List Nat} {v : Value} : putA (tkT g lf sv ct q kept) "state" v = tkT g lf v ct q kept := pS (pS (pS (pS (pH))))
theorem ptk6 {g : G} {lf q : Addr} {sv ct : Value} {kept : List Nat} {v : Value} : putA (tkT g lf sv ct q kept) "currentToken" v = tkT g lf sv v q kept := pS (pS (pS (pS (pS (pS (pH))))))
theorem ptk8 {g : G} {lf q : Addr} {sv ct : Value} {kept : List Nat} {l : List Nat} : putA (tkT g lf sv ct q kept) "temporaryBuffer" (.str (mkS l) 0) = tkT g lf sv ct q l := pS (pS (pS (pS (pS (pS (pS (pS (pH))))))))
inductive All2 {α β : Type} (R : α → β → Prop) : List α → List β → Prop
  | nil : All2 R [] []
  | cons {a b r s} : R a b → All2 R r s → All2 R (a :: r) (b :: s)
noncomputable def KT (g : G) (T q : Addr) (M m : Mem) : Prop := ∀ a o, a ≠ g.S → a ≠ g.X → a ≠ g.E → a ≠ T → a ≠ q → M a = some o → m a = some o
structure TAt (M : Mem) (g : G) (T q lf : Addr) (k bk : Nat) (kept : List Nat) (now : Option (Int × List Nat)) (sv : Value) (toks : List TK) (ct : Value) (vs : List Value) : Prop where
  hat : SAt M g k bk
  hT : M T = some (.inst 762 9 (tblF (tkT g lf sv ct q kept)))
  hn : NowR g q M now ct
  hq : M q = some (.lst vs)
  ha : All2 (TkRep g q M) toks vs
  ne : q ≠ g.E
section
variable {M m : Mem} {g : G} {T q lf : Addr} {k bk k' bk' : Nat} {kept kept' : List Nat} {now now' : Option (Int × List Nat)} {sv sv' : Value} {toks : List TK} {ct ct' : Value} {vs : List Value}
theorem TAt.geo (h : TAt M g T q lf k bk kept now sv toks ct vs) :
    T ≠ g.S ∧ T ≠ g.X ∧ T ≠ g.E ∧ T ≠ g.Q ∧ q ≠ g.S ∧ q ≠ g.X ∧ q ≠ g.E ∧ q ≠ g.Q ∧ T ≠ q := by
  obtain ⟨pre, c, co, b, p, S, _⟩ := h.hat
  have hT := h.hT
  have hq := h.hq
  obtain ⟨es, hE, _⟩ := S.hE
  have hS := S.hS
  have hX := S.hX
  have hQ := S.hQ
  refine ⟨fun e => ?_, fun e => ?_, fun e => ?_, fun e => ?_, fun e => ?_, fun e => ?_, h.ne, fun e => ?_, fun e => ?_⟩
  · rw [e, hS] at hT; cases hT
  · rw [e, hX] at hT; cases hT
  · rw [e, hE] at hT; cases hT
  · rw [e, hQ] at hT; cases hT
  · rw [e, hS] at hq; cases hq
  · rw [e, hX] at hq; cases hq
  · rw [e, hQ] at hq; cases hq
  · rw [e, hq] at hT; cases hT
theorem TkRep.keep {t : TK} {v : Value} (h : TkRep g q M t v) (kd : ∀ a l, M a = some (.dct l) → m a = some (.dct l)) (ke : ∀ a, a ≠ g.E → a ≠ q → M a = some (.lst []) → m a = some (.lst [])) : TkRep g q m t v := by
  cases t with
  | err s => obtain ⟨a, h1, h2⟩ := h; exact ⟨a, h1, kd _ _ h2⟩
  | chars s => obtain ⟨a, h1, h2⟩ := h; exact ⟨a, h1, kd _ _ h2⟩
  | tag ty nm => obtain ⟨a, e, h1, h2, h3, h4, h5⟩ := h; exact ⟨a, e, h1, kd _ _ h2, ke _ h4 h5 h3, h4, h5⟩
theorem NowR.keep {v : Value} (h : NowR g q M now v) (kd : ∀ a l, M a = some (.dct l) → m a = some (.dct l)) (ke : ∀ a, a ≠ g.E → a ≠ q → M a = some (.lst []) → m a = some (.lst [])) : NowR g q m now v := by
  cases now with
  | none => exact h
  | some p => obtain ⟨ty, nm⟩ := p; exact TkRep.keep (t := .tag ty nm) h kd ke
theorem All2.mono {α β : Type} {R R' : α → β → Prop} (k : ∀ a b, R a b → R' a b) : ∀ {l : List α} {s : List β}, All2 R l s → All2 R' l s
  | _, _, .nil => .nil
  | _, _, .cons h r => .cons (k _ _ h) (r.mono k)
theorem All2.snoc {α β : Type} {R : α → β → Prop} {a : α} {b : β} (h : R a b) : ∀ {l : List α} {s : List β}, All2 R l s → All2 R (l ++ [a]) (s ++ [b])
  | _, _, .nil => .cons h .nil
  | _, _, .cons x r => .cons x (r.snoc h)
theorem TAt.step (h : TAt M g T q lf k bk kept now sv toks ct vs) (kp : Kp g M m) (hs : SAt m g k' bk') : TAt m g T q lf k' bk' kept now sv toks ct vs := by
  obtain ⟨t1, t2, t3, t4, q1, q2, q3, q4, tq⟩ := h.geo
  obtain ⟨pre, c, co, b, p, S, _⟩ := h.hat
  obtain ⟨es, hE, _⟩ := S.hE
  have kd : ∀ a l, M a = some (.dct l) → m a = some (.dct l) := fun a l e => kp a _ (fun z => by rw [z, S.hS] at e; cases e) (fun z => by rw [z, S.hX] at e; cases e) (fun z => by rw [z, hE] at e; cases e) e
  have ke : ∀ a, a ≠ g.E → a ≠ q → M a = some (.lst []) → m a = some (.lst []) := fun a h1 _ e => kp a _ (fun z => by rw [z, S.hS] at e; cases e) (fun z => by rw [z, S.hX] at e; cases e) h1 e
  exact ⟨hs, kp _ _ t1 t2 t3 h.hT, h.hn.keep kd ke, kp _ _ q1 q2 q3 h.hq, h.ha.mono fun _ _ r => r.keep kd ke, h.ne⟩
theorem SAt.off (h : SAt M g k bk) (k1 : m g.S = M g.S) (k2 : m g.X = M g.X) (k3 : m g.E = M g.E) (k4 : m g.Q = M g.Q) : SAt m g k bk := by
  obtain ⟨pre, c, co, b, p, S, e, hb⟩ := h
  obtain ⟨es, hE, hl⟩ := S.hE
  exact ⟨pre, c, co, b, p, ⟨k1.trans S.hS, k2.trans S.hX, ⟨es, k3.trans hE, hl⟩, k4.trans S.hQ, S.hW, S.hco, S.hb, S.hp, S.len, S.small⟩, e, hb⟩
theorem TAt.grow (h : TAt M g T q lf k bk kept now sv toks ct vs) (kp : ∀ a o, M a = some o → m a = some o) : TAt m g T q lf k bk kept now sv toks ct vs := by
  obtain ⟨pre, c, co, b, p, S, e, hb⟩ := h.hat
  exact h.step (fun a o _ _ _ e => kp a o e) ⟨pre, c, co, b, p, S.keep kp, e, hb⟩
theorem TAt.app (h : TAt M g T q lf k bk kept now sv toks ct vs) {D : Addr} (hD : M D = none) {ty : Int} {s : List Nat} (t : TK) (ht : t = .err s ∧ ty = 7 ∨ t = .chars s ∧ ty = 1) :
    TAt (setM (setM M D (.dct [("type", .int ty 0), ("data", .str (mkS s) 0)])) q (.lst (vs ++ [.ref D]))) g T q lf k bk kept now sv (toks ++ [t]) ct (vs ++ [.ref D]) := by
  obtain ⟨t1, t2, t3, t4, q1, q2, q3, q4, tq⟩ := h.geo
  obtain ⟨pre, c, co, b, p, S, _⟩ := h.hat
  have hT := h.hT
  have hv := h.hq
  obtain ⟨es, hE, _⟩ := S.hE
  have ne : ∀ a o, M a = some o → a ≠ D := fun a o e z => by rw [z, hD] at e; cases e
  have st : ∀ a, a ≠ q → a ≠ D → setM (setM M D (.dct [("type", .int ty 0), ("data", .str (mkS s) 0)])) q (.lst (vs ++ [.ref D])) a = M a := fun a h1 h2 => (setM_ne _ _ h1).trans (setM_ne _ _ h2)
  have kd : ∀ a l, M a = some (.dct l) → setM (setM M D (.dct [("type", .int ty 0), ("data", .str (mkS s) 0)])) q (.lst (vs ++ [.ref D])) a = some (.dct l) := fun a l e => (st a (fun z => by rw [z, hv] at e; cases e) (ne a _ e)).trans e
  have ke : ∀ a, a ≠ g.E → a ≠ q → M a = some (.lst []) → setM (setM M D (.dct [("type", .int ty 0), ("data", .str (mkS s) 0)])) q (.lst (vs ++ [.ref D])) a = some (.lst []) := fun a _ h2 e => (st a h2 (ne a _ e)).trans e
  have hDq : D ≠ q := fun z => by rw [z, hv] at hD; cases hD
  have hr : TkRep g q (setM (setM M D (.dct [("type", .int ty 0), ("data", .str (mkS s) 0)])) q (.lst (vs ++ [.ref D]))) t (.ref D) := by
    rcases ht with ⟨rfl, rfl⟩ | ⟨rfl, rfl⟩ <;> exact ⟨D, rfl, (setM_ne _ _ hDq).trans (setM_same _ _ _)⟩
  exact ⟨h.hat.off (st _ q1.symm (ne _ _ S.hS)) (st _ q2.symm (ne _ _ S.hX)) (st _ q3.symm (ne _ _ hE)) (st _ q4.symm (ne _ _ S.hQ)), (st _ tq (ne _ _ hT)).trans hT, h.hn.keep kd ke, setM_same _ _ _, (h.ha.mono fun _ _ r => r.keep kd ke).snoc hr, h.ne⟩
theorem NowR.set {C : Addr} {kk : Nat} {f f' : Str → Option Value} (hT : M T = some (.inst C kk f)) (h : NowR g q M now ct) : NowR g q (setM M T (.inst C kk f')) now ct :=
  h.keep (fun a l e => (setM_ne _ _ (fun z => by rw [z, hT] at e; cases e)).trans e) (fun a _ _ e => (setM_ne _ _ (fun z => by rw [z, hT] at e; cases e)).trans e)
theorem TAt.setTok (h : TAt M g T q lf k bk kept now sv toks ct vs) (sv' : Value) (kept' : List Nat) (now' : Option (Int × List Nat)) (ct' : Value) (hn : NowR g q M now' ct') :
    TAt (setM M T (.inst 762 9 (tblF (tkT g lf sv' ct' q kept')))) g T q lf k bk kept' now' sv' toks ct' vs := by
  obtain ⟨t1, t2, t3, t4, q1, q2, q3, q4, tq⟩ := h.geo
  have hT := h.hT
  have kd : ∀ a l, M a = some (.dct l) → setM M T (.inst 762 9 (tblF (tkT g lf sv' ct' q kept'))) a = some (.dct l) := fun a l e => (setM_ne _ _ (fun z => by rw [z, hT] at e; cases e)).trans e
  have ke : ∀ a, a ≠ g.E → a ≠ q → M a = some (.lst []) → setM M T (.inst 762 9 (tblF (tkT g lf sv' ct' q kept'))) a = some (.lst []) := fun a _ _ e => (setM_ne _ _ (fun z => by rw [z, hT] at e; cases e)).trans e
  exact ⟨h.hat.off (setM_ne _ _ t1.symm) (setM_ne _ _ t2.symm) (setM_ne _ _ t3.symm) (setM_ne _ _ t4.symm), setM_same _ _ _, hn.set hT, (setM_ne _ _ tq.symm).trans h.hq, h.ha.mono fun _ _ r => r.keep kd ke, h.ne⟩
theorem TAt.set (h : TAt M g T q lf k bk kept now sv toks ct vs) (sv' : Value) (kept' : List Nat) : TAt (setM M T (.inst 762 9 (tblF (tkT g lf sv' ct q kept')))) g T q lf k bk kept' now sv' toks ct vs := h.setTok sv' kept' now ct h.hn
theorem TAt.weak (h : TAt M g T q lf k bk kept now sv toks ct vs) : TAt M g T q lf k 0 kept now sv toks ct vs := ⟨h.hat.weak, h.hT, h.hn, h.hq, h.ha, h.ne⟩
end
theorem KT.refl (g : G) (T q : Addr) (M : Mem) : KT g T q M M := fun _ _ _ _ _ _ _ e => e
theorem KT.kp {g : G} {T q : Addr} {a b c : Mem} (x : KT g T q a b) (y : Kp g b c) : KT g T q a c := fun d o h1 h2 h3 h4 h5 e => y d o h1 h2 h3 (x d o h1 h2 h3 h4 h5 e)
theorem KT.new {g : G} {T q : Addr} {a b : Mem} (x : KT g T q a b) {D : Addr} {o : AO} (h : b D = none) : KT g T q a (setM b D o) := fun d o h1 h2 h3 h4 h5 e => setM_old h (x d o h1 h2 h3 h4 h5 e)
theorem KT.tok {g : G} {T q : Addr} {a b : Mem} (x : KT g T q a b) {o : AO} : KT g T q a (setM b T o) := fun d o h1 h2 h3 h4 h5 e => (setM_ne _ _ h4).trans (x d o h1 h2 h3 h4 h5 e)
theorem KT.que {g : G} {T q : Addr} {a b : Mem} (x : KT g T q a b) {o : AO} : KT g T q a (setM b q o) := fun d o h1 h2 h3 h4 h5 e => (setM_ne _ _ h5).trans (x d o h1 h2 h3 h4 h5 e)
structure Res where
  toks : List TK
  k : Nat
  kept : List Nat
  now : Option (Int × List Nat)
  stays : Bool
noncomputable def ResAt (M m : Mem) (g : G) (T q lf : Addr) (r : Res) : Prop := ∃ sv ct vs, TAt m g T q lf r.k 0 r.kept r.now sv r.toks ct vs ∧ KT g T q M m ∧ (sv = .none ∧ r.stays = true ∨ (∃ z, sv = .ref z) ∧ r.stays = false)
end Mine
end
section
open PySem PySem.W PyProof.Rows
set_option maxRecDepth 100000
set_option maxHeartbeats 4000000
set_option linter.unusedVariables false
namespace Mine
noncomputable def r0 (W : List Nat) (k : Nat) (kept : List Nat) (now : Option (Int × List Nat)) : Res := match W[k]? with
  | some x => if x = 45 then ⟨[.chars [45]], k + 1, kept, now, false⟩ else ⟨[], k, kept, now, false⟩
  | none => ⟨[], k, kept, now, false⟩

section
variable {Z : Cz} {P : Params}
theorem c_s0 (hP : P = Z.cx.w.params) {n : Nat} {M : Mem} {g : G} {T q lf : Addr} {k : Nat} {kept : List Nat} {now : Option (Int × List Nat)} {ct : Value} (h : TAt M g T q lf k 0 kept now .none [] ct []) :
    CL Z.cx (n + 7) (.ref 437) [.ref T] (fun v m => v = .bool true ∧ ResAt M m g T q lf (r0 (WT' g) k kept now)) M := by
  have hTT := (top_types (Z := Z)) hP
  refine CL_fn (binds := [("self", .ref T)]) (by rfl) (by kernel_rfl) ?_ (by kernel_rfl) ?_
  · intro vs e
    obtain ⟨v1, rfl, e1⟩ := vs1 e
    exact ⟨[("self", v1)], fun s hx => kp_binds hx (fun S => rfl), by simp [e1]⟩
  · intro fz L env hE he; subst he; refine EX_gen fun Qg hQ => ?_
    rw [bindL1]
    have hT := h.hT
    have hat := h.hat
    (refine obEEEEEA (id hat) ?_; intro pre c co b p S _)
    have hS := S.hS
    (refine obAAAAAAAA (h.geo) ?_; intro t1 t2 t3 t4 q1 q2 q3 q4 tq)
    unfold tkT at hT
    unfold stT at hS
    (refine CHR (g := 133) hE (by kernel_rfl) sH hT tH (fok (by kernel_rfl)) hS (stNo (by kernel_rfl)) (mok (by kernel_rfl)) (KeepOk.rf (by kernel_rfl)) ?_)
    refine CA_CL ((c_char (n := n) hat).mono ?_) (by (exact Nat.le_succ _))
    (intro v m1 hq0; refine dn fun hG0 => ?_; rcases hq0 with ⟨kp1, ⟨x, hx, rfl, hat1⟩ | ⟨hx, rfl, hat1⟩⟩ <;> refine hG0 ?_ <;> clear hG0)
    · have h1 := h.step kp1 hat1
      have k1 : KT g T q M m1 := (KT.refl _ _ _ _).kp kp1
      have hT1 := h1.hT
      have hq1 := h1.hq
      unfold tkT at hT1
      have hS1 := SAt.hS hat1
      (refine STn hE (by kernel_rfl) ?_; refine IFs1 hE (by kernel_rfl) sH (t := 45) (by kernel_rfl) ?_)
      (refine And.intro ?_ ?_ <;> intro hb <;> try (cases hb; done))
      · have hx45 : x = 45 := by simpa using hb
        have hr : r0 (WT' g) k kept now = ⟨[.chars [45]], k + 1, kept, now, false⟩ := by unfold r0; rw [hx]; simp [hx45]
        (refine TOKg hE (by kernel_rfl) (sS sH) hT1 tkf7 (fok (by kernel_rfl)) hq1 (by kernel_rfl) (by kernel_rfl) (l1 := [67, 104, 97, 114, 97, 99, 116, 101, 114, 115]) (by kernel_rfl) hTT (tS tE) (by simp; done) ?_; intro D hD; refine EV_str (l := [45]) (by kernel_rfl) ?_; refine ⟨rfl, ?_⟩; refine STA (g := 444) hE (by kernel_rfl) (sS sH) ((setM_ne _ _ tq).trans (setM_old hD hT1)) (tkNo (by kernel_rfl)) (mok (by kernel_rfl)) (sok (by kernel_rfl)) (.inl ⟨(by kernel_rfl), rfl⟩) (by decide) (fun _ => ptk4) ?_; intro zz; refine EXn ?_; refine RETb ?_)
        refine hQ _ _ _ ?_; (first | rw [hr] | skip); exact ⟨rfl, _, _, _, ((h1.app hD (.chars [45]) (.inr ⟨rfl, rfl⟩)).set (.ref zz) kept).weak, ((k1.new hD).que).tok, .inr ⟨⟨_, rfl⟩, rfl⟩⟩
      · have hx45 : x ≠ 45 := by simpa using hb
        have hr : r0 (WT' g) k kept now = ⟨[], k, kept, now, false⟩ := by unfold r0; rw [hx]; simp [hx45]
        (refine UNG (g := 163) hE (by kernel_rfl) (sS sH) hT1 tkf0 (fok (by kernel_rfl)) hS1 (SAt.no _ (by kernel_rfl)) (mok (by kernel_rfl)) (KeepOk.rf (by kernel_rfl)) (by kernel_rfl) sH ?_)
        refine CA_CL ((c_unget (n := n) hat1 hx).mono ?_) (by (lia))
        (intro v m2 hq0; refine obAA hq0 ?_; clear hq0; intro hz0 kp2 hat2; subst hz0)
        have h2 := h1.step kp2 hat2
        have k2 := k1.kp kp2
        have hT2 := h2.hT
        unfold tkT at hT2
        (refine seq_next ?_; refine STA (g := 339) hE (by kernel_rfl) (sS sH) hT2 (tkNo (by kernel_rfl)) (mok (by kernel_rfl)) (sok (by kernel_rfl)) (.inl ⟨(by kernel_rfl), rfl⟩) (by decide) (fun _ => ptk4) ?_; intro zz; refine EXn ?_; refine RETb ?_)
        refine hQ _ _ _ ?_; (first | rw [hr] | skip); exact ⟨rfl, _, _, _, (h2.set (.ref zz) kept), k2.tok, .inr ⟨⟨_, rfl⟩, rfl⟩⟩
    · have hr : r0 (WT' g) k kept now = ⟨[], k, kept, now, false⟩ := by unfold r0; rw [hx]
      have h1 := h.step kp1 hat1
      have k1 : KT g T q M m1 := (KT.refl _ _ _ _).kp kp1
      have hT1 := h1.hT
      unfold tkT at hT1
      have hS1 := SAt.hS hat1
      (refine STn hE (by kernel_rfl) ?_; refine IFc hE (by kernel_rfl) sH ?_; refine EV_str (l := [45]) (by kernel_rfl) ?_; (with_reducible refine O2_eq_none_str ?_); (with_reducible refine TR_bool ?_))
      (refine And.intro ?_ ?_ <;> intro hb <;> try (cases hb; done))
      (refine UNG (g := 163) hE (by kernel_rfl) (sS sH) hT1 tkf0 (fok (by kernel_rfl)) hS1 (SAt.no _ (by kernel_rfl)) (mok (by kernel_rfl)) (KeepOk.rf (by kernel_rfl)) (by kernel_rfl) sH ?_)
      refine CA_CL ((c_unget_none (n := n) hat1).mono ?_) (by (lia))
      refine el2 ?_
      (refine seq_next ?_; refine STA (g := 339) hE (by kernel_rfl) (sS sH) hT1 (tkNo (by kernel_rfl)) (mok (by kernel_rfl)) (sok (by kernel_rfl)) (.inl ⟨(by kernel_rfl), rfl⟩) (by decide) (fun _ => ptk4) ?_; intro zz; refine EXn ?_; refine RETb ?_)
      refine hQ _ _ _ ?_; (first | rw [hr] | skip); exact ⟨rfl, _, _, _, (h1.set (.ref zz) kept), k1.tok, .inr ⟨⟨_, rfl⟩, rfl⟩⟩
end
end Mine
end
section
open PySem PySem.W PyProof.Rows
set_option maxRecDepth 100000
set_option maxHeartbeats 4000000
set_option linter.unusedVariables false
namespace Mine
section
variable {M m : Mem} {g : G} {T q lf : Addr} {k bk : Nat} {kept : List Nat} {now : Option (Int × List Nat)} {sv : Value} {ct : Value} {vs : List Value}
theorem TAt.app0 (h : TAt M g T q lf k bk kept now sv [] ct vs) {D : Addr} (hD : M D = none) {ty : Int} {s : List Nat} {t : TK} (ht : t = .err s ∧ ty = 7 ∨ t = .chars s ∧ ty = 1) :
    TAt (setM (setM M D (.dct [("type", .int ty 0), ("data", .str (mkS s) 0)])) q (.lst (vs ++ [.ref D]))) g T q lf k bk kept now sv [t] ct (vs ++ [.ref D]) := h.app hD t ht
theorem TAt.app1 {t1 : TK} (h : TAt M g T q lf k bk kept now sv [t1] ct vs) {D : Addr} (hD : M D = none) {ty : Int} {s : List Nat} {t : TK} (ht : t = .err s ∧ ty = 7 ∨ t = .chars s ∧ ty = 1) :
    TAt (setM (setM M D (.dct [("type", .int ty 0), ("data", .str (mkS s) 0)])) q (.lst (vs ++ [.ref D]))) g T q lf k bk kept now sv [t1, t] ct (vs ++ [.ref D]) := h.app hD t ht
theorem TAt.set1 {sv' : Value} {kept' : List Nat} {toks : List TK} (h : TAt M g T q lf k bk kept now sv toks ct vs) : TAt (setM M T (.inst 762 9 (tblF (tkT g lf sv' ct q kept')))) g T q lf k bk kept' now sv' toks ct vs := h.set sv' kept'
theorem ResAt.intro {r : Res} (h1 : TAt m g T q lf r.k bk r.kept r.now sv r.toks ct vs) (h2 : KT g T q M m) (h3 : sv = .none ∧ r.stays = true ∨ (∃ z, sv = .ref z) ∧ r.stays = false) : ResAt M m g T q lf r := ⟨sv, ct, vs, h1.weak, h2, h3⟩
end
end Mine
end
local macro_rules | `(tactic| ktr_rel) => `(tactic| first
  | with_reducible assumption
  | (apply Mine.TAt.app1 <;> first | with_reducible assumption | exact .inl ⟨rfl, rfl⟩ | exact .inr ⟨rfl, rfl⟩ | ktr_rel)
  | (apply Mine.TAt.app0 <;> first | with_reducible assumption | exact .inl ⟨rfl, rfl⟩ | exact .inr ⟨rfl, rfl⟩ | ktr_rel)
  | (apply Mine.TAt.set1; ktr_rel))
local macro_rules | `(tactic| ktr_room) => `(tactic| first
  | with_reducible assumption
  | (with_reducible refine Mine.KT.tok ?_; ktr_room)
  | (with_reducible refine Mine.KT.que ?_; ktr_room)
  | (with_reducible refine Mine.KT.new ?_ (by with_reducible assumption); ktr_room))
section
open PySem PySem.W PyProof.Rows
set_option maxRecDepth 100000
set_option maxHeartbeats 4000000
set_option linter.unusedVariables false
namespace Mine
noncomputable def badM : List Nat := "invalid-codepoint".toList.map (·.toNat)

noncomputable def r1 (W : List Nat) (k : Nat) (kept : List Nat) (now : Option (Int × List Nat)) : Res := match W[k]? with
  | some x => if x = 45 then ⟨[.chars [45]], k + 1, kept, now, false⟩ else ⟨[], k, kept, now, false⟩
  | none => ⟨[], k, kept, now, false⟩
section
variable {Z : Cz} {P : Params}
theorem c_s1 (hP : P = Z.cx.w.params) {n : Nat} {M : Mem} {g : G} {T q lf : Addr} {k : Nat} {kept : List Nat} {now : Option (Int × List Nat)} {ct : Value} (h : TAt M g T q lf k 0 kept now .none [] ct []) :
    CL Z.cx (n + 7) (.ref 444) [.ref T] (fun v m => v = .bool true ∧ ResAt M m g T q lf (r1 (WT' g) k kept now)) M := by
  (have hTT := (top_types (Z := Z)) hP; have hSp := (top_spaces (Z := Z)); have hLe := (top_letters (Z := Z)); refine obAAAAAAAA (TAt.geo h) ?_; intro t1 t2 t3 t4 q1 q2 q3 q4 tq)
  refine CL_fn (binds := [("self", .ref T)]) (by rfl) (by kernel_rfl) ?_ (by kernel_rfl) ?_
  · intro vs e
    obtain ⟨v1, rfl, e1⟩ := vs1 e
    exact ⟨[("self", v1)], fun s hx => kp_binds hx (fun S => rfl), by simp [e1]⟩
  · intro fz L env hE he; subst he; refine EX_gen fun Qg hQ => ?_
    rw [bindL1]
    (have hT1 := TAt.hT h; have hq1 := TAt.hq h; have hS1 := SAt.hS (TAt.hat h))
    (refine CHR (g := 133) hE (by kernel_rfl) sH hT1 tkf0 (fok (by kernel_rfl)) hS1 (SAt.no _ (by kernel_rfl)) (mok (by kernel_rfl)) (KeepOk.rf (by kernel_rfl)) ?_)
    (refine CA_CL ((c_char (n := n) (TAt.hat h)).mono ?_) (by (exact Nat.le_succ _)); intro v m1 hq0; refine dn fun hG0 => ?_; rcases hq0 with ⟨kp1, ⟨x, hx, rfl, hat1⟩ | ⟨hx, rfl, hat1⟩⟩ <;> refine hG0 ?_ <;> clear hG0 <;> have h1 := TAt.step h kp1 hat1 <;> have k1 : KT g T q M m1 := (KT.refl _ _ _ _).kp kp1 <;> (have hT1 := TAt.hT h1; have hq1 := TAt.hq h1; have hS1 := SAt.hS (TAt.hat h1)))
    · (refine STn hE (by kernel_rfl) ?_; refine IFs1 hE (by kernel_rfl) sH (t := 45) (by kernel_rfl) ?_)
      (refine And.intro ?_ ?_ <;> intro hb <;> try (cases hb; done))
      · have e1 : x = 45 := by simpa using hb
        have hr : r1 (WT' g) k kept now = ⟨[.chars [45]], k + 1, kept, now, false⟩ := by unfold r1; rw [hx]; simp [e1]
        (refine TOKg hE (by kernel_rfl) (sS sH) hT1 tkf7 (fok (by kernel_rfl)) hq1 (by kernel_rfl) (by kernel_rfl) (l1 := [67, 104, 97, 114, 97, 99, 116, 101, 114, 115]) (by kernel_rfl) hTT (tS tE) (by simp; done) ?_; intro D hD; refine EV_str (l := [45]) (by kernel_rfl) ?_; refine ⟨rfl, ?_⟩; refine STA (g := 465) hE (by kernel_rfl) (sS sH) ((setM_ne _ _ tq).trans (setM_old hD hT1)) (tkNo (by kernel_rfl)) (mok (by kernel_rfl)) (sok (by kernel_rfl)) (.inl ⟨(by kernel_rfl), rfl⟩) (by decide) (fun _ => ptk4) ?_; intro zz; refine EXn ?_; refine RETb ?_)
        refine hQ _ _ _ ?_; (first | rw [hr] | skip); exact ⟨rfl, ResAt.intro (by ktr_rel) (by ktr_room) (by first | exact .inl ⟨rfl, rfl⟩ | exact .inr ⟨⟨_, rfl⟩, rfl⟩)⟩
      · have n45 : ¬ x = 45 := by simpa using hb
        (refine UNG (g := 163) hE (by kernel_rfl) (sS sH) hT1 tkf0 (fok (by kernel_rfl)) hS1 (SAt.no _ (by kernel_rfl)) (mok (by kernel_rfl)) (KeepOk.rf (by kernel_rfl)) (by kernel_rfl) sH ?_)
        have hr : r1 (WT' g) k kept now = ⟨[], k, kept, now, false⟩ := by unfold r1; rw [hx]; simp [n45]
        (refine CA_CL ((c_unget (n := n) (TAt.hat h1) hx).mono ?_) (by (lia)); intro v m3 hq0; refine obAA hq0 ?_; clear hq0; intro hz0 kp3 hat3; subst hz0; have h3 := TAt.step h1 kp3 hat3; (have hT1 := TAt.hT h3; have hq1 := TAt.hq h3; have hS1 := SAt.hS (TAt.hat h3)))
        have k3 := k1.kp kp3
        (refine seq_next ?_; refine STA (g := 339) hE (by kernel_rfl) (sS sH) hT1 (tkNo (by kernel_rfl)) (mok (by kernel_rfl)) (sok (by kernel_rfl)) (.inl ⟨(by kernel_rfl), rfl⟩) (by decide) (fun _ => ptk4) ?_; intro zz; refine EXn ?_; refine RETb ?_)
        refine hQ _ _ _ ?_; (first | rw [hr] | skip); exact ⟨rfl, ResAt.intro (by ktr_rel) (by ktr_room) (by first | exact .inl ⟨rfl, rfl⟩ | exact .inr ⟨⟨_, rfl⟩, rfl⟩)⟩
    · have hr : r1 (WT' g) k kept now = ⟨[], k, kept, now, false⟩ := by unfold r1; rw [hx]
      (refine STn hE (by kernel_rfl) ?_; refine IFn hE (by kernel_rfl) sH (t := [45]) (by kernel_rfl) ?_; refine UNG (g := 163) hE (by kernel_rfl) (sS sH) hT1 tkf0 (fok (by kernel_rfl)) hS1 (SAt.no _ (by kernel_rfl)) (mok (by kernel_rfl)) (KeepOk.rf (by kernel_rfl)) (by kernel_rfl) sH ?_)
      (refine CA_CL ((c_unget_none (n := n) (TAt.hat h1)).mono ?_) (by (lia)); refine el2 ?_)
      (refine seq_next ?_; refine STA (g := 339) hE (by kernel_rfl) (sS sH) hT1 (tkNo (by kernel_rfl)) (mok (by kernel_rfl)) (sok (by kernel_rfl)) (.inl ⟨(by kernel_rfl), rfl⟩) (by decide) (fun _ => ptk4) ?_; intro zz; refine EXn ?_; refine RETb ?_)
      refine hQ _ _ _ ?_; (first | rw [hr] | skip); exact ⟨rfl, ResAt.intro (by ktr_rel) (by ktr_room) (by first | exact .inl ⟨rfl, rfl⟩ | exact .inr ⟨⟨_, rfl⟩, rfl⟩)⟩
end

section
variable {Z : Cz} {P : Params}
end

section
variable {Z : Cz} {P : Params}
end

section
variable {Z : Cz} {P : Params}
end

section
variable {Z : Cz} {P : Params}
end

section
variable {Z : Cz} {P : Params}
end

end Mine
end
section
open PySem PySem.W PyProof.Rows
set_option maxRecDepth 100000
set_option maxHeartbeats 4000000
set_option linter.unusedVariables false
namespace Mine
section
variable {Z : Cz} {P : Params}
end
section
variable {Z : Cz} {P : Params}

end
section
variable {Z : Cz} {P : Params}

end

end Mine
end
section
open PySem PySem.W PyProof.Rows
set_option maxRecDepth 100000
set_option maxHeartbeats 4000000
set_option linter.unusedVariables false
namespace Mine
theorem upTo_len {M : Mem} {g : G} {pre c : List Nat} {co : Nat} {b : List Nat} {p : Nat} (S : St M g pre c co b p) (ts : List (List Nat)) (k : Nat) : (upTo g ts k).length ≤ 100000 := by
  have h1 := mend_length g.txt
  have h2 := S.len
  have h3 := (List.takeWhile_sublist (l := (WT' g).drop k) (fun x => !decide ([x] ∈ ts))).length_le
  unfold upTo
  unfold WT' at h3 ⊢
  simp at h3 ⊢
  (lia)
section
variable {Z : Cz} {P : Params}
end
section
variable {Z : Cz} {P : Params}
end
section
variable {Z : Cz} {P : Params}
end

end Mine
end
section
open PySem PySem.W PyProof.Rows
set_option maxRecDepth 100000
set_option maxHeartbeats 4000000
set_option linter.unusedVariables false
namespace Mine
noncomputable def lowC (c : Nat) : Nat := if 65 ≤ c ∧ c ≤ 90 then c + 32 else c
theorem lt1 (a b : Nat) : decide ([a] < [b]) = decide (a < b) := by
  rw [PySem.StrLaws.lt_cons_cons, PySem.StrLaws.lt_nil_nil]; simp
theorem flat_singles (l : List Nat) : (l.map ([·])).flatten = l := by
  induction l with
  | nil => rfl
  | cons a r ih => simp only [List.map_cons, List.flatten_cons, ih]; rfl
section
variable {Z : Cz} {P : Params}
theorem c_lower {n : Nat} {M : Mem} {l : List Nat} (hl : l.length ≤ 100000) (hc : ∀ c ∈ l, c < 1114000) :
    CL Z.cx (n + 1) (.ref 42) [.str (mkS l) 0] (fun v m => v = .str (mkS (l.map lowC)) 0 ∧ ∀ a o, M a = some o → m a = some o) M := by
  refine CL_fn (binds := [("text", .str (mkS l) 0)]) (by rfl) (by kernel_rfl) ?_ (by kernel_rfl) ?_
  · intro vs e
    obtain ⟨v1, rfl, e1⟩ := vs1 e
    exact ⟨[("text", v1)], fun s hx => kp_binds hx (fun S => rfl), by simp [e1]⟩
  · intro fz L env hE he; subst he
    rw [bindL1]
    (refine EX_cons ?_; refine E1_Return ?_; refine EV_mcall ?_; refine EV_str (l := []) (by kernel_rfl) ?_; (with_reducible refine GM_join ?_); refine CW_go1 (KeepOk.bf _) ?_; refine AR_cons ?_)
    refine EV_comp hE (IE_str ?_)
    (refine EV_local hE (by kernel_rfl) sH ?_; (with_reducible first | refine exr ?_ | refine ⟨_, rfl, ?_⟩))
    refine ⟨by (exact Nat.le_trans (by assumption) (by decide)), fun i ys lc mm => ys = strsV (((l.take i).map lowC).map ([·])) ∧ (∀ v, setL lc "c" v = setL (fun _ => none) "c" v) ∧ mm = M, ⟨rfl, fun _ => rfl, rfl⟩, ?_, ?_⟩
    · rintro i ys lc mm hi hys ⟨rfl, hlc, rfl⟩
      refine ⟨trivial, fun fz C cenv hE hsc => ?_⟩
      have he : cenv = _ := congrArg (fun s => ({ cenv with scope := s } : Env)) hsc
      have hci : l[i]? = some (l.getD i 0) := by rw [List.getD, List.getElem?_eq_getElem hi]; rfl
      have hcm : l.getD i 0 < 1114000 := hc _ (List.mem_of_getElem? hci)
      generalize hcc : l.getD i 0 = c at *
      have htake : l.take (i + 1) = l.take i ++ [c] := by rw [List.take_add_one, hci]; rfl
      have fin : ∀ v : Value, v = .str (mkS [lowC c]) 0 → strsV (((l.take i).map lowC).map ([·])) ++ [v] = strsV (((l.take (i + 1)).map lowC).map ([·])) := fun v e => by rw [htake, e]; simp [strsV]
      refine ⟨(by rw [he]; kernel_rfl), ?_⟩
      dsimp only
      rw [hlc, hcc]
      (refine EV_ifexp ?_; refine TV_chain2 ?_; refine EV_str (l := [65]) (by kernel_rfl) ?_; refine EV_local hE (by rw [he]; kernel_rfl) sH ?_)
      refine O2_le_str ?_
      with_reducible refine TR_bool ?_
      rw [lt1]
      (refine And.intro ?_ ?_ <;> intro hb <;> try (cases hb; done))
      · have h1 : 65 ≤ c := by simpa using hb
        refine EV_str (l := [90]) (by kernel_rfl) ?_
        refine O2_le_str ?_
        with_reducible refine TR_bool ?_
        rw [lt1]
        (refine And.intro ?_ ?_ <;> intro hb <;> try (cases hb; done))
        · have h2 : c ≤ 90 := by simpa using hb
          (refine EV_ncall ?_; refine EV_builtinF (id := "chr") hE (by rw [he]; kernel_rfl) (by kernel_rfl) (by kernel_rfl) ?_; refine CW_go0 (KeepOk.bf _) ?_; refine AR_cons ?_; refine EV_binop ?_; refine EV_ncall ?_; refine EV_builtinF (id := "ord") hE (by rw [he]; kernel_rfl) (by kernel_rfl) (by kernel_rfl) ?_; refine CW_go0 (KeepOk.bf _) ?_; refine AR_cons ?_; refine EV_local hE (by rw [he]; kernel_rfl) sH ?_; refine AR_nil ?_; (with_reducible refine CA_ord ?_); refine EV_int ?_; (with_reducible refine O2_add_int ?_); refine AR_nil ?_; (with_reducible refine CA_chr ?_ ?_ ?_); rotate_left; rotate_left; rotate_left)
          · (clear h2 hb h1 fin htake hcm hci hcc he hsc hE hlc hys hi hc hl; omega)
          · (clear hb fin htake hci he hsc hE hlc hys hi hc hl; lia)
          · refine ⟨fin _ ?_, fun v => setL_setL _ _ _ _, rfl⟩
            unfold lowC
            rw [if_pos ⟨h1, h2⟩]
            congr 2
        · have h2 : ¬ c ≤ 90 := by simpa using hb
          refine EV_local hE (by rw [he]; kernel_rfl) sH ?_
          exact ⟨fin _ (by unfold lowC; rw [if_neg (by (clear hb fin htake hci he hsc hE hlc hys hi hc hl; lia))]), fun v => setL_setL _ _ _ _, rfl⟩
      · have h1 : ¬ 65 ≤ c := by simpa using hb
        ((refine And.intro ?_ ?_ <;> intro hb <;> try (cases hb; done)); refine EV_local hE (by rw [he]; kernel_rfl) sH ?_)
        exact ⟨fin _ (by unfold lowC; rw [if_neg (by (lia))]), fun v => setL_setL _ _ _ _, rfl⟩
    · rintro ys lc mm hys ⟨rfl, hlc, rfl⟩
      refine ⟨trivial, fun D hD => ?_⟩
      refine AR_nil ?_
      have hfl : (((l.take l.length).map lowC).map ([·])).flatten = l.map lowC := by rw [List.take_length, flat_singles]
      refine CA_join (.lst (setM_same _ _ _)) (joinOk_nil _ (by rw [hfl]; simp; (exact Nat.le_trans (by assumption) (by decide)))) ?_
      rw [inter_nil, hfl]
      refine seq_ret ?_
      exact ⟨rfl, fun a o e => setM_old hD e⟩
end
end Mine
end
section
open PySem PySem.W PyProof.Rows
set_option maxRecDepth 100000
set_option maxHeartbeats 4000000
set_option linter.unusedVariables false
namespace Mine
noncomputable def tagD (ty : Int) (nm : List Nat) (e : Addr) : List (Str × Value) := [("type", .int ty 0), ("name", .str (mkS nm) 0), ("data", .ref e), ("selfClosing", .bool false)]
section
variable {Z : Cz} {P : Params}
theorem c_emit (hP : P = Z.cx.w.params) {n : Nat} {M : Mem} {g : G} {T q lf a e : Addr} {sv : Value} {kept nm : List Nat} {vs : List Value}
    (hT : M T = some (.inst 762 9 (tblF (tkT g lf sv (.ref a) q kept)))) (hq : M q = some (.lst vs)) (ha : M a = some (.dct (tagD 4 nm e))) (hel : M e = some (.lst [])) (hvs : vs.length ≤ 1000) (hl : nm.length ≤ 100000) (hc : ∀ c ∈ nm, c < 1114000) :
    CL Z.cx (n + 3) (.ref 297) [.ref T] (fun v m => v = .none ∧ ∃ z m', (∀ d o, M d = some o → m' d = some o) ∧
      m = setM (setM (setM m' a (.dct (tagD 4 (nm.map lowC) e))) q (.lst (vs ++ [.ref a]))) T (.inst 762 9 (tblF (tkT g lf (.ref z) (.ref a) q kept)))) M := by
  have hTT := (top_types (Z := Z)) hP
  have hTg := (top_tagTypes (Z := Z))
  have tq : T ≠ q := fun z => by rw [z, hq] at hT; cases hT
  have ta : T ≠ a := fun z => by rw [z, ha] at hT; cases hT
  have qa : q ≠ a := fun z => by rw [z, ha] at hq; cases hq
  have ea : e ≠ a := fun z => by rw [z, ha] at hel; cases hel
  refine CL_fn (binds := [("self", .ref T)]) (by rfl) (by kernel_rfl) ?_ (by kernel_rfl) ?_
  · intro vs e
    obtain ⟨v1, rfl, e1⟩ := vs1 e
    exact ⟨[("self", v1)], fun s hx => kp_binds hx (fun S => rfl), by simp [e1]⟩
  · intro fz L env hE he; subst he
    rw [bindL1]
    unfold tkT at hT
    unfold tagD at ha
    (refine EX_cons ?_; refine E1_AssignName ?_ rfl; refine EVaf hE (by kernel_rfl) sH hT (tS (tS (tS (tS (tS (tS tH)))))) (fok (by kernel_rfl)) ?_; refine STn hE (by kernel_rfl) ?_; refine EX_cons ?_; refine E1_If ?_; refine TV_compare ?_; refine EV_sub ?_; refine EV_local hE (by kernel_rfl) sH ?_; refine EV_str (l := [116, 121, 112, 101]) (by kernel_rfl) ?_)
    refine SUB_dictT (.dct ha) (by exact tE) ?_
    refine EV_gref (a := 49) hE (by kernel_rfl) (by kernel_rfl) ?_
    refine O2_in_tupI (.inr hTg) ?_
    with_reducible refine TR_bool ?_
    (refine And.intro ?_ ?_ <;> intro hb <;> try (cases hb; done))
    (refine EX_cons ?_; refine E1_AssignSub ?_ rfl; refine EV_ncall ?_; refine EV_gref (a := 42) hE (by kernel_rfl) (by kernel_rfl) ?_; refine CW_go0 (KeepOk.rf (by kernel_rfl)) ?_; refine AR_cons ?_; refine EV_sub ?_; refine EV_local hE (by kernel_rfl) sH ?_; refine EV_str (l := [110, 97, 109, 101]) (by kernel_rfl) ?_)
    refine SUB_dictT (.dct ha) (by exact (tS tE)) ?_
    refine AR_nil ?_
    refine CA_CL ((c_lower (n := n) hl hc).mono ?_) (by (exact Nat.le_succ _))
    rintro v m' ⟨rfl, km⟩
    have hT' := km _ _ hT
    have hq' := km _ _ hq
    have ha' := km _ _ ha
    have he' := km _ _ hel
    (refine EV_local hE (by kernel_rfl) sH ?_; refine EV_str (l := [110, 97, 109, 101]) (by kernel_rfl) ?_)
    have hst : stored (tagD 4 nm e) (mkS [110, 97, 109, 101]) (.str (mkS (nm.map lowC)) 0) = tagD 4 (nm.map lowC) e := by kernel_rfl
    unfold tagD at hst
    refine SI_dict ha' (by simp) ?_
    rw [hst]
    (refine seq_next ?_; refine EX_cons ?_; refine E1_If ?_; refine TV_compare ?_; refine EV_sub ?_; refine EV_local hE (by kernel_rfl) sH ?_; refine EV_str (l := [116, 121, 112, 101]) (by kernel_rfl) ?_)
    refine SUB_dictT (.dct (setM_same _ _ _)) (by exact tE) ?_
    (refine EV_sub ?_; refine EV_gref (a := 48) hE (by kernel_rfl) (by kernel_rfl) ?_; refine EV_str (l := [83, 116, 97, 114, 116, 84, 97, 103]) (by kernel_rfl) ?_; refine SUB_dictT (.inr hTT) (tS (tS (tS tE))) ?_; (with_reducible refine O2_eq_int ?_); (with_reducible refine TR_bool ?_))
    (refine And.intro ?_ ?_ <;> intro hb <;> try (cases hb; done))
    (refine EXn ?_; refine EX_cons ?_; refine E1_If ?_; refine TV_compare ?_; refine EV_sub ?_; refine EV_local hE (by kernel_rfl) sH ?_; refine EV_str (l := [116, 121, 112, 101]) (by kernel_rfl) ?_)
    refine SUB_dictT (.dct (setM_same _ _ _)) (by exact tE) ?_
    (refine EV_sub ?_; refine EV_gref (a := 48) hE (by kernel_rfl) (by kernel_rfl) ?_; refine EV_str (l := [69, 110, 100, 84, 97, 103]) (by kernel_rfl) ?_; refine SUB_dictT (.inr hTT) (tS (tS (tS (tS tE)))) ?_; (with_reducible refine O2_eq_int ?_); (with_reducible refine TR_bool ?_))
    (refine And.intro ?_ ?_ <;> intro hb <;> try (cases hb; done))
    (refine EX_cons ?_; refine E1_If ?_; refine TV_value ?_; refine EV_sub ?_; refine EV_local hE (by kernel_rfl) sH ?_; refine EV_str (l := [100, 97, 116, 97]) (by kernel_rfl) ?_)
    refine SUB_dictT (.dct (setM_same _ _ _)) (by exact (tS (tS tE))) ?_
    refine TR_list ((setM_ne _ _ ea).trans he') (by simp) ?_
    (refine And.intro ?_ ?_ <;> intro hb <;> try (cases hb; done))
    (refine EXn ?_; refine EX_cons ?_; refine E1_If ?_; refine TV_value ?_; refine EV_sub ?_; refine EV_local hE (by kernel_rfl) sH ?_; refine EV_str (l := [115, 101, 108, 102, 67, 108, 111, 115, 105, 110, 103]) (by kernel_rfl) ?_)
    refine SUB_dictT (.dct (setM_same _ _ _)) (by exact (tS (tS (tS tE)))) ?_
    with_reducible refine TR_bool ?_
    (refine And.intro ?_ ?_ <;> intro hb <;> try (cases hb; done))
    (refine EXn ?_; refine EXn ?_; refine EXn ?_; refine EX_cons ?_; refine E1_Expr ?_ (by rfl) (by rfl); refine EV_mcall ?_; refine EVaf hE (by kernel_rfl) (sS sH) ((setM_ne _ _ ta).trans hT') (tS (tS (tS (tS (tS (tS (tS tH))))))) (fok (by kernel_rfl)) ?_; (with_reducible refine GM_append ((setM_ne _ _ qa).trans hq') ?_); refine CW_go1 (KeepOk.bf _) ?_; refine AR_cons ?_; refine EV_local hE (by kernel_rfl) sH ?_; refine AR_nil ?_; refine CA_append ((setM_ne _ _ qa).trans hq') ?_ ?_; rotate_left; refine seq_next ?_; refine STA (g := 304) hE (by kernel_rfl) (sS sH) ((setM_ne _ _ tq).trans ((setM_ne _ _ ta).trans hT')) (tS (tS (tS (tS (tS (tS (tS (tS (tS tN))))))))) (mok (by kernel_rfl)) (sok (by kernel_rfl)) (.inl ⟨(by kernel_rfl), rfl⟩) (by decide) (fun _ => (pS (pS (pS (pS pH))))) ?_; intro zz; refine EX_nil ?_; rotate_left)
    · (exact Nat.le_trans (by assumption) (by decide))
    · exact ⟨rfl, _, m', km, rfl⟩
end
end Mine
end
section
open PySem PySem.W PyProof.Rows
set_option maxRecDepth 100000
set_option maxHeartbeats 4000000
set_option linter.unusedVariables false
namespace Mine
theorem TR_dct {X : Cx} {n : Nat} {fz : Frz} {L : Addr} {loc : Loc} {M : Mem} {Q : QB} {a : Addr} {es : List (Str × Value)} (hm : RdM X M a (.dct es)) (hl : es.length ≤ 16777216) (h : Q (!es.isEmpty) loc M) : O1B X n fz L truthy (.ref a) Q loc M := fun va e A s r F o => by
  rw [er_ref e]
  obtain ⟨kvs, h1, h3, h2⟩ := hm.get F
  have hk : kvs.length = es.length := by rw [← h2, List.length_map]
  refine wpAny_truthy_dict (sysM h3) h1 (by (lia)) ⟨loc, M, F, Like.tokn s _ (by (lia)), ?_⟩
  have : kvs.isEmpty = es.isEmpty := by
    rw [Bool.eq_iff_iff, List.isEmpty_iff_length_eq_zero, List.isEmpty_iff_length_eq_zero, hk]
  rw [this]; exact h
noncomputable def approp (now : Option (Int × List Nat)) (kept : List Nat) : Bool := match now with
  | some (_, nm) => decide ((Txt.lower (mkS nm)).cps.toList = (Txt.lower (mkS kept)).cps.toList)
  | none => false
theorem TV_and2 {X : Cx} {n : Nat} {fz : Frz} {L : Addr} {loc : Loc} {M : Mem} {env : Env} {e1 e2 : Expr} {pos : Pos} {b1 b2 : Bool} {Q : QB} (h1 : ∀ Q1 : QB, Q1 b1 loc M → TV X n fz L env e1 Q1 loc M) (h2 : ∀ Q2 : QB, Q2 b2 loc M → TV X n fz L env e2 Q2 loc M)
    (h : Q (b1 && b2) loc M) : TV X n fz L env (.BoolOp .And [e1, e2] pos) Q loc M :=
  TV_boolop (TAll_and (h1 _ ⟨fun e => TAll_and (h2 _ ⟨fun e' => TAll_and_nil (by subst e e'; exact h), fun e' => by subst e e'; exact h⟩), fun e => by subst e; exact h⟩))
theorem TR_av {X : Cx} {n : Nat} {fz : Frz} {L : Addr} {loc : Loc} {M : Mem} {Q : QB} {av : Value} {b : Bool} (hav : (av = .none ∧ b = false) ∨ av = .bool b) (h : Q b loc M) : O1B X n fz L truthy av Q loc M := by
  rcases hav with ⟨rfl, rfl⟩ | rfl
  · exact TR_none h
  · exact TR_bool h
theorem TAt.newTag {m1 : Mem} {g : G} {T q lf : Addr} {k bk : Nat} {kept : List Nat} {now : Option (Int × List Nat)} {sv sv' : Value} {toks : List TK} {ct : Value} {vs : List Value} {D D' : Addr}
    (h : TAt m1 g T q lf k bk kept now sv toks ct vs) (hD : m1 D = none) (hD' : setM m1 D (.dct []) D' = none) :
    TAt (setM (setM (setM (setM m1 D (.dct [])) D' (.lst [])) D (.dct (tagD 4 kept D'))) T (.inst 762 9 (tblF (tkT g lf sv' (.ref D) q kept)))) g T q lf k bk kept (some (4, kept)) sv' toks (.ref D) vs ∧
    (∀ a o, m1 a = some o → setM (setM (setM m1 D (.dct [])) D' (.lst [])) D (.dct (tagD 4 kept D')) a = some o) := by
  obtain ⟨hD1, hDD⟩ := setM_none hD'
  have keep : ∀ a o, m1 a = some o → setM (setM (setM m1 D (.dct [])) D' (.lst [])) D (.dct (tagD 4 kept D')) a = some o := fun a o e => by
    have n1 : a ≠ D := fun z => by rw [z, hD] at e; cases e
    have n2 : a ≠ D' := fun z => by rw [z, hD1] at e; cases e
    exact (setM_ne _ _ n1).trans ((setM_ne _ _ n2).trans ((setM_ne _ _ n1).trans e))
  have hg := h.grow keep
  obtain ⟨pre, c, co, b, p, S, _⟩ := h.hat
  obtain ⟨es, hE, _⟩ := S.hE
  have hq := h.hq
  exact ⟨hg.setTok sv' kept (some (4, kept)) (.ref D) ⟨D, D', rfl, setM_same _ _ _, (setM_ne _ _ hDD).trans (setM_same _ _ _), (fun z => by rw [z, hE] at hD1; cases hD1), (fun z => by rw [z, hq] at hD1; cases hD1)⟩, keep⟩
theorem TAt.emit {m4 m' : Mem} {g : G} {T q lf : Addr} {k bk : Nat} {kept : List Nat} {now : Option (Int × List Nat)} {sv sv' : Value} {D e : Addr}
    (h : TAt m4 g T q lf k bk kept now sv [] (.ref D) []) (km : ∀ d o, m4 d = some o → m' d = some o) {es : List (Str × Value)} (hD : m4 D = some (.dct es)) (hel : m4 e = some (.lst [])) (he1 : e ≠ g.E) (he2 : e ≠ q) (nm : List Nat) :
    TAt (setM (setM (setM m' D (.dct (tagD 4 nm e))) q (.lst [.ref D])) T (.inst 762 9 (tblF (tkT g lf sv' (.ref D) q kept)))) g T q lf k bk kept (some (4, nm)) sv' [.tag 4 nm] (.ref D) [.ref D] := by
  have h' := h.grow km
  obtain ⟨t1, t2, t3, t4, q1, q2, q3, q4, tq⟩ := h'.geo
  obtain ⟨pre, c, co, b, p, S, _⟩ := h'.hat
  obtain ⟨es', hE, _⟩ := S.hE
  have hD' := km _ _ hD
  have he' := km _ _ hel
  have hT := h'.hT
  have hq := h'.hq
  have nS : D ≠ g.S := fun z => by rw [z, S.hS] at hD'; cases hD'
  have nX : D ≠ g.X := fun z => by rw [z, S.hX] at hD'; cases hD'
  have nE : D ≠ g.E := fun z => by rw [z, hE] at hD'; cases hD'
  have nQ : D ≠ g.Q := fun z => by rw [z, S.hQ] at hD'; cases hD'
  have nT : D ≠ T := fun z => by rw [z, hT] at hD'; cases hD'
  have nq : D ≠ q := fun z => by rw [z, hq] at hD'; cases hD'
  have eT : e ≠ T := fun z => by rw [z, hT] at he'; cases he'
  have eD : e ≠ D := fun z => by rw [z, hD'] at he'; cases he'
  have st : ∀ a, a ≠ T → a ≠ q → a ≠ D → setM (setM (setM m' D (.dct (tagD 4 nm e))) q (.lst [.ref D])) T (.inst 762 9 (tblF (tkT g lf sv' (.ref D) q kept))) a = m' a := fun a i1 i2 i3 => (setM_ne _ _ i1).trans ((setM_ne _ _ i2).trans (setM_ne _ _ i3))
  have hD2 : setM (setM (setM m' D (.dct (tagD 4 nm e))) q (.lst [.ref D])) T (.inst 762 9 (tblF (tkT g lf sv' (.ref D) q kept))) D = some (.dct (tagD 4 nm e)) := (setM_ne _ _ nT).trans ((setM_ne _ _ nq).trans (setM_same _ _ _))
  have hr : TkRep g q (setM (setM (setM m' D (.dct (tagD 4 nm e))) q (.lst [.ref D])) T (.inst 762 9 (tblF (tkT g lf sv' (.ref D) q kept)))) (.tag 4 nm) (.ref D) := ⟨D, e, rfl, hD2, (st _ eT he2 eD).trans he', he1, he2⟩
  exact ⟨h'.hat.off (st _ t1.symm q1.symm nS.symm) (st _ t2.symm q2.symm nX.symm) (st _ t3.symm q3.symm nE.symm) (st _ t4.symm q4.symm nQ.symm), setM_same _ _ _, hr, (setM_ne _ _ tq.symm).trans (setM_same _ _ _), .cons hr .nil, h.ne⟩
noncomputable def r7 (W : List Nat) (k : Nat) (kept : List Nat) (now : Option (Int × List Nat)) : Res := match W[k]? with
  | some x => if (x ∈ spacesC ∨ x = 47) ∧ approp now kept = true then ⟨[], k + 1, kept, some (4, kept), false⟩
    else if x = 62 ∧ approp now kept = true then ⟨[.tag 4 (kept.map lowC)], k + 1, kept, some (4, kept.map lowC), false⟩
    else if x ∈ lettersC then ⟨[], k + 1, kept ++ [x], now, true⟩ else ⟨[.chars ([60, 47] ++ kept)], k, kept, now, false⟩
  | none => ⟨[.chars ([60, 47] ++ kept)], k, kept, now, false⟩
section
variable {Z : Cz} {P : Params}
end
end Mine
end
section
open PySem PySem.W PyProof.Rows
set_option maxRecDepth 100000
set_option maxHeartbeats 4000000
set_option linter.unusedVariables false
namespace Mine
theorem setM_3 (M : Mem) (S D : Addr) (x o1 o2 : AO) : setM (setM (setM M S o1) D x) S o2 = setM (setM M D x) S o2 := by
  funext b; unfold setM; split <;> rfl
section
variable {Z : Cz} {P : Params}
theorem c_textInit {n : Nat} {M : Mem} {x : Addr} {txt : List Nat} (hM : M x = some (.inst 73 0 (tblF []))) :
    CL Z.cx (n + 1) (.ref 63) [.ref x, .str (mkS txt) 0] (fun v m => v = .none ∧ m = setM M x (.inst 73 2 (tblF [("text", .str (mkS txt) 0), ("place", .int 0 0)]))) M := by
  refine CL_fn (binds := [("self", .ref x), ("text", .str (mkS txt) 0)]) (by rfl) (by kernel_rfl) ?_ (by kernel_rfl) ?_
  · intro vs e
    obtain ⟨v1, v2, rfl, e1, e2⟩ := vs2 e
    exact ⟨[("self", v1), ("text", v2)], fun s hx => kp_binds hx (fun S => rfl), by simp [e1, e2]⟩
  · intro fz L env hE he; subst he
    rw [bindL2]
    (refine EX_cons ?_; refine E1_AssignAttr ?_ rfl; refine EV_local hE (by kernel_rfl) sH ?_; refine EV_local hE (by kernel_rfl) (sS sH) ?_; refine SA_tbl hM (sok (by kernel_rfl)) (.inr rfl) (by decide) pN ?_; refine seq_next ?_; refine EX_cons ?_; refine E1_AssignAttr ?_ rfl; refine EV_int ?_; refine EV_local hE (by kernel_rfl) (sS sH) ?_; refine SA_tbl2 (sok (by kernel_rfl)) (.inr rfl) (by decide) (pS pN) ?_; refine seq_next ?_; refine EX_nil ?_)
    exact ⟨rfl, rfl⟩
theorem c_text {n : Nat} {M : Mem} {txt : List Nat} :
    CL Z.cx (n + 2) (.ref 73) [.str (mkS txt) 0] (fun v m => ∃ x, M x = none ∧ v = .ref x ∧ m = setM M x (.inst 73 2 (tblF [("text", .str (mkS txt) 0), ("place", .int 0 0)]))) M := by
  refine CL_make (fI := 63) (by kernel_rfl) (by kernel_rfl) (by kernel_rfl) fun x hx => ?_
  rw [none_tbl]
  refine (c_textInit (setM_same _ _ _)).mono ?_
  refine el2 ?_
  exact ⟨rfl, x, hx, rfl, by rw [setM_setM]⟩
noncomputable def stN (S X E Q N : Addr) : List (Str × Value) :=
  [("reportCharacterErrors", .ref Q), ("newLines", .ref N), ("dataStream", .ref X), ("chunk", .str (mkS []) 0), ("chunkSize", .int 0 0), ("chunkOffset", .int 0 0), ("errors", .ref E),
   ("prevNumLines", .int 0 0), ("prevNumCols", .int 0 0), ("_bufferedCharacter", .none)]
theorem c_reset {n : Nat} {M : Mem} {S XX Q N : Addr} (hM : M S = some (.inst 166 3 (tblF [("reportCharacterErrors", .ref Q), ("newLines", .ref N), ("dataStream", .ref XX)]))) :
    CL Z.cx (n + 1) (.ref 105) [.ref S] (fun v m => v = .none ∧ ∃ E, M E = none ∧ m = setM (setM M E (.lst [])) S (.inst 166 10 (tblF (stN S XX E Q N)))) M := by
  refine CL_fn (binds := [("self", .ref S)]) (by rfl) (by kernel_rfl) ?_ (by kernel_rfl) ?_
  · intro vs e
    obtain ⟨v1, rfl, e1⟩ := vs1 e
    exact ⟨[("self", v1)], fun s hx => kp_binds hx (fun S => rfl), by simp [e1]⟩
  · intro fz L env hE he; subst he
    rw [bindL1]
    (refine EX_cons ?_; refine E1_AssignAttr ?_ rfl; refine EV_str (l := []) (by kernel_rfl) ?_; refine EV_local hE (by kernel_rfl) sH ?_; refine SA_tbl hM (sok (by kernel_rfl)) (.inr rfl) (by decide) (pS (pS (pS pN))) ?_; refine seq_next ?_; refine EX_cons ?_; refine E1_AssignAttr ?_ rfl; refine EV_int ?_; refine EV_local hE (by kernel_rfl) sH ?_; refine SA_tbl2 (sok (by kernel_rfl)) (.inr rfl) (by decide) (pS (pS (pS (pS pN)))) ?_; refine seq_next ?_; refine EX_cons ?_; refine E1_AssignAttr ?_ rfl; refine EV_int ?_; refine EV_local hE (by kernel_rfl) sH ?_; refine SA_tbl2 (sok (by kernel_rfl)) (.inr rfl) (by decide) (pS (pS (pS (pS (pS pN))))) ?_; refine seq_next ?_; refine EX_cons ?_; refine E1_AssignAttr ?_ rfl; refine EV_list ?_; refine AR_nil ?_)
    refine ⟨by simp, fun D hD => ?_⟩
    have hDS := (setM_none hD).2
    (refine EV_local hE (by kernel_rfl) sH ?_; refine SA_tbl (setM_old hD (setM_same _ _ _)) (sok (by kernel_rfl)) (.inr rfl) (by decide) (pS (pS (pS (pS (pS (pS pN)))))) ?_; refine seq_next ?_; refine EX_cons ?_; refine E1_AssignAttr ?_ rfl; refine EV_int ?_; refine EV_local hE (by kernel_rfl) sH ?_; refine SA_tbl2 (sok (by kernel_rfl)) (.inr rfl) (by decide) (pS (pS (pS (pS (pS (pS (pS pN))))))) ?_; refine seq_next ?_; refine EX_cons ?_; refine E1_AssignAttr ?_ rfl; refine EV_int ?_; refine EV_local hE (by kernel_rfl) sH ?_; refine SA_tbl2 (sok (by kernel_rfl)) (.inr rfl) (by decide) (pS (pS (pS (pS (pS (pS (pS (pS pN)))))))) ?_; refine seq_next ?_; refine EX_cons ?_; refine E1_AssignAttr ?_ rfl; refine EV_none ?_; refine EV_local hE (by kernel_rfl) sH ?_; refine SA_tbl2 (sok (by kernel_rfl)) (.inr rfl) (by decide) (pS (pS (pS (pS (pS (pS (pS (pS (pS pN))))))))) ?_; refine seq_next ?_; refine EX_nil ?_)
    exact ⟨rfl, D, (setM_none hD).1, setM_3 _ _ _ _ _ _⟩
theorem c_open {n : Nat} {M : Mem} {S : Addr} {txt : List Nat} :
    CL Z.cx (n + 3) (.ref 112) [.ref S, .str (mkS txt) 0] (fun v m => ∃ x, M x = none ∧ v = .ref x ∧ m = setM M x (.inst 73 2 (tblF [("text", .str (mkS txt) 0), ("place", .int 0 0)]))) M := by
  refine CL_fn (binds := [("self", .ref S), ("source", .str (mkS txt) 0)]) (by rfl) (by kernel_rfl) ?_ (by kernel_rfl) ?_
  · intro vs e
    obtain ⟨v1, v2, rfl, e1, e2⟩ := vs2 e
    exact ⟨[("self", v1), ("source", v2)], fun s hx => kp_binds hx (fun S => rfl), by simp [e1, e2]⟩
  · intro fz L env hE he; subst he
    rw [bindL2]
    (refine EX_cons ?_; refine E1_AssignName ?_ rfl; refine EV_ncall ?_; refine EV_gref (a := 73) hE (by kernel_rfl) (by kernel_rfl) ?_; refine CW_go0 (KeepOk.rf (by kernel_rfl)) ?_; refine AR_cons ?_; refine EV_local hE (by kernel_rfl) sH ?_; refine AR_nil ?_)
    refine CA_CL (k := n + 2) ((c_text (n := n)).mono ?_) (by (exact Nat.le_refl _))
    (intro v m hq0; refine obEAA hq0 ?_; clear hq0; intro x hx hz2 hz3; subst hz2; subst hz3)
    (refine STn hE (by kernel_rfl) ?_; refine EX_cons ?_; refine E1_Return ?_; refine EV_local hE (by kernel_rfl) sH ?_; refine seq_ret ?_)
    exact ⟨x, hx, rfl, rfl⟩
theorem c_streamInit {n : Nat} {M : Mem} {S : Addr} {txt : List Nat} (hM : M S = some (.inst 166 0 (tblF []))) :
    CL Z.cx (n + 4) (.ref 98) [.ref S, .str (mkS txt) 0] (fun v m => v = .none ∧ ∃ XX E Q N, M XX = none ∧ M E = none ∧ M Q = none ∧ M N = none ∧ XX ≠ E ∧ XX ≠ Q ∧ XX ≠ N ∧ E ≠ Q ∧ E ≠ N ∧ Q ≠ N ∧
      m S = some (.inst 166 10 (tblF (stN S XX E Q N))) ∧ m XX = some (.inst 73 2 (tblF [("text", .str (mkS txt) 0), ("place", .int 0 0)])) ∧ m E = some (.lst []) ∧ m Q = some (.obj (methodObj (.ref 148) (.ref S))) ∧ ∀ a o, a ≠ S → M a = some o → m a = some o) M := by
  refine CL_fn (binds := [("self", .ref S), ("source", .str (mkS txt) 0)]) (by rfl) (by kernel_rfl) ?_ (by kernel_rfl) ?_
  · intro vs e
    obtain ⟨v1, v2, rfl, e1, e2⟩ := vs2 e
    exact ⟨[("self", v1), ("source", v2)], fun s hx => kp_binds hx (fun S => rfl), by simp [e1, e2]⟩
  · intro fz L env hE he; subst he
    rw [bindL2]
    refine EX_cons ?_
    refine E1_AssignAttr ?_ rfl
    refine EV_attr ?_
    refine EV_local hE (by kernel_rfl) (sS sH) ?_
    refine GA_boundO (by exact hM) (by exact tN) (by exact (show MethOk _ _ _ 148 from (mok (by kernel_rfl)))) fun Q hQ => ?_
    have nQ : S ≠ Q := fun z => by rw [← z, hM] at hQ; cases hQ
    have hM1 := setM_old hQ hM (o := .obj (methodObj (.ref 148) (.ref S)))
    (refine EV_local hE (by kernel_rfl) (sS sH) ?_; refine SA_tbl hM1 (sok (by kernel_rfl)) (.inr rfl) (by decide) pN ?_; refine seq_next ?_; refine EX_cons ?_; refine E1_AssignAttr ?_ rfl; refine EV_list ?_; refine AR_cons ?_; refine EV_int ?_; refine AR_nil ?_)
    refine ⟨by simp, fun N hN => ?_⟩
    have nN := (setM_none hN).2
    (refine EV_local hE (by kernel_rfl) (sS sH) ?_; refine SA_tbl (setM_old hN (setM_same _ _ _)) (sok (by kernel_rfl)) (.inr rfl) (by decide) (pS pN) ?_; refine seq_next ?_; refine EX_cons ?_; refine E1_AssignAttr ?_ rfl; refine EV_mcall ?_; refine EV_local hE (by kernel_rfl) (sS sH) ?_; refine GM_meth (g := 112) (setM_same _ _ _) (tS (tS tN)) (mok (by kernel_rfl)) ?_; refine CW_go1 (KeepOk.rf (by kernel_rfl)) ?_; refine AR_cons ?_; refine EV_local hE (by kernel_rfl) sH ?_; refine AR_nil ?_)
    refine CA_CL (k := n + 3) ((c_open (n := n)).mono ?_) (by (exact Nat.le_refl _))
    (intro v m hq0; refine obEAA hq0 ?_; clear hq0; intro XX hX hz2 hz3; subst hz2; subst hz3)
    have nX := (setM_none hX).2
    have hX1 := (setM_none (setM_none hX).1).2
    have nXN : XX ≠ N := hX1
    (refine EV_local hE (by kernel_rfl) (sS sH) ?_; refine SA_tbl (setM_old hX (setM_same _ _ _)) (sok (by kernel_rfl)) (.inr rfl) (by decide) (pS (pS pN)) ?_; refine seq_next ?_; refine EX_cons ?_; refine E1_Expr ?_ (by rfl) (by rfl); refine EV_mcall ?_; refine EV_local hE (by kernel_rfl) (sS sH) ?_; refine GM_meth (g := 105) (setM_same _ _ _) (tS (tS (tS tN))) (mok (by kernel_rfl)) ?_; refine CW_go1 (KeepOk.rf (by kernel_rfl)) ?_; refine AR_nil ?_)
    refine CA_CL (k := n + 3) (((c_reset (n := n + 2) (setM_same _ _ _)).mono ?_)) (by (exact Nat.le_refl _))
    (intro v m hq0; refine obAEA hq0 ?_; clear hq0; intro hz0 E hE' hz3; subst hz0; subst hz3)
    (refine seq_next ?_; refine EX_nil ?_)
    have a1 := setM_none hE'
    have a2 := setM_none a1.1
    have a3 := setM_none a2.1
    have a4 := setM_none a3.1
    have a5 := setM_none a4.1
    have a6 := setM_none a5.1
    have b2 := setM_none (setM_none hX).1
    have b3 := setM_none b2.1
    have b4 := setM_none b3.1
    have c2 := setM_none hN
    have c3 := setM_none c2.1
    have nEX : XX ≠ E := a2.2.symm
    have nES : E ≠ S := a1.2
    have nEN : E ≠ N := a4.2
    have nEQ : E ≠ Q := a6.2
    have nXQ : XX ≠ Q := b4.2
    have nNQ : Q ≠ N := c3.2.symm
    refine ⟨rfl, XX, E, Q, N, b4.1, a6.1, hQ, c3.1, nEX, nXQ, nXN, nEQ, nEN, nNQ, by exact (setM_same _ _ _), by exact ((setM_ne _ _ nX).trans (setM_old hE' ((setM_ne _ _ nX).trans (setM_same _ _ _)))), by exact ((setM_ne _ _ nES).trans (setM_same _ _ _)), by exact ((setM_ne _ _ (Ne.symm nQ)).trans (setM_old hE' ((setM_ne _ _ (Ne.symm nQ)).trans (setM_old hX ((setM_ne _ _ (Ne.symm nQ)).trans (setM_old hN ((setM_ne _ _ (Ne.symm nQ)).trans (setM_same _ _ _)))))))), fun a o i e => ?_⟩
    have d1 : a ≠ Q := fun z => by rw [z, hQ] at e; cases e
    have d2 : a ≠ N := fun z => by rw [z, c3.1] at e; cases e
    have d3 : a ≠ XX := fun z => by rw [z, b4.1] at e; cases e
    have d4 : a ≠ E := fun z => by rw [z, a6.1] at e; cases e
    simp only [setM_ne, ne_eq, i, d1, d2, d3, d4, not_false_eq_true]
    exact e
end
end Mine
end
section
open PySem PySem.W PyProof.Rows
set_option maxRecDepth 100000
set_option maxHeartbeats 4000000
set_option linter.unusedVariables false
namespace Mine
noncomputable def tk0 (S lf : Addr) (sv : Value) : List (Str × Value) :=
  [("stream", .ref S), ("parser", .none), ("escapeFlag", .bool false), ("lastFourChars", .ref lf), ("state", sv), ("escape", .bool false), ("currentToken", .none)]
section
variable {Z : Cz} {P : Params}
theorem c_stream {n : Nat} {M : Mem} {txt : List Nat} (hl : txt.length ≤ 100000) (hs : ∀ x ∈ txt, x < 55296) :
    CL Z.cx (n + 5) (.ref 166) [.str (mkS txt) 0] (fun v m => ∃ g : G, v = .ref g.S ∧ g.txt = txt ∧ St m g [] [] 0 [] 0 ∧ (∀ a o, M a = some o → m a = some o) ∧ M g.S = none ∧ M g.X = none ∧ M g.E = none ∧ M g.Q = none) M := by
  refine CL_make (fI := 98) (by kernel_rfl) (by kernel_rfl) (by kernel_rfl) fun x hx => ?_
  rw [none_tbl]
  refine (c_streamInit (n := n) (setM_same _ _ _)).mono ?_
  (intro v m hq0; refine obAEEEEAAAAAAAAAAAAAA hq0 ?_; clear hq0; intro hz0 XX E Q N h1 h2 h3 h4 _ _ _ _ _ _ h5 h6 h7 h8 kp; subst hz0)
  refine ⟨rfl, ⟨x, XX, E, Q, N, txt⟩, rfl, rfl, ⟨h5, h6, ⟨[], h7, by simp⟩, h8, by simp, by simp, .inl rfl, by simp, hl, hs⟩, fun a o e => kp a o (fun z => by rw [z, hx] at e; cases e) (setM_old hx e), hx, (setM_none h1).1, (setM_none h2).1, (setM_none h3).1⟩
theorem c_tokInit {n : Nat} {M : Mem} {T : Addr} {txt : List Nat} (hM : M T = some (.inst 762 0 (tblF []))) (hl : txt.length ≤ 100000) (hs : ∀ x ∈ txt, x < 55296) :
    CL Z.cx (n + 6) (.ref 261) [.ref T, .str (mkS txt) 0] (fun v m => v = .none ∧ ∃ (g : G) (lf zz : Addr), g.txt = txt ∧ m T = some (.inst 762 7 (tblF (tk0 g.S lf (.ref zz)))) ∧ St m g [] [] 0 [] 0 ∧ (∀ a o, a ≠ T → M a = some o → m a = some o) ∧ M g.S = none ∧ M g.X = none ∧ M g.E = none ∧ M g.Q = none) M := by
  refine CL_fn (binds := [("self", .ref T), ("stream", .str (mkS txt) 0), ("parser", .none)]) (by rfl) (by kernel_rfl) ?_ (by kernel_rfl) ?_
  · intro vs e
    obtain ⟨v1, v2, rfl, e1, e2⟩ := vs2 e
    exact ⟨[("self", v1), ("stream", v2), ("parser", .none)], fun s hx => kp_binds hx (fun S => rfl), by simp [e1, e2]⟩
  · intro fz L env hE he; subst he
    rw [bindL3]
    (refine EX_cons ?_; refine E1_AssignAttr ?_ rfl; refine EV_ncall ?_; refine EV_gref (a := 166) hE (by kernel_rfl) (by kernel_rfl) ?_; refine CW_go0 (KeepOk.rf (by kernel_rfl)) ?_; refine AR_cons ?_; refine EV_local hE (by kernel_rfl) (sS sH) ?_; refine AR_nil ?_)
    refine CA_CL (k := n + 5) ((c_stream (n := n) hl hs).mono ?_) (by (exact Nat.le_refl _))
    (intro v m hq0; refine obEAAAAAAA hq0 ?_; clear hq0; intro g hz1 hg S kp n1 n2 n3 n4; subst hz1)
    have hT := kp _ _ hM
    have hS := S.hS
    unfold stT at hS
    (refine EV_local hE (by kernel_rfl) (sS (sS sH)) ?_; refine SA_tbl hT (sok (by kernel_rfl)) (.inr rfl) (by decide) pN ?_; refine seq_next ?_; refine EX_cons ?_; refine E1_AssignAttr ?_ rfl; refine EV_local hE (by kernel_rfl) sH ?_; refine EV_local hE (by kernel_rfl) (sS (sS sH)) ?_; refine SA_tbl2 (sok (by kernel_rfl)) (.inr rfl) (by decide) (pS pN) ?_; refine seq_next ?_; refine EX_cons ?_; refine E1_AssignAttr ?_ rfl; refine EV_bool ?_; refine EV_local hE (by kernel_rfl) (sS (sS sH)) ?_; refine SA_tbl2 (sok (by kernel_rfl)) (.inr rfl) (by decide) (pS (pS pN)) ?_; refine seq_next ?_; refine EX_cons ?_; refine E1_AssignAttr ?_ rfl; refine EV_list ?_; refine AR_nil ?_)
    refine ⟨by simp, fun D hD => ?_⟩
    (refine EV_local hE (by kernel_rfl) (sS (sS sH)) ?_; refine SA_tbl (setM_old hD (setM_same _ _ _)) (sok (by kernel_rfl)) (.inr rfl) (by decide) (pS (pS (pS pN))) ?_; refine seq_next ?_; refine EX_cons ?_; refine E1_AssignAttr ?_ rfl; refine EV_attr ?_; refine EV_local hE (by kernel_rfl) (sS (sS sH)) ?_; refine GA_bound (g := 304) (setM_same _ _ _) (tS (tS (tS (tS tN)))) (mok (by kernel_rfl)) ?_; intro zz; refine EV_local hE (by kernel_rfl) (sS (sS sH)) ?_; refine SA_tbl2 (sok (by kernel_rfl)) (.inr rfl) (by decide) (pS (pS (pS (pS pN)))) ?_; refine seq_next ?_; refine EX_cons ?_; refine E1_AssignAttr ?_ rfl; refine EV_bool ?_; refine EV_local hE (by kernel_rfl) (sS (sS sH)) ?_; refine SA_tbl2 (sok (by kernel_rfl)) (.inr rfl) (by decide) (pS (pS (pS (pS (pS pN))))) ?_; refine seq_next ?_; refine EX_cons ?_; refine E1_AssignAttr ?_ rfl; refine EV_none ?_; refine EV_local hE (by kernel_rfl) (sS (sS sH)) ?_; refine SA_tbl2 (sok (by kernel_rfl)) (.inr rfl) (by decide) (pS (pS (pS (pS (pS (pS pN)))))) ?_; refine seq_next ?_; refine EX_nil ?_)
    have hD1 := setM_none hD
    rw [setM_3]
    have t1 : T ≠ g.S := fun z => by rw [z, n1] at hM; cases hM
    have t2 : T ≠ g.X := fun z => by rw [z, n2] at hM; cases hM
    have t3 : T ≠ g.E := fun z => by rw [z, n3] at hM; cases hM
    have t4 : T ≠ g.Q := fun z => by rw [z, n4] at hM; cases hM
    exact ⟨rfl, g, D, zz, hg, setM_same _ _ _, (S.keep (fun a o e => setM_old hD1.1 e)).off t1 t2 t3 t4, fun a o i e => (setM_ne _ _ i).trans (setM_old hD1.1 (kp _ _ e)), n1, n2, n3, n4⟩
theorem c_tok {n : Nat} {M : Mem} {txt : List Nat} (hl : txt.length ≤ 100000) (hs : ∀ x ∈ txt, x < 55296) :
    CL Z.cx (n + 7) (.ref 762) [.str (mkS txt) 0] (fun v m => ∃ (T : Addr) (g : G) (lf zz : Addr), v = .ref T ∧ g.txt = txt ∧ m T = some (.inst 762 7 (tblF (tk0 g.S lf (.ref zz)))) ∧ St m g [] [] 0 [] 0 ∧ (∀ a o, M a = some o → m a = some o) ∧ M T = none ∧ M g.S = none ∧ M g.X = none ∧ M g.E = none ∧ M g.Q = none) M := by
  refine CL_make (fI := 261) (by kernel_rfl) (by kernel_rfl) (by kernel_rfl) fun x hx => ?_
  rw [none_tbl]
  refine (c_tokInit (n := n) (setM_same _ _ _) hl hs).mono ?_
  (intro v m hq0; refine obAEEEAAAAAAA hq0 ?_; clear hq0; intro hz0 g lf zz hg h1 S kp n1 n2 n3 n4; subst hz0)
  exact ⟨rfl, x, g, lf, zz, rfl, hg, h1, S, fun a o e => kp a o (fun z => by rw [z, hx] at e; cases e) (setM_old hx e), hx, (setM_none n1).1, (setM_none n2).1, (setM_none n3).1, (setM_none n4).1⟩
end
end Mine
end
section
set_option linter.unusedVariables false
set_option maxRecDepth 100000
section
namespace Mine
open PySem PySem.W PySem.Calls PyProof.Rows

end Mine
end
section
namespace Mine
open PySem PySem.W PySem.Calls PyProof.Rows
variable {X : Cx} {n : Nat} {fz : Frz} {L : Addr} {loc : Loc} {M : Mem} {own : Addr → Option Addr} {h h' : Heap} {a : Addr} {o : AO}
end Mine
end
section
namespace Mine
open PySem PySem.W PySem.Calls PyProof.Rows
variable {X : Cx} {n : Nat} {fz : Frz} {L : Addr} {loc : Loc} {M : Mem} {own : Addr → Option Addr} {h h' : Heap} {a : Addr} {o : AO}
end Mine
end
section
namespace Mine
open PySem PySem.W PySem.Calls PyProof.Rows
variable {X : Cx} {n : Nat} {fz : Frz} {L : Addr} {loc : Loc} {M : Mem} {env : Env}
theorem E1_Continue {Q : QF} {pos : Pos} (h : Q .cont loc M) : E1 X n fz L env (.Continue pos) Q loc M :=
  fun _ s _ f _ => wpAny_Continue ⟨loc, M, f, Like.refl s, h⟩
end Mine
end
section
namespace Mine
open PySem PySem.W PySem.Calls PyProof.Rows
variable {X : Cx} {n : Nat} {fz : Frz} {L : Addr} {loc : Loc} {M : Mem} {env : Env}
end Mine
end
section
namespace Mine
open PySem PySem.W PySem.Calls PyProof.Rows
variable {X : Cx} {n : Nat} {fz : Frz} {L : Addr} {loc : Loc} {M : Mem} {env : Env}
theorem O2_is_bool {Q : QV} {a b : Bool} (h : Q (.bool (a == b)) loc M) : O2 X n fz L (compareOp .Is) (.bool a) (.bool b) Q loc M := fun va vb e1 e2 A s r F o => by
  rw [er_bool e1, er_bool e2]
  show wpAny _ _ (do return Value.bool (← isSame (.bool a) (.bool b)) : Sem Value) _ _ _
  have : isSame (.bool a) (.bool b) = pure (a == b) := by cases a <;> cases b <;> rfl
  rw [this]
  exact wpAny_bind (wpAny_pure (wpAny_pure ⟨loc, M, F, Like.refl s, h⟩))
end Mine
end
section
namespace Mine
open PySem PySem.W PySem.Calls PyProof.Rows
variable {X : Cx} {n : Nat} {fz : Frz} {L : Addr} {loc : Loc} {M : Mem} {env : Env} {a : Addr}
theorem GM_find {Q : Value → List Value → Loc → Mem → Prop} {x : Str} (h : Q (.builtin "str.find") [.str x 0] loc M) : GM X n fz L "find" (.str x 0) Q loc M := GMS PySem.F.slot_str_find PySem.F.type_str_find h
end Mine
end
section
namespace Mine
open PySem PySem.W PySem.Calls PyProof.Rows
variable {X : Cx} {n : Nat} {fz : Frz} {L : Addr} {loc : Loc} {M : Mem} {env : Env} {a b : Addr}
theorem O2_in_lst {Q : QV} {x : List Nat} {ts : List (List Nat)} (hm : RdM X M b (.lst (strsV ts))) (h : Q (.bool (decide (x ∈ ts))) loc M) : O2 X n fz L (compareOp .In) (.str (mkS x) 0) (.ref b) Q loc M := fun va vb e1 e2 A s r F o => by
  obtain ⟨t, rfl⟩ := er_str e1
  rw [er_ref e2]
  obtain ⟨us, h1, h2⟩ := hm.get F
  refine SeqAt.in_listAt (strEq x) h1 (fun y hy => ?_) ⟨loc, M, F, Like.refl s, ?_⟩
  · obtain ⟨l, u, rfl⟩ := strs_mem h2 (by simpa using hy)
    have := SeqAt.EqAt.str_str (A := A.in1) (s := s) (mkS l) u (mkS x) t
    have e : (mkS l == mkS x) = strEq x (.str (mkS l) u) := by
      show _ = decide (mkS l = mkS x)
      by_cases q : mkS l = mkS x <;> simp [q]
    rw [← e]; exact this
  · have : us.any (strEq x) = decide (x ∈ ts) := by rw [← any_strs h2 x, Array.any_toList]
    show Q (.bool (us.any (strEq x))) loc M
    rw [this]; exact h
end Mine
end
section
namespace Mine
open PySem PySem.W PySem.Calls PyProof.Rows
variable {X : Cx} {n : Nat} {fz : Frz} {L : Addr} {loc : Loc} {M : Mem} {env : Env} {a b : Addr}
theorem Itr_list {I : Addr} {xs : List Value} {x : Str} {p : Pos} : Itr X n I [I] (.Name x p) (fun env => env.kindOf x = some .local) (fun i l => setL l x (xs.getD i .none)) xs.length (fun i h => h.IsListIter I a i) (fun m => RdM X m a (.lst xs)) where
  live := fun i h st b hb => by rw [List.mem_singleton.mp hb]; obtain ⟨o, ho, _⟩ := st; exact ⟨o, ho⟩
  only := fun i h h' st k => st.at fun o ho => k I (by simp) o ho
  item := fun i A s env L fz loc M r ht hL hk off F g st hi => by
    obtain ⟨us, h1, h2⟩ := g.get F
    obtain ⟨v, g1, g2⟩ := map_get h2 (List.getElem?_eq_getElem hi)
    refine wpAny_pyNext_list_item st h1 g1 fun h' st' hs => ⟨v, rfl, ?_⟩
    have F₁ := F.mv off (h' := h') (fun b o hb ho => (hs.2 b (fun e => hb (by simp [e]))).trans ho) (fun b hb => by rw [List.mem_singleton.mp hb]; obtain ⟨o, ho, _⟩ := st; exact ⟨o, ho⟩)
    refine wpAny_of_eq (rfl : letOwnedTupleGo (.Name x p) (.ref I) v = pure ()) ?_
    have w := asgName (A := A) (s := { s with heap := h' }) (x := x) (p := p) (v := v) F₁ (fun b hb => by rw [List.mem_singleton.mp hb]; obtain ⟨o, ho, _⟩ := st'; exact ⟨o, ho⟩) ht hL hk
    refine wpAny_mono w (fun _ s' q => ?_) (fun _ _ e => e)
    obtain ⟨F₂, k, l⟩ := q
    have : er v = xs.getD i .none := by rw [g2]; simp [List.getD, List.getElem?_eq_getElem hi]
    exact ⟨by show FV _ _ _ (setL loc x (xs.getD i .none)) _ _; rw [← this]; exact F₂, st'.at fun o ho => k I (by simp) o ho, (Like.heap s h').trans l⟩
  done := fun A s L fz loc M r off F g st => by
    obtain ⟨us, h1, h2⟩ := g.get F
    have hsz : us.size = xs.length := by rw [← h2, List.length_map, Array.length_toList]
    refine wpAny_pyNext_list_end r.handled st h1 (Array.getElem?_eq_none (by omega)) fun h' hs => ⟨rfl, ?_, Like.heap s h'⟩
    exact (F.mv off (h' := h') (fun b o hb ho => hs b o (fun e => hb (by simp [e])) ho) (fun b hb => by rw [List.mem_singleton.mp hb]; obtain ⟨o, ho, _⟩ := st; exact ⟨o, ho⟩)).thaw off
  self := fun i A s Q E st hq => wpAny_pyIter_listiter st hq
end Mine
end
section
namespace Mine
open PySem PySem.W PySem.Calls PyProof.Rows
variable {X : Cx} {n : Nat} {fz : Frz} {L : Addr} {loc : Loc} {M : Mem} {env : Env} {a b : Addr}
theorem IE_list {Q : QI} {iter : Expr} {x : Str} {p : Pos} (h : EV X n fz L env iter (fun v l m => ∃ a xs, v = .ref a ∧ RdM X m a (.lst xs) ∧ Q (fun env => env.kindOf x = some .local) xs.length (fun i l => setL l x (xs.getD i .none)) (fun m => RdM X m a (.lst xs)) l m) loc M) :
    IE X n fz L env iter (.Name x p) Q loc M := fun A s R r F o fin => by
  refine wpAny_mono (h A s r F o) (fun v s₁ hq => ?_) (fun _ _ e => e)
  obtain ⟨l₁, M₁, F₁, k₁, a, xs, e, hm, q⟩ := hq
  rw [er_ref e]
  obtain ⟨us, h1, h2⟩ := hm.get F₁
  refine wpAny_pyIter_list h1 ?_
  obtain ⟨F₂, off⟩ := F₁.setApart (ips := [s₁.heap.objs.size]) (Ext.push s₁.heap { cls := .type "list_iterator", data := .fields #[.ref a, .int 0 0] }) (fun b hb => by
    rw [List.mem_singleton.mp hb]
    cases z : s₁.heap.get? s₁.heap.objs.size with
    | none => rfl
    | some y => exact absurd (Heap.lt_size z) (Nat.lt_irrefl _))
  exact fin _ [s₁.heap.objs.size] _ _ _ _ _ l₁ M₁ _ (Itr_list (a := a) (xs := xs) (x := x) (p := p)) off F₂ ⟨_, Heap.get?_push_size _ rfl, rfl, rfl⟩ (k₁.trans (Like.heap s₁ _)) q
end Mine
end
section
namespace Mine
open PySem PySem.W PySem.Calls PyProof.Rows PySem.StrLaws PySem.Builtin PySem.Builtin.Str

end Mine
end
section
namespace Mine
open PySem PySem.W PyProof.Rows
variable {M m : Mem} {g : G} {T q lf : Addr} {k bk k' bk' : Nat} {kept kept' : List Nat} {now now' : Option (Int × List Nat)} {sv sv' : Value} {toks : List TK} {ct ct' : Value} {vs : List Value}
theorem All2.len {α β : Type} {R : α → β → Prop} : ∀ {l : List α} {s : List β}, All2 R l s → l.length = s.length
  | _, _, .nil => rfl
  | _, _, .cons x r => by simp [r.len]
end Mine
end
section
namespace Mine
open PySem PySem.W PyProof.Rows

end Mine
end
end
section
namespace Mine
open PySem PySem.W PyProof.Rows
theorem E1_gen {st : Stmt} {X : Cx} {n : Nat} {fz : Frz} {L : Addr} {env : Env} {Q : QF} {loc : Loc} {M : Mem} (h : ∀ Q' : QF, (∀ f l m, Q f l m → Q' f l m) → E1 X n fz L env st Q' loc M) : E1 X n fz L env st Q loc M := h Q fun _ _ _ h => h
theorem tup_inj {a b : List Value} : (AO.tup a = AO.tup b) = (a = b) := propext ⟨fun h => by cases h; rfl, congrArg _⟩
end Mine
end
section
set_option linter.unusedVariables false
set_option maxRecDepth 100000
set_option maxHeartbeats 4000000
namespace Mine
open PySem PySem.W PySem.Calls PyProof.Rows
noncomputable def bindT : List (Str × Pos) → List Value → Loc → Loc
  | p :: ps, v :: vs, l => bindT ps vs (setL l p.1 v)
  | _, _, l => l
section
variable {X : Cx} {n : Nat} {fz : Frz} {L : Addr} {loc : Loc} {M : Mem} {env : Env} {a b : Addr}
theorem asgNames {ips : List Addr} {A : Around} (hL : env.locals = L) (hk : env.scope.kind = .function) (names : List (Str × Pos)) : ∀ (vv : List Value) (loc : Loc) (s : Shared), FV X (frzL fz ips s.heap) L loc M s.heap → (∀ b ∈ ips, ∃ o, s.heap.get? b = some o) →
    (∀ p ∈ names, env.kindOf p.1 = some .local) → vv.length = names.length →
    wpAny (model X.prog X.w) A (assignInOrder (names.map fun p => assign (.Name p.1 p.2) env) vv) (fun _ s' => FV X (frzL fz ips s'.heap) L (bindT names (vv.map er) loc) M s'.heap ∧ (∀ b ∈ ips, ∀ o, s.heap.get? b = some o → s'.heap.get? b = some o) ∧ Like s s') (fun _ _ => False) s := by
  induction names with
  | nil =>
    intro vv loc s F lv hx hl
    have : vv = [] := List.length_eq_zero_iff.mp hl
    subst this
    exact assignInOrder_nil ⟨F, fun _ _ _ e => e, Like.refl s⟩
  | cons p ps ih =>
    intro vv loc s F lv hx hl
    cases vv with
    | nil => cases hl
    | cons v vs =>
      refine assignInOrder_cons (wpAny_mono (asgName (A := A) (s := s) (x := p.1) (p := p.2) (v := v) F lv (hx p List.mem_cons_self) hL hk) (fun _ s₁ hq => ?_) (fun _ _ e => e))
      obtain ⟨F₁, k₁, l₁⟩ := hq
      refine wpAny_mono (ih vs _ s₁ F₁ (fun b hb => by obtain ⟨o, ho⟩ := lv b hb; exact ⟨o, k₁ b hb o ho⟩) (fun p hp => hx p (List.mem_cons_of_mem _ hp)) (by simpa using hl)) (fun _ s₂ hq => ?_) (fun _ _ e => e)
      obtain ⟨F₂, k₂, l₂⟩ := hq
      exact ⟨F₂, fun b hb o ho => k₂ b hb o (k₁ b hb o ho), l₁.trans l₂⟩
theorem Itr_tups {I : Addr} {xs : List Value} {names : List (Str × Pos)} {elts : List Expr} {ws : Nat → List Value} {kk : Nat} {tp : Pos} (he : elts = names.map fun p => .Name p.1 p.2) (hae : ∀ env, assignEach elts env = elts.map fun t => (false, assign t env)) :
    Itr X n I [I] (.Tuple elts kk tp) (fun env => ∀ p ∈ names, env.kindOf p.1 = some .local) (fun i l => bindT names (ws i) l) xs.length (fun i h => h.IsListIter I a i)
      (fun m => RdM X m a (.lst xs) ∧ ∀ (i : Nat) v, xs[i]? = some v → ∃ b, v = .ref b ∧ RdM X m b (.tup (ws i)) ∧ (ws i).length = names.length) where
  live := fun i h st b hb => by rw [List.mem_singleton.mp hb]; obtain ⟨o, ho, _⟩ := st; exact ⟨o, ho⟩
  only := fun i h h' st k => st.at fun o ho => k I (by simp) o ho
  item := fun i A s env L fz loc M r ht hL hk off F g st hi => by
    obtain ⟨us, h1, h2⟩ := g.1.get F
    obtain ⟨v, g1, g2⟩ := map_get h2 (List.getElem?_eq_getElem hi)
    obtain ⟨b, hb, hbt, hlen⟩ := g.2 i _ (List.getElem?_eq_getElem hi)
    rw [hb] at g2
    have g3 := er_ref g2
    subst g3
    have lv₀ : ∀ b ∈ [I], ∃ o, s.heap.get? b = some o := fun b hb => by rw [List.mem_singleton.mp hb]; obtain ⟨o, ho, _⟩ := st; exact ⟨o, ho⟩
    refine wpAny_pyNext_list_item st h1 g1 fun h' st' hs => ⟨.ref b, rfl, ?_⟩
    have F₁ := F.mv off (h' := h') (fun b o hb ho => (hs.2 b (fun e => hb (by simp [e]))).trans ho) lv₀
    refine wpAny_letOwnedTupleGo_listiter st' ?_
    obtain ⟨ts, ht1, ht2⟩ := hbt.get F₁
    have hsz : ts.size = (ws i).length := by rw [← ht2, List.length_map, Array.length_toList]
    have hne : names.length = elts.length := by rw [he, List.length_map]
    refine assign_Tuple_tuple r.handled ht1 (by rw [hae, List.length_map, hsz, hlen, hne]) (by rw [hae, List.findIdx?_map]; simp) fun h₃ he₃ => ?_
    have ext₃ : Ext h' h₃ := fun b o ho => he₃ b o (Nat.ne_of_lt (Heap.lt_size ho)) ho
    have lv' : ∀ b ∈ [I], ∃ o, h'.get? b = some o := fun b hb => by rw [List.mem_singleton.mp hb]; obtain ⟨o, ho, _⟩ := st'; exact ⟨o, ho⟩
    obtain ⟨F₃, k₃⟩ := (F₁.ext ext₃).stayL lv'
    have ee : (assignEach elts env).map (·.2) = names.map fun p => assign (.Name p.1 p.2) env := by rw [hae, he, List.map_map, List.map_map]; rfl
    rw [ee]
    refine wpAny_mono (asgNames (A := A) hL hk names ts.toList _ { s with heap := h₃ } F₃ (fun b hb => by obtain ⟨o, ho⟩ := lv' b hb; exact ⟨o, k₃ b hb o ho⟩) ht (by rw [Array.length_toList, hsz, hlen])) (fun _ s₄ hq => ?_) (fun _ _ e => e)
    obtain ⟨F₄, k₄, l₄⟩ := hq
    rw [ht2] at F₄
    exact ⟨F₄, st'.at fun o ho => k₄ I (by simp) o (k₃ I (by simp) o ho), (Like.heap s h₃).trans l₄⟩
  done := fun A s L fz loc M r off F g st => by
    obtain ⟨us, h1, h2⟩ := g.1.get F
    have hsz : us.size = xs.length := by rw [← h2, List.length_map, Array.length_toList]
    refine wpAny_pyNext_list_end r.handled st h1 (Array.getElem?_eq_none (by (first | lia | omega))) fun h' hs => ⟨rfl, ?_, Like.heap s h'⟩
    exact (F.mv off (h' := h') (fun b o hb ho => hs b o (fun e => hb (by simp [e])) ho) (fun b hb => by rw [List.mem_singleton.mp hb]; obtain ⟨o, ho, _⟩ := st; exact ⟨o, ho⟩)).thaw off
  self := fun i A s Q E st hq => wpAny_pyIter_listiter st hq
theorem IE_tups {Q : QI} {iter : Expr} {elts : List Expr} {kk : Nat} {tp : Pos} (names : List (Str × Pos)) (he : elts = names.map fun p => .Name p.1 p.2) (hae : ∀ env, assignEach elts env = elts.map fun t => (false, assign t env))
    (h : EV X n fz L env iter (fun v l m => ∃ (a : Addr) (xs : List Value) (ws : Nat → List Value), v = .ref a ∧ RdM X m a (.lst xs) ∧ Q (fun env => ∀ p ∈ names, env.kindOf p.1 = some .local) xs.length (fun i l => bindT names (ws i) l)
      (fun m => RdM X m a (.lst xs) ∧ ∀ (i : Nat) v, xs[i]? = some v → ∃ b, v = .ref b ∧ RdM X m b (.tup (ws i)) ∧ (ws i).length = names.length) l m) loc M) :
    IE X n fz L env iter (.Tuple elts kk tp) Q loc M := fun A s R r F o fin => by
  refine wpAny_mono (h A s r F o) (fun v s₁ hq => ?_) (fun _ _ e => e)
  obtain ⟨l₁, M₁, F₁, k₁, a, xs, ws, e, hm, q⟩ := hq
  rw [er_ref e]
  obtain ⟨us, h1, h2⟩ := hm.get F₁
  refine wpAny_pyIter_list h1 ?_
  obtain ⟨F₂, off⟩ := F₁.setApart (ips := [s₁.heap.objs.size]) (Ext.push s₁.heap { cls := .type "list_iterator", data := .fields #[.ref a, .int 0 0] }) (fun b hb => by
    rw [List.mem_singleton.mp hb]
    cases z : s₁.heap.get? s₁.heap.objs.size with
    | none => rfl
    | some y => exact absurd (Heap.lt_size z) (Nat.lt_irrefl _))
  exact fin _ [s₁.heap.objs.size] _ _ _ _ _ l₁ M₁ _ (Itr_tups (a := a) (xs := xs) (names := names) (ws := ws) (kk := kk) (tp := tp) he hae) off F₂ ⟨_, Heap.get?_push_size _ rfl, rfl, rfl⟩ (k₁.trans (Like.heap s₁ _)) q
end
end Mine
end
section
open PySem PySem.W PyProof.Rows
set_option maxRecDepth 100000
set_option maxHeartbeats 4000000
set_option linter.unusedVariables false
namespace Mine
theorem sub_slice {prog : Program} {w : World} {A : Around} {E : Value → Shared → Prop} {s : Shared} {env : Env} {value : Expr} {lower upper : Option Expr} {p pos : Pos} {T id : String} {Q : Value → Shared → Prop}
    (hl : typeLookup (.type T) "__getitem__" = pure (some (.builtin id)))
    (h : wpAny (model prog w) A (eval value env) (fun o s₁ => wpAny (model prog w) A (eval (.Slice lower upper none p) env) (fun i s₂ => s₂.TypeIs o T ∧ wpAny (model prog w) A (getItem o i) Q E s₂) E s₁) E s) :
    wpAny (model prog w) A (eval (.Subscript value (.Slice lower upper none p) pos) env) Q E s := by
  rw [eval_Subscript]
  refine wpAny_bind (wpAny_mono h (fun o s₁ h₁ => wpAny_bind (wpAny_holding (wpAny_mono h₁ (fun i s₂ h₂ => wpAny_bind (wpAny_standAt ?_)) fun _ _ x => x))) fun _ _ x => x)
  have fin : wpAny (model prog w) A (operate [i, o] (getItem o i)) (fun r s₃ => wpAny (model prog w) A (letTemporaryGo value o r >>= fun _ => pure r) Q E s₃) E s₂ :=
    wpAny_operating (wpAny_mono h₂.2 (fun r s₃ h₃ => wpAny_bind (wpAny_letTemporaryGo (wpAny_pure h₃))) fun _ _ x => x)
  refine wpAny_bind ?_
  rw [getitemInPython_of_ne h₂.1.not_modules]
  refine wpAny_bind (wpAny_specialOf h₂.1 hl ?_)
  first
    | exact wpAny_pure (wpAny_bind fin)
    | exact wpAny_bind (wpAny_pure (wpAny_bind fin))
    | exact wpAny_bind fin
theorem sub_list_slice {prog : Program} {w : World} {A : Around} {E : Value → Shared → Prop} {s : Shared} {env : Env} {value : Expr} {lower upper : Option Expr} {p pos : Pos} {Q : Value → Shared → Prop}
    (h : wpAny (model prog w) A (eval value env) (fun o s₁ => wpAny (model prog w) A (evalPart lower env) (fun vl s₂ => wpAny (model prog w) A (evalPart upper env) (fun vu s₃ =>
      ∃ l items lo hi, o = .ref l ∧ s₃.heap.IsList l items ∧ items.size ≤ sizeLine ∧ IsPart vl lo ∧ IsPart vu hi ∧
        Q (.ref (s₃.heap.objs.size + 1)) { s₃ with heap := (s₃.heap.push { cls := .type "slice", data := .fields #[vl, vu, .none] }).push { cls := .type "list", data := .seq (slicePick items lo hi none) } }) E s₂) E s₁) E s) :
    wpAny (model prog w) A (eval (.Subscript value (.Slice lower upper none p) pos) env) Q E s := by
  refine sub_slice (T := "list") list_getitem_lookup (wpAny_mono h (fun o s₁ h₁ => wpAny_Slice (wpAny_mono h₁ (fun vl s₂ h₂ => wpAny_mono h₂ (fun vu s₃ h₃ => ?_) fun _ _ e => e) fun _ _ e => e)) fun _ _ e => e)
  obtain ⟨l, items, lo, hi, rfl, hl, hsz, pl, pu, hQ⟩ := h₃
  rw [evalPart_none]
  refine wpAny_pure ⟨(hl.push _).typeIs, wpAny_getItem_list_slice (hl.push _) (Heap.IsSliceOf.new ..) pl pu .none (by simp) ?_ hsz⟩
  rw [Heap.size_push]
  exact hQ
section
variable {X : Cx} {n : Nat} {fz : Frz} {L : Addr} {loc : Loc} {M : Mem} {env : Env}
theorem EV_slice_listT {Q : QV} {value : Expr} {lower upper : Option Expr} {p pos : Pos}
    (h : EV X n fz L env value (fun o lo m => ∃ a xs, o = .ref a ∧ xs.length ≤ 16777216 ∧ PT X n fz L env lower (fun i lo m => PT X n fz L env upper (fun j lo m => RdM X m a (.lst xs) ∧ ∀ D, m D = none → Q (.ref D) lo (setM m D (.lst (pySl xs i j)))) lo m) lo m) loc M) :
    EV X n fz L env (.Subscript value (.Slice lower upper none p) pos) Q loc M := fun A s rm F o => by
  refine sub_list_slice (wpAny_mono (h A s rm F o) (fun v s₁ hq => ?_) (fun _ _ e => e))
  obtain ⟨l₁, M₁, f₁, k₁, a, xs, el, hl, q⟩ := hq
  refine wpAny_mono (WT.use q rm f₁ k₁ o) (fun vi s₂ hq => ?_) (fun _ _ e => e)
  obtain ⟨l₂, M₂, f₂, k₂, hi, q⟩ := hq
  refine wpAny_mono (WT.use q rm f₂ k₂ o) (fun vj s₃ hq => ?_) (fun _ _ e => e)
  obtain ⟨l₃, M₃, f₃, k₃, hj, hm, q⟩ := hq
  obtain ⟨us, h1, h2⟩ := hm.get f₃
  have hsz : us.size = xs.length := by rw [← h2, List.length_map, Array.length_toList]
  have part : ∀ v : Value, ((∃ i t, v = .int i t) ∨ v = .none) → IsPart v (optInt v) := fun v hv => by
    rcases hv with ⟨i, t, rfl⟩ | rfl
    · exact .int i t
    · exact .none
  refine ⟨a, us, _, _, er_ref el, h1, by rw [hsz, sizeLine_eq]; exact hl, part vi hi, part vj hj, ?_⟩
  have pick : (slicePick us (optInt vi) (optInt vj) none).toList.map er = pySl xs (optInt vi) (optInt vj) := by
    have hidx : slicePick us (optInt vi) (optInt vj) none = (pySl us.toList (optInt vi) (optInt vj)).toArray := by
      have e1 := clip_eq (optInt vi) 0 us.size (Nat.zero_le _)
      have e2 := clip_eq (optInt vj) us.size us.size (Nat.le_refl _)
      have e3 : sliceBounds (optInt vi) (optInt vj) none us.size = (((clipI (optInt vi) 0 us.size : Nat) : Int), ((clipI (optInt vj) us.size us.size : Nat) : Int), 1) := by
        rw [← e1, ← e2]; rfl
      unfold slicePick
      rw [e3]
      dsimp only
      rw [PySem.sliceRange_one]
      have := range_pick us.toList (clipI (optInt vi) 0 us.size) (clipI (optInt vj) us.size us.size) (by rw [Array.length_toList]; exact clipI_le _ _ _ (Nat.le_refl _))
      simp only [Array.getElem?_toList] at this
      rw [this]
      unfold pySl
      rw [Array.length_toList]
    rw [hidx]
    show (pySl us.toList _ _).map er = _
    unfold pySl
    rw [List.map_drop, List.map_take, h2, ← List.length_map (f := er) (as := us.toList), h2]
  have F2 : FV X fz L l₃ M₃ (s₃.heap.push { cls := .type "slice", data := .fields #[vi, vj, .none] }) := f₃.ext (Ext.push _ _)
  have F3 := new_list (vs := (slicePick us (optInt vi) (optInt vj) none).toList) F2
  rw [pick, Heap.size_push] at F3
  have fr := F2.fresh
  rw [Heap.size_push] at fr
  exact ⟨l₃, _, F3, k₃.trans (Like.heap s₃ _), q _ fr⟩

theorem TR_listR {Q : QB} {a : Addr} {xs : List Value} (hm : RdM X M a (.lst xs)) (hl : xs.length ≤ 16777216) (h : Q (!xs.isEmpty) loc M) : O1B X n fz L truthy (.ref a) Q loc M := fun va e A s r F o => by
  rw [er_ref e]
  obtain ⟨vs, h1, h2⟩ := hm.get F
  have hs : vs.size = xs.length := by rw [← h2, List.length_map, Array.length_toList]
  refine wpAny_truthy_list h1 (by (first | lia | omega)) ?_
  have e : (!vs.isEmpty) = !xs.isEmpty := by
    have : vs.isEmpty = xs.isEmpty := by
      rw [Bool.eq_iff_iff, List.isEmpty_iff_length_eq_zero, ← hs]; simp
    rw [this]
  rw [e]; exact ⟨loc, M, F, Like.tokn s _ (by (first | lia | omega)), h⟩
theorem O2_ne_none_none {Q : QV} (h : Q (.bool false) loc M) : O2 X n fz L (compareOp .NotEq) .none .none Q loc M := fun va vb e1 e2 A s r F o => by
  rw [er_none e1, er_none e2]
  exact EqNone.ne_none_none ⟨loc, M, F, Like.refl s, h⟩
end
end Mine
end
section
open PySem PySem.W PyProof.Rows
set_option maxRecDepth 100000
set_option maxHeartbeats 4000000
set_option linter.unusedVariables false
namespace Mine
section
variable {X : Cx} {n : Nat} {fz : Frz} {L : Addr} {env : Env} {loc : Loc} {M : Mem}
noncomputable def Atm (X : Cx) (n : Nat) (fz : Frz) (L : Addr) (env : Env) (loc : Loc) (e : Expr) (v : Value) : Prop := ∀ (Q : QV) (M : Mem), Q v loc M → EV X n fz L env e Q loc M
theorem Atm.nm {x : Str} {p : Pos} {v : Value} (hE : Fun env L) (hx : env.kindOf x = some .local) (hv : loc x = some v) (hd : (x == ("__debug__" : Str)) = false := by decide) : Atm X n fz L env loc (.Name x p) v := fun _ _ h => EV_local hE hx hv h hd
theorem Atm.int {i : Int} {k p} : Atm X n fz L env loc (.Constant (.int i) k p) (.int i 0) := fun _ _ h => EV_int h
theorem Atm.bool {i : Bool} {k p} : Atm X n fz L env loc (.Constant (.bool i) k p) (.bool i) := fun _ _ h => EV_bool h
theorem Atm.str {x : Str} {l : List Nat} {k p} (e : x = mkS l) : Atm X n fz L env loc (.Constant (.str x) k p) (.str (mkS l) 0) := fun _ _ h => EV_str e h
theorem Atm.addS {e1 e2 : Expr} {a b s : List Nat} {p} (h1 : Atm X n fz L env loc e1 (.str (mkS a) 0)) (h2 : Atm X n fz L env loc e2 (.str (mkS b) 0)) (hs : a ++ b = s) (hl : a.length + b.length ≤ 16777216) : Atm X n fz L env loc (.BinOp e1 .Add e2 p) (.str (mkS s) 0) := fun _ _ h => by
  subst hs; exact EV_binop (h1 _ _ (h2 _ _ (O2_add_str hl h)))
theorem Atm.ift {t b e : Expr} {p} {v : Value} {c : Bool} (ht : ∀ (Q : QB) (M : Mem), Q c loc M → TV X n fz L env t Q loc M) (h1 : c = true → Atm X n fz L env loc b v) (h2 : c = false → Atm X n fz L env loc e v) : Atm X n fz L env loc (.IfExp t b e p) v := fun _ _ h =>
  EV_ifexp (ht _ _ ⟨fun z => h1 z _ _ h, fun z => h2 z _ _ h⟩)
theorem EX_abl {Q : QF} {ss : List Stmt} {R : Loc → Prop} (h1 : R loc) (h2 : ∀ l, R l → EX X n fz L env ss Q l M) : EX X n fz L env ss Q loc M := h2 _ h1
theorem AR_at : ∀ {es : List Expr} {vs : List Value}, All2 (Atm X n fz L env loc) es vs → ∀ {Q : QL} {M : Mem}, Q vs loc M → AR X n fz L env es Q loc M
  | _, _, .nil, _, _, h => AR_nil h
  | _, _, .cons a r, _, _, h => AR_cons (a _ _ (AR_at r h))
theorem PAPP {Q : QF} {x : Str} {e e1 e2 : Expr} {es : List Expr} {v1 : Value} {vs evs : List Value} {R : Value → Mem → Prop} {Pl : Addr} {rest : List Stmt} {p p2 p3 p10 p11 : Pos} {kk : Nat} {pl : Sem Bool}
    (hE : Fun env L) (hx : env.kindOf x = some .local) (hv : loc x = some (.ref Pl)) (hP : M Pl = some (.lst evs)) (hev : ∀ (Q : QV) (M : Mem), EV X n fz L env (.Tuple (e1 :: e2 :: es) kk p3) Q loc M → EV X n fz L env e Q loc M)
    (h1 : Atm X n fz L env loc e1 v1) (hs : All2 (Atm X n fz L env loc) es vs)
    (h2 : EV X n fz L env e2 (fun v l m => l = loc ∧ R v m) loc M) (hR : ∀ v m, R v m → m Pl = some (.lst evs)) (hl : evs.length ≤ 16777216) (hvl : vs.length ≤ 1000)
    (h : ∀ v m D, R v m → m D = none → EX X n fz L env rest Q loc (setM (setM m D (.tup (v1 :: v :: vs))) Pl (.lst (evs ++ [.ref D]))))
    (he : eval (.Call (.Attribute (.Name x p) "append" p2) [e] [] p10) env = (do
      let ov ← eval (.Name x p) env
      standAt p2.atName
      let (f, first) ← holding [ov] (getMethod ov "append" pl)
      callWith p10 f first (backTo p10 (starEach [e] env)) []) := by rfl)
    (hd : (x == ("__debug__" : Str)) = false := by decide) (hst : (e1 :: e2 :: es).any isStarred = false := by rfl) (hse : [e].any isStarred = false := by rfl)
    (hsw : swapsWith (.Call (.Attribute (.Name x p) "append" p2) [e] [] p10) none p11.line env = pure false := by rfl) :
    EX X n fz L env (.Expr (.Call (.Attribute (.Name x p) "append" p2) [e] [] p10) p11 :: rest) Q loc M :=
  EX_cons (E1_Expr (EV_mcall (EV_local hE hx hv (GM_append hP (CW_go1 (KeepOk.bf _) (AR_cons (hev _ _ (EV_tuple (AR_cons (h1 _ _ (AR_cons (WT.mono h2 fun v l m ⟨e, r⟩ => by
    subst e
    exact AR_at hs ⟨by simp; (first | lia | omega), fun D hD => AR_nil (CA_append (setM_old hD (hR _ _ r)) hl (seq_next (h _ _ _ r hD)))⟩)))) hst))) hse)) hd) he) (by unfold interactive; rw [hE.kind]; rfl) hsw)
end
end Mine
end
section
open PySem PySem.W PyProof.Rows
set_option maxRecDepth 100000
set_option maxHeartbeats 4000000
set_option linter.unusedVariables false
namespace Mine
noncomputable def ra0 (g : G) (W : List Nat) (k : Nat) (kept : List Nat) (now : Option (Int × List Nat)) : Res := match W[k]? with
  | some x => if x = 60 then ⟨[], k + 1, kept, now, false⟩ else if x = 0 then ⟨[.err badM, .chars [65533]], k + 1, kept, now, true⟩
    else ⟨[.chars ([x] ++ upTo g [[60], [0]] (k + 1))], k + 1 + (upTo g [[60], [0]] (k + 1)).length, kept, now, true⟩
  | none => ⟨[], k, kept, now, true⟩
noncomputable def ra1 (W : List Nat) (k : Nat) (kept : List Nat) (now : Option (Int × List Nat)) : Res := match W[k]? with
  | some x => if x = 47 then ⟨[], k + 1, [], now, false⟩ else if x = 33 then ⟨[.chars [60, 33]], k + 1, kept, now, false⟩ else ⟨[.chars [60]], k, kept, now, false⟩
  | none => ⟨[.chars [60]], k, kept, now, false⟩
noncomputable def ra2 (W : List Nat) (k : Nat) (kept : List Nat) (now : Option (Int × List Nat)) : Res := match W[k]? with
  | some x => if x ∈ lettersC then ⟨[], k + 1, kept ++ [x], now, false⟩ else ⟨[.chars [60, 47]], k, kept, now, false⟩
  | none => ⟨[.chars [60, 47]], k, kept, now, false⟩
section
variable {Z : Cz} {P : Params}
theorem c_t0 (hP : P = Z.cx.w.params) {n : Nat} {M : Mem} {g : G} {T q lf : Addr} {k : Nat} {kept : List Nat} {now : Option (Int × List Nat)} {ct : Value} (h : TAt M g T q lf k 0 kept now .none [] ct []) (hkl : kept.length ≤ 100000) :
    CL Z.cx (n + 7) (.ref 339) [.ref T] (fun v m => v = .bool ((WT' g)[k]?).isSome ∧ ResAt M m g T q lf (ra0 g (WT' g) k kept now)) M := by
  (have hTT := (top_types (Z := Z)) hP; have hSp := (top_spaces (Z := Z)); have hLe := (top_letters (Z := Z)); refine dn fun hG0 => ?_; obtain ⟨t1, t2, t3, t4, q1, q2, q3, q4, tq⟩ := TAt.geo h; refine hG0 ?_; clear hG0)
  refine CL_fn (binds := [("self", .ref T)]) (by rfl) (by kernel_rfl) ?_ (by kernel_rfl) ?_
  · intro vs e
    obtain ⟨v1, rfl, e1⟩ := vs1 e
    exact ⟨[("self", v1)], fun s hx => kp_binds hx (fun S => rfl), by simp [e1]⟩
  · intro fz L env hE he; subst he
    rw [bindL1]
    (have hT1 := TAt.hT h; have hq1 := TAt.hq h; refine dn fun hG0 => ?_; obtain ⟨pre1, c1, co1, b1, p1, S1, hpos1⟩ := id (TAt.hat h); refine hG0 ?_; clear hG0; have hS1 := S1.hS)
    (refine CHR (g := 133) hE (by kernel_rfl) sH hT1 tkf0 (fok (by kernel_rfl)) hS1 (stNo (by kernel_rfl)) (mok (by kernel_rfl)) (KeepOk.rf (by kernel_rfl)) ?_)
    (refine CA_CL ((c_char (n := n) (TAt.hat h)).mono ?_) (by (first | lia | omega)); intro v m1 hq0; refine dn fun hG0 => ?_; rcases hq0 with ⟨kp1, ⟨x, hx, rfl, hat1⟩ | ⟨hx, rfl, hat1⟩⟩ <;> refine hG0 ?_ <;> clear hG0 <;> have h1 := TAt.step h kp1 hat1 <;> have k1 : KT g T q M m1 := (KT.refl _ _ _ _).kp kp1 <;> (have hT1 := TAt.hT h1; have hq1 := TAt.hq h1; refine dn fun hG0 => ?_; obtain ⟨pre1, c1, co1, b1, p1, S1, hpos1⟩ := id (TAt.hat h1); refine hG0 ?_; clear hG0; have hS1 := S1.hS))
    · rw [hx]
      (refine STn hE (by kernel_rfl) ?_; refine IFs hE (by kernel_rfl) sH (t := [60]) (by kernel_rfl) ?_)
      (refine And.intro ?_ ?_ <;> intro hb <;> try (cases hb; done))
      · have e1 : x = 60 := by simpa using hb
        have hr : ra0 g (WT' g) k kept now = ⟨[], k + 1, kept, now, false⟩ := by unfold ra0; rw [hx]; simp [e1]
        rw [hr]
        (refine STA (g := 416) hE (by kernel_rfl) (sS sH) hT1 (tkNo (by kernel_rfl)) (mok (by kernel_rfl)) (sok (by kernel_rfl)) (.inl ⟨(by kernel_rfl), rfl⟩) (by decide) (fun _ => ptk4) ?_; intro zz; refine EXn ?_; refine RETb ?_)
        exact ⟨rfl, ResAt.intro (by ktr_rel) (by ktr_room) (by first | exact .inl ⟨rfl, rfl⟩ | exact .inr ⟨⟨_, rfl⟩, rfl⟩)⟩
      · have n60 : ¬ x = 60 := by simpa using hb
        (refine IFs hE (by kernel_rfl) sH (t := [0]) (by kernel_rfl) ?_)
        (refine And.intro ?_ ?_ <;> intro hb <;> try (cases hb; done))
        · have e1 : x = 0 := by simpa using hb
          have hr : ra0 g (WT' g) k kept now = ⟨[.err badM, .chars [65533]], k + 1, kept, now, true⟩ := by unfold ra0; rw [hx]; simp [e1]
          rw [hr]
          (refine TOKg hE (by kernel_rfl) (sS sH) hT1 tkf7 (fok (by kernel_rfl)) hq1 (by kernel_rfl) (by kernel_rfl) (l1 := [80, 97, 114, 115, 101, 69, 114, 114, 111, 114]) (by kernel_rfl) hTT (tS (tS (tS (tS (tS (tS (tS tE))))))) (by simp; done) ?_; intro D hD; refine EV_str (l := [105, 110, 118, 97, 108, 105, 100, 45, 99, 111, 100, 101, 112, 111, 105, 110, 116]) (by kernel_rfl) ?_; refine ⟨rfl, ?_⟩; refine TOKg hE (by kernel_rfl) (sS sH) ((setM_ne _ _ tq).trans (setM_old hD hT1)) (tS (tS (tS (tS (tS (tS (tS tH))))))) (fok (by kernel_rfl)) (setM_same _ _ _) (by kernel_rfl) (by kernel_rfl) (l1 := [67, 104, 97, 114, 97, 99, 116, 101, 114, 115]) (by kernel_rfl) hTT (tS tE) (by simp; done) ?_; intro D hD; refine EV_str (l := [65533]) (by kernel_rfl) ?_; refine ⟨rfl, ?_⟩; refine EXn ?_; refine EXn ?_; refine RETb ?_)
          exact ⟨rfl, ResAt.intro (by ktr_rel) (by ktr_room) (by first | exact .inl ⟨rfl, rfl⟩ | exact .inr ⟨⟨_, rfl⟩, rfl⟩)⟩
        · have n0 : ¬ x = 0 := by simpa using hb
          (refine IFc hE (by kernel_rfl) sH ?_; refine EV_gnone hE (by kernel_rfl) (by kernel_rfl) ?_; (with_reducible refine O2_eq_str_none ?_); (with_reducible refine TR_bool ?_))
          (refine And.intro ?_ ?_ <;> intro hb <;> try (cases hb; done))
          have hr : ra0 g (WT' g) k kept now = ⟨[.chars ([x] ++ upTo g [[60], [0]] (k + 1))], k + 1 + (upTo g [[60], [0]] (k + 1)).length, kept, now, true⟩ := by unfold ra0; rw [hx]; simp [n60, n0]
          rw [hr]
          have hul := upTo_len S1 [[60], [0]] (k + 1)
          (refine EX_cons ?_; refine E1_AssignName ?_ rfl; refine EV_mcall ?_; refine EVaf hE (by kernel_rfl) (sS sH) hT1 tkf0 (fok (by kernel_rfl)) ?_; refine GM_meth (g := 156) hS1 (stNo (by kernel_rfl)) (mok (by kernel_rfl)) ?_; refine CW_go1 (KeepOk.rf (by kernel_rfl)) ?_; refine AR_cons ?_; refine EV_tuple ?_; refine AR_cons ?_; refine EV_str (l := [60]) (by kernel_rfl) ?_; refine AR_cons ?_; refine EV_str (l := [0]) (by kernel_rfl) ?_; refine AR_nil ?_)
          refine ⟨by simp, fun D0 hD0 => ?_⟩
          have h1' := h1.grow (m := setM m1 D0 (.tup (strsV [[60], [0]]))) (fun a o e => setM_old hD0 e)
          have k1' : KT g T q M (setM m1 D0 (.tup (strsV [[60], [0]]))) := k1.new hD0
          refine AR_nil ?_
          refine CA_CL ((c_charsUntil (n := n) (ts := [[60], [0]]) h1'.hat (.tup (setM_same _ _ _))).mono ?_) (by (first | lia | omega))
          (intro v m3 hq0; refine dn fun hG0 => ?_; rcases hq0 with ⟨rfl, kp3, hat3⟩ <;> refine hG0 ?_ <;> clear hG0)
          have h3 := TAt.step h1' kp3 hat3
          have k3 := k1'.kp kp3
          (have hT1 := TAt.hT h3; have hq1 := TAt.hq h3; refine dn fun hG0 => ?_; obtain ⟨pre1, c1, co1, b1, p1, S1, hpos1⟩ := id (TAt.hat h3); refine hG0 ?_; clear hG0; have hS1 := S1.hS)
          (refine STn hE (by kernel_rfl) ?_; refine EX_cons ?_; refine E1_Expr ?_ (by rfl) (by rfl); refine EV_mcall ?_; refine EVaf hE (by kernel_rfl) (sS (sS sH)) hT1 tkf7 (fok (by kernel_rfl)) ?_; (with_reducible refine GM_append hq1 ?_); refine CW_go1 (KeepOk.bf _) ?_; refine AR_cons ?_; (refine EV_dict2K ?_; intro D hD); refine EV_sub ?_; refine EV_gref (a := 48) hE (by kernel_rfl) (by kernel_rfl) ?_; refine EV_str (l := [67, 104, 97, 114, 97, 99, 116, 101, 114, 115]) (by kernel_rfl) ?_; refine SUB_dictT (.inr hTT) (tS tE) ?_; refine EV_binop ?_; refine EV_local hE (by kernel_rfl) (sS sH) ?_; refine EV_local hE (by kernel_rfl) sH ?_; (with_reducible refine O2_add_str ?_ ?_); rotate_left; refine ⟨rfl, ?_⟩; refine AR_nil ?_; refine CA_append (setM_old hD hq1) (by simp; done) ?_; refine seq_next ?_; refine EXn ?_; refine EXn ?_; refine EXn ?_; refine RETb ?_; rotate_left)
          · simp; (first | lia | omega)
          · skip
            exact ⟨rfl, ResAt.intro (by ktr_rel) (by ktr_room) (by first | exact .inl ⟨rfl, rfl⟩ | exact .inr ⟨⟨_, rfl⟩, rfl⟩)⟩
    · rw [hx]
      have hr : ra0 g (WT' g) k kept now = ⟨[], k, kept, now, true⟩ := by unfold ra0; rw [hx]
      rw [hr]
      (refine STn hE (by kernel_rfl) ?_; refine IFn hE (by kernel_rfl) sH (t := [60]) (by kernel_rfl) ?_; refine IFn hE (by kernel_rfl) sH (t := [0]) (by kernel_rfl) ?_; refine IFc hE (by kernel_rfl) sH ?_; refine EV_gnone hE (by kernel_rfl) (by kernel_rfl) ?_; (with_reducible refine O2_eq_none_none ?_); (with_reducible refine TR_bool ?_); (refine And.intro ?_ ?_ <;> intro hb <;> try (cases hb; done)); refine RETb ?_; refine seq_ret ?_; refine seq_ret ?_; refine seq_ret ?_)
      exact ⟨rfl, ResAt.intro (by ktr_rel) (by ktr_room) (by first | exact .inl ⟨rfl, rfl⟩ | exact .inr ⟨⟨_, rfl⟩, rfl⟩)⟩
theorem c_t1 (hP : P = Z.cx.w.params) {n : Nat} {M : Mem} {g : G} {T q lf : Addr} {k : Nat} {kept : List Nat} {now : Option (Int × List Nat)} {ct : Value} (h : TAt M g T q lf k 0 kept now .none [] ct []) (hkl : kept.length ≤ 100000) :
    CL Z.cx (n + 7) (.ref 416) [.ref T] (fun v m => v = .bool true ∧ ResAt M m g T q lf (ra1 (WT' g) k kept now)) M := by
  (have hTT := (top_types (Z := Z)) hP; have hSp := (top_spaces (Z := Z)); have hLe := (top_letters (Z := Z)); refine dn fun hG0 => ?_; obtain ⟨t1, t2, t3, t4, q1, q2, q3, q4, tq⟩ := TAt.geo h; refine hG0 ?_; clear hG0)
  refine CL_fn (binds := [("self", .ref T)]) (by rfl) (by kernel_rfl) ?_ (by kernel_rfl) ?_
  · intro vs e
    obtain ⟨v1, rfl, e1⟩ := vs1 e
    exact ⟨[("self", v1)], fun s hx => kp_binds hx (fun S => rfl), by simp [e1]⟩
  · intro fz L env hE he; subst he
    rw [bindL1]
    (have hT1 := TAt.hT h; have hq1 := TAt.hq h; refine dn fun hG0 => ?_; obtain ⟨pre1, c1, co1, b1, p1, S1, hpos1⟩ := id (TAt.hat h); refine hG0 ?_; clear hG0; have hS1 := S1.hS)
    (refine CHR (g := 133) hE (by kernel_rfl) sH hT1 tkf0 (fok (by kernel_rfl)) hS1 (stNo (by kernel_rfl)) (mok (by kernel_rfl)) (KeepOk.rf (by kernel_rfl)) ?_)
    (refine CA_CL ((c_char (n := n) (TAt.hat h)).mono ?_) (by (first | lia | omega)); intro v m1 hq0; refine dn fun hG0 => ?_; rcases hq0 with ⟨kp1, ⟨x, hx, rfl, hat1⟩ | ⟨hx, rfl, hat1⟩⟩ <;> refine hG0 ?_ <;> clear hG0 <;> have h1 := TAt.step h kp1 hat1 <;> have k1 : KT g T q M m1 := (KT.refl _ _ _ _).kp kp1 <;> (have hT1 := TAt.hT h1; have hq1 := TAt.hq h1; refine dn fun hG0 => ?_; obtain ⟨pre1, c1, co1, b1, p1, S1, hpos1⟩ := id (TAt.hat h1); refine hG0 ?_; clear hG0; have hS1 := S1.hS))
    · (refine STn hE (by kernel_rfl) ?_; refine IFs hE (by kernel_rfl) sH (t := [47]) (by kernel_rfl) ?_)
      (refine And.intro ?_ ?_ <;> intro hb <;> try (cases hb; done))
      · have e1 : x = 47 := by simpa using hb
        have hr : ra1 (WT' g) k kept now = ⟨[], k + 1, [], now, false⟩ := by unfold ra1; rw [hx]; simp [e1]
        rw [hr]
        (refine EX_cons ?_; refine E1_AssignAttr ?_ rfl; refine EV_str (l := []) (by kernel_rfl) ?_; refine EV_local hE (by kernel_rfl) (sS sH) ?_; refine SA_tbl hT1 (sok (by kernel_rfl)) (.inl ⟨(by kernel_rfl), rfl⟩) (by decide) ptk8 ?_; refine seq_next ?_; refine EX_cons ?_; refine E1_AssignAttr ?_ rfl; refine EV_attr ?_; refine EV_local hE (by kernel_rfl) (sS sH) ?_; refine GA_bound (g := 423) (setM_same _ _ _) (tS (tS (tS (tS (tS (tS (tS (tS (tS tN))))))))) (mok (by kernel_rfl)) ?_; intro zz; refine EV_local hE (by kernel_rfl) (sS sH) ?_; refine SA_tbl2 (sok (by kernel_rfl)) (.inl ⟨(by kernel_rfl), rfl⟩) (by decide) (pS (pS (pS (pS pH)))) ?_; refine seq_next ?_; refine EXn ?_; refine RETb ?_)
        exact ⟨rfl, ResAt.intro (by ktr_rel) (by ktr_room) (by first | exact .inl ⟨rfl, rfl⟩ | exact .inr ⟨⟨_, rfl⟩, rfl⟩)⟩
      · have n1 : ¬ x = 47 := by simpa using hb
        (refine IFs hE (by kernel_rfl) sH (t := [33]) (by kernel_rfl) ?_)
        (refine And.intro ?_ ?_ <;> intro hb <;> try (cases hb; done))
        · have e2 : x = 33 := by simpa using hb
          have hr : ra1 (WT' g) k kept now = ⟨[.chars [60, 33]], k + 1, kept, now, false⟩ := by unfold ra1; rw [hx]; simp [e2]
          rw [hr]
          (refine TOKg hE (by kernel_rfl) (sS sH) hT1 tkf7 (fok (by kernel_rfl)) hq1 (by kernel_rfl) (by kernel_rfl) (l1 := [67, 104, 97, 114, 97, 99, 116, 101, 114, 115]) (by kernel_rfl) hTT (tS tE) (by simp; done) ?_; intro D hD; refine EV_str (l := [60, 33]) (by kernel_rfl) ?_; refine ⟨rfl, ?_⟩; refine STA (g := 437) hE (by kernel_rfl) (sS sH) ((setM_ne _ _ tq).trans (setM_old hD hT1)) (tkNo (by kernel_rfl)) (mok (by kernel_rfl)) (sok (by kernel_rfl)) (.inl ⟨(by kernel_rfl), rfl⟩) (by decide) (fun _ => ptk4) ?_; intro zz; refine EXn ?_; refine EXn ?_; refine RETb ?_)
          exact ⟨rfl, ResAt.intro (by ktr_rel) (by ktr_room) (by first | exact .inl ⟨rfl, rfl⟩ | exact .inr ⟨⟨_, rfl⟩, rfl⟩)⟩
        · have n2 : ¬ x = 33 := by simpa using hb
          have hr : ra1 (WT' g) k kept now = ⟨[.chars [60]], k, kept, now, false⟩ := by unfold ra1; rw [hx]; simp [n1, n2]
          rw [hr]
          (refine TOKg hE (by kernel_rfl) (sS sH) hT1 tkf7 (fok (by kernel_rfl)) hq1 (by kernel_rfl) (by kernel_rfl) (l1 := [67, 104, 97, 114, 97, 99, 116, 101, 114, 115]) (by kernel_rfl) hTT (tS tE) (by simp; done) ?_; intro D hD; refine EV_str (l := [60]) (by kernel_rfl) ?_; refine ⟨rfl, ?_⟩)
          refine EX_abs (R := fun m' => ∃ vs, TAt m' g T q lf (k + 1) 1 kept now .none [.chars [60]] ct vs ∧ KT g T q M m') ⟨_, by ktr_rel, by ktr_room⟩ ?_
          rintro m2 ⟨vs2, h2, k2⟩
          (have hT1 := TAt.hT h2; have hq1 := TAt.hq h2; refine dn fun hG0 => ?_; obtain ⟨pre1, c1, co1, b1, p1, S1, hpos1⟩ := id (TAt.hat h2); refine hG0 ?_; clear hG0; have hS1 := S1.hS)
          (refine UNG (g := 163) hE (by kernel_rfl) (sS sH) hT1 tkf0 (fok (by kernel_rfl)) hS1 (stNo (by kernel_rfl)) (mok (by kernel_rfl)) (KeepOk.rf (by kernel_rfl)) (by kernel_rfl) sH ?_)
          (refine CA_CL ((c_unget (n := n) (TAt.hat h2) hx).mono ?_) (by (first | lia | omega)); intro v m3 hq0; refine dn fun hG0 => ?_; rcases hq0 with ⟨rfl, kp3, hat3⟩ <;> refine hG0 ?_ <;> clear hG0; have h3 := TAt.step h2 kp3 hat3; (have hT1 := TAt.hT h3; have hq1 := TAt.hq h3; refine dn fun hG0 => ?_; obtain ⟨pre1, c1, co1, b1, p1, S1, hpos1⟩ := id (TAt.hat h3); refine hG0 ?_; clear hG0; have hS1 := S1.hS))
          have k3 := k2.kp kp3
          (refine seq_next ?_; refine STA (g := 339) hE (by kernel_rfl) (sS sH) hT1 (tkNo (by kernel_rfl)) (mok (by kernel_rfl)) (sok (by kernel_rfl)) (.inl ⟨(by kernel_rfl), rfl⟩) (by decide) (fun _ => ptk4) ?_; intro zz; refine EXn ?_; refine EXn ?_; refine RETb ?_)
          exact ⟨rfl, ResAt.intro (by ktr_rel) (by ktr_room) (by first | exact .inl ⟨rfl, rfl⟩ | exact .inr ⟨⟨_, rfl⟩, rfl⟩)⟩
    · have hr : ra1 (WT' g) k kept now = ⟨[.chars [60]], k, kept, now, false⟩ := by unfold ra1; rw [hx]
      rw [hr]
      (refine STn hE (by kernel_rfl) ?_; refine IFc hE (by kernel_rfl) sH ?_; refine EV_str (l := [47]) (by kernel_rfl) ?_; (with_reducible refine O2_eq_none_str ?_); (with_reducible refine TR_bool ?_))
      (refine And.intro ?_ ?_ <;> intro hb <;> try (cases hb; done))
      (refine IFc hE (by kernel_rfl) sH ?_; refine EV_str (l := [33]) (by kernel_rfl) ?_; (with_reducible refine O2_eq_none_str ?_); (with_reducible refine TR_bool ?_))
      (refine And.intro ?_ ?_ <;> intro hb <;> try (cases hb; done))
      (refine TOKg hE (by kernel_rfl) (sS sH) hT1 tkf7 (fok (by kernel_rfl)) hq1 (by kernel_rfl) (by kernel_rfl) (l1 := [67, 104, 97, 114, 97, 99, 116, 101, 114, 115]) (by kernel_rfl) hTT (tS tE) (by simp; done) ?_; intro D hD; refine EV_str (l := [60]) (by kernel_rfl) ?_; refine ⟨rfl, ?_⟩)
      refine EX_abs (R := fun m' => ∃ vs, TAt m' g T q lf (k) 0 kept now .none [.chars [60]] ct vs ∧ KT g T q M m') ⟨_, by ktr_rel, by ktr_room⟩ ?_
      rintro m2 ⟨vs2, h2, k2⟩
      (have hT1 := TAt.hT h2; have hq1 := TAt.hq h2; refine dn fun hG0 => ?_; obtain ⟨pre1, c1, co1, b1, p1, S1, hpos1⟩ := id (TAt.hat h2); refine hG0 ?_; clear hG0; have hS1 := S1.hS)
      (refine UNG (g := 163) hE (by kernel_rfl) (sS sH) hT1 tkf0 (fok (by kernel_rfl)) hS1 (stNo (by kernel_rfl)) (mok (by kernel_rfl)) (KeepOk.rf (by kernel_rfl)) (by kernel_rfl) sH ?_)
      (refine CA_CL ((c_unget_none (n := n) (TAt.hat h2)).mono ?_) (by (first | lia | omega)); refine el2 ?_)
      (refine seq_next ?_; refine STA (g := 339) hE (by kernel_rfl) (sS sH) hT1 (tkNo (by kernel_rfl)) (mok (by kernel_rfl)) (sok (by kernel_rfl)) (.inl ⟨(by kernel_rfl), rfl⟩) (by decide) (fun _ => ptk4) ?_; intro zz; refine EXn ?_; refine EXn ?_; refine RETb ?_)
      exact ⟨rfl, ResAt.intro (by ktr_rel) (by ktr_room) (by first | exact .inl ⟨rfl, rfl⟩ | exact .inr ⟨⟨_, rfl⟩, rfl⟩)⟩
theorem c_t2 (hP : P = Z.cx.w.params) {n : Nat} {M : Mem} {g : G} {T q lf : Addr} {k : Nat} {kept : List Nat} {now : Option (Int × List Nat)} {ct : Value} (h : TAt M g T q lf k 0 kept now .none [] ct []) (hkl : kept.length ≤ 100000) :
    CL Z.cx (n + 7) (.ref 423) [.ref T] (fun v m => v = .bool true ∧ ResAt M m g T q lf (ra2 (WT' g) k kept now)) M := by
  (have hTT := (top_types (Z := Z)) hP; have hSp := (top_spaces (Z := Z)); have hLe := (top_letters (Z := Z)); refine dn fun hG0 => ?_; obtain ⟨t1, t2, t3, t4, q1, q2, q3, q4, tq⟩ := TAt.geo h; refine hG0 ?_; clear hG0)
  refine CL_fn (binds := [("self", .ref T)]) (by rfl) (by kernel_rfl) ?_ (by kernel_rfl) ?_
  · intro vs e
    obtain ⟨v1, rfl, e1⟩ := vs1 e
    exact ⟨[("self", v1)], fun s hx => kp_binds hx (fun S => rfl), by simp [e1]⟩
  · intro fz L env hE he; subst he
    rw [bindL1]
    (have hT1 := TAt.hT h; have hq1 := TAt.hq h; refine dn fun hG0 => ?_; obtain ⟨pre1, c1, co1, b1, p1, S1, hpos1⟩ := id (TAt.hat h); refine hG0 ?_; clear hG0; have hS1 := S1.hS)
    (refine CHR (g := 133) hE (by kernel_rfl) sH hT1 tkf0 (fok (by kernel_rfl)) hS1 (stNo (by kernel_rfl)) (mok (by kernel_rfl)) (KeepOk.rf (by kernel_rfl)) ?_)
    (refine CA_CL ((c_char (n := n) (TAt.hat h)).mono ?_) (by (first | lia | omega)); intro v m1 hq0; refine dn fun hG0 => ?_; rcases hq0 with ⟨kp1, ⟨x, hx, rfl, hat1⟩ | ⟨hx, rfl, hat1⟩⟩ <;> refine hG0 ?_ <;> clear hG0 <;> have h1 := TAt.step h kp1 hat1 <;> have k1 : KT g T q M m1 := (KT.refl _ _ _ _).kp kp1 <;> (have hT1 := TAt.hT h1; have hq1 := TAt.hq h1; refine dn fun hG0 => ?_; obtain ⟨pre1, c1, co1, b1, p1, S1, hpos1⟩ := id (TAt.hat h1); refine hG0 ?_; clear hG0; have hS1 := S1.hS))
    · (refine STn hE (by kernel_rfl) ?_; refine IFc hE (by kernel_rfl) sH ?_; refine EV_gref (a := 27) hE (by kernel_rfl) (by kernel_rfl) ?_)
      refine O2_in_tup (.inr hLe) ?_
      with_reducible refine TR_bool ?_
      (refine And.intro ?_ ?_ <;> intro hb <;> try (cases hb; done))
      · have e1 : x ∈ lettersC := by simpa using hb
        have hr : ra2 (WT' g) k kept now = ⟨[], k + 1, kept ++ [x], now, false⟩ := by unfold ra2; rw [hx]; simp [e1]
        rw [hr]
        (refine EX_cons ?_; refine E1_AugAttr ?_; refine EV_local hE (by kernel_rfl) (sS sH) ?_; refine GA_field hT1 tkf8 (fok (by kernel_rfl)) ?_; refine EV_local hE (by kernel_rfl) sH ?_; (with_reducible refine O2_iadd_str ?_ ?_); rotate_left; refine SA_tbl hT1 (sok (by kernel_rfl)) (.inl ⟨(by kernel_rfl), rfl⟩) (by decide) ptk8 ?_; refine seq_next ?_; refine EX_cons ?_; refine E1_AssignAttr ?_ rfl; refine EV_attr ?_; refine EV_local hE (by kernel_rfl) (sS sH) ?_; refine GA_bound (g := 430) (setM_same _ _ _) (tS (tS (tS (tS (tS (tS (tS (tS (tS tN))))))))) (mok (by kernel_rfl)) ?_; intro zz; refine EV_local hE (by kernel_rfl) (sS sH) ?_; refine SA_tbl2 (sok (by kernel_rfl)) (.inl ⟨(by kernel_rfl), rfl⟩) (by decide) (pS (pS (pS (pS pH)))) ?_; refine seq_next ?_; refine EXn ?_; refine RETb ?_; rotate_left)
        · simp; (first | lia | omega)
        · skip
          exact ⟨rfl, ResAt.intro (by ktr_rel) (by ktr_room) (by first | exact .inl ⟨rfl, rfl⟩ | exact .inr ⟨⟨_, rfl⟩, rfl⟩)⟩
      · have n1 : ¬ x ∈ lettersC := by simpa using hb
        have hr : ra2 (WT' g) k kept now = ⟨[.chars [60, 47]], k, kept, now, false⟩ := by unfold ra2; rw [hx]; simp [n1]
        rw [hr]
        (refine TOKg hE (by kernel_rfl) (sS sH) hT1 tkf7 (fok (by kernel_rfl)) hq1 (by kernel_rfl) (by kernel_rfl) (l1 := [67, 104, 97, 114, 97, 99, 116, 101, 114, 115]) (by kernel_rfl) hTT (tS tE) (by simp; done) ?_; intro D hD; refine EV_str (l := [60, 47]) (by kernel_rfl) ?_; refine ⟨rfl, ?_⟩)
        refine EX_abs (R := fun m' => ∃ vs, TAt m' g T q lf (k + 1) 1 kept now .none [.chars [60, 47]] ct vs ∧ KT g T q M m') ⟨_, by ktr_rel, by ktr_room⟩ ?_
        rintro m2 ⟨vs2, h2, k2⟩
        (have hT1 := TAt.hT h2; have hq1 := TAt.hq h2; refine dn fun hG0 => ?_; obtain ⟨pre1, c1, co1, b1, p1, S1, hpos1⟩ := id (TAt.hat h2); refine hG0 ?_; clear hG0; have hS1 := S1.hS)
        (refine UNG (g := 163) hE (by kernel_rfl) (sS sH) hT1 tkf0 (fok (by kernel_rfl)) hS1 (stNo (by kernel_rfl)) (mok (by kernel_rfl)) (KeepOk.rf (by kernel_rfl)) (by kernel_rfl) sH ?_)
        (refine CA_CL ((c_unget (n := n) (TAt.hat h2) hx).mono ?_) (by (first | lia | omega)); intro v m3 hq0; refine dn fun hG0 => ?_; rcases hq0 with ⟨rfl, kp3, hat3⟩ <;> refine hG0 ?_ <;> clear hG0; have h3 := TAt.step h2 kp3 hat3; (have hT1 := TAt.hT h3; have hq1 := TAt.hq h3; refine dn fun hG0 => ?_; obtain ⟨pre1, c1, co1, b1, p1, S1, hpos1⟩ := id (TAt.hat h3); refine hG0 ?_; clear hG0; have hS1 := S1.hS))
        have k3 := k2.kp kp3
        (refine seq_next ?_; refine STA (g := 339) hE (by kernel_rfl) (sS sH) hT1 (tkNo (by kernel_rfl)) (mok (by kernel_rfl)) (sok (by kernel_rfl)) (.inl ⟨(by kernel_rfl), rfl⟩) (by decide) (fun _ => ptk4) ?_; intro zz; refine EXn ?_; refine RETb ?_)
        exact ⟨rfl, ResAt.intro (by ktr_rel) (by ktr_room) (by first | exact .inl ⟨rfl, rfl⟩ | exact .inr ⟨⟨_, rfl⟩, rfl⟩)⟩
    · have hr : ra2 (WT' g) k kept now = ⟨[.chars [60, 47]], k, kept, now, false⟩ := by unfold ra2; rw [hx]
      rw [hr]
      (refine STn hE (by kernel_rfl) ?_; refine IFc hE (by kernel_rfl) sH ?_; refine EV_gref (a := 27) hE (by kernel_rfl) (by kernel_rfl) ?_)
      refine O2_in_tup_none (.inr hLe) ?_
      with_reducible refine TR_bool ?_
      (refine And.intro ?_ ?_ <;> intro hb <;> try (cases hb; done))
      (refine TOKg hE (by kernel_rfl) (sS sH) hT1 tkf7 (fok (by kernel_rfl)) hq1 (by kernel_rfl) (by kernel_rfl) (l1 := [67, 104, 97, 114, 97, 99, 116, 101, 114, 115]) (by kernel_rfl) hTT (tS tE) (by simp; done) ?_; intro D hD; refine EV_str (l := [60, 47]) (by kernel_rfl) ?_; refine ⟨rfl, ?_⟩)
      refine EX_abs (R := fun m' => ∃ vs, TAt m' g T q lf (k) 0 kept now .none [.chars [60, 47]] ct vs ∧ KT g T q M m') ⟨_, by ktr_rel, by ktr_room⟩ ?_
      rintro m2 ⟨vs2, h2, k2⟩
      (have hT1 := TAt.hT h2; have hq1 := TAt.hq h2; refine dn fun hG0 => ?_; obtain ⟨pre1, c1, co1, b1, p1, S1, hpos1⟩ := id (TAt.hat h2); refine hG0 ?_; clear hG0; have hS1 := S1.hS)
      (refine UNG (g := 163) hE (by kernel_rfl) (sS sH) hT1 tkf0 (fok (by kernel_rfl)) hS1 (stNo (by kernel_rfl)) (mok (by kernel_rfl)) (KeepOk.rf (by kernel_rfl)) (by kernel_rfl) sH ?_)
      (refine CA_CL ((c_unget_none (n := n) (TAt.hat h2)).mono ?_) (by (first | lia | omega)); refine el2 ?_)
      (refine seq_next ?_; refine STA (g := 339) hE (by kernel_rfl) (sS sH) hT1 (tkNo (by kernel_rfl)) (mok (by kernel_rfl)) (sok (by kernel_rfl)) (.inl ⟨(by kernel_rfl), rfl⟩) (by decide) (fun _ => ptk4) ?_; intro zz; refine EXn ?_; refine RETb ?_)
      exact ⟨rfl, ResAt.intro (by ktr_rel) (by ktr_room) (by first | exact .inl ⟨rfl, rfl⟩ | exact .inr ⟨⟨_, rfl⟩, rfl⟩)⟩
end
end Mine
end
section
open PySem PySem.W PyProof.Rows
set_option maxRecDepth 100000
set_option maxHeartbeats 4000000
set_option linter.unusedVariables false
namespace Mine
section
variable {Z : Cz} {P : Params}
theorem c_t3 (hP : P = Z.cx.w.params) {n : Nat} {M : Mem} {g : G} {T q lf : Addr} {k : Nat} {kept : List Nat} {now : Option (Int × List Nat)} {ct : Value} (h : TAt M g T q lf k 0 kept now .none [] ct []) (hkl : kept.length ≤ 100000) (hkc : ∀ c ∈ kept, c < 1114000)
    (hnl : ∀ ty nm, now = some (ty, nm) → nm.length ≤ 100000) :
    CL Z.cx (n + 7) (.ref 430) [.ref T] (fun v m => v = .bool true ∧ ResAt M m g T q lf (r7 (WT' g) k kept now)) M := by
  (have hTT := (top_types (Z := Z)) hP; have hSp := (top_spaces (Z := Z)); have hLe := (top_letters (Z := Z)); refine obAAAAAAAA (TAt.geo h) ?_; intro t1 t2 t3 t4 q1 q2 q3 q4 tq)
  refine CL_fn (binds := [("self", .ref T)]) (by rfl) (by kernel_rfl) ?_ (by kernel_rfl) ?_
  · intro vs e
    obtain ⟨v1, rfl, e1⟩ := vs1 e
    exact ⟨[("self", v1)], fun s hx => kp_binds hx (fun S => rfl), by simp [e1]⟩
  · intro fz L env hE he; subst he; refine EX_gen fun Qg hQ => ?_
    rw [bindL1]
    (have hT1 := TAt.hT h; have hq1 := TAt.hq h; have hS1 := SAt.hS (TAt.hat h))
    refine EX_cut (R := fun l m => ∃ av, ((av = .none ∧ approp now kept = false) ∨ av = .bool (approp now kept)) ∧ l = setL (setL (fun _ => none) "self" (.ref T)) "appropriate" av ∧ m = M) ?_ ?_
    · have hn := h.hn
      cases now with
      | none =>
        have : ct = .none := hn
        subst this
        (refine E1_AssignName ?_ rfl; refine EV_andN ?_; refine EVaf hE (by kernel_rfl) sH hT1 tkf6 (fok (by kernel_rfl)) ?_; (with_reducible refine TR_none ?_))
        (refine And.intro ?_ ?_ <;> intro hb <;> try (cases hb; done))
        refine ST_local hE (by kernel_rfl) ?_
        exact ⟨rfl, .none, .inl ⟨rfl, rfl⟩, rfl, rfl⟩
      | some p =>
        (refine dn fun hG0 => ?_; obtain ⟨ty, nm⟩ := p; refine hG0 ?_; clear hG0)
        (refine obEEAAAA (hn) ?_; intro a e hz2 ha hel _ _; subst hz2)
        have hnm := hnl _ _ rfl
        (refine E1_AssignName ?_ rfl; refine EV_andN ?_; refine EVaf hE (by kernel_rfl) sH hT1 tkf6 (fok (by kernel_rfl)) ?_)
        refine TR_dct (.dct ha) (by simp) ?_
        (refine And.intro ?_ ?_ <;> intro hb <;> try (cases hb; done))
        (refine EV_bool1 ?_; refine EV_compare ?_; refine EV_mcall ?_; refine EV_sub ?_; refine EVaf hE (by kernel_rfl) sH hT1 tkf6 (fok (by kernel_rfl)) ?_; refine EV_str (l := [110, 97, 109, 101]) (by kernel_rfl) ?_)
        refine SUB_dictT (.dct ha) (by exact (tS tE)) ?_
        ((with_reducible refine GM_lower ?_); refine CW_go1 (KeepOk.bf _) ?_; refine AR_nil ?_; (with_reducible refine CA_lower ?_ ?_); rotate_left; refine EV_mcall ?_; refine EVaf hE (by kernel_rfl) sH hT1 tkf8 (fok (by kernel_rfl)) ?_; (with_reducible refine GM_lower ?_); refine CW_go1 (KeepOk.bf _) ?_; refine AR_nil ?_; (with_reducible refine CA_lower ?_ ?_); rotate_left; rotate_left)
        · simp; (exact Nat.le_trans (by assumption) (by decide))
        · simp; (exact Nat.le_trans (by assumption) (by decide))
        · rw [← mkS_cps (Txt.lower (mkS nm)), ← mkS_cps (Txt.lower (mkS kept))]
          ((with_reducible refine O2_eq_str ?_); refine ST_local hE (by kernel_rfl) ?_)
          exact ⟨rfl, _, .inr rfl, rfl, rfl⟩
    · (intro l m hq0; refine obEAA hq0 ?_; clear hq0; intro av hav hz2 hm; subst hz2)
      have hm' := hm.symm
      subst hm'
      (refine CHR (g := 133) hE (by kernel_rfl) (sS sH) hT1 tkf0 (fok (by kernel_rfl)) hS1 (SAt.no _ (by kernel_rfl)) (mok (by kernel_rfl)) (KeepOk.rf (by kernel_rfl)) ?_)
      (refine CA_CL ((c_char (n := n) (TAt.hat h)).mono ?_) (by (exact Nat.le_succ _)); intro v m1 hq0; refine dn fun hG0 => ?_; rcases hq0 with ⟨kp1, ⟨x, hx, rfl, hat1⟩ | ⟨hx, rfl, hat1⟩⟩ <;> refine hG0 ?_ <;> clear hG0 <;> have h1 := TAt.step h kp1 hat1 <;> have k1 : KT g T q M m1 := (KT.refl _ _ _ _).kp kp1 <;> (have hT1 := TAt.hT h1; have hq1 := TAt.hq h1; have hS1 := SAt.hS (TAt.hat h1)))
      · (refine STn hE (by kernel_rfl) ?_; refine EX_cons ?_; refine E1_If ?_)
        refine TV_and2 (b1 := decide (x ∈ spacesC)) (b2 := approp now kept) (fun Q1 hQ1 => ?_) (fun Q2 hQ2 => ?_) ?_
        · (refine TV_compare ?_; refine EV_local hE (by kernel_rfl) sH ?_; refine EV_gref (a := 22) hE (by kernel_rfl) (by kernel_rfl) ?_)
          refine O2_in_tup (.inr hSp) ?_
          with_reducible refine TR_bool ?_
          refine Eq.mpr (congrArg (fun b => Q1 b _ _) ?_) hQ1
          simp
        · (refine TV_value ?_; refine EV_local hE (by kernel_rfl) (sS sH) ?_)
          exact TR_av hav hQ2
        refine And.intro ?_ ?_ <;> intro hb
        · have e1 : x ∈ spacesC ∧ approp now kept = true := by simpa using hb
          obtain ⟨e1, hap⟩ := e1
          have hr : r7 (WT' g) k kept now = ⟨[], k + 1, kept, some (4, kept), false⟩ := by unfold r7; rw [hx]; exact if_pos ⟨.inl e1, hap⟩
          (refine EX_cons ?_; refine E1_AssignAttr ?_ rfl; refine EV_dict4 ?_)
          intro D hD
          (refine EV_sub ?_; refine EV_gref (a := 48) hE (by kernel_rfl) (by kernel_rfl) ?_; refine EV_str (l := [69, 110, 100, 84, 97, 103]) (by kernel_rfl) ?_; refine SUB_dictT (.inr hTT) (tS (tS (tS (tS tE)))) ?_; refine EVaf hE (by kernel_rfl) (sS (sS sH)) (setM_old hD hT1) (tS (tS (tS (tS (tS (tS (tS (tS tH)))))))) (fok (by kernel_rfl)) ?_; refine EV_list ?_; refine AR_nil ?_)
          refine ⟨by simp, fun D' hD' => ?_⟩
          refine EV_bool ?_
          refine ⟨setM_old hD' (setM_same _ _ _), ?_⟩
          have kp4 := (h1.newTag (sv' := .none) hD hD').2
          have hT4 := kp4 _ _ hT1
          unfold tagD at hT4
          (refine EV_local hE (by kernel_rfl) (sS (sS sH)) ?_; refine SA_tbl hT4 (sok (by kernel_rfl)) (.inl ⟨(by kernel_rfl), rfl⟩) (by decide) ptk6 ?_; refine seq_next ?_; refine EX_cons ?_; refine E1_AssignAttr ?_ rfl; refine EV_attr ?_; refine EV_local hE (by kernel_rfl) (sS (sS sH)) ?_; refine GA_bound (g := 535) (setM_same _ _ _) (tS (tS (tS (tS (tS (tS (tS (tS (tS tN))))))))) (mok (by kernel_rfl)) ?_; intro zz; refine EV_local hE (by kernel_rfl) (sS (sS sH)) ?_; refine SA_tbl2 (sok (by kernel_rfl)) (.inl ⟨(by kernel_rfl), rfl⟩) (by decide) (pS (pS (pS (pS pH)))) ?_; refine seq_next ?_; refine EXn ?_; refine RETb ?_)
          refine hQ _ _ _ ?_; (first | rw [hr] | skip); exact ⟨rfl, ResAt.intro (h1.newTag hD hD').1 (KT.tok (fun a o i1 i2 i3 i4 i5 e => kp4 a o (k1 a o i1 i2 i3 i4 i5 e))) (.inr ⟨⟨_, rfl⟩, rfl⟩)⟩
        have n1 : ¬ (x ∈ spacesC ∧ approp now kept = true) := fun z => by simp [z.1, z.2] at hb
        (refine EX_cons ?_; refine E1_If ?_)
        refine TV_and2 (b1 := decide (x = 47)) (b2 := approp now kept) (fun Q1 hQ1 => ?_) (fun Q2 hQ2 => ?_) ?_
        · (refine TV_compare ?_; refine EV_local hE (by kernel_rfl) sH ?_; refine EV_str (l := [47]) (by kernel_rfl) ?_; (with_reducible refine O2_eq_str ?_); (with_reducible refine TR_bool ?_))
          refine Eq.mpr (congrArg (fun b => Q1 b _ _) ?_) hQ1
          simp
        · (refine TV_value ?_; refine EV_local hE (by kernel_rfl) (sS sH) ?_)
          exact TR_av hav hQ2
        refine And.intro ?_ ?_ <;> intro hb
        · have e1 : x = 47 ∧ approp now kept = true := by simpa using hb
          obtain ⟨e1, hap⟩ := e1
          have hr : r7 (WT' g) k kept now = ⟨[], k + 1, kept, some (4, kept), false⟩ := by unfold r7; rw [hx]; exact if_pos ⟨.inr e1, hap⟩
          (refine EX_cons ?_; refine E1_AssignAttr ?_ rfl; refine EV_dict4 ?_)
          intro D hD
          (refine EV_sub ?_; refine EV_gref (a := 48) hE (by kernel_rfl) (by kernel_rfl) ?_; refine EV_str (l := [69, 110, 100, 84, 97, 103]) (by kernel_rfl) ?_; refine SUB_dictT (.inr hTT) (tS (tS (tS (tS tE)))) ?_; refine EVaf hE (by kernel_rfl) (sS (sS sH)) (setM_old hD hT1) (tS (tS (tS (tS (tS (tS (tS (tS tH)))))))) (fok (by kernel_rfl)) ?_; refine EV_list ?_; refine AR_nil ?_)
          refine ⟨by simp, fun D' hD' => ?_⟩
          refine EV_bool ?_
          refine ⟨setM_old hD' (setM_same _ _ _), ?_⟩
          have kp4 := (h1.newTag (sv' := .none) hD hD').2
          have hT4 := kp4 _ _ hT1
          unfold tagD at hT4
          (refine EV_local hE (by kernel_rfl) (sS (sS sH)) ?_; refine SA_tbl hT4 (sok (by kernel_rfl)) (.inl ⟨(by kernel_rfl), rfl⟩) (by decide) ptk6 ?_; refine seq_next ?_; refine EX_cons ?_; refine E1_AssignAttr ?_ rfl; refine EV_attr ?_; refine EV_local hE (by kernel_rfl) (sS (sS sH)) ?_; refine GA_bound (g := 591) (setM_same _ _ _) (tS (tS (tS (tS (tS (tS (tS (tS (tS tN))))))))) (mok (by kernel_rfl)) ?_; intro zz; refine EV_local hE (by kernel_rfl) (sS (sS sH)) ?_; refine SA_tbl2 (sok (by kernel_rfl)) (.inl ⟨(by kernel_rfl), rfl⟩) (by decide) (pS (pS (pS (pS pH)))) ?_; refine seq_next ?_; refine EXn ?_; refine EXn ?_; refine RETb ?_)
          refine hQ _ _ _ ?_; (first | rw [hr] | skip); exact ⟨rfl, ResAt.intro (h1.newTag hD hD').1 (KT.tok (fun a o i1 i2 i3 i4 i5 e => kp4 a o (k1 a o i1 i2 i3 i4 i5 e))) (.inr ⟨⟨_, rfl⟩, rfl⟩)⟩
        have n2 : ¬ (x = 47 ∧ approp now kept = true) := fun z => by simp [z.1, z.2] at hb
        have m7 : ¬ ((x ∈ spacesC ∨ x = 47) ∧ approp now kept = true) := fun z => z.1.elim (fun a => n1 ⟨a, z.2⟩) (fun a => n2 ⟨a, z.2⟩)
        (refine EX_cons ?_; refine E1_If ?_)
        refine TV_and2 (b1 := decide (x = 62)) (b2 := approp now kept) (fun Q1 hQ1 => ?_) (fun Q2 hQ2 => ?_) ?_
        · (refine TV_compare ?_; refine EV_local hE (by kernel_rfl) sH ?_; refine EV_str (l := [62]) (by kernel_rfl) ?_; (with_reducible refine O2_eq_str ?_); (with_reducible refine TR_bool ?_))
          refine Eq.mpr (congrArg (fun b => Q1 b _ _) ?_) hQ1
          simp
        · (refine TV_value ?_; refine EV_local hE (by kernel_rfl) (sS sH) ?_)
          exact TR_av hav hQ2
        refine And.intro ?_ ?_ <;> intro hb
        · have e1 : x = 62 ∧ approp now kept = true := by simpa using hb
          obtain ⟨e1, hap⟩ := e1
          have hr : r7 (WT' g) k kept now = ⟨[.tag 4 (kept.map lowC)], k + 1, kept, some (4, kept.map lowC), false⟩ := by unfold r7; rw [hx]; exact (if_neg m7).trans (if_pos ⟨e1, hap⟩)
          (refine EX_cons ?_; refine E1_AssignAttr ?_ rfl; refine EV_dict4 ?_)
          intro D hD
          (refine EV_sub ?_; refine EV_gref (a := 48) hE (by kernel_rfl) (by kernel_rfl) ?_; refine EV_str (l := [69, 110, 100, 84, 97, 103]) (by kernel_rfl) ?_; refine SUB_dictT (.inr hTT) (tS (tS (tS (tS tE)))) ?_; refine EVaf hE (by kernel_rfl) (sS (sS sH)) (setM_old hD hT1) (tS (tS (tS (tS (tS (tS (tS (tS tH)))))))) (fok (by kernel_rfl)) ?_; refine EV_list ?_; refine AR_nil ?_)
          refine ⟨by simp, fun D' hD' => ?_⟩
          refine EV_bool ?_
          refine ⟨setM_old hD' (setM_same _ _ _), ?_⟩
          have nt := h1.newTag (sv' := .none) hD hD'
          have kp4 := nt.2
          have hT4 := kp4 _ _ hT1
          unfold tagD at hT4
          have h4 := nt.1
          (refine EV_local hE (by kernel_rfl) (sS (sS sH)) ?_; refine SA_tbl hT4 (sok (by kernel_rfl)) (.inl ⟨(by kernel_rfl), rfl⟩) (by decide) ptk6 ?_; refine seq_next ?_)
          refine EX_abs (R := fun m' => TAt m' g T q lf (k + 1) 1 kept (some (4, kept)) .none [] (.ref D) [] ∧ KT g T q M m') ⟨h4, KT.tok (fun a o i1 i2 i3 i4 i5 e => kp4 a o (k1 a o i1 i2 i3 i4 i5 e))⟩ ?_
          rintro m4 ⟨h4, k4⟩
          have hx4 := h4.hT
          have hq4 := h4.hq
          (refine obEEAAAA (h4.hn) ?_; intro aa ee e5 ha4 hel4 he1 he2)
          cases e5
          have fin := fun m' km sv' => h4.emit (m' := m') km ha4 hel4 he1 he2 (kept.map lowC) (sv' := sv')
          have cc := c_emit hP (n := n) hx4 hq4 ha4 hel4 (by simp) hkl hkc
          unfold tkT at hx4
          (refine EX_cons ?_; refine E1_Expr ?_ (by rfl) (by rfl); refine EV_mcall ?_; refine EV_local hE (by kernel_rfl) (sS (sS sH)) ?_; refine GM_meth (g := 297) hx4 (tS (tS (tS (tS (tS (tS (tS (tS (tS tN))))))))) (mok (by kernel_rfl)) ?_; refine CW_go1 (KeepOk.rf (by kernel_rfl)) ?_; refine AR_nil ?_)
          refine CA_CL (cc.mono ?_) (by (lia))
          (intro v m5 hq0; refine obAEEA hq0 ?_; clear hq0; intro hz0 z m' km hz4; subst hz0; subst hz4)
          unfold tkT
          unfold tkT at fin
          (refine seq_next ?_; refine EX_cons ?_; refine E1_AssignAttr ?_ rfl; refine EV_attr ?_; refine EV_local hE (by kernel_rfl) (sS (sS sH)) ?_; refine GA_bound (g := 304) (setM_same _ _ _) (tS (tS (tS (tS (tS (tS (tS (tS (tS tN))))))))) (mok (by kernel_rfl)) ?_; intro zz; refine EV_local hE (by kernel_rfl) (sS (sS sH)) ?_; refine SA_tbl2 (sok (by kernel_rfl)) (.inl ⟨(by kernel_rfl), rfl⟩) (by decide) (pS (pS (pS (pS pH)))) ?_; refine seq_next ?_; refine EXn ?_; refine EXn ?_; refine EXn ?_; refine RETb ?_)
          refine hQ _ _ _ ?_; (first | rw [hr] | skip); exact ⟨rfl, ResAt.intro (fin m' km _) (KT.tok (KT.que (fun a o i1 i2 i3 i4 i5 e => (setM_ne _ _ (fun z => by have := k1 a o i1 i2 i3 i4 i5 e; rw [z, hD] at this; cases this)).trans (km _ _ (k4 a o i1 i2 i3 i4 i5 e))))) (.inr ⟨⟨_, rfl⟩, rfl⟩)⟩
        have n3 : ¬ (x = 62 ∧ approp now kept = true) := fun z => by simp [z.1, z.2] at hb
        (refine IFc hE (by kernel_rfl) sH ?_; refine EV_gref (a := 27) hE (by kernel_rfl) (by kernel_rfl) ?_)
        refine O2_in_tup (.inr hLe) ?_
        with_reducible refine TR_bool ?_
        refine And.intro ?_ ?_ <;> intro hb
        · have e4 : x ∈ lettersC := by simpa using hb
          have hr : r7 (WT' g) k kept now = ⟨[], k + 1, kept ++ [x], now, true⟩ := by unfold r7; rw [hx]; exact (if_neg m7).trans ((if_neg n3).trans (if_pos e4))
          (refine EX_cons ?_; refine E1_AugAttr ?_; refine EV_local hE (by kernel_rfl) (sS (sS sH)) ?_; refine GA_field hT1 tkf8 (fok (by kernel_rfl)) ?_; refine EV_local hE (by kernel_rfl) sH ?_; (with_reducible refine O2_iadd_str ?_ ?_); rotate_left; refine SA_tbl hT1 (sok (by kernel_rfl)) (.inl ⟨(by kernel_rfl), rfl⟩) (by decide) ptk8 ?_; refine seq_next ?_; refine EXn ?_; refine EXn ?_; refine EXn ?_; refine EXn ?_; refine RETb ?_; rotate_left)
          · simp; (exact Nat.le_trans (by assumption) (by decide))
          · skip
            refine hQ _ _ _ ?_; (first | rw [hr] | skip); exact ⟨rfl, ResAt.intro (by ktr_rel) (by ktr_room) (by first | exact .inl ⟨rfl, rfl⟩ | exact .inr ⟨⟨_, rfl⟩, rfl⟩)⟩
        have n4 : ¬ x ∈ lettersC := by simpa using hb
        have hr : r7 (WT' g) k kept now = ⟨[.chars ([60, 47] ++ kept)], k, kept, now, false⟩ := by unfold r7; rw [hx]; exact (if_neg m7).trans ((if_neg n3).trans (if_neg n4))
        (refine EX_cons ?_; refine E1_Expr ?_ (by rfl) (by rfl); refine EV_mcall ?_; refine EVaf hE (by kernel_rfl) (sS (sS sH)) hT1 tkf7 (fok (by kernel_rfl)) ?_; (with_reducible refine GM_append hq1 ?_); refine CW_go1 (KeepOk.bf _) ?_; refine AR_cons ?_; (refine EV_dict2K ?_; intro D hD); refine EV_sub ?_; refine EV_gref (a := 48) hE (by kernel_rfl) (by kernel_rfl) ?_; refine EV_str (l := [67, 104, 97, 114, 97, 99, 116, 101, 114, 115]) (by kernel_rfl) ?_; refine SUB_dictT (.inr hTT) (tS tE) ?_; refine EV_binop ?_; refine EV_str (l := [60, 47]) (by kernel_rfl) ?_; refine EVaf hE (by kernel_rfl) (sS (sS sH)) (setM_old hD hT1) (tS (tS (tS (tS (tS (tS (tS (tS tH)))))))) (fok (by kernel_rfl)) ?_; (with_reducible refine O2_add_str ?_ ?_))
        · simp; (lia)
        (refine ⟨rfl, ?_⟩; refine AR_nil ?_; refine CA_append (setM_old hD hq1) (by simp; done) ?_; refine seq_next ?_)
        refine EX_abs (R := fun m' => ∃ vs, TAt m' g T q lf (k + 1) 1 kept now .none [.chars ([60, 47] ++ kept)] ct vs ∧ KT g T q M m') ⟨_, by ktr_rel, by ktr_room⟩ ?_
        rintro m2 ⟨vs2, h2, k2⟩
        (have hT1 := TAt.hT h2; have hq1 := TAt.hq h2; have hS1 := SAt.hS (TAt.hat h2))
        (refine UNG (g := 163) hE (by kernel_rfl) (sS (sS sH)) hT1 tkf0 (fok (by kernel_rfl)) hS1 (SAt.no _ (by kernel_rfl)) (mok (by kernel_rfl)) (KeepOk.rf (by kernel_rfl)) (by kernel_rfl) sH ?_)
        (refine CA_CL ((c_unget (n := n) (TAt.hat h2) hx).mono ?_) (by (lia)); intro v m3 hq0; refine obAA hq0 ?_; clear hq0; intro hz0 kp3 hat3; subst hz0; have h3 := TAt.step h2 kp3 hat3; (have hT1 := TAt.hT h3; have hq1 := TAt.hq h3; have hS1 := SAt.hS (TAt.hat h3)))
        have k3 := k2.kp kp3
        (refine seq_next ?_; refine STA (g := 339) hE (by kernel_rfl) (sS (sS sH)) hT1 (tkNo (by kernel_rfl)) (mok (by kernel_rfl)) (sok (by kernel_rfl)) (.inl ⟨(by kernel_rfl), rfl⟩) (by decide) (fun _ => ptk4) ?_; intro zz; refine EXn ?_; refine EXn ?_; refine EXn ?_; refine EXn ?_; refine RETb ?_)
        refine hQ _ _ _ ?_; (first | rw [hr] | skip); exact ⟨rfl, ResAt.intro (by ktr_rel) (by ktr_room) (by first | exact .inl ⟨rfl, rfl⟩ | exact .inr ⟨⟨_, rfl⟩, rfl⟩)⟩
      · have hr : r7 (WT' g) k kept now = ⟨[.chars ([60, 47] ++ kept)], k, kept, now, false⟩ := by unfold r7; rw [hx]
        (refine STn hE (by kernel_rfl) ?_; refine EX_cons ?_; refine E1_If ?_; refine TV_boolop ?_; refine TAll_and ?_; refine TV_compare ?_; refine EV_local hE (by kernel_rfl) sH ?_; refine EV_gref (a := 22) hE (by kernel_rfl) (by kernel_rfl) ?_)
        refine O2_in_tup_none (.inr hSp) ?_
        ((with_reducible refine TR_bool ?_); (refine And.intro ?_ ?_ <;> intro hb <;> try (cases hb; done)); (refine And.intro ?_ ?_ <;> intro hb <;> try (cases hb; done)); refine EX_cons ?_; refine E1_If ?_; refine TV_boolop ?_; refine TAll_and ?_; refine TV_compare ?_; refine EV_local hE (by kernel_rfl) sH ?_; refine EV_str (l := [47]) (by kernel_rfl) ?_; (with_reducible refine O2_eq_none_str ?_); (with_reducible refine TR_bool ?_); (refine And.intro ?_ ?_ <;> intro hb <;> try (cases hb; done)); (refine And.intro ?_ ?_ <;> intro hb <;> try (cases hb; done)); refine EX_cons ?_; refine E1_If ?_; refine TV_boolop ?_; refine TAll_and ?_; refine TV_compare ?_; refine EV_local hE (by kernel_rfl) sH ?_; refine EV_str (l := [62]) (by kernel_rfl) ?_; (with_reducible refine O2_eq_none_str ?_); (with_reducible refine TR_bool ?_); (refine And.intro ?_ ?_ <;> intro hb <;> try (cases hb; done)); (refine And.intro ?_ ?_ <;> intro hb <;> try (cases hb; done)); refine IFc hE (by kernel_rfl) sH ?_; refine EV_gref (a := 27) hE (by kernel_rfl) (by kernel_rfl) ?_)
        refine O2_in_tup_none (.inr hLe) ?_
        with_reducible refine TR_bool ?_
        (refine And.intro ?_ ?_ <;> intro hb <;> try (cases hb; done))
        (refine EX_cons ?_; refine E1_Expr ?_ (by rfl) (by rfl); refine EV_mcall ?_; refine EVaf hE (by kernel_rfl) (sS (sS sH)) hT1 tkf7 (fok (by kernel_rfl)) ?_; (with_reducible refine GM_append hq1 ?_); refine CW_go1 (KeepOk.bf _) ?_; refine AR_cons ?_; (refine EV_dict2K ?_; intro D hD); refine EV_sub ?_; refine EV_gref (a := 48) hE (by kernel_rfl) (by kernel_rfl) ?_; refine EV_str (l := [67, 104, 97, 114, 97, 99, 116, 101, 114, 115]) (by kernel_rfl) ?_; refine SUB_dictT (.inr hTT) (tS tE) ?_; refine EV_binop ?_; refine EV_str (l := [60, 47]) (by kernel_rfl) ?_; refine EVaf hE (by kernel_rfl) (sS (sS sH)) (setM_old hD hT1) (tS (tS (tS (tS (tS (tS (tS (tS tH)))))))) (fok (by kernel_rfl)) ?_; (with_reducible refine O2_add_str ?_ ?_))
        · simp; (lia)
        (refine ⟨rfl, ?_⟩; refine AR_nil ?_; refine CA_append (setM_old hD hq1) (by simp; done) ?_; refine seq_next ?_)
        refine EX_abs (R := fun m' => ∃ vs, TAt m' g T q lf k 0 kept now .none [.chars ([60, 47] ++ kept)] ct vs ∧ KT g T q M m') ⟨_, by ktr_rel, by ktr_room⟩ ?_
        rintro m2 ⟨vs2, h2, k2⟩
        (have hT1 := TAt.hT h2; have hq1 := TAt.hq h2; have hS1 := SAt.hS (TAt.hat h2))
        (refine UNG (g := 163) hE (by kernel_rfl) (sS (sS sH)) hT1 tkf0 (fok (by kernel_rfl)) hS1 (SAt.no _ (by kernel_rfl)) (mok (by kernel_rfl)) (KeepOk.rf (by kernel_rfl)) (by kernel_rfl) sH ?_)
        (refine CA_CL ((c_unget_none (n := n) (TAt.hat h2)).mono ?_) (by (lia)); refine el2 ?_)
        (refine seq_next ?_; refine STA (g := 339) hE (by kernel_rfl) (sS (sS sH)) hT1 (tkNo (by kernel_rfl)) (mok (by kernel_rfl)) (sok (by kernel_rfl)) (.inl ⟨(by kernel_rfl), rfl⟩) (by decide) (fun _ => ptk4) ?_; intro zz; refine EXn ?_; refine EXn ?_; refine EXn ?_; refine EXn ?_; refine RETb ?_)
        refine hQ _ _ _ ?_; (first | rw [hr] | skip); exact ⟨rfl, ResAt.intro (by ktr_rel) (by ktr_room) (by first | exact .inl ⟨rfl, rfl⟩ | exact .inr ⟨⟨_, rfl⟩, rfl⟩)⟩
end
end Mine
end
section
open PySem PySem.W PySem.Calls PyProof.Rows PySem.StrLaws PySem.Builtin PySem.Builtin.Str
set_option maxRecDepth 100000
set_option maxHeartbeats 4000000
set_option linter.unusedVariables false
namespace Mine
theorem occ_fit (s sub : Str) (hi limit : Nat) : ∀ (l : List Nat) (st : Array Nat × Nat), (∀ i ∈ st.fst.toList, i + sub.length ≤ hi) → ∀ i ∈ (forIn l st (occBody s sub hi limit)).run.fst.toList, i + sub.length ≤ hi
  | [], st, h => h
  | a :: l, st, h => by
    rw [List.forIn_cons]
    unfold occBody
    split
    · rename_i hc
      exact occ_fit s sub hi limit l _ (by
        intro i hm
        simp only [Array.toList_push, List.mem_append, List.mem_singleton] at hm
        rcases hm with hm | rfl
        · exact h i hm
        · exact hc.1.2)
    · exact occ_fit s sub hi limit l _ h
theorem occ_bound {s sub : Str} {lo hi limit : Nat} : ∀ i ∈ occurrences s sub lo hi limit, i + sub.length ≤ hi := by
  rw [occ_eq]
  exact occ_fit s sub hi limit _ _ (by simp)
section
variable {X : Cx} {n : Nat} {fz : Frz} {L : Addr} {loc : Loc} {M : Mem}
theorem CA_find3 {Q : QV} {x y : Str} {i : Int} (h : ∀ k : Int, (k = -1 ∨ ∃ j : Nat, k = (j : Int) ∧ j + y.length ≤ x.length) → Q (.int k 0) loc M) : CA X n fz L (.builtin "str.find") [.str x 0, .str y 0, .int i 0] Q loc M := fun vs e A s r F o => by
  obtain ⟨v, w, u, rfl, e1, e2, e3⟩ := vs3 e
  obtain ⟨t, rfl⟩ := er_str e1
  obtain ⟨u, rfl⟩ := er_str e2
  obtain ⟨t3, rfl⟩ := er_int e3
  refine call_gives PySem.F.slot_str_find (typeIs_str _ _ _) PySem.F.entry_str_find (PySem.F.args_str_find_3 _ _ _) (gives_str_find_from x y i t u t3) ⟨loc, M, F, Like.tokn s _ (Nat.le_succ _), h _ ?_⟩
  cases hq : occurrences x y (fromIndex x.length i) x.length 1 with
  | nil => exact .inl rfl
  | cons k r => exact .inr ⟨k, rfl, occ_bound k (by rw [hq]; exact List.mem_cons_self)⟩
theorem O2_eq_nil {Q : QV} {a b : Addr} (h1 : RdM X M a (.lst [])) (h2 : RdM X M b (.lst [])) (hn : 2 ≤ n) (h : Q (.bool true) loc M) : O2 X n fz L (compareOp .Eq) (.ref a) (.ref b) Q loc M := fun va vb e1 e2 A s r F o => by
  rw [er_ref e1, er_ref e2]
  have hu := r.units
  obtain ⟨us, g1, g2⟩ := h1.get F
  obtain ⟨ws, g3, g4⟩ := h2.get F
  have z1 : us.size = 0 := by rw [← Array.length_toList, ← List.length_map (f := er), g2]; rfl
  have z2 : ws.size = 0 := by rw [← Array.length_toList, ← List.length_map (f := er), g4]; rfl
  show wpAny _ _ (richCompare .Eq (.ref a) (.ref b)) _ _ _
  refine PySem.SeqAt.RcAt.lists (e := fun _ => true) g1 g3 (by (first | lia | omega)) (by (first | lia | omega)) (fun j j1 j2 => absurd j1 (by (first | lia | omega))) X.prog X.w _ _ ⟨loc, M, F, Like.refl s, ?_⟩
  show Q (.bool _) loc M
  have e : ((List.range us.size).all fun _ => true) = true := by simp
  rw [e]; exact h
end
end Mine
end
section
open PySem PySem.W PyProof.Rows
set_option maxRecDepth 100000
set_option maxHeartbeats 4000000
set_option linter.unusedVariables false
namespace Mine
noncomputable def namesV : List Value := strsV ["script".toList.map (·.toNat), "b".toList.map (·.toNat), "SCRIPT".toList.map (·.toNat), "x".toList.map (·.toNat), []] ++ [.none]
noncomputable def stopsL : List (List Nat) := [[9], [10], [12], [32], [47], [62]]
section
variable {Z : Cz} {P : Params}
theorem c_names {n : Nat} {M : Mem} : CL Z.cx (n + 1) (.ref 774) [] (fun v m => ∃ D, M D = none ∧ v = .ref D ∧ m = setM M D (.lst namesV)) M := by
  refine CL_fn (binds := []) (by rfl) (by kernel_rfl) ?_ (by kernel_rfl) ?_
  · intro vs e
    have := vs0 e
    subst this
    exact ⟨[], fun s hx => kp_binds hx (fun S => rfl), by simp⟩
  · intro fz L env hE he; subst he
    (refine EX_cons ?_; refine E1_Return ?_; refine EV_list ?_; refine AR_cons ?_; refine EV_str (l := [115, 99, 114, 105, 112, 116]) (by kernel_rfl) ?_; refine AR_cons ?_; refine EV_str (l := [98]) (by kernel_rfl) ?_; refine AR_cons ?_; refine EV_str (l := [83, 67, 82, 73, 80, 84]) (by kernel_rfl) ?_; refine AR_cons ?_; refine EV_str (l := [120]) (by kernel_rfl) ?_; refine AR_cons ?_; refine EV_str (l := []) (by kernel_rfl) ?_; refine AR_cons ?_; refine EV_none ?_; refine AR_nil ?_)
    refine ⟨by simp, fun D hD => ?_⟩
    refine seq_ret ?_
    exact ⟨D, hD, rfl, by kernel_rfl⟩
theorem c_stops {n : Nat} {M : Mem} : CL Z.cx (n + 1) (.ref 781) [] (fun v m => ∃ D, M D = none ∧ v = .ref D ∧ m = setM M D (.lst (strsV stopsL))) M := by
  refine CL_fn (binds := []) (by rfl) (by kernel_rfl) ?_ (by kernel_rfl) ?_
  · intro vs e
    have := vs0 e
    subst this
    exact ⟨[], fun s hx => kp_binds hx (fun S => rfl), by simp⟩
  · intro fz L env hE he; subst he
    (refine EX_cons ?_; refine E1_Return ?_; refine EV_list ?_; refine AR_cons ?_; refine EV_str (l := [9]) (by kernel_rfl) ?_; refine AR_cons ?_; refine EV_str (l := [10]) (by kernel_rfl) ?_; refine AR_cons ?_; refine EV_str (l := [12]) (by kernel_rfl) ?_; refine AR_cons ?_; refine EV_str (l := [32]) (by kernel_rfl) ?_; refine AR_cons ?_; refine EV_str (l := [47]) (by kernel_rfl) ?_; refine AR_cons ?_; refine EV_str (l := [62]) (by kernel_rfl) ?_; refine AR_nil ?_)
    refine ⟨by simp, fun D hD => ?_⟩
    refine seq_ret ?_
    exact ⟨D, hD, rfl, by kernel_rfl⟩
theorem c_tag0 {n : Nat} {M : Mem} {kd : List Nat} : CL Z.cx (n + 1) (.ref 795) [.str (mkS kd) 0, .none] (fun v m => v = .none ∧ m = M) M := by
  refine CL_fn (binds := [("kind", .str (mkS kd) 0), ("name", .none)]) (by rfl) (by kernel_rfl) ?_ (by kernel_rfl) ?_
  · intro vs e
    obtain ⟨v1, v2, rfl, e1, e2⟩ := vs2 e
    exact ⟨[("kind", v1), ("name", v2)], fun s hx => kp_binds hx (fun S => rfl), by simp [e1, e2]⟩
  · intro fz L env hE he; subst he
    rw [bindL2]
    (refine EX_cons ?_; refine E1_Return ?_; refine EV_ifexp ?_; refine TV_compare ?_; refine EV_local hE (by kernel_rfl) sH ?_; refine EV_none ?_; (with_reducible refine O2_is_none ?_); (with_reducible refine TR_bool ?_); (refine And.intro ?_ ?_ <;> intro hb <;> try (cases hb; done)); refine EV_none ?_; refine seq_ret ?_)
    exact ⟨rfl, rfl⟩
theorem c_tag1 (hP : P = Z.cx.w.params) {n : Nat} {M : Mem} {kd nm : List Nat} {ty : Int} (hkd : tblF ttL (mkS kd) = some (.int ty 0)) : CL Z.cx (n + 1) (.ref 795) [.str (mkS kd) 0, .str (mkS nm) 0]
    (fun v m => ∃ D E, v = .ref D ∧ M D = none ∧ M E = none ∧ m D = some (.dct (tagD ty nm E)) ∧ m E = some (.lst []) ∧ ∀ a o, M a = some o → m a = some o) M := by
  have hTT := (top_types (Z := Z)) hP
  refine CL_fn (binds := [("kind", .str (mkS kd) 0), ("name", .str (mkS nm) 0)]) (by rfl) (by kernel_rfl) ?_ (by kernel_rfl) ?_
  · intro vs e
    obtain ⟨v1, v2, rfl, e1, e2⟩ := vs2 e
    exact ⟨[("kind", v1), ("name", v2)], fun s hx => kp_binds hx (fun S => rfl), by simp [e1, e2]⟩
  · intro fz L env hE he; subst he
    rw [bindL2]
    (refine EX_cons ?_; refine E1_Return ?_; refine EV_ifexp ?_; refine TV_compare ?_; refine EV_local hE (by kernel_rfl) sH ?_; refine EV_none ?_; (with_reducible refine O2_is_none ?_); (with_reducible refine TR_bool ?_); (refine And.intro ?_ ?_ <;> intro hb <;> try (cases hb; done)); refine EV_dict4 ?_)
    intro D hD
    (refine EV_sub ?_; refine EV_gref (a := 48) hE (by kernel_rfl) (by kernel_rfl) ?_; refine EV_local hE (by kernel_rfl) (sS sH) ?_)
    refine SUB_dictT (.inr hTT) hkd ?_
    (refine EV_local hE (by kernel_rfl) sH ?_; refine EV_list ?_; refine AR_nil ?_)
    refine ⟨by simp, fun D' hD' => ?_⟩
    refine EV_bool ?_
    refine ⟨setM_old hD' (setM_same _ _ _), ?_⟩
    (refine dn fun hG0 => ?_; obtain ⟨hD1, hDD⟩ := setM_none hD'; refine hG0 ?_; clear hG0)
    exact ⟨D, D', rfl, hD, hD1, setM_same _ _ _, (setM_ne _ _ hDD).trans (setM_same _ _ _), fun a o e => by
      have n1 : a ≠ D := fun z => by rw [z, hD] at e; cases e
      have n2 : a ≠ D' := fun z => by rw [z, hD1] at e; cases e
      exact (setM_ne _ _ n1).trans ((setM_ne _ _ n2).trans ((setM_ne _ _ n1).trans e))⟩
end
noncomputable def TkL (M : Mem) : TK → Value → Prop
  | .err s, v => ∃ a, v = .ref a ∧ M a = some (.dct [("type", .int 7 0), ("data", .str (mkS s) 0)])
  | .chars s, v => ∃ a, v = .ref a ∧ M a = some (.dct [("type", .int 1 0), ("data", .str (mkS s) 0)])
  | .tag ty nm, v => ∃ a e, v = .ref a ∧ M a = some (.dct (tagD ty nm e)) ∧ M e = some (.lst [])
theorem TkRep.toL {g : G} {q : Addr} {M : Mem} {t : TK} {v : Value} (h : TkRep g q M t v) : TkL M t v := by
  cases t with
  | err s => exact h
  | chars s => exact h
  | tag ty nm => obtain ⟨a, e, h1, h2, h3, _⟩ := h; exact ⟨a, e, h1, h2, h3⟩
noncomputable def sayT (s : List Nat) : List TK := if s = [0] then [.err badM, .chars [65533]] else [.chars s]
section
variable {Z : Cz} {P : Params}
theorem c_say (hP : P = Z.cx.w.params) {n : Nat} {M : Mem} {s : List Nat} : CL Z.cx (n + 1) (.ref 802) [.str (mkS s) 0]
    (fun v m => ∃ D vs, v = .ref D ∧ M D = none ∧ m D = some (.lst vs) ∧ All2 (TkL m) (sayT s) vs ∧ ∀ a o, M a = some o → m a = some o) M := by
  have hTT := (top_types (Z := Z)) hP
  refine CL_fn (binds := [("piece", .str (mkS s) 0)]) (by rfl) (by kernel_rfl) ?_ (by kernel_rfl) ?_
  · intro vs e
    obtain ⟨v1, rfl, e1⟩ := vs1 e
    exact ⟨[("piece", v1)], fun s hx => kp_binds hx (fun S => rfl), by simp [e1]⟩
  · intro fz L env hE he; subst he
    rw [bindL1]
    (refine IFs hE (by kernel_rfl) sH (t := [0]) (by kernel_rfl) ?_)
    (refine And.intro ?_ ?_ <;> intro hb <;> try (cases hb; done))
    · have h1 : s = [0] := by simpa using hb
      subst h1
      (refine EX_cons ?_; refine E1_Return ?_; refine EV_list ?_; refine AR_cons ?_; (refine EV_dict2K ?_; intro D hD); refine EV_sub ?_; refine EV_gref (a := 48) hE (by kernel_rfl) (by kernel_rfl) ?_; refine EV_str (l := [80, 97, 114, 115, 101, 69, 114, 114, 111, 114]) (by kernel_rfl) ?_; refine SUB_dictT (.inr hTT) (tS (tS (tS (tS (tS (tS (tS tE))))))) ?_; refine EV_str (l := [105, 110, 118, 97, 108, 105, 100, 45, 99, 111, 100, 101, 112, 111, 105, 110, 116]) (by kernel_rfl) ?_; refine ⟨rfl, ?_⟩; refine AR_cons ?_; (refine EV_dict2K ?_; intro D hD); refine EV_sub ?_; refine EV_gref (a := 48) hE (by kernel_rfl) (by kernel_rfl) ?_; refine EV_str (l := [67, 104, 97, 114, 97, 99, 116, 101, 114, 115]) (by kernel_rfl) ?_; refine SUB_dictT (.inr hTT) (tS tE) ?_; refine EV_str (l := [65533]) (by kernel_rfl) ?_; refine ⟨rfl, ?_⟩; refine AR_nil ?_)
      refine ⟨by simp, fun B hB => ?_⟩
      (refine seq_ret ?_; refine seq_ret ?_)
      have hB1 := setM_none hB
      have hB2 := setM_none hB1.1
      rename_i D1 hD1
      have hD3 := setM_none hD
      exact ⟨B, _, rfl, hB2.1, setM_same _ _ _, .cons ⟨D1, rfl, (setM_ne _ _ hB2.2.symm).trans ((setM_ne _ _ hD3.2.symm).trans (setM_same _ _ _))⟩ (.cons ⟨D, rfl, (setM_ne _ _ hB1.2.symm).trans (setM_same _ _ _)⟩ .nil), fun a o e => setM_old hB (setM_old hD (setM_old hD1 e))⟩
    · have h1 : s ≠ [0] := by simpa using hb
      (refine EXn ?_; refine EX_cons ?_; refine E1_Return ?_; refine EV_list ?_; refine AR_cons ?_; (refine EV_dict2K ?_; intro D hD); refine EV_sub ?_; refine EV_gref (a := 48) hE (by kernel_rfl) (by kernel_rfl) ?_; refine EV_str (l := [67, 104, 97, 114, 97, 99, 116, 101, 114, 115]) (by kernel_rfl) ?_; refine SUB_dictT (.inr hTT) (tS tE) ?_; refine EV_local hE (by kernel_rfl) sH ?_; refine ⟨rfl, ?_⟩; refine AR_nil ?_)
      refine ⟨by simp, fun B hB => ?_⟩
      refine seq_ret ?_
      have hB1 := setM_none hB
      unfold sayT
      rw [if_neg h1]
      exact ⟨B, _, rfl, hB1.1, setM_same _ _ _, .cons ⟨D, rfl, (setM_ne _ _ hB1.2.symm).trans (setM_same _ _ _)⟩ .nil, fun a o e => setM_old hB (setM_old hD e)⟩
end
noncomputable def lowS (l : List Nat) : List Nat := (Txt.lower (mkS l)).cps.toList
theorem lowS_eq {l : List Nat} (h : ∀ c ∈ l, c < 128) : lowS l = l.map lowC := by
  unfold lowS
  rw [lower_ascii (by simpa [mkS] using h)]
  simp [mkS]
  exact fun _ _ => rfl
theorem NowR.kp {g : G} {q : Addr} {M m : Mem} {now : Option (Int × List Nat)} {v : Value} (h : NowR g q M now v) (k : ∀ a o, M a = some o → m a = some o) : NowR g q m now v := h.keep (fun _ _ e => k _ _ e) (fun _ _ _ e => k _ _ e)
noncomputable def sgn (W : List Nat) (k : Nat) : List Nat := (W.take (k + 1)).drop k
theorem sgn_some {W : List Nat} {k x : Nat} (h : W[k]? = some x) : sgn W k = [x] := by
  unfold sgn
  have := List.getElem?_eq_some_iff.mp h
  obtain ⟨hl, he⟩ := this
  rw [List.drop_take, List.drop_eq_getElem_cons hl, he]
  simp
theorem sgn_none {W : List Nat} {k : Nat} (h : W[k]? = none) : sgn W k = [] := by
  unfold sgn
  have := List.getElem?_eq_none_iff.mp h
  simp; (first | lia | omega)
end Mine
end
section
open PySem PySem.W PyProof.Rows
set_option maxRecDepth 100000
set_option maxHeartbeats 4000000
set_option linter.unusedVariables false
namespace Mine
noncomputable abbrev Now := Option (Int × List Nat)
noncomputable def TkA (P : Addr → Prop) (M : Mem) : TK → Value → Prop
  | .err s, v => ∃ a, v = .ref a ∧ M a = some (.dct [("type", .int 7 0), ("data", .str (mkS s) 0)])
  | .chars s, v => ∃ a, v = .ref a ∧ M a = some (.dct [("type", .int 1 0), ("data", .str (mkS s) 0)])
  | .tag ty nm, v => ∃ a e, v = .ref a ∧ M a = some (.dct (tagD ty nm e)) ∧ M e = some (.lst []) ∧ P e
noncomputable def NowA (P : Addr → Prop) (M : Mem) : Now → Value → Prop
  | none, v => v = .none
  | some (ty, nm), v => TkA P M (.tag ty nm) v
theorem TkA.keep {P Q : Addr → Prop} {M m : Mem} {t : TK} {v : Value} (h : TkA P M t v) (kd : ∀ a l, M a = some (.dct l) → m a = some (.dct l)) (kl : ∀ a l, P a → M a = some (.lst l) → m a = some (.lst l) ∧ Q a) : TkA Q m t v := by
  cases t with
  | err s => obtain ⟨a, h1, h2⟩ := h; exact ⟨a, h1, kd _ _ h2⟩
  | chars s => obtain ⟨a, h1, h2⟩ := h; exact ⟨a, h1, kd _ _ h2⟩
  | tag ty nm => obtain ⟨a, e, h1, h2, h3, h4⟩ := h; exact ⟨a, e, h1, kd _ _ h2, (kl _ _ h4 h3).1, (kl _ _ h4 h3).2⟩
theorem NowA.keep {P Q : Addr → Prop} {M m : Mem} {now : Now} {v : Value} (h : NowA P M now v) (kd : ∀ a l, M a = some (.dct l) → m a = some (.dct l)) (kl : ∀ a l, P a → M a = some (.lst l) → m a = some (.lst l) ∧ Q a) : NowA Q m now v := by
  cases now with
  | none => exact h
  | some p => obtain ⟨ty, nm⟩ := p; exact TkA.keep (t := .tag ty nm) h kd kl
theorem TkA.kp {P : Addr → Prop} {M m : Mem} {t : TK} {v : Value} (h : TkA P M t v) (k : ∀ a o, M a = some o → m a = some o) : TkA P m t v := h.keep (fun _ _ e => k _ _ e) (fun _ _ p e => ⟨k _ _ e, p⟩)
theorem NowA.kp {P : Addr → Prop} {M m : Mem} {now : Now} {v : Value} (h : NowA P M now v) (k : ∀ a o, M a = some o → m a = some o) : NowA P m now v := h.keep (fun _ _ e => k _ _ e) (fun _ _ p e => ⟨k _ _ e, p⟩)
theorem say_A {P : Addr → Prop} {M : Mem} {s : List Nat} {vs : List Value} (h : All2 (TkL M) (sayT s) vs) : All2 (TkA P M) (sayT s) vs := by
  unfold sayT at h ⊢
  by_cases h1 : s = [0]
  · rw [if_pos h1] at h ⊢
    cases h with | cons h1 h2 => cases h2 with | cons h3 h4 => cases h4; exact .cons h1 (.cons h3 .nil)
  · rw [if_neg h1] at h ⊢
    cases h with | cons h1 h2 => cases h2; exact .cons h1 .nil
structure En where
  st : Nat
  r : Res
noncomputable def EnA (P : Addr → Prop) (M : Mem) (e : En) (v : Value) : Prop := ∃ a B vs nv, v = .ref a ∧ M a = some (.tup [.int e.st 0, .ref B, .int e.r.k 0, .str (mkS e.r.kept) 0, nv, .bool e.r.stays]) ∧ M B = some (.lst vs) ∧ P B ∧ All2 (TkA P M) e.r.toks vs ∧ NowA P M e.r.now nv
theorem EnA.keep {P Q : Addr → Prop} {M m : Mem} {e : En} {v : Value} (h : EnA P M e v) (kd : ∀ a l, M a = some (.dct l) → m a = some (.dct l)) (kt : ∀ a l, M a = some (.tup l) → m a = some (.tup l)) (kl : ∀ a l, P a → M a = some (.lst l) → m a = some (.lst l) ∧ Q a) : EnA Q m e v := by
  obtain ⟨a, B, vs, nv, h1, h2, h3, h4, h5, h6⟩ := h
  exact ⟨a, B, vs, nv, h1, kt _ _ h2, (kl _ _ h4 h3).1, (kl _ _ h4 h3).2, h5.mono fun _ _ t => t.keep kd kl, h6.keep kd kl⟩
section
variable (W : List Nat) (R : Nat → Nat → List Nat → Now → Res) (fin : Nat → Prop)
noncomputable def Ch : Nat → List Nat → Now → List En → Prop
  | k, _, _, [] => fin k
  | k, kept, now, e :: es => e.st < 7 ∧ (e.st = 6 ∨ e.st = 0 → k < W.length) ∧ e.r = R e.st k kept now ∧ Ch e.r.k e.r.kept e.r.now es
structure PSt (M0 m : Mem) (P : Addr → Prop) (Pl : Addr) (k0 : Nat) (now0 : Now) (n k : Nat) (kept : List Nat) (now : Now) (nv : Value) : Prop where
  h : ∃ es evs, m Pl = some (.lst evs) ∧ All2 (EnA P m) es evs ∧ (∀ tail, Ch W R fin k kept now tail → Ch W R fin k0 [] now0 (es ++ tail)) ∧ es.length ≤ n
  nw : NowA P m now nv
  kp : ∀ a o, M0 a = some o → m a = some o
variable {W R fin}
variable {M0 m m1 : Mem} {P : Addr → Prop} {Pl : Addr} {k0 : Nat} {now0 : Now} {n k : Nat} {kept : List Nat} {now : Now} {nv : Value}
theorem PSt.ext (h : PSt W R fin M0 m P Pl k0 now0 n k kept now nv) (k1 : ∀ a o, m a = some o → m1 a = some o) : PSt W R fin M0 m1 P Pl k0 now0 n k kept now nv := by
  obtain ⟨es, evs, h1, h2, h3, h4⟩ := h.h
  exact ⟨⟨es, evs, k1 _ _ h1, h2.mono fun _ _ t => t.keep (fun _ _ e => k1 _ _ e) (fun _ _ e => k1 _ _ e) (fun _ _ p e => ⟨k1 _ _ e, p⟩), h3, h4⟩, h.nw.kp k1, fun a o e => k1 _ _ (h.kp _ _ e)⟩
theorem PSt.le (h : PSt W R fin M0 m P Pl k0 now0 n k kept now nv) {n' : Nat} (hn : n ≤ n') : PSt W R fin M0 m P Pl k0 now0 n' k kept now nv := by
  obtain ⟨es, evs, h1, h2, h3, h4⟩ := h.h
  exact ⟨⟨es, evs, h1, h2, h3, by (first | lia | omega)⟩, h.nw, h.kp⟩
theorem PSt.app (h : PSt W R fin M0 m P Pl k0 now0 n k kept now nv) (hM0 : M0 Pl = none) (hPl : ∀ a, P a → a ≠ Pl) (st : Nat) {r : Res} (hr : R st k kept now = r) (k1 : ∀ a o, m a = some o → m1 a = some o) {B : Addr} {vs : List Value} (hB : m1 B = some (.lst vs)) (PB : P B)
    (tk : All2 (TkA P m1) r.toks vs) {nv1 : Value} (nw1 : NowA P m1 r.now nv1) {D : Addr} (hD : m1 D = none) {evs : List Value} (he : m1 Pl = some (.lst evs)) (hst : st < 7 := by (first | lia | omega)) (h6 : st = 6 ∨ st = 0 → k < W.length := by (first | lia | omega)) :
    PSt W R fin M0 (setM (setM m1 D (.tup [.int st 0, .ref B, .int r.k 0, .str (mkS r.kept) 0, nv1, .bool r.stays])) Pl (.lst (evs ++ [.ref D]))) P Pl k0 now0 (n + 1) r.k r.kept r.now nv1 := by
  obtain ⟨es, evs', h1, h2, h3, h4⟩ := h.h
  have e1 : evs' = evs := by have := k1 _ _ h1; rw [he] at this; cases this; rfl
  subst e1
  have kk : ∀ a o, a ≠ Pl → m1 a = some o → setM (setM m1 D (.tup [.int st 0, .ref B, .int r.k 0, .str (mkS r.kept) 0, nv1, .bool r.stays])) Pl (.lst (evs' ++ [.ref D])) a = some o := fun a o i e => (setM_ne _ _ i).trans (setM_old hD e)
  have kd : ∀ a l, m1 a = some (.dct l) → setM (setM m1 D (.tup [.int st 0, .ref B, .int r.k 0, .str (mkS r.kept) 0, nv1, .bool r.stays])) Pl (.lst (evs' ++ [.ref D])) a = some (.dct l) := fun a l e => kk a _ (fun z => by rw [z, he] at e; cases e) e
  have kt : ∀ a l, m1 a = some (.tup l) → setM (setM m1 D (.tup [.int st 0, .ref B, .int r.k 0, .str (mkS r.kept) 0, nv1, .bool r.stays])) Pl (.lst (evs' ++ [.ref D])) a = some (.tup l) := fun a l e => kk a _ (fun z => by rw [z, he] at e; cases e) e
  have kl : ∀ a l, P a → m1 a = some (.lst l) → setM (setM m1 D (.tup [.int st 0, .ref B, .int r.k 0, .str (mkS r.kept) 0, nv1, .bool r.stays])) Pl (.lst (evs' ++ [.ref D])) a = some (.lst l) ∧ P a := fun a l p e => ⟨kk a _ (hPl a p) e, p⟩
  have hDP : D ≠ Pl := fun z => by rw [z, he] at hD; cases hD
  refine ⟨⟨es ++ [⟨st, r⟩], evs' ++ [.ref D], setM_same _ _ _, ?_, ?_, by simp; (first | lia | omega)⟩, nw1.keep kd kl, ?_⟩
  · refine All2.snoc ?_ (h2.mono fun _ _ t => (t.keep (fun _ _ e => k1 _ _ e) (fun _ _ e => k1 _ _ e) (fun _ _ p e => ⟨k1 _ _ e, p⟩) : EnA P m1 _ _).keep kd kt kl)
    exact ⟨D, B, vs, nv1, rfl, (setM_ne _ _ hDP).trans (setM_same _ _ _), (kl _ _ PB hB).1, PB, tk.mono fun _ _ t => t.keep kd kl, nw1.keep kd kl⟩
  · intro tail ht
    rw [List.append_assoc]
    exact h3 _ ⟨hst, h6, hr.symm, ht⟩
  · intro a o e
    have e2 := k1 _ _ (h.kp _ _ e)
    exact kk a o (fun z => by rw [z, hM0] at e; cases e) e2
end
noncomputable def rr3 (g : G) (st : Nat) (k : Nat) (kept : List Nat) (now : Now) : Res := match st with
  | 0 => ra0 g (WT' g) k kept now | 1 => ra1 (WT' g) k kept now | 2 => ra2 (WT' g) k kept now | 3 => r7 (WT' g) k kept now | 4 => r0 (WT' g) k kept now | 5 => r1 (WT' g) k kept now | _ => ⟨[], k + 1, kept, now, true⟩
end Mine
end
section
open PySem PySem.W PyProof.Rows
set_option maxRecDepth 100000
set_option maxHeartbeats 4000000
set_option linter.unusedVariables false
namespace Mine
section
variable {Z : Cz} {P : Params}
theorem pappg (hP : P = Z.cx.w.params) {n : Nat} {M : Mem} {g : G} {Pd : Addr → Prop} {Pl : Addr} (hPl : M Pl = none) (hPP : ∀ a, Pd a → a ≠ Pl) (hPf : ∀ e, M e = none → e ≠ Pl → Pd e)
    {fz : Frz} {L : Addr} {env : Env} {l : Loc} {m : Mem} {k0 : Nat} {now0 now : Now} {nv nv1 : Value} {N k st : Nat} {kept : List Nat} {r : Res} (hE : Fun env L) (hN : N ≤ 1000) (S : PSt (WT' g) (rr3 g) (fun k => k = (WT' g).length) M m Pd Pl k0 now0 N k kept now nv) (hx : env.kindOf "plan" = some .local) (l2 : l "plan" = some (.ref Pl))
    (hr : rr3 g st k kept now = r) {e e1 e2 e3 e4 e5 e6 : Expr} (h1 : Atm Z.cx (n + 3) fz L env l e1 (.int st 0)) (h3 : Atm Z.cx (n + 3) fz L env l e3 (.int r.k 0)) (h4 : Atm Z.cx (n + 3) fz L env l e4 (.str (mkS r.kept) 0)) (h5 : Atm Z.cx (n + 3) fz L env l e5 nv1) (h6 : Atm Z.cx (n + 3) fz L env l e6 (.bool r.stays)) (hnw : NowA Pd m r.now nv1)
    {Q : QF} {rest : List Stmt} {p p2 p3 p10 p11 : Pos} {kk : Nat} {pl : Sem Bool} (hev : ∀ (Q : QV) (M : Mem), EV Z.cx (n + 3) fz L env (.Tuple [e1, e2, e3, e4, e5, e6] kk p3) Q l M → EV Z.cx (n + 3) fz L env e Q l M)
    (h2 : EV Z.cx (n + 3) fz L env e2 (fun v l' m5 => l' = l ∧ ∃ B vs, v = .ref B ∧ m B = none ∧ m5 B = some (.lst vs) ∧ All2 (TkA Pd m5) r.toks vs ∧ ∀ a o, m a = some o → m5 a = some o) l m)
    (h : ∀ m', PSt (WT' g) (rr3 g) (fun k => k = (WT' g).length) M m' Pd Pl k0 now0 (N + 1) r.k r.kept r.now nv1 → EX Z.cx (n + 3) fz L env rest Q l m')
    (he : eval (.Call (.Attribute (.Name "plan" p) "append" p2) [e] [] p10) env = (do
      let ov ← eval (.Name "plan" p) env
      standAt p2.atName
      let (f, first) ← holding [ov] (getMethod ov "append" pl)
      callWith p10 f first (backTo p10 (starEach [e] env)) []) := by rfl)
    (hst : [e1, e2, e3, e4, e5, e6].any isStarred = false := by rfl) (hse : [e].any isStarred = false := by rfl)
    (hsw : swapsWith (.Call (.Attribute (.Name "plan" p) "append" p2) [e] [] p10) none p11.line env = pure false := by rfl)
    (hst7 : st < 7 := by (first | lia | omega)) (hs6 : st = 6 ∨ st = 0 → k < (WT' g).length := by (first | lia | omega)) :
    EX Z.cx (n + 3) fz L env (.Expr (.Call (.Attribute (.Name "plan" p) "append" p2) [e] [] p10) p11 :: rest) Q l m := by
  (refine dn fun hG0 => ?_; obtain ⟨es, evs, hPlm, hall, hch, hlen⟩ := id S.h; refine hG0 ?_; clear hG0)
  have hel : evs.length ≤ 1000 := by have := hall.len; (first | lia | omega)
  refine PAPP (R := fun v m5 => ∃ B vs, v = .ref B ∧ m B = none ∧ m5 B = some (.lst vs) ∧ All2 (TkA Pd m5) r.toks vs ∧ ∀ a o, m a = some o → m5 a = some o) hE hx l2 hPlm hev h1 (.cons h3 (.cons h4 (.cons h5 (.cons h6 .nil)))) h2 ?_ (by (first | lia | omega)) (by simp) ?_ he (by decide) hst hse hsw
  · (intro v m5 hq0; refine dn fun hG0 => ?_; rcases hq0 with ⟨B, vs, rfl, hB, mB, hall5, kp5⟩ <;> refine hG0 ?_ <;> clear hG0)
    exact kp5 _ _ hPlm
  · rintro v m5 D ⟨B, vs, rfl, hB, mB, hall5, kp5⟩ hD
    have PB : Pd B := hPf B (by cases q : M B with
          | none => rfl
          | some o => have := S.kp _ _ q; rw [hB] at this; cases this) (fun z => by rw [← z, hB] at hPlm; cases hPlm)
    exact h _ (S.app hPl hPP st hr kp5 mB PB hall5 (hnw.kp kp5) hD (kp5 _ _ hPlm) hst7 hs6)
theorem papp (hP : P = Z.cx.w.params) {n : Nat} {M : Mem} {g : G} {Pd : Addr → Prop} {Pl : Addr} (hPl : M Pl = none) (hPP : ∀ a, Pd a → a ≠ Pl) (hPf : ∀ e, M e = none → e ≠ Pl → Pd e)
    {fz : Frz} {L : Addr} {env : Env} {l : Loc} {m : Mem} {k0 : Nat} {now0 now : Now} {nv nv1 : Value} {N k st : Nat} {kept : List Nat} {r : Res} (hE : Fun env L) (hN : N ≤ 1000) (S : PSt (WT' g) (rr3 g) (fun k => k = (WT' g).length) M m Pd Pl k0 now0 N k kept now nv) (hx : env.kindOf "plan" = some .local) (l2 : l "plan" = some (.ref Pl))
    (hr : rr3 g st k kept now = r) {e1 e2 e3 e4 e5 e6 : Expr} (h1 : Atm Z.cx (n + 3) fz L env l e1 (.int st 0)) (h3 : Atm Z.cx (n + 3) fz L env l e3 (.int r.k 0)) (h4 : Atm Z.cx (n + 3) fz L env l e4 (.str (mkS r.kept) 0)) (h5 : Atm Z.cx (n + 3) fz L env l e5 nv1) (h6 : Atm Z.cx (n + 3) fz L env l e6 (.bool r.stays)) (hnw : NowA Pd m r.now nv1)
    {Q : QF} {rest : List Stmt} {p p2 p3 p10 p11 : Pos} {kk : Nat} {pl : Sem Bool} 
    (h2 : EV Z.cx (n + 3) fz L env e2 (fun v l' m5 => l' = l ∧ ∃ B vs, v = .ref B ∧ m B = none ∧ m5 B = some (.lst vs) ∧ All2 (TkA Pd m5) r.toks vs ∧ ∀ a o, m a = some o → m5 a = some o) l m)
    (h : ∀ m', PSt (WT' g) (rr3 g) (fun k => k = (WT' g).length) M m' Pd Pl k0 now0 (N + 1) r.k r.kept r.now nv1 → EX Z.cx (n + 3) fz L env rest Q l m')
    (he : eval (.Call (.Attribute (.Name "plan" p) "append" p2) [(.Tuple [e1, e2, e3, e4, e5, e6] kk p3)] [] p10) env = (do
      let ov ← eval (.Name "plan" p) env
      standAt p2.atName
      let (f, first) ← holding [ov] (getMethod ov "append" pl)
      callWith p10 f first (backTo p10 (starEach [(.Tuple [e1, e2, e3, e4, e5, e6] kk p3)] env)) []) := by rfl)
    (hst : [e1, e2, e3, e4, e5, e6].any isStarred = false := by rfl)
    (hsw : swapsWith (.Call (.Attribute (.Name "plan" p) "append" p2) [(.Tuple [e1, e2, e3, e4, e5, e6] kk p3)] [] p10) none p11.line env = pure false := by rfl)
    (hst7 : st < 7 := by (first | lia | omega)) (hs6 : st = 6 ∨ st = 0 → k < (WT' g).length := by (first | lia | omega)) :
    EX Z.cx (n + 3) fz L env (.Expr (.Call (.Attribute (.Name "plan" p) "append" p2) [(.Tuple [e1, e2, e3, e4, e5, e6] kk p3)] [] p10) p11 :: rest) Q l m :=
  pappg hP hPl hPP hPf hE hN S hx l2 hr h1 h3 h4 h5 h6 hnw (fun _ _ h => h) h2 h he hst rfl hsw hst7 hs6
theorem pnil {n : Nat} {m : Mem} {fz : Frz} {L : Addr} {env : Env} {l : Loc} {p : Pos} {Pd : Addr → Prop} {ts : List TK} (ht : ts = []) : EV Z.cx (n + 3) fz L env (.List [] p) (fun v l' m5 => l' = l ∧ ∃ B vs, v = .ref B ∧ m B = none ∧ m5 B = some (.lst vs) ∧ All2 (TkA Pd m5) ts vs ∧ ∀ a o, m a = some o → m5 a = some o) l m := by
  subst ht
  (refine EV_list ?_; refine AR_nil ?_)
  refine ⟨by simp, fun B hB => ?_⟩
  exact ⟨rfl, B, [], rfl, hB, setM_same _ _ _, .nil, fun a o e => setM_old hB e⟩
theorem psay (hP : P = Z.cx.w.params) {n : Nat} {m : Mem} {fz : Frz} {L : Addr} {env : Env} {l : Loc} {p q : Pos} {Pd : Addr → Prop} {ts : List TK} {a : Expr} {s : List Nat} (hE : Fun env L) (hx : env.kindOf "_law_say" = some .globalImplicit) (ht : ts = sayT s) (ha : Atm Z.cx (n + 3) fz L env l a (.str (mkS s) 0)) (hst : [a].any isStarred = false := by rfl) :
    EV Z.cx (n + 3) fz L env (.Call (.Name "_law_say" q) [a] [] p) (fun v l' m5 => l' = l ∧ ∃ B vs, v = .ref B ∧ m B = none ∧ m5 B = some (.lst vs) ∧ All2 (TkA Pd m5) ts vs ∧ ∀ a o, m a = some o → m5 a = some o) l m := by
  subst ht
  refine EV_ncall ?_
  refine EV_gref (a := 802) hE hx (by kernel_rfl) ?_
  refine CW_go0 (KeepOk.rf (by kernel_rfl)) (AR_cons (ha _ _ (AR_nil ?_))) hst
  refine CA_CL ((c_say hP (n := n)).mono ?_) (by (first | lia | omega))
  (intro v m5 hq0; refine dn fun hG0 => ?_; rcases hq0 with ⟨B, vs, rfl, hB, mB, hall5, kp5⟩ <;> refine hG0 ?_ <;> clear hG0)
  exact ⟨rfl, B, vs, rfl, hB, mB, say_A hall5, kp5⟩
end
end Mine
end
section
open PySem PySem.W PyProof.Rows
set_option maxRecDepth 100000
set_option maxHeartbeats 8000000
set_option linter.unusedVariables false
namespace Mine
noncomputable def bodyAt (K : Frag) (a : Addr) : List Stmt := match K.lookup a with
  | some ⟨_, _, .func { body := .stmts b, .. }, _⟩ => b
  | _ => []
noncomputable def scopeAt (K : Frag) (a : Addr) : Scope := match K.lookup a with
  | some ⟨_, _, .func f, _⟩ => f.scope
  | _ => default
noncomputable def forBody : List Stmt → List Stmt
  | .For _ _ b _ _ :: _ => b
  | _ => []
noncomputable def whileBody : List Stmt → List Stmt
  | .While _ b _ _ :: _ => b
  | _ => []
noncomputable def ifThen : List Stmt → List Stmt
  | .If _ b _ _ :: _ => b
  | _ => []
noncomputable def ifElse : List Stmt → List Stmt
  | .If _ _ b _ :: _ => b
  | _ => []
noncomputable abbrev PS3 (g : G) (M m : Mem) (P : Addr → Prop) (Pl : Addr) (now0 : Now) (n k : Nat) (kept : List Nat) (now : Now) (nv : Value) : Prop := PSt (WT' g) (rr3 g) (fun k => k = (WT' g).length) M m P Pl 0 now0 n k kept now nv
noncomputable def PI (g : G) (M : Mem) (P : Addr → Prop) (Pl : Addr) (now0 : Now) (k : Nat) (l : Loc) (m : Mem) : Prop :=
  ∃ kept now nv, l "text" = some (.str (mkS (WT' g)) 0) ∧ l "plan" = some (.ref Pl) ∧ l "place" = some (.int (k : Nat) 0) ∧ l "kept" = some (.str (mkS kept) 0) ∧ l "now" = some nv ∧ k ≤ (WT' g).length ∧
    (∀ ty nm, now = some (ty, nm) → nm.length ≤ 300) ∧ PS3 g M m P Pl now0 (4 * k) k kept now nv
noncomputable abbrev PQ (g : G) (M : Mem) (Pd : Addr → Prop) (Pl : Addr) (now0 : Now) (k : Nat) : QF := fun f l' m' => (f = .next ∨ f = .cont) ∧ ∃ k', k < k' ∧ PI g M Pd Pl now0 k' l' m'
theorem E1_IfT {X : Cx} {n : Nat} {fz : Frz} {L : Addr} {env : Env} {loc : Loc} {M : Mem} {Q : QF} {test : Expr} {body orelse : List Stmt} {pos : Pos} (t : Bool) (R : Mem → Prop) (h1 : TV X n fz L env test (fun b l m => b = t ∧ l = loc ∧ R m) loc M)
    (h2 : t = true → ∀ m, R m → EX X n fz L env body Q loc m) (h3 : t = false → ∀ m, R m → EX X n fz L env orelse Q loc m) : E1 X n fz L env (.If test body orelse pos) Q loc M :=
  E1_If fun whole e => WT.mono (h1 whole e) fun b l m ⟨hb, hl, hr⟩ => by subst hb hl; exact ⟨fun z => h2 z m hr, fun z => h3 z m hr⟩
theorem TV_T {X : Cx} {n : Nat} {fz : Frz} {L : Addr} {env : Env} {loc : Loc} {M : Mem} {Q : QB} {test : Expr} (t : Bool) (R : Mem → Prop) (h1 : TV X n fz L env test (fun b l m => b = t ∧ l = loc ∧ R m) loc M) (h2 : ∀ m, R m → Q t loc m) : TV X n fz L env test Q loc M :=
  fun whole e => WT.mono (h1 whole e) fun b l m ⟨hb, hl, hr⟩ => by subst hb hl; exact h2 m hr
section
variable {Z : Cz} {P : Params}
theorem plan_bang (hP : P = Z.cx.w.params) {n : Nat} {M : Mem} {g : G} {now0 : Now} (hgl : (WT' g).length ≤ 200) {Pd : Addr → Prop} {Pl : Addr} (hPl : M Pl = none) (hPP : ∀ a, Pd a → a ≠ Pl) (hPf : ∀ e, M e = none → e ≠ Pl → Pd e)
    {fz : Frz} {L : Addr} {env : Env} (hE : Fun env L) (hsc : env.scope = scopeAt (KP P) 809) {k : Nat} {kept : List Nat} {now : Now} {nv : Value} {l : Loc} {m : Mem}
    (hx1 : (WT' g)[k + 1]? = some 33) (hnb : ∀ ty nm, now = some (ty, nm) → nm.length ≤ 300) (S : PS3 g M m Pd Pl now0 (4 * k + 1) (k + 1) kept now nv)
    (l1 : l "text" = some (.str (mkS (WT' g)) 0)) (l2 : l "plan" = some (.ref Pl)) (l3 : l "place" = some (.int (k + 1 : Nat) 0)) (l4 : l "kept" = some (.str (mkS kept) 0)) (l5 : l "now" = some nv) (l6 : l "start" = some (.int (k : Nat) 0)) :
    EX Z.cx (n + 3) fz L env (ifThen ((whileBody ((bodyAt (KP P) 809).drop 3)).drop 5)) (PQ g M Pd Pl now0 k) l m := by
  conv => arg 6; whnf
  (cases env; dsimp only at hsc; subst hsc)
  refine EX_gen fun Qg1 hQ1 => ?_
  have hlt : k + 1 < (WT' g).length := (List.getElem?_eq_some_iff.mp hx1).1
  have ep : ((k + 1 : Nat) : Int) + 1 = ((k + 2 : Nat) : Int) := by (first | lia | omega)
  (refine EX_cons ?_; refine E1_AugLocal hE (by kernel_rfl) l3 ?_; refine EV_int ?_; (with_reducible refine O2_iadd_int ?_); refine STn hE (by kernel_rfl) ?_)
  rw [ep]
  refine papp hP hPl hPP hPf hE (by (first | lia | omega)) S ((by kernel_rfl)) (by exact (sS l2)) (st := 1) (r := ⟨sayT [60, 33], k + 2, kept, now, false⟩) (by simp [rr3, ra1, hx1, sayT]) .int (.nm hE ((by kernel_rfl)) (by exact sH)) (.nm hE ((by kernel_rfl)) (by exact (sS l4))) (.nm hE ((by kernel_rfl)) (by exact (sS l5))) .bool S.nw (psay (s := [60, 33]) hP hE ((by kernel_rfl)) rfl (.str (l := [60, 33]) (by kernel_rfl))) ?_
  intro m1 S1
  (refine EX_cons ?_; refine E1_AssignName ?_ rfl; refine EV_int ?_; refine STn hE (by kernel_rfl) ?_)
  refine EX_cut (R := fun l2 m2 => ∃ d : Nat, d ≤ 2 ∧ l2 "state" = some (.int ((4 + d : Nat) : Int) 0) ∧ l2 "text" = some (.str (mkS (WT' g)) 0) ∧ l2 "plan" = some (.ref Pl) ∧ l2 "place" = some (.int (k + 2 + d : Nat) 0) ∧ l2 "kept" = some (.str (mkS kept) 0) ∧ l2 "now" = some nv ∧ l2 "start" = some (.int (k : Nat) 0) ∧ k + 2 + d ≤ (WT' g).length ∧ (d < 2 → ∀ x, (WT' g)[k + 2 + d]? = some x → x ≠ 45) ∧ PS3 g M m2 Pd Pl now0 (4 * k + 2 + d) (k + 2 + d) kept now nv) ?_ ?_
  · refine E1_gen fun Qg2 hQ2 => ?_
    refine E1_WhileG (I := fun kk l2 m2 => ∃ d : Nat, kk = 2 - d ∧ d ≤ 2 ∧ l2 "state" = some (.int ((4 + d : Nat) : Int) 0) ∧ l2 "text" = some (.str (mkS (WT' g)) 0) ∧ l2 "plan" = some (.ref Pl) ∧ l2 "place" = some (.int (k + 2 + d : Nat) 0) ∧ l2 "kept" = some (.str (mkS kept) 0) ∧ l2 "now" = some nv ∧ l2 "start" = some (.int (k : Nat) 0) ∧ k + 2 + d ≤ (WT' g).length ∧ PS3 g M m2 Pd Pl now0 (4 * k + 2 + d) (k + 2 + d) kept now nv) _
      ⟨0, rfl, by (first | lia | omega), setL_self _ _ _, by exact (sS (sS l1)), by exact (sS (sS l2)), by exact (sS sH), by exact (sS (sS l4)), by exact (sS (sS l5)), by exact (sS (sS l6)), by (first | lia | omega), S1⟩ ?_
    rintro kk l2 m2 ⟨d, rfl, hd, w0, w1, w2, w3, w4, w5, w6, hdl, S2⟩ Rw3 hRw3
    have ep2 : ((k + 2 + d : Nat) : Int) + 1 = ((k + 2 + (d + 1) : Nat) : Int) := by (first | lia | omega)
    have es2 : ((4 + d : Nat) : Int) + 1 = ((4 + (d + 1) : Nat) : Int) := by (first | lia | omega)
    have esg : pySl (WT' g) (some ((k + 2 + d : Nat) : Int)) (some (((k + 2 + d : Nat) : Int) + 1)) = sgn (WT' g) (k + 2 + d) := by
      rw [show ((k + 2 + d : Nat) : Int) + 1 = ((k + 2 + d + 1 : Nat) : Int) by (first | lia | omega), pySl_nat]; rfl
    refine TV_T (decide (d < 2) && decide (sgn (WT' g) (k + 2 + d) = [45])) (fun m => m = m2) ?_ ?_
    · refine TV_boolop ?_
      (refine TAll_and ?_; refine TV_compare ?_; refine EV_local hE (by kernel_rfl) w0 ?_; refine EV_int ?_; (with_reducible refine O2_lt_int ?_); (with_reducible refine TR_bool ?_))
      (refine And.intro ?_ ?_ <;> intro hb <;> try (cases hb; done))
      · have h : d < 2 := by
          have : ((4 + d : Nat) : Int) < 6 := by simpa using hb
          (first | lia | omega)
        (refine TAll_and ?_; refine TV_compare ?_; refine EV_slice_str ?_; refine EV_local hE (by kernel_rfl) w1 ?_; (with_reducible first | refine exr ?_ | refine ⟨_, rfl, ?_⟩))
        (first | refine hQ2 _ _ _ ⟨by (first | lia | omega), ?_⟩ | refine ⟨by (first | lia | omega), hQ2 _ _ _ ⟨?_⟩⟩ | refine ⟨by (first | lia | omega), ?_⟩)
        (refine PT_some ?_; refine EV_local hE (by kernel_rfl) w3 ?_; (with_reducible first | refine exr ?_ | refine ⟨_, rfl, ?_⟩); refine PT_some ?_; refine EV_binop ?_; refine EV_local hE (by kernel_rfl) w3 ?_; refine EV_int ?_; (with_reducible refine O2_add_int ?_); (with_reducible first | refine exr ?_ | refine ⟨_, rfl, ?_⟩); refine EV_str (l := [45]) (by kernel_rfl) ?_; (with_reducible refine O2_eq_str ?_); (with_reducible refine TR_bool ?_))
        rw [esg]
        (refine And.intro ?_ ?_ <;> intro hb <;> try (cases hb; done))
        · refine TAll_and_nil ?_
          (first | exact hQ2 _ _ _ ⟨by simp at hb; simp [h, hb], rfl, rfl⟩ | exact ⟨by simp at hb; simp [h, hb], hQ2 _ _ _ ⟨rfl, rfl⟩⟩ | exact ⟨by simp at hb; simp [h, hb], rfl, rfl⟩)
        · skip
          (first | exact hQ2 _ _ _ ⟨by simp at hb; simp [hb], rfl, rfl⟩ | exact ⟨by simp at hb; simp [hb], hQ2 _ _ _ ⟨rfl, rfl⟩⟩ | exact ⟨by simp at hb; simp [hb], rfl, rfl⟩)
      · have h : ¬ d < 2 := by
          have : ¬ ((4 + d : Nat) : Int) < 6 := by simpa using hb
          (first | lia | omega)
        skip
        (first | exact hQ2 _ _ _ ⟨by simp [h], rfl, rfl⟩ | exact ⟨by simp [h], hQ2 _ _ _ ⟨rfl, rfl⟩⟩ | exact ⟨by simp [h], rfl, rfl⟩)
    rintro m3 rfl
    (first | refine hQ2 _ _ _ ⟨fun ht => ?_, fun ht => ?_⟩ | refine ⟨fun ht => ?_, hQ2 _ _ _ ⟨fun ht => ?_⟩⟩ | refine ⟨fun ht => ?_, fun ht => ?_⟩)
    · simp only [Bool.and_eq_true, decide_eq_true_eq] at ht
      (refine dn fun hG0 => ?_; obtain ⟨hd2, hs⟩ := ht; refine hG0 ?_; clear hG0)
      have hx : (WT' g)[k + 2 + d]? = some 45 := by
        cases hy : (WT' g)[k + 2 + d]? with
        | none => rw [sgn_none hy] at hs; cases hs
        | some y => rw [sgn_some hy] at hs; cases hs; rfl
      have hlt2 : k + 2 + d < (WT' g).length := (List.getElem?_eq_some_iff.mp hx).1
      (refine EX_cons ?_; refine E1_AugLocal hE (by kernel_rfl) w3 ?_; refine EV_int ?_; (with_reducible refine O2_iadd_int ?_); refine STn hE (by kernel_rfl) ?_)
      rw [ep2]
      refine papp hP hPl hPP hPf hE (by (first | lia | omega)) S2 ((by kernel_rfl)) (by exact (sS w2)) (st := 4 + d) (r := ⟨sayT [45], k + 2 + (d + 1), kept, now, false⟩) ?_ (.nm hE ((by kernel_rfl)) (by exact (sS w0))) (.nm hE ((by kernel_rfl)) (by exact sH)) (.nm hE ((by kernel_rfl)) (by exact (sS w4))) (.nm hE ((by kernel_rfl)) (by exact (sS w5))) .bool S2.nw (psay (s := [45]) hP hE ((by kernel_rfl)) rfl (.str (l := [45]) (by kernel_rfl))) ?_
      · have h3 : d = 0 ∨ d = 1 := by (first | lia | omega)
        rcases h3 with rfl | rfl
        · simp only [rr3, r0, hx]; simp [sayT]
        · simp only [rr3, r1, hx]; simp [sayT]
      intro m4 S4
      (refine EX_cons ?_; refine E1_AugLocal hE (by kernel_rfl) (sS w0) ?_; refine EV_int ?_; (with_reducible refine O2_iadd_int ?_); refine STn hE (by kernel_rfl) ?_)
      rw [es2]
      refine EX_nil ?_
      (first | exact hRw3 (2 - (d + 1)) _ _ (by (first | lia | omega)) ⟨d + 1, rfl, by (first | lia | omega), setL_self _ _ _, by exact (sS (sS w1)), by exact (sS (sS w2)), by exact (sS sH), by exact (sS (sS w4)), by exact (sS (sS w5)), by exact (sS (sS w6)), by (first | lia | omega), S4⟩ | exact hQ2 _ _ _ ⟨2 - (d + 1), by (first | lia | omega), d + 1, rfl, by (first | lia | omega), setL_self _ _ _, by exact (sS (sS w1)), by exact (sS (sS w2)), by exact (sS sH), by exact (sS (sS w4)), by exact (sS (sS w5)), by exact (sS (sS w6)), by (first | lia | omega), S4⟩ | exact ⟨2 - (d + 1), hQ2 _ _ _ ⟨by (first | lia | omega), d + 1, rfl, by (first | lia | omega), setL_self _ _ _, by exact (sS (sS w1)), by exact (sS (sS w2)), by exact (sS sH), by exact (sS (sS w4)), by exact (sS (sS w5)), by exact (sS (sS w6)), by (first | lia | omega), S4⟩⟩ | exact ⟨2 - (d + 1), by (first | lia | omega), d + 1, rfl, by (first | lia | omega), setL_self _ _ _, by exact (sS (sS w1)), by exact (sS (sS w2)), by exact (sS sH), by exact (sS (sS w4)), by exact (sS (sS w5)), by exact (sS (sS w6)), by (first | lia | omega), S4⟩)
    · have hno : d < 2 → ∀ x, (WT' g)[k + 2 + d]? = some x → x ≠ 45 := fun h x hx hx45 => by
        rw [sgn_some hx, hx45] at ht
        simp [h] at ht
      (first | exact hQ2 _ _ _ ⟨rfl, d, hd, w0, w1, w2, w3, w4, w5, w6, hdl, hno, S2⟩ | exact ⟨rfl, hQ2 _ _ _ ⟨d, hd, w0, w1, w2, w3, w4, w5, w6, hdl, hno, S2⟩⟩ | exact ⟨rfl, d, hd, w0, w1, w2, w3, w4, w5, w6, hdl, hno, S2⟩)
  (intro l2 m2 hq0; refine dn fun hG0 => ?_; rcases hq0 with ⟨d, hd, w0, w1, w2, w3, w4, w5, w6, hdl, hno, S2⟩ <;> refine hG0 ?_ <;> clear hG0)
  by_cases h2 : d < 2
  · refine EX_cons (E1_IfT true (fun m => m = m2) ?_ ?_ (fun h => by cases h))
    · (refine TV_compare ?_; refine EV_local hE (by kernel_rfl) w0 ?_; refine EV_int ?_; (with_reducible refine O2_lt_int ?_); (with_reducible refine TR_bool ?_))
      (first | exact hQ1 _ _ _ ⟨by simp; (first | lia | omega), rfl, rfl⟩ | exact ⟨by simp; (first | lia | omega), hQ1 _ _ _ ⟨rfl, rfl⟩⟩ | exact ⟨by simp; (first | lia | omega), rfl, rfl⟩)
    rintro - m3 rfl
    refine papp hP hPl hPP hPf hE (by (first | lia | omega)) S2 ((by kernel_rfl)) (by exact w2) (st := 4 + d) (r := ⟨[], k + 2 + d, kept, now, false⟩) ?_ (.nm hE ((by kernel_rfl)) (by exact w0)) (.nm hE ((by kernel_rfl)) (by exact w3)) (.nm hE ((by kernel_rfl)) (by exact w4)) (.nm hE ((by kernel_rfl)) (by exact w5)) .bool S2.nw (pnil rfl) ?_
    · have h3 : d = 0 ∨ d = 1 := by (first | lia | omega)
      rcases h3 with rfl | rfl
      · cases hy : (WT' g)[k + 2 + 0]? with
        | none => simp only [rr3, r0, hy]
        | some y => simp only [rr3, r0, hy, if_neg (hno h2 y hy)]
      · cases hy : (WT' g)[k + 2 + 1]? with
        | none => simp only [rr3, r1, hy]
        | some y => simp only [rr3, r1, hy, if_neg (hno h2 y hy)]
    intro m4 S4
    (refine EXn ?_; refine EX_nil ?_)
    (first | exact hQ1 _ _ _ ⟨.inl rfl, k + 2 + d, by (first | lia | omega), kept, now, nv, w1, w2, w3, w4, w5, hdl, hnb, S4.le (by (first | lia | omega))⟩ | exact ⟨.inl rfl, hQ1 _ _ _ ⟨k + 2 + d, by (first | lia | omega), kept, now, nv, w1, w2, w3, w4, w5, hdl, hnb, S4.le (by (first | lia | omega))⟩⟩ | exact ⟨.inl rfl, k + 2 + d, by (first | lia | omega), kept, now, nv, w1, w2, w3, w4, w5, hdl, hnb, S4.le (by (first | lia | omega))⟩)
  · have hd2 : d = 2 := by (first | lia | omega)
    subst hd2
    refine EX_cons (E1_IfT false (fun m => m = m2) ?_ (fun h => by cases h) ?_)
    · (refine TV_compare ?_; refine EV_local hE (by kernel_rfl) w0 ?_; refine EV_int ?_; (with_reducible refine O2_lt_int ?_); (with_reducible refine TR_bool ?_))
      (first | exact hQ1 _ _ _ ⟨rfl, rfl, rfl⟩ | exact ⟨rfl, hQ1 _ _ _ ⟨rfl, rfl⟩⟩ | exact ⟨rfl, rfl, rfl⟩)
    rintro - m3 rfl
    (refine EX_cons ?_; refine E1_AssignName ?_ rfl; refine EV_mcall ?_; refine EV_local hE (by kernel_rfl) w1 ?_; (with_reducible refine GM_find ?_); refine CW_go1 (KeepOk.bf _) ?_; refine AR_cons ?_; refine EV_str (l := [45, 45, 62]) (by kernel_rfl) ?_; refine AR_cons ?_; refine EV_binop ?_; refine EV_local hE (by kernel_rfl) w6 ?_; refine EV_int ?_; (with_reducible refine O2_add_int ?_); refine AR_nil ?_)
    refine CA_find3 fun last hlast => ?_
    have hbe : ∃ b : Nat, ((b : Nat) : Int) = (if last < 0 then ((WT' g).length : Int) else last + 3) ∧ b ≤ (WT' g).length := by
      rcases hlast with rfl | ⟨j, rfl, hj⟩
      · (first | exact hQ1 _ _ _ ⟨(WT' g).length, by simp, Nat.le_refl _⟩ | exact ⟨(WT' g).length, hQ1 _ _ _ ⟨by simp, Nat.le_refl _⟩⟩ | exact ⟨(WT' g).length, by simp, Nat.le_refl _⟩)
      · rw [mkS_length, mkS_length] at hj
        (first | exact hQ1 _ _ _ ⟨j + 3, by rw [if_neg (by (first | lia | omega))]; (first | lia | omega), by simpa using hj⟩ | exact ⟨j + 3, hQ1 _ _ _ ⟨by rw [if_neg (by (first | lia | omega))]; (first | lia | omega), by simpa using hj⟩⟩ | exact ⟨j + 3, by rw [if_neg (by (first | lia | omega))]; (first | lia | omega), by simpa using hj⟩)
    (refine dn fun hG0 => ?_; obtain ⟨b, hb0, hbl⟩ := hbe; refine hG0 ?_; clear hG0)
    (refine STn hE (by kernel_rfl) ?_)
    refine EX_cons (E1_WhileG (I := fun kk l3 m3 => ∃ p : Nat, kk = (WT' g).length - p ∧ k + 4 ≤ p ∧ p ≤ (WT' g).length ∧ l3 "text" = some (.str (mkS (WT' g)) 0) ∧ l3 "plan" = some (.ref Pl) ∧ l3 "place" = some (.int (p : Nat) 0) ∧ l3 "kept" = some (.str (mkS kept) 0) ∧ l3 "now" = some nv ∧ l3 "last" = some (.int last 0) ∧ PS3 g M m3 Pd Pl now0 (4 * k + 4 + (p - (k + 4))) p kept now nv) _
      ⟨k + 4, rfl, Nat.le_refl _, hdl, by exact (sS w1), by exact (sS w2), by exact (sS w3), by exact (sS w4), by exact (sS w5), setL_self _ _ _, by rw [Nat.sub_self]; exact S2⟩ ?_)
    rintro kk l3 m3 ⟨p, rfl, p1, p2, w1, w2, w3, w4, w5, w7, S3⟩ Rw4 hRw4
    refine TV_T (decide (p < b)) (fun m => m = m3) ?_ ?_
    · (refine TV_compare ?_; refine EV_local hE (by kernel_rfl) w3 ?_; refine EV_ifexp ?_; refine TV_compare ?_; refine EV_local hE (by kernel_rfl) w7 ?_; refine EV_int ?_; (with_reducible refine O2_lt_int ?_); (with_reducible refine TR_bool ?_))
      (refine And.intro ?_ ?_ <;> intro hb <;> try (cases hb; done))
      · have h : last < 0 := by simpa using hb
        rw [if_pos h] at hb0
        (refine EV_ncall ?_; refine EV_builtinF (id := "len") hE (by kernel_rfl) (by kernel_rfl) (by kernel_rfl) ?_; refine CW_go0 (KeepOk.bf _) ?_; refine AR_cons ?_; refine EV_local hE (by kernel_rfl) w1 ?_; refine AR_nil ?_; (with_reducible refine CA_len_str ?_ ?_); rotate_left; (with_reducible refine O2_lt_int ?_); (with_reducible refine TR_bool ?_); rotate_left)
        · (first | lia | omega)
        (first | exact hQ1 _ _ _ ⟨by rw [decide_eq_decide]; (first | lia | omega), rfl, rfl⟩ | exact ⟨by rw [decide_eq_decide]; (first | lia | omega), hQ1 _ _ _ ⟨rfl, rfl⟩⟩ | exact ⟨by rw [decide_eq_decide]; (first | lia | omega), rfl, rfl⟩)
      · have h : ¬ last < 0 := by simpa using hb
        rw [if_neg h] at hb0
        (refine EV_binop ?_; refine EV_local hE (by kernel_rfl) w7 ?_; refine EV_int ?_; (with_reducible refine O2_add_int ?_); (with_reducible refine O2_lt_int ?_); (with_reducible refine TR_bool ?_))
        (first | exact hQ1 _ _ _ ⟨by rw [decide_eq_decide]; (first | lia | omega), rfl, rfl⟩ | exact ⟨by rw [decide_eq_decide]; (first | lia | omega), hQ1 _ _ _ ⟨rfl, rfl⟩⟩ | exact ⟨by rw [decide_eq_decide]; (first | lia | omega), rfl, rfl⟩)
    rintro m4 rfl
    (first | refine hQ1 _ _ _ ⟨fun ht => ?_, fun ht => ?_⟩ | refine ⟨fun ht => ?_, hQ1 _ _ _ ⟨fun ht => ?_⟩⟩ | refine ⟨fun ht => ?_, fun ht => ?_⟩)
    · have hpb : p < b := of_decide_eq_true ht
      have ep3 : (p : Int) + 1 = ((p + 1 : Nat) : Int) := by (first | lia | omega)
      (refine EX_cons ?_; refine E1_AugLocal hE (by kernel_rfl) w3 ?_; refine EV_int ?_; (with_reducible refine O2_iadd_int ?_); refine STn hE (by kernel_rfl) ?_)
      rw [ep3]
      refine papp hP hPl hPP hPf hE (by (first | lia | omega)) S3 ((by kernel_rfl)) (by exact (sS w2)) (st := 6) (r := ⟨[], p + 1, kept, now, true⟩) rfl .int (.nm hE ((by kernel_rfl)) (by exact sH)) (.nm hE ((by kernel_rfl)) (by exact (sS w4))) (.nm hE ((by kernel_rfl)) (by exact (sS w5))) .bool S3.nw (pnil rfl) ?_
      intro m5 S5
      refine EX_nil ?_
      (first | exact hRw4 ((WT' g).length - (p + 1)) _ _ (by (first | lia | omega)) ⟨p + 1, rfl, by (first | lia | omega), by (first | lia | omega), by exact (sS w1), by exact (sS w2), by exact sH, by exact (sS w4), by exact (sS w5), by exact (sS w7), S5.le (by (first | lia | omega))⟩ | exact hQ1 _ _ _ ⟨(WT' g).length - (p + 1), by (first | lia | omega), p + 1, rfl, by (first | lia | omega), by (first | lia | omega), by exact (sS w1), by exact (sS w2), by exact sH, by exact (sS w4), by exact (sS w5), by exact (sS w7), S5.le (by (first | lia | omega))⟩ | exact ⟨(WT' g).length - (p + 1), hQ1 _ _ _ ⟨by (first | lia | omega), p + 1, rfl, by (first | lia | omega), by (first | lia | omega), by exact (sS w1), by exact (sS w2), by exact sH, by exact (sS w4), by exact (sS w5), by exact (sS w7), S5.le (by (first | lia | omega))⟩⟩ | exact ⟨(WT' g).length - (p + 1), by (first | lia | omega), p + 1, rfl, by (first | lia | omega), by (first | lia | omega), by exact (sS w1), by exact (sS w2), by exact sH, by exact (sS w4), by exact (sS w5), by exact (sS w7), S5.le (by (first | lia | omega))⟩)
    · (refine seq_next ?_; refine EXn ?_; refine EX_nil ?_)
      (first | exact hQ1 _ _ _ ⟨.inl rfl, p, by (first | lia | omega), kept, now, nv, w1, w2, w3, w4, w5, p2, hnb, S3.le (by (first | lia | omega))⟩ | exact ⟨.inl rfl, hQ1 _ _ _ ⟨p, by (first | lia | omega), kept, now, nv, w1, w2, w3, w4, w5, p2, hnb, S3.le (by (first | lia | omega))⟩⟩ | exact ⟨.inl rfl, p, by (first | lia | omega), kept, now, nv, w1, w2, w3, w4, w5, p2, hnb, S3.le (by (first | lia | omega))⟩)
end
end Mine
end
section
open PySem PySem.W PyProof.Rows
set_option maxRecDepth 100000
set_option maxHeartbeats 8000000
set_option linter.unusedVariables false
namespace Mine
section
variable {Z : Cz} {P : Params}
theorem plan_end (hP : P = Z.cx.w.params) {n : Nat} {M : Mem} {g : G} {now0 : Now} (hgl : (WT' g).length ≤ 200) (h13 : 13 ∉ WT' g) {Pd : Addr → Prop} {Pl : Addr} (hPl : M Pl = none) (hPP : ∀ a, Pd a → a ≠ Pl) (hPf : ∀ e, M e = none → e ≠ Pl → Pd e)
    {fz : Frz} {L : Addr} {env : Env} (hE : Fun env L) (hsc : env.scope = scopeAt (KP P) 809) {k p : Nat} {w : List Nat} {now : Now} {nv : Value} {l2 : Loc} {m2 : Mem}
    (hp1 : k + 2 ≤ p) (hp2 : p ≤ (WT' g).length) (hwl : w.length = p - (k + 2)) (hwlet : ∀ c ∈ w, c ∈ lettersC) (hend : ∀ x, (WT' g)[p]? = some x → x ∉ lettersC)
    (hnb : ∀ ty nm, now = some (ty, nm) → nm.length ≤ 300) (S3 : PS3 g M m2 Pd Pl now0 (4 * p - 4) p w now nv)
    (w1 : l2 "text" = some (.str (mkS (WT' g)) 0)) (w2 : l2 "plan" = some (.ref Pl)) (w3 : l2 "place" = some (.int (p : Nat) 0)) (w9 : l2 "kept" = some (.str (mkS w) 0)) (w8 : l2 "now" = some nv) :
    EX Z.cx (n + 3) fz L env ((ifThen (ifElse ((whileBody ((bodyAt (KP P) 809).drop 3)).drop 5))).drop 4) (PQ g M Pd Pl now0 k) l2 m2 := by
  have hTT := (top_types (Z := Z)) hP
  conv => arg 6; whnf
  (cases env; dsimp only at hsc; subst hsc)
  refine EX_gen fun Qg1 hQ1 => ?_
  have fresh : ∀ {m2 : Mem} {B : Addr}, (∀ a o, M a = some o → m2 a = some o) → (∃ o, m2 Pl = some o) → m2 B = none → Pd B := fun {m2 B} k1 k2 hB => hPf B
      (by cases q : M B with
          | none => rfl
          | some o => have := k1 _ _ q; rw [hB] at this; cases this)
      (fun z => by refine dn fun hG0 => ?_; obtain ⟨o, k2⟩ := k2; refine hG0 ?_; clear hG0; rw [← z, hB] at k2; cases k2)
  have hlow : lowS w = w.map lowC := lowS_eq fun c hc => by
    have : ∀ c ∈ lettersC, c < 128 := by decide
    exact this c (hwlet c hc)
  have hwl3 : w.length ≤ 200 := by (first | lia | omega)
  have epl : (p : Int) + 1 = ((p + 1 : Nat) : Int) := by (first | lia | omega)
  (refine dn fun hG0 => ?_; obtain ⟨es, evs, hPlm, hall, hch, hlen⟩ := id S3.h; refine hG0 ?_; clear hG0)
  (refine EX_cons ?_; refine E1_AssignName ?_ rfl; refine EV_slice_str ?_; refine EV_local hE (by kernel_rfl) w1 ?_; (with_reducible first | refine exr ?_ | refine ⟨_, rfl, ?_⟩))
  (first | refine hQ1 _ _ _ ⟨by (first | lia | omega), ?_⟩ | refine ⟨by (first | lia | omega), hQ1 _ _ _ ⟨?_⟩⟩ | refine ⟨by (first | lia | omega), ?_⟩)
  (refine PT_some ?_; refine EV_local hE (by kernel_rfl) w3 ?_; (with_reducible first | refine exr ?_ | refine ⟨_, rfl, ?_⟩); refine PT_some ?_; refine EV_binop ?_; refine EV_local hE (by kernel_rfl) w3 ?_; refine EV_int ?_; (with_reducible refine O2_add_int ?_); (with_reducible first | refine exr ?_ | refine ⟨_, rfl, ?_⟩); refine STn hE (by kernel_rfl) ?_)
  have esg : pySl (WT' g) (some (p : Int)) (some ((p : Int) + 1)) = sgn (WT' g) p := by
    rw [epl, pySl_nat]; rfl
  rw [esg]
  refine EX_abl (R := fun l => l "text" = some (.str (mkS (WT' g)) 0) ∧ l "plan" = some (.ref Pl) ∧ l "place" = some (.int (p : Nat) 0) ∧ l "kept" = some (.str (mkS w) 0) ∧ l "now" = some nv ∧ l "stop" = some (.str (mkS (sgn (WT' g) p)) 0)) ⟨by exact (sS w1), by exact (sS w2), by exact (sS w3), by exact (sS w9), by exact (sS w8), setL_self _ _ _⟩ ?_
  clear w1 w2 w3 w9 w8
  rintro l2 ⟨w1, w2, w3, w9, w8, w7⟩
  -- the stop behind the word
  have stopF : ∀ x, (WT' g)[p]? = some x → ([x] ∈ stopsL ↔ ((x ∈ spacesC ∨ x = 47) ∨ x = 62)) := fun x hxp => by
    have h1 : x ≠ 13 := fun z => h13 (by rw [← z]; exact List.mem_of_getElem? hxp)
    simp [stopsL, spacesC]
    (first | lia | omega)
  -- does not fit
  have hrF : (approp now w = false ∨ sgn (WT' g) p ∉ stopsL) → rr3 g 3 p w now = ⟨sayT ([60, 47] ++ w), p, w, now, false⟩ := fun h => by
    have e0 : ([60, 47] ++ w) ≠ [0] := by simp
    cases hy : (WT' g)[p]? with
    | none => simp [rr3, r7, hy, sayT]
    | some y =>
      have hs := sgn_some hy
      have h2 := hend y hy
      have h4 : ¬ ((y ∈ spacesC ∨ y = 47) ∧ approp now w = true) := fun z => by
        rcases h with h | h
        · rw [h] at z; cases z.2
        · exact h (by rw [hs]; exact (stopF y hy).mpr (.inl z.1))
      have h5 : ¬ (y = 62 ∧ approp now w = true) := fun z => by
        rcases h with h | h
        · rw [h] at z; cases z.2
        · exact h (by rw [hs]; exact (stopF y hy).mpr (.inr z.1))
      simp only [rr3, r7, hy, if_neg h4, if_neg h5, if_neg h2, sayT, if_neg e0]
  by_cases hw0 : w = []
  · subst hw0
    have hp : p = k + 2 := by simp at hwl; (first | lia | omega)
    have hr : rr3 g 2 p [] now = ⟨sayT [60, 47], p, [], now, false⟩ := by
      cases hy : (WT' g)[p]? with
      | none => simp [rr3, ra2, hy, sayT]
      | some y => simp [rr3, ra2, hy, sayT, hend y hy]
    refine EX_cons (E1_IfT true (fun m => m = m2) ?_ ?_ (fun h => by cases h))
    · (refine TV_compare ?_; refine EV_local hE (by kernel_rfl) w9 ?_; refine EV_str (l := []) (by kernel_rfl) ?_; (with_reducible refine O2_eq_str ?_); (with_reducible refine TR_bool ?_))
      (first | exact hQ1 _ _ _ ⟨rfl, rfl, rfl⟩ | exact ⟨rfl, hQ1 _ _ _ ⟨rfl, rfl⟩⟩ | exact ⟨rfl, rfl, rfl⟩)
    rintro - m4 rfl
    refine papp hP hPl hPP hPf hE (by (first | lia | omega)) S3 ((by kernel_rfl)) (by exact w2) hr .int (.nm hE ((by kernel_rfl)) (by exact w3)) (.nm hE ((by kernel_rfl)) (by exact w9)) (.nm hE ((by kernel_rfl)) (by exact w8)) .bool S3.nw (psay (s := [60, 47]) hP hE ((by kernel_rfl)) rfl (.str (l := [60, 47]) (by kernel_rfl))) ?_
    intro m5 S5
    (refine EXn ?_; refine EX_nil ?_)
    (first | exact hQ1 _ _ _ ⟨.inl rfl, p, by (first | lia | omega), [], now, nv, by exact w1, by exact w2, by exact w3, by exact w9, by exact w8, hp2, hnb, S5.le (by (first | lia | omega))⟩ | exact ⟨.inl rfl, hQ1 _ _ _ ⟨p, by (first | lia | omega), [], now, nv, by exact w1, by exact w2, by exact w3, by exact w9, by exact w8, hp2, hnb, S5.le (by (first | lia | omega))⟩⟩ | exact ⟨.inl rfl, p, by (first | lia | omega), [], now, nv, by exact w1, by exact w2, by exact w3, by exact w9, by exact w8, hp2, hnb, S5.le (by (first | lia | omega))⟩)
  refine EX_cons (E1_IfT false (fun m => m = m2) ?_ (fun h => by cases h) ?_)
  · (refine TV_compare ?_; refine EV_local hE (by kernel_rfl) w9 ?_; refine EV_str (l := []) (by kernel_rfl) ?_; (with_reducible refine O2_eq_str ?_); (with_reducible refine TR_bool ?_))
    (first | exact hQ1 _ _ _ ⟨by simp [hw0], rfl, rfl⟩ | exact ⟨by simp [hw0], hQ1 _ _ _ ⟨rfl, rfl⟩⟩ | exact ⟨by simp [hw0], rfl, rfl⟩)
  rintro - m2 rfl
  refine EX_cons (E1_IfT (decide (sgn (WT' g) p ∈ stopsL) && approp now w) (fun m => ∀ a o, m2 a = some o → m a = some o) ?_ ?_ ?_)
  · (refine TV_boolop ?_; refine TAll_and ?_; refine TV_compare ?_; refine EV_local hE (by kernel_rfl) w7 ?_; refine EV_ncall ?_; refine EV_gref (a := 781) hE (by kernel_rfl) (by kernel_rfl) ?_; refine CW_go0 (KeepOk.rf (by kernel_rfl)) ?_; refine AR_nil ?_)
    refine CA_CL ((c_stops (n := n)).mono ?_) (by (first | lia | omega))
    (intro v m3 hq0; refine dn fun hG0 => ?_; rcases hq0 with ⟨DS, hDS, rfl, rfl⟩ <;> refine hG0 ?_ <;> clear hG0)
    have kp3 : ∀ a o, m2 a = some o → setM m2 DS (.lst (strsV stopsL)) a = some o := fun a o e => setM_old hDS e
    skip
    refine O2_in_lst (.lst (setM_same _ _ _)) ?_
    with_reducible refine TR_bool ?_
    (refine And.intro ?_ ?_ <;> intro hb <;> try (cases hb; done))
    · have hst : sgn (WT' g) p ∈ stopsL := by simpa using hb
      have hnw := S3.nw
      cases now with
      | none =>
        have hnv : nv = .none := hnw
        subst hnv
        (refine TAll_and ?_; refine TV_compare ?_; refine EV_local hE (by kernel_rfl) w8 ?_; refine EV_none ?_; (with_reducible refine O2_isnot_none ?_); (with_reducible refine TR_bool ?_); (refine And.intro ?_ ?_ <;> intro hb <;> try (cases hb; done)))
        (first | exact hQ1 _ _ _ ⟨by simp [approp], rfl, kp3⟩ | exact ⟨by simp [approp], hQ1 _ _ _ ⟨rfl, kp3⟩⟩ | exact ⟨by simp [approp], rfl, kp3⟩)
      | some pr =>
        (refine dn fun hG0 => ?_; obtain ⟨ty, nm⟩ := pr; refine hG0 ?_; clear hG0)
        (refine dn fun hG0 => ?_; obtain ⟨a, e, rfl, ha, hel', _⟩ := hnw.kp kp3; refine hG0 ?_; clear hG0)
        have hnm := hnb _ _ rfl
        unfold tagD at ha
        (refine TAll_and ?_; refine TV_compare ?_; refine EV_local hE (by kernel_rfl) w8 ?_; refine EV_none ?_; (with_reducible refine O2_isnot_none ?_); (with_reducible refine TR_bool ?_); (refine And.intro ?_ ?_ <;> intro hb <;> try (cases hb; done)); refine TAll_and ?_; refine TV_compare ?_; refine EV_mcall ?_; refine EV_sub ?_; refine EV_local hE (by kernel_rfl) w8 ?_; refine EV_str (l := [110, 97, 109, 101]) (by kernel_rfl) ?_)
        refine SUB_dictT (.dct ha) (by exact (tS tE)) ?_
        ((with_reducible refine GM_lower ?_); refine CW_go1 (KeepOk.bf _) ?_; refine AR_nil ?_; (with_reducible refine CA_lower ?_ ?_); rotate_left; refine EV_mcall ?_; refine EV_local hE (by kernel_rfl) w9 ?_; (with_reducible refine GM_lower ?_); refine CW_go1 (KeepOk.bf _) ?_; refine AR_nil ?_; (with_reducible refine CA_lower ?_ ?_); rotate_left; rotate_left)
        · simp; (first | lia | omega)
        · simp; (first | lia | omega)
        rw [← mkS_cps (Txt.lower (mkS nm)), ← mkS_cps (Txt.lower (mkS w))]
        ((with_reducible refine O2_eq_str ?_); (with_reducible refine TR_bool ?_))
        (refine And.intro ?_ ?_ <;> intro hb <;> try (cases hb; done))
        · have hap : approp (some (ty, nm)) w = true := by simpa [approp] using hb
          refine TAll_and_nil ?_
          (first | exact hQ1 _ _ _ ⟨by simp [hap, hst], rfl, kp3⟩ | exact ⟨by simp [hap, hst], hQ1 _ _ _ ⟨rfl, kp3⟩⟩ | exact ⟨by simp [hap, hst], rfl, kp3⟩)
        · have hap : approp (some (ty, nm)) w = false := by simpa [approp] using hb
          (first | exact hQ1 _ _ _ ⟨by simp [hap], rfl, kp3⟩ | exact ⟨by simp [hap], hQ1 _ _ _ ⟨rfl, kp3⟩⟩ | exact ⟨by simp [hap], rfl, kp3⟩)
    · have hst : sgn (WT' g) p ∉ stopsL := by simpa using hb
      (first | exact hQ1 _ _ _ ⟨by simp [hst], rfl, kp3⟩ | exact ⟨by simp [hst], hQ1 _ _ _ ⟨rfl, kp3⟩⟩ | exact ⟨by simp [hst], rfl, kp3⟩)
  · intro ht m3 kp3
    simp only [Bool.and_eq_true, decide_eq_true_eq] at ht
    (refine dn fun hG0 => ?_; obtain ⟨hst, hap⟩ := ht; refine hG0 ?_; clear hG0)
    have S4 := S3.ext kp3
    obtain ⟨x, hxp⟩ : ∃ x, (WT' g)[p]? = some x := by
      cases hy : (WT' g)[p]? with
      | none => rw [sgn_none hy] at hst; exact absurd hst (by decide)
      | some y => exact ⟨y, rfl⟩
    have hs := sgn_some hxp
    have hst' := (stopF x hxp).mp (by rw [← hs]; exact hst)
    have hplt : p < (WT' g).length := (List.getElem?_eq_some_iff.mp hxp).1
    rw [hs] at w7
    (refine EX_cons ?_; refine E1_AugLocal hE (by kernel_rfl) w3 ?_; refine EV_int ?_; (with_reducible refine O2_iadd_int ?_); refine STn hE (by kernel_rfl) ?_)
    have eip : (p : Int) + 1 = ((p + 1 : Nat) : Int) := by (first | lia | omega)
    rw [eip]
    by_cases h62 : x = 62
    · subst h62
      have hr : rr3 g 3 p w now = ⟨[.tag 4 (lowS w)], p + 1, w, some (4, lowS w), false⟩ := by
        have h1 : ¬ ((62 ∈ spacesC ∨ 62 = 47) ∧ approp now w = true) := fun z => by
          rcases z.1 with h | h
          · revert h; decide
          · cases h
        simp only [rr3, r7, hxp, if_neg h1, hlow]
        rw [if_pos ⟨trivial, hap⟩]
      (refine EX_cons ?_; refine E1_AssignName ?_ rfl; refine EV_ncall ?_; refine EV_gref (a := 795) hE (by kernel_rfl) (by kernel_rfl) ?_; refine CW_go0 (KeepOk.rf (by kernel_rfl)) ?_; refine AR_cons ?_; refine EV_str (l := [69, 110, 100, 84, 97, 103]) (by kernel_rfl) ?_; refine AR_cons ?_; refine EV_ifexp ?_; refine TV_compare ?_; refine EV_local hE (by kernel_rfl) (sS w7) ?_; refine EV_str (l := [62]) (by kernel_rfl) ?_; (with_reducible refine O2_eq_str ?_); (with_reducible refine TR_bool ?_))
      (refine And.intro ?_ ?_ <;> intro hb <;> try (cases hb; done))
      (refine EV_mcall ?_; refine EV_local hE (by kernel_rfl) (sS w9) ?_; (with_reducible refine GM_lower ?_); refine CW_go1 (KeepOk.bf _) ?_; refine AR_nil ?_; (with_reducible refine CA_lower ?_ ?_); rotate_left; refine AR_nil ?_; rotate_left)
      · simp; (first | lia | omega)
      rw [← mkS_cps (Txt.lower (mkS w))]
      refine CA_CL ((c_tag1 hP (n := n) (ty := 4) (by exact (tS (tS (tS (tS tE)))))).mono ?_) (by (first | lia | omega))
      (intro v m4 hq0; refine dn fun hG0 => ?_; rcases hq0 with ⟨D', E', rfl, hD', hE', mD, mE, kpt⟩ <;> refine hG0 ?_ <;> clear hG0)
      have hPl5 := kpt _ _ (kp3 _ _ hPlm)
      have fE : Pd E' := fresh S4.kp ⟨_, kp3 _ _ hPlm⟩ hE'
      (refine STn hE (by kernel_rfl) ?_)
      have tk : TkA Pd m4 (.tag 4 (lowS w)) (.ref D') := ⟨D', E', rfl, mD, mE, fE⟩
      refine papp hP hPl hPP hPf hE (by (first | lia | omega)) (S4.ext kpt) ((by kernel_rfl)) (by exact (sS (sS w2))) (nv1 := .ref D') hr .int (.nm hE ((by kernel_rfl)) (by exact (sS sH))) (.nm hE ((by kernel_rfl)) (by exact (sS (sS w9)))) (.nm hE ((by kernel_rfl)) (by exact sH)) .bool tk ?_ ?_
      · (refine EV_ifexp ?_; refine TV_compare ?_; refine EV_local hE (by kernel_rfl) (sS (sS w7)) ?_; refine EV_str (l := [62]) (by kernel_rfl) ?_; (with_reducible refine O2_eq_str ?_); (with_reducible refine TR_bool ?_))
        (refine And.intro ?_ ?_ <;> intro hb <;> try (cases hb; done))
        (refine EV_list ?_; refine AR_cons ?_; refine EV_local hE (by kernel_rfl) sH ?_; refine AR_nil ?_)
        refine ⟨by simp, fun B hB => ?_⟩
        (first | exact hQ1 _ _ _ ⟨rfl, B, _, rfl, hB, setM_same _ _ _, .cons (tk.kp fun a o e => setM_old hB e) .nil, fun a o e => setM_old hB e⟩ | exact ⟨rfl, hQ1 _ _ _ ⟨B, _, rfl, hB, setM_same _ _ _, .cons (tk.kp fun a o e => setM_old hB e) .nil, fun a o e => setM_old hB e⟩⟩ | exact ⟨rfl, B, _, rfl, hB, setM_same _ _ _, .cons (tk.kp fun a o e => setM_old hB e) .nil, fun a o e => setM_old hB e⟩)
      intro m5 S5
      (refine EXn ?_; refine EXn ?_; refine EX_nil ?_)
      (first | exact hQ1 _ _ _ ⟨.inl rfl, p + 1, by (first | lia | omega), w, _, .ref D', by exact (sS (sS w1)), by exact (sS (sS w2)), by exact (sS sH), by exact (sS (sS w9)), by exact sH, by (first | lia | omega), fun ty nm e => by cases e; rw [hlow, List.length_map]; (first | lia | omega), S5.le (by (first | lia | omega))⟩ | exact ⟨.inl rfl, hQ1 _ _ _ ⟨p + 1, by (first | lia | omega), w, _, .ref D', by exact (sS (sS w1)), by exact (sS (sS w2)), by exact (sS sH), by exact (sS (sS w9)), by exact sH, by (first | lia | omega), fun ty nm e => by cases e; rw [hlow, List.length_map]; (first | lia | omega), S5.le (by (first | lia | omega))⟩⟩ | exact ⟨.inl rfl, p + 1, by (first | lia | omega), w, _, .ref D', by exact (sS (sS w1)), by exact (sS (sS w2)), by exact (sS sH), by exact (sS (sS w9)), by exact sH, by (first | lia | omega), fun ty nm e => by cases e; rw [hlow, List.length_map]; (first | lia | omega), S5.le (by (first | lia | omega))⟩)
    · have hr : rr3 g 3 p w now = ⟨[], p + 1, w, some (4, w), false⟩ := by
        have h1 : (x ∈ spacesC ∨ x = 47) ∧ approp now w = true := ⟨by rcases hst' with h | h; exact h; exact absurd h h62, hap⟩
        simp only [rr3, r7, hxp, if_pos h1]
      (refine EX_cons ?_; refine E1_AssignName ?_ rfl; refine EV_ncall ?_; refine EV_gref (a := 795) hE (by kernel_rfl) (by kernel_rfl) ?_; refine CW_go0 (KeepOk.rf (by kernel_rfl)) ?_; refine AR_cons ?_; refine EV_str (l := [69, 110, 100, 84, 97, 103]) (by kernel_rfl) ?_; refine AR_cons ?_; refine EV_ifexp ?_; refine TV_compare ?_; refine EV_local hE (by kernel_rfl) (sS w7) ?_; refine EV_str (l := [62]) (by kernel_rfl) ?_; (with_reducible refine O2_eq_str ?_); (with_reducible refine TR_bool ?_))
      (refine And.intro ?_ ?_ <;> intro hb <;> try (cases hb; done))
      · exact absurd (by simpa using hb) h62
      (refine EV_local hE (by kernel_rfl) (sS w9) ?_; refine AR_nil ?_)
      refine CA_CL ((c_tag1 hP (n := n) (ty := 4) (by exact (tS (tS (tS (tS tE)))))).mono ?_) (by (first | lia | omega))
      (intro v m4 hq0; refine dn fun hG0 => ?_; rcases hq0 with ⟨D', E', rfl, hD', hE', mD, mE, kpt⟩ <;> refine hG0 ?_ <;> clear hG0)
      have hPl5 := kpt _ _ (kp3 _ _ hPlm)
      have fE : Pd E' := fresh S4.kp ⟨_, kp3 _ _ hPlm⟩ hE'
      (refine STn hE (by kernel_rfl) ?_)
      have tk : TkA Pd m4 (.tag 4 w) (.ref D') := ⟨D', E', rfl, mD, mE, fE⟩
      refine papp hP hPl hPP hPf hE (by (first | lia | omega)) (S4.ext kpt) ((by kernel_rfl)) (by exact (sS (sS w2))) (nv1 := .ref D') hr .int (.nm hE ((by kernel_rfl)) (by exact (sS sH))) (.nm hE ((by kernel_rfl)) (by exact (sS (sS w9)))) (.nm hE ((by kernel_rfl)) (by exact sH)) .bool tk ?_ ?_
      · (refine EV_ifexp ?_; refine TV_compare ?_; refine EV_local hE (by kernel_rfl) (sS (sS w7)) ?_; refine EV_str (l := [62]) (by kernel_rfl) ?_; (with_reducible refine O2_eq_str ?_); (with_reducible refine TR_bool ?_))
        (refine And.intro ?_ ?_ <;> intro hb <;> try (cases hb; done))
        · exact absurd (by simpa using hb) h62
        (refine EV_list ?_; refine AR_nil ?_)
        refine ⟨by simp, fun B hB => ?_⟩
        (first | exact hQ1 _ _ _ ⟨rfl, B, _, rfl, hB, setM_same _ _ _, .nil, fun a o e => setM_old hB e⟩ | exact ⟨rfl, hQ1 _ _ _ ⟨B, _, rfl, hB, setM_same _ _ _, .nil, fun a o e => setM_old hB e⟩⟩ | exact ⟨rfl, B, _, rfl, hB, setM_same _ _ _, .nil, fun a o e => setM_old hB e⟩)
      intro m5 S5
      (refine EXn ?_; refine EXn ?_; refine EX_nil ?_)
      (first | exact hQ1 _ _ _ ⟨.inl rfl, p + 1, by (first | lia | omega), w, _, .ref D', by exact (sS (sS w1)), by exact (sS (sS w2)), by exact (sS sH), by exact (sS (sS w9)), by exact sH, by (first | lia | omega), fun ty nm e => by cases e; (first | lia | omega), S5.le (by (first | lia | omega))⟩ | exact ⟨.inl rfl, hQ1 _ _ _ ⟨p + 1, by (first | lia | omega), w, _, .ref D', by exact (sS (sS w1)), by exact (sS (sS w2)), by exact (sS sH), by exact (sS (sS w9)), by exact sH, by (first | lia | omega), fun ty nm e => by cases e; (first | lia | omega), S5.le (by (first | lia | omega))⟩⟩ | exact ⟨.inl rfl, p + 1, by (first | lia | omega), w, _, .ref D', by exact (sS (sS w1)), by exact (sS (sS w2)), by exact (sS sH), by exact (sS (sS w9)), by exact sH, by (first | lia | omega), fun ty nm e => by cases e; (first | lia | omega), S5.le (by (first | lia | omega))⟩)
  · intro ht m3 kp3
    have hor : approp now w = false ∨ sgn (WT' g) p ∉ stopsL := by
      by_cases h : sgn (WT' g) p ∈ stopsL
      · left; simpa [h] using ht
      · right; exact h
    have hr := hrF hor
    have S4 := S3.ext kp3
    have hPl4 := kp3 _ _ hPlm
    refine papp hP hPl hPP hPf hE (by (first | lia | omega)) S4 ((by kernel_rfl)) (by exact w2) hr .int (.nm hE ((by kernel_rfl)) (by exact w3)) (.nm hE ((by kernel_rfl)) (by exact w9)) (.nm hE ((by kernel_rfl)) (by exact w8)) .bool S4.nw (psay (s := [60, 47] ++ w) hP hE ((by kernel_rfl)) rfl (.addS (.str (l := [60, 47]) (by kernel_rfl)) (.nm hE ((by kernel_rfl)) (by exact w9)) rfl (by simp; (first | lia | omega)))) ?_
    intro m5 S5
    (refine EXn ?_; refine EXn ?_; refine EX_nil ?_)
    (first | exact hQ1 _ _ _ ⟨.inl rfl, p, by (first | lia | omega), w, now, nv, by exact w1, by exact w2, by exact w3, by exact w9, by exact w8, hp2, hnb, S5.le (by (first | lia | omega))⟩ | exact ⟨.inl rfl, hQ1 _ _ _ ⟨p, by (first | lia | omega), w, now, nv, by exact w1, by exact w2, by exact w3, by exact w9, by exact w8, hp2, hnb, S5.le (by (first | lia | omega))⟩⟩ | exact ⟨.inl rfl, p, by (first | lia | omega), w, now, nv, by exact w1, by exact w2, by exact w3, by exact w9, by exact w8, hp2, hnb, S5.le (by (first | lia | omega))⟩)
end
end Mine
end
section
open PySem PySem.W PyProof.Rows
set_option maxRecDepth 100000
set_option maxHeartbeats 8000000
set_option linter.unusedVariables false
namespace Mine
section
variable {Z : Cz} {P : Params}
theorem plan_sl (hP : P = Z.cx.w.params) {n : Nat} {M : Mem} {g : G} {now0 : Now} (hgl : (WT' g).length ≤ 200) (h13 : 13 ∉ WT' g) {Pd : Addr → Prop} {Pl : Addr} (hPl : M Pl = none) (hPP : ∀ a, Pd a → a ≠ Pl) (hPf : ∀ e, M e = none → e ≠ Pl → Pd e)
    {fz : Frz} {L : Addr} {env : Env} (hE : Fun env L) (hsc : env.scope = scopeAt (KP P) 809) {k : Nat} {kept : List Nat} {now : Now} {nv : Value} {l : Loc} {m : Mem}
    (hx1 : (WT' g)[k + 1]? = some 47) (hnb : ∀ ty nm, now = some (ty, nm) → nm.length ≤ 300) (S : PS3 g M m Pd Pl now0 (4 * k + 1) (k + 1) kept now nv)
    (l1 : l "text" = some (.str (mkS (WT' g)) 0)) (l2 : l "plan" = some (.ref Pl)) (l3 : l "place" = some (.int (k + 1 : Nat) 0)) (l4 : l "kept" = some (.str (mkS kept) 0)) (l5 : l "now" = some nv) (l6 : l "start" = some (.int (k : Nat) 0)) :
    EX Z.cx (n + 3) fz L env (ifThen (ifElse ((whileBody ((bodyAt (KP P) 809).drop 3)).drop 5))) (PQ g M Pd Pl now0 k) l m := by
  have hsc0 := hsc
  have tail := fun (p : Nat) (w : List Nat) (l : Loc) (m : Mem) hp1 hp2 hwl hwlet hend S a1 a2 a3 a4 a5 => plan_end (n := n) (now0 := now0) hP hgl h13 hPl hPP hPf (fz := fz) (L := L) hE hsc0 (k := k) (p := p) (w := w) (now := now) (nv := nv) (l2 := l) (m2 := m) hp1 hp2 hwl hwlet hend hnb S a1 a2 a3 a4 a5
  conv => arg 6; whnf
  (cases env; dsimp only at hsc; subst hsc)
  refine EX_gen fun Qg1 hQ1 => ?_
  have hlt : k + 1 < (WT' g).length := (List.getElem?_eq_some_iff.mp hx1).1
  have ep : ((k + 1 : Nat) : Int) + 1 = ((k + 2 : Nat) : Int) := by (first | lia | omega)
  (refine EX_cons ?_; refine E1_AugLocal hE (by kernel_rfl) l3 ?_; refine EV_int ?_; (with_reducible refine O2_iadd_int ?_); refine STn hE (by kernel_rfl) ?_)
  rw [ep]
  (refine EX_cons ?_; refine E1_AssignName ?_ rfl; refine EV_str (l := []) (by kernel_rfl) ?_; refine STn hE (by kernel_rfl) ?_)
  refine papp hP hPl hPP hPf hE (by (first | lia | omega)) S ((by kernel_rfl)) (by exact (sS (sS l2))) (st := 1) (r := ⟨[], k + 2, [], now, false⟩) (by simp [rr3, ra1, hx1]) .int (.nm hE ((by kernel_rfl)) (by exact (sS sH))) (.nm hE ((by kernel_rfl)) (by exact sH)) (.nm hE ((by kernel_rfl)) (by exact (sS (sS l5)))) .bool S.nw (pnil rfl) ?_
  intro m1 S1
  refine EX_cut (R := fun l2 m2 => ∃ p : Nat, k + 2 ≤ p ∧ p ≤ (WT' g).length ∧ (∀ i x, k + 2 ≤ i → i < p → (WT' g)[i]? = some x → x ∈ lettersC) ∧ (∀ x, (WT' g)[p]? = some x → x ∉ lettersC) ∧ l2 "text" = some (.str (mkS (WT' g)) 0) ∧ l2 "plan" = some (.ref Pl) ∧ l2 "place" = some (.int (p : Nat) 0) ∧ l2 "kept" = some (.str (mkS (((WT' g).take p).drop (k + 2))) 0) ∧ l2 "now" = some nv ∧ l2 "start" = some (.int (k : Nat) 0) ∧ PS3 g M m2 Pd Pl now0 (4 * k + 2 + (p - (k + 2))) p (((WT' g).take p).drop (k + 2)) now nv) ?_ ?_
  · refine E1_gen fun Qg2 hQ2 => ?_
    refine E1_WhileG (I := fun kk l2 m2 => ∃ p : Nat, kk = (WT' g).length - p ∧ k + 2 ≤ p ∧ p ≤ (WT' g).length ∧ (∀ i x, k + 2 ≤ i → i < p → (WT' g)[i]? = some x → x ∈ lettersC) ∧ l2 "text" = some (.str (mkS (WT' g)) 0) ∧ l2 "plan" = some (.ref Pl) ∧ l2 "place" = some (.int (p : Nat) 0) ∧ l2 "kept" = some (.str (mkS (((WT' g).take p).drop (k + 2))) 0) ∧ l2 "now" = some nv ∧ l2 "start" = some (.int (k : Nat) 0) ∧ PS3 g M m2 Pd Pl now0 (4 * k + 2 + (p - (k + 2))) p (((WT' g).take p).drop (k + 2)) now nv) _
      ⟨k + 2, rfl, Nat.le_refl _, hlt, fun i x h1 h2 => by (first | lia | omega), by exact (sS (sS l1)), by exact (sS (sS l2)), by exact (sS sH), ?_, by exact (sS (sS l5)), by exact (sS (sS l6)), ?_⟩ ?_
    · rw [show ((WT' g).take (k + 2)).drop (k + 2) = [] by simp]; exact setL_self _ _ _
    · rw [show ((WT' g).take (k + 2)).drop (k + 2) = [] by simp, Nat.sub_self]; exact S1
    rintro kk l2 m2 ⟨p, rfl, p1, p2, p3, w1, w2, w3, w4, w5, w6, S2⟩ Rw3 hRw3
    refine TV_boolop ?_
    (refine TAll_and ?_; refine TV_compare ?_; refine EV_local hE (by kernel_rfl) w3 ?_; refine EV_ncall ?_; refine EV_builtinF (id := "len") hE (by kernel_rfl) (by kernel_rfl) (by kernel_rfl) ?_; refine CW_go0 (KeepOk.bf _) ?_; refine AR_cons ?_; refine EV_local hE (by kernel_rfl) w1 ?_; refine AR_nil ?_; (with_reducible refine CA_len_str ?_ ?_); rotate_left; (with_reducible refine O2_lt_int ?_); (with_reducible refine TR_bool ?_); rotate_left)
    · (first | lia | omega)
    (refine And.intro ?_ ?_ <;> intro hb <;> try (cases hb; done))
    · have hpl : p < (WT' g).length := by
        have : (p : Int) < ((WT' g).length : Int) := by simpa using hb
        (first | lia | omega)
      obtain ⟨x, hx⟩ : ∃ x, (WT' g)[p]? = some x := ⟨_, List.getElem?_eq_getElem hpl⟩
      (refine TAll_and ?_; refine TV_compare ?_; refine EV_sub ?_; refine EV_local hE (by kernel_rfl) w1 ?_; refine EV_local hE (by kernel_rfl) w3 ?_)
      refine SUB_str (j := p) (c := x) (by (first | lia | omega)) (by rw [if_neg (by (first | lia | omega))]) hx ?_
      refine EV_gstr2 (l := lettersC) hE ((by kernel_rfl)) (by kernel_rfl) ?_
      refine O2_in_sc ?_
      with_reducible refine TR_bool ?_
      (refine And.intro ?_ ?_ <;> intro hb <;> try (cases hb; done))
      · have hxl : x ∈ lettersC := by simpa using hb
        have hlf : ∀ c ∈ lettersC, c ∉ spacesC ∧ c ≠ 47 ∧ c ≠ 62 := by decide
        (refine dn fun hG0 => ?_; obtain ⟨n1, n2, n3⟩ := hlf x hxl; refine hG0 ?_; clear hG0)
        have hsn : ((WT' g).take (p + 1)).drop (k + 2) = ((WT' g).take p).drop (k + 2) ++ [x] := by
          have e1 : (WT' g).take (p + 1) = (WT' g).take p ++ [x] := by rw [List.take_add_one, hx]; rfl
          rw [e1, List.drop_append_of_le_length (by simp; (first | lia | omega))]
        have hwl : (((WT' g).take (p + 1)).drop (k + 2)).length = p + 1 - (k + 2) := by simp; (first | lia | omega)
        have hp3 : ∀ j y, k + 2 ≤ j → j < p + 1 → (WT' g)[j]? = some y → y ∈ lettersC := fun j y h1 h2 h => by
          by_cases hj : j < p
          · exact p3 j y h1 hj h
          · have : j = p := by (first | lia | omega)
            subst this
            rw [hx] at h; cases h; exact hxl
        have eip : (p : Int) + 1 = ((p + 1 : Nat) : Int) := by (first | lia | omega)
        have eik : (k : Int) + 2 = ((k + 2 : Nat) : Int) := by (first | lia | omega)
        have hj7 : (if p = k + 2 then 2 else 3) < 7 := by split <;> (first | lia | omega)
        have hj6 : (if p = k + 2 then 2 else 3) = 6 ∨ (if p = k + 2 then 2 else 3) = 0 → p < (WT' g).length := fun _ => hpl
        have hr : rr3 g (if p = k + 2 then 2 else 3) p (((WT' g).take p).drop (k + 2)) now = ⟨[], p + 1, ((WT' g).take (p + 1)).drop (k + 2), now, decide (p ≠ k + 2)⟩ := by
          rw [hsn]
          by_cases h : p = k + 2
          · rw [if_pos h]
            simp only [rr3, ra2, hx, hxl, if_true]; simp [h]
          · rw [if_neg h]
            simp only [rr3, r7, hx, hxl, n1, n2, n3, if_true, if_false, false_or, false_and]; simp [h]
        have hcmp : decide ((1 : Int) < ((((WT' g).take (p + 1)).drop (k + 2)).length : Int)) = decide (p ≠ k + 2) := by
          rw [hwl, decide_eq_decide]; (first | lia | omega)
        refine TAll_and_nil ?_
        (refine And.intro ?_ ?_ <;> intro hb <;> try (cases hb; done))
        (refine EX_cons ?_; refine E1_AugLocal hE (by kernel_rfl) w3 ?_; refine EV_int ?_; (with_reducible refine O2_iadd_int ?_); refine STn hE (by kernel_rfl) ?_)
        rw [eip]
        (refine EX_cons ?_; refine E1_AssignName ?_ rfl; refine EV_slice_str ?_; refine EV_local hE (by kernel_rfl) (sS w1) ?_; (with_reducible first | refine exr ?_ | refine ⟨_, rfl, ?_⟩))
        (first | refine hQ2 _ _ _ ⟨by (first | lia | omega), ?_⟩ | refine ⟨by (first | lia | omega), hQ2 _ _ _ ⟨?_⟩⟩ | refine ⟨by (first | lia | omega), ?_⟩)
        (refine PT_some ?_; refine EV_binop ?_; refine EV_local hE (by kernel_rfl) (sS w6) ?_; refine EV_int ?_; (with_reducible refine O2_add_int ?_); (with_reducible first | refine exr ?_ | refine ⟨_, rfl, ?_⟩); refine PT_some ?_; refine EV_local hE (by kernel_rfl) sH ?_; (with_reducible first | refine exr ?_ | refine ⟨_, rfl, ?_⟩); refine STn hE (by kernel_rfl) ?_)
        rw [eik, pySl_nat]
        refine papp hP hPl hPP hPf hE (by (first | lia | omega)) S2 ((by kernel_rfl)) (by exact (sS (sS w2))) (st := if p = k + 2 then 2 else 3) hr (.ift (c := decide (p ≠ k + 2)) (fun Q M h => ?_) (fun z => ?_) (fun z => ?_)) (.nm hE ((by kernel_rfl)) (by exact (sS sH))) (.nm hE ((by kernel_rfl)) (by exact sH)) (.nm hE ((by kernel_rfl)) (by exact (sS (sS w5)))) (fun Q M h => ?_) S2.nw (pnil rfl) ?_ (hst7 := hj7) (hs6 := hj6)
        · (refine TV_compare ?_; refine EV_ncall ?_; refine EV_builtinF (id := "len") hE (by kernel_rfl) (by kernel_rfl) (by kernel_rfl) ?_; refine CW_go0 (KeepOk.bf _) ?_; refine AR_cons ?_; refine EV_local hE (by kernel_rfl) sH ?_; refine AR_nil ?_; (with_reducible refine CA_len_str ?_ ?_); rotate_left; refine EV_int ?_; (with_reducible refine O2_gt_int ?_); (with_reducible refine TR_bool ?_); rotate_left)
          · rw [hwl]; (first | lia | omega)
          rw [hcmp]
          exact h
        · rw [if_neg (by simpa using z)]; exact .int
        · rw [if_pos (by simpa using z)]; exact .int
        · (refine EV_compare ?_; refine EV_ncall ?_; refine EV_builtinF (id := "len") hE (by kernel_rfl) (by kernel_rfl) (by kernel_rfl) ?_; refine CW_go0 (KeepOk.bf _) ?_; refine AR_cons ?_; refine EV_local hE (by kernel_rfl) sH ?_; refine AR_nil ?_; (with_reducible refine CA_len_str ?_ ?_); rotate_left; refine EV_int ?_; (with_reducible refine O2_gt_int ?_); rotate_left)
          · rw [hwl]; (first | lia | omega)
          rw [hcmp]
          exact h
        intro m5 S5
        refine EX_nil ?_
        have eN : 4 * k + 2 + (p - (k + 2)) + 1 = 4 * k + 2 + (p + 1 - (k + 2)) := by (first | lia | omega)
        rw [eN] at S5
        (first | exact hRw3 ((WT' g).length - (p + 1)) _ _ (by (first | lia | omega)) ⟨p + 1, rfl, by (first | lia | omega), hpl, hp3, by exact (sS (sS w1)), by exact (sS (sS w2)), by exact (sS sH), by exact sH, by exact (sS (sS w5)), by exact (sS (sS w6)), S5⟩ | exact hQ2 _ _ _ ⟨(WT' g).length - (p + 1), by (first | lia | omega), p + 1, rfl, by (first | lia | omega), hpl, hp3, by exact (sS (sS w1)), by exact (sS (sS w2)), by exact (sS sH), by exact sH, by exact (sS (sS w5)), by exact (sS (sS w6)), S5⟩ | exact ⟨(WT' g).length - (p + 1), hQ2 _ _ _ ⟨by (first | lia | omega), p + 1, rfl, by (first | lia | omega), hpl, hp3, by exact (sS (sS w1)), by exact (sS (sS w2)), by exact (sS sH), by exact sH, by exact (sS (sS w5)), by exact (sS (sS w6)), S5⟩⟩ | exact ⟨(WT' g).length - (p + 1), by (first | lia | omega), p + 1, rfl, by (first | lia | omega), hpl, hp3, by exact (sS (sS w1)), by exact (sS (sS w2)), by exact (sS sH), by exact sH, by exact (sS (sS w5)), by exact (sS (sS w6)), S5⟩)
      · have hxl : x ∉ lettersC := by simpa using hb
        (refine And.intro ?_ ?_ <;> intro hb <;> try (cases hb; done))
        (first | exact hQ2 _ _ _ ⟨rfl, p, p1, p2, p3, fun y hy => by rw [hx] at hy; cases hy; exact hxl, w1, w2, w3, w4, w5, w6, S2⟩ | exact ⟨rfl, hQ2 _ _ _ ⟨p, p1, p2, p3, fun y hy => by rw [hx] at hy; cases hy; exact hxl, w1, w2, w3, w4, w5, w6, S2⟩⟩ | exact ⟨rfl, p, p1, p2, p3, fun y hy => by rw [hx] at hy; cases hy; exact hxl, w1, w2, w3, w4, w5, w6, S2⟩)
    · have hpl : p = (WT' g).length := by
        have : ¬ ((p : Int) < ((WT' g).length : Int)) := by simpa using hb
        (first | lia | omega)
      (refine And.intro ?_ ?_ <;> intro hb <;> try (cases hb; done))
      (first | exact hQ2 _ _ _ ⟨rfl, p, p1, p2, p3, fun y hy => by rw [hpl] at hy; simp at hy, w1, w2, w3, w4, w5, w6, S2⟩ | exact ⟨rfl, hQ2 _ _ _ ⟨p, p1, p2, p3, fun y hy => by rw [hpl] at hy; simp at hy, w1, w2, w3, w4, w5, w6, S2⟩⟩ | exact ⟨rfl, p, p1, p2, p3, fun y hy => by rw [hpl] at hy; simp at hy, w1, w2, w3, w4, w5, w6, S2⟩)
  (intro l2 m2 hq0; refine dn fun hG0 => ?_; rcases hq0 with ⟨p, p1, p2, p3, p4, w1, w2, w3, w4, w5, w6, S2⟩ <;> refine hG0 ?_ <;> clear hG0)
  have hwl : (((WT' g).take p).drop (k + 2)).length = p - (k + 2) := by simp; (first | lia | omega)
  have hwlet : ∀ c ∈ (((WT' g).take p).drop (k + 2)), c ∈ lettersC := fun c hc => by
    (refine dn fun hG0 => ?_; obtain ⟨j, hj, e⟩ := List.mem_iff_getElem.mp hc; refine hG0 ?_; clear hG0)
    have h1 : (((WT' g).take p).drop (k + 2))[j]? = some c := by rw [List.getElem?_eq_getElem hj, e]
    rw [hwl] at hj
    rw [List.getElem?_drop, List.getElem?_take, if_pos (by (first | lia | omega))] at h1
    exact p3 _ _ (by (first | lia | omega)) (by (first | lia | omega)) h1
  exact WT.mono (tail p _ l2 m2 p1 p2 hwl hwlet p4 (S2.le (by (first | lia | omega))) w1 w2 w3 w4 w5) fun _ _ _ h => hQ1 _ _ _ h
end
end Mine
end
section
open PySem PySem.W PyProof.Rows
set_option maxRecDepth 100000
set_option maxHeartbeats 8000000
set_option linter.unusedVariables false
namespace Mine
theorem up_eq {g : G} {ts : List (List Nat)} {e0' j : Nat} (h1 : e0' ≤ j) (h2 : j ≤ (WT' g).length) (h3 : ∀ i x, e0' ≤ i → i < j → (WT' g)[i]? = some x → [x] ∉ ts) (h4 : ∀ x, (WT' g)[j]? = some x → [x] ∈ ts) : upTo g ts e0' = ((WT' g).take j).drop e0' := by
  unfold upTo
  have e1 : (WT' g).drop e0' = ((WT' g).take j).drop e0' ++ (WT' g).drop j := by
    conv => lhs; rw [← List.take_append_drop j (WT' g)]
    rw [List.drop_append_of_le_length (by simp; (first | lia | omega))]
  rw [e1, List.takeWhile_append_of_pos]
  · have e2 : ((WT' g).drop j).takeWhile (fun x => !decide ([x] ∈ ts)) = [] := by
      cases hy : (WT' g)[j]? with
      | none => rw [List.drop_eq_nil_of_le (List.getElem?_eq_none_iff.mp hy)]; rfl
      | some x =>
        obtain ⟨hl, he⟩ := List.getElem?_eq_some_iff.mp hy
        rw [List.drop_eq_getElem_cons hl, he]
        exact List.takeWhile_cons_of_neg (by simpa using h4 x hy)
    rw [e2, List.append_nil]
  · intro a ha
    obtain ⟨i, hi, e⟩ := List.mem_iff_getElem.mp ha
    have h5 : (((WT' g).take j).drop e0')[i]? = some a := by rw [List.getElem?_eq_getElem hi, e]
    have hi2 : i < j - e0' := by simp at hi; (first | lia | omega)
    rw [List.getElem?_drop, List.getElem?_take, if_pos (by (first | lia | omega))] at h5
    simpa using h3 _ _ (by (first | lia | omega)) (by (first | lia | omega)) h5
section
variable {Z : Cz} {P : Params}
theorem c_plan3 (hP : P = Z.cx.w.params) {n : Nat} {M : Mem} {g : G} {now0 : Now} {nv0 : Value} (hgl : (WT' g).length ≤ 200) (h13 : 13 ∉ WT' g) {P0 : Addr → Prop} (hP0 : ∀ e, M e = none → P0 e) (hnv : NowA P0 M now0 nv0) (hnl : ∀ ty nm, now0 = some (ty, nm) → nm.length ≤ 300) :
    CL Z.cx (n + 4) (.ref 809) [.str (mkS (WT' g)) 0, nv0] (fun v m => ∃ Pl evs es, v = .ref Pl ∧ M Pl = none ∧ m Pl = some (.lst evs) ∧ All2 (EnA P0 m) es evs ∧ Ch (WT' g) (rr3 g) (fun k => k = (WT' g).length) 0 [] now0 es ∧ es.length ≤ 1000 ∧ ∀ a o, M a = some o → m a = some o) M := by
  refine CL_fn (binds := [("text", .str (mkS (WT' g)) 0), ("now", nv0)]) (by rfl) (by kernel_rfl) ?_ (by kernel_rfl) ?_
  · intro vs e
    obtain ⟨v1, v2, rfl, e1, e2⟩ := vs2 e
    exact ⟨[("text", v1), ("now", v2)], fun s hx => kp_binds hx (fun S => rfl), by simp [e1, e2]⟩
  · intro fz L env hE he; subst he; refine EX_gen fun Qg1 hQ1 => ?_
    rw [bindL2]
    (refine EX_cons ?_; refine E1_AssignName ?_ rfl; refine EV_list ?_; refine AR_nil ?_)
    (first | refine hQ1 _ _ _ ⟨by simp, fun Pl hPl => ?_⟩ | refine ⟨by simp, hQ1 _ _ _ ⟨fun Pl hPl => ?_⟩⟩ | refine ⟨by simp, fun Pl hPl => ?_⟩)
    (refine STn hE (by kernel_rfl) ?_)
    (refine EX_cons ?_; refine E1_AssignName ?_ rfl; refine EV_int ?_; refine STn hE (by kernel_rfl) ?_)
    (refine EX_cons ?_; refine E1_AssignName ?_ rfl; refine EV_str (l := []) (by kernel_rfl) ?_; refine STn hE (by kernel_rfl) ?_)
    have hPP : ∀ a, (P0 a ∧ a ≠ Pl) → a ≠ Pl := fun a h => h.2
    have hPf : ∀ e, M e = none → e ≠ Pl → (P0 e ∧ e ≠ Pl) := fun e h1 h2 => ⟨hP0 e h1, h2⟩
    refine EX_cons (E1_WhileG (I := fun kk l m => ∃ k, kk = (WT' g).length + 1 - k ∧ PI g M (fun a => P0 a ∧ a ≠ Pl) Pl now0 k l m) _ ⟨0, rfl, [], now0, nv0, by exact (sS (sS (sS (sS sH)))), by exact (sS (sS sH)), by exact (sS sH), by exact sH, by exact (sS (sS (sS sH))), Nat.zero_le _, hnl, ⟨[], [], setM_same _ _ _, .nil, fun tail ht => ht, Nat.zero_le _⟩, ?_, fun a o e => setM_old hPl e⟩ ?_)
    · exact hnv.keep (fun a l e => setM_old hPl e) (fun a l p e => ⟨setM_old hPl e, p, fun z => by rw [z, hPl] at e; cases e⟩)
    rintro kk l m ⟨k, rfl, kept, now, nv, l1, l2, l3, l4, l5, hk, hnb, S⟩ Rw2 hRw2
    refine TV_T (decide (k < (WT' g).length)) (fun m' => m' = m) ?_ ?_
    · (refine TV_compare ?_; refine EV_local hE (by kernel_rfl) l3 ?_; refine EV_ncall ?_; refine EV_builtinF (id := "len") hE (by kernel_rfl) (by kernel_rfl) (by kernel_rfl) ?_; refine CW_go0 (KeepOk.bf _) ?_; refine AR_cons ?_; refine EV_local hE (by kernel_rfl) l1 ?_; refine AR_nil ?_; (with_reducible refine CA_len_str ?_ ?_); rotate_left; (with_reducible refine O2_lt_int ?_); (with_reducible refine TR_bool ?_); rotate_left)
      · (first | lia | omega)
      (first | exact hQ1 _ _ _ ⟨by rw [decide_eq_decide]; (first | lia | omega), rfl, rfl⟩ | exact ⟨by rw [decide_eq_decide]; (first | lia | omega), hQ1 _ _ _ ⟨rfl, rfl⟩⟩ | exact ⟨by rw [decide_eq_decide]; (first | lia | omega), rfl, rfl⟩)
    rintro m' rfl
    (first | refine hQ1 _ _ _ ⟨fun ht => ?_, fun ht => ?_⟩ | refine ⟨fun ht => ?_, hQ1 _ _ _ ⟨fun ht => ?_⟩⟩ | refine ⟨fun ht => ?_, fun ht => ?_⟩)
    · have hlt : k < (WT' g).length := of_decide_eq_true ht
      obtain ⟨x, hx⟩ : ∃ x, (WT' g)[k]? = some x := ⟨_, List.getElem?_eq_getElem hlt⟩
      have ep : (k : Int) + 1 = ((k + 1 : Nat) : Int) := by (first | lia | omega)
      (refine EX_cons ?_; refine E1_AssignName ?_ rfl; refine EV_local hE (by kernel_rfl) l3 ?_; refine STn hE (by kernel_rfl) ?_)
      (refine EX_cons ?_; refine E1_AugLocal hE (by kernel_rfl) (sS l3) ?_; refine EV_int ?_; (with_reducible refine O2_iadd_int ?_); refine STn hE (by kernel_rfl) ?_)
      rw [ep]
      refine EX_abl (R := fun l => l "text" = some (.str (mkS (WT' g)) 0) ∧ l "plan" = some (.ref Pl) ∧ l "place" = some (.int (k + 1 : Nat) 0) ∧ l "kept" = some (.str (mkS kept) 0) ∧ l "now" = some nv ∧ l "start" = some (.int (k : Nat) 0)) ⟨by exact (sS (sS l1)), by exact (sS (sS l2)), by exact sH, by exact (sS (sS l4)), by exact (sS (sS l5)), by exact (sS sH)⟩ ?_
      clear l1 l2 l3 l4 l5
      rintro l ⟨l1, l2, l3, l4, l5, l6⟩
      refine EX_cutF (R := fun l3 m3 => l3 = l ∧ m3 = m' ∧ x = 60) ?_ ?_
      · refine E1_gen fun Qg3 hQ3 => ?_
        refine E1_IfT (decide (x ≠ 60)) (fun m => m = m') ?_ ?_ ?_
        · (refine TV_compare ?_; refine EV_sub ?_; refine EV_local hE (by kernel_rfl) l1 ?_; refine EV_local hE (by kernel_rfl) l6 ?_)
          refine SUB_str (j := k) (c := x) (by (first | lia | omega)) (by rw [if_neg (by (first | lia | omega))]) hx ?_
          (refine EV_str (l := [60]) (by kernel_rfl) ?_; (with_reducible refine O2_ne_str ?_); (with_reducible refine TR_bool ?_))
          (first | exact hQ3 _ _ _ ⟨by simp, rfl, rfl⟩ | exact ⟨by simp, hQ3 _ _ _ ⟨rfl, rfl⟩⟩ | exact ⟨by simp, rfl, rfl⟩)
        · rintro ht2 m3 rfl
          have hx60 : x ≠ 60 := of_decide_eq_true ht2
          refine EX_cut (R := fun l3 m4 => m4 = m3 ∧ ∃ j : Nat, k + 1 ≤ j ∧ j ≤ (WT' g).length ∧ rr3 g 0 k kept now = ⟨sayT (((WT' g).take j).drop k), j, kept, now, true⟩ ∧ l3 "text" = some (.str (mkS (WT' g)) 0) ∧ l3 "plan" = some (.ref Pl) ∧ l3 "place" = some (.int (j : Nat) 0) ∧ l3 "kept" = some (.str (mkS kept) 0) ∧ l3 "now" = some nv ∧ l3 "start" = some (.int (k : Nat) 0)) ?_ ?_
          · refine E1_gen fun Qg4 hQ4 => ?_
            refine E1_WhileG (I := fun kk l3 m4 => m4 = m3 ∧ ∃ j : Nat, kk = (WT' g).length - j ∧ k + 1 ≤ j ∧ j ≤ (WT' g).length ∧ (∀ i y, k + 1 ≤ i → i < j → (WT' g)[i]? = some y → [y] ∉ [[60], [0]]) ∧ (x = 0 → j = k + 1) ∧ l3 "text" = some (.str (mkS (WT' g)) 0) ∧ l3 "plan" = some (.ref Pl) ∧ l3 "place" = some (.int (j : Nat) 0) ∧ l3 "kept" = some (.str (mkS kept) 0) ∧ l3 "now" = some nv ∧ l3 "start" = some (.int (k : Nat) 0)) _
              ⟨rfl, k + 1, rfl, Nat.le_refl _, hlt, fun i y h1 h2 => by (first | lia | omega), fun _ => rfl, l1, l2, l3, l4, l5, l6⟩ ?_
            rintro kk l3 m4 ⟨rfl, j, rfl, j1, j2, j3, j4, w1, w2, w3, w4, w5, w6⟩ Rw5 hRw5
            have hxk : ((WT' g).take (k + 1)).drop k = [x] := sgn_some hx
            have stop : (x ≠ 0 → ∀ y, (WT' g)[j]? = some y → [y] ∈ [[60], [0]]) → rr3 g 0 k kept now = ⟨sayT (((WT' g).take j).drop k), j, kept, now, true⟩ := by
              intro hs
              by_cases h0 : x = 0
              · have hj := j4 h0
                subst hj h0
                rw [hxk]
                simp [rr3, ra0, hx, sayT]
              · have hu := up_eq (g := g) j1 j2 j3 (hs h0)
                have hul : (upTo g [[60], [0]] (k + 1)).length = j - (k + 1) := by rw [hu]; simp; (first | lia | omega)
                have hdk : ((WT' g).take j).drop k = x :: upTo g [[60], [0]] (k + 1) := by
                  (refine dn fun hG0 => ?_; obtain ⟨hl, he⟩ := List.getElem?_eq_some_iff.mp hx; refine hG0 ?_; clear hG0)
                  have h1 : ((WT' g).take j)[k]? = some x := by rw [List.getElem?_take, if_pos (by (first | lia | omega))]; exact hx
                  (refine dn fun hG0 => ?_; obtain ⟨hl', he'⟩ := List.getElem?_eq_some_iff.mp h1; refine hG0 ?_; clear hG0)
                  rw [List.drop_eq_getElem_cons hl', he', hu]
                have e0 : (x :: upTo g [[60], [0]] (k + 1)) ≠ [0] := fun z => h0 (List.cons.inj z).1
                have ej : k + 1 + (j - (k + 1)) = j := by (first | lia | omega)
                rw [hdk]
                simp only [rr3, ra0, hx, if_neg hx60, if_neg h0, sayT, if_neg e0, hul, ej]
                (first | exact hQ4 _ _ _ rfl | rfl)
            refine TV_T (decide (x ≠ 0) && decide (j < (WT' g).length ∧ ∀ y, (WT' g)[j]? = some y → [y] ∉ [[60], [0]])) (fun m => m = m4) ?_ ?_
            · refine TV_boolop ?_
              (refine TAll_and ?_; refine TV_compare ?_; refine EV_sub ?_; refine EV_local hE (by kernel_rfl) w1 ?_; refine EV_local hE (by kernel_rfl) w6 ?_)
              refine SUB_str (j := k) (c := x) (by (first | lia | omega)) (by rw [if_neg (by (first | lia | omega))]) hx ?_
              (refine EV_str (l := [0]) (by kernel_rfl) ?_; (with_reducible refine O2_ne_str ?_); (with_reducible refine TR_bool ?_))
              (refine And.intro ?_ ?_ <;> intro hb <;> try (cases hb; done))
              · have h0 : x ≠ 0 := by simpa using hb
                (refine TAll_and ?_; refine TV_compare ?_; refine EV_local hE (by kernel_rfl) w3 ?_; refine EV_ncall ?_; refine EV_builtinF (id := "len") hE (by kernel_rfl) (by kernel_rfl) (by kernel_rfl) ?_; refine CW_go0 (KeepOk.bf _) ?_; refine AR_cons ?_; refine EV_local hE (by kernel_rfl) w1 ?_; refine AR_nil ?_; (with_reducible refine CA_len_str ?_ ?_); rotate_left; (with_reducible refine O2_lt_int ?_); (with_reducible refine TR_bool ?_); rotate_left)
                · (first | lia | omega)
                (refine And.intro ?_ ?_ <;> intro hb <;> try (cases hb; done))
                · have hjl : j < (WT' g).length := by
                    have : (j : Int) < ((WT' g).length : Int) := by simpa using hb
                    (first | lia | omega)
                  obtain ⟨y, hy⟩ : ∃ y, (WT' g)[j]? = some y := ⟨_, List.getElem?_eq_getElem hjl⟩
                  (refine TAll_and ?_; refine TV_compare ?_; refine EV_sub ?_; refine EV_local hE (by kernel_rfl) w1 ?_; refine EV_local hE (by kernel_rfl) w3 ?_)
                  refine SUB_str (j := j) (c := y) (by (first | lia | omega)) (by rw [if_neg (by (first | lia | omega))]) hy ?_
                  refine EV_str (l := [60, 0]) (by kernel_rfl) ?_
                  refine O2_notin_sc ?_
                  with_reducible refine TR_bool ?_
                  (refine And.intro ?_ ?_ <;> intro hb <;> try (cases hb; done))
                  · have hyn : y ∉ [60, 0] := by simpa using hb
                    refine TAll_and_nil ?_
                    (first | exact hQ4 _ _ _ ⟨by rw [eq_comm]; simp only [Bool.and_eq_true, decide_eq_true_eq]; exact ⟨h0, hjl, fun z hz => by rw [hy] at hz; cases hz; simpa using hyn⟩, rfl, rfl⟩ | exact ⟨by rw [eq_comm]; simp only [Bool.and_eq_true, decide_eq_true_eq]; exact ⟨h0, hjl, fun z hz => by rw [hy] at hz; cases hz; simpa using hyn⟩, hQ4 _ _ _ ⟨rfl, rfl⟩⟩ | exact ⟨by rw [eq_comm]; simp only [Bool.and_eq_true, decide_eq_true_eq]; exact ⟨h0, hjl, fun z hz => by rw [hy] at hz; cases hz; simpa using hyn⟩, rfl, rfl⟩)
                  · have hyn : ¬ y ∉ [60, 0] := by simpa using hb
                    skip
                    (first | exact hQ4 _ _ _ ⟨by rw [eq_comm]; simp only [Bool.and_eq_false_iff, decide_eq_false_iff_not]; exact .inr fun z => hyn (by simpa using z.2 y hy), rfl, rfl⟩ | exact ⟨by rw [eq_comm]; simp only [Bool.and_eq_false_iff, decide_eq_false_iff_not]; exact .inr fun z => hyn (by simpa using z.2 y hy), hQ4 _ _ _ ⟨rfl, rfl⟩⟩ | exact ⟨by rw [eq_comm]; simp only [Bool.and_eq_false_iff, decide_eq_false_iff_not]; exact .inr fun z => hyn (by simpa using z.2 y hy), rfl, rfl⟩)
                · have hjl : ¬ j < (WT' g).length := by
                    have : ¬ ((j : Int) < ((WT' g).length : Int)) := by simpa using hb
                    (first | lia | omega)
                  skip
                  (first | exact hQ4 _ _ _ ⟨by rw [eq_comm]; simp only [Bool.and_eq_false_iff, decide_eq_false_iff_not]; exact .inr fun z => hjl z.1, rfl, rfl⟩ | exact ⟨by rw [eq_comm]; simp only [Bool.and_eq_false_iff, decide_eq_false_iff_not]; exact .inr fun z => hjl z.1, hQ4 _ _ _ ⟨rfl, rfl⟩⟩ | exact ⟨by rw [eq_comm]; simp only [Bool.and_eq_false_iff, decide_eq_false_iff_not]; exact .inr fun z => hjl z.1, rfl, rfl⟩)
              · have h0 : ¬ x ≠ 0 := by simpa using hb
                skip
                (first | exact hQ4 _ _ _ ⟨by rw [eq_comm]; simp only [Bool.and_eq_false_iff, decide_eq_false_iff_not]; exact .inl h0, rfl, rfl⟩ | exact ⟨by rw [eq_comm]; simp only [Bool.and_eq_false_iff, decide_eq_false_iff_not]; exact .inl h0, hQ4 _ _ _ ⟨rfl, rfl⟩⟩ | exact ⟨by rw [eq_comm]; simp only [Bool.and_eq_false_iff, decide_eq_false_iff_not]; exact .inl h0, rfl, rfl⟩)
            rintro m5 rfl
            (first | refine hQ4 _ _ _ ⟨fun ht3 => ?_, fun ht3 => ?_⟩ | refine ⟨fun ht3 => ?_, hQ4 _ _ _ ⟨fun ht3 => ?_⟩⟩ | refine ⟨fun ht3 => ?_, fun ht3 => ?_⟩)
            · simp only [Bool.and_eq_true, decide_eq_true_eq] at ht3
              (refine dn fun hG0 => ?_; obtain ⟨h0, hjl, hjy⟩ := ht3; refine hG0 ?_; clear hG0)
              (refine EX_cons ?_; refine E1_AugLocal hE (by kernel_rfl) w3 ?_; refine EV_int ?_; (with_reducible refine O2_iadd_int ?_); refine STn hE (by kernel_rfl) ?_)
              rw [show (j : Int) + 1 = ((j + 1 : Nat) : Int) by (first | lia | omega)]
              refine EX_nil ?_
              (first | refine hRw5 ((WT' g).length - (j + 1)) _ _ (by (first | lia | omega)) ⟨rfl, j + 1, rfl, by (first | lia | omega), hjl, fun i z i1 i2 hz => ?_, fun z => absurd z h0, by exact (sS w1), by exact (sS w2), by exact sH, by exact (sS w4), by exact (sS w5), by exact (sS w6)⟩ | refine hQ4 _ _ _ ⟨(WT' g).length - (j + 1), by (first | lia | omega), rfl, j + 1, rfl, by (first | lia | omega), hjl, fun i z i1 i2 hz => ?_, fun z => absurd z h0, by exact (sS w1), by exact (sS w2), by exact sH, by exact (sS w4), by exact (sS w5), by exact (sS w6)⟩ | refine ⟨(WT' g).length - (j + 1), hQ4 _ _ _ ⟨by (first | lia | omega), rfl, j + 1, rfl, by (first | lia | omega), hjl, fun i z i1 i2 hz => ?_, fun z => absurd z h0, by exact (sS w1), by exact (sS w2), by exact sH, by exact (sS w4), by exact (sS w5), by exact (sS w6)⟩⟩ | refine ⟨(WT' g).length - (j + 1), by (first | lia | omega), rfl, j + 1, rfl, by (first | lia | omega), hjl, fun i z i1 i2 hz => ?_, fun z => absurd z h0, by exact (sS w1), by exact (sS w2), by exact sH, by exact (sS w4), by exact (sS w5), by exact (sS w6)⟩)
              by_cases hi : i < j
              · exact j3 i z i1 hi hz
              · have : i = j := by (first | lia | omega)
                subst this
                exact hjy z hz
            · (first | refine hQ4 _ _ _ ⟨rfl, rfl, j, j1, j2, stop fun h0 y hy => ?_, w1, w2, w3, w4, w5, w6⟩ | refine ⟨rfl, hQ4 _ _ _ ⟨rfl, j, j1, j2, stop fun h0 y hy => ?_, w1, w2, w3, w4, w5, w6⟩⟩ | refine ⟨rfl, rfl, j, j1, j2, stop fun h0 y hy => ?_, w1, w2, w3, w4, w5, w6⟩)
              have hjl : j < (WT' g).length := (List.getElem?_eq_some_iff.mp hy).1
              simp only [Bool.and_eq_false_iff, decide_eq_false_iff_not] at ht3
              rcases ht3 with h | h
              · exact absurd h0 h
              · by_cases hm : [y] ∈ [[60], [0]]
                · exact hm
                · exact absurd ⟨hjl, fun z hz => by rw [hy] at hz; cases hz; exact hm⟩ h
          (intro l3 m4 hq0; refine dn fun hG0 => ?_; rcases hq0 with ⟨rfl, j, j1, j2, hr, w1, w2, w3, w4, w5, w6⟩ <;> refine hG0 ?_ <;> clear hG0)
          refine papp hP hPl hPP hPf hE (by (first | lia | omega)) S ((by kernel_rfl)) (by exact w2) hr .int (.nm hE ((by kernel_rfl)) (by exact w3)) (.nm hE ((by kernel_rfl)) (by exact w4)) (.nm hE ((by kernel_rfl)) (by exact w5)) .bool S.nw (psay (s := ((WT' g).take j).drop k) hP hE ((by kernel_rfl)) rfl (fun Q M h => ?_)) ?_
          · (refine EV_slice_str ?_; refine EV_local hE (by kernel_rfl) w1 ?_; (with_reducible first | refine exr ?_ | refine ⟨_, rfl, ?_⟩))
            (first | refine hQ3 _ _ _ ⟨by (first | lia | omega), ?_⟩ | refine ⟨by (first | lia | omega), hQ3 _ _ _ ⟨?_⟩⟩ | refine ⟨by (first | lia | omega), ?_⟩)
            (refine PT_some ?_; refine EV_local hE (by kernel_rfl) w6 ?_; (with_reducible first | refine exr ?_ | refine ⟨_, rfl, ?_⟩); refine PT_some ?_; refine EV_local hE (by kernel_rfl) w3 ?_; (with_reducible first | refine exr ?_ | refine ⟨_, rfl, ?_⟩))
            rw [pySl_nat]
            exact h
          intro m5 S5
          refine EX_cons ?_
          refine E1_Continue ?_
          (first | exact hQ3 _ _ _ (.inr ⟨by simp, hQ1 _ _ _ ⟨_, by (first | lia | omega), j, rfl, kept, now, nv, by exact w1, by exact w2, by exact w3, by exact w4, by exact w5, j2, hnb, S5.le (by (first | lia | omega))⟩⟩) | exact hQ3 _ _ _ (.inr ⟨by simp, hRw2 _ _ _ (by omega) ⟨j, rfl, kept, now, nv, by exact w1, by exact w2, by exact w3, by exact w4, by exact w5, j2, hnb, S5.le (by (first | lia | omega))⟩⟩) | exact hQ3 _ _ _ (.inr ⟨by simp, _, by (first | lia | omega), j, rfl, kept, now, nv, by exact w1, by exact w2, by exact w3, by exact w4, by exact w5, j2, hnb, S5.le (by (first | lia | omega))⟩) | exact .inr ⟨by simp, _, by (first | lia | omega), j, rfl, kept, now, nv, by exact w1, by exact w2, by exact w3, by exact w4, by exact w5, j2, hnb, S5.le (by (first | lia | omega))⟩)
        · rintro ht2 m3 rfl
          have hx60 : x = 60 := by simpa using ht2
          refine EX_nil ?_
          (first | exact hQ3 _ _ _ (.inl ⟨rfl, rfl, rfl, hx60⟩) | exact .inl ⟨rfl, rfl, rfl, hx60⟩)
      (intro l3 m3 hq0; refine dn fun hG0 => ?_; rcases hq0 with ⟨rfl, rfl, rfl⟩ <;> refine hG0 ?_ <;> clear hG0)
      refine papp hP hPl hPP hPf hE (by (first | lia | omega)) S ((by kernel_rfl)) (by exact l2) (st := 0) (r := ⟨[], k + 1, kept, now, false⟩) (by simp [rr3, ra0, hx]) .int (.nm hE ((by kernel_rfl)) (by exact l3)) (.nm hE ((by kernel_rfl)) (by exact l4)) (.nm hE ((by kernel_rfl)) (by exact l5)) .bool S.nw (pnil rfl) ?_
      intro m4 S4
      have ep2 : ((k + 1 : Nat) : Int) + 1 = ((k + 2 : Nat) : Int) := by (first | lia | omega)
      (refine EX_cons ?_; refine E1_AssignName ?_ rfl; refine EV_slice_str ?_; refine EV_local hE (by kernel_rfl) l1 ?_; (with_reducible first | refine exr ?_ | refine ⟨_, rfl, ?_⟩))
      (first | refine hQ1 _ _ _ ⟨by (first | lia | omega), ?_⟩ | refine ⟨by (first | lia | omega), hQ1 _ _ _ ⟨?_⟩⟩ | refine ⟨by (first | lia | omega), ?_⟩)
      (refine PT_some ?_; refine EV_local hE (by kernel_rfl) l3 ?_; (with_reducible first | refine exr ?_ | refine ⟨_, rfl, ?_⟩); refine PT_some ?_; refine EV_binop ?_; refine EV_local hE (by kernel_rfl) l3 ?_; refine EV_int ?_; (with_reducible refine O2_add_int ?_); (with_reducible first | refine exr ?_ | refine ⟨_, rfl, ?_⟩); refine STn hE (by kernel_rfl) ?_)
      have esg : pySl (WT' g) (some ((k + 1 : Nat) : Int)) (some (((k + 1 : Nat) : Int) + 1)) = sgn (WT' g) (k + 1) := by
        rw [ep2, pySl_nat]; rfl
      rw [esg]
      have hsgn : ∀ c, sgn (WT' g) (k + 1) = [c] ↔ (WT' g)[k + 1]? = some c := fun c => by
        cases hy : (WT' g)[k + 1]? with
        | none => rw [sgn_none hy]; simp
        | some y => rw [sgn_some hy]; simp
      refine EX_cons (E1_IfT (decide (sgn (WT' g) (k + 1) = [33])) (fun m => m = m4) ?_ ?_ ?_)
      · (refine TV_compare ?_; refine EV_local hE (by kernel_rfl) sH ?_; refine EV_str (l := [33]) (by kernel_rfl) ?_; (with_reducible refine O2_eq_str ?_); (with_reducible refine TR_bool ?_))
        (first | exact hQ1 _ _ _ ⟨rfl, rfl, rfl⟩ | exact ⟨rfl, hQ1 _ _ _ ⟨rfl, rfl⟩⟩ | exact ⟨rfl, rfl, rfl⟩)
      · rintro ht3 m5 rfl
        have h33 := (hsgn 33).mp (of_decide_eq_true ht3)
        refine WT.mono (plan_bang hP hgl hPl hPP hPf hE rfl h33 hnb S4 (by exact (sS l1)) (by exact (sS l2)) (by exact (sS l3)) (by exact (sS l4)) (by exact (sS l5)) (by exact (sS l6))) ?_
        rintro f l4 m6 ⟨hf, k', hk', hPI⟩
        have hk2 : k' ≤ (WT' g).length := hPI.choose_spec.choose_spec.choose_spec.2.2.2.2.2.1
        rcases hf with hf | hf
        · show seqQ _ _ _ _ _ _ _ (erF f) l4 m6
          rw [hf]
          refine seq_next ?_
          refine EX_nil ?_
          (first | exact hRw2 (_) _ _ (by (first | lia | omega)) ⟨k', rfl, hPI⟩ | exact hQ1 _ _ _ ⟨_, by (first | lia | omega), k', rfl, hPI⟩ | exact ⟨_, hQ1 _ _ _ ⟨by (first | lia | omega), k', rfl, hPI⟩⟩ | exact ⟨_, by (first | lia | omega), k', rfl, hPI⟩)
        · show seqQ _ _ _ _ _ _ _ (erF f) l4 m6
          rw [hf]
          (first | exact hRw2 (_) _ _ (by (first | lia | omega)) ⟨k', rfl, hPI⟩ | exact hQ1 _ _ _ ⟨_, by (first | lia | omega), k', rfl, hPI⟩ | exact ⟨_, hQ1 _ _ _ ⟨by (first | lia | omega), k', rfl, hPI⟩⟩ | exact ⟨_, by (first | lia | omega), k', rfl, hPI⟩)
      · rintro ht3 m5 rfl
        have h33 : ¬ (WT' g)[k + 1]? = some 33 := fun z => of_decide_eq_false ht3 ((hsgn 33).mpr z)
        refine EX_cons (E1_IfT (decide (sgn (WT' g) (k + 1) = [47])) (fun m => m = m5) ?_ ?_ ?_)
        · (refine TV_compare ?_; refine EV_local hE (by kernel_rfl) sH ?_; refine EV_str (l := [47]) (by kernel_rfl) ?_; (with_reducible refine O2_eq_str ?_); (with_reducible refine TR_bool ?_))
          (first | exact hQ1 _ _ _ ⟨rfl, rfl, rfl⟩ | exact ⟨rfl, hQ1 _ _ _ ⟨rfl, rfl⟩⟩ | exact ⟨rfl, rfl, rfl⟩)
        · rintro ht4 m6 rfl
          have h47 := (hsgn 47).mp (of_decide_eq_true ht4)
          refine WT.mono (plan_sl hP hgl h13 hPl hPP hPf hE rfl h47 hnb S4 (by exact (sS l1)) (by exact (sS l2)) (by exact (sS l3)) (by exact (sS l4)) (by exact (sS l5)) (by exact (sS l6))) ?_
          rintro f l4 m7 ⟨hf, k', hk', hPI⟩
          have hk2 : k' ≤ (WT' g).length := hPI.choose_spec.choose_spec.choose_spec.2.2.2.2.2.1
          rcases hf with hf | hf
          · show seqQ _ _ _ _ _ _ _ (erF f) l4 m7
            rw [hf]
            refine seq_next ?_
            refine EX_nil ?_
            refine seq_next ?_
            refine EX_nil ?_
            (first | exact hRw2 (_) _ _ (by (first | lia | omega)) ⟨k', rfl, hPI⟩ | exact hQ1 _ _ _ ⟨_, by (first | lia | omega), k', rfl, hPI⟩ | exact ⟨_, hQ1 _ _ _ ⟨by (first | lia | omega), k', rfl, hPI⟩⟩ | exact ⟨_, by (first | lia | omega), k', rfl, hPI⟩)
          · show seqQ _ _ _ _ _ _ _ (erF f) l4 m7
            rw [hf]
            (first | exact hRw2 (_) _ _ (by (first | lia | omega)) ⟨k', rfl, hPI⟩ | exact hQ1 _ _ _ ⟨_, by (first | lia | omega), k', rfl, hPI⟩ | exact ⟨_, hQ1 _ _ _ ⟨by (first | lia | omega), k', rfl, hPI⟩⟩ | exact ⟨_, by (first | lia | omega), k', rfl, hPI⟩)
        · rintro ht4 m6 rfl
          have h47 : ¬ (WT' g)[k + 1]? = some 47 := fun z => of_decide_eq_false ht4 ((hsgn 47).mpr z)
          refine papp hP hPl hPP hPf hE (by (first | lia | omega)) S4 ((by kernel_rfl)) (by exact (sS l2)) (st := 1) (r := ⟨sayT [60], k + 1, kept, now, false⟩) ?_ .int (.nm hE ((by kernel_rfl)) (by exact (sS l3))) (.nm hE ((by kernel_rfl)) (by exact (sS l4))) (.nm hE ((by kernel_rfl)) (by exact (sS l5))) .bool S4.nw (psay (s := [60]) hP hE ((by kernel_rfl)) rfl (.str (l := [60]) (by kernel_rfl))) ?_
          · cases hy : (WT' g)[k + 1]? with
            | none => simp [rr3, ra1, hy, sayT]
            | some y =>
              have n33 : y ≠ 33 := fun z => h33 (by rw [hy, z])
              have n47 : y ≠ 47 := fun z => h47 (by rw [hy, z])
              simp [rr3, ra1, hy, sayT, n33, n47]
          intro m7 S7
          (refine EXn ?_; refine EXn ?_; refine EX_nil ?_)
          (first | exact hRw2 (_) _ _ (by (first | lia | omega)) ⟨k + 1, rfl, kept, now, nv, by exact (sS l1), by exact (sS l2), by exact (sS l3), by exact (sS l4), by exact (sS l5), hlt, hnb, S7.le (by (first | lia | omega))⟩ | exact hQ1 _ _ _ ⟨_, by (first | lia | omega), k + 1, rfl, kept, now, nv, by exact (sS l1), by exact (sS l2), by exact (sS l3), by exact (sS l4), by exact (sS l5), hlt, hnb, S7.le (by (first | lia | omega))⟩ | exact ⟨_, hQ1 _ _ _ ⟨by (first | lia | omega), k + 1, rfl, kept, now, nv, by exact (sS l1), by exact (sS l2), by exact (sS l3), by exact (sS l4), by exact (sS l5), hlt, hnb, S7.le (by (first | lia | omega))⟩⟩ | exact ⟨_, by (first | lia | omega), k + 1, rfl, kept, now, nv, by exact (sS l1), by exact (sS l2), by exact (sS l3), by exact (sS l4), by exact (sS l5), hlt, hnb, S7.le (by (first | lia | omega))⟩)
    · have hkl2 : k = (WT' g).length := by
        have := of_decide_eq_false ht; (first | lia | omega)
      (refine seq_next ?_; refine EX_cons ?_; refine E1_Return ?_; refine EV_local hE (by kernel_rfl) l2 ?_; refine seq_ret ?_)
      (refine dn fun hG0 => ?_; obtain ⟨es2, evs2, q1, q2, q3, q4⟩ := S.h; refine hG0 ?_; clear hG0)
      (first | refine hQ1 _ _ _ ⟨Pl, evs2, es2, rfl, hPl, q1, q2.mono fun _ _ t => t.keep (fun _ _ e => e) (fun _ _ e => e) (fun _ _ p e => ⟨e, p.1⟩), ?_, by (first | lia | omega), S.kp⟩ | refine ⟨Pl, hQ1 _ _ _ ⟨evs2, es2, rfl, hPl, q1, q2.mono fun _ _ t => t.keep (fun _ _ e => e) (fun _ _ e => e) (fun _ _ p e => ⟨e, p.1⟩), ?_, by (first | lia | omega), S.kp⟩⟩ | refine ⟨Pl, evs2, es2, rfl, hPl, q1, q2.mono fun _ _ t => t.keep (fun _ _ e => e) (fun _ _ e => e) (fun _ _ p e => ⟨e, p.1⟩), ?_, by (first | lia | omega), S.kp⟩)
      have := q3 [] hkl2
      rwa [List.append_nil] at this
end
end Mine
end
section
open PySem PySem.W PyProof.Rows
set_option maxRecDepth 100000
set_option maxHeartbeats 4000000
set_option linter.unusedVariables false
namespace Mine
theorem RdM.mono {X : Cx} {M m : Mem} {a : Addr} {o : AO} (h : RdM X M a o) (k : ∀ a o, M a = some o → m a = some o) : RdM X m a o := h.elim (fun e => .inl ⟨k _ _ e.1, e.2⟩) .inr
theorem SameM.mono {X : Cx} {M m : Mem} {n : Nat} {v w : Value} (h : SameM X M n v w) (k : ∀ a o, M a = some o → m a = some o) : SameM X m n v w := by
  induction h with
  | int => exact .int _ _
  | str => exact .str _ _
  | none => exact .none _
  | bool => exact .bool _ _
  | lst h1 h2 h3 _ ih => exact .lst (h1.mono k) (h2.mono k) h3 ih
  | tup h1 h2 h3 _ ih => exact .tup (h1.mono k) (h2.mono k) h3 ih
theorem SameD.mono {X : Cx} {M m : Mem} {v w : Value} (h : SameD X M v w) (k : ∀ a o, M a = some o → m a = some o) : SameD X m v w := by
  obtain ⟨a, b, es, fs, h1, h2, h3, h4, h5, h6, h7⟩ := h
  exact ⟨a, b, es, fs, h1, h2, h3.mono k, h4.mono k, h5, h6, fun j x y hx hy => (h7 j x y hx hy).mono k⟩
theorem tk_same {X : Cx} {M : Mem} {t : TK} {v w : Value} (h1 : TkL M t v) (h2 : TkL M t w) : SameD X M v w := by
  cases t with
  | err s =>
    obtain ⟨a, rfl, ha⟩ := h1
    obtain ⟨b, rfl, hb⟩ := h2
    refine ⟨a, b, _, _, rfl, rfl, .dct ha, .dct hb, rfl, by simp; decide +kernel, fun j x y hx hy => ?_⟩
    match j, hx, hy with
    | 0, hx, hy => cases hx; cases hy; exact .int _ _
    | 1, hx, hy => cases hx; cases hy; exact .str _ _
  | chars s =>
    obtain ⟨a, rfl, ha⟩ := h1
    obtain ⟨b, rfl, hb⟩ := h2
    refine ⟨a, b, _, _, rfl, rfl, .dct ha, .dct hb, rfl, by simp; decide +kernel, fun j x y hx hy => ?_⟩
    match j, hx, hy with
    | 0, hx, hy => cases hx; cases hy; exact .int _ _
    | 1, hx, hy => cases hx; cases hy; exact .str _ _
  | tag ty nm =>
    obtain ⟨a, e, rfl, ha, he⟩ := h1
    obtain ⟨b, f, rfl, hb, hf⟩ := h2
    refine ⟨a, b, _, _, rfl, rfl, .dct ha, .dct hb, rfl, by simp [tagD]; decide +kernel, fun j x y hx hy => ?_⟩
    match j, hx, hy with
    | 0, hx, hy => cases hx; cases hy; exact .int _ _
    | 1, hx, hy => cases hx; cases hy; exact .str _ _
    | 2, hx, hy => cases hx; cases hy; exact .lst (.lst he) (.lst hf) rfl (fun j x y hx => by cases hx)
    | 3, hx, hy => cases hx; cases hy; exact .bool _ _
theorem all2_same {X : Cx} {M : Mem} : ∀ {toks : List TK} {xs ys : List Value}, All2 (TkL M) toks xs → All2 (TkL M) toks ys → xs.length = ys.length ∧ ∀ (j : Nat) x y, xs[j]? = some x → ys[j]? = some y → SameD X M x y
  | _, _, _, .nil, .nil => ⟨rfl, fun j x y hx => by cases hx⟩
  | _, _, _, .cons a r, .cons b s => by
    obtain ⟨h1, h2⟩ := all2_same (X := X) r s
    refine ⟨by simp [h1], fun j x y hx hy => ?_⟩
    match j, hx, hy with
    | 0, hx, hy => cases hx; cases hy; exact tk_same a b
    | j + 1, hx, hy => exact h2 j x y hx hy
section
variable {M m : Mem} {g : G} {T q lf : Addr} {k bk : Nat} {kept : List Nat} {now : Option (Int × List Nat)} {sv : Value} {toks : List TK} {ct : Value} {vs : List Value}
theorem TAt.kinds (h : TAt M g T q lf k bk kept now sv toks ct vs) (kt : KT g T q M m) : (∀ a l, M a = some (.dct l) → m a = some (.dct l)) ∧ (∀ a l, a ≠ g.E → a ≠ q → M a = some (.lst l) → m a = some (.lst l)) := by
  obtain ⟨pre, c, co, b, p, S, _⟩ := h.hat
  obtain ⟨es, hE, _⟩ := S.hE
  have hT := h.hT
  have hq := h.hq
  have hS := S.hS
  have hX := S.hX
  refine ⟨fun a l e => kt a _ (fun z => ?_) (fun z => ?_) (fun z => ?_) (fun z => ?_) (fun z => ?_) e, fun a l h1 h2 e => kt a _ (fun z => ?_) (fun z => ?_) h1 (fun z => ?_) h2 e⟩
  · rw [z, hS] at e; cases e
  · rw [z, hX] at e; cases e
  · rw [z, hE] at e; cases e
  · rw [z, hT] at e; cases e
  · rw [z, hq] at e; cases e
  · rw [z, hS] at e; cases e
  · rw [z, hX] at e; cases e
  · rw [z, hT] at e; cases e
theorem TAt.ktTk (h : TAt M g T q lf k bk kept now sv toks ct vs) (kt : KT g T q M m) {t : TK} {v : Value} (r : TkRep g q M t v) : TkRep g q m t v :=
  r.keep (h.kinds kt).1 (fun a h1 h2 e => (h.kinds kt).2 a _ h1 h2 e)
theorem TAt.ktNow (h : TAt M g T q lf k bk kept now sv toks ct vs) (kt : KT g T q M m) {now' : Option (Int × List Nat)} {v : Value} (r : NowR g q M now' v) : NowR g q m now' v :=
  r.keep (h.kinds kt).1 (fun a h1 h2 e => (h.kinds kt).2 a _ h1 h2 e)
theorem NowR.newQ {q' : Addr} (hq' : M q' = none) {v : Value} (h : NowR g q M now v) : NowR g q' M now v := by
  cases now with
  | none => exact h
  | some p =>
    obtain ⟨ty, nm⟩ := p
    obtain ⟨a, e, h1, h2, h3, h4, h5⟩ := h
    exact ⟨a, e, h1, h2, h3, h4, fun z => by rw [z, hq'] at h3; cases h3⟩
theorem TAt.newQ (h : TAt M g T q lf k bk kept now sv toks ct vs) {q' : Addr} (hq' : M q' = none) :
    TAt (setM (setM M q' (.lst [])) T (.inst 762 9 (tblF (tkT g lf sv ct q' kept)))) g T q' lf k bk kept now sv [] ct [] := by
  obtain ⟨t1, t2, t3, t4, q1, q2, q3, q4, tq⟩ := h.geo
  obtain ⟨pre, c, co, b, p, S, _⟩ := id h.hat
  obtain ⟨es, hE, _⟩ := S.hE
  have hT := h.hT
  have nq : ∀ a o, M a = some o → a ≠ q' := fun a o e z => by rw [z, hq'] at e; cases e
  have kp : ∀ a o, a ≠ T → M a = some o → setM (setM M q' (.lst [])) T (.inst 762 9 (tblF (tkT g lf sv ct q' kept))) a = some o := fun a o i e => (setM_ne _ _ i).trans ((setM_ne _ _ (nq _ _ e)).trans e)
  refine ⟨h.hat.off ?_ ?_ ?_ ?_, setM_same _ _ _, ?_, ?_, .nil, (nq _ _ hE).symm⟩
  · rw [S.hS]; exact kp _ _ t1.symm S.hS
  · rw [S.hX]; exact kp _ _ t2.symm S.hX
  · rw [hE]; exact kp _ _ t3.symm hE
  · rw [S.hQ]; exact kp _ _ t4.symm S.hQ
  · have := h.hn.newQ hq'
    cases now with
    | none => exact this
    | some p =>
      obtain ⟨ty, nm⟩ := p
      obtain ⟨a, e, h1, h2, h3, h4, h5⟩ := this
      exact ⟨a, e, h1, kp _ _ (fun z => by rw [z, hT] at h2; cases h2) h2, kp _ _ (fun z => by rw [z, hT] at h3; cases h3) h3, h4, h5⟩
  · exact (setM_ne _ _ (nq _ _ hT).symm).trans (setM_same _ _ _)
theorem TAt.kindsT (h : TAt M g T q lf k bk kept now sv toks ct vs) (kt : KT g T q M m) : ∀ a l, M a = some (.tup l) → m a = some (.tup l) := by
  obtain ⟨pre, c, co, b, p, S, _⟩ := h.hat
  obtain ⟨es, hE, _⟩ := S.hE
  have hT := h.hT
  have hq := h.hq
  have hS := S.hS
  have hX := S.hX
  refine fun a l e => kt a _ (fun z => ?_) (fun z => ?_) (fun z => ?_) (fun z => ?_) (fun z => ?_) e
  · rw [z, hS] at e; cases e
  · rw [z, hX] at e; cases e
  · rw [z, hE] at e; cases e
  · rw [z, hT] at e; cases e
  · rw [z, hq] at e; cases e
end
noncomputable abbrev PA (g : G) (q : Addr) : Addr → Prop := fun e => e ≠ g.E ∧ e ≠ q
theorem rr3_ok {g : G} {st k : Nat} {kept : List Nat} {now : Now} {B : Nat} (hkc : ∀ c ∈ kept, c ∈ lettersC) (hkl : kept.length ≤ B) (hnl : ∀ ty nm, now = some (ty, nm) → nm.length ≤ 300 + B) :
    (rr3 g st k kept now).kept.length ≤ B + 1 ∧ (∀ c ∈ (rr3 g st k kept now).kept, c ∈ lettersC) ∧ ∀ ty nm, (rr3 g st k kept now).now = some (ty, nm) → nm.length ≤ 300 + B := by
  have hsame : kept.length ≤ B + 1 ∧ (∀ c ∈ kept, c ∈ lettersC) ∧ ∀ ty nm, now = some (ty, nm) → nm.length ≤ 300 + B := ⟨by (first | lia | omega), hkc, hnl⟩
  have hnil : ([] : List Nat).length ≤ B + 1 ∧ (∀ c ∈ ([] : List Nat), c ∈ lettersC) ∧ ∀ ty nm, now = some (ty, nm) → nm.length ≤ 300 + B := ⟨by simp, by simp, hnl⟩
  have hone : ∀ x, x ∈ lettersC → ([x] : List Nat).length ≤ B + 1 ∧ (∀ c ∈ ([x] : List Nat), c ∈ lettersC) ∧ ∀ ty nm, now = some (ty, nm) → nm.length ≤ 300 + B := fun x hx => ⟨by simp, by simpa using hx, hnl⟩
  have happ : ∀ x, x ∈ lettersC → (kept ++ [x]).length ≤ B + 1 ∧ (∀ c ∈ kept ++ [x], c ∈ lettersC) ∧ ∀ ty nm, now = some (ty, nm) → nm.length ≤ 300 + B := fun x hx => ⟨by simp; (first | lia | omega), fun c hc => by
    rcases List.mem_append.mp hc with h | h
    · exact hkc c h
    · rw [List.mem_singleton.mp h]; exact hx, hnl⟩
  have htag : ∀ nm', nm'.length = kept.length → kept.length ≤ B + 1 ∧ (∀ c ∈ kept, c ∈ lettersC) ∧ ∀ ty nm, (some ((4 : Int), nm') : Now) = some (ty, nm) → nm.length ≤ 300 + B := fun nm' h => ⟨by (first | lia | omega), hkc, fun ty nm e => by cases e; (first | lia | omega)⟩
  unfold rr3
  split
  · unfold ra0; split
    · repeat' split
      all_goals exact hsame
    · exact hsame
  · unfold ra1; split
    · split
      · exact hnil
      · split
        · exact hsame
        · exact hsame
    · exact hsame
  · unfold ra2; split
    · split
      · rename_i h; exact happ _ h
      · exact hsame
    · exact hsame
  · unfold r7; split
    · split
      · exact htag _ rfl
      · split
        · exact htag _ (by simp)
        · split
          · rename_i h; exact happ _ h
          · exact hsame
    · exact hsame
  · unfold r0; split
    · repeat' split
      all_goals exact hsame
    · exact hsame
  · unfold r1; split
    · repeat' split
      all_goals exact hsame
    · exact hsame
  · exact hsame
end Mine
end
section
open PySem PySem.W PyProof.Rows
set_option maxRecDepth 100000
set_option maxHeartbeats 4000000
set_option linter.unusedVariables false
namespace Mine
section
variable {Z : Cz} {P : Params}
theorem c_call3 (hP : P = Z.cx.w.params) {n : Nat} {M : Mem} {g : G} {T q lf : Addr} {k st : Nat} {kept s : List Nat} {now : Option (Int × List Nat)} {ct : Value} (hst : st < 7) (h0 : st = 0 → k < (WT' g).length) (h7 : st = 6 → k < (WT' g).length ∧ s = sgn (WT' g) k) (h : TAt M g T q lf k 0 kept now .none [] ct [])
    (hkl : kept.length ≤ 100000) (hkc : ∀ c ∈ kept, c < 1114000) (hnl : ∀ ty nm, now = some (ty, nm) → nm.length ≤ 100000) :
    CL Z.cx (n + 8) (.ref 788) [.ref T, .int st 0, .str (mkS s) 0] (fun v m => v = .bool true ∧ ResAt M m g T q lf (rr3 g st k kept now)) M := by
  refine CL_fn (binds := [("t", .ref T), ("state", .int st 0), ("sign", .str (mkS s) 0)]) (by rfl) (by kernel_rfl) ?_ (by kernel_rfl) ?_
  · intro vs e
    obtain ⟨v1, v2, v3, rfl, e1, e2, e3⟩ := vs3 e
    exact ⟨[("t", v1), ("state", v2), ("sign", v3)], fun s hx => kp_binds hx (fun S => rfl), by simp [e1, e2, e3]⟩
  · intro fz L env hE he; subst he
    rw [bindL3]
    have hT := h.hT
    unfold tkT at hT
    match st, hst, h0, h7 with
    | 0, _, h0, _ =>
      obtain ⟨x, hx⟩ : ∃ x, (WT' g)[k]? = some x := ⟨_, List.getElem?_eq_getElem (h0 rfl)⟩
      (refine IFi hE (by kernel_rfl) (sS sH) ?_; (refine And.intro ?_ ?_ <;> intro hb <;> try (cases hb; done)); refine EX_cons ?_; refine E1_Return ?_; refine EV_mcall ?_; refine EV_local hE (by kernel_rfl) (sS (sS sH)) ?_; refine GM_meth (g := 339) hT (tkNo (by kernel_rfl)) (mok (by kernel_rfl)) ?_; refine CW_go1 (KeepOk.rf (by kernel_rfl)) ?_; refine AR_nil ?_)
      refine CA_CL ((c_t0 hP (n := n) h hkl).mono ?_) (by (first | lia | omega))
      (refine el1 ?_; intro m r)
      rw [hx]
      (refine seq_ret ?_; refine seq_ret ?_)
      exact ⟨rfl, r⟩
    | 1, _, _, _ =>
      (refine IFiN hE (by kernel_rfl) (sS sH) (by kernel_rfl) ?_; refine IFi hE (by kernel_rfl) (sS sH) ?_; (refine And.intro ?_ ?_ <;> intro hb <;> try (cases hb; done)); refine EX_cons ?_; refine E1_Return ?_; refine EV_mcall ?_; refine EV_local hE (by kernel_rfl) (sS (sS sH)) ?_; refine GM_meth (g := 416) hT (tkNo (by kernel_rfl)) (mok (by kernel_rfl)) ?_; refine CW_go1 (KeepOk.rf (by kernel_rfl)) ?_; refine AR_nil ?_)
      refine CA_CL ((c_t1 hP (n := n) h hkl).mono ?_) (by (first | lia | omega))
      (refine el1 ?_; intro m r)
      (refine seq_ret ?_; refine seq_ret ?_)
      exact ⟨rfl, r⟩
    | 2, _, _, _ =>
      (refine IFiN hE (by kernel_rfl) (sS sH) (by kernel_rfl) ?_; refine IFiN hE (by kernel_rfl) (sS sH) (by kernel_rfl) ?_; refine IFi hE (by kernel_rfl) (sS sH) ?_; (refine And.intro ?_ ?_ <;> intro hb <;> try (cases hb; done)); refine EX_cons ?_; refine E1_Return ?_; refine EV_mcall ?_; refine EV_local hE (by kernel_rfl) (sS (sS sH)) ?_; refine GM_meth (g := 423) hT (tkNo (by kernel_rfl)) (mok (by kernel_rfl)) ?_; refine CW_go1 (KeepOk.rf (by kernel_rfl)) ?_; refine AR_nil ?_)
      refine CA_CL ((c_t2 hP (n := n) h hkl).mono ?_) (by (first | lia | omega))
      (refine el1 ?_; intro m r)
      (refine seq_ret ?_; refine seq_ret ?_)
      exact ⟨rfl, r⟩
    | 3, _, _, _ =>
      (refine IFiN hE (by kernel_rfl) (sS sH) (by kernel_rfl) ?_; refine IFiN hE (by kernel_rfl) (sS sH) (by kernel_rfl) ?_; refine IFiN hE (by kernel_rfl) (sS sH) (by kernel_rfl) ?_; refine IFi hE (by kernel_rfl) (sS sH) ?_; (refine And.intro ?_ ?_ <;> intro hb <;> try (cases hb; done)); refine EX_cons ?_; refine E1_Return ?_; refine EV_mcall ?_; refine EV_local hE (by kernel_rfl) (sS (sS sH)) ?_; refine GM_meth (g := 430) hT (tkNo (by kernel_rfl)) (mok (by kernel_rfl)) ?_; refine CW_go1 (KeepOk.rf (by kernel_rfl)) ?_; refine AR_nil ?_)
      refine CA_CL ((c_t3 hP (n := n) h hkl hkc hnl).mono ?_) (by (first | lia | omega))
      (refine el1 ?_; intro m r)
      (refine seq_ret ?_; refine seq_ret ?_)
      exact ⟨rfl, r⟩
    | 4, _, _, _ =>
      (refine IFiN hE (by kernel_rfl) (sS sH) (by kernel_rfl) ?_; refine IFiN hE (by kernel_rfl) (sS sH) (by kernel_rfl) ?_; refine IFiN hE (by kernel_rfl) (sS sH) (by kernel_rfl) ?_; refine IFiN hE (by kernel_rfl) (sS sH) (by kernel_rfl) ?_; refine IFi hE (by kernel_rfl) (sS sH) ?_; (refine And.intro ?_ ?_ <;> intro hb <;> try (cases hb; done)); refine EX_cons ?_; refine E1_Return ?_; refine EV_mcall ?_; refine EV_local hE (by kernel_rfl) (sS (sS sH)) ?_; refine GM_meth (g := 437) hT (tkNo (by kernel_rfl)) (mok (by kernel_rfl)) ?_; refine CW_go1 (KeepOk.rf (by kernel_rfl)) ?_; refine AR_nil ?_)
      refine CA_CL ((c_s0 hP (n := n) h).mono ?_) (by (first | lia | omega))
      (refine el1 ?_; intro m r)
      (refine seq_ret ?_; refine seq_ret ?_)
      exact ⟨rfl, r⟩
    | 5, _, _, _ =>
      (refine IFiN hE (by kernel_rfl) (sS sH) (by kernel_rfl) ?_; refine IFiN hE (by kernel_rfl) (sS sH) (by kernel_rfl) ?_; refine IFiN hE (by kernel_rfl) (sS sH) (by kernel_rfl) ?_; refine IFiN hE (by kernel_rfl) (sS sH) (by kernel_rfl) ?_; refine IFiN hE (by kernel_rfl) (sS sH) (by kernel_rfl) ?_; refine IFi hE (by kernel_rfl) (sS sH) ?_; (refine And.intro ?_ ?_ <;> intro hb <;> try (cases hb; done)); refine EX_cons ?_; refine E1_Return ?_; refine EV_mcall ?_; refine EV_local hE (by kernel_rfl) (sS (sS sH)) ?_; refine GM_meth (g := 444) hT (tkNo (by kernel_rfl)) (mok (by kernel_rfl)) ?_; refine CW_go1 (KeepOk.rf (by kernel_rfl)) ?_; refine AR_nil ?_)
      refine CA_CL ((c_s1 hP (n := n) h).mono ?_) (by (first | lia | omega))
      (refine el1 ?_; intro m r)
      (refine seq_ret ?_; refine seq_ret ?_)
      exact ⟨rfl, r⟩
    | 6, _, _, h7 =>
      (refine dn fun hG0 => ?_; obtain ⟨hk, hs⟩ := h7 rfl; refine hG0 ?_; clear hG0)
      obtain ⟨x, hx⟩ : ∃ x, (WT' g)[k]? = some x := ⟨_, List.getElem?_eq_getElem hk⟩
      rw [sgn_some hx] at hs
      (refine dn fun hG0 => ?_; obtain ⟨pre1, c1, co1, b1, p1, S1, _⟩ := id (TAt.hat h); refine hG0 ?_; clear hG0)
      have hS1 := S1.hS
      unfold stT at hS1
      (refine IFiN hE (by kernel_rfl) (sS sH) (by kernel_rfl) ?_; refine IFiN hE (by kernel_rfl) (sS sH) (by kernel_rfl) ?_; refine IFiN hE (by kernel_rfl) (sS sH) (by kernel_rfl) ?_; refine IFiN hE (by kernel_rfl) (sS sH) (by kernel_rfl) ?_; refine IFiN hE (by kernel_rfl) (sS sH) (by kernel_rfl) ?_; refine IFiN hE (by kernel_rfl) (sS sH) (by kernel_rfl) ?_; refine EX_cons ?_; refine E1_Return ?_; refine EV_compare ?_; refine EV_mcall ?_; refine EVaf hE (by kernel_rfl) (sS (sS sH)) hT tH (fok (by kernel_rfl)) ?_; refine GM_meth (g := 133) hS1 (stNo (by kernel_rfl)) (mok (by kernel_rfl)) ?_; refine CW_go1 (KeepOk.rf (by kernel_rfl)) ?_; refine AR_nil ?_)
      refine CA_CL ((c_char (n := n) (TAt.hat h)).mono ?_) (by (first | lia | omega))
      (intro v m1 hq0; refine dn fun hG0 => ?_; rcases hq0 with ⟨kp1, ⟨y, hy, rfl, hat1⟩ | ⟨hy, rfl, hat1⟩⟩ <;> refine hG0 ?_ <;> clear hG0)
      · rw [hx] at hy
        cases hy
        have h1 := TAt.step h kp1 hat1
        have k1 : KT g T q M m1 := (KT.refl _ _ _ _).kp kp1
        (refine EV_local hE (by kernel_rfl) sH ?_; (with_reducible refine O2_eq_str ?_); refine seq_ret ?_)
        refine ⟨by rw [hs]; simp; rfl, ResAt.intro (r := ⟨[], k + 1, kept, now, true⟩) h1 k1 (.inl ⟨rfl, rfl⟩)⟩
      · rw [hx] at hy; cases hy
end
end Mine
end
section
open PySem PySem.W PyProof.Rows
set_option maxRecDepth 100000
set_option maxHeartbeats 8000000
set_option linter.unusedVariables false
namespace Mine
theorem All2.at {α β : Type} {R : α → β → Prop} : ∀ {l : List α} {s : List β}, All2 R l s → ∀ {i : Nat} {v : β}, s[i]? = some v → ∃ e, l[i]? = some e ∧ R e v
  | _, _, .nil, i, v, h => by cases h
  | _, _, .cons a r, 0, v, h => by cases h; exact ⟨_, rfl, a⟩
  | _, _, .cons a r, i + 1, v, h => r.at (i := i) h
theorem TkA.toRep {g : G} {q : Addr} {M : Mem} {t : TK} {v : Value} (h : TkA (PA g q) M t v) : TkRep g q M t v := by
  cases t with
  | err s => exact h
  | chars s => exact h
  | tag ty nm => obtain ⟨a, e, h1, h2, h3, h4⟩ := h; exact ⟨a, e, h1, h2, h3, h4.1, h4.2⟩
theorem NowA.toRep {g : G} {q : Addr} {M : Mem} {now : Now} {v : Value} (h : NowA (PA g q) M now v) : NowR g q M now v := by
  cases now with
  | none => exact h
  | some p => obtain ⟨ty, nm⟩ := p; exact TkA.toRep (t := .tag ty nm) h
noncomputable def wsOf (m : Mem) (evs : List Value) (i : Nat) : List Value := match evs[i]? with
  | some (.ref b) => (match m b with | some (.tup l) => l | _ => [])
  | _ => []
structure JL (l : Loc) (m m0 : Mem) (g : G) (T lf Pl : Addr) (evs : List Value) (es : List En) (i : Nat) : Prop where
  h : ∃ k kept now sv ct q, l "mended" = some (.str (mkS (WT' g)) 0) ∧ l "t" = some (.ref T) ∧ TAt m g T q lf k 0 kept now sv [] ct [] ∧ m Pl = some (.lst evs) ∧ PA g q Pl ∧ All2 (EnA (PA g q) m) es evs ∧
    Ch (WT' g) (rr3 g) (fun k => k = (WT' g).length) k kept now (es.drop i) ∧ kept.length ≤ i ∧ (∀ c ∈ kept, c ∈ lettersC) ∧ (∀ ty nm, now = some (ty, nm) → nm.length ≤ 300 + i) ∧ ∀ a l, m0 a = some (.tup l) → m a = some (.tup l)
section
variable {Z : Cz} {P : Params}
theorem law_turn3 (hP : P = Z.cx.w.params) {n : Nat} (hn9 : 9 ≤ n) {fz : Frz} {L : Addr} {env : Env} {nm : Str} {fa : Addr} {cd : Value} (he : env = envOf nm (scopeAt (KP P) 814) L fa cd) {l : Loc} {m m0 : Mem} {g : G} {T lf Pl : Addr} {evs : List Value} {es : List En} {i : Nat}
    (hgl : (WT' g).length ≤ 200) (hi : i < 1000) {e : En} {v : Value} (hei : es[i]? = some e) (hvi : evs[i]? = some v) (J : JL l m m0 g T lf Pl evs es i) {nv : Value} {B : Addr}
    (l1 : l "state" = some (.int e.st 0)) (l2 : l "due" = some (.ref B)) (l3 : l "place" = some (.int e.r.k 0)) (l4 : l "kept" = some (.str (mkS e.r.kept) 0)) (l5 : l "now" = some nv) (l6 : l "stays" = some (.bool e.r.stays))
    (hent : ∀ a, v = .ref a → m a = some (.tup [.int e.st 0, .ref B, .int e.r.k 0, .str (mkS e.r.kept) 0, nv, .bool e.r.stays])) :
    EX Z.cx n fz L env (forBody ((bodyAt (KP P) 814).drop 10)) (fun f l' m' => f = .next ∧ JL l' m' m0 g T lf Pl evs es (i + 1)) l m := by
  conv at he => rhs; arg 2; whnf
  conv => arg 6; whnf
  have hE : Fun env L := by subst he; exact ⟨rfl, rfl, rfl, rfl⟩
  subst he
  refine EX_gen fun Qg1 hQ1 => ?_
  cases e with | mk st r =>
  dsimp only at l1 l2 l3 l4 l5 l6 hent
  (refine dn fun hG0 => ?_; obtain ⟨k, kept, now, sv, ct, q, j1, j2, tat, hPl, hPlA, hallE, hch, hkl, hkc, hnl, ktup⟩ := J.h; refine hG0 ?_; clear hG0)
  have hdr : es.drop i = ⟨st, r⟩ :: es.drop (i + 1) := by
    (refine dn fun hG0 => ?_; obtain ⟨hl, he'⟩ := List.getElem?_eq_some_iff.mp hei; refine hG0 ?_; clear hG0)
    rw [List.drop_eq_getElem_cons hl, he']
  rw [hdr] at hch
  (refine dn fun hG0 => ?_; obtain ⟨hst, h60, hr, hch2⟩ := hch; refine hG0 ?_; clear hG0)
  dsimp only at hst h60 hr hch2
  (refine dn fun hG0 => ?_; obtain ⟨e', he1, hEn⟩ := hallE.at hvi; refine hG0 ?_; clear hG0)
  rw [hei] at he1
  cases he1
  (refine dn fun hG0 => ?_; obtain ⟨a, B', vs', nv', hva, hta, hBl, hPB, htk, hnw⟩ := hEn; refine hG0 ?_; clear hG0)
  have := hent a hva
  rw [hta] at this
  simp only [Option.some.injEq, tup_inj, List.cons.injEq, Value.ref.injEq, true_and, and_true] at this
  (refine dn fun hG0 => ?_; obtain ⟨hBB, hnn⟩ := this; refine hG0 ?_; clear hG0)
  subst hBB hnn
  obtain ⟨n, rfl⟩ : ∃ n', n = n' + 9 := ⟨n - 9, by (first | lia | omega)⟩
  have hnext := rr3_ok (g := g) (st := st) (k := k) hkc hkl hnl
  rw [← hr] at hnext
  have hT := tat.hT
  unfold tkT at hT
  have hk0 : k ≤ (WT' g).length := tat.hat.le
  dsimp only at hBl hPB htk hnw hta
  have hB := hBl
  have hall : All2 (TkRep g q m) r.toks vs' := htk.mono fun _ _ h => h.toRep
  have hnv1 := hnw.toRep
  (refine dn fun hG0 => ?_; obtain ⟨hDE, hDq⟩ := hPlA; refine hG0 ?_; clear hG0)
  (refine dn fun hG0 => ?_; obtain ⟨hBE, hBq⟩ := hPB; refine hG0 ?_; clear hG0)
  have hlowk : ∀ c ∈ kept, c < 128 := fun c hc => by
    have : ∀ c ∈ lettersC, c < 128 := by decide
    exact this _ (hkc c hc)
  (refine EX_cons ?_; refine E1_AssignAttr ?_ rfl; refine EV_none ?_; refine EV_local hE (by kernel_rfl) j2 ?_; refine SA_tbl hT (sok (by kernel_rfl)) (.inl ⟨(by kernel_rfl), rfl⟩) (by decide) ptk4 ?_; refine seq_next ?_)
  -- t.state = None
  have tat2 := tat.set .none kept
  have ne1 : ∀ a o, (∀ kk f, o ≠ .inst 762 kk f) → m a = some o → setM m T (.inst 762 9 (tblF (tkT g lf .none ct q kept))) a = some o := fun a o ho e => (setM_ne _ _ (fun z => by rw [z, hT] at e; cases e; exact ho _ _ rfl)).trans e
  have hB2 := ne1 _ _ (fun _ _ z => by cases z) hB
  have hPl2 := ne1 _ _ (fun _ _ z => by cases z) hPl
  have hall2 : All2 (TkRep g q (setM m T (.inst 762 9 (tblF (tkT g lf .none ct q kept))))) r.toks vs' := hall.mono fun _ _ h => h.keep (fun a l e => ne1 _ _ (fun _ _ z => by cases z) e) (fun a _ _ e => ne1 _ _ (fun _ _ z => by cases z) e)
  have hnv2 : NowR g q (setM m T (.inst 762 9 (tblF (tkT g lf .none ct q kept)))) r.now nv' := hnv1.keep (fun a l e => ne1 _ _ (fun _ _ z => by cases z) e) (fun a _ _ e => ne1 _ _ (fun _ _ z => by cases z) e)
  have hallE2 : All2 (EnA (PA g q) (setM m T (.inst 762 9 (tblF (tkT g lf .none ct q kept))))) es evs := hallE.mono fun _ _ h => h.keep (fun a l e => ne1 _ _ (fun _ _ z => by cases z) e) (fun a l e => ne1 _ _ (fun _ _ z => by cases z) e) (fun a l p e => ⟨ne1 _ _ (fun _ _ z => by cases z) e, p⟩)
  have ktup2 : ∀ a l, m0 a = some (.tup l) → setM m T (.inst 762 9 (tblF (tkT g lf .none ct q kept))) a = some (.tup l) := fun a l e => ne1 _ _ (fun _ _ z => by cases z) (ktup a l e)
  change EX Z.cx (n + 9) fz L _ _ _ _ (setM m T (.inst 762 9 (tblF (tkT g lf .none ct q kept))))
  generalize setM m T (.inst 762 9 (tblF (tkT g lf .none ct q kept))) = m2 at *
  obtain ⟨sg, hsg⟩ : ∃ sg : List Nat, sg = pySl (WT' g) (some ((r.k : Int) - 1)) (some (r.k : Int)) := ⟨_, rfl⟩
  have h6' : st = 6 → k < (WT' g).length ∧ sg = sgn (WT' g) k := fun h => by
    (first | refine hQ1 _ _ _ ⟨h60 (.inl h), ?_⟩ | refine ⟨h60 (.inl h), hQ1 _ _ _ ⟨?_⟩⟩ | refine ⟨h60 (.inl h), ?_⟩)
    have : r.k = k + 1 := by rw [hr, h]; rfl
    rw [hsg, this, show ((k + 1 : Nat) : Int) - 1 = (k : Int) by (first | lia | omega), pySl_nat]; rfl
  (refine EX_cons ?_; refine E1_AssignName ?_ rfl; refine EV_ncall ?_; refine EV_gref (a := 788) hE (by kernel_rfl) (by kernel_rfl) ?_; refine CW_go0 (KeepOk.rf (by kernel_rfl)) ?_; refine AR_cons ?_; refine EV_local hE (by kernel_rfl) j2 ?_; refine AR_cons ?_; refine EV_local hE (by kernel_rfl) l1 ?_; refine AR_cons ?_; refine EV_slice_str ?_; refine EV_local hE (by kernel_rfl) j1 ?_; (with_reducible first | refine exr ?_ | refine ⟨_, rfl, ?_⟩))
  (first | refine hQ1 _ _ _ ⟨by (first | lia | omega), ?_⟩ | refine ⟨by (first | lia | omega), hQ1 _ _ _ ⟨?_⟩⟩ | refine ⟨by (first | lia | omega), ?_⟩)
  (refine PT_some ?_; refine EV_binop ?_; refine EV_local hE (by kernel_rfl) l3 ?_; refine EV_int ?_; (with_reducible refine O2_sub_int ?_); (with_reducible first | refine exr ?_ | refine ⟨_, rfl, ?_⟩); refine PT_some ?_; refine EV_local hE (by kernel_rfl) l3 ?_; (with_reducible first | refine exr ?_ | refine ⟨_, rfl, ?_⟩); refine AR_nil ?_)
  rw [← hsg]
  refine CA_CL ((c_call3 hP (n := n) hst (fun h => h60 (.inr h)) h6' tat2 (by (first | lia | omega)) (fun c hc => by have := hlowk c hc; (first | lia | omega)) (fun ty nm e => by have := hnl ty nm e; (first | lia | omega))).mono ?_) (by (first | lia | omega))
  (intro v m3 hq0; refine dn fun hG0 => ?_; rcases hq0 with ⟨rfl, sv', ct', vs9, tat3, kt, hstay⟩ <;> refine hG0 ?_ <;> clear hG0)
  rw [← hr] at tat3 hstay
  have hallE3 : All2 (EnA (PA g q) m3) es evs := hallE2.mono fun _ _ h => h.keep (tat2.kinds kt).1 (tat2.kindsT kt) (fun a l p e => ⟨(tat2.kinds kt).2 a l p.1 p.2 e, p⟩)
  have ktup3 : ∀ a l, m0 a = some (.tup l) → m3 a = some (.tup l) := fun a l e => tat2.kindsT kt a l (ktup2 a l e)
  have hB3 := (tat2.kinds kt).2 _ _ hBE hBq hB2
  have hPl3 := (tat2.kinds kt).2 _ _ hDE hDq hPl2
  have hall3 : All2 (TkRep g q m3) r.toks vs' := hall2.mono fun _ _ h => tat2.ktTk kt h
  have hnv3 : NowR g q m3 r.now nv' := tat2.ktNow kt hnv2
  have hT3 := tat3.hT
  unfold tkT at hT3
  (refine STn hE (by kernel_rfl) ?_)
  (refine EX_cons ?_; refine E1_AssignName ?_ rfl; refine EVaf hE (by kernel_rfl) (sS j2) hT3 tkf7 (fok (by kernel_rfl)) ?_; refine STn hE (by kernel_rfl) ?_)
  (refine EX_cons ?_; refine E1_AssignAttr ?_ rfl; refine EV_list ?_; refine AR_nil ?_)
  (first | refine hQ1 _ _ _ ⟨by simp, fun q' hq' => ?_⟩ | refine ⟨by simp, hQ1 _ _ _ ⟨fun q' hq' => ?_⟩⟩ | refine ⟨by simp, fun q' hq' => ?_⟩)
  (refine EV_local hE (by kernel_rfl) (sS (sS j2)) ?_; refine SA_tbl (setM_old hq' hT3) (sok (by kernel_rfl)) (.inl ⟨(by kernel_rfl), rfl⟩) (by decide) (pS (pS (pS (pS (pS (pS (pS pH))))))) ?_; refine seq_next ?_)
  have tat5 := tat3.newQ hq'
  have nq' : ∀ a o, m3 a = some o → a ≠ q' := fun a o e z => by rw [z, hq'] at e; cases e
  have kp5 : ∀ a o, a ≠ T → m3 a = some o → setM (setM m3 q' (.lst [])) T (.inst 762 9 (tblF (tkT g lf sv' ct' q' r.kept))) a = some o := fun a o i e => (setM_ne _ _ i).trans ((setM_ne _ _ (nq' _ _ e)).trans e)
  have ne3 : ∀ a o, (∀ kk f, o ≠ .inst 762 kk f) → m3 a = some o → setM (setM m3 q' (.lst [])) T (.inst 762 9 (tblF (tkT g lf sv' ct' q' r.kept))) a = some o := fun a o ho e => kp5 a o (fun z => by rw [z, hT3] at e; cases e; exact ho _ _ rfl) e
  have hq5 := ne3 _ _ (fun _ _ z => by cases z) tat3.hq
  have hB5 := ne3 _ _ (fun _ _ z => by cases z) hB3
  have hPl5 := ne3 _ _ (fun _ _ z => by cases z) hPl3
  have hDq5 := nq' _ _ hPl3
  have hall5 : All2 (TkL (setM (setM m3 q' (.lst [])) T (.inst 762 9 (tblF (tkT g lf sv' ct' q' r.kept))))) r.toks vs' := hall3.mono fun _ _ h => (h.keep (fun a l e => ne3 _ _ (fun _ _ z => by cases z) e) (fun a _ _ e => ne3 _ _ (fun _ _ z => by cases z) e)).toL
  have hall5' : All2 (TkL (setM (setM m3 q' (.lst [])) T (.inst 762 9 (tblF (tkT g lf sv' ct' q' r.kept))))) r.toks vs9 := tat3.ha.mono fun _ _ h => (h.keep (fun a l e => ne3 _ _ (fun _ _ z => by cases z) e) (fun a _ _ e => ne3 _ _ (fun _ _ z => by cases z) e)).toL
  have hnv5 : NowR g q' (setM (setM m3 q' (.lst [])) T (.inst 762 9 (tblF (tkT g lf sv' ct' q' r.kept)))) r.now nv' := (hnv3.newQ hq').keep (fun a l e => ne3 _ _ (fun _ _ z => by cases z) e) (fun a _ _ e => ne3 _ _ (fun _ _ z => by cases z) e)
  have hallE5 : All2 (EnA (PA g q') (setM (setM m3 q' (.lst [])) T (.inst 762 9 (tblF (tkT g lf sv' ct' q' r.kept))))) es evs := hallE3.mono fun _ _ h => h.keep (fun a l e => ne3 _ _ (fun _ _ z => by cases z) e) (fun a l e => ne3 _ _ (fun _ _ z => by cases z) e) (fun a l p e => ⟨ne3 _ _ (fun _ _ z => by cases z) e, p.1, nq' _ _ e⟩)
  have ktup5 : ∀ a l, m0 a = some (.tup l) → setM (setM m3 q' (.lst [])) T (.inst 762 9 (tblF (tkT g lf sv' ct' q' r.kept))) a = some (.tup l) := fun a l e => ne3 _ _ (fun _ _ z => by cases z) (ktup3 a l e)
  change EX Z.cx (n + 9) fz L _ _ _ _ (setM (setM m3 q' (.lst [])) T (.inst 762 9 (tblF (tkT g lf sv' ct' q' r.kept))))
  generalize setM (setM m3 q' (.lst [])) T (.inst 762 9 (tblF (tkT g lf sv' ct' q' r.kept))) = m5 at *
  have hk5 : r.k ≤ (WT' g).length := tat5.hat.le
  have hT5 := tat5.hT
  unfold tkT at hT5
  (refine EX_cons ?_; refine E1_AssignName ?_ rfl; refine EV_mcall ?_; refine EV_slice_str ?_; refine EV_local hE (by kernel_rfl) (sS (sS j1)) ?_; (with_reducible first | refine exr ?_ | refine ⟨_, rfl, ?_⟩))
  (first | refine hQ1 _ _ _ ⟨by (first | lia | omega), ?_⟩ | refine ⟨by (first | lia | omega), hQ1 _ _ _ ⟨?_⟩⟩ | refine ⟨by (first | lia | omega), ?_⟩)
  (refine dn fun hG0 => ?_; obtain ⟨ts, ts1, ts2, z, ts3, ts4⟩ := split_lines ((WT' g).take r.k); refine hG0 ?_; clear hG0)
  have hcnt : ((WT' g).take r.k).count 10 ≤ 200 := by
    have := List.count_le_length (a := 10) (l := (WT' g).take r.k)
    simp at this; (first | lia | omega)
  (refine PT_none ?_; refine PT_some ?_; refine EV_local hE (by kernel_rfl) (sS (sS l3)) ?_; (with_reducible first | refine exr ?_ | refine ⟨_, rfl, ?_⟩); (with_reducible refine GM_split ?_); refine CW_go1 (KeepOk.bf _) ?_; refine AR_cons ?_; refine EV_str (l := [10]) (by kernel_rfl) ?_; refine AR_nil ?_; (with_reducible refine CA_split ?_ ?_ ?_ ?_))
  · decide +kernel
  · rw [pySl_upto, mkS_length]; simp; (first | lia | omega)
  · rw [pySl_upto, ts1, List.length_map]; (first | lia | omega)
  rw [pySl_upto, ts1]
  intro DL hDL
  (refine STn hE (by kernel_rfl) ?_)
  have emap : (ts.map mkS).map (fun z => Value.str z 0) = strsV ts := by unfold strsV; rw [List.map_map]; rfl
  rw [emap]
  have kp6 : ∀ a o, m5 a = some o → setM m5 DL (.lst (strsV ts)) a = some o := fun a o e => setM_old hDL e
  have hL6 : setM m5 DL (.lst (strsV ts)) DL = some (.lst (strsV ts)) := setM_same _ _ _
  generalize setM m5 DL (.lst (strsV ts)) = m6 at *
  have tat6 := tat5.grow kp6
  refine EX_cut (R := fun l' m' => l' = (setL (setL (setL l "going" (.bool true)) "row" (.ref q)) "lines" (.ref DL)) ∧ ∀ a o, m6 a = some o → m' a = some o) ?_ ?_
  · refine E1_gen fun Qg2 hQ2 => ?_
    (refine dn fun hG0 => ?_; obtain ⟨sm, sm2⟩ := all2_same (X := Z.cx) hall5' hall5; refine hG0 ?_; clear hG0)
    have hT6 := tat6.hT
    unfold tkT at hT6
    (refine dn fun hG0 => ?_; obtain ⟨pre6, c6, co6, b6, p6, S6, _⟩ := id tat6.hat; refine hG0 ?_; clear hG0)
    have hS6 := S6.hS
    unfold stT at hS6
    refine E1_If ?_
    refine TV_boolop ?_
    (refine TAll_or ?_; refine TV_compare ?_; refine EV_local hE (by kernel_rfl) (sS (sS sH)) ?_; refine EV_bool ?_; (with_reducible refine O2_isnot_bool ?_); (with_reducible refine TR_bool ?_); (refine And.intro ?_ ?_ <;> intro hb <;> try (cases hb; done)); refine TAll_or ?_; refine TV_compare ?_; refine EV_local hE (by kernel_rfl) (sS sH) ?_; refine EV_local hE (by kernel_rfl) (sS (sS (sS l2))) ?_)
    refine O2_ne_dcts (.lst (kp6 _ _ hq5)) (.lst (kp6 _ _ hB5)) sm (fun j x y hx hy => (sm2 j x y hx hy).mono kp6) (by (first | lia | omega)) ?_
    ((with_reducible refine TR_bool ?_); (refine And.intro ?_ ?_ <;> intro hb <;> try (cases hb; done)); refine TAll_or ?_; refine TV_compare ?_; refine EV_mcall ?_; refine EVaf hE (by kernel_rfl) (sS (sS (sS j2))) hT6 tkf0 (fok (by kernel_rfl)) ?_; refine GM_meth (g := 126) hS6 (stNo (by kernel_rfl)) (mok (by kernel_rfl)) ?_; refine CW_go1 (KeepOk.rf (by kernel_rfl)) ?_; refine AR_nil ?_)
    refine CA_CL ((c_position (n := n) tat6.hat).mono ?_) (by (first | lia | omega))
    (intro v m7 hq0; refine dn fun hG0 => ?_; rcases hq0 with ⟨DP, rfl, hDP, kp7⟩ <;> refine hG0 ?_ <;> clear hG0)
    have hL7 := kp7 _ _ hL6
    have el0 : (strsV ts).length = ((WT' g).take r.k).count 10 + 1 := by unfold strsV; rw [List.length_map]; exact ts2
    have hz : trail ((WT' g).take r.k) ≤ 200 := by
      have := trail_le ((WT' g).take r.k)
      simp at this; (first | lia | omega)
    (refine EV_tuple ?_; refine AR_cons ?_; refine EV_ncall ?_; refine EV_builtinF (id := "len") hE (by kernel_rfl) (by kernel_rfl) (by kernel_rfl) ?_; refine CW_go0 (KeepOk.bf _) ?_; refine AR_cons ?_; refine EV_local hE (by kernel_rfl) sH ?_; refine AR_nil ?_; refine CA_len_list (.lst hL7) ?_ ?_; rotate_left; refine AR_cons ?_; refine EV_ncall ?_; refine EV_builtinF (id := "len") hE (by kernel_rfl) (by kernel_rfl) (by kernel_rfl) ?_; refine CW_go0 (KeepOk.bf _) ?_; refine AR_cons ?_; refine EV_sub ?_; refine EV_local hE (by kernel_rfl) sH ?_; refine EV_unop ?_; refine EV_int ?_; (with_reducible refine O1_neg_int ?_); rotate_left)
    · (first | lia | omega)
    refine SUB_list_neg (.lst hL7) (by decide) (by (first | lia | omega)) (by decide) (x := .str (mkS z) 0) ?_ ?_
    · have e9 : (-1 + ((strsV ts).length : Int)).toNat = ts.length - 1 := by (first | lia | omega)
      rw [e9]
      unfold strsV
      rw [List.getElem?_map, ← List.getLast?_eq_getElem?, ts3]; rfl
    (refine AR_nil ?_; (with_reducible refine CA_len_str ?_ ?_); rotate_left; refine AR_nil ?_; rotate_left)
    · (first | lia | omega)
    (first | refine hQ2 _ _ _ ⟨by simp, fun D' hD' => ?_⟩ | refine ⟨by simp, hQ2 _ _ _ ⟨fun D' hD' => ?_⟩⟩ | refine ⟨by simp, fun D' hD' => ?_⟩)
    rw [el0, ts4]
    refine O2_ne_tups (.tup (setM_old hD' hDP)) (.tup (setM_same _ _ _)) rfl (fun j x y hx hy => ?_) (by (first | lia | omega)) ?_
    · match j, hx, hy with
      | 0, hx, hy => cases hx; cases hy; exact .int _ _
      | 1, hx, hy => cases hx; cases hy; exact .int _ _
    ((with_reducible refine TR_bool ?_); (refine And.intro ?_ ?_ <;> intro hb <;> try (cases hb; done)); refine TAll_or_nil ?_; (refine And.intro ?_ ?_ <;> intro hb <;> try (cases hb; done)); refine EX_nil ?_)
    (first | exact hQ2 _ _ _ ⟨rfl, rfl, fun a o e => setM_old hD' (kp7 _ _ e)⟩ | exact ⟨rfl, hQ2 _ _ _ ⟨rfl, fun a o e => setM_old hD' (kp7 _ _ e)⟩⟩ | exact ⟨rfl, rfl, fun a o e => setM_old hD' (kp7 _ _ e)⟩)
  (intro l6 m7 hq0; refine dn fun hG0 => ?_; rcases hq0 with ⟨rfl, kp7⟩ <;> refine hG0 ?_ <;> clear hG0)
  have tat7 := tat6.grow kp7
  have hT7 := tat7.hT
  unfold tkT at hT7
  have kp57 : ∀ a o, m5 a = some o → m7 a = some o := fun a o e => kp7 _ _ (kp6 _ _ e)
  have fin : ∀ l', l' "mended" = some (.str (mkS (WT' g)) 0) → l' "t" = some (.ref T) → JL l' m7 m0 g T lf Pl evs es (i + 1) :=
    fun l' j1 j2 => ⟨r.k, r.kept, r.now, sv', ct', q', j1, j2, tat7, kp57 _ _ hPl5, ⟨hDE, hDq5⟩, hallE5.mono fun _ _ h => h.keep (fun _ _ e => kp57 _ _ e) (fun _ _ e => kp57 _ _ e) (fun _ _ p e => ⟨kp57 _ _ e, p⟩), hch2, hnext.1, hnext.2.1, fun ty nm e => by have := hnext.2.2 ty nm e; (first | lia | omega), fun a l e => kp57 _ _ (ktup5 a l e)⟩
  have go : ∀ {Q : QV} {loc : Loc}, Q (.bool false) loc m7 → O2 Z.cx (n + 9) fz L (compareOp .NotEq) ct' nv' Q loc m7 := by
    intro Q loc h
    have h1 := tat7.hn
    have h2 := hnv5.kp kp57
    cases hnow : r.now with
    | none =>
      rw [hnow] at h1 h2
      have e1 : ct' = .none := h1
      have e2 : nv' = .none := h2
      subst e1 e2
      exact O2_ne_none_none h
    | some p =>
      (refine dn fun hG0 => ?_; obtain ⟨ty, nm⟩ := p; refine hG0 ?_; clear hG0)
      rw [hnow] at h1 h2
      exact O2_ne_dct (tk_same (TkRep.toL (t := .tag ty nm) h1) (TkRep.toL (t := .tag ty nm) h2)) (by (first | lia | omega)) h
  have hcts : ct' = .none ∨ ∃ a, ct' = .ref a := by
    have h1 := tat7.hn
    cases hnow : r.now with
    | none => rw [hnow] at h1; exact .inl h1
    | some p =>
      (refine dn fun hG0 => ?_; obtain ⟨ty, nm⟩ := p; refine hG0 ?_; clear hG0)
      rw [hnow] at h1
      (refine dn fun hG0 => ?_; obtain ⟨a, e, h2, _⟩ := h1; refine hG0 ?_; clear hG0)
      (first | exact hQ1 _ _ _ (.inr ⟨a, h2⟩) | exact .inr ⟨a, h2⟩)
  rcases hcts with rfl | ⟨a9, rfl⟩
  · refine EX_cons ?_
    refine E1_If ?_
    (refine TV_boolop ?_; refine TAll_or ?_; refine TV_compare ?_; refine EVaf hE (by kernel_rfl) (sS (sS (sS j2))) hT7 tkf8 (fok (by kernel_rfl)) ?_; refine EV_local hE (by kernel_rfl) (sS (sS (sS l4))) ?_; (with_reducible refine O2_ne_str ?_); (with_reducible refine TR_bool ?_))
    (refine And.intro ?_ ?_ <;> intro hb <;> try (cases hb; done))
    · exact absurd hb (by simp)
    (refine TAll_or ?_; refine TV_compare ?_; refine EVaf hE (by kernel_rfl) (sS (sS (sS j2))) hT7 tkf6 (fok (by kernel_rfl)) ?_; refine EV_local hE (by kernel_rfl) (sS (sS (sS l5))) ?_)
    refine go ?_
    with_reducible refine TR_bool ?_
    (refine And.intro ?_ ?_ <;> intro hb <;> try (cases hb; done))
    (refine TAll_or ?_; refine TV_compare ?_; refine EV_compare ?_; refine EV_attr ?_; refine EV_local hE (by kernel_rfl) (sS (sS (sS j2))) ?_)
    rcases hstay with ⟨rfl, hs⟩ | ⟨⟨z, rfl⟩, hs⟩
    · rw [hs] at l6
      (refine GA_field hT7 tkf4 (fok (by kernel_rfl)) ?_; refine EV_none ?_; (with_reducible refine O2_is_none ?_); refine EV_local hE (by kernel_rfl) (sS (sS (sS l6))) ?_; (with_reducible refine O2_ne_bool ?_); (with_reducible refine TR_bool ?_); (refine And.intro ?_ ?_ <;> intro hb <;> try (cases hb; done)); refine TAll_or_nil ?_; (refine And.intro ?_ ?_ <;> intro hb <;> try (cases hb; done)); refine EXn ?_; refine EX_nil ?_)
      (first | exact hQ1 _ _ _ ⟨rfl, fin _ (by exact (sS (sS (sS j1)))) (by exact (sS (sS (sS j2))))⟩ | exact ⟨rfl, hQ1 _ _ _ ⟨fin _ (by exact (sS (sS (sS j1)))) (by exact (sS (sS (sS j2))))⟩⟩ | exact ⟨rfl, fin _ (by exact (sS (sS (sS j1)))) (by exact (sS (sS (sS j2))))⟩)
    · rw [hs] at l6
      (refine GA_field hT7 tkf4 (fok (by kernel_rfl)) ?_; refine EV_none ?_; (with_reducible refine O2_is_none ?_); refine EV_local hE (by kernel_rfl) (sS (sS (sS l6))) ?_; (with_reducible refine O2_ne_bool ?_); (with_reducible refine TR_bool ?_); (refine And.intro ?_ ?_ <;> intro hb <;> try (cases hb; done)); refine TAll_or_nil ?_; (refine And.intro ?_ ?_ <;> intro hb <;> try (cases hb; done)); refine EXn ?_; refine EX_nil ?_)
      (first | exact hQ1 _ _ _ ⟨rfl, fin _ (by exact (sS (sS (sS j1)))) (by exact (sS (sS (sS j2))))⟩ | exact ⟨rfl, hQ1 _ _ _ ⟨fin _ (by exact (sS (sS (sS j1)))) (by exact (sS (sS (sS j2))))⟩⟩ | exact ⟨rfl, fin _ (by exact (sS (sS (sS j1)))) (by exact (sS (sS (sS j2))))⟩)
  · refine EX_cons ?_
    refine E1_If ?_
    (refine TV_boolop ?_; refine TAll_or ?_; refine TV_compare ?_; refine EVaf hE (by kernel_rfl) (sS (sS (sS j2))) hT7 tkf8 (fok (by kernel_rfl)) ?_; refine EV_local hE (by kernel_rfl) (sS (sS (sS l4))) ?_; (with_reducible refine O2_ne_str ?_); (with_reducible refine TR_bool ?_))
    (refine And.intro ?_ ?_ <;> intro hb <;> try (cases hb; done))
    · exact absurd hb (by simp)
    (refine TAll_or ?_; refine TV_compare ?_; refine EVaf hE (by kernel_rfl) (sS (sS (sS j2))) hT7 tkf6 (fok (by kernel_rfl)) ?_; refine EV_local hE (by kernel_rfl) (sS (sS (sS l5))) ?_)
    refine go ?_
    with_reducible refine TR_bool ?_
    (refine And.intro ?_ ?_ <;> intro hb <;> try (cases hb; done))
    (refine TAll_or ?_; refine TV_compare ?_; refine EV_compare ?_; refine EV_attr ?_; refine EV_local hE (by kernel_rfl) (sS (sS (sS j2))) ?_)
    rcases hstay with ⟨rfl, hs⟩ | ⟨⟨z, rfl⟩, hs⟩
    · rw [hs] at l6
      (refine GA_field hT7 tkf4 (fok (by kernel_rfl)) ?_; refine EV_none ?_; (with_reducible refine O2_is_none ?_); refine EV_local hE (by kernel_rfl) (sS (sS (sS l6))) ?_; (with_reducible refine O2_ne_bool ?_); (with_reducible refine TR_bool ?_); (refine And.intro ?_ ?_ <;> intro hb <;> try (cases hb; done)); refine TAll_or_nil ?_; (refine And.intro ?_ ?_ <;> intro hb <;> try (cases hb; done)); refine EXn ?_; refine EX_nil ?_)
      (first | exact hQ1 _ _ _ ⟨rfl, fin _ (by exact (sS (sS (sS j1)))) (by exact (sS (sS (sS j2))))⟩ | exact ⟨rfl, hQ1 _ _ _ ⟨fin _ (by exact (sS (sS (sS j1)))) (by exact (sS (sS (sS j2))))⟩⟩ | exact ⟨rfl, fin _ (by exact (sS (sS (sS j1)))) (by exact (sS (sS (sS j2))))⟩)
    · rw [hs] at l6
      (refine GA_field hT7 tkf4 (fok (by kernel_rfl)) ?_; refine EV_none ?_; (with_reducible refine O2_is_none ?_); refine EV_local hE (by kernel_rfl) (sS (sS (sS l6))) ?_; (with_reducible refine O2_ne_bool ?_); (with_reducible refine TR_bool ?_); (refine And.intro ?_ ?_ <;> intro hb <;> try (cases hb; done)); refine TAll_or_nil ?_; (refine And.intro ?_ ?_ <;> intro hb <;> try (cases hb; done)); refine EXn ?_; refine EX_nil ?_)
      (first | exact hQ1 _ _ _ ⟨rfl, fin _ (by exact (sS (sS (sS j1)))) (by exact (sS (sS (sS j2))))⟩ | exact ⟨rfl, hQ1 _ _ _ ⟨fin _ (by exact (sS (sS (sS j1)))) (by exact (sS (sS (sS j2))))⟩⟩ | exact ⟨rfl, fin _ (by exact (sS (sS (sS j1)))) (by exact (sS (sS (sS j2))))⟩)
end
end Mine
end
section
open PySem PySem.W PyProof.Rows
set_option maxRecDepth 100000
set_option maxHeartbeats 8000000
set_option linter.unusedVariables false
namespace Mine
theorem wsOf_eq {m : Mem} {evs : List Value} {i : Nat} {b : Addr} {l : List Value} (h : evs[i]? = some (.ref b)) (hb : m b = some (.tup l)) : wsOf m evs i = l := by
  unfold wsOf; rw [h]; dsimp only; rw [hb]
section
variable {Z : Cz} {P : Params}
theorem law_loop3 (hP : P = Z.cx.w.params) {n : Nat} (hn9 : 9 ≤ n) {fz : Frz} {L : Addr} {env : Env} {nm : Str} {fa : Addr} {cd : Value} (he : env = envOf nm (scopeAt (KP P) 814) L fa cd) {l : Loc} {m : Mem} {g : G} {T lf q : Addr} {now : Now} {nameV sv ct : Value}
    (h13 : 13 ∉ WT' g) (hgl : (WT' g).length ≤ 200) (hnow : (nameV = .none ∧ now = none) ∨ ∃ nm, nameV = .str (mkS nm) 0 ∧ now = some (3, nm) ∧ nm.length ≤ 10) (tat : TAt m g T q lf 0 0 [] now sv [] ct [])
    (l1 : l "mended" = some (.str (mkS (WT' g)) 0)) (l2 : l "t" = some (.ref T)) (l4 : l "name" = some nameV) :
    EX Z.cx n fz L env ((bodyAt (KP P) 814).drop 10) (fun f l' m' => retOf f = .bool true) l m := by
  have turn := fun (fz : Frz) (l : Loc) (m m0 : Mem) (Pl : Addr) (evs : List Value) (es : List En) (i : Nat) hi (e : En) (v : Value) hei hvi J (nv : Value) (B : Addr) a1 a2 a3 a4 a5 a6 hent => law_turn3 (n := n) hP hn9 (fz := fz) he (l := l) (m := m) (m0 := m0) (g := g) (T := T) (lf := lf) (Pl := Pl) (evs := evs) (es := es) (i := i) hgl hi (e := e) (v := v) hei hvi J (nv := nv) (B := B) a1 a2 a3 a4 a5 a6 hent
  have hnb : ∀ ty nm, now = some (ty, nm) → nm.length ≤ 300 := by
    intro ty nm e
    rcases hnow with ⟨_, h⟩ | ⟨nm', _, h, hl⟩
    · rw [h] at e; cases e
    · rw [h] at e; cases e; (first | lia | omega)
  conv at he => rhs; arg 2; whnf
  conv => arg 6; whnf
  have hE : Fun env L := by subst he; exact ⟨rfl, rfl, rfl, rfl⟩
  subst he
  refine EX_gen fun Qg1 hQ1 => ?_
  obtain ⟨n, rfl⟩ : ∃ n', n = n' + 9 := ⟨n - 9, by (first | lia | omega)⟩
  refine EX_cut (R := fun l' m' => ∃ q kept now sv ct, l' "t" = some (.ref T) ∧ TAt m' g T q lf (WT' g).length 0 kept now sv [] ct [] ∧ kept.length ≤ 100000 ∧ True) ?_ ?_
  · refine E1_gen fun Qg2 hQ2 => ?_
    refine E1_For hE (IE_tups [("state", _), ("due", _), ("place", _), ("kept", _), ("now", _), ("stays", _)] rfl (fun _ => rfl) ?_)
    have fin : ∀ (m1 m2 : Mem) (Pl : Addr) (evs : List Value) (es : List En), (∀ a o, m a = some o → m1 a = some o) → m1 Pl = none → m2 Pl = some (.lst evs) → All2 (EnA (PA g q) m2) es evs → Ch (WT' g) (rr3 g) (fun k => k = (WT' g).length) 0 [] now es → es.length ≤ 1000 → (∀ a o, m1 a = some o → m2 a = some o) →
        JL l m2 m2 g T lf Pl evs es 0 ∧ evs.length ≤ 1000 ∧ (∀ i l' m', JL l' m' m2 g T lf Pl evs es i → RdM Z.cx m' Pl (.lst evs) ∧ ∀ (j : Nat) v, evs[j]? = some v → ∃ b, v = .ref b ∧ RdM Z.cx m' b (.tup (wsOf m2 evs j)) ∧ (wsOf m2 evs j).length = 6) := by
      intro m1 m2 Pl evs es kp1 hPl1 hPl2 hall hch hel kp2
      have t1 := tat.grow kp1
      (refine dn fun hG0 => ?_; obtain ⟨pre, c, co, b, p, S, _⟩ := id t1.hat; refine hG0 ?_; clear hG0)
      (refine dn fun hG0 => ?_; obtain ⟨es0, hE0, _⟩ := S.hE; refine hG0 ?_; clear hG0)
      have hq0 := t1.hq
      (first | refine hQ2 _ _ _ ⟨⟨0, [], now, sv, ct, q, l1, l2, t1.grow kp2, hPl2, ⟨(fun z => by rw [z, hE0] at hPl1; cases hPl1), (fun z => by rw [z, hq0] at hPl1; cases hPl1)⟩, hall, hch, by simp, by simp, fun ty nm e => by have := hnb ty nm e; (first | lia | omega), fun a l e => e⟩, by rw [← hall.len]; exact hel, ?_⟩ | refine ⟨⟨0, [], now, sv, ct, q, l1, l2, t1.grow kp2, hPl2, ⟨(fun z => by rw [z, hE0] at hPl1; cases hPl1), (fun z => by rw [z, hq0] at hPl1; cases hPl1)⟩, hall, hch, by simp, by simp, fun ty nm e => by have := hnb ty nm e; (first | lia | omega), fun a l e => e⟩, hQ2 _ _ _ ⟨by rw [← hall.len]; exact hel, ?_⟩⟩ | refine ⟨⟨0, [], now, sv, ct, q, l1, l2, t1.grow kp2, hPl2, ⟨(fun z => by rw [z, hE0] at hPl1; cases hPl1), (fun z => by rw [z, hq0] at hPl1; cases hPl1)⟩, hall, hch, by simp, by simp, fun ty nm e => by have := hnb ty nm e; (first | lia | omega), fun a l e => e⟩, by rw [← hall.len]; exact hel, ?_⟩)
      intro i l' m' J
      (refine dn fun hG0 => ?_; obtain ⟨k, kept, now', sv', ct', q', j1, j2, tat', hPl', hPlA, hallE, hch', hkl, hkc, hnl, ktup⟩ := J.h; refine hG0 ?_; clear hG0)
      (first | refine hQ2 _ _ _ ⟨.lst hPl', fun j v hv => ?_⟩ | refine ⟨.lst hPl', hQ2 _ _ _ ⟨fun j v hv => ?_⟩⟩ | refine ⟨.lst hPl', fun j v hv => ?_⟩)
      (refine dn fun hG0 => ?_; obtain ⟨e, he1, a, B, vs, nv, h1, h2, h3, h4, h5, h6⟩ := hall.at hv; refine hG0 ?_; clear hG0)
      subst h1
      have hw := wsOf_eq hv h2
      (first | exact hQ2 _ _ _ ⟨a, rfl, .tup (by rw [hw]; exact ktup _ _ h2), by rw [hw]; rfl⟩ | exact ⟨a, hQ2 _ _ _ ⟨rfl, .tup (by rw [hw]; exact ktup _ _ h2), by rw [hw]; rfl⟩⟩ | exact ⟨a, rfl, .tup (by rw [hw]; exact ktup _ _ h2), by rw [hw]; rfl⟩)
    have close : ∀ (fz : Frz) (l' : Loc) (m' m2 : Mem) (Pl : Addr) (evs : List Value) (es : List En) (i : Nat), evs.length ≤ 1000 → All2 (EnA (PA g q) m2) es evs → i < evs.length → JL l' m' m2 g T lf Pl evs es i →
        ∃ st B k kp nv b, wsOf m2 evs i = [.int st 0, .ref B, .int k 0, .str kp 0, nv, .bool b] ∧ ∀ l'' : Loc, l'' "mended" = some (.str (mkS (WT' g)) 0) → l'' "t" = some (.ref T) → l'' "state" = some (.int st 0) → l'' "due" = some (.ref B) → l'' "place" = some (.int k 0) → l'' "kept" = some (.str kp 0) → l'' "now" = some nv → l'' "stays" = some (.bool b) →
          EX Z.cx (n + 9) fz L (envOf nm (scopeAt (KP P) 814) L fa cd) (forBody ((bodyAt (KP P) 814).drop 10)) (fun f l' m' => f = .next ∧ JL l' m' m2 g T lf Pl evs es (i + 1)) l'' m' := by
      intro fz l' m' m2 Pl evs es i hel hall hi J
      obtain ⟨v, hv⟩ : ∃ v, evs[i]? = some v := ⟨_, List.getElem?_eq_getElem hi⟩
      (refine dn fun hG0 => ?_; obtain ⟨e, he1, a, B, vs, nv, h1, h2, h3, h4, h5, h6⟩ := hall.at hv; refine hG0 ?_; clear hG0)
      subst h1
      have hw := wsOf_eq hv h2
      (first | refine hQ2 _ _ _ ⟨_, B, _, _, nv, _, hw, fun l'' a1 a2 a3 a4 a5 a6 a7 a8 => ?_⟩ | refine ⟨_, hQ2 _ _ _ ⟨B, _, _, nv, _, hw, fun l'' a1 a2 a3 a4 a5 a6 a7 a8 => ?_⟩⟩ | refine ⟨_, B, _, _, nv, _, hw, fun l'' a1 a2 a3 a4 a5 a6 a7 a8 => ?_⟩)
      (refine dn fun hG0 => ?_; obtain ⟨k, kept, now', sv', ct', q', j1, j2, tat', hPl', hPlA, hallE, hch', hkl, hkc, hnl, ktup⟩ := J.h; refine hG0 ?_; clear hG0)
      refine turn fz l'' m' m2 Pl evs es i (by (first | lia | omega)) e _ he1 hv ⟨k, kept, now', sv', ct', q', a1, a2, tat', hPl', hPlA, hallE, hch', hkl, hkc, hnl, ktup⟩ nv B a3 a4 a5 a6 a7 a8 (fun a' ea => ?_)
      cases ea
      exact ktup _ _ h2
    (refine EV_ncall ?_; refine EV_gref (a := 809) hE (by kernel_rfl) (by kernel_rfl) ?_; refine CW_go0 (KeepOk.rf (by kernel_rfl)) ?_; refine AR_cons ?_; refine EV_local hE (by kernel_rfl) l1 ?_; refine AR_cons ?_; refine EV_ncall ?_; refine EV_gref (a := 795) hE (by kernel_rfl) (by kernel_rfl) ?_; refine CW_go0 (KeepOk.rf (by kernel_rfl)) ?_; refine AR_cons ?_; refine EV_str (l := [83, 116, 97, 114, 116, 84, 97, 103]) (by kernel_rfl) ?_; refine AR_cons ?_; refine EV_local hE (by kernel_rfl) l4 ?_; refine AR_nil ?_)
    rcases hnow with ⟨rfl, rfl⟩ | ⟨nm', rfl, rfl, hnm⟩
    · refine CA_CL ((c_tag0 (n := n)).mono ?_) (by (first | lia | omega))
      refine el2 ?_
      refine AR_nil ?_
      refine CA_CL ((c_plan3 hP (n := n) (now0 := none) (P0 := PA g q) hgl h13 ?_ rfl hnb).mono ?_) (by (first | lia | omega))
      · intro e he'
        (refine dn fun hG0 => ?_; obtain ⟨pre, c, co, b, p, S, _⟩ := id tat.hat; refine hG0 ?_; clear hG0)
        (refine dn fun hG0 => ?_; obtain ⟨es0, hE0, _⟩ := S.hE; refine hG0 ?_; clear hG0)
        have hq0 := tat.hq
        (first | exact hQ2 _ _ _ ⟨(fun z => by rw [z, hE0] at he'; cases he'), (fun z => by rw [z, hq0] at he'; cases he')⟩ | exact ⟨(fun z => by rw [z, hE0] at he'; cases he'), hQ2 _ _ _ ⟨(fun z => by rw [z, hq0] at he'; cases he')⟩⟩ | exact ⟨(fun z => by rw [z, hE0] at he'; cases he'), (fun z => by rw [z, hq0] at he'; cases he')⟩)
      (intro v m2 hq0; refine dn fun hG0 => ?_; rcases hq0 with ⟨Pl, evs, es, rfl, hPlM, hPl, hall, hch, hel, kp⟩ <;> refine hG0 ?_ <;> clear hG0)
      obtain ⟨f1, f2, f3⟩ := fin _ m2 Pl evs es (fun a o e => e) hPlM hPl hall hch hel kp
      (first | refine hQ2 _ _ _ ⟨Pl, evs, wsOf m2 evs, rfl, .lst hPl, ?_, fun i l' m' => JL l' m' m2 g T lf Pl evs es i, f1, ?_, ?_⟩ | refine ⟨Pl, hQ2 _ _ _ ⟨evs, wsOf m2 evs, rfl, .lst hPl, ?_, fun i l' m' => JL l' m' m2 g T lf Pl evs es i, f1, ?_, ?_⟩⟩ | refine ⟨Pl, evs, wsOf m2 evs, rfl, .lst hPl, ?_, fun i l' m' => JL l' m' m2 g T lf Pl evs es i, f1, ?_, ?_⟩)
      · intro p hp
        simp only [List.mem_cons, List.not_mem_nil, or_false] at hp
        rcases hp with rfl | rfl | rfl | rfl | rfl | rfl
        · (kernel_rfl)
        · (kernel_rfl)
        · (kernel_rfl)
        · (kernel_rfl)
        · (kernel_rfl)
        · (kernel_rfl)
      · intro i l' m' hi J
        refine ⟨f3 i l' m' J, fun fz => ?_⟩
        (refine dn fun hG0 => ?_; obtain ⟨st, B, k, kp', nv, b, hw, go⟩ := close fz l' m' m2 Pl evs es i f2 hall hi J; refine hG0 ?_; clear hG0)
        (refine dn fun hG0 => ?_; obtain ⟨k9, kept9, now9, sv9, ct9, q9, j1, j2, -⟩ := id J.h; refine hG0 ?_; clear hG0)
        have hgo := go (setL (setL (setL (setL (setL (setL l' "state" (.int st 0)) "due" (.ref B)) "place" (.int k 0)) "kept" (.str kp' 0)) "now" nv) "stays" (.bool b)) (by exact (sS (sS (sS (sS (sS (sS j1))))))) (by exact (sS (sS (sS (sS (sS (sS j2))))))) (by exact (sS (sS (sS (sS (sS sH)))))) (by exact (sS (sS (sS (sS sH))))) (by exact (sS (sS (sS sH)))) (by exact (sS (sS sH))) (by exact (sS sH)) (setL_self _ _ _)
        dsimp only
        rw [hw]
        refine WT.mono hgo fun f l m h => ?_
        (refine dn fun hG0 => ?_; obtain ⟨hf, J3⟩ := h; refine hG0 ?_; clear hG0)
        show loopQ _ _ (erF f) l m
        rw [hf]
        exact J3
      · intro l' m' J
        (first | refine hQ2 _ _ _ ⟨f3 _ l' m' J, rfl, ?_⟩ | refine ⟨f3 _ l' m' J, hQ2 _ _ _ ⟨rfl, ?_⟩⟩ | refine ⟨f3 _ l' m' J, rfl, ?_⟩)
        (refine dn fun hG0 => ?_; obtain ⟨k9, kept9, now9, sv9, ct9, q9, j1, j2, tat9, -, -, -, hch9, hkl9, -⟩ := id J.h; refine hG0 ?_; clear hG0)
        rw [← hall.len, List.drop_length] at hch9
        have hk9 : k9 = (WT' g).length := hch9
        rw [hk9] at tat9
        (first | exact hQ2 _ _ _ ⟨q9, kept9, now9, sv9, ct9, j2, tat9, by (first | lia | omega), trivial⟩ | exact ⟨q9, hQ2 _ _ _ ⟨kept9, now9, sv9, ct9, j2, tat9, by (first | lia | omega), trivial⟩⟩ | exact ⟨q9, kept9, now9, sv9, ct9, j2, tat9, by (first | lia | omega), trivial⟩)
    · refine CA_CL ((c_tag1 hP (n := n) (ty := 3) (by exact (tS (tS (tS tE))))).mono ?_) (by (first | lia | omega))
      (intro v m1 hq0; refine dn fun hG0 => ?_; rcases hq0 with ⟨D3, E3, rfl, hD3, hE3, mD, mE, kpt⟩ <;> refine hG0 ?_ <;> clear hG0)
      (refine dn fun hG0 => ?_; obtain ⟨pre, c, co, b, p, S, _⟩ := id tat.hat; refine hG0 ?_; clear hG0)
      (refine dn fun hG0 => ?_; obtain ⟨es0, hE0, _⟩ := S.hE; refine hG0 ?_; clear hG0)
      have hq0 := tat.hq
      refine AR_nil ?_
      refine CA_CL ((c_plan3 hP (n := n) (now0 := some (3, nm')) (P0 := PA g q) hgl h13 ?_ ⟨D3, E3, rfl, mD, mE, (fun z => by rw [z, hE0] at hE3; cases hE3), (fun z => by rw [z, hq0] at hE3; cases hE3)⟩ hnb).mono ?_) (by (first | lia | omega))
      · intro e he'
        have hE1 := kpt _ _ hE0
        have hq1 := kpt _ _ hq0
        (first | exact hQ2 _ _ _ ⟨(fun z => by rw [z, hE1] at he'; cases he'), (fun z => by rw [z, hq1] at he'; cases he')⟩ | exact ⟨(fun z => by rw [z, hE1] at he'; cases he'), hQ2 _ _ _ ⟨(fun z => by rw [z, hq1] at he'; cases he')⟩⟩ | exact ⟨(fun z => by rw [z, hE1] at he'; cases he'), (fun z => by rw [z, hq1] at he'; cases he')⟩)
      (intro v m2 hq0; refine dn fun hG0 => ?_; rcases hq0 with ⟨Pl, evs, es, rfl, hPlM, hPl, hall, hch, hel, kp⟩ <;> refine hG0 ?_ <;> clear hG0)
      (refine dn fun hG0 => ?_; obtain ⟨f1, f2, f3⟩ := fin _ m2 Pl evs es kpt hPlM hPl hall hch hel kp; refine hG0 ?_; clear hG0)
      (first | refine hQ2 _ _ _ ⟨Pl, evs, wsOf m2 evs, rfl, .lst hPl, ?_, fun i l' m' => JL l' m' m2 g T lf Pl evs es i, f1, ?_, ?_⟩ | refine ⟨Pl, hQ2 _ _ _ ⟨evs, wsOf m2 evs, rfl, .lst hPl, ?_, fun i l' m' => JL l' m' m2 g T lf Pl evs es i, f1, ?_, ?_⟩⟩ | refine ⟨Pl, evs, wsOf m2 evs, rfl, .lst hPl, ?_, fun i l' m' => JL l' m' m2 g T lf Pl evs es i, f1, ?_, ?_⟩)
      · intro p hp
        simp only [List.mem_cons, List.not_mem_nil, or_false] at hp
        rcases hp with rfl | rfl | rfl | rfl | rfl | rfl
        · (kernel_rfl)
        · (kernel_rfl)
        · (kernel_rfl)
        · (kernel_rfl)
        · (kernel_rfl)
        · (kernel_rfl)
      · intro i l' m' hi J
        refine ⟨f3 i l' m' J, fun fz => ?_⟩
        (refine dn fun hG0 => ?_; obtain ⟨st, B, k, kp', nv, b, hw, go⟩ := close fz l' m' m2 Pl evs es i f2 hall hi J; refine hG0 ?_; clear hG0)
        (refine dn fun hG0 => ?_; obtain ⟨k9, kept9, now9, sv9, ct9, q9, j1, j2, -⟩ := id J.h; refine hG0 ?_; clear hG0)
        have hgo := go (setL (setL (setL (setL (setL (setL l' "state" (.int st 0)) "due" (.ref B)) "place" (.int k 0)) "kept" (.str kp' 0)) "now" nv) "stays" (.bool b)) (by exact (sS (sS (sS (sS (sS (sS j1))))))) (by exact (sS (sS (sS (sS (sS (sS j2))))))) (by exact (sS (sS (sS (sS (sS sH)))))) (by exact (sS (sS (sS (sS sH))))) (by exact (sS (sS (sS sH)))) (by exact (sS (sS sH))) (by exact (sS sH)) (setL_self _ _ _)
        dsimp only
        rw [hw]
        refine WT.mono hgo fun f l m h => ?_
        (refine dn fun hG0 => ?_; obtain ⟨hf, J3⟩ := h; refine hG0 ?_; clear hG0)
        show loopQ _ _ (erF f) l m
        rw [hf]
        exact J3
      · intro l' m' J
        (first | refine hQ2 _ _ _ ⟨f3 _ l' m' J, rfl, ?_⟩ | refine ⟨f3 _ l' m' J, hQ2 _ _ _ ⟨rfl, ?_⟩⟩ | refine ⟨f3 _ l' m' J, rfl, ?_⟩)
        (refine dn fun hG0 => ?_; obtain ⟨k9, kept9, now9, sv9, ct9, q9, j1, j2, tat9, -, -, -, hch9, hkl9, -⟩ := id J.h; refine hG0 ?_; clear hG0)
        rw [← hall.len, List.drop_length] at hch9
        have hk9 : k9 = (WT' g).length := hch9
        rw [hk9] at tat9
        (first | exact hQ2 _ _ _ ⟨q9, kept9, now9, sv9, ct9, j2, tat9, by (first | lia | omega), trivial⟩ | exact ⟨q9, hQ2 _ _ _ ⟨kept9, now9, sv9, ct9, j2, tat9, by (first | lia | omega), trivial⟩⟩ | exact ⟨q9, kept9, now9, sv9, ct9, j2, tat9, by (first | lia | omega), trivial⟩)
  · rintro l' m' ⟨q, kept, now, sv, ct, j2, tat, hkl, hkc⟩
    have hT := tat.hT
    unfold tkT at hT
    have tat2 := tat.set .none kept
    (refine EX_cons ?_; refine E1_AssignAttr ?_ rfl; refine EV_none ?_; refine EV_local hE (by kernel_rfl) j2 ?_; refine SA_tbl hT (sok (by kernel_rfl)) (.inl ⟨(by kernel_rfl), rfl⟩) (by decide) ptk4 ?_; refine seq_next ?_)
    change EX Z.cx (n + 9) fz L _ _ _ _ (setM m' T (.inst 762 9 (tblF (tkT g lf .none ct q kept))))
    generalize setM m' T (.inst 762 9 (tblF (tkT g lf .none ct q kept))) = m2 at tat2 ⊢
    have hT2 := tat2.hT
    unfold tkT at hT2
    (refine EX_cons ?_; refine E1_Return ?_; refine EV_andN ?_; refine EV_compare ?_; refine EV_mcall ?_; refine EV_local hE (by kernel_rfl) j2 ?_; refine GM_meth (g := 339) hT2 (tkNo (by kernel_rfl)) (mok (by kernel_rfl)) ?_; refine CW_go1 (KeepOk.rf (by kernel_rfl)) ?_; refine AR_nil ?_)
    refine CA_CL ((c_t0 hP (n := n) tat2 hkl).mono ?_) (by (first | lia | omega))
    (intro v m3 hq0; refine dn fun hG0 => ?_; rcases hq0 with ⟨rfl, sv3, ct3, vs3, tat3, kt3, hst3⟩ <;> refine hG0 ?_ <;> clear hG0)
    have hx : (WT' g)[(WT' g).length]? = none := by simp
    have hr : ra0 g (WT' g) (WT' g).length kept now = ⟨[], (WT' g).length, kept, now, true⟩ := by unfold ra0; rw [hx]
    rw [hr] at tat3 hst3
    rw [hx, show (none : Option Nat).isSome = false from rfl]
    have hsv : sv3 = .none := by
      rcases hst3 with ⟨h, _⟩ | ⟨_, h⟩
      · exact h
      · cases h
    subst hsv
    have hv3 : vs3 = [] := by
      have := tat3.ha
      cases this; rfl
    subst hv3
    have hT3 := tat3.hT
    unfold tkT at hT3
    have hq3 := tat3.hq
    (refine EV_bool ?_; (with_reducible refine O2_is_bool ?_); (with_reducible refine TR_bool ?_))
    (refine And.intro ?_ ?_ <;> intro hb <;> try (cases hb; done))
    (refine EV_andN ?_; refine EV_compare ?_; refine EVaf hE (by kernel_rfl) j2 hT3 tkf7 (fok (by kernel_rfl)) ?_; refine EV_list ?_; refine AR_nil ?_)
    refine ⟨by simp, fun D hD => ?_⟩
    have hT4 := setM_old hD (o := .lst []) hT3
    refine O2_eq_nil (.lst (setM_old hD hq3)) (.lst (setM_same _ _ _)) (by (first | lia | omega)) ?_
    with_reducible refine TR_bool ?_
    (refine And.intro ?_ ?_ <;> intro hb <;> try (cases hb; done))
    (refine EV_bool1 ?_; refine EV_compare ?_; refine EVaf hE (by kernel_rfl) j2 hT4 tkf4 (fok (by kernel_rfl)) ?_; refine EV_none ?_; (with_reducible refine O2_is_none ?_); refine seq_ret ?_)
    (first | exact hQ1 _ _ _ rfl | rfl)
end
end Mine
end
section
open PySem PySem.W PyProof.Rows
set_option maxRecDepth 100000
set_option maxHeartbeats 8000000
set_option linter.unusedVariables false
namespace Mine
noncomputable def piecesL : List (List Nat) := ["<!--", "x", "<", "</script", ">", "-->", "<!", "-", "</", "\x00", "/", "</SCRIPT ", "ab>c", "<!-", "</scripts>", " ", "\r\n", "</b>", "!", "--", "\x0c", "é<", "</X/", "\r"].map fun s => s.toList.map (·.toNat)
section
variable {Z : Cz} {P : Params}
theorem top_lst {a : Addr} {d : Option Addr} {us : Array Value} {n : Nat} {sl} {xs : List Value} (h : Z.cx.K.lookup a = some ⟨.type "list", d, .seq us n, sl⟩) (e : us.toList.map er = xs) : ReadO Z.cx Z.cx.T a (.lst xs) :=
  ⟨us, ⟨_, Z.cx.X _ _ h, rfl, n, rfl⟩, e⟩
theorem top_pieces : ReadO Z.cx Z.cx.T 767 (.lst (strsV piecesL)) :=
  top_lst (by rfl) (by kernel_rfl)
end
theorem mend_13free : ∀ (k : Nat) (l : List Nat), l.length ≤ k → 13 ∉ mend l := by
  intro k
  induction k with
  | zero =>
    intro l hl
    have : l = [] := List.length_eq_zero_iff.mp (by (first | lia | omega))
    subst this
    simp [mend]
  | succ k ih =>
    intro l hl
    match l with
    | [] => simp [mend]
    | c :: r =>
      by_cases hc : c = 13
      · subst hc
        by_cases hr : r.head? = some 10
        · match r, hr with
          | d :: r', hr =>
            have hd : d = 10 := by simpa using hr
            subst hd
            have := ih r' (by simp at hl; (first | lia | omega))
            simp [mend, this]
        · rw [mend_13 r hr]
          have := ih r (by simp at hl; (first | lia | omega))
          simp [this]
      · rw [mend_c c r hc]
        have := ih r (by simp at hl; (first | lia | omega))
        simp only [List.mem_cons, not_or]
        exact ⟨fun z => hc z.symm, this⟩
noncomputable def numsOf3 (ns : List Int) : List Int := (if ns = [] then [3, 4, 0, 5] else ns).take 14
section
variable {Z : Cz} {P : Params}
theorem law_body3 (hP : P = Z.cx.w.params) {fz : Frz} {L : Addr} {env : Env} {nm : Str} {fa : Addr} {cd : Value} {l : Addr} {ns : List Int} (he : env = envOf nm (scopeAt (KP P) 814) L fa cd) (hl : ReadO Z.cx Z.cx.T l (.lst (intsV ns))) (hn : ns.length ≤ 63) :
    EX Z.cx 20 fz L env (bodyAt (KP P) 814) (fun f l m => retOf f = .bool true) (setL (fun _ => none) "script" (.ref l)) (fun _ => none) := by
  have he0 := he
  conv at he => rhs; arg 2; whnf
  conv => arg 6; whnf
  have hE : Fun env L := by subst he; exact ⟨rfl, rfl, rfl, rfl⟩
  subst he
  refine EX_gen fun Qg1 hQ1 => ?_
  refine EX_cut (R := fun l' m => ∃ D, l' = setL (setL (fun _ => none) "script" (.ref l)) "numbers" (.ref D) ∧ m D = some (.lst (intsV (numsOf3 ns)))) ?_ ?_
  · refine E1_gen fun Qg2 hQ2 => ?_
    refine E1_AssignName ?_ rfl
    refine EV_slice_listT ?_
    refine EV_orN ?_
    refine EV_local hE (by kernel_rfl) sH ?_
    refine TR_listR (.inr hl) (by unfold intsV; rw [List.length_map]; (first | lia | omega)) ?_
    (refine And.intro ?_ ?_ <;> intro hb <;> try (cases hb; done))
    · have h0 : ns ≠ [] := by intro z; subst z; cases hb
      (first | refine hQ2 _ _ _ ⟨l, intsV ns, rfl, by unfold intsV; rw [List.length_map]; (first | lia | omega), ?_⟩ | refine ⟨l, hQ2 _ _ _ ⟨intsV ns, rfl, by unfold intsV; rw [List.length_map]; (first | lia | omega), ?_⟩⟩ | refine ⟨l, intsV ns, rfl, by unfold intsV; rw [List.length_map]; (first | lia | omega), ?_⟩)
      (refine PT_none ?_; refine PT_some ?_; refine EV_int ?_; (with_reducible first | refine exr ?_ | refine ⟨_, rfl, ?_⟩))
      refine ⟨.inr hl, fun D hD => ?_⟩
      refine ST_local hE (by kernel_rfl) ?_
      (first | refine hQ2 _ _ _ ⟨rfl, D, rfl, ?_⟩ | refine ⟨rfl, hQ2 _ _ _ ⟨D, rfl, ?_⟩⟩ | refine ⟨rfl, D, rfl, ?_⟩)
      rw [setM_same]
      rw [show (14 : Int) = ((14 : Nat) : Int) from rfl, pySl_upto]
      unfold numsOf3
      rw [if_neg h0]; simp [intsV]
    · have h0 : ns = [] := by
        cases ns with
        | nil => rfl
        | cons a r => cases hb
      (refine EV_bool1 ?_; refine EV_list ?_; refine AR_cons ?_; refine EV_int ?_; refine AR_cons ?_; refine EV_int ?_; refine AR_cons ?_; refine EV_int ?_; refine AR_cons ?_; refine EV_int ?_; refine AR_nil ?_)
      refine ⟨by simp, fun B hB => ?_⟩
      (first | refine hQ2 _ _ _ ⟨B, [.int 3 0, .int 4 0, .int 0 0, .int 5 0], rfl, by decide, ?_⟩ | refine ⟨B, hQ2 _ _ _ ⟨[.int 3 0, .int 4 0, .int 0 0, .int 5 0], rfl, by decide, ?_⟩⟩ | refine ⟨B, [.int 3 0, .int 4 0, .int 0 0, .int 5 0], rfl, by decide, ?_⟩)
      (refine PT_none ?_; refine PT_some ?_; refine EV_int ?_; (with_reducible first | refine exr ?_ | refine ⟨_, rfl, ?_⟩))
      refine ⟨.lst (setM_same _ _ _), fun D hD => ?_⟩
      refine ST_local hE (by kernel_rfl) ?_
      (first | refine hQ2 _ _ _ ⟨rfl, D, rfl, ?_⟩ | refine ⟨rfl, hQ2 _ _ _ ⟨D, rfl, ?_⟩⟩ | refine ⟨rfl, D, rfl, ?_⟩)
      rw [setM_same, h0]
      (first | exact hQ2 _ _ _ rfl | rfl)
  (intro l1 M1 hq0; refine dn fun hG0 => ?_; rcases hq0 with ⟨D, rfl, hD⟩ <;> refine hG0 ?_ <;> clear hG0)
  have hnl : (numsOf3 ns).length ≤ 14 := by unfold numsOf3; simp; (first | lia | omega)
  generalize numsOf3 ns = nums at *
  (refine EX_cons ?_; refine E1_AssignName ?_ rfl; refine EV_ncall ?_; refine EV_builtinF (id := "sum") hE (by kernel_rfl) (by kernel_rfl) (by kernel_rfl) ?_; refine CW_go0 (KeepOk.bf _) ?_; refine AR_cons ?_; refine EV_local hE (by kernel_rfl) sH ?_; refine AR_nil ?_)
  refine CA_sum (.lst hD) ?_
  (refine STn hE (by kernel_rfl) ?_)
  -- name
  have b2 := Int.fmod_nonneg_of_pos (nums.sum.fdiv 24) (show (0 : Int) < 6 by decide)
  have b3 := Int.fmod_lt_of_pos (nums.sum.fdiv 24) (show (0 : Int) < 6 by decide)
  generalize hj2 : (nums.sum.fdiv 24).fmod 6 = j2 at *
  have hk6 : j2.toNat < namesV.length := by have : namesV.length = 6 := by decide
                                            (first | lia | omega)
  obtain ⟨nameV, hnv, now, hnow⟩ : ∃ v, namesV[j2.toNat]? = some v ∧ ∃ now : Option (Int × List Nat), (v = .none ∧ now = none) ∨ ∃ nm, v = .str (mkS nm) 0 ∧ now = some (3, nm) ∧ nm.length ≤ 10 := by
    (first | refine hQ1 _ _ _ ⟨namesV[j2.toNat], List.getElem?_eq_getElem hk6, ?_⟩ | refine ⟨namesV[j2.toNat], hQ1 _ _ _ ⟨List.getElem?_eq_getElem hk6, ?_⟩⟩ | refine ⟨namesV[j2.toNat], List.getElem?_eq_getElem hk6, ?_⟩)
    have hm := List.getElem_mem hk6
    generalize namesV[j2.toNat] = v at *
    rcases List.mem_append.mp (show v ∈ strsV ["script".toList.map (·.toNat), "b".toList.map (·.toNat), "SCRIPT".toList.map (·.toNat), "x".toList.map (·.toNat), []] ++ [.none] from hm) with h | h
    · (refine dn fun hG0 => ?_; obtain ⟨nm, h1, h2⟩ := List.mem_map.mp h; refine hG0 ?_; clear hG0)
      have : ∀ w ∈ ["script".toList.map (·.toNat), "b".toList.map (·.toNat), "SCRIPT".toList.map (·.toNat), "x".toList.map (·.toNat), []], w.length ≤ 10 := by decide
      (first | exact hQ1 _ _ _ ⟨some (3, nm), .inr ⟨nm, h2.symm, rfl, this _ h1⟩⟩ | exact ⟨some (3, nm), hQ1 _ _ _ ⟨.inr ⟨nm, h2.symm, rfl, this _ h1⟩⟩⟩ | exact ⟨some (3, nm), .inr ⟨nm, h2.symm, rfl, this _ h1⟩⟩)
    · (first | exact hQ1 _ _ _ ⟨none, .inl ⟨List.mem_singleton.mp h, rfl⟩⟩ | exact ⟨none, hQ1 _ _ _ ⟨.inl ⟨List.mem_singleton.mp h, rfl⟩⟩⟩ | exact ⟨none, .inl ⟨List.mem_singleton.mp h, rfl⟩⟩)
  (refine EX_cons ?_; refine E1_AssignName ?_ rfl; refine EV_sub ?_; refine EV_ncall ?_; refine EV_gref (a := 774) hE (by kernel_rfl) (by kernel_rfl) ?_; refine CW_go0 (KeepOk.rf (by kernel_rfl)) ?_; refine AR_nil ?_)
  refine CA_CL ((c_names (n := 0)).mono ?_) (by (first | lia | omega))
  (intro v m1 hq0; refine dn fun hG0 => ?_; rcases hq0 with ⟨DN, hDN, rfl, rfl⟩ <;> refine hG0 ?_ <;> clear hG0)
  (refine EV_binop ?_; refine EV_binop ?_; refine EV_local hE (by kernel_rfl) sH ?_; refine EV_int ?_; refine O2_floordiv_int (by decide) ?_ (by exact PyProof.noPylong_of_log2 (by decide +kernel)); refine EV_int ?_; refine O2_mod_int (by decide) ?_)
  rw [hj2]
  refine SUB_list (.lst (setM_same _ _ _)) b2 (by (first | lia | omega)) (x := nameV) hnv ?_
  (refine STn hE (by kernel_rfl) ?_)
  have hD1 : setM M1 DN (.lst namesV) D = some (.lst (intsV nums)) := setM_old hDN hD
  generalize setM M1 DN (.lst namesV) = m1 at *
  refine EX_cut (R := fun l' m => ∃ txt, l' = setL (setL (setL (setL (setL (fun _ => none) "script" (.ref l)) "numbers" (.ref D)) "drawn" (.int nums.sum 0)) "name" nameV) "text" (.str (mkS txt) 0) ∧ m D = some (.lst (intsV nums)) ∧ txt.length ≤ 140 ∧ ∀ x ∈ txt, x < 55296) ?_ ?_
  · refine E1_gen fun Qg3 hQ3 => ?_
    refine E1_AssignName ?_ rfl
    (refine EV_mcall ?_; refine EV_str (l := []) (by kernel_rfl) ?_; (with_reducible refine GM_join ?_); refine CW_go1 (KeepOk.bf _) ?_; refine AR_cons ?_)
    refine EV_comp hE (IE_list ?_)
    refine EV_local hE (by kernel_rfl) (sS (sS sH)) ?_
    (first | refine hQ3 _ _ _ ⟨D, intsV nums, rfl, .lst hD1, ?_⟩ | refine ⟨D, hQ3 _ _ _ ⟨intsV nums, rfl, .lst hD1, ?_⟩⟩ | refine ⟨D, intsV nums, rfl, .lst hD1, ?_⟩)
    (first | refine hQ3 _ _ _ ⟨by simp [intsV]; (first | lia | omega), fun i ys lc mm => (∃ ps, ys = strsV ps ∧ ∀ p ∈ ps, p ∈ piecesL) ∧ mm = m1, ⟨⟨[], rfl, by simp⟩, rfl⟩, ?_, ?_⟩ | refine ⟨by simp [intsV]; (first | lia | omega), hQ3 _ _ _ ⟨fun i ys lc mm => (∃ ps, ys = strsV ps ∧ ∀ p ∈ ps, p ∈ piecesL) ∧ mm = m1, ⟨⟨[], rfl, by simp⟩, rfl⟩, ?_, ?_⟩⟩ | refine ⟨by simp [intsV]; (first | lia | omega), fun i ys lc mm => (∃ ps, ys = strsV ps ∧ ∀ p ∈ ps, p ∈ piecesL) ∧ mm = m1, ⟨⟨[], rfl, by simp⟩, rfl⟩, ?_, ?_⟩)
    · rintro i ys lc mm hi hys ⟨⟨ps, rfl, hps⟩, rfl⟩
      (first | refine hQ3 _ _ _ ⟨.lst hD1, fun fz C cenv hE hsc => ?_⟩ | refine ⟨.lst hD1, hQ3 _ _ _ ⟨fun fz C cenv hE hsc => ?_⟩⟩ | refine ⟨.lst hD1, fun fz C cenv hE hsc => ?_⟩)
      have he : cenv = _ := congrArg (fun s => ({ cenv with scope := s } : Env)) hsc
      have hi' : i < nums.length := by simpa [intsV] using hi
      have hni : (intsV nums).getD i .none = .int nums[i] 0 := by simp [intsV, hi']
      dsimp only
      rw [hni]
      (first | refine hQ3 _ _ _ ⟨(by rw [he]; kernel_rfl), ?_⟩ | refine ⟨(by rw [he]; kernel_rfl), hQ3 _ _ _ ⟨?_⟩⟩ | refine ⟨(by rw [he]; kernel_rfl), ?_⟩)
      (refine EV_sub ?_; refine EV_gref (a := 767) hE (by rw [he]; kernel_rfl) (by kernel_rfl) ?_; refine EV_binop ?_; refine EV_local hE (by rw [he]; kernel_rfl) sH ?_; refine EV_int ?_; refine O2_mod_int (by decide) ?_)
      have b0 := Int.fmod_nonneg_of_pos (nums[i]) (show (0 : Int) < 24 by decide)
      have b1 := Int.fmod_lt_of_pos (nums[i]) (show (0 : Int) < 24 by decide)
      generalize (nums[i]).fmod 24 = j at *
      have hj : j.toNat < piecesL.length := by have : piecesL.length = 24 := by decide
                                               (first | lia | omega)
      refine SUB_list (.inr (top_pieces (Z := Z))) b0 (by (first | lia | omega)) (x := .str (mkS piecesL[j.toNat]) 0) ?_ ?_
      · unfold strsV; rw [List.getElem?_map, List.getElem?_eq_getElem hj]; rfl
      exact ⟨⟨ps ++ [piecesL[j.toNat]], by simp [strsV], fun p hp => by
        rcases List.mem_append.mp hp with h | h
        · exact hps p h
        · rw [List.mem_singleton.mp h]; exact List.getElem_mem _⟩, rfl⟩
    · rintro ys lc mm hys ⟨⟨ps, rfl, hps⟩, rfl⟩
      (first | refine hQ3 _ _ _ ⟨.lst hD1, fun D2 hD2 => ?_⟩ | refine ⟨.lst hD1, hQ3 _ _ _ ⟨fun D2 hD2 => ?_⟩⟩ | refine ⟨.lst hD1, fun D2 hD2 => ?_⟩)
      have hpl : ps.length ≤ 14 := by simp [strsV, intsV] at hys; (first | lia | omega)
      have hfl : ps.flatten.length ≤ 140 := by
        have : ∀ qs : List (List Nat), (∀ p ∈ qs, p ∈ piecesL) → qs.flatten.length ≤ 10 * qs.length := by
          intro qs
          induction qs with
          | nil => simp
          | cons a r ih =>
            intro h
            have h1 := ih (fun p hp => h p (List.mem_cons_of_mem _ hp))
            have h2 : ∀ p ∈ piecesL, p.length ≤ 10 := by decide
            have h3 := h2 a (h a List.mem_cons_self)
            simp only [List.flatten_cons, List.length_append, List.length_cons]
            (first | lia | omega)
        have := this ps hps
        (first | lia | omega)
      have hsm : ∀ x ∈ ps.flatten, x < 55296 := by
        intro x hx
        (refine dn fun hG0 => ?_; obtain ⟨p, hp, hxp⟩ := List.mem_flatten.mp hx; refine hG0 ?_; clear hG0)
        have h2 : ∀ p ∈ piecesL, ∀ x ∈ p, x < 55296 := by decide
        exact h2 p (hps p hp) x hxp
      refine AR_nil ?_
      refine CA_join (.lst (setM_same _ _ _)) (joinOk_nil ps (by (first | lia | omega))) ?_
      rw [inter_nil]
      refine ST_local hE (by kernel_rfl) ?_
      (first | exact hQ3 _ _ _ ⟨rfl, ps.flatten, rfl, setM_old hD2 hD1, hfl, hsm⟩ | exact ⟨rfl, hQ3 _ _ _ ⟨ps.flatten, rfl, setM_old hD2 hD1, hfl, hsm⟩⟩ | exact ⟨rfl, ps.flatten, rfl, setM_old hD2 hD1, hfl, hsm⟩)
  (intro l1 m hq0; refine dn fun hG0 => ?_; rcases hq0 with ⟨full, rfl, hD, hfl, hfs⟩ <;> refine hG0 ?_ <;> clear hG0)
  refine EX_cons ?_
  refine E1_AssignName ?_ rfl
  refine EV_rep [13] [10] (by kernel_rfl) (by kernel_rfl) (by simp) (by simp) (by simp) ?_
  refine EV_rep [13, 10] [10] (by kernel_rfl) (by kernel_rfl) (by simp) (by simp) (by simp) ?_
  (refine EV_local hE (by kernel_rfl) sH ?_; (with_reducible first | refine exr ?_ | refine ⟨_, rfl, ?_⟩))
  (first | refine hQ1 _ _ _ ⟨by (first | lia | omega), ?_⟩ | refine ⟨by (first | lia | omega), hQ1 _ _ _ ⟨?_⟩⟩ | refine ⟨by (first | lia | omega), ?_⟩)
  with_reducible refine ⟨_, rfl, ?_⟩
  (first | refine hQ1 _ _ _ ⟨by have := repL_le [13, 10] [10] (by simp) full.length full; (first | lia | omega), ?_⟩ | refine ⟨by have := repL_le [13, 10] [10] (by simp) full.length full; (first | lia | omega), hQ1 _ _ _ ⟨?_⟩⟩ | refine ⟨by have := repL_le [13, 10] [10] (by simp) full.length full; (first | lia | omega), ?_⟩)
  rw [mended2]
  (refine STn hE (by kernel_rfl) ?_)
  (refine EX_cons ?_; refine E1_AssignName ?_ rfl; refine EV_ncall ?_; refine EV_gref (a := 762) hE (by kernel_rfl) (by kernel_rfl) ?_; refine CW_go0 (KeepOk.rf (by kernel_rfl)) ?_; refine AR_cons ?_; refine EV_local hE (by kernel_rfl) (sS sH) ?_; refine AR_nil ?_)
  refine CA_CL ((c_tok (n := 0) (by (first | lia | omega)) hfs).mono ?_) (by (first | lia | omega))
  (intro v m3 hq0; refine dn fun hG0 => ?_; rcases hq0 with ⟨T, g, lf, zz, rfl, hg, hT, S, kp, nT, nS, nX, nE, nQ⟩ <;> refine hG0 ?_ <;> clear hG0)
  have hD3 := kp _ _ hD
  have hS := S.hS
  unfold tk0 at hT
  unfold stT at hS
  (refine STn hE (by kernel_rfl) ?_)
  (refine EX_cons ?_; refine E1_Expr ?_ (by rfl) (by rfl); refine EV_mcall ?_; refine EVaf hE (by kernel_rfl) sH hT tH (fok (by kernel_rfl)) ?_; refine GM_meth (g := 141) hS (stNo (by kernel_rfl)) (mok (by kernel_rfl)) ?_; refine CW_go1 (KeepOk.rf (by kernel_rfl)) ?_; refine AR_cons ?_; refine EV_binop ?_; refine EV_int ?_; refine EV_binop ?_; refine EV_binop ?_; refine EV_local hE (by kernel_rfl) (sS (sS (sS (sS sH)))) ?_; refine EV_int ?_; refine O2_floordiv_int (by decide) ?_ (by exact PyProof.noPylong_of_log2 (by decide +kernel)); refine EV_int ?_; refine O2_mod_int (by decide) ?_; (with_reducible refine O2_add_int ?_); refine AR_nil ?_)
  have b6 := Int.fmod_nonneg_of_pos (nums.sum.fdiv 144) (show (0 : Int) < 40 by decide)
  obtain ⟨kk, hkk⟩ : ∃ kk : Nat, 2 + (nums.sum.fdiv 144).fmod 40 = (kk : Int) := ⟨(2 + (nums.sum.fdiv 144).fmod 40).toNat, by (first | lia | omega)⟩
  rw [hkk]
  refine CA_CL ((c_readChunk (n := 0) S (k := kk) (by (first | lia | omega)) (.inr ⟨rfl, rfl⟩)).mono ?_) (by (first | lia | omega))
  (intro v m4 hq0; refine dn fun hG0 => ?_; rcases hq0 with ⟨ok, c', b', p', rfl, S4, kp4, -, -⟩ <;> refine hG0 ?_ <;> clear hG0)
  have tnS : T ≠ g.S := fun z => by rw [z] at hT; rw [hT] at hS; cases hS
  have tnX : T ≠ g.X := fun z => by have := S.hX; rw [← z, hT] at this; cases this
  (refine dn fun hG0 => ?_; obtain ⟨es0, hE0, _⟩ := S.hE; refine hG0 ?_; clear hG0)
  have tnE : T ≠ g.E := fun z => by rw [← z, hT] at hE0; cases hE0
  have tnQ : T ≠ g.Q := fun z => by have := S.hQ; rw [← z, hT] at this; cases this
  have hT4 := kp4 _ _ tnS tnX tnE hT
  have hat4 : SAt m4 g 0 0 := ⟨[], c', 0, b', p', S4, rfl, Nat.le_refl _⟩
  refine seq_next ?_
  (refine EX_cons ?_; refine E1_AssignAttr ?_ rfl; refine EV_list ?_; refine AR_nil ?_)
  (first | refine hQ1 _ _ _ ⟨by simp, fun q hq => ?_⟩ | refine ⟨by simp, hQ1 _ _ _ ⟨fun q hq => ?_⟩⟩ | refine ⟨by simp, fun q hq => ?_⟩)
  (refine EV_local hE (by kernel_rfl) sH ?_; refine SA_tbl (setM_old hq hT4) (sok (by kernel_rfl)) (.inr rfl) (by decide) (pS (pS (pS (pS (pS (pS (pS pN))))))) ?_; refine seq_next ?_)
  (refine EX_cons ?_; refine E1_AssignAttr ?_ rfl; refine EV_str (l := []) (by kernel_rfl) ?_; refine EV_local hE (by kernel_rfl) sH ?_; refine SA_tbl2 (sok (by kernel_rfl)) (.inr rfl) (by decide) (pS (pS (pS (pS (pS (pS (pS (pS pN)))))))) ?_; refine seq_next ?_)
  have nq : ∀ a o, m4 a = some o → a ≠ q := fun a o e z => by rw [z, hq] at e; cases e
  have hTq := nq _ _ hT4
  refine EX_cut (R := fun l' m => ∃ ct, l' = setL (setL (setL (setL (setL (setL (setL (fun _ => none) "script" (.ref l)) "numbers" (.ref D)) "drawn" (.int nums.sum 0)) "name" nameV) "text" (.str (mkS full) 0)) "mended" (.str (mkS (mend full)) 0)) "t" (.ref T) ∧ TAt m g T q lf 0 0 [] now (.ref zz) [] ct []) ?_ ?_
  · refine E1_gen fun Qg4 hQ4 => ?_
    have t0 : TAt (setM (setM m4 q (.lst [])) T (.inst 762 9 (tblF (tkT g lf (.ref zz) .none q [])))) g T q lf 0 0 [] none (.ref zz) [] .none [] := by
      (first | refine hQ4 _ _ _ ⟨?_, setM_same _ _ _, rfl, (setM_ne _ _ hTq.symm).trans (setM_same _ _ _), .nil, ?_⟩ | refine ⟨?_, hQ4 _ _ _ ⟨setM_same _ _ _, rfl, (setM_ne _ _ hTq.symm).trans (setM_same _ _ _), .nil, ?_⟩⟩ | refine ⟨?_, setM_same _ _ _, rfl, (setM_ne _ _ hTq.symm).trans (setM_same _ _ _), .nil, ?_⟩)
      · (refine dn fun hG0 => ?_; obtain ⟨es4, hE4, _⟩ := S4.hE; refine hG0 ?_; clear hG0)
        exact hat4.off ((setM_ne _ _ tnS.symm).trans (setM_ne _ _ (nq _ _ S4.hS))) ((setM_ne _ _ tnX.symm).trans (setM_ne _ _ (nq _ _ S4.hX))) ((setM_ne _ _ tnE.symm).trans (setM_ne _ _ (nq _ _ hE4))) ((setM_ne _ _ tnQ.symm).trans (setM_ne _ _ (nq _ _ S4.hQ)))
      · (refine dn fun hG0 => ?_; obtain ⟨es4, hE4, _⟩ := S4.hE; refine hG0 ?_; clear hG0)
        exact (nq _ _ hE4).symm
    have hT6 := t0.hT
    change E1 Z.cx 20 fz L _ _ _ _ (setM (setM m4 q (.lst [])) T (.inst 762 9 (tblF (tkT g lf (.ref zz) .none q []))))
    generalize setM (setM m4 q (.lst [])) T (.inst 762 9 (tblF (tkT g lf (.ref zz) .none q []))) = m6 at *
    unfold tkT at hT6
    (refine E1_AssignAttr ?_ rfl; refine EV_ncall ?_; refine EV_gref (a := 795) hE (by kernel_rfl) (by kernel_rfl) ?_; refine CW_go0 (KeepOk.rf (by kernel_rfl)) ?_; refine AR_cons ?_; refine EV_str (l := [83, 116, 97, 114, 116, 84, 97, 103]) (by kernel_rfl) ?_; refine AR_cons ?_; refine EV_local hE (by kernel_rfl) (sS (sS (sS sH))) ?_; refine AR_nil ?_)
    rcases hnow with ⟨rfl, rfl⟩ | ⟨nm, rfl, rfl, hnm⟩
    · refine CA_CL ((c_tag0 (n := 0)).mono ?_) (by (first | lia | omega))
      refine el2 ?_
      (refine EV_local hE (by kernel_rfl) sH ?_; refine SA_tbl hT6 (sok (by kernel_rfl)) (.inl ⟨(by kernel_rfl), rfl⟩) (by decide) ptk6 ?_)
      (first | exact hQ4 _ _ _ ⟨rfl, .none, rfl, t0.setTok (.ref zz) [] none .none rfl⟩ | exact ⟨rfl, hQ4 _ _ _ ⟨.none, rfl, t0.setTok (.ref zz) [] none .none rfl⟩⟩ | exact ⟨rfl, .none, rfl, t0.setTok (.ref zz) [] none .none rfl⟩)
    · refine CA_CL ((c_tag1 hP (n := 0) (ty := 3) (by exact (tS (tS (tS tE))))).mono ?_) (by (first | lia | omega))
      (intro v m8 hq0; refine dn fun hG0 => ?_; rcases hq0 with ⟨D3, E3, rfl, h1, h2, h3, h4, kp8⟩ <;> refine hG0 ?_ <;> clear hG0)
      have hT7 := kp8 _ _ hT6
      have t1 := t0.grow kp8
      (refine EV_local hE (by kernel_rfl) sH ?_; refine SA_tbl hT7 (sok (by kernel_rfl)) (.inl ⟨(by kernel_rfl), rfl⟩) (by decide) ptk6 ?_)
      have e3q : E3 ≠ q := fun z => by have := t0.hq; rw [← z, h2] at this; cases this
      have e3E : E3 ≠ g.E := fun z => by
        (refine dn fun hG0 => ?_; obtain ⟨pre, c, co, b, p, S5, _⟩ := t0.hat; refine hG0 ?_; clear hG0)
        (refine dn fun hG0 => ?_; obtain ⟨es5, hE5, _⟩ := S5.hE; refine hG0 ?_; clear hG0)
        rw [← z, h2] at hE5; cases hE5
      (first | exact hQ4 _ _ _ ⟨rfl, .ref D3, rfl, t1.setTok (.ref zz) [] (some (3, nm)) (.ref D3) ⟨D3, E3, rfl, h3, h4, e3E, e3q⟩⟩ | exact ⟨rfl, hQ4 _ _ _ ⟨.ref D3, rfl, t1.setTok (.ref zz) [] (some (3, nm)) (.ref D3) ⟨D3, E3, rfl, h3, h4, e3E, e3q⟩⟩⟩ | exact ⟨rfl, .ref D3, rfl, t1.setTok (.ref zz) [] (some (3, nm)) (.ref D3) ⟨D3, E3, rfl, h3, h4, e3E, e3q⟩⟩)
  (intro l1 m5 hq0; refine dn fun hG0 => ?_; rcases hq0 with ⟨ct, hl1, tat⟩ <;> refine hG0 ?_ <;> clear hG0)
  have hw : WT' g = mend full := by unfold WT'; rw [hg]
  have a1 : l1 "mended" = some (.str (mkS (WT' g)) 0) := by rw [hw, hl1]; exact (sS sH)
  have a2 : l1 "t" = some (.ref T) := by rw [hl1]; exact sH
  have a4 : l1 "name" = some nameV := by rw [hl1]; exact (sS (sS (sS sH)))
  clear hl1
  exact WT.mono (law_loop3 hP (by (first | lia | omega)) he0 (by rw [hw]; exact mend_13free _ _ (Nat.le_refl _)) (by rw [hw]; have := mend_length full; (first | lia | omega)) hnow tat a1 a2 a4) fun _ _ _ h => hQ1 _ _ _ h
end
end Mine
end
section
open PySem PySem.W PyProof.Rows
set_option maxRecDepth 100000
set_option maxHeartbeats 4000000
set_option linter.unusedVariables false
namespace Mine
theorem ints_er {vs : List Value} {ns : List Int} (h : IntsAre vs ns) : vs.map er = intsV ns := by
  induction ns generalizing vs with
  | nil => rw [h.nil_inv]; rfl
  | cons n ns ih => obtain ⟨t, vs', rfl, h'⟩ := h.cons_inv; rw [List.map_cons, ih h']; rfl
theorem room0 (env : Env) : Room (callerA.deeper env) 20 :=
  ⟨rfl, by show 1 + claimMargin + 1 + 4 * 20 < recursionLimit; decide +kernel, by show 4 + 3 + 8 * 20 < cLine; decide +kernel⟩
theorem law_go {prog : Program} {w : World} {p : Program} {loose : List Str} {mean : ExcName → Option Value} {mg mb : Str → Option Value} {s₁ s : Shared} {l : Addr} {vs : List Value} {ns : List Int} {m : Str → Option Value} {K : Frag}
    {body : List Stmt} {env : Env} {Q : Flow → Shared → Prop} {E : Value → Shared → Prop} {n : Nat}
    (KX : K.In s₁.heap) (T : Top p loose mean mg mb s₁.heap) (hL : s₁.heap.IsList l vs.toArray) (hI : IntsAre vs ns) (F : Fr s₁.heap s₁.heap.objs.size s.heap m)
    (hm : ∀ x, (m x).map er = setL (fun _ => none) "script" (.ref l) x) (hr : Room (callerA.deeper env) n) (ho : 1 ≤ s.toks)
    (h : ∀ (X : Cx) (fz : Frz), X.K = K → X.prog = prog → X.w = w → ReadO X X.T l (.lst (intsV ns)) → EX X n fz s₁.heap.objs.size env body (fun f l m => retOf f = .bool true) (setL (fun _ => none) "script" (.ref l)) (fun _ => none))
    (hQ : ∀ f s', retOf f = .bool true → (∃ m', Fr s₁.heap s₁.heap.objs.size s'.heap m') → Like s s' → Q f s') :
    wpAny (model prog w) (callerA.deeper env) (execs body env) Q E s := by
  let X : Cx := ⟨prog, w, K, s₁.heap, p, loose, mg, mb, KX, topRead_of T⟩
  have hX := h X (fun b => s₁.heap.get? b) rfl rfl rfl ⟨vs.toArray, hL, by rw [List.toList_toArray]; exact ints_er hI⟩
  have hfv : FV X (fun b => s₁.heap.get? b) s₁.heap.objs.size (setL (fun _ => none) "script" (.ref l)) (fun _ => none) s.heap := by
    refine ⟨fun _ => none, ⟨fun b o e => e, fun b o e => ⟨F.keep _ _ e, rfl⟩, fun a o e => by cases e⟩, rfl, ?_, m, F.ns, hm⟩
    cases q : s₁.heap.get? s₁.heap.objs.size with
    | none => rfl
    | some z => exact absurd (Heap.lt_size q) (Nat.lt_irrefl _)
  refine wpAny_mono (hX _ s hr hfv ho) (fun f s' hq => ?_) (fun _ _ e => e.elim)
  obtain ⟨loc', M', F', lk, hret⟩ := hq
  obtain ⟨own, I⟩ := F'
  obtain ⟨m', hn, _⟩ := I.loc
  refine hQ f s' ?_ ⟨m', hn, fun b o e => (I.inv.fz b o e).1, Nat.le_refl _⟩ lk
  cases f with
  | ret v => exact er_bool hret
  | _ => exact hret
end Mine
end
section
open PySem PySem.W PyProof.Rows
set_option maxRecDepth 100000
namespace Mine
theorem mem_lookup {K : Frag} {a : Addr} {o : Obj} : K.lookup a = some o → (a, o) ∈ K := by
  induction K with
  | nil => intro h; cases h
  | cons p K ih =>
    intro h
    obtain ⟨b, u⟩ := p
    rw [List.lookup_cons] at h
    split at h
    · rename_i e
      cases h
      rw [eq_of_beq e]; exact List.mem_cons_self
    · exact List.mem_cons_of_mem _ (ih h)
def KPL : List Addr := [2, 3, 22, 27, 42, 41, 48, 49, 72, 73, 165, 166, 761, 762, 63, 62, 70, 69, 84, 83, 98, 97, 105, 104, 112, 111, 119, 118, 126, 125, 133, 132, 141, 140, 148, 147, 156, 155, 163, 162, 261, 260, 297, 296, 304, 303, 339, 338, 437, 436, 444, 443, 451, 450, 458, 457, 465, 464, 472, 471, 479, 478, 486, 485, 493, 492, 500, 499, 507, 506, 514, 513, 521, 520, 528, 527, 535, 534, 591, 590, 416, 415, 423, 422, 430, 429, 767, 774, 773, 781, 780, 788, 787, 795, 794, 802, 801, 809, 808, 814, 813, 134, 149, 254]
noncomputable def pick (K : Frag) (l : List Addr) : Frag := l.filterMap fun a => (K.lookup a).map fun o => (a, o)
theorem in_pick {K K' : Params → Frag} {P : Params} {h : Heap} {l : List Addr} (x : (K P).In h) (e : ∀ P, pick (K P) l = K' P) : (K' P).In h := by
  intro a o q
  have m := mem_lookup q
  rw [← e P] at m
  obtain ⟨b, _, hb⟩ := List.mem_filterMap.mp m
  cases hl : (K P).lookup b with
  | none => rw [hl] at hb; cases hb
  | some u => rw [hl] at hb; cases hb; exact x _ _ hl
namespace hd
theorem tw10012880186880212623:1=1:=rfl
theorem tw10024716035694756283:1=1:=rfl
theorem tw100483095206116625:1=1:=rfl
theorem tw1017328040139425936:1=1:=rfl
theorem tw10210669037155785340:1=1:=rfl
theorem tw10246146449241189800:1=1:=rfl
theorem tw10258999931320997221:1=1:=rfl
theorem tw10264135568141901301:1=1:=rfl
theorem tw10273187271170590260:1=1:=rfl
theorem tw10283529075043463162:1=1:=rfl
theorem tw10286656452748174568:1=1:=rfl
theorem tw10292235466723388172:1=1:=rfl
theorem tw10403243965636340961:1=1:=rfl
theorem tw1043307727769730188:1=1:=rfl
theorem tw10450363280022070651:1=1:=rfl
theorem tw10491609206876299696:1=1:=rfl
theorem tw10531373872144210542:1=1:=rfl
theorem tw10583446816852156582:1=1:=rfl
theorem tw10601615944963115059:1=1:=rfl
theorem tw10603584201595350602:1=1:=rfl
theorem tw10614716105012338702:1=1:=rfl
theorem tw10643592516055977328:1=1:=rfl
theorem tw10678649693572172417:1=1:=rfl
theorem tw10727248033764811480:1=1:=rfl
theorem tw10737458330869947321:1=1:=rfl
theorem tw10743916045514856203:1=1:=rfl
theorem tw10752148897807903841:1=1:=rfl
theorem tw10778013660560245624:1=1:=rfl
theorem tw10779200252408728858:1=1:=rfl
theorem tw10781468475247234061:1=1:=rfl
theorem tw10787125048147943196:1=1:=rfl
theorem tw10788059911547816233:1=1:=rfl
theorem tw10835030195340973342:1=1:=rfl
theorem tw10845626234925267891:1=1:=rfl
theorem tw10879034167726328663:1=1:=rfl
theorem tw1088296927520436173:1=1:=rfl
theorem tw10905181550472923540:1=1:=rfl
theorem tw10933677585905718993:1=1:=rfl
theorem tw10934634478434655930:1=1:=rfl
theorem tw10944956837784636368:1=1:=rfl
theorem tw10947331860392259696:1=1:=rfl
theorem tw10957212852122400357:1=1:=rfl
theorem tw11006295307154197183:1=1:=rfl
theorem tw11011131195910976488:1=1:=rfl
theorem tw11024222330075796079:1=1:=rfl
theorem tw11052946933831473538:1=1:=rfl
theorem tw11054480109507316185:1=1:=rfl
theorem tw11109741339103130912:1=1:=rfl
theorem tw11151547217846952531:1=1:=rfl
theorem tw11213053971927718326:1=1:=rfl
theorem tw11249132867342737325:1=1:=rfl
theorem tw11251137523995926341:1=1:=rfl
theorem tw11256106856564762260:1=1:=rfl
theorem tw11283319371284918911:1=1:=rfl
theorem tw1129884963351977449:1=1:=rfl
theorem tw11319892378374348655:1=1:=rfl
theorem tw11375277706881905925:1=1:=rfl
theorem tw11399449904127653305:1=1:=rfl
theorem tw11407884054146074569:1=1:=rfl
theorem tw11434409384045074295:1=1:=rfl
theorem tw11465210709893060100:1=1:=rfl
theorem tw11472165163037031739:1=1:=rfl
theorem tw1147470481896660410:1=1:=rfl
theorem tw11513968764499736323:1=1:=rfl
theorem tw11551083187376567056:1=1:=rfl
theorem tw11555369063482983949:1=1:=rfl
theorem tw11587034568685482758:1=1:=rfl
theorem tw11595982170579460384:1=1:=rfl
theorem tw11631947586910100387:1=1:=rfl
theorem tw11632984921778587759:1=1:=rfl
theorem tw11636924220087485885:1=1:=rfl
theorem tw11638043884434779313:1=1:=rfl
theorem tw11652457597714270106:1=1:=rfl
theorem tw11660266114150955751:1=1:=rfl
theorem tw11709330566771433103:1=1:=rfl
theorem tw11729958736954745289:1=1:=rfl
theorem tw11778180911958503814:1=1:=rfl
theorem tw11814627755841444246:1=1:=rfl
theorem tw11852641145169952659:1=1:=rfl
theorem tw11905163887095721015:1=1:=rfl
theorem tw11915594877312485397:1=1:=rfl
theorem tw11942693397608355085:1=1:=rfl
theorem tw11953376511379268794:1=1:=rfl
theorem tw11968265576560266318:1=1:=rfl
theorem tw1197925565968671727:1=1:=rfl
theorem tw12035623454917710897:1=1:=rfl
theorem tw12050417470231563642:1=1:=rfl
theorem tw12058812876911547015:1=1:=rfl
theorem tw12070051907170230399:1=1:=rfl
theorem tw12070654863422294720:1=1:=rfl
theorem tw12113243949977362033:1=1:=rfl
theorem tw12127338746724423809:1=1:=rfl
theorem tw12131494931117144662:1=1:=rfl
theorem tw12172025689391634812:1=1:=rfl
theorem tw12211380539166087753:1=1:=rfl
theorem tw1222794163293265305:1=1:=rfl
theorem tw12350410155528471161:1=1:=rfl
theorem tw12393119488966705847:1=1:=rfl
theorem tw12399718760709695909:1=1:=rfl
theorem tw12453114486196615683:1=1:=rfl
theorem tw1247026723315081023:1=1:=rfl
theorem tw12480425521718506038:1=1:=rfl
theorem tw1256466517863071783:1=1:=rfl
theorem tw12575139184659369484:1=1:=rfl
theorem tw12579596248316191183:1=1:=rfl
theorem tw12590977762386282803:1=1:=rfl
theorem tw12611767792052310623:1=1:=rfl
theorem tw12647368939536790636:1=1:=rfl
theorem tw12676414471582705871:1=1:=rfl
theorem tw12685813987229840507:1=1:=rfl
theorem tw12744807935193187038:1=1:=rfl
theorem tw12769127236821124696:1=1:=rfl
theorem tw12778418089203562962:1=1:=rfl
theorem tw128412058910260475:1=1:=rfl
theorem tw12870888531099404533:1=1:=rfl
theorem tw12901994302517312135:1=1:=rfl
theorem tw12936449754285732098:1=1:=rfl
theorem tw12940713784782232206:1=1:=rfl
theorem tw12949589719889679912:1=1:=rfl
theorem tw12976186185376257304:1=1:=rfl
theorem tw12995909851351757392:1=1:=rfl
theorem tw13001811119718631651:1=1:=rfl
theorem tw13038990169509382042:1=1:=rfl
theorem tw13064122474441708322:1=1:=rfl
theorem tw13066319289922817542:1=1:=rfl
theorem tw13096558090100123544:1=1:=rfl
theorem tw13129650132239662433:1=1:=rfl
theorem tw13132618709999183898:1=1:=rfl
theorem tw13164601040044201813:1=1:=rfl
theorem tw13181700845877081190:1=1:=rfl
theorem tw13220430256171166289:1=1:=rfl
theorem tw13280443560766958183:1=1:=rfl
theorem tw13293453174229064190:1=1:=rfl
theorem tw1331086792558400476:1=1:=rfl
theorem tw1331487369976884630:1=1:=rfl
theorem tw13321331477185743149:1=1:=rfl
theorem tw1335065189686863947:1=1:=rfl
theorem tw13368278939475635651:1=1:=rfl
theorem tw13409441903868389331:1=1:=rfl
theorem tw13475242022060392486:1=1:=rfl
theorem tw13531707123254989501:1=1:=rfl
theorem tw13562760996464443880:1=1:=rfl
theorem tw13574768056931433239:1=1:=rfl
theorem tw13609717118414637909:1=1:=rfl
theorem tw13619402905963910902:1=1:=rfl
theorem tw13624431586668435662:1=1:=rfl
theorem tw1362751533348561449:1=1:=rfl
theorem tw13628142620392400109:1=1:=rfl
theorem tw13671756088133313087:1=1:=rfl
theorem tw13783031573616600631:1=1:=rfl
theorem tw13790719812936386609:1=1:=rfl
theorem tw1379335367625716243:1=1:=rfl
theorem tw1382963296337349011:1=1:=rfl
theorem tw13866372431405929976:1=1:=rfl
theorem tw13903934854276604550:1=1:=rfl
theorem tw13919464512627920130:1=1:=rfl
theorem tw13929354066492186541:1=1:=rfl
theorem tw13937860266046166849:1=1:=rfl
theorem tw13944508082162953488:1=1:=rfl
theorem tw13994979335412520660:1=1:=rfl
theorem tw14006173549557618073:1=1:=rfl
theorem tw14029546391885035639:1=1:=rfl
theorem tw14031261019411111474:1=1:=rfl
theorem tw14040608126747316905:1=1:=rfl
theorem tw14060154772996877548:1=1:=rfl
theorem tw14091984216438838776:1=1:=rfl
theorem tw1409312971732116557:1=1:=rfl
theorem tw14103535550066685397:1=1:=rfl
theorem tw14137390275340422267:1=1:=rfl
theorem tw1425423193147277237:1=1:=rfl
theorem tw14294001040229213422:1=1:=rfl
theorem tw14333710738500927179:1=1:=rfl
theorem tw14352634086879598012:1=1:=rfl
theorem tw1439246655266547700:1=1:=rfl
theorem tw14439243815434019604:1=1:=rfl
theorem tw14440960662653809013:1=1:=rfl
theorem tw1445366717492459972:1=1:=rfl
theorem tw14462709497994964445:1=1:=rfl
theorem tw14492701947808656938:1=1:=rfl
theorem tw14560493823538711346:1=1:=rfl
theorem tw14586822029978311858:1=1:=rfl
theorem tw14683707025165767436:1=1:=rfl
theorem tw14705683404202351889:1=1:=rfl
theorem tw14706022693812145444:1=1:=rfl
theorem tw14743440263598761229:1=1:=rfl
theorem tw14768889098011018680:1=1:=rfl
theorem tw14772383043592177042:1=1:=rfl
theorem tw14776966858535155947:1=1:=rfl
theorem tw14859038896228082724:1=1:=rfl
theorem tw14896477498954680388:1=1:=rfl
theorem tw14914937398881237230:1=1:=rfl
theorem tw14955159897011116063:1=1:=rfl
theorem tw14960593345356199642:1=1:=rfl
theorem tw14980023328507725902:1=1:=rfl
theorem tw15014912738361607707:1=1:=rfl
theorem tw15042006015671813226:1=1:=rfl
theorem tw15043168886218598503:1=1:=rfl
theorem tw15054049728407801353:1=1:=rfl
theorem tw1506431575118746342:1=1:=rfl
theorem tw15084132493965779093:1=1:=rfl
theorem tw15102309248680683417:1=1:=rfl
theorem tw15103106377680225435:1=1:=rfl
theorem tw1511243299971373483:1=1:=rfl
theorem tw15152743547302097792:1=1:=rfl
theorem tw15207398651663016943:1=1:=rfl
theorem tw15220180469806662145:1=1:=rfl
theorem tw15277330632498426303:1=1:=rfl
theorem tw15337868472472888810:1=1:=rfl
theorem tw1535757262459896012:1=1:=rfl
theorem tw15378359858306647822:1=1:=rfl
theorem tw15381450162410889989:1=1:=rfl
theorem tw15411387601460861337:1=1:=rfl
theorem tw15463257786427224491:1=1:=rfl
theorem tw15508949281206285077:1=1:=rfl
theorem tw15578025631644234493:1=1:=rfl
theorem tw15595854959937240912:1=1:=rfl
theorem tw15610959940260225430:1=1:=rfl
theorem tw15618049606547972131:1=1:=rfl
theorem tw15625209780758371316:1=1:=rfl
theorem tw15630680890609703042:1=1:=rfl
theorem tw1563692795949630186:1=1:=rfl
theorem tw15637593595834871717:1=1:=rfl
theorem tw15643275761693703936:1=1:=rfl
theorem tw15650184460060549375:1=1:=rfl
theorem tw15661947827640153321:1=1:=rfl
theorem tw1580110805410547442:1=1:=rfl
theorem tw1582976572388173787:1=1:=rfl
theorem tw15837987909243819085:1=1:=rfl
theorem tw1584506945513601688:1=1:=rfl
theorem tw15889433306838628275:1=1:=rfl
theorem tw15910714762333108613:1=1:=rfl
theorem tw15923250282426842828:1=1:=rfl
theorem tw15931116738044738221:1=1:=rfl
theorem tw15946388913382835224:1=1:=rfl
theorem tw15948780112781908787:1=1:=rfl
theorem tw15963624873386084050:1=1:=rfl
theorem tw15987713032478767096:1=1:=rfl
theorem tw1600037746751723098:1=1:=rfl
theorem tw16006246977917349235:1=1:=rfl
theorem tw1603739661141634737:1=1:=rfl
theorem tw16037735763661986305:1=1:=rfl
theorem tw16039824993472781790:1=1:=rfl
theorem tw16056359734778111409:1=1:=rfl
theorem tw16091413853298234908:1=1:=rfl
theorem tw1610171440888473627:1=1:=rfl
theorem tw16154546982801380032:1=1:=rfl
theorem tw16156708551869547534:1=1:=rfl
theorem tw16169374299450900766:1=1:=rfl
theorem tw16194383521188589630:1=1:=rfl
theorem tw16211521421427940678:1=1:=rfl
theorem tw16240987189780228909:1=1:=rfl
theorem tw16246848685605474055:1=1:=rfl
theorem tw16259696140248634718:1=1:=rfl
theorem tw16299908979028503884:1=1:=rfl
theorem tw16301592386811335294:1=1:=rfl
theorem tw16302227732802510677:1=1:=rfl
theorem tw16332348944364537037:1=1:=rfl
theorem tw16357263729072622229:1=1:=rfl
theorem tw16376525773666504680:1=1:=rfl
theorem tw16415028865518655546:1=1:=rfl
theorem tw16464424236575238572:1=1:=rfl
theorem tw16519581850611564860:1=1:=rfl
theorem tw16640546478005224243:1=1:=rfl
theorem tw16641143254114907239:1=1:=rfl
theorem tw16661405048812198066:1=1:=rfl
theorem tw16698745307106531279:1=1:=rfl
theorem tw16711616764599604094:1=1:=rfl
theorem tw16713699803418581334:1=1:=rfl
theorem tw16719121484147384486:1=1:=rfl
theorem tw16744898341101239380:1=1:=rfl
theorem tw16772102934027710169:1=1:=rfl
theorem tw16794629799341752650:1=1:=rfl
theorem tw16879956485299554121:1=1:=rfl
theorem tw16919406825032445293:1=1:=rfl
theorem tw16920754564084929960:1=1:=rfl
theorem tw1699103778626983548:1=1:=rfl
theorem tw17001982702790524580:1=1:=rfl
theorem tw17002781174329755331:1=1:=rfl
theorem tw17034541987677670899:1=1:=rfl
theorem tw17038178572684014812:1=1:=rfl
theorem tw17076082267592564974:1=1:=rfl
theorem tw17087091549796120035:1=1:=rfl
theorem tw17088047866570459193:1=1:=rfl
theorem tw17101829828953933863:1=1:=rfl
theorem tw1712922718373300912:1=1:=rfl
theorem tw17130151131035750659:1=1:=rfl
theorem tw17143746779515762356:1=1:=rfl
theorem tw17183224562656869120:1=1:=rfl
theorem tw17232729238497989147:1=1:=rfl
theorem tw17234923516513369237:1=1:=rfl
theorem tw17252143746492648416:1=1:=rfl
theorem tw17258206423299326598:1=1:=rfl
theorem tw17273587926920868623:1=1:=rfl
theorem tw17278324374586462682:1=1:=rfl
theorem tw17311223219408574766:1=1:=rfl
theorem tw17330132731328240911:1=1:=rfl
theorem tw17336936450418997793:1=1:=rfl
theorem tw17347436560843906493:1=1:=rfl
theorem tw17386561741084979693:1=1:=rfl
theorem tw17387473266821786944:1=1:=rfl
theorem tw1744074299117110578:1=1:=rfl
theorem tw17454471701868102899:1=1:=rfl
theorem tw17470177872615007328:1=1:=rfl
theorem tw17491317419825422843:1=1:=rfl
theorem tw17495340751864218003:1=1:=rfl
theorem tw17562767543260142214:1=1:=rfl
theorem tw17577478241444706838:1=1:=rfl
theorem tw17588044629489971554:1=1:=rfl
theorem tw1760603350576429475:1=1:=rfl
theorem tw17606422857730326317:1=1:=rfl
theorem tw17640862679970642326:1=1:=rfl
theorem tw17655025648336401564:1=1:=rfl
theorem tw17668637344460488510:1=1:=rfl
theorem tw17672654358674132775:1=1:=rfl
theorem tw17681399029576232318:1=1:=rfl
theorem tw17737187407176874954:1=1:=rfl
theorem tw17772917993097084435:1=1:=rfl
theorem tw17811195616094107523:1=1:=rfl
theorem tw1781861727890032366:1=1:=rfl
theorem tw17843490464661113860:1=1:=rfl
theorem tw17893044597097874663:1=1:=rfl
theorem tw17901334829092211166:1=1:=rfl
theorem tw17902569758825723728:1=1:=rfl
theorem tw1792636949448641307:1=1:=rfl
theorem tw17956543221229664512:1=1:=rfl
theorem tw17975533764899295144:1=1:=rfl
theorem tw17989097746536338734:1=1:=rfl
theorem tw1800889605409440832:1=1:=rfl
theorem tw18087722134493236510:1=1:=rfl
theorem tw18103342009636024947:1=1:=rfl
theorem tw18103420901670897651:1=1:=rfl
theorem tw1811199898794616982:1=1:=rfl
theorem tw18163647496604598072:1=1:=rfl
theorem tw18166333605607142505:1=1:=rfl
theorem tw18176940659606848779:1=1:=rfl
theorem tw18241275227582772068:1=1:=rfl
theorem tw18252017834820373320:1=1:=rfl
theorem tw18291419657060728153:1=1:=rfl
theorem tw18293732401869909652:1=1:=rfl
theorem tw18330183385023645277:1=1:=rfl
theorem tw18343703819029505601:1=1:=rfl
theorem tw1836080755315867724:1=1:=rfl
theorem tw18406568778348887127:1=1:=rfl
theorem tw1847840615245081061:1=1:=rfl
theorem tw1870067075039425230:1=1:=rfl
theorem tw1878737405954674963:1=1:=rfl
theorem tw1936894748134917147:1=1:=rfl
theorem tw2000490053193787569:1=1:=rfl
theorem tw2001351230973187099:1=1:=rfl
theorem tw2004659784336800654:1=1:=rfl
theorem tw2042874687063273074:1=1:=rfl
theorem tw2051048951616859547:1=1:=rfl
theorem tw2068664650715991707:1=1:=rfl
theorem tw2114630138375439770:1=1:=rfl
theorem tw2134215046882385847:1=1:=rfl
theorem tw2139204274930982770:1=1:=rfl
theorem tw2216850387143573719:1=1:=rfl
theorem tw2274498078352570744:1=1:=rfl
theorem tw2284436838669742495:1=1:=rfl
theorem tw2315301623876862497:1=1:=rfl
theorem tw2327210489368252092:1=1:=rfl
theorem tw2336748640663733628:1=1:=rfl
theorem tw2352982987946734526:1=1:=rfl
theorem tw2386827423013361158:1=1:=rfl
theorem tw2391449824757734642:1=1:=rfl
theorem tw2394040479862359591:1=1:=rfl
theorem tw242841246431481386:1=1:=rfl
theorem tw2442259710966052079:1=1:=rfl
theorem tw2448417245163862455:1=1:=rfl
theorem tw2489000522355961661:1=1:=rfl
theorem tw2502866573005156581:1=1:=rfl
theorem tw250903467453971090:1=1:=rfl
theorem tw2562236817408797766:1=1:=rfl
theorem tw257007361410690125:1=1:=rfl
theorem tw2571760452639017654:1=1:=rfl
theorem tw2580477087445282633:1=1:=rfl
theorem tw2595994805191909183:1=1:=rfl
theorem tw262745018181394680:1=1:=rfl
theorem tw26425463804135960:1=1:=rfl
theorem tw2658526732547218105:1=1:=rfl
theorem tw2729298822523640997:1=1:=rfl
theorem tw2739504486584576224:1=1:=rfl
theorem tw2781682124601125471:1=1:=rfl
theorem tw2799067240506288376:1=1:=rfl
theorem tw2799716289819351777:1=1:=rfl
theorem tw2815220025927836654:1=1:=rfl
theorem tw2839761810297210574:1=1:=rfl
theorem tw2867327485932766208:1=1:=rfl
theorem tw2871226400543044806:1=1:=rfl
theorem tw2886944701177904103:1=1:=rfl
theorem tw2900905267640511130:1=1:=rfl
theorem tw2922222751358710265:1=1:=rfl
theorem tw2930668341846507884:1=1:=rfl
theorem tw2951005344575393816:1=1:=rfl
theorem tw2960447077969926378:1=1:=rfl
theorem tw2999033326186475339:1=1:=rfl
theorem tw3044193314922437478:1=1:=rfl
theorem tw3088336149111003398:1=1:=rfl
theorem tw3109861748172591687:1=1:=rfl
theorem tw3182187488490625086:1=1:=rfl
theorem tw3196399650302076718:1=1:=rfl
theorem tw3215350286424857435:1=1:=rfl
theorem tw3229955645248102723:1=1:=rfl
theorem tw3259873300814134281:1=1:=rfl
theorem tw3309697970292668127:1=1:=rfl
theorem tw3333446698644548216:1=1:=rfl
theorem tw3350844169311001129:1=1:=rfl
theorem tw3350930974749635488:1=1:=rfl
theorem tw3351243064061966995:1=1:=rfl
theorem tw3364418463632694928:1=1:=rfl
theorem tw3405361230339686725:1=1:=rfl
theorem tw3442329435671937591:1=1:=rfl
theorem tw3443669649825651883:1=1:=rfl
theorem tw3451239065008710300:1=1:=rfl
theorem tw3452082135128663414:1=1:=rfl
theorem tw3496965988886986938:1=1:=rfl
theorem tw3504079246686126755:1=1:=rfl
theorem tw3533295568840377906:1=1:=rfl
theorem tw3571134770919094901:1=1:=rfl
theorem tw3608708970678896270:1=1:=rfl
theorem tw3673020696563887462:1=1:=rfl
theorem tw368366308016060594:1=1:=rfl
theorem tw3683844413590923471:1=1:=rfl
theorem tw3722166409189360004:1=1:=rfl
theorem tw3787991596828424046:1=1:=rfl
theorem tw3789350110615891812:1=1:=rfl
theorem tw3795277891434052102:1=1:=rfl
theorem tw3878383114103592795:1=1:=rfl
theorem tw3890083515106143593:1=1:=rfl
theorem tw3913528116038191188:1=1:=rfl
theorem tw3941438180925939637:1=1:=rfl
theorem tw395138700845864316:1=1:=rfl
theorem tw3953601041324332601:1=1:=rfl
theorem tw4021928978595405253:1=1:=rfl
theorem tw4068527845204499245:1=1:=rfl
theorem tw4091639524402994376:1=1:=rfl
theorem tw4111692666942324129:1=1:=rfl
theorem tw4126306136578151734:1=1:=rfl
theorem tw4136554803537287180:1=1:=rfl
theorem tw4138081844389336918:1=1:=rfl
theorem tw4182648748547736412:1=1:=rfl
theorem tw424627922949020093:1=1:=rfl
theorem tw4272726840584523970:1=1:=rfl
theorem tw4282304852377368616:1=1:=rfl
theorem tw4282359134580295075:1=1:=rfl
theorem tw4299596416071116603:1=1:=rfl
theorem tw432457690288141553:1=1:=rfl
theorem tw4355604671862981090:1=1:=rfl
theorem tw4363365295628954845:1=1:=rfl
theorem tw4402725079659364252:1=1:=rfl
theorem tw442638132926106271:1=1:=rfl
theorem tw4432475053497693458:1=1:=rfl
theorem tw4449123307109862055:1=1:=rfl
theorem tw4478166936697009375:1=1:=rfl
theorem tw4527685146903026889:1=1:=rfl
theorem tw4643362625855044894:1=1:=rfl
theorem tw464777395874653626:1=1:=rfl
theorem tw469108185253701220:1=1:=rfl
theorem tw4702841417184801058:1=1:=rfl
theorem tw4725425184044842548:1=1:=rfl
theorem tw4730091804998409952:1=1:=rfl
theorem tw4735155535324382492:1=1:=rfl
theorem tw4768578896829404305:1=1:=rfl
theorem tw4817003022231809500:1=1:=rfl
theorem tw4833718069199227053:1=1:=rfl
theorem tw4856431653887292112:1=1:=rfl
theorem tw4870687313549177768:1=1:=rfl
theorem tw4884265699661437453:1=1:=rfl
theorem tw4958948430592982816:1=1:=rfl
theorem tw4975429006339234634:1=1:=rfl
theorem tw5009564483982726761:1=1:=rfl
theorem tw5021546742003373373:1=1:=rfl
theorem tw5036846961687405229:1=1:=rfl
theorem tw5135410709514514960:1=1:=rfl
theorem tw5148922909946612681:1=1:=rfl
theorem tw5167245352685981253:1=1:=rfl
theorem tw5174551420813472067:1=1:=rfl
theorem tw518976864732996251:1=1:=rfl
theorem tw5238241317806426387:1=1:=rfl
theorem tw5245234834050458271:1=1:=rfl
theorem tw5247051413645994129:1=1:=rfl
theorem tw526207354791536317:1=1:=rfl
theorem tw5278057926702712004:1=1:=rfl
theorem tw5283464899586487735:1=1:=rfl
theorem tw5289708365253275695:1=1:=rfl
theorem tw5318216170032084099:1=1:=rfl
theorem tw5322579261384874668:1=1:=rfl
theorem tw5362516397382645915:1=1:=rfl
theorem tw5363564295841288755:1=1:=rfl
theorem tw5373601922739893978:1=1:=rfl
theorem tw5378308252288859171:1=1:=rfl
theorem tw541196102884509978:1=1:=rfl
theorem tw5416991563250132298:1=1:=rfl
theorem tw5480042469492414594:1=1:=rfl
theorem tw5486487638281291605:1=1:=rfl
theorem tw5513025101015932971:1=1:=rfl
theorem tw5535567543195554156:1=1:=rfl
theorem tw5549315172176941698:1=1:=rfl
theorem tw5562173858411828344:1=1:=rfl
theorem tw5574845727924001799:1=1:=rfl
theorem tw5592360268479517082:1=1:=rfl
theorem tw5635641802508607975:1=1:=rfl
theorem tw5657824000916062451:1=1:=rfl
theorem tw5667655126489319660:1=1:=rfl
theorem tw5715356086224469760:1=1:=rfl
theorem tw5732804406350252772:1=1:=rfl
theorem tw574300837803046910:1=1:=rfl
theorem tw578887228443019578:1=1:=rfl
theorem tw5810065557313606291:1=1:=rfl
theorem tw5873113503399164460:1=1:=rfl
theorem tw5902613922787404954:1=1:=rfl
theorem tw5983496337302601536:1=1:=rfl
theorem tw5987830557187376847:1=1:=rfl
theorem tw6014424301940151174:1=1:=rfl
theorem tw6046454685291232161:1=1:=rfl
theorem tw6060742912462422084:1=1:=rfl
theorem tw6079173187612997037:1=1:=rfl
theorem tw6081201349915205085:1=1:=rfl
theorem tw6082411064634330575:1=1:=rfl
theorem tw6109525258741381055:1=1:=rfl
theorem tw6136932545381038964:1=1:=rfl
theorem tw6164396464334811476:1=1:=rfl
theorem tw6184460063843016694:1=1:=rfl
theorem tw6186238094035137676:1=1:=rfl
theorem tw6199765714743212253:1=1:=rfl
theorem tw6213412439835118660:1=1:=rfl
theorem tw6278647508926252785:1=1:=rfl
theorem tw6293948785866598258:1=1:=rfl
theorem tw6305734824756694309:1=1:=rfl
theorem tw6308581086252854402:1=1:=rfl
theorem tw6320253292602491972:1=1:=rfl
theorem tw6372862494175223470:1=1:=rfl
theorem tw6374767894290048045:1=1:=rfl
theorem tw6407587892757256292:1=1:=rfl
theorem tw6449127861642672459:1=1:=rfl
theorem tw6469175993241445255:1=1:=rfl
theorem tw6545403380812914513:1=1:=rfl
theorem tw6563143717978901596:1=1:=rfl
theorem tw6578402527460240241:1=1:=rfl
theorem tw6598312636042714100:1=1:=rfl
theorem tw6615107907471364465:1=1:=rfl
theorem tw6646985988748340704:1=1:=rfl
theorem tw6669269137521125552:1=1:=rfl
theorem tw6679266806504041263:1=1:=rfl
theorem tw6709418730364537143:1=1:=rfl
theorem tw6755925336976613232:1=1:=rfl
theorem tw6759412095888398321:1=1:=rfl
theorem tw6761669909254768831:1=1:=rfl
theorem tw6780557218761844654:1=1:=rfl
theorem tw678209747344391502:1=1:=rfl
theorem tw6804821044290156842:1=1:=rfl
theorem tw6818987989461384207:1=1:=rfl
theorem tw6824622198901579176:1=1:=rfl
theorem tw6848782300941138395:1=1:=rfl
theorem tw6863908755163788682:1=1:=rfl
theorem tw6877226645827823821:1=1:=rfl
theorem tw6882427118574961969:1=1:=rfl
theorem tw6898005170327248138:1=1:=rfl
theorem tw689954013368505116:1=1:=rfl
theorem tw6931407450589930559:1=1:=rfl
theorem tw6944254716217146218:1=1:=rfl
theorem tw6988595667528144454:1=1:=rfl
theorem tw7120233287515763914:1=1:=rfl
theorem tw7152984921513172624:1=1:=rfl
theorem tw7184745663730752293:1=1:=rfl
theorem tw7256068157193428750:1=1:=rfl
theorem tw7270182246851987180:1=1:=rfl
theorem tw7289601568589263668:1=1:=rfl
theorem tw7289634563603522867:1=1:=rfl
theorem tw7317836474542784337:1=1:=rfl
theorem tw7354087734392854552:1=1:=rfl
theorem tw7366208706002141716:1=1:=rfl
theorem tw7369741819223213686:1=1:=rfl
theorem tw7372000682148998216:1=1:=rfl
theorem tw7399621439246259153:1=1:=rfl
theorem tw7492773218913965947:1=1:=rfl
theorem tw7510230149288206974:1=1:=rfl
theorem tw7523672394736509286:1=1:=rfl
theorem tw7526368328331116154:1=1:=rfl
theorem tw7540741092611519060:1=1:=rfl
theorem tw7541792107247259296:1=1:=rfl
theorem tw758273949599710562:1=1:=rfl
theorem tw7657299143145469618:1=1:=rfl
theorem tw7712595579559962911:1=1:=rfl
theorem tw7712819752767893495:1=1:=rfl
theorem tw7746578258024575070:1=1:=rfl
theorem tw7752767780024739350:1=1:=rfl
theorem tw7763873220885509757:1=1:=rfl
theorem tw7792395482447073224:1=1:=rfl
theorem tw7872162285098387286:1=1:=rfl
theorem tw7880807054014371918:1=1:=rfl
theorem tw7891253978561527248:1=1:=rfl
theorem tw7898215921889874393:1=1:=rfl
theorem tw7914949630228597729:1=1:=rfl
theorem tw8001178428526945343:1=1:=rfl
theorem tw8025032847418708242:1=1:=rfl
theorem tw8044012406986999415:1=1:=rfl
theorem tw8047900516022102942:1=1:=rfl
theorem tw8053944837975664402:1=1:=rfl
theorem tw8112040973832200146:1=1:=rfl
theorem tw8117029840178788049:1=1:=rfl
theorem tw8134915037123179040:1=1:=rfl
theorem tw8184699220007379433:1=1:=rfl
theorem tw8191903926673212241:1=1:=rfl
theorem tw8197050154876552520:1=1:=rfl
theorem tw8242931771332617035:1=1:=rfl
theorem tw8268277133935991078:1=1:=rfl
theorem tw8269573656231971908:1=1:=rfl
theorem tw8293946417935249925:1=1:=rfl
theorem tw8311865607074365958:1=1:=rfl
theorem tw8312999807965096350:1=1:=rfl
theorem tw8317466277049474617:1=1:=rfl
theorem tw8343274005884668182:1=1:=rfl
theorem tw8356816923877370021:1=1:=rfl
theorem tw8428860471423672150:1=1:=rfl
theorem tw8457440626546761165:1=1:=rfl
theorem tw8531993380330477603:1=1:=rfl
theorem tw8609351116199087170:1=1:=rfl
theorem tw8664936974563722654:1=1:=rfl
theorem tw8671608845466749128:1=1:=rfl
theorem tw8684328023851190084:1=1:=rfl
theorem tw8716120427605611371:1=1:=rfl
theorem tw876933089483189297:1=1:=rfl
theorem tw8770659054964912022:1=1:=rfl
theorem tw8782845755251953576:1=1:=rfl
theorem tw8789358453043137523:1=1:=rfl
theorem tw8803977449572941912:1=1:=rfl
theorem tw881544763273948857:1=1:=rfl
theorem tw8879563391730754479:1=1:=rfl
theorem tw8912803164822033684:1=1:=rfl
theorem tw8934143017859847078:1=1:=rfl
theorem tw8960069828448710407:1=1:=rfl
theorem tw8965841893048198262:1=1:=rfl
theorem tw9012836324853574702:1=1:=rfl
theorem tw9013056391748086436:1=1:=rfl
theorem tw9073681462420916055:1=1:=rfl
theorem tw9077708301081682751:1=1:=rfl
theorem tw9087110039335098043:1=1:=rfl
theorem tw9153386212771759811:1=1:=rfl
theorem tw920214292312260371:1=1:=rfl
theorem tw9215827820722605749:1=1:=rfl
theorem tw9271970288684553227:1=1:=rfl
theorem tw9277588360372424766:1=1:=rfl
theorem tw9330823016148744750:1=1:=rfl
theorem tw9330943631129107780:1=1:=rfl
theorem tw9357088731924715283:1=1:=rfl
theorem tw9390866547671247325:1=1:=rfl
theorem tw9406673726873002282:1=1:=rfl
theorem tw9420132969298855359:1=1:=rfl
theorem tw9429285754427346401:1=1:=rfl
theorem tw9449672872311958731:1=1:=rfl
theorem tw9467313397243273497:1=1:=rfl
theorem tw9499510787657705874:1=1:=rfl
theorem tw9533747618267967006:1=1:=rfl
theorem tw9577689765879766989:1=1:=rfl
theorem tw9631708518359487223:1=1:=rfl
theorem tw9653751418590077562:1=1:=rfl
theorem tw9673543361469618366:1=1:=rfl
theorem tw9719896912496429819:1=1:=rfl
theorem tw9748044761591592747:1=1:=rfl
theorem tw9763420282994701918:1=1:=rfl
theorem tw978945382295711627:1=1:=rfl
theorem tw9796608642542582738:1=1:=rfl
theorem tw991583007596301734:1=1:=rfl
theorem tw9927179837433541088:1=1:=rfl
end hd
set_option maxHeartbeats 0
set_option Elab.async true
theorem hd : PySem.Challenge.rw_te0032_03.Holds := by
  w_on; o_law; k_head
  case hw => w_witness2
  k_go0
  rename Frag.In _ _ => KX
  rename Top _ _ _ _ _ _ => TT
  rename Heap.IsList _ _ _ => hL
  rename IntsAre _ _ => hI
  rename Fr _ _ _ _ => FF
  rename (¬ (_ < _)) => hc
  rename Shared.gens _ = #[] => hg
  refine law_go (n := 20) (in_pick KX (K' := KP) (l := KPL) (fun P => by kernel_rfl)) TT hL hI FF ?_ ?_ ?_ ?_ ?_
  · intro x
    show (List.lookup x [(_, _)].reverse).map er = _
    unfold setL
    by_cases hx : x = "script"
    · subst hx; simp
    · have : (x == "script") = false := by simpa using hx
      rw [if_neg hx]
      simp only [List.reverse_cons, List.reverse_nil, List.nil_append, List.lookup_cons, this, List.lookup_nil, Option.map_none]
  · exact room0 _
  · exact Nat.succ_le_succ (Nat.zero_le _)
  · intro X fz hK e1 e2 hl
    obtain ⟨Z, rfl⟩ := Cz.of (X := X) (by rw [hK, e2])
    exact law_body3 (by rw [e2]) rfl hl (by omega)
  · intro f s' hr hF lk
    obtain ⟨m', hF⟩ := hF
    obtain ⟨h', t', rfl, ht⟩ := lk
    cases f with
    | ret v =>
      have hv : v = .bool true := hr
      subst hv
      refine goodW_bool hF hg (raisesW_false ?_) ?_
      · wrow_none_raised
      · wrow_post
    | next => cases hr
    | brk => cases hr
    | cont => cases hr
end Mine
end
set_option maxRecDepth 100000 in
set_option maxHeartbeats 8000000 in
theorem PySem.Challenge.cw_te0032_03_holds : PySem.Challenge.rw_te0032_03.Holds :=
  Mine.hd
