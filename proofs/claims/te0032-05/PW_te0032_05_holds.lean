import PyProof.Rows.All
import Wide.All
import OpenK.AllK
import Wide.FinOn
import Lean
import PySem.Challenge.RW_te0032_05
set_option Elab.async false
set_option linter.all false
set_option bootstrap.genMatcherCode false
set_option genSizeOf false
set_option genInjectivity false
section
namespace Mine
open PySem PySem.W PySem.Calls PyProof.Rows
theorem dn {G : Prop} (h : (G → False) → False) : G := Classical.byContradiction h
theorem obA {a1 : Prop} {a2 : Prop} {G : Prop} (h : a1 ∧ a2) (k : a1 → a2 → G) : G := k (h).1 (h).2
theorem obE {T1 : Type} {a1 : T1 → Prop} {G : Prop} (h : ∃ x1, a1 x1) (k : ∀ x1, a1 x1 → G) : G := (h).elim fun x1 h0 => k x1 h0
theorem obEA {T1 : Type} {a1 : T1 → Prop} {a2 : T1 → Prop} {G : Prop} (h : ∃ x1, a1 x1 ∧ a2 x1) (k : ∀ x1, a1 x1 → a2 x1 → G) : G := (h).elim fun x1 h0 => k x1 (h0).1 (h0).2
theorem obEE {T1 T2 : Type} {a1 : T1 → T2 → Prop} {G : Prop} (h : ∃ x1, ∃ x2, a1 x1 x2) (k : ∀ x1, ∀ x2, a1 x1 x2 → G) : G := (h).elim fun x1 h0 => (h0).elim fun x2 h1 => k x1 x2 h1
theorem obAA {a1 : Prop} {a2 : Prop} {a3 : Prop} {G : Prop} (h : a1 ∧ a2 ∧ a3) (k : a1 → a2 → a3 → G) : G := k (h).1 ((h).2).1 ((h).2).2
theorem obAEA {T1 : Type} {a1 : Prop} {a2 : T1 → Prop} {a3 : T1 → Prop} {G : Prop} (h : a1 ∧ ∃ x1, a2 x1 ∧ a3 x1) (k : a1 → ∀ x1, a2 x1 → a3 x1 → G) : G := ((h).2).elim fun x1 h1 => k (h).1 x1 (h1).1 (h1).2
theorem obAAA {a1 : Prop} {a2 : Prop} {a3 : Prop} {a4 : Prop} {G : Prop} (h : a1 ∧ a2 ∧ a3 ∧ a4) (k : a1 → a2 → a3 → a4 → G) : G := k (h).1 ((h).2).1 (((h).2).2).1 (((h).2).2).2
theorem obEEA {T1 T2 : Type} {a1 : T1 → T2 → Prop} {a2 : T1 → T2 → Prop} {G : Prop} (h : ∃ x1, ∃ x2, a1 x1 x2 ∧ a2 x1 x2) (k : ∀ x1, ∀ x2, a1 x1 x2 → a2 x1 x2 → G) : G := (h).elim fun x1 h0 => (h0).elim fun x2 h1 => k x1 x2 (h1).1 (h1).2
theorem obEAA {T1 : Type} {a1 : T1 → Prop} {a2 : T1 → Prop} {a3 : T1 → Prop} {G : Prop} (h : ∃ x1, a1 x1 ∧ a2 x1 ∧ a3 x1) (k : ∀ x1, a1 x1 → a2 x1 → a3 x1 → G) : G := (h).elim fun x1 h0 => k x1 (h0).1 ((h0).2).1 ((h0).2).2
theorem obEEEA {T1 T2 T3 : Type} {a1 : T1 → T2 → T3 → Prop} {a2 : T1 → T2 → T3 → Prop} {G : Prop} (h : ∃ x1, ∃ x2, ∃ x3, a1 x1 x2 x3 ∧ a2 x1 x2 x3) (k : ∀ x1, ∀ x2, ∀ x3, a1 x1 x2 x3 → a2 x1 x2 x3 → G) : G := (h).elim fun x1 h0 => (h0).elim fun x2 h1 => (h1).elim fun x3 h2 => k x1 x2 x3 (h2).1 (h2).2
theorem obEAAA {T1 : Type} {a1 : T1 → Prop} {a2 : T1 → Prop} {a3 : T1 → Prop} {a4 : T1 → Prop} {G : Prop} (h : ∃ x1, a1 x1 ∧ a2 x1 ∧ a3 x1 ∧ a4 x1) (k : ∀ x1, a1 x1 → a2 x1 → a3 x1 → a4 x1 → G) : G := (h).elim fun x1 h0 => k x1 (h0).1 ((h0).2).1 (((h0).2).2).1 (((h0).2).2).2
theorem obAEAA {T1 : Type} {a1 : Prop} {a2 : T1 → Prop} {a3 : T1 → Prop} {a4 : T1 → Prop} {G : Prop} (h : a1 ∧ ∃ x1, a2 x1 ∧ a3 x1 ∧ a4 x1) (k : a1 → ∀ x1, a2 x1 → a3 x1 → a4 x1 → G) : G := ((h).2).elim fun x1 h1 => k (h).1 x1 (h1).1 ((h1).2).1 ((h1).2).2
theorem obAAAA {a1 : Prop} {a2 : Prop} {a3 : Prop} {a4 : Prop} {a5 : Prop} {G : Prop} (h : a1 ∧ a2 ∧ a3 ∧ a4 ∧ a5) (k : a1 → a2 → a3 → a4 → a5 → G) : G := k (h).1 ((h).2).1 (((h).2).2).1 ((((h).2).2).2).1 ((((h).2).2).2).2
theorem obEEAA {T1 T2 : Type} {a1 : T1 → T2 → Prop} {a2 : T1 → T2 → Prop} {a3 : T1 → T2 → Prop} {G : Prop} (h : ∃ x1, ∃ x2, a1 x1 x2 ∧ a2 x1 x2 ∧ a3 x1 x2) (k : ∀ x1, ∀ x2, a1 x1 x2 → a2 x1 x2 → a3 x1 x2 → G) : G := (h).elim fun x1 h0 => (h0).elim fun x2 h1 => k x1 x2 (h1).1 ((h1).2).1 ((h1).2).2
theorem obEAAE {T1 T2 : Type} {a1 : T1 → Prop} {a2 : T1 → Prop} {a3 : T1 → T2 → Prop} {G : Prop} (h : ∃ x1, a1 x1 ∧ a2 x1 ∧ ∃ x2, a3 x1 x2) (k : ∀ x1, a1 x1 → a2 x1 → ∀ x2, a3 x1 x2 → G) : G := (h).elim fun x1 h0 => (((h0).2).2).elim fun x2 h3 => k x1 (h0).1 ((h0).2).1 x2 h3
theorem obEEAAA {T1 T2 : Type} {a1 : T1 → T2 → Prop} {a2 : T1 → T2 → Prop} {a3 : T1 → T2 → Prop} {a4 : T1 → T2 → Prop} {G : Prop} (h : ∃ x1, ∃ x2, a1 x1 x2 ∧ a2 x1 x2 ∧ a3 x1 x2 ∧ a4 x1 x2) (k : ∀ x1, ∀ x2, a1 x1 x2 → a2 x1 x2 → a3 x1 x2 → a4 x1 x2 → G) : G := (h).elim fun x1 h0 => (h0).elim fun x2 h1 => k x1 x2 (h1).1 ((h1).2).1 (((h1).2).2).1 (((h1).2).2).2
theorem obEEAAAA {T1 T2 : Type} {a1 : T1 → T2 → Prop} {a2 : T1 → T2 → Prop} {a3 : T1 → T2 → Prop} {a4 : T1 → T2 → Prop} {a5 : T1 → T2 → Prop} {G : Prop} (h : ∃ x1, ∃ x2, a1 x1 x2 ∧ a2 x1 x2 ∧ a3 x1 x2 ∧ a4 x1 x2 ∧ a5 x1 x2) (k : ∀ x1, ∀ x2, a1 x1 x2 → a2 x1 x2 → a3 x1 x2 → a4 x1 x2 → a5 x1 x2 → G) : G := (h).elim fun x1 h0 => (h0).elim fun x2 h1 => k x1 x2 (h1).1 ((h1).2).1 (((h1).2).2).1 ((((h1).2).2).2).1 ((((h1).2).2).2).2
theorem obEEAAEA {T1 T2 T3 : Type} {a1 : T1 → T2 → Prop} {a2 : T1 → T2 → Prop} {a3 : T1 → T2 → T3 → Prop} {a4 : T1 → T2 → T3 → Prop} {G : Prop} (h : ∃ x1, ∃ x2, a1 x1 x2 ∧ a2 x1 x2 ∧ ∃ x3, a3 x1 x2 x3 ∧ a4 x1 x2 x3) (k : ∀ x1, ∀ x2, a1 x1 x2 → a2 x1 x2 → ∀ x3, a3 x1 x2 x3 → a4 x1 x2 x3 → G) : G := (h).elim fun x1 h0 => (h0).elim fun x2 h1 => (((h1).2).2).elim fun x3 h4 => k x1 x2 (h1).1 ((h1).2).1 x3 (h4).1 (h4).2
theorem obEEEEEAA {T1 T2 T3 T4 T5 : Type} {a1 : T1 → T2 → T3 → T4 → T5 → Prop} {a2 : T1 → T2 → T3 → T4 → T5 → Prop} {a3 : T1 → T2 → T3 → T4 → T5 → Prop} {G : Prop} (h : ∃ x1, ∃ x2, ∃ x3, ∃ x4, ∃ x5, a1 x1 x2 x3 x4 x5 ∧ a2 x1 x2 x3 x4 x5 ∧ a3 x1 x2 x3 x4 x5) (k : ∀ x1, ∀ x2, ∀ x3, ∀ x4, ∀ x5, a1 x1 x2 x3 x4 x5 → a2 x1 x2 x3 x4 x5 → a3 x1 x2 x3 x4 x5 → G) : G := (h).elim fun x1 h0 => (h0).elim fun x2 h1 => (h1).elim fun x3 h2 => (h2).elim fun x4 h3 => (h3).elim fun x5 h4 => k x1 x2 x3 x4 x5 (h4).1 ((h4).2).1 ((h4).2).2
theorem obEEAAEAA {T1 T2 T3 : Type} {a1 : T1 → T2 → Prop} {a2 : T1 → T2 → Prop} {a3 : T1 → T2 → T3 → Prop} {a4 : T1 → T2 → T3 → Prop} {a5 : T1 → T2 → T3 → Prop} {G : Prop} (h : ∃ x1, ∃ x2, a1 x1 x2 ∧ a2 x1 x2 ∧ ∃ x3, a3 x1 x2 x3 ∧ a4 x1 x2 x3 ∧ a5 x1 x2 x3) (k : ∀ x1, ∀ x2, a1 x1 x2 → a2 x1 x2 → ∀ x3, a3 x1 x2 x3 → a4 x1 x2 x3 → a5 x1 x2 x3 → G) : G := (h).elim fun x1 h0 => (h0).elim fun x2 h1 => (((h1).2).2).elim fun x3 h4 => k x1 x2 (h1).1 ((h1).2).1 x3 (h4).1 ((h4).2).1 ((h4).2).2
theorem obEEAAAAAA {T1 T2 : Type} {a1 : T1 → T2 → Prop} {a2 : T1 → T2 → Prop} {a3 : T1 → T2 → Prop} {a4 : T1 → T2 → Prop} {a5 : T1 → T2 → Prop} {a6 : T1 → T2 → Prop} {a7 : T1 → T2 → Prop} {G : Prop} (h : ∃ x1, ∃ x2, a1 x1 x2 ∧ a2 x1 x2 ∧ a3 x1 x2 ∧ a4 x1 x2 ∧ a5 x1 x2 ∧ a6 x1 x2 ∧ a7 x1 x2) (k : ∀ x1, ∀ x2, a1 x1 x2 → a2 x1 x2 → a3 x1 x2 → a4 x1 x2 → a5 x1 x2 → a6 x1 x2 → a7 x1 x2 → G) : G := (h).elim fun x1 h0 => (h0).elim fun x2 h1 => k x1 x2 (h1).1 ((h1).2).1 (((h1).2).2).1 ((((h1).2).2).2).1 (((((h1).2).2).2).2).1 ((((((h1).2).2).2).2).2).1 ((((((h1).2).2).2).2).2).2
theorem obEEAAEAAA {T1 T2 T3 : Type} {a1 : T1 → T2 → Prop} {a2 : T1 → T2 → Prop} {a3 : T1 → T2 → T3 → Prop} {a4 : T1 → T2 → T3 → Prop} {a5 : T1 → T2 → T3 → Prop} {a6 : T1 → T2 → T3 → Prop} {G : Prop} (h : ∃ x1, ∃ x2, a1 x1 x2 ∧ a2 x1 x2 ∧ ∃ x3, a3 x1 x2 x3 ∧ a4 x1 x2 x3 ∧ a5 x1 x2 x3 ∧ a6 x1 x2 x3) (k : ∀ x1, ∀ x2, a1 x1 x2 → a2 x1 x2 → ∀ x3, a3 x1 x2 x3 → a4 x1 x2 x3 → a5 x1 x2 x3 → a6 x1 x2 x3 → G) : G := (h).elim fun x1 h0 => (h0).elim fun x2 h1 => (((h1).2).2).elim fun x3 h4 => k x1 x2 (h1).1 ((h1).2).1 x3 (h4).1 ((h4).2).1 (((h4).2).2).1 (((h4).2).2).2
theorem obEEEEAAAA {T1 T2 T3 T4 : Type} {a1 : T1 → T2 → T3 → T4 → Prop} {a2 : T1 → T2 → T3 → T4 → Prop} {a3 : T1 → T2 → T3 → T4 → Prop} {a4 : T1 → T2 → T3 → T4 → Prop} {a5 : T1 → T2 → T3 → T4 → Prop} {G : Prop} (h : ∃ x1, ∃ x2, ∃ x3, ∃ x4, a1 x1 x2 x3 x4 ∧ a2 x1 x2 x3 x4 ∧ a3 x1 x2 x3 x4 ∧ a4 x1 x2 x3 x4 ∧ a5 x1 x2 x3 x4) (k : ∀ x1, ∀ x2, ∀ x3, ∀ x4, a1 x1 x2 x3 x4 → a2 x1 x2 x3 x4 → a3 x1 x2 x3 x4 → a4 x1 x2 x3 x4 → a5 x1 x2 x3 x4 → G) : G := (h).elim fun x1 h0 => (h0).elim fun x2 h1 => (h1).elim fun x3 h2 => (h2).elim fun x4 h3 => k x1 x2 x3 x4 (h3).1 ((h3).2).1 (((h3).2).2).1 ((((h3).2).2).2).1 ((((h3).2).2).2).2
theorem obEAAAAAAA {T1 : Type} {a1 : T1 → Prop} {a2 : T1 → Prop} {a3 : T1 → Prop} {a4 : T1 → Prop} {a5 : T1 → Prop} {a6 : T1 → Prop} {a7 : T1 → Prop} {a8 : T1 → Prop} {G : Prop} (h : ∃ x1, a1 x1 ∧ a2 x1 ∧ a3 x1 ∧ a4 x1 ∧ a5 x1 ∧ a6 x1 ∧ a7 x1 ∧ a8 x1) (k : ∀ x1, a1 x1 → a2 x1 → a3 x1 → a4 x1 → a5 x1 → a6 x1 → a7 x1 → a8 x1 → G) : G := (h).elim fun x1 h0 => k x1 (h0).1 ((h0).2).1 (((h0).2).2).1 ((((h0).2).2).2).1 (((((h0).2).2).2).2).1 ((((((h0).2).2).2).2).2).1 (((((((h0).2).2).2).2).2).2).1 (((((((h0).2).2).2).2).2).2).2
theorem obEEEAAAAA {T1 T2 T3 : Type} {a1 : T1 → T2 → T3 → Prop} {a2 : T1 → T2 → T3 → Prop} {a3 : T1 → T2 → T3 → Prop} {a4 : T1 → T2 → T3 → Prop} {a5 : T1 → T2 → T3 → Prop} {a6 : T1 → T2 → T3 → Prop} {G : Prop} (h : ∃ x1, ∃ x2, ∃ x3, a1 x1 x2 x3 ∧ a2 x1 x2 x3 ∧ a3 x1 x2 x3 ∧ a4 x1 x2 x3 ∧ a5 x1 x2 x3 ∧ a6 x1 x2 x3) (k : ∀ x1, ∀ x2, ∀ x3, a1 x1 x2 x3 → a2 x1 x2 x3 → a3 x1 x2 x3 → a4 x1 x2 x3 → a5 x1 x2 x3 → a6 x1 x2 x3 → G) : G := (h).elim fun x1 h0 => (h0).elim fun x2 h1 => (h1).elim fun x3 h2 => k x1 x2 x3 (h2).1 ((h2).2).1 (((h2).2).2).1 ((((h2).2).2).2).1 (((((h2).2).2).2).2).1 (((((h2).2).2).2).2).2
theorem obEEAAEEAAA {T1 T2 T3 T4 : Type} {a1 : T1 → T2 → Prop} {a2 : T1 → T2 → Prop} {a3 : T1 → T2 → T3 → T4 → Prop} {a4 : T1 → T2 → T3 → T4 → Prop} {a5 : T1 → T2 → T3 → T4 → Prop} {a6 : T1 → T2 → T3 → T4 → Prop} {G : Prop} (h : ∃ x1, ∃ x2, a1 x1 x2 ∧ a2 x1 x2 ∧ ∃ x3, ∃ x4, a3 x1 x2 x3 x4 ∧ a4 x1 x2 x3 x4 ∧ a5 x1 x2 x3 x4 ∧ a6 x1 x2 x3 x4) (k : ∀ x1, ∀ x2, a1 x1 x2 → a2 x1 x2 → ∀ x3, ∀ x4, a3 x1 x2 x3 x4 → a4 x1 x2 x3 x4 → a5 x1 x2 x3 x4 → a6 x1 x2 x3 x4 → G) : G := (h).elim fun x1 h0 => (h0).elim fun x2 h1 => (((h1).2).2).elim fun x3 h4 => (h4).elim fun x4 h5 => k x1 x2 (h1).1 ((h1).2).1 x3 x4 (h5).1 ((h5).2).1 (((h5).2).2).1 (((h5).2).2).2
theorem obAEEEEEAAA {T1 T2 T3 T4 T5 : Type} {a1 : Prop} {a2 : T1 → T2 → T3 → T4 → T5 → Prop} {a3 : T1 → T2 → T3 → T4 → T5 → Prop} {a4 : T1 → T2 → T3 → T4 → T5 → Prop} {a5 : T1 → T2 → T3 → T4 → T5 → Prop} {G : Prop} (h : a1 ∧ ∃ x1, ∃ x2, ∃ x3, ∃ x4, ∃ x5, a2 x1 x2 x3 x4 x5 ∧ a3 x1 x2 x3 x4 x5 ∧ a4 x1 x2 x3 x4 x5 ∧ a5 x1 x2 x3 x4 x5) (k : a1 → ∀ x1, ∀ x2, ∀ x3, ∀ x4, ∀ x5, a2 x1 x2 x3 x4 x5 → a3 x1 x2 x3 x4 x5 → a4 x1 x2 x3 x4 x5 → a5 x1 x2 x3 x4 x5 → G) : G := ((h).2).elim fun x1 h1 => (h1).elim fun x2 h2 => (h2).elim fun x3 h3 => (h3).elim fun x4 h4 => (h4).elim fun x5 h5 => k (h).1 x1 x2 x3 x4 x5 (h5).1 ((h5).2).1 (((h5).2).2).1 (((h5).2).2).2
theorem obEEEAAAAAA {T1 T2 T3 : Type} {a1 : T1 → T2 → T3 → Prop} {a2 : T1 → T2 → T3 → Prop} {a3 : T1 → T2 → T3 → Prop} {a4 : T1 → T2 → T3 → Prop} {a5 : T1 → T2 → T3 → Prop} {a6 : T1 → T2 → T3 → Prop} {a7 : T1 → T2 → T3 → Prop} {G : Prop} (h : ∃ x1, ∃ x2, ∃ x3, a1 x1 x2 x3 ∧ a2 x1 x2 x3 ∧ a3 x1 x2 x3 ∧ a4 x1 x2 x3 ∧ a5 x1 x2 x3 ∧ a6 x1 x2 x3 ∧ a7 x1 x2 x3) (k : ∀ x1, ∀ x2, ∀ x3, a1 x1 x2 x3 → a2 x1 x2 x3 → a3 x1 x2 x3 → a4 x1 x2 x3 → a5 x1 x2 x3 → a6 x1 x2 x3 → a7 x1 x2 x3 → G) : G := (h).elim fun x1 h0 => (h0).elim fun x2 h1 => (h1).elim fun x3 h2 => k x1 x2 x3 (h2).1 ((h2).2).1 (((h2).2).2).1 ((((h2).2).2).2).1 (((((h2).2).2).2).2).1 ((((((h2).2).2).2).2).2).1 ((((((h2).2).2).2).2).2).2
theorem obEEAAAAAAAA {T1 T2 : Type} {a1 : T1 → T2 → Prop} {a2 : T1 → T2 → Prop} {a3 : T1 → T2 → Prop} {a4 : T1 → T2 → Prop} {a5 : T1 → T2 → Prop} {a6 : T1 → T2 → Prop} {a7 : T1 → T2 → Prop} {a8 : T1 → T2 → Prop} {a9 : T1 → T2 → Prop} {G : Prop} (h : ∃ x1, ∃ x2, a1 x1 x2 ∧ a2 x1 x2 ∧ a3 x1 x2 ∧ a4 x1 x2 ∧ a5 x1 x2 ∧ a6 x1 x2 ∧ a7 x1 x2 ∧ a8 x1 x2 ∧ a9 x1 x2) (k : ∀ x1, ∀ x2, a1 x1 x2 → a2 x1 x2 → a3 x1 x2 → a4 x1 x2 → a5 x1 x2 → a6 x1 x2 → a7 x1 x2 → a8 x1 x2 → a9 x1 x2 → G) : G := (h).elim fun x1 h0 => (h0).elim fun x2 h1 => k x1 x2 (h1).1 ((h1).2).1 (((h1).2).2).1 ((((h1).2).2).2).1 (((((h1).2).2).2).2).1 ((((((h1).2).2).2).2).2).1 (((((((h1).2).2).2).2).2).2).1 ((((((((h1).2).2).2).2).2).2).2).1 ((((((((h1).2).2).2).2).2).2).2).2
theorem obEEEEAAAAAA {T1 T2 T3 T4 : Type} {a1 : T1 → T2 → T3 → T4 → Prop} {a2 : T1 → T2 → T3 → T4 → Prop} {a3 : T1 → T2 → T3 → T4 → Prop} {a4 : T1 → T2 → T3 → T4 → Prop} {a5 : T1 → T2 → T3 → T4 → Prop} {a6 : T1 → T2 → T3 → T4 → Prop} {a7 : T1 → T2 → T3 → T4 → Prop} {G : Prop} (h : ∃ x1, ∃ x2, ∃ x3, ∃ x4, a1 x1 x2 x3 x4 ∧ a2 x1 x2 x3 x4 ∧ a3 x1 x2 x3 x4 ∧ a4 x1 x2 x3 x4 ∧ a5 x1 x2 x3 x4 ∧ a6 x1 x2 x3 x4 ∧ a7 x1 x2 x3 x4) (k : ∀ x1, ∀ x2, ∀ x3, ∀ x4, a1 x1 x2 x3 x4 → a2 x1 x2 x3 x4 → a3 x1 x2 x3 x4 → a4 x1 x2 x3 x4 → a5 x1 x2 x3 x4 → a6 x1 x2 x3 x4 → a7 x1 x2 x3 x4 → G) : G := (h).elim fun x1 h0 => (h0).elim fun x2 h1 => (h1).elim fun x3 h2 => (h2).elim fun x4 h3 => k x1 x2 x3 x4 (h3).1 ((h3).2).1 (((h3).2).2).1 ((((h3).2).2).2).1 (((((h3).2).2).2).2).1 ((((((h3).2).2).2).2).2).1 ((((((h3).2).2).2).2).2).2
theorem obAEEEAAAAAA {T1 T2 T3 : Type} {a1 : Prop} {a2 : T1 → T2 → T3 → Prop} {a3 : T1 → T2 → T3 → Prop} {a4 : T1 → T2 → T3 → Prop} {a5 : T1 → T2 → T3 → Prop} {a6 : T1 → T2 → T3 → Prop} {a7 : T1 → T2 → T3 → Prop} {a8 : T1 → T2 → T3 → Prop} {G : Prop} (h : a1 ∧ ∃ x1, ∃ x2, ∃ x3, a2 x1 x2 x3 ∧ a3 x1 x2 x3 ∧ a4 x1 x2 x3 ∧ a5 x1 x2 x3 ∧ a6 x1 x2 x3 ∧ a7 x1 x2 x3 ∧ a8 x1 x2 x3) (k : a1 → ∀ x1, ∀ x2, ∀ x3, a2 x1 x2 x3 → a3 x1 x2 x3 → a4 x1 x2 x3 → a5 x1 x2 x3 → a6 x1 x2 x3 → a7 x1 x2 x3 → a8 x1 x2 x3 → G) : G := ((h).2).elim fun x1 h1 => (h1).elim fun x2 h2 => (h2).elim fun x3 h3 => k (h).1 x1 x2 x3 (h3).1 ((h3).2).1 (((h3).2).2).1 ((((h3).2).2).2).1 (((((h3).2).2).2).2).1 ((((((h3).2).2).2).2).2).1 ((((((h3).2).2).2).2).2).2
theorem obAEAAAAAAAA {T1 : Type} {a1 : Prop} {a2 : T1 → Prop} {a3 : T1 → Prop} {a4 : T1 → Prop} {a5 : T1 → Prop} {a6 : T1 → Prop} {a7 : T1 → Prop} {a8 : T1 → Prop} {a9 : T1 → Prop} {a10 : T1 → Prop} {G : Prop} (h : a1 ∧ ∃ x1, a2 x1 ∧ a3 x1 ∧ a4 x1 ∧ a5 x1 ∧ a6 x1 ∧ a7 x1 ∧ a8 x1 ∧ a9 x1 ∧ a10 x1) (k : a1 → ∀ x1, a2 x1 → a3 x1 → a4 x1 → a5 x1 → a6 x1 → a7 x1 → a8 x1 → a9 x1 → a10 x1 → G) : G := ((h).2).elim fun x1 h1 => k (h).1 x1 (h1).1 ((h1).2).1 (((h1).2).2).1 ((((h1).2).2).2).1 (((((h1).2).2).2).2).1 ((((((h1).2).2).2).2).2).1 (((((((h1).2).2).2).2).2).2).1 ((((((((h1).2).2).2).2).2).2).2).1 ((((((((h1).2).2).2).2).2).2).2).2
theorem obAEEEAAAAAAA {T1 T2 T3 : Type} {a1 : Prop} {a2 : T1 → T2 → T3 → Prop} {a3 : T1 → T2 → T3 → Prop} {a4 : T1 → T2 → T3 → Prop} {a5 : T1 → T2 → T3 → Prop} {a6 : T1 → T2 → T3 → Prop} {a7 : T1 → T2 → T3 → Prop} {a8 : T1 → T2 → T3 → Prop} {a9 : T1 → T2 → T3 → Prop} {G : Prop} (h : a1 ∧ ∃ x1, ∃ x2, ∃ x3, a2 x1 x2 x3 ∧ a3 x1 x2 x3 ∧ a4 x1 x2 x3 ∧ a5 x1 x2 x3 ∧ a6 x1 x2 x3 ∧ a7 x1 x2 x3 ∧ a8 x1 x2 x3 ∧ a9 x1 x2 x3) (k : a1 → ∀ x1, ∀ x2, ∀ x3, a2 x1 x2 x3 → a3 x1 x2 x3 → a4 x1 x2 x3 → a5 x1 x2 x3 → a6 x1 x2 x3 → a7 x1 x2 x3 → a8 x1 x2 x3 → a9 x1 x2 x3 → G) : G := ((h).2).elim fun x1 h1 => (h1).elim fun x2 h2 => (h2).elim fun x3 h3 => k (h).1 x1 x2 x3 (h3).1 ((h3).2).1 (((h3).2).2).1 ((((h3).2).2).2).1 (((((h3).2).2).2).2).1 ((((((h3).2).2).2).2).2).1 (((((((h3).2).2).2).2).2).2).1 (((((((h3).2).2).2).2).2).2).2
theorem obEEEEEAAAAAAAA {T1 T2 T3 T4 T5 : Type} {a1 : T1 → T2 → T3 → T4 → T5 → Prop} {a2 : T1 → T2 → T3 → T4 → T5 → Prop} {a3 : T1 → T2 → T3 → T4 → T5 → Prop} {a4 : T1 → T2 → T3 → T4 → T5 → Prop} {a5 : T1 → T2 → T3 → T4 → T5 → Prop} {a6 : T1 → T2 → T3 → T4 → T5 → Prop} {a7 : T1 → T2 → T3 → T4 → T5 → Prop} {a8 : T1 → T2 → T3 → T4 → T5 → Prop} {a9 : T1 → T2 → T3 → T4 → T5 → Prop} {G : Prop} (h : ∃ x1, ∃ x2, ∃ x3, ∃ x4, ∃ x5, a1 x1 x2 x3 x4 x5 ∧ a2 x1 x2 x3 x4 x5 ∧ a3 x1 x2 x3 x4 x5 ∧ a4 x1 x2 x3 x4 x5 ∧ a5 x1 x2 x3 x4 x5 ∧ a6 x1 x2 x3 x4 x5 ∧ a7 x1 x2 x3 x4 x5 ∧ a8 x1 x2 x3 x4 x5 ∧ a9 x1 x2 x3 x4 x5) (k : ∀ x1, ∀ x2, ∀ x3, ∀ x4, ∀ x5, a1 x1 x2 x3 x4 x5 → a2 x1 x2 x3 x4 x5 → a3 x1 x2 x3 x4 x5 → a4 x1 x2 x3 x4 x5 → a5 x1 x2 x3 x4 x5 → a6 x1 x2 x3 x4 x5 → a7 x1 x2 x3 x4 x5 → a8 x1 x2 x3 x4 x5 → a9 x1 x2 x3 x4 x5 → G) : G := (h).elim fun x1 h0 => (h0).elim fun x2 h1 => (h1).elim fun x3 h2 => (h2).elim fun x4 h3 => (h3).elim fun x5 h4 => k x1 x2 x3 x4 x5 (h4).1 ((h4).2).1 (((h4).2).2).1 ((((h4).2).2).2).1 (((((h4).2).2).2).2).1 ((((((h4).2).2).2).2).2).1 (((((((h4).2).2).2).2).2).2).1 ((((((((h4).2).2).2).2).2).2).2).1 ((((((((h4).2).2).2).2).2).2).2).2
theorem obAEEEEAAAAAAAAAAAAAA {T1 T2 T3 T4 : Type} {a1 : Prop} {a2 : T1 → T2 → T3 → T4 → Prop} {a3 : T1 → T2 → T3 → T4 → Prop} {a4 : T1 → T2 → T3 → T4 → Prop} {a5 : T1 → T2 → T3 → T4 → Prop} {a6 : T1 → T2 → T3 → T4 → Prop} {a7 : T1 → T2 → T3 → T4 → Prop} {a8 : T1 → T2 → T3 → T4 → Prop} {a9 : T1 → T2 → T3 → T4 → Prop} {a10 : T1 → T2 → T3 → T4 → Prop} {a11 : T1 → T2 → T3 → T4 → Prop} {a12 : T1 → T2 → T3 → T4 → Prop} {a13 : T1 → T2 → T3 → T4 → Prop} {a14 : T1 → T2 → T3 → T4 → Prop} {a15 : T1 → T2 → T3 → T4 → Prop} {a16 : T1 → T2 → T3 → T4 → Prop} {G : Prop} (h : a1 ∧ ∃ x1, ∃ x2, ∃ x3, ∃ x4, a2 x1 x2 x3 x4 ∧ a3 x1 x2 x3 x4 ∧ a4 x1 x2 x3 x4 ∧ a5 x1 x2 x3 x4 ∧ a6 x1 x2 x3 x4 ∧ a7 x1 x2 x3 x4 ∧ a8 x1 x2 x3 x4 ∧ a9 x1 x2 x3 x4 ∧ a10 x1 x2 x3 x4 ∧ a11 x1 x2 x3 x4 ∧ a12 x1 x2 x3 x4 ∧ a13 x1 x2 x3 x4 ∧ a14 x1 x2 x3 x4 ∧ a15 x1 x2 x3 x4 ∧ a16 x1 x2 x3 x4) (k : a1 → ∀ x1, ∀ x2, ∀ x3, ∀ x4, a2 x1 x2 x3 x4 → a3 x1 x2 x3 x4 → a4 x1 x2 x3 x4 → a5 x1 x2 x3 x4 → a6 x1 x2 x3 x4 → a7 x1 x2 x3 x4 → a8 x1 x2 x3 x4 → a9 x1 x2 x3 x4 → a10 x1 x2 x3 x4 → a11 x1 x2 x3 x4 → a12 x1 x2 x3 x4 → a13 x1 x2 x3 x4 → a14 x1 x2 x3 x4 → a15 x1 x2 x3 x4 → a16 x1 x2 x3 x4 → G) : G := ((h).2).elim fun x1 h1 => (h1).elim fun x2 h2 => (h2).elim fun x3 h3 => (h3).elim fun x4 h4 => k (h).1 x1 x2 x3 x4 (h4).1 ((h4).2).1 (((h4).2).2).1 ((((h4).2).2).2).1 (((((h4).2).2).2).2).1 ((((((h4).2).2).2).2).2).1 (((((((h4).2).2).2).2).2).2).1 ((((((((h4).2).2).2).2).2).2).2).1 (((((((((h4).2).2).2).2).2).2).2).2).1 ((((((((((h4).2).2).2).2).2).2).2).2).2).1 (((((((((((h4).2).2).2).2).2).2).2).2).2).2).1 ((((((((((((h4).2).2).2).2).2).2).2).2).2).2).2).1 (((((((((((((h4).2).2).2).2).2).2).2).2).2).2).2).2).1 ((((((((((((((h4).2).2).2).2).2).2).2).2).2).2).2).2).2).1 ((((((((((((((h4).2).2).2).2).2).2).2).2).2).2).2).2).2).2


noncomputable def er : Value → Value
  | .int i _ => .int i 0
  | .float b _ => .float b 0
  | .str x _ => .str x 0
  | .bytes b _ => .bytes b 0
  | v => v

theorem er_none {v : Value} (h : er v = .none) : v = .none := by cases v <;> simp_all [er]
theorem er_bool {v : Value} {b : Bool} (h : er v = .bool b) : v = .bool b := by cases v <;> simp_all [er]
theorem er_int {v : Value} {i : Int} (h : er v = .int i 0) : ∃ t, v = .int i t := by cases v <;> simp_all [er]
theorem er_str {v : Value} {x : Str} (h : er v = .str x 0) : ∃ t, v = .str x t := by cases v <;> simp_all [er]
theorem er_ref {v : Value} {a : Addr} (h : er v = .ref a) : v = .ref a := by cases v <;> simp_all [er]
theorem er_builtin {v : Value} {a : String} (h : er v = .builtin a) : v = .builtin a := by cases v <;> simp_all [er]
theorem er_type {v : Value} {a : String} (h : er v = .type a) : v = .type a := by cases v <;> simp_all [er]
@[simp] theorem er_er (v : Value) : er (er v) = er v := by cases v <;> rfl
@[simp] theorem er_of_ref (a : Addr) : er (.ref a) = .ref a := rfl
@[simp] theorem er_of_none : er .none = .none := rfl
@[simp] theorem er_of_bool (b : Bool) : er (.bool b) = .bool b := rfl
@[simp] theorem er_of_int (i : Int) (t : Tok) : er (.int i t) = .int i 0 := rfl
@[simp] theorem er_of_str (i : Str) (t : Tok) : er (.str i t) = .str i 0 := rfl
@[simp] theorem er_of_builtin (i : String) : er (.builtin i) = .builtin i := rfl
@[simp] theorem er_of_type (i : String) : er (.type i) = .type i := rfl

noncomputable abbrev Loc := Str → Option Value

inductive AO where
  | inst (C : Addr) (k : Nat) (f : Str → Option Value)
  | dct (es : List (Str × Value))
  | lst (xs : List Value)
  | tup (xs : List Value)
  | obj (o : Obj)

noncomputable abbrev Mem := Addr → Option AO
noncomputable abbrev Frz := Addr → Option Obj

noncomputable def setL (m : Loc) (x : Str) (v : Value) : Loc := fun y => if y = x then some v else m y
noncomputable def setM (M : Mem) (a : Addr) (o : AO) : Mem := fun b => if b = a then some o else M b
theorem setM_same (M : Mem) (a : Addr) (o : AO) : setM M a o a = some o := if_pos rfl
theorem setM_ne (M : Mem) {a b : Addr} (o : AO) (h : b ≠ a) : setM M a o b = M b := if_neg h
theorem setM_setM (M : Mem) (a : Addr) (o o' : AO) : setM (setM M a o) a o' = setM M a o' := by
  funext b; unfold setM; split <;> rfl

noncomputable def KeysOk (P : Params) (es : List DictEntry) : Prop := ∀ e ∈ es, ∃ x t, e.key = .str x t ∧ e.hash = PyData.keyHash P x
noncomputable def fieldOf (es : List DictEntry) (x : Str) : Option Value := (es.find? (·.key.isStr x)).map (·.val)

structure Cx where
  prog : Program
  w : World
  K : Frag
  T : Heap
  p : Program
  loose : List Str
  mg : Str → Option Value
  mb : Str → Option Value
  X : K.In T
  R : TopRead p loose mg mb T

noncomputable def ORep (X : Cx) (own : Addr → Option Addr) (h : Heap) (a : Addr) : AO → Prop
  | .inst C k f => ∃ dx es n, h.get? a = some (instObj C dx) ∧ own dx = some a ∧ dx ≠ a ∧ h.get? dx = some (dictOf es n) ∧ KeysOk X.w.params es ∧ es.length ≤ k ∧ ∀ x, (fieldOf es x).map er = f x
  | .dct l => ∃ kvs : List (Str × Value), h.DictOf (strKind X.prog X.w) a kvs ∧ 3 < a ∧ kvs.map (fun p => (p.1, er p.2)) = l
  | .lst xs => ∃ vs : Array Value, h.PlainList a vs ∧ vs.toList.map er = xs
  | .tup xs => ∃ vs : Array Value, IsTup h a vs ∧ vs.toList.map er = xs
  | .obj o => h.get? a = some o

structure Inv (X : Cx) (fz : Frz) (M : Mem) (own : Addr → Option Addr) (h : Heap) : Prop where
  top : ∀ b o, X.T.get? b = some o → fz b = some o
  fz : ∀ b o, fz b = some o → h.get? b = some o ∧ own b = none
  rep : ∀ a o, M a = some o → own a = some a ∧ ORep X own h a o

structure FVo (X : Cx) (fz : Frz) (L : Addr) (loc : Loc) (M : Mem) (own : Addr → Option Addr) (h : Heap) : Prop where
  inv : Inv X fz M own h
  ownL : own L = none
  fzL : fz L = none
  loc : ∃ m, h.Ns L m ∧ ∀ x, (m x).map er = loc x

noncomputable def GV (X : Cx) (fz : Frz) (M : Mem) (h : Heap) : Prop := ∃ own, Inv X fz M own h
noncomputable def FV (X : Cx) (fz : Frz) (L : Addr) (loc : Loc) (M : Mem) (h : Heap) : Prop := ∃ own, FVo X fz L loc M own h

noncomputable def Like (s s' : Shared) : Prop := ∃ h' t', s' = { s with heap := h', toks := t' } ∧ s.toks ≤ t'
theorem Like.refl (s : Shared) : Like s s := ⟨s.heap, s.toks, rfl, Nat.le_refl _⟩
theorem Like.trans {a b c : Shared} (x : Like a b) (y : Like b c) : Like a c := by
  (refine obEEA (x) ?_; intro h1 t1 hz2 l1; subst hz2)
  (refine obEEA (y) ?_; intro h2 t2 hz2 l2; subst hz2)
  exact ⟨h2, t2, rfl, Nat.le_trans l1 l2⟩
theorem Like.tok {a b : Shared} (x : Like a b) : a.toks ≤ b.toks := by obtain ⟨h1, t1, rfl, l1⟩ := x; exact l1
theorem Like.one {a b : Shared} (x : Like a b) (h : 1 ≤ a.toks) : 1 ≤ b.toks := Nat.le_trans h x.tok
theorem Like.mk' (s : Shared) (h : Heap) (t : Nat) (l : s.toks ≤ t) : Like s { s with heap := h, toks := t } := ⟨h, t, rfl, l⟩
theorem Like.heap (s : Shared) (h : Heap) : Like s { s with heap := h } := ⟨h, s.toks, rfl, Nat.le_refl _⟩
theorem Like.tokn (s : Shared) (t : Nat) (l : s.toks ≤ t) : Like s { s with toks := t } := ⟨s.heap, t, rfl, l⟩

structure Room (A : Around) (n : Nat) : Prop where
  handled : A.handled = none
  depth : A.depth + 4 * n < recursionLimit
  units : A.units + 8 * n < cLine
theorem Room.le {A : Around} {n m : Nat} (r : Room A n) (h : m ≤ n) : Room A m := ⟨r.handled, by have := r.depth; (lia), by have := r.units; (lia)⟩
theorem Room.deeper {A : Around} {n : Nat} {env : Env} (r : Room A (n + 1)) : Room (A.deeper env) n := ⟨r.handled, by have := r.depth; show A.depth + 1 + 4 * n < _; (lia), by have := r.units; show A.units + 3 + 8 * n < _; (lia)⟩

section
variable {α β : Type}

noncomputable def WT (X : Cx) (n : Nat) (fz : Frz) (L : Addr) (t : Sem α) (Q : α → Loc → Mem → Prop) (loc : Loc) (M : Mem) : Prop :=
  ∀ A s, Room A n → FV X fz L loc M s.heap → 1 ≤ s.toks →
    wpAny (model X.prog X.w) A t (fun v s' => ∃ loc' M', FV X fz L loc' M' s'.heap ∧ Like s s' ∧ Q v loc' M') (fun _ _ => False) s

variable {X : Cx} {n : Nat} {fz : Frz} {L : Addr} {loc : Loc} {M : Mem}

noncomputable def WPost (X : Cx) (fz : Frz) (L : Addr) (s : Shared) (Q : α → Loc → Mem → Prop) : α → Shared → Prop :=
  fun v s' => ∃ loc' M', FV X fz L loc' M' s'.heap ∧ Like s s' ∧ Q v loc' M'

theorem WT.use {t : Sem α} {Q : α → Loc → Mem → Prop} (h : WT X n fz L t Q loc M) {A : Around} {s₀ s : Shared} (r : Room A n) (f : FV X fz L loc M s.heap) (l : Like s₀ s) (o : 1 ≤ s₀.toks) :
    wpAny (model X.prog X.w) A t (WPost X fz L s₀ Q) (fun _ _ => False) s :=
  wpAny_mono (h A s r f (l.one o)) (fun _ _ w => obEEAA w fun l' M' f' k' q => ⟨l', M', f', l.trans k', q⟩) (fun _ _ e => e)

theorem WT.mono {t : Sem α} {Q Q' : α → Loc → Mem → Prop} (h : WT X n fz L t Q loc M) (k : ∀ v l m, Q v l m → Q' v l m) : WT X n fz L t Q' loc M :=
  fun A s r f o => wpAny_mono (h A s r f o) (fun _ _ w => obEEAA w fun l' M' f' k' q => ⟨l', M', f', k', k _ _ _ q⟩) (fun _ _ e => e)

end
end Mine
end
section
set_option linter.unusedVariables false
namespace Mine
open PySem PySem.W PySem.Calls PyProof.Rows

section
variable {X : Cx} {n : Nat} {fz : Frz} {L : Addr} {loc : Loc} {M : Mem} {own : Addr → Option Addr} {h h' : Heap} {a : Addr} {o : AO}

noncomputable def Ext (h h' : Heap) : Prop := ∀ b o, h.get? b = some o → h'.get? b = some o
theorem Ext.trans {a b c : Heap} (x : Ext a b) (y : Ext b c) : Ext a c := fun _ _ e => y _ _ (x _ _ e)
theorem Ext.push (h : Heap) (o : Obj) : Ext h (h.push o) := fun _ _ e => Heap.get?_push_of_some _ e


theorem ORep.mono {own' : Addr → Option Addr} (r : ORep X own h a o) (k : ∀ b x, h.get? b = some x → own b = some a → h'.get? b = some x)
    (w : ∀ b x, h.get? b = some x → own b = some a → own' b = some a) (s : own a = some a) : ORep X own' h' a o := by
  cases o with
  | inst C kk f =>
    (refine obEEEAAAAAA (r) ?_; intro dx es n h1 h2 h3 h4 h5 h6 h7)
    exact ⟨dx, es, n, k _ _ h1 s, w _ _ h4 h2, h3, k _ _ h4 h2, h5, h6, h7⟩
  | dct l =>
    (refine obEA (r) ?_; intro kvs hz1 h2; refine dn fun hG0 => ?_; obtain ⟨o, es, ep, ho, q⟩ := hz1; refine hG0 ?_; clear hG0)
    exact ⟨kvs, ⟨o, es, ep, k _ _ ho s, q⟩, h2⟩
  | lst xs =>
    (refine obEA (r) ?_; intro vs h1 h2)
    (refine obE (h1) ?_; intro n h1)
    exact ⟨vs, ⟨n, k _ _ h1 s⟩, h2⟩
  | tup xs =>
    (refine obEA (r) ?_; intro vs hz1 h2; refine dn fun hG0 => ?_; obtain ⟨o, ho, r⟩ := hz1; refine hG0 ?_; clear hG0)
    exact ⟨vs, ⟨o, k _ _ ho s, r⟩, h2⟩
  | obj o => exact k _ _ r s

theorem ORep.lt (r : ORep X own h a o) : a < h.objs.size := by
  cases o with
  | inst C kk f => obtain ⟨dx, es, n, h1, _⟩ := r; exact Heap.lt_size h1
  | dct l => obtain ⟨kvs, ⟨o, es, ep, ho, _⟩, _⟩ := r; exact Heap.lt_size ho
  | lst xs => obtain ⟨vs, ⟨o, ho⟩, _⟩ := r; exact Heap.lt_size ho
  | tup xs => obtain ⟨vs, ⟨o, ho, _⟩, _⟩ := r; exact Heap.lt_size ho
  | obj o => exact Heap.lt_size r

theorem Inv.ext (I : Inv X fz M own h) (k : Ext h h') : Inv X fz M own h' :=
  ⟨I.top, fun b o e => ⟨k _ _ (I.fz b o e).1, (I.fz b o e).2⟩, fun a o e => ⟨(I.rep a o e).1, (I.rep a o e).2.mono (fun _ _ q _ => k _ _ q) (fun _ _ _ q => q) (I.rep a o e).1⟩⟩

theorem FV.ext (F : FV X fz L loc M h) (k : Ext h h') : FV X fz L loc M h' := by
  (refine dn fun hG0 => ?_; obtain ⟨own, I, a, b, m, hm, he⟩ := F; refine hG0 ?_; clear hG0)
  exact ⟨own, I.ext k, a, b, m, hm.keeps k, he⟩
theorem FV.gv (F : FV X fz L loc M h) : GV X fz M h := let ⟨own, I⟩ := F; ⟨own, I.inv⟩
theorem FV.topKeep (F : FV X fz L loc M h) : Ext X.T h := by
  (refine obE (F) ?_; intro own I)
  exact fun b o e => (I.inv.fz b o (I.inv.top b o e)).1
theorem GV.topKeep (F : GV X fz M h) : Ext X.T h := by
  (refine obE (F) ?_; intro own I)
  exact fun b o e => (I.fz b o (I.top b o e)).1
theorem FV.kin (F : FV X fz L loc M h) : X.K.In h := X.X.keeps F.topKeep
theorem GV.kin (F : GV X fz M h) : X.K.In h := X.X.keeps F.topKeep
theorem FV.ns (F : FV X fz L loc M h) : ∃ m, h.Ns L m ∧ ∀ x, (m x).map er = loc x := let ⟨_, I⟩ := F; I.loc

theorem FV.change {b : Addr} {o' : AO} (F : FVo X fz L loc M own h) (hb : own b = some a) (hs : ∀ c, c ≠ b → h'.get? c = h.get? c)
    (r : ORep X own h' a o') (s : own a = some a) : FVo X fz L loc (setM M a o') own h' := by
  (refine dn fun hG0 => ?_; obtain ⟨⟨i1, i2, i3⟩, a1, a2, m, hm, he⟩ := F; refine hG0 ?_; clear hG0)
  have nb : ∀ c, own c = none → c ≠ b := fun c hc e => by rw [e, hb] at hc; cases hc
  refine ⟨⟨i1, fun c o e => ⟨(hs c (nb c (i2 c o e).2)).trans (i2 c o e).1, (i2 c o e).2⟩, fun c o e => ?_⟩, a1, a2, m, ?_, he⟩
  · by_cases hc : c = a
    · subst hc
      rw [setM_same] at e; cases e
      exact ⟨s, r⟩
    · rw [setM_ne _ _ hc] at e
      (refine obA (i3 c o e) ?_; intro q1 q2)
      refine ⟨q1, q2.mono (fun d x hd od => (hs d fun z => ?_).trans hd) (fun _ _ _ q => q) q1⟩
      rw [z, hb] at od; exact hc (Option.some.inj od).symm
  · (refine obEEEA (hm) ?_; intro o es ep ho r')
    exact ⟨o, es, ep, (hs L (nb L a1)).trans ho, r'⟩

theorem FV.store {m' : Loc} {loc' : Loc} (F : FV X fz L loc M h) (hs : Heap.SameBut L h h') (hn : h'.Ns L m') (he : ∀ x, (m' x).map er = loc' x) : FV X fz L loc' M h' := by
  (refine dn fun hG0 => ?_; obtain ⟨own, ⟨i1, i2, i3⟩, a1, a2, _⟩ := F; refine hG0 ?_; clear hG0)
  refine ⟨own, ⟨i1, fun c o e => ⟨(hs.2 c fun z => ?_).trans (i2 c o e).1, (i2 c o e).2⟩, fun c o e => ⟨(i3 c o e).1, (i3 c o e).2.mono (fun d x hd od => (hs.2 d fun z => ?_).trans hd) (fun _ _ _ q => q) (i3 c o e).1⟩⟩, a1, a2, m', hn, he⟩
  · rw [z, a2] at e; cases e
  · rw [z, a1] at od; cases od

theorem FV.new1 (F : FV X fz L loc M h) (k : Ext h h') (hnew : h.objs.size = a)
    (r : ∀ own, own a = some a → ORep X own h' a o) : FV X fz L loc (setM M a o) h' := by
  (refine dn fun hG0 => ?_; obtain ⟨own, ⟨i1, i2, i3⟩, a1, a2, m, hm, he⟩ := F; refine hG0 ?_; clear hG0)
  subst hnew
  let own' : Addr → Option Addr := fun b => if b = h.objs.size then some h.objs.size else own b
  have oo : ∀ b x, h.get? b = some x → own' b = own b := fun b x e => if_neg (Nat.ne_of_lt (Heap.lt_size e))
  have hL : own' L = none := (if_neg (Nat.ne_of_lt hm.lt)).trans a1
  refine ⟨own', ⟨i1, fun c x e => ⟨k _ _ (i2 c x e).1, (oo _ _ (i2 c x e).1).trans (i2 c x e).2⟩, fun c x e => ?_⟩, hL, a2, m, hm.keeps k, he⟩
  by_cases hc : c = h.objs.size
  · subst hc
    rw [setM_same] at e; cases e
    exact ⟨if_pos rfl, r own' (if_pos rfl)⟩
  · rw [setM_ne _ _ hc] at e
    have q := i3 c x e
    refine ⟨(if_neg hc).trans q.1, q.2.mono (fun _ _ hd _ => k _ _ hd) (fun d y hd od => (oo d y hd).trans od) q.1⟩

theorem FV.old (F : FV X fz L loc M h) (e : M a = some o) : a < h.objs.size := by
  (refine dn fun hG0 => ?_; obtain ⟨own, ⟨i1, i2, i3⟩, _⟩ := F; refine hG0 ?_; clear hG0)
  exact (i3 a o e).2.lt
theorem FV.size3 (F : FV X fz L loc M h) : 3 < h.objs.size := Heap.Ns.lt (X.R.g.keeps F.topKeep)
theorem FV.fresh (F : FV X fz L loc M h) : M h.objs.size = none := by
  cases e : M h.objs.size with
  | none => rfl
  | some o => exact absurd (F.old e) (Nat.lt_irrefl _)
end

section
variable {X : Cx} {n : Nat} {fz : Frz} {L : Addr} {loc : Loc} {M : Mem} {env : Env}

noncomputable def erF : Flow → Flow
  | .ret v => .ret (er v)
  | f => f

noncomputable abbrev QV := Value → Loc → Mem → Prop
noncomputable abbrev QB := Bool → Loc → Mem → Prop
noncomputable abbrev QF := Flow → Loc → Mem → Prop

noncomputable def EV (X : Cx) (n : Nat) (fz : Frz) (L : Addr) (env : Env) (e : Expr) (Q : QV) (loc : Loc) (M : Mem) : Prop :=
  WT X n fz L (eval e env) (fun v l m => Q (er v) l m) loc M
noncomputable def TV (X : Cx) (n : Nat) (fz : Frz) (L : Addr) (env : Env) (e : Expr) (Q : QB) (loc : Loc) (M : Mem) : Prop :=
  ∀ whole, whole = eval e env → WT X n fz L (isTrue e env whole) Q loc M
noncomputable def EX (X : Cx) (n : Nat) (fz : Frz) (L : Addr) (env : Env) (ss : List Stmt) (Q : QF) (loc : Loc) (M : Mem) : Prop :=
  WT X n fz L (execs ss env) (fun f l m => Q (erF f) l m) loc M
noncomputable def E1 (X : Cx) (n : Nat) (fz : Frz) (L : Addr) (env : Env) (s : Stmt) (Q : QF) (loc : Loc) (M : Mem) : Prop :=
  WT X n fz L (exec s env) (fun f l m => Q (erF f) l m) loc M

noncomputable def O1 (X : Cx) (n : Nat) (fz : Frz) (L : Addr) (t : Value → Sem Value) (a : Value) (Q : QV) (loc : Loc) (M : Mem) : Prop :=
  ∀ va, er va = a → WT X n fz L (t va) (fun v l m => Q (er v) l m) loc M
noncomputable def O1B (X : Cx) (n : Nat) (fz : Frz) (L : Addr) (t : Value → Sem Bool) (a : Value) (Q : QB) (loc : Loc) (M : Mem) : Prop :=
  ∀ va, er va = a → WT X n fz L (t va) Q loc M
noncomputable def O2 (X : Cx) (n : Nat) (fz : Frz) (L : Addr) (t : Value → Value → Sem Value) (a b : Value) (Q : QV) (loc : Loc) (M : Mem) : Prop :=
  ∀ va vb, er va = a → er vb = b → WT X n fz L (t va vb) (fun v l m => Q (er v) l m) loc M
noncomputable def SA (X : Cx) (n : Nat) (fz : Frz) (L : Addr) (o : Value) (name : Str) (v : Value) (Q : Loc → Mem → Prop) (loc : Loc) (M : Mem) : Prop :=
  ∀ vo vv, er vo = o → er vv = v → WT X n fz L (setAttr vo name vv) (fun _ l m => Q l m) loc M
noncomputable def ST (X : Cx) (n : Nat) (fz : Frz) (L : Addr) (env : Env) (x : Str) (v : Value) (Q : Loc → Mem → Prop) (loc : Loc) (M : Mem) : Prop :=
  ∀ vv, er vv = v → WT X n fz L (storeName env x vv) (fun _ l m => Q l m) loc M

theorem EX_nil {Q : QF} (h : Q .next loc M) : EX X n fz L env [] Q loc M :=
  fun _ s _ f _ => wpAny_execs_nil ⟨loc, M, f, Like.refl s, h⟩

noncomputable def seqQ (X : Cx) (n : Nat) (fz : Frz) (L : Addr) (env : Env) (rest : List Stmt) (Q : QF) : QF := fun f l m => match f with
  | .next => EX X n fz L env rest Q l m
  | f => Q f l m
theorem EX_cons {Q : QF} {st : Stmt} {rest : List Stmt} (h : E1 X n fz L env st (seqQ X n fz L env rest Q) loc M) : EX X n fz L env (st :: rest) Q loc M :=
  fun A s r f o => wpAny_execs_cons (wpAny_mono (h A s r f o) (fun fl s' w => obEEAA w fun l' M' f' k' q => by
    cases fl with
    | next => exact WT.use q r f' k' o
    | brk => exact ⟨l', M', f', k', q⟩
    | cont => exact ⟨l', M', f', k', q⟩
    | ret v => exact ⟨l', M', f', k', q⟩) (fun _ _ e => e))
theorem seq_next {Q : QF} {rest : List Stmt} (h : EX X n fz L env rest Q loc M) : seqQ X n fz L env rest Q .next loc M := h
theorem seq_ret {Q : QF} {rest : List Stmt} {v : Value} (h : Q (.ret v) loc M) : seqQ X n fz L env rest Q (.ret v) loc M := h

theorem E1_Break {Q : QF} {pos : Pos} (h : Q .brk loc M) : E1 X n fz L env (.Break pos) Q loc M :=
  fun _ s _ f _ => wpAny_Break ⟨loc, M, f, Like.refl s, h⟩
theorem E1_Return {Q : QF} {e : Expr} {pos : Pos} (h : EV X n fz L env e (fun v l m => Q (.ret v) l m) loc M) : E1 X n fz L env (.Return (some e) pos) Q loc M :=
  fun A s r f o => wpAny_Return_some (wpAny_mono (h A s r f o) (fun _ _ q => q) (fun _ _ e => e))
theorem E1_Expr {Q : QF} {e : Expr} {pos : Pos} (h : EV X n fz L env e (fun _ l m => Q .next l m) loc M)
    (hi : interactive env = false := by rfl) (hs : swapsWith e none pos.line env = pure false := by rfl) : E1 X n fz L env (.Expr e pos) Q loc M :=
  fun A s r f o => wpAny_Expr_any (wpAny_mono (h A s r f o) (fun _ _ q => q) (fun _ _ e => e)) hi hs
theorem E1_If {Q : QF} {test : Expr} {body orelse : List Stmt} {pos : Pos} (h : TV X n fz L env test (fun b l m => (b = true → EX X n fz L env body Q l m) ∧ (b = false → EX X n fz L env orelse Q l m)) loc M) :
    E1 X n fz L env (.If test body orelse pos) Q loc M :=
  fun A s r f o => wpAny_If (wpAny_mono (h _ rfl A s r f o) (fun b s' w => obEEAA w fun l' M' f' k' q => by
    cases b
    · exact WT.use (q.2 rfl) r f' k' o
    · exact WT.use (q.1 rfl) r f' k' o) (fun _ _ e => e))
theorem E1_AssignName {Q : QF} {x : Str} {p pos : Pos} {e : Expr} (h : EV X n fz L env e (fun v l m => ST X n fz L env x v (fun l m => Q .next l m) l m) loc M)
    (hs : swapsWith e (some (.Name x p)) pos.line env = pure false := by rfl) : E1 X n fz L env (.Assign [.Name x p] e pos) Q loc M :=
  fun A s r f o => wpAny_Assign_Name (wpAny_mono (h A s r f o) (fun _ _ w => obEEAA w fun _ _ f' k' q => wpAny_mono (WT.use (q _ rfl) r f' k' o) (fun _ _ q => q) (fun _ _ e => e)) (fun _ _ e => e)) hs
theorem E1_AssignAttr {Q : QF} {ob : Expr} {attr : Str} {p pos : Pos} {e : Expr} (h : EV X n fz L env e (fun v l m => EV X n fz L env ob (fun ov l m => SA X n fz L ov attr v (fun l m => Q .next l m) l m) l m) loc M)
    (hs : swapsWith e (some (.Attribute ob attr p)) pos.line env = pure false := by rfl) : E1 X n fz L env (.Assign [.Attribute ob attr p] e pos) Q loc M :=
  fun A s r f o => plainObj_wpAny_Assign_Attribute (wpAny_mono (h A s r f o) (fun _ _ w => obEEAA w fun _ _ f' k' q => wpAny_mono (WT.use q r f' k' o) (fun _ _ w => obEEAA w fun _ _ f' k' q =>
    wpAny_mono (WT.use (q _ _ rfl rfl) r f' k' o) (fun _ _ q => q) (fun _ _ e => e)) (fun _ _ e => e)) (fun _ _ e => e)) hs
theorem E1_AugAttr {Q : QF} {ob : Expr} {attr : Str} {p pos : Pos} {op : Operator} {e : Expr}
    (h : EV X n fz L env ob (fun ov l m => O1 X n fz L (fun o => getAttr o attr true) ov (fun a l m => EV X n fz L env e (fun b l m => O2 X n fz L (inplaceOp op) a b (fun v l m => SA X n fz L ov attr v (fun l m => Q .next l m) l m) l m) l m) l m) loc M) :
    E1 X n fz L env (.AugAssign (.Attribute ob attr p) op e pos) Q loc M :=
  fun A s r f o => wpAny_AugAssign_AttributeAny (wpAny_mono (h A s r f o) (fun _ _ w => obEEAA w fun _ _ f' k' q => wpAny_mono (WT.use (q _ rfl) r f' k' o) (fun _ _ w => obEEAA w fun _ _ f' k' q =>
    wpAny_mono (WT.use q r f' k' o) (fun _ _ w => obEEAA w fun _ _ f' k' q => wpAny_mono (WT.use (q _ _ rfl rfl) r f' k' o) (fun _ _ w => obEEAA w fun _ _ f' k' q => wpAny_mono (WT.use (q _ _ rfl rfl) r f' k' o) (fun _ _ q => q) (fun _ _ e => e)) (fun _ _ e => e)) (fun _ _ e => e)) (fun _ _ e => e)) (fun _ _ e => e))

structure Fun (env : Env) (L : Addr) : Prop where
  kind : env.scope.kind = .function
  loc : env.locals = L
  glob : env.globals = mainGlobals
  bi : env.builtins = builtinsNs

theorem EV_local {Q : QV} {x : Str} {p : Pos} {v : Value} (hE : Fun env L) (hx : env.kindOf x = some .local) (hv : loc x = some v) (h : Q v loc M)
    (hd : (x == ("__debug__" : Str)) = false := by decide) : EV X n fz L env (.Name x p) Q loc M := fun A s r f o => by
  (refine obEA (f.ns) ?_; intro m hn he)
  have hm := he x
  rw [hv] at hm
  (refine obEA (Option.map_eq_some_iff.mp hm) ?_; intro v' e1 e2)
  refine wpAny_Name (wpAny_loadName_local hE.kind hx (hE.loc ▸ hn) e1 ⟨loc, M, f, Like.refl s, ?_⟩) hd
  show Q (er v') loc M
  rw [e2]; exact h
theorem EV_global {Q : QV} {x : Str} {p : Pos} {v : Value} (hE : Fun env L) (hx : env.kindOf x = some .globalImplicit) (hv : nsIn X.K mainGlobals x = some (some v)) (h : Q (er v) loc M)
    (hd : (x == ("__debug__" : Str)) = false := by decide) : EV X n fz L env (.Name x p) Q loc M := fun A s r f o =>
  Name_function_global hE.kind hx (loadGlobal_global (hE.glob ▸ X.R.g.keeps f.topKeep) (mg_of X.X X.R.g hv) ⟨loc, M, f, Like.refl s, h⟩) hd
theorem EV_builtin {Q : QV} {x : Str} {p : Pos} {v : Value} (hE : Fun env L) (hx : env.kindOf x = some .globalImplicit) (hv : nsIn X.K mainGlobals x = some none) (hb : bootBuiltins x = some v) (h : Q (er v) loc M)
    (hn : x ≠ "__name__" := by decide) (hd : (x == ("__debug__" : Str)) = false := by decide) : EV X n fz L env (.Name x p) Q loc M := fun A s r f o =>
  Name_function_global hE.kind hx (loadGlobal_builtin (hE.glob ▸ X.R.g.keeps f.topKeep) (mg_none_of X.X X.R.g hv) (hE.bi ▸ X.R.b.keeps f.topKeep) ((X.R.builtins x hn).trans hb) ⟨loc, M, f, Like.refl s, h⟩) hd
theorem ST_local {Q : Loc → Mem → Prop} {x : Str} {v : Value} (hE : Fun env L) (hx : env.kindOf x = some .local) (h : Q (setL loc x v) M) : ST X n fz L env x v Q loc M := fun vv hv A s r f o => by
  (refine obEA (f.ns) ?_; intro m hn he)
  refine wpAny_storeName_local hx (hE.loc ▸ hn) (fun h' hn' hs => ⟨setL loc x v, M, f.store (hE.loc ▸ hs) (hE.loc ▸ hn') (fun y => ?_), Like.mk' s _ _ (Nat.le_succ _), h⟩) ?_
  · unfold setL
    by_cases hy : y = x
    · simp [hy, hv]
    · simp [hy, he]
  · rw [hE.kind]; rfl
end
end Mine
end
section
set_option linter.unusedVariables false
namespace Mine
open PySem PySem.W PySem.Calls PyProof.Rows

section
variable {X : Cx} {n : Nat} {fz : Frz} {L : Addr} {loc : Loc} {M : Mem} {env : Env}

noncomputable abbrev QL := List Value → Loc → Mem → Prop

noncomputable def AR (X : Cx) (n : Nat) (fz : Frz) (L : Addr) (env : Env) : List Expr → QL → Loc → Mem → Prop
  | [], Q => Q []
  | e :: r, Q => EV X n fz L env e (fun v => AR X n fz L env r (fun vs => Q (v :: vs)))

theorem star_cons {e : Expr} {r : List Expr} (h : isStarred e = false) : starEach (e :: r) env = (false, eval e env) :: starEach r env := by
  cases e <;> first | rfl | cases h
theorem noStar_any {pos : Pos} : ∀ {es : List Expr}, es.any isStarred = false → (backTo pos (starEach es env)).any (·.1) = false
  | [], _ => rfl
  | e :: r, h => by
    rw [List.any_cons, Bool.or_eq_false_iff] at h
    rw [star_cons h.1]
    show (false || (backTo pos (starEach r env)).any (·.1)) = false
    rw [noStar_any h.2]; rfl

theorem AR_spliced {pos : Pos} : ∀ {es : List Expr} {Q : QL} {loc : Loc} {M : Mem}, es.any isStarred = false → AR X n fz L env es Q loc M →
    WT X n fz L (spliced (backTo pos (starEach es env))) (fun vs l m => Q (vs.map er) l m) loc M
  | [], Q, loc, M, _, h => fun A s r f o => wpAny_items_nil ⟨loc, M, f, Like.refl s, h⟩
  | e :: r, Q, loc, M, hs, h => fun A s rm f o => by
    rw [List.any_cons, Bool.or_eq_false_iff] at hs
    refine wpAny_items_cons (wpAny_mono (h A s rm f o) (fun v s₁ w => obEEAA w fun l' M' f' k' q => ?_) fun _ _ e => e) (star_cons hs.1)
    exact WT.use (AR_spliced (pos := pos) hs.2 q) rm f' k' o

noncomputable def CA (X : Cx) (n : Nat) (fz : Frz) (L : Addr) (f : Value) (args : List Value) (Q : QV) (loc : Loc) (M : Mem) : Prop :=
  ∀ vs, vs.map er = args → WT X n fz L (call f vs) (fun v l m => Q (er v) l m) loc M

noncomputable def KeepOk (X : Cx) (f : Value) : Prop := (∃ id, f = .builtin id) ∨ (∃ T, f = .type T) ∨ keepIn X.K f = true
theorem KeepOk.of {f : Value} (h : KeepOk X f) {M : Model} (hh : Heap) (x : X.K.In hh) : ∃ k, (k = Keeper.frame ∨ k = Keeper.machine ∨ k = Keeper.boundFrame) ∧ Looks M hh (keeperOf f) k := by
  rcases h with ⟨id, rfl⟩ | ⟨T, rfl⟩ | h
  · exact ⟨.machine, .inr (.inl rfl), Looks.of_pure rfl⟩
  · exact ⟨.machine, .inr (.inl rfl), Looks.of_pure rfl⟩
  · exact keeps_K h hh x

noncomputable def CW (X : Cx) (n : Nat) (fz : Frz) (L : Addr) (env : Env) (pos : Pos) (f : Value) (first : List Value) (args : List Expr) (Q : QV) (loc : Loc) (M : Mem) : Prop :=
  ∀ fv fs, er fv = f → fs.map er = first → WT X n fz L (callWith pos fv fs (backTo pos (starEach args env)) []) (fun v l m => Q (er v) l m) loc M

theorem er_callee {f fv : Value} (h : KeepOk X f) (e : er fv = f) : fv = f := by
  rcases h with ⟨id, rfl⟩ | ⟨T, rfl⟩ | h
  · exact er_builtin e
  · exact er_type e
  · unfold keepIn at h
    split at h
    · exact er_ref e
    · cases h

theorem CW_go {Q : QV} {pos : Pos} {f : Value} {first : List Value} {args : List Expr} (hk : KeepOk X f) (h : AR X n fz L env args (fun vs l m => CA X n fz L f (first ++ vs) Q l m) loc M)
    (hs : args.any isStarred = false := by rfl) : CW X n fz L env pos f first args Q loc M := fun fv fs e1 e2 A s r ff o => by
  have e1 := er_callee hk e1
  subst e1
  refine callWith_of (P := X.K.In) (by rw [noStar_any hs]; rfl) (fun hh x => hk.of hh x) ?_
  have fin : ∀ vs l' M' s₁, FV X fz L l' M' s₁.heap → Like s s₁ → CA X n fz L fv (first ++ vs.map er) Q l' M' →
      X.K.In s₁.heap ∧ wpAny (model X.prog X.w) A (call fv (fs ++ vs) []) (fun v s' => ∃ loc' M', FV X fz L loc' M' s'.heap ∧ Like s s' ∧ Q (er v) loc' M') (fun _ _ => False) s₁ :=
    fun vs l' M' s₁ f' k' q => ⟨f'.kin, WT.use (q (fs ++ vs) (by rw [List.map_append, e2])) r f' k' o⟩
  cases args with
  | nil => exact evalArgs_nil3 (by simpa using fin [] loc M s ff (Like.refl s) (by simpa [AR] using h))
  | cons e rest =>
    have hs' := hs
    rw [List.any_cons, Bool.or_eq_false_iff] at hs'
    rw [star_cons hs'.1]
    refine evalArgs_plain ?_
    have sp := AR_spliced (pos := pos) hs h A s r ff o
    rw [star_cons hs'.1] at sp
    exact wpAny_mono sp (fun vs s₁ w => obEEAA w fun l' M' f' k' q => fin vs l' M' s₁ f' k' q) fun _ _ e => e

noncomputable def GM (X : Cx) (n : Nat) (fz : Frz) (L : Addr) (name : Str) (o : Value) (Q : Value → List Value → Loc → Mem → Prop) (loc : Loc) (M : Mem) : Prop :=
  ∀ vo pl, er vo = o → WT X n fz L (getMethod vo name pl) (fun p l m => Q (er p.1) (p.2.map er) l m) loc M

theorem EV_mcall {Q : QV} {o : Expr} {name : Str} {apos pos : Pos} {args : List Expr} {pl : Sem Bool}
    (h : EV X n fz L env o (fun ov l m => GM X n fz L name ov (fun f first l m => CW X n fz L env pos f first args Q l m) l m) loc M)
    (he : eval (.Call (.Attribute o name apos) args [] pos) env = (do
      let ov ← eval o env
      standAt apos.atName
      let (f, first) ← holding [ov] (getMethod ov name pl)
      callWith pos f first (backTo pos (starEach args env)) []) := by rfl) :
    EV X n fz L env (.Call (.Attribute o name apos) args [] pos) Q loc M := fun A s r f o =>
  MethodCall_ (wpAny_mono (h A s r f o) (fun _ _ w => obEEAA w fun _ _ f' k' q => wpAny_mono (WT.use (q _ _ rfl) r f' k' o) (fun _ _ w => obEEAA w fun _ _ f' k' q => WT.use (q _ _ rfl rfl) r f' k' o) (fun _ _ e => e)) (fun _ _ e => e)) he
theorem EV_ncall {Q : QV} {x : Str} {p pos : Pos} {args : List Expr}
    (h : EV X n fz L env (.Name x p) (fun f l m => CW X n fz L env pos f [] args Q l m) loc M) : EV X n fz L env (.Call (.Name x p) args [] pos) Q loc M := fun A s r f o =>
  wpAny_Call_NameR (wpAny_mono (h A s r f o) (fun _ _ w => obEEAA w fun _ _ f' k' q => WT.use (q _ _ rfl rfl) r f' k' o) (fun _ _ e => e))

noncomputable def CL (X : Cx) (n : Nat) (f : Value) (args : List Value) (Q : Value → Mem → Prop) (M : Mem) : Prop :=
  ∀ fz A s vs, Room A n → vs.map er = args → GV X fz M s.heap → 1 ≤ s.toks →
    codeAny (model X.prog X.w) A (.call f ⟨vs, []⟩) (fun r s' => ∃ v M', r = .ok (.ret v) ∧ GV X fz M' s'.heap ∧ Like s s' ∧ Q (er v) M') s

theorem CL.mono {f : Value} {args : List Value} {Q Q' : Value → Mem → Prop} (h : CL X n f args Q M) (k : ∀ v m, Q v m → Q' v m) : CL X n f args Q' M :=
  fun fz A s vs r e g o => codeAny_mono (h fz A s vs r e g o) fun r s' ⟨v, M', e, g', l, q⟩ => ⟨v, M', e, g', l, k _ _ q⟩

theorem CA_CL {f : Value} {args : List Value} {Q : QV} {k : Nat} (h : CL X k f args (fun v m => Q v loc m) M) (hk : k ≤ n) : CA X n fz L f args Q loc M := fun vs e A s r F o => by
  (refine obE (F) ?_; intro own F)
  (refine obEA (F.loc) ?_; intro m hz1 he; refine dn fun hG0 => ?_; obtain ⟨oL, es, ep, hL, hd⟩ := hz1; refine hG0 ?_; clear hG0)
  let fz' : Frz := fun b => if b = L then some oL else fz b
  have g : GV X fz' M s.heap := ⟨own, ⟨fun b o e => by
      have q := F.inv.top b o e
      have : b ≠ L := fun z => by rw [z, F.fzL] at q; cases q
      show (if b = L then _ else _) = _
      rw [if_neg this]; exact q,
    fun b o e => by
      by_cases hb : b = L
      · subst hb
        have : some oL = some o := (if_pos rfl : fz' b = some oL).symm.trans e
        cases this
        exact ⟨hL, F.ownL⟩
      · have : fz b = some o := (if_neg hb : fz' b = fz b).symm.trans e
        exact F.inv.fz b o this, F.inv.rep⟩⟩
  refine wpAny_call (codeAny_mono (h fz' A s vs (r.le hk) e g o) fun r s' ⟨v, M', e, g', l, q⟩ => ?_)
  subst e
  (refine obE (g') ?_; intro own' I)
  have hL' := I.fz L oL (if_pos rfl)
  have fzz : ∀ b o, fz b = some o → fz' b = some o := fun b o e => by
    have : b ≠ L := fun z => by rw [z, F.fzL] at e; cases e
    exact (if_neg this).trans e
  exact ⟨loc, M', ⟨own', ⟨fun b o e => F.inv.top b o e, fun b o e => I.fz b o (fzz b o e), I.rep⟩, hL'.2, F.fzL, m, ⟨oL, es, ep, hL'.1, hd⟩, he⟩, l, q⟩

noncomputable def bindL (binds : List (Str × Value)) : Loc := fun x => binds.reverse.lookup x
theorem lookup_er (l : List (Str × Value)) (x : Str) : (l.lookup x).map er = (l.map fun p => (p.1, er p.2)).lookup x := by
  induction l with
  | nil => rfl
  | cons p r ih =>
    (refine dn fun hG0 => ?_; obtain ⟨a, b⟩ := p; refine hG0 ?_; clear hG0)
    simp only [List.lookup_cons, List.map_cons]
    cases x == a <;> simp [ih]

noncomputable def retOf : Flow → Value
  | .ret v => v
  | _ => .none

theorem CL_fn {Q : Value → Mem → Prop} {args : List Value} {binds : List (Str × Value)} {a : Addr} {oc : Value} {od : Option Addr} {osl : Array (Option Value)}
    {name qual : Str} {params : Arguments} {body : List Stmt} {scope : Scope} {dV kV doc pm cdv ct : Value} {an : Option Addr}
    (ho : X.K.lookup a = some ⟨oc, od, .func (fnOf name qual params body scope dV kV doc pm an cdv ct), osl⟩) (hcd : codeIn X.K cdv qual = true)
    (hb : ∀ vs, vs.map er = args → ∃ cb, (∀ s, X.K.In s.heap → BindsTo s (fnOf name qual params body scope dV kV doc pm an cdv ct) ⟨vs, []⟩ cb) ∧ cb.map (fun p => (p.1, er p.2)) = binds)
    (hloc : (binds.all fun y => decide (scope.names.lookup y.1 = some .local)) = true)
    (h : ∀ fz L env, Fun env L → env = callEnv (fnOf name qual params body scope dV kV doc pm an cdv ct) L a → EX X n fz L env body (fun f _ m => Q (retOf f) m) (bindL binds) M)
    (hco : scope.isCoroutine = false := by rfl) (hgen : scope.isGenerator = false := by rfl) (hk : scope.kind = .function := by rfl)
    (hcell : (scope.names.all fun x => decide (x.2 ≠ .cell)) = true := by rfl) : CL X (n + 1) (.ref a) args Q M := fun fz A s vs r e g o => by
  (refine obEA (hb vs e) ?_; intro cb hb hbe)
  have hx := g.kin
  have hcbloc : ∀ x ∈ cb, scope.names.lookup x.1 = some .local := fun x hx => by
    have this : (x.1, er x.2) ∈ binds := hbe ▸ List.mem_map_of_mem (f := fun p : Str × Value => (p.1, er p.2)) hx
    exact of_decide_eq_true (List.all_eq_true.mp hloc (x.1, er x.2) this)
  refine codeAny_call_def (fd := fnOf name qual params body scope dV kV doc pm an cdv ct) (body := body) (binds := cb) (by have := r.depth; (lia)) (hx _ _ ho) rfl (X.R.nolimit.keeps g.topKeep) (codeRec_of hx hcd) rfl (hb s hx)
    (fun x hx => of_decide_eq_true (List.all_eq_true.mp hcell x hx)) hcbloc (fun h₁ hns hk₁ => ?_) hco hgen hk
  (refine obE (g) ?_; intro own I)
  let own' : Addr → Option Addr := fun b => if b = s.heap.objs.size then none else own b
  have oo : ∀ b x, s.heap.get? b = some x → own' b = own b := fun b x e => if_neg (Nat.ne_of_lt (Heap.lt_size e))
  have FF : FV X fz s.heap.objs.size (bindL binds) M h₁ := ⟨own', ⟨I.top, fun b o e => ⟨hk₁ _ _ (I.fz b o e).1, (oo _ _ (I.fz b o e).1).trans (I.fz b o e).2⟩,
      fun b o e => ⟨(if_neg (Nat.ne_of_lt (I.rep b o e).2.lt)).trans (I.rep b o e).1, (I.rep b o e).2.mono (fun _ _ q _ => hk₁ _ _ q) (fun b x q w => (oo b x q).trans w) (I.rep b o e).1⟩⟩, if_pos rfl,
    by
      cases q : fz s.heap.objs.size with
      | none => rfl
      | some x => exact absurd (Heap.lt_size (I.fz _ _ q).1) (Nat.lt_irrefl _),
    _, hns, fun x => by
      show Option.map er (cb.reverse.lookup x) = binds.reverse.lookup x
      rw [lookup_er, List.map_reverse, hbe]⟩
  have w := h fz s.heap.objs.size (callEnv (fnOf name qual params body scope dV kV doc pm an cdv ct) s.heap.objs.size a) ⟨hk, rfl, rfl, rfl⟩ rfl (A.deeper (callEnv (fnOf name qual params body scope dV kV doc pm an cdv ct) s.heap.objs.size a))
    { s with heap := h₁, toks := s.toks + cb.length } r.deeper FF (Nat.le_trans o (Nat.le_add_right _ _))
  refine wpAny_mono w (fun f s' hq => ?_) (fun _ _ e => e.elim)
  (refine obEEAA (hq) ?_; intro l' M' f' k' q)
  refine ⟨_, M', rfl, f'.gv, (Like.mk' s _ _ (Nat.le_add_right _ _)).trans k', ?_⟩
  cases f <;> exact q
end
end Mine
end
section
set_option linter.unusedVariables false
namespace Mine
open PySem PySem.W PySem.Calls PyProof.Rows

section
variable {X : Cx} {n : Nat} {fz : Frz} {L : Addr} {loc : Loc} {M : Mem} {env : Env} {a C : Addr} {k : Nat} {f : Str → Option Value} {name : Str} {v : Value}

structure FieldOk (K : Frag) (C : Addr) (name : Str) : Prop where
  get : plainGet K C name = true
  dict : hasDictIn K C = true
  attr : ∃ attr, findIn K (.ref C) name = some attr ∧ noGet K attr = true
structure StoreOk (K : Frag) (C : Addr) (name : Str) : Prop where
  set : findIn K (.ref C) "__setattr__" = some (some (.builtin "object.__setattr__"))
  over : plainOver K C = true
  taker : takerIn K C name = some none
  dict : hasDictIn K C = true
structure MethOk (K : Frag) (C : Addr) (name : Str) (g : Addr) : Prop where
  get : plainGet K C name = true
  dict : hasDictIn K C = true
  find : findIn K (.ref C) name = some (some (.ref g))
  fn : isFn K (.ref g) = true
  gget : specialIn K (.ref g) "__get__" = some (some (.builtin "function.__get__"))
  takes : takesIn K (.ref g) = some false
  copied : copiedNames.contains name = false
structure ClsOk (K : Frag) (C : Addr) (name : Str) (v : Value) : Prop where
  get : plainGet K C name = true
  dict : hasDictIn K C = true
  find : findIn K (.ref C) name = some (some v)
  nget : specialIn K v "__get__" = some none
  handed : handedIn v = true
  copied : copiedNames.contains name = false

theorem keysOk_noRef {P : Params} {es : List DictEntry} (h : KeysOk P es) : es.any (·.refKey) = false := by
  rw [List.any_eq_false]
  intro e he
  (refine obEEA (h e he) ?_; intro x t e1 _)
  unfold DictEntry.refKey
  rw [e1]; simp
theorem getL_of {P : Params} {es : List DictEntry} (h : KeysOk P es) (x : Str) : getL x es = some (fieldOf es x) := by
  unfold getL fieldOf
  cases q : es.find? (·.key.isStr x) with
  | some e => rfl
  | none => simp only [keysOk_noRef h]; rfl

theorem handed_er {v w : Value} (e : er v = w) (h : handedIn w = true) : handedIn v = true := by
  subst e; cases v <;> first | rfl | exact h

theorem GA_field {Q : QV} (hm : M a = some (.inst C k f)) (hf : f name = some v) (ok : FieldOk X.K C name) (h : Q v loc M) (hh : handedIn v = true := by rfl) :
    O1 X n fz L (fun o => getAttr o name true) (.ref a) Q loc M := fun va e A s r F o => by
  have e := er_ref e
  subst e
  have kin := F.kin
  (refine obE (id F) ?_; intro own I)
  (refine obAEEEAAAAAA (I.inv.rep a _ hm) ?_; intro _ dx es nn h1 h2 h3 h4 h5 h6 h7)
  have hx := h7 name
  rw [hf] at hx
  (refine obEA (Option.map_eq_some_iff.mp hx) ?_; intro v' e1 e2)
  (refine obEA (ok.attr) ?_; intro attr ha hn)
  refine get_value kin (⟨h1, rfl, rfl, h4⟩ : InstAt s.heap a (instObj C dx) C (some (dictOf es nn))) (plainGet_of ok.get).1
    (findObj_own ok.dict ha hn (by rw [lookIn_dict, getL_of h5, e1])) (handed_er e2 hh) ⟨loc, M, F, Like.tokn s _ (Nat.le_succ _), ?_⟩
  show Q (er v') loc M
  rw [e2]; exact h

theorem GA_cls {Q : QV} (hm : M a = some (.inst C k f)) (hf : f name = none) (ok : ClsOk X.K C name v) (h : Q (er v) loc M) :
    O1 X n fz L (fun o => getAttr o name true) (.ref a) Q loc M := fun va e A s r F o => by
  have e := er_ref e
  subst e
  have kin := F.kin
  (refine obE (id F) ?_; intro own I)
  (refine obAEEEAAAAAA (I.inv.rep a _ hm) ?_; intro _ dx es nn h1 h2 h3 h4 h5 h6 h7)
  have hx := h7 name
  rw [hf, Option.map_eq_none_iff] at hx
  exact get_value kin (⟨h1, rfl, rfl, h4⟩ : InstAt s.heap a (instObj C dx) C (some (dictOf es nn))) (plainGet_of ok.get).1
    (findObj_cls ok.dict ok.find ok.nget ok.handed ok.copied (by rw [lookIn_dict, getL_of h5, hx])) ok.handed ⟨loc, M, F, Like.tokn s _ (Nat.le_succ _), h⟩

theorem GA_bound {Q : QV} {g : Addr} (hm : M a = some (.inst C k f)) (hf : f name = none) (ok : MethOk X.K C name g) (h : ∀ q, Q (.ref q) loc M) :
    O1 X n fz L (fun o => getAttr o name true) (.ref a) Q loc M := fun va e A s r F o => by
  have e := er_ref e
  subst e
  have kin := F.kin
  (refine obE (id F) ?_; intro own I)
  (refine obAEEEAAAAAA (I.inv.rep a _ hm) ?_; intro _ dx es nn h1 h2 h3 h4 h5 h6 h7)
  have hx := h7 name
  rw [hf, Option.map_eq_none_iff] at hx
  refine get_bind kin (⟨h1, rfl, rfl, h4⟩ : InstAt s.heap a (instObj C dx) C (some (dictOf es nn))) (plainGet_of ok.get).1
    (findObj_fn ok.dict ok.find ok.gget ok.takes ok.copied (by rw [lookIn_dict, getL_of h5, hx])) (plainGet_of ok.get).2
    (wpAny_call (fn_get (s := { s with toks := s.toks + 1 }) kin (beq_iff_eq.mp ok.fn) (handed_on rfl ⟨loc, M, F.ext (Ext.push _ _), Like.mk' s _ _ (Nat.le_succ _), h _⟩)))

theorem EV_attr {Q : QV} {o : Expr} {pos : Pos} (h : EV X n fz L env o (fun ov l m => O1 X n fz L (fun o => getAttr o name true) ov Q l m) loc M)
    (he : ∀ M : Model, eval (.Attribute o name pos) env = (do
      let o' ← eval o env
      standAt pos.atName
      let r ← holding [o'] (getAttr o' name true)
      letTemporaryGo o o' r
      pure r) := by intro _; with_unfolding_all rfl) : EV X n fz L env (.Attribute o name pos) Q loc M := fun A s r f o =>
  Attribute_any_ (wpAny_mono (h A s r f o) (fun _ _ w => obEEAA w fun _ _ f' k' q => WT.use (q _ rfl) r f' k' o) (fun _ _ e => e)) (he (model X.prog X.w))

theorem GM_meth {Q : Value → List Value → Loc → Mem → Prop} {g : Addr} (hm : M a = some (.inst C k f)) (hf : f name = none) (ok : MethOk X.K C name g) (h : Q (.ref g) [.ref a] loc M) :
    GM X n fz L name (.ref a) Q loc M := fun vo pl e A s r F o => by
  have e := er_ref e
  subst e
  have kin := F.kin
  (refine obE (id F) ?_; intro own I)
  (refine obAEEEAAAAAA (I.inv.rep a _ hm) ?_; intro _ dx es nn h1 h2 h3 h4 h5 h6 h7)
  have hx := h7 name
  rw [hf, Option.map_eq_none_iff] at hx
  exact method_fn kin (⟨h1, rfl, rfl, h4⟩ : InstAt s.heap a (instObj C dx) C (some (dictOf es nn))) (plainGet_of ok.get).1 (plainGet_of ok.get).2 ok.find (beq_iff_eq.mp ok.fn)
    (by show (lookIn name (dictOf es nn)).map _ = _; rw [lookIn_dict, getL_of h5, hx]; rfl) ⟨loc, M, F, Like.refl s, h⟩

theorem fieldOf_putL {P : Params} {es : List DictEntry} (h : KeysOk P es) (hsh : Int) (t : Tok) (v : Value) (x : Str) :
    fieldOf (putL name hsh (.str name t) v es) x = if x = name then some v else fieldOf es x := by
  have key : ∀ (y z : Str) (tt : Tok), (Value.str y tt).isStr z = decide (y = z) := fun y z tt => by
    show (y == z) = _
    by_cases q : y = z <;> simp [q]
  induction es with
  | nil =>
    unfold fieldOf
    simp only [putL, List.find?_cons, List.find?_nil, key]
    by_cases q : x = name
    · simp [q]
    · have : ¬ name = x := fun z => q z.symm
      simp [q, this]
  | cons e r ih =>
    have ih := ih (fun e he => h e (List.mem_cons_of_mem _ he))
    (refine obEEA (h e (List.mem_cons_self)) ?_; intro y u e1 e2)
    (refine dn fun hG0 => ?_; obtain ⟨eh, ek, ev⟩ := e; refine hG0 ?_; clear hG0)
    dsimp only at e1 e2
    subst e1
    unfold fieldOf at ih ⊢
    simp only [putL, key]
    by_cases q : y = name
    · subst q
      simp only [decide_true, if_true, List.find?_cons, key]
      by_cases z : y = x
      · subst z; simp
      · have : ¬ x = y := fun w => z w.symm
        simp [z, this]
    · simp only [q, decide_false, Bool.false_eq_true, if_false, List.find?_cons, key]
      by_cases z : y = x
      · subst z; simp [q]
      · simp only [z, decide_false]
        exact ih
theorem keysOk_putL {P : Params} {es : List DictEntry} (h : KeysOk P es) (t : Tok) (v : Value) : KeysOk P (putL name (PyData.keyHash P name) (.str name t) v es) := by
  induction es with
  | nil =>
    intro e he
    rcases List.mem_singleton.mp he with rfl
    exact ⟨name, t, rfl, rfl⟩
  | cons e r ih =>
    have ih := ih (fun e he => h e (List.mem_cons_of_mem _ he))
    have he := h e (List.mem_cons_self)
    unfold putL
    split
    · intro e' he'
      rcases List.mem_cons.mp he' with rfl | q
      · exact he
      · exact h e' (List.mem_cons_of_mem _ q)
    · intro e' he'
      rcases List.mem_cons.mp he' with rfl | q
      · exact he
      · exact ih e' q
theorem putL_len {P : Params} {es : List DictEntry} (h : KeysOk P es) (hsh : Int) (t : Tok) (v : Value) :
    (putL name hsh (.str name t) v es).length = if (fieldOf es name).isSome then es.length else es.length + 1 := by
  induction es with
  | nil => rfl
  | cons e r ih =>
    have ih := ih (fun e he => h e (List.mem_cons_of_mem _ he))
    unfold putL fieldOf
    cases q : e.key.isStr name with
    | true => simp [q]
    | false =>
      simp only [Bool.false_eq_true, if_false, List.length_cons, List.find?_cons, q]
      rw [ih]
      unfold fieldOf
      split <;> rfl

theorem SA_go {Q : Loc → Mem → Prop} {k' : Nat} (hm : M a = some (.inst C k f)) (ok : StoreOk X.K C name) (hk : (f name).isSome = true ∧ k' = k ∨ k' = k + 1) (h1000 : k' ≤ 900)
    (h : Q loc (setM M a (.inst C k' (setL f name v)))) : SA X n fz L (.ref a) name v Q loc M := fun vo vv e ev A s r F o => by
  have e := er_ref e
  subst e
  have kin := F.kin
  (refine obE (id F) ?_; intro own I)
  (refine obAEEEAAAAAA (I.inv.rep a _ hm) ?_; intro hown dx es nn h1 h2 h3 h4 h5 h6 h7)
  have II : InstAt s.heap a (instObj C dx) C (some (dictOf es nn)) := ⟨h1, rfl, rfl, h4⟩
  refine set_plain kin II ok.set (osa_open (s := { s with toks := s.toks + 1 }) kin II ok.over ok.taker fun b => ?_)
  (refine obEA (any_some ok.dict) ?_; intro cd hc hd')
  have hlen : (putL name (PyData.keyHash X.w.params name) (.str name (s.toks + 1)) vv es).length ≤ k' := by
    rw [putL_len h5]
    rcases hk with ⟨z, rfl⟩ | rfl
    · have : (fieldOf es name).isSome = true := by
        have q := h7 name
        cases w : fieldOf es name with
        | some _ => rfl
        | none => rw [w] at q; rw [← q] at z; cases z
      rw [if_pos this]; exact h6
    · split <;> (first | lia | omega)
  let fo := Obj.putName name (PyData.keyHash X.w.params name) (.str name (s.toks + 1)) vv
  have efo : fo (dictOf es nn) = dictOf (putL name (PyData.keyHash X.w.params name) (.str name (s.toks + 1)) vv es) (putN name es nn) := putName_dict _ _ _ _ _ _
  have hs : Heap.SameBut dx s.heap (s.heap.update dx fo) := Heap.SameBut.update ..
  have hD : (s.heap.update dx fo).get? dx = some (dictOf (putL name (PyData.keyHash X.w.params name) (.str name (s.toks + 1)) vv es) (putN name es nn)) := by
    have q : (s.heap.update dx fo).get? dx = some (fo (dictOf es nn)) := Heap.get?_update_self fo h4 (by rw [efo]; rfl)
    rw [q, efo]
  refine wpAny_bind (wpAny_pure (wpAny_bind (wpAny_bind (wpAny_loadPart h1 (wpAny_bind (looks_clsIn kin hc _ _ _ _ (fun _ _ e => e) ?_))))))
  rw [hd']
  refine wpAny_pure (a := some dx) (wpAny_bind (wpAny_pure (wpAny_bind ?_)))
  unfold nsSet
  refine wpAny_bind (wpAny_bind (wpAny_askSetting (wpAny_pure (wpAny_bind (wpAny_mkText (wpAny_bind (wpAny_loadPart h4 ?_)))))))
  have c : (!es.toArray.any (·.key.isStr name) && es.toArray.any (·.refKey)) = false := by
    rw [← Array.any_toList, ← Array.any_toList, keysOk_noRef h5, Bool.and_false]
  dsimp only [dictOf]
  rw [aRefKeyMayBeTheName_at, c]
  refine wpAny_updatePart h4 ?_
  refine wpAny_bind (wpAny_lookBehind hD (pastItsLine_dict (by rw [List.size_toArray, sizeLine_eq]; (lia))) ?_)
  refine wpAny_pure ⟨loc, _, ⟨own, FV.change I h2 (fun c hc => hs.2 c hc) ?_ hown⟩, Like.mk' s _ _ (by simp only []; (lia)), h⟩
  refine ⟨dx, _, _, (hs.2 a (Ne.symm h3)).trans h1, h2, h3, hD, keysOk_putL h5 _ _, hlen, fun x => ?_⟩
  rw [fieldOf_putL h5]
  unfold setL
  by_cases q : x = name
  · simp [q, ev]
  · simp [q, h7]
end
end Mine
end
section
set_option linter.unusedVariables false
namespace Mine
open PySem PySem.W PySem.Calls PyProof.Rows

noncomputable def mkS (l : List Nat) : Str := ⟨l.toArray⟩
@[simp] theorem mkS_length (l : List Nat) : (mkS l).length = l.length := by simp [mkS, Str.length]
@[simp] theorem mkS_toList (l : List Nat) : (mkS l).cps.toList = l := rfl
theorem mkS_inj {a b : List Nat} (h : mkS a = mkS b) : a = b := by
  have := congrArg (fun x : Str => x.cps.toList) h
  exact this
theorem mkS_beq (a b : List Nat) : (mkS a == mkS b) = decide (a = b) := by
  by_cases h : a = b
  · simp [h]
  · have : ¬ mkS a = mkS b := fun e => h (mkS_inj e)
    simp [h, this]
theorem mkS_append (a b : List Nat) : mkS a ++ mkS b = mkS (a ++ b) := by
  apply Str.ext'
  rw [Str.cps_append]
  simp [mkS]

noncomputable def clipI (v : Option Int) (d n : Nat) : Nat := match v with
  | none => d
  | some i => if i < 0 then (i + n).toNat else min i.toNat n
noncomputable def pySl {α : Type} (l : List α) (lo hi : Option Int) : List α := (l.take (clipI hi l.length l.length)).drop (clipI lo 0 l.length)

theorem range_pick {α : Type} (l : List α) (a b : Nat) (hb : b ≤ l.length) : ((List.range (b - a)).map (a + ·)).filterMap (l[·]?) = (l.take b).drop a := by
  apply List.ext_getElem?
  intro i
  have key : ∀ (n : Nat) (a : Nat), a + n ≤ l.length → ((List.range n).map (a + ·)).filterMap (l[·]?) = (l.drop a).take n := fun n a h => by
    exact StrLaws.picks l n a h
  by_cases hab : a ≤ b
  · rw [key (b - a) a (by (lia)), List.drop_take]
  · have e : b - a = 0 := by (lia)
    rw [e]
    simp only [List.range_zero, List.map_nil, List.filterMap_nil, List.getElem?_nil]
    rw [List.getElem?_drop, List.getElem?_take]
    split
    · (lia)
    · rfl

theorem clip_eq (v : Option Int) (d n : Nat) (hd : d ≤ n) : ((match v with | none => (d : Int) | some i => (let i := if i < 0 then i + (n : Int) else i; if (1 : Int) > 0 then max 0 (min i n) else max (-1) (min i ((n : Int) - 1)))) : Int) = ((clipI v d n : Nat) : Int) := by
  cases v with
  | none => rfl
  | some i =>
    unfold clipI
    simp only [show ((1 : Int) > 0) = True by decide, if_true]
    split <;> (clear hd; lia)
theorem clipI_le (v : Option Int) (d n : Nat) (hd : d ≤ n) : clipI v d n ≤ n := by
  unfold clipI
  split
  · exact hd
  · split <;> (first | lia | omega)

theorem slice_mkS (l : List Nat) (lo hi : Option Int) : Txt.slice (mkS l) lo hi = mkS (pySl l lo hi) := by
  have hidx : Builtin.Str.strSliceIndices lo hi 1 l.length = (List.range (clipI hi l.length l.length - clipI lo 0 l.length)).map (clipI lo 0 l.length + ·) := by
    have e1 := clip_eq lo 0 l.length (Nat.zero_le _)
    have e2 := clip_eq hi l.length l.length (Nat.le_refl _)
    have : Builtin.Str.strSliceIndices lo hi 1 l.length = sliceRange (clipI lo 0 l.length : Nat) (clipI hi l.length l.length : Nat) 1 := by
      rw [← e1, ← e2]
      rfl
    rw [this]
    exact sliceRange_one _ _
  unfold Txt.slice
  rw [mkS_length, hidx]
  have pick := range_pick l (clipI lo 0 l.length) (clipI hi l.length l.length) (clipI_le _ _ _ (Nat.le_refl _))
  split
  · rename_i h
    simp only [beq_self_eq_true, Bool.true_and, List.length_map, List.length_range, beq_iff_eq] at h
    have h2 := clipI_le hi l.length l.length (Nat.le_refl _)
    unfold pySl
    have a0 : clipI lo 0 l.length = 0 ∨ l.length = 0 := by (lia)
    have b0 : clipI hi l.length l.length = l.length := by (lia)
    rw [b0, List.take_length]
    rcases a0 with a0 | a0
    · rw [a0, List.drop_zero]
    · have : l = [] := List.length_eq_zero_iff.mp a0
      subst this; simp
  · show (⟨(List.filterMap (fun x => (mkS l).cps[x]?) _).toArray⟩ : Str) = _
    have : (fun x : Nat => (mkS l).cps[x]?) = fun x : Nat => l[x]? := by funext x; simp [mkS]
    rw [this, pick]; rfl

section
variable {X : Cx} {n : Nat} {fz : Frz} {L : Addr} {loc : Loc} {M : Mem} {env : Env}

theorem EV_int {Q : QV} {i : Int} {k pos} (h : Q (.int i 0) loc M) : EV X n fz L env (.Constant (.int i) k pos) Q loc M := fun A s r F o =>
  wpAny_Constant_int ⟨loc, M, F, Like.tokn s _ (Nat.le_succ _), h⟩
theorem EV_none {Q : QV} {k pos} (h : Q .none loc M) : EV X n fz L env (.Constant .none k pos) Q loc M := fun A s r F o =>
  wpAny_Constant_none ⟨loc, M, F, Like.refl s, h⟩
theorem EV_bool {Q : QV} {b : Bool} {k pos} (h : Q (.bool b) loc M) : EV X n fz L env (.Constant (.bool b) k pos) Q loc M := fun A s r F o =>
  wpAny_Constant_bool ⟨loc, M, F, Like.refl s, h⟩
theorem EV_str {Q : QV} {x : Str} {l : List Nat} {k pos} (e : x = mkS l) (h : Q (.str (mkS l) 0) loc M) : EV X n fz L env (.Constant (.str x) k pos) Q loc M := fun A s r F o =>
  wpAny_Constant_str ⟨loc, M, F, Like.tokn s _ (Nat.le_succ _), by subst e; exact h⟩

theorem EV_compare {Q : QV} {l op r pos} (h : EV X n fz L env l (fun a lo m => EV X n fz L env r (fun b lo m => O2 X n fz L (compareOp op) a b Q lo m) lo m) loc M)
    (hm : behindInMarks op r = false := by with_unfolding_all rfl) : EV X n fz L env (.Compare l [op] [r] pos) Q loc M := fun A s rm F o =>
  wpAny_Compare1 (wpAny_mono (h A s rm F o) (fun _ _ w => obEEAA w fun _ _ f' k' q => wpAny_mono (WT.use q rm f' k' o) (fun _ _ w => obEEAA w fun _ _ f' k' q => WT.use (q _ _ rfl rfl) rm f' k' o) (fun _ _ e => e)) (fun _ _ e => e)) hm
theorem EV_binop {Q : QV} {l op r pos} (h : EV X n fz L env l (fun a lo m => EV X n fz L env r (fun b lo m => O2 X n fz L (binaryOp op) a b Q lo m) lo m) loc M) :
    EV X n fz L env (.BinOp l op r pos) Q loc M := fun A s rm F o =>
  wpAny_BinOp (wpAny_mono (h A s rm F o) (fun _ _ w => obEEAA w fun _ _ f' k' q => wpAny_mono (WT.use q rm f' k' o) (fun _ _ w => obEEAA w fun _ _ f' k' q => WT.use (q _ _ rfl rfl) rm f' k' o) (fun _ _ e => e)) (fun _ _ e => e))
theorem EV_unop {Q : QV} {op x pos} (h : EV X n fz L env x (fun a lo m => O1 X n fz L (unaryOp op) a Q lo m) loc M) : EV X n fz L env (.UnaryOp op x pos) Q loc M := fun A s rm F o =>
  wpAny_UnaryOp (wpAny_mono (h A s rm F o) (fun _ _ w => obEEAA w fun _ _ f' k' q => WT.use (q _ rfl) rm f' k' o) (fun _ _ e => e))
theorem EV_ifexp {Q : QV} {t b e pos} (h : TV X n fz L env t (fun c lo m => (c = true → EV X n fz L env b Q lo m) ∧ (c = false → EV X n fz L env e Q lo m)) loc M) : EV X n fz L env (.IfExp t b e pos) Q loc M := fun A s rm F o =>
  wpAny_IfExp (wpAny_mono (h _ rfl A s rm F o) (fun c s' w => obEEAA w fun _ _ f' k' q => by
    cases c
    · exact WT.use (q.2 rfl) rm f' k' o
    · exact WT.use (q.1 rfl) rm f' k' o) (fun _ _ e => e))

theorem TV_compare {Q : QB} {l op r pos} (h : EV X n fz L env l (fun a lo m => EV X n fz L env r (fun b lo m => O2 X n fz L (compareOp op) a b (fun c lo m => O1B X n fz L truthy c Q lo m) lo m) lo m) loc M)
    (hm : behindInMarks op r = false := by with_unfolding_all rfl) : TV X n fz L env (.Compare l [op] [r] pos) Q loc M := fun whole hw A s rm F o =>
  wpAny_isTrue_Compare1 (wpAny_mono (h A s rm F o) (fun _ _ w => obEEAA w fun _ _ f' k' q => wpAny_mono (WT.use q rm f' k' o) (fun _ _ w => obEEAA w fun _ _ f' k' q => wpAny_mono (WT.use (q _ _ rfl rfl) rm f' k' o) (fun v _ w => obEEAA w fun _ _ f' k' q => WT.use (q v rfl) rm f' k' o)
    (fun _ _ e => e)) (fun _ _ e => e)) (fun _ _ e => e)) hm
theorem TV_not {Q : QB} {x pos} (h : TV X n fz L env x (fun b lo m => Q (!b) lo m) loc M) : TV X n fz L env (.UnaryOp .Not x pos) Q loc M := fun whole hw A s rm F o =>
  wpAny_isTrue_Not (h _ rfl A s rm F o)
noncomputable def TAll (X : Cx) (n : Nat) (fz : Frz) (L : Addr) (env : Env) (op : BoolOp) (es : List Expr) (Q : QB) (loc : Loc) (M : Mem) : Prop := WT X n fz L (allTrue op es env) Q loc M
theorem TV_boolop {Q : QB} {op es pos} (h : TAll X n fz L env op es Q loc M) : TV X n fz L env (.BoolOp op es pos) Q loc M := fun whole hw A s rm F o => wpAny_isTrue_BoolOp (h A s rm F o)
theorem TAll_and_nil {Q : QB} (h : Q true loc M) : TAll X n fz L env .And [] Q loc M := fun A s rm F o => wpAny_allTrue_And_nil ⟨loc, M, F, Like.refl s, h⟩
theorem TAll_or_nil {Q : QB} (h : Q false loc M) : TAll X n fz L env .Or [] Q loc M := fun A s rm F o => wpAny_allTrue_Or_nil ⟨loc, M, F, Like.refl s, h⟩
theorem TAll_and {Q : QB} {x r} (h : TV X n fz L env x (fun b lo m => (b = true → TAll X n fz L env .And r Q lo m) ∧ (b = false → Q false lo m)) loc M) : TAll X n fz L env .And (x :: r) Q loc M := fun A s rm F o =>
  wpAny_allTrue_And_cons (wpAny_mono (h _ rfl A s rm F o) (fun b s' w => obEEAA w fun l' M' f' k' q => by
    cases b
    · exact ⟨l', M', f', k', q.2 rfl⟩
    · exact WT.use (q.1 rfl) rm f' k' o) (fun _ _ e => e))
theorem TAll_or {Q : QB} {x r} (h : TV X n fz L env x (fun b lo m => (b = true → Q true lo m) ∧ (b = false → TAll X n fz L env .Or r Q lo m)) loc M) : TAll X n fz L env .Or (x :: r) Q loc M := fun A s rm F o =>
  wpAny_allTrue_Or_cons (wpAny_mono (h _ rfl A s rm F o) (fun b s' w => obEEAA w fun l' M' f' k' q => by
    cases b
    · exact WT.use (q.2 rfl) rm f' k' o
    · exact ⟨l', M', f', k', q.1 rfl⟩) (fun _ _ e => e))
theorem TV_value {Q : QB} {e} (h : EV X n fz L env e (fun v lo m => O1B X n fz L truthy v Q lo m) loc M)
    (he : ∀ whole, isTrue e env whole = (do let v ← whole; standAt e.pos; holding [v] (truthy v)) := by intro _; rfl) : TV X n fz L env e Q loc M := fun whole hw A s rm F o => by
  subst hw
  exact wpAny_isTrue_value (wpAny_mono (h A s rm F o) (fun v _ w => obEEAA w fun _ _ f' k' q => WT.use (q v rfl) rm f' k' o) (fun _ _ e => e)) (he _)

theorem TR_bool {Q : QB} {b : Bool} (h : Q b loc M) : O1B X n fz L truthy (.bool b) Q loc M := fun va e A s r F o => by
  rw [er_bool e]; exact wpAny_truthy_bool ⟨loc, M, F, Like.refl s, h⟩
theorem TR_none {Q : QB} (h : Q false loc M) : O1B X n fz L truthy .none Q loc M := fun va e A s r F o => by
  rw [er_none e]; exact fun _ _ _ => ⟨loc, M, F, Like.refl s, h⟩
theorem TR_str {Q : QB} {l : List Nat} (hl : l.length ≤ 16777216) (h : Q (!l.isEmpty) loc M) : O1B X n fz L truthy (.str (mkS l) 0) Q loc M := fun va e A s r F o => by
  (refine obE (er_str e) ?_; intro t hz1; subst hz1)
  refine P.truthy_str (by rw [mkS_length]; (lia)) ⟨loc, M, F, Like.tokn s _ (by (lia)), ?_⟩
  have : (((mkS l).length : Int) != 0) = !l.isEmpty := by
    rw [mkS_length]
    cases l <;> simp
    (lia)
  rw [this]; exact h

theorem O2_eq_str {Q : QV} {a b : List Nat} (h : Q (.bool (decide (a = b))) loc M) : O2 X n fz L (compareOp .Eq) (.str (mkS a) 0) (.str (mkS b) 0) Q loc M := fun va vb e1 e2 A s r F o => by
  (refine obE (er_str e1) ?_; intro t hz1; subst hz1)
  (refine obE (er_str e2) ?_; intro u hz1; subst hz1)
  exact P.eq_str ⟨loc, M, F, Like.refl s, by
    have : ((mkS a).cps.toList == (mkS b).cps.toList) = decide (a = b) := by simp only [mkS_toList]; by_cases q : a = b <;> simp [q]
    rw [this]; exact h⟩
theorem O2_ne_str {Q : QV} {a b : List Nat} (h : Q (.bool (!decide (a = b))) loc M) : O2 X n fz L (compareOp .NotEq) (.str (mkS a) 0) (.str (mkS b) 0) Q loc M := fun va vb e1 e2 A s r F o => by
  (refine obE (er_str e1) ?_; intro t hz1; subst hz1)
  (refine obE (er_str e2) ?_; intro u hz1; subst hz1)
  exact P.ne_str ⟨loc, M, F, Like.refl s, by
    have : ((mkS a).cps.toList != (mkS b).cps.toList) = !decide (a = b) := by simp only [mkS_toList]; by_cases q : a = b <;> simp [q]
    rw [this]; exact h⟩
theorem O2_eq_none_str {Q : QV} {a : Str} (h : Q (.bool false) loc M) : O2 X n fz L (compareOp .Eq) .none (.str a 0) Q loc M := fun va vb e1 e2 A s r F o => by
  (refine obE (er_str e2) ?_; intro t hz1; subst hz1)
  rw [er_none e1]
  exact EqNone.eq_none_str ⟨loc, M, F, Like.refl s, h⟩
theorem O2_eq_int {Q : QV} {a b : Int} (h : Q (.bool (decide (a = b))) loc M) : O2 X n fz L (compareOp .Eq) (.int a 0) (.int b 0) Q loc M := fun va vb e1 e2 A s r F o => by
  (refine obE (er_int e1) ?_; intro t hz1; subst hz1)
  (refine obE (er_int e2) ?_; intro u hz1; subst hz1)
  exact P.eq_int ⟨loc, M, F, Like.refl s, by
    have : (a == b) = decide (a = b) := by by_cases q : a = b <;> simp [q]
    rw [this]; exact h⟩
theorem O2_ne_int {Q : QV} {a b : Int} (h : Q (.bool (!decide (a = b))) loc M) : O2 X n fz L (compareOp .NotEq) (.int a 0) (.int b 0) Q loc M := fun va vb e1 e2 A s r F o => by
  (refine obE (er_int e1) ?_; intro t hz1; subst hz1)
  (refine obE (er_int e2) ?_; intro u hz1; subst hz1)
  exact P.ne_int ⟨loc, M, F, Like.refl s, by
    have : (a != b) = !decide (a = b) := by by_cases q : a = b <;> simp [q]
    rw [this]; exact h⟩
theorem O2_lt_int {Q : QV} {a b : Int} (h : Q (.bool (decide (a < b))) loc M) : O2 X n fz L (compareOp .Lt) (.int a 0) (.int b 0) Q loc M := fun va vb e1 e2 A s r F o => by
  (refine obE (er_int e1) ?_; intro t hz1; subst hz1)
  (refine obE (er_int e2) ?_; intro u hz1; subst hz1)
  exact P.lt_int ⟨loc, M, F, Like.refl s, h⟩
theorem O2_le_int {Q : QV} {a b : Int} (h : Q (.bool (decide (a ≤ b))) loc M) : O2 X n fz L (compareOp .LtE) (.int a 0) (.int b 0) Q loc M := fun va vb e1 e2 A s r F o => by
  (refine obE (er_int e1) ?_; intro t hz1; subst hz1)
  (refine obE (er_int e2) ?_; intro u hz1; subst hz1)
  exact P.le_int ⟨loc, M, F, Like.refl s, h⟩
theorem O2_gt_int {Q : QV} {a b : Int} (h : Q (.bool (decide (b < a))) loc M) : O2 X n fz L (compareOp .Gt) (.int a 0) (.int b 0) Q loc M := fun va vb e1 e2 A s r F o => by
  (refine obE (er_int e1) ?_; intro t hz1; subst hz1)
  (refine obE (er_int e2) ?_; intro u hz1; subst hz1)
  exact P.gt_int ⟨loc, M, F, Like.refl s, h⟩
theorem O2_ge_int {Q : QV} {a b : Int} (h : Q (.bool (decide (b ≤ a))) loc M) : O2 X n fz L (compareOp .GtE) (.int a 0) (.int b 0) Q loc M := fun va vb e1 e2 A s r F o => by
  (refine obE (er_int e1) ?_; intro t hz1; subst hz1)
  (refine obE (er_int e2) ?_; intro u hz1; subst hz1)
  exact P.ge_int ⟨loc, M, F, Like.refl s, h⟩
theorem O2_eq_bool {Q : QV} {a b : Bool} (h : Q (.bool (a == b)) loc M) : O2 X n fz L (compareOp .Eq) (.bool a) (.bool b) Q loc M := fun va vb e1 e2 A s r F o => by
  rw [er_bool e1, er_bool e2]
  exact eq_bool ⟨loc, M, F, Like.refl s, h⟩
theorem O2_ne_bool {Q : QV} {a b : Bool} (h : Q (.bool (a != b)) loc M) : O2 X n fz L (compareOp .NotEq) (.bool a) (.bool b) Q loc M := fun va vb e1 e2 A s r F o => by
  rw [er_bool e1, er_bool e2]
  exact ne_bool ⟨loc, M, F, Like.refl s, h⟩
theorem er_beq_none (v : Value) : (er v == .none) = (v == .none) := by cases v <;> rfl
theorem O2_is_none {Q : QV} {v : Value} (h : Q (.bool (v == .none)) loc M) : O2 X n fz L (compareOp .Is) v .none Q loc M := fun va vb e1 e2 A s r F o => by
  rw [er_none e2]
  exact is_none ⟨loc, M, F, Like.refl s, by rw [← er_beq_none, e1]; exact h⟩
theorem O2_isnot_bool {Q : QV} {a b : Bool} (h : Q (.bool (a != b)) loc M) : O2 X n fz L (compareOp .IsNot) (.bool a) (.bool b) Q loc M := fun va vb e1 e2 A s r F o => by
  rw [er_bool e1, er_bool e2]
  show wpAny _ _ (do return Value.bool (!(← isSame (.bool a) (.bool b))) : Sem Value) _ _ _
  have : isSame (.bool a) (.bool b) = pure (a == b) := by cases a <;> cases b <;> rfl
  rw [this]
  exact wpAny_bind (wpAny_pure (wpAny_pure ⟨loc, M, F, Like.refl s, h⟩))

theorem O2_add_int {Q : QV} {a b : Int} (h : Q (.int (a + b) 0) loc M) : O2 X n fz L (binaryOp .Add) (.int a 0) (.int b 0) Q loc M := fun va vb e1 e2 A s r F o => by
  (refine obE (er_int e1) ?_; intro t hz1; subst hz1)
  (refine obE (er_int e2) ?_; intro u hz1; subst hz1)
  exact P.add_int ⟨loc, M, F, Like.tokn s _ (Nat.le_succ _), h⟩
theorem O2_sub_int {Q : QV} {a b : Int} (h : Q (.int (a - b) 0) loc M) : O2 X n fz L (binaryOp .Sub) (.int a 0) (.int b 0) Q loc M := fun va vb e1 e2 A s r F o => by
  (refine obE (er_int e1) ?_; intro t hz1; subst hz1)
  (refine obE (er_int e2) ?_; intro u hz1; subst hz1)
  exact P.sub_int ⟨loc, M, F, Like.tokn s _ (Nat.le_succ _), h⟩
theorem O2_iadd_int {Q : QV} {a b : Int} (h : Q (.int (a + b) 0) loc M) : O2 X n fz L (inplaceOp .Add) (.int a 0) (.int b 0) Q loc M := fun va vb e1 e2 A s r F o => by
  (refine obE (er_int e1) ?_; intro t hz1; subst hz1)
  (refine obE (er_int e2) ?_; intro u hz1; subst hz1)
  exact P.iadd_int ⟨loc, M, F, Like.tokn s _ (Nat.le_succ _), h⟩
theorem O2_mul_int {Q : QV} {a b : Int} (hm : IntMulOk a b) (h : Q (.int (a * b) 0) loc M) : O2 X n fz L (binaryOp .Mult) (.int a 0) (.int b 0) Q loc M := fun va vb e1 e2 A s r F o => by
  (refine obE (er_int e1) ?_; intro t hz1; subst hz1)
  (refine obE (er_int e2) ?_; intro u hz1; subst hz1)
  exact P.mul_int ⟨loc, M, F, Like.tokn s _ (Nat.le_succ _), h⟩ hm
theorem O2_mod_int {Q : QV} {a b : Int} (hb : b ≠ 0) (h : Q (.int (a.fmod b) 0) loc M) : O2 X n fz L (binaryOp .Mod) (.int a 0) (.int b 0) Q loc M := fun va vb e1 e2 A s r F o => by
  (refine obE (er_int e1) ?_; intro t hz1; subst hz1)
  (refine obE (er_int e2) ?_; intro u hz1; subst hz1)
  exact mod_int' hb ⟨loc, M, F, Like.tokn s _ (Nat.le_succ _), h⟩
theorem O2_floordiv_int {Q : QV} {a b : Int} (hb : b ≠ 0) (h : Q (.int (a.fdiv b) 0) loc M) (hp : Builtin.divisionGoesByPylong a b = false) :
    O2 X n fz L (binaryOp .FloorDiv) (.int a 0) (.int b 0) Q loc M := fun va vb e1 e2 A s r F o => by
  (refine obE (er_int e1) ?_; intro t hz1; subst hz1)
  (refine obE (er_int e2) ?_; intro u hz1; subst hz1)
  exact floordiv_int hb ⟨loc, M, F, Like.tokn s _ (Nat.le_succ _), h⟩ (.inl hp)
theorem O1_neg_int {Q : QV} {a : Int} (h : Q (.int (-a) 0) loc M) : O1 X n fz L (unaryOp .USub) (.int a 0) Q loc M := fun va e1 A s r F o => by
  (refine obE (er_int e1) ?_; intro t hz1; subst hz1)
  exact P.neg_int ⟨loc, M, F, Like.tokn s _ (Nat.le_succ _), h⟩

theorem add_post {s : Shared} {a b : List Nat} {t u : Tok} {Qs : Value → Shared → Prop} (hl : a.length + b.length ≤ 16777216) (h : ∀ t' k, s.toks ≤ k → Qs (.str (mkS (a ++ b)) t') { s with toks := k }) :
    (if (mkS a).length == 0 then Made.val (.str (mkS b) u) else if (mkS b).length == 0 then Made.val (.str (mkS a) t) else Made.str (mkS a ++ mkS b)).post Qs s := by
  rw [mkS_length, mkS_length]
  split
  · rename_i q
    have : a = [] := List.length_eq_zero_iff.mp (by simpa using q)
    subst this
    exact h u s.toks (Nat.le_refl _)
  · split
    · rename_i q
      have : b = [] := List.length_eq_zero_iff.mp (by simpa using q)
      subst this
      have z := h t s.toks (Nat.le_refl _)
      rw [List.append_nil] at z; exact z
    · refine ⟨?_, ?_⟩
      · rw [mkS_append, mkS_length, List.length_append, sizeLine_eq]; (assumption)
      · rw [mkS_append]; exact h _ _ (Nat.le_succ _)
theorem O2_add_str {Q : QV} {a b : List Nat} (hl : a.length + b.length ≤ 16777216) (h : Q (.str (mkS (a ++ b)) 0) loc M) : O2 X n fz L (binaryOp .Add) (.str (mkS a) 0) (.str (mkS b) 0) Q loc M := fun va vb e1 e2 A s r F o => by
  (refine obE (er_str e1) ?_; intro t hz1; subst hz1)
  (refine obE (er_str e2) ?_; intro u hz1; subst hz1)
  exact P.add_str (add_post hl fun t' k hk => ⟨loc, M, F, Like.tokn s _ hk, h⟩)
theorem O2_iadd_str {Q : QV} {a b : List Nat} (hl : a.length + b.length ≤ 16777216) (h : Q (.str (mkS (a ++ b)) 0) loc M) : O2 X n fz L (inplaceOp .Add) (.str (mkS a) 0) (.str (mkS b) 0) Q loc M := fun va vb e1 e2 A s r F o => by
  (refine obE (er_str e1) ?_; intro t hz1; subst hz1)
  (refine obE (er_str e2) ?_; intro u hz1; subst hz1)
  exact P.iadd_str (add_post hl fun t' k hk => ⟨loc, M, F, Like.tokn s _ hk, h⟩)
end
end Mine
end
section
set_option linter.unusedVariables false
namespace Mine
open PySem PySem.W PySem.Calls PyProof.Rows

section
variable {X : Cx} {n : Nat} {fz : Frz} {L : Addr} {loc : Loc} {M : Mem} {env : Env} {a : Addr}

noncomputable def ReadO (X : Cx) (h : Heap) (a : Addr) : AO → Prop
  | .inst _ _ _ => False
  | .dct l => ∃ kvs : List (Str × Value), h.DictOf (strKind X.prog X.w) a kvs ∧ 3 < a ∧ kvs.map (fun p => (p.1, er p.2)) = l
  | .lst xs => ∃ vs : Array Value, h.IsList a vs ∧ vs.toList.map er = xs
  | .tup xs => ∃ vs : Array Value, IsTup h a vs ∧ vs.toList.map er = xs
  | .obj o => h.get? a = some o
theorem ReadO.ext {h h' : Heap} {o : AO} (r : ReadO X h a o) (k : Ext h h') : ReadO X h' a o := by
  cases o with
  | inst => exact r
  | dct l => obtain ⟨kvs, h1, h2⟩ := r; exact ⟨kvs, h1.keep k, h2⟩
  | lst xs => obtain ⟨vs, h1, h2⟩ := r; exact ⟨vs, h1.at fun o e => k a o e, h2⟩
  | tup xs => obtain ⟨vs, ⟨o, ho, q⟩, h2⟩ := r; exact ⟨vs, ⟨o, k _ _ ho, q⟩, h2⟩
  | obj o => exact k _ _ r
noncomputable def isRead : AO → Bool
  | .inst _ _ _ => false
  | _ => true
noncomputable def RdM (X : Cx) (M : Mem) (a : Addr) (o : AO) : Prop := (M a = some o ∧ isRead o = true) ∨ ReadO X X.T a o
theorem RdM.get {o : AO} {h : Heap} (r : RdM X M a o) (F : FV X fz L loc M h) : ReadO X h a o := by
  rcases r with ⟨r, q⟩ | r
  · (refine obE (F) ?_; intro own I)
    have := (I.inv.rep a o r).2
    cases o with
    | inst => cases q
    | dct => exact this
    | lst => obtain ⟨vs, h1, h2⟩ := this; exact ⟨vs, h1.isList, h2⟩
    | tup => exact this
    | obj => exact this
  · exact r.ext F.topKeep
theorem RdM.lst {xs : List Value} (h : M a = some (.lst xs)) : RdM X M a (.lst xs) := .inl ⟨h, rfl⟩
theorem RdM.tup {xs : List Value} (h : M a = some (.tup xs)) : RdM X M a (.tup xs) := .inl ⟨h, rfl⟩
theorem RdM.dct {xs : List (Str × Value)} (h : M a = some (.dct xs)) : RdM X M a (.dct xs) := .inl ⟨h, rfl⟩

theorem EV_sub {Q : QV} {value slice pos} (h : EV X n fz L env value (fun o lo m => EV X n fz L env slice (fun i lo m => O2 X n fz L (subscriptTail value slice) o i Q lo m) lo m) loc M) :
    EV X n fz L env (.Subscript value slice pos) Q loc M := fun A s rm F o =>
  Subscript_ (wpAny_mono (h A s rm F o) (fun _ _ w => obEEAA w fun _ _ f' k' q => wpAny_mono (WT.use q rm f' k' o) (fun _ _ w => obEEAA w fun _ _ f' k' q => WT.use (q _ _ rfl rfl) rm f' k' o) (fun _ _ e => e)) (fun _ _ e => e))

theorem map_get {vs : Array Value} {xs : List Value} {j : Nat} {x : Value} (h : vs.toList.map er = xs) (e : xs[j]? = some x) : ∃ v, vs[j]? = some v ∧ er v = x := by
  subst h
  rw [List.getElem?_map] at e
  (refine obEA (Option.map_eq_some_iff.mp e) ?_; intro v h1 h2)
  exact ⟨v, by simpa using h1, h2⟩

theorem SUB_str {Q : QV} {value slice : Expr} {l : List Nat} {i : Int} {c : Nat} {j : Nat} (hi : -(2 ^ 62) ≤ i ∧ i < 2 ^ 62) (hj : (if i < 0 then i + l.length else i) = (j : Int)) (hc : l[j]? = some c) (h : Q (.str (mkS [c]) 0) loc M)
    (hs : ∀ t u, subscripted slice false (.str (mkS l) t) (.int i u) = operate [.str (mkS l) t, .int i u] (getItem (.str (mkS l) t) (.int i u)) := by intro _ _; with_unfolding_all rfl)
    (ht : ∀ t r, letTemporaryGo value (.str (mkS l) t) r = pure () := by intro _ _; with_unfolding_all rfl) :
    O2 X n fz L (subscriptTail value slice) (.str (mkS l) 0) (.int i 0) Q loc M := fun va vb e1 e2 A s r F o => by
  (refine obE (er_str e1) ?_; intro t hz1; subst hz1)
  (refine obE (er_int e2) ?_; intro u hz1; subst hz1)
  have hlt : j < l.length := (List.getElem?_eq_some_iff.mp hc).1
  have hlo : -((mkS l).length : Int) ≤ i := by
    rw [mkS_length]
    by_cases q : i < 0
    · rw [if_pos q] at hj; (clear q hlt e2 e1 o F r ht hs h hc hi; lia)
    · rw [if_neg q] at hj; (clear q hlt e2 e1 o F r ht hs h hc; lia)
  have hhi : i < (mkS l).length := by
    rw [mkS_length]
    by_cases q : i < 0
    · rw [if_pos q] at hj; (clear q hlo e2 e1 o F r ht hs h hc hi; lia)
    · rw [if_neg q] at hj; (clear q hlo e2 e1 o F r ht hs h hc hi; lia)
  refine item_str (by unfold fitsSsize; rw [Bool.not_eq_true', Bool.or_eq_false_iff]; exact ⟨decide_eq_false (by (lia)), decide_eq_false (by (lia))⟩) hlo hhi (fun _ => ⟨loc, M, F, Like.tokn s _ (Nat.le_succ _), ?_⟩) (hs t u) (ht t)
  have e : (mkS l).cps[j]? = some c := by simpa [mkS] using hc
  have hseq : seqIndex? i l.length = some j := by
    unfold seqIndex?
    rw [hj]
    have : (decide ((0 : Int) ≤ (j : Int)) && decide ((j : Int) < (l.length : Int))) = true := by
      rw [Bool.and_eq_true, decide_eq_true_eq, decide_eq_true_eq]; (lia)
    simp only [this, if_true]
    rfl
  have : Txt.item (mkS l) i = mkS [c] := by
    unfold Txt.item Txt.charAt
    rw [mkS_length, hseq]
    show (⟨#[((mkS l).cps[j]?).getD 0]⟩ : Str) = _
    rw [e]; rfl
  show Q (.str (Txt.item (mkS l) i) 0) loc M
  rw [this]; exact h

theorem SUB_list {Q : QV} {value slice : Expr} {xs : List Value} {i : Int} {x : Value} (hm : RdM X M a (.lst xs)) (h0 : 0 ≤ i) (hhi : i < 2 ^ 62) (hx : xs[i.toNat]? = some x) (h : Q x loc M)
    (hs : ∀ u, subscripted slice false (.ref a) (.int i u) = operate [.ref a, .int i u] (getItem (.ref a) (.int i u)) := by intro _; with_unfolding_all rfl) :
    O2 X n fz L (subscriptTail value slice) (.ref a) (.int i 0) Q loc M := fun va vb e1 e2 A s r F o => by
  rw [er_ref e1]
  (refine obE (er_int e2) ?_; intro u hz1; subst hz1)
  (refine obEA (hm.get F) ?_; intro vs h1 h2)
  (refine obEA (map_get h2 hx) ?_; intro v g1 g2)
  exact tail_any h1.typeIs slot_list_getitem.lookup (wpAny_getItem_list h1 h0 (by (lia)) g1 ⟨loc, M, F, Like.refl s, by show Q (er _) loc M; rw [g2]; exact h⟩) (hs u)

theorem valueAt_er {kvs : List (Str × Value)} {x : Str} {v : Value} (h : (kvs.map (fun p => (p.1, er p.2))).lookup x = some v) : ∃ w, valueAt kvs x = some w ∧ er w = v := by
  induction kvs with
  | nil => cases h
  | cons p r ih =>
    (refine dn fun hG0 => ?_; obtain ⟨k, w⟩ := p; refine hG0 ?_; clear hG0)
    simp only [List.map_cons, List.lookup_cons] at h
    unfold valueAt
    simp only [List.find?_cons]
    by_cases q : k = x
    · subst q
      simp only [beq_self_eq_true] at h
      exact ⟨w, by simp, by simpa using h⟩
    · have : (x == k) = false := by simpa using fun e : x = k => q e.symm
      rw [this] at h
      (refine obEA (ih h) ?_; intro w' h1 h2)
      refine ⟨w', ?_, h2⟩
      have : decide (k = x) = false := by simp [q]
      simp only [this]
      exact h1
theorem SUB_dict {Q : QV} {value slice : Expr} {es : List (Str × Value)} {x : Str} {v : Value} (hm : RdM X M a (.dct es)) (hx : es.lookup x = some v) (h : Q v loc M)
    (hs : ∀ u, subscripted slice false (.ref a) (.str x u) = operate [.ref a, .str x u] (getItem (.ref a) (.str x u)) := by intro _; with_unfolding_all rfl) :
    O2 X n fz L (subscriptTail value slice) (.ref a) (.str x 0) Q loc M := fun va vb e1 e2 A s r F o => by
  rw [er_ref e1]
  (refine obE (er_str e2) ?_; intro u hz1; subst hz1)
  (refine obEAA (hm.get F) ?_; intro kvs h1 _ h2)
  subst h2
  (refine obEA (valueAt_er hx) ?_; intro w g1 g2)
  exact tail_any h1.mapOf.typeIs slot_dict_getitem.lookup (wpAny_getItem_of (strKind_is X.prog X.w x u) h1.mapOf g1 ⟨loc, M, F, Like.tokn s _ (Nat.le_succ _), by show Q (er _) loc M; rw [g2]; exact h⟩) (hs u)

noncomputable def optInt (v : Value) : Option Int := match v with | .int i _ => some i | _ => none
noncomputable def PT (X : Cx) (n : Nat) (fz : Frz) (L : Addr) (env : Env) (e : Option Expr) (Q : Option Int → Loc → Mem → Prop) (loc : Loc) (M : Mem) : Prop :=
  WT X n fz L (evalPart e env) (fun v l m => ((∃ i t, v = .int i t) ∨ v = .none) ∧ Q (optInt v) l m) loc M
theorem PT_none {Q : Option Int → Loc → Mem → Prop} (h : Q none loc M) : PT X n fz L env none Q loc M := fun A s r F o => wpAny_evalPart_none ⟨loc, M, F, Like.refl s, .inr rfl, h⟩
theorem PT_some {Q : Option Int → Loc → Mem → Prop} {e : Expr} (h : EV X n fz L env e (fun v l m => ∃ i, v = .int i 0 ∧ Q (some i) l m) loc M) : PT X n fz L env (some e) Q loc M := fun A s r F o =>
  wpAny_evalPart_some (wpAny_mono (h A s r F o) (fun v s' ⟨l', M', f', k', i, e, q⟩ => by
    (refine obE (er_int e) ?_; intro t hz1; subst hz1)
    exact ⟨l', M', f', k', .inl ⟨i, t, rfl⟩, q⟩) (fun _ _ e => e))

theorem keptFV : KeptH (fun h => FV X fz L loc M h) := fun h ob F => F.ext (Ext.push _ _)

theorem EV_slice_str {Q : QV} {value : Expr} {lower upper : Option Expr} {p pos : Pos} 
    (h : EV X n fz L env value (fun o lo m => ∃ l, o = .str (mkS l) 0 ∧ l.length ≤ 16777216 ∧ PT X n fz L env lower (fun i lo m => PT X n fz L env upper (fun j lo m => Q (.str (mkS (pySl l i j)) 0) lo m) lo m) lo m) loc M)
    (hs : ∀ l t q, subscripted (.Slice lower upper none p) false (.str (mkS l) t) (.ref q) = operate [.ref q, .str (mkS l) t] (getItem (.str (mkS l) t) (.ref q)) := by intro _ _ _; with_unfolding_all rfl)
    (ht : ∀ l t r, letTemporaryGo value (.str (mkS l) t) r = pure () := by intro _ _ _; with_unfolding_all rfl) :
    EV X n fz L env (.Subscript value (.Slice lower upper none p) pos) Q loc M := fun A s rm F o => by
  refine Subscript_ (wpAny_mono (h A s rm F o) (fun v s₁ hq => ?_) (fun _ _ e => e))
  (refine obEEAAEAA (hq) ?_; intro l₁ M₁ f₁ k₁ l el hl q)
  (refine obE (er_str el) ?_; intro t hz1; subst hz1)
  refine wpAny_Slice (wpAny_mono (WT.use q rm f₁ k₁ o) (fun vi s₂ hq => ?_) (fun _ _ e => e))
  (refine obEEAAA (hq) ?_; intro l₂ M₂ f₂ k₂ hi q)
  refine wpAny_mono (WT.use q rm f₂ k₂ o) (fun vj s₃ hq => wpAny_evalPart_none ?_) (fun _ _ e => e)
  (refine obEEAAA (hq) ?_; intro l₃ M₃ f₃ k₃ hj q)
  have hl' : (mkS l).length ≤ sizeLine := by rw [mkS_length, sizeLine_eq]; exact hl
  refine wpAny_with_toks (Nat.le_refl s₃.toks) ?_
  have fin : ∀ i j, i = optInt vi → j = optInt vj → ∀ h' t' k, FV X fz L l₃ M₃ h' → s₃.toks ≤ k → ∃ loc' M', FV X fz L loc' M' h' ∧ Like s { s₃ with heap := h', toks := k } ∧ Q (er (.str (Txt.slice (mkS l) i j) t')) loc' M' := by
    rintro i j rfl rfl h' t' k F' hk
    exact ⟨l₃, M₃, F', k₃.trans (Like.mk' s₃ _ _ hk), by rw [slice_mkS]; exact q⟩
  rcases hi with ⟨i, ti, rfl⟩ | rfl <;> rcases hj with ⟨j, tj, rfl⟩ | rfl
  · exact tail_of_ItemOn (SBH.sliceItem_ss (P := fun h => FV X fz L l₃ M₃ h) keptFV f₃ (fun h' t' k p hk => fin _ _ rfl rfl h' t' k p hk) hl') (hs l t _) (ht l t)
  · exact tail_of_ItemOn (SBH.sliceItem_sn (P := fun h => FV X fz L l₃ M₃ h) keptFV f₃ (fun h' t' k p hk => fin _ _ rfl rfl h' t' k p hk) hl') (hs l t _) (ht l t)
  · exact tail_of_ItemOn (SBH.sliceItem_ns (P := fun h => FV X fz L l₃ M₃ h) keptFV f₃ (fun h' t' k p hk => fin _ _ rfl rfl h' t' k p hk) hl') (hs l t _) (ht l t)
  · exact tail_of_ItemOn (SBH.sliceItem_nn (P := fun h => FV X fz L l₃ M₃ h) keptFV f₃ (fun h' t' k p hk => fin _ _ rfl rfl h' t' k p hk) hl') (hs l t _) (ht l t)
end
end Mine
end
section
set_option linter.unusedVariables false
set_option maxRecDepth 100000
namespace Mine
open PySem PySem.W PySem.Calls PyProof.Rows

section
variable {X : Cx} {n : Nat} {fz : Frz} {L : Addr} {loc : Loc} {M : Mem} {env : Env} {a : Addr}

noncomputable def lastI (o : Option Nat) : Int := match o with | some k => (k : Int) | none => -1
theorem GMS {Q : Value → List Value → Loc → Mem → Prop} {x : Str} {name : Str} {id : String} (slot : Slot "str" name id) (ty : typeOf (.builtin id) = pure (.type "method_descriptor")) (h : Q (.builtin id) [.str x 0] loc M) :
    GM X n fz L name (.str x 0) Q loc M := fun vo pl e A s r F o => by
  (refine obE (er_str e) ?_; intro t hz1; subst hz1)
  have q : (fun p l m => Q (er p.1) (p.2.map er) l m : Value × List Value → Loc → Mem → Prop) (.builtin id, [.str x t]) loc M := h
  with_reducible exact PySem.GM.of (.str x t) (typeIs_str _ _ _) slot ty PySem.GM.noRef ⟨loc, M, F, Like.refl s, q⟩
theorem GM_count {Q : Value → List Value → Loc → Mem → Prop} {x : Str} (h : Q (.builtin "str.count") [.str x 0] loc M) : GM X n fz L "count" (.str x 0) Q loc M := GMS PySem.F.slot_str_count PySem.F.type_str_count h
theorem GM_rfind {Q : Value → List Value → Loc → Mem → Prop} {x : Str} (h : Q (.builtin "str.rfind") [.str x 0] loc M) : GM X n fz L "rfind" (.str x 0) Q loc M := GMS PySem.F.slot_str_rfind PySem.F.type_str_rfind h
theorem GM_join {Q : Value → List Value → Loc → Mem → Prop} {x : Str} (h : Q (.builtin "str.join") [.str x 0] loc M) : GM X n fz L "join" (.str x 0) Q loc M := GMS PySem.F.slot_str_join PySem.F.type_str_join h

theorem vs1 {vs : List Value} {a : Value} (h : vs.map er = [a]) : ∃ v, vs = [v] ∧ er v = a := by
  (refine obEEAA (List.map_eq_cons_iff.mp h) ?_; intro v r hz2 h1 h2; subst hz2)
  obtain rfl := List.map_eq_nil_iff.mp h2
  exact ⟨v, rfl, h1⟩
theorem vs2 {vs : List Value} {a b : Value} (h : vs.map er = [a, b]) : ∃ v w, vs = [v, w] ∧ er v = a ∧ er w = b := by
  (refine obEEAA (List.map_eq_cons_iff.mp h) ?_; intro v r hz2 h1 h2; subst hz2)
  (refine obEA (vs1 h2) ?_; intro w hz1 h3; subst hz1)
  exact ⟨v, w, rfl, h1, h3⟩
theorem vs3 {vs : List Value} {a b c : Value} (h : vs.map er = [a, b, c]) : ∃ v w u, vs = [v, w, u] ∧ er v = a ∧ er w = b ∧ er u = c := by
  (refine obEEAA (List.map_eq_cons_iff.mp h) ?_; intro v r hz2 h1 h2; subst hz2)
  (refine obEEA (vs2 h2) ?_; intro w u hz2 h3; subst hz2)
  exact ⟨v, w, u, rfl, h1, h3⟩
theorem vs4 {vs : List Value} {a b c d : Value} (h : vs.map er = [a, b, c, d]) : ∃ v w u z, vs = [v, w, u, z] ∧ er v = a ∧ er w = b ∧ er u = c ∧ er z = d := by
  (refine obEEAA (List.map_eq_cons_iff.mp h) ?_; intro v r hz2 h1 h2; subst hz2)
  (refine obEEEA (vs3 h2) ?_; intro w u z hz3 h3; subst hz3)
  exact ⟨v, w, u, z, rfl, h1, h3⟩
theorem vs0 {vs : List Value} (h : vs.map er = []) : vs = [] := List.map_eq_nil_iff.mp h


open Builtin Builtin.Str in
theorem gives_count4 (x y : Str) (i j : Int) (t u v w : Tok) : Gives («str.count» ⟨[.str x t, .str y u, .int i v, .int j w], []⟩) (.int (occurrences x y (fromIndex x.length i) (min (fromIndex x.length j) x.length) (x.length + 1)).length) := by
  show Gives (retInt (occurrences x y (fromIndex x.length i) (min (fromIndex x.length j) x.length) (x.length + 1)).length) _
  exact .of_eq rfl
open Builtin Builtin.Str in
theorem gives_rfind4 (x y : Str) (i j : Int) (t u v w : Tok) : Gives («str.rfind» ⟨[.str x t, .str y u, .int i v, .int j w], []⟩) (.int (match lastOccurrence x y (fromIndex x.length i) (min (fromIndex x.length j) x.length) with | some k => (k : Int) | none => -1)) := by
  show Gives (match lastOccurrence x y (fromIndex x.length i) (min (fromIndex x.length j) x.length) with | some k => retInt k | none => (do rule "str.rfind.not-found"; retInt (-1))) _
  cases lastOccurrence x y (fromIndex x.length i) (min (fromIndex x.length j) x.length) with
  | none => exact .rule (.of_eq rfl)
  | some k => exact .of_eq rfl
open Builtin Builtin.Str in
theorem CA_count4 {Q : QV} {x y : Str} {i j : Int} (h : Q (.int ((occurrences x y (fromIndex x.length i) (min (fromIndex x.length j) x.length) (x.length + 1)).length) 0) loc M) : CA X n fz L (.builtin "str.count") [.str x 0, .str y 0, .int i 0, .int j 0] Q loc M := fun vs e A s r F o => by
  (refine obEEEEAAAA (vs4 e) ?_; intro v w u z hz4 e1 e2 e3 e4; subst hz4)
  (refine obE (er_str e1) ?_; intro t hz1; subst hz1)
  (refine obE (er_str e2) ?_; intro u hz1; subst hz1)
  (refine obE (er_int e3) ?_; intro t3 hz1; subst hz1)
  (refine obE (er_int e4) ?_; intro t4 hz1; subst hz1)
  exact call_gives PySem.F.slot_str_count (typeIs_str _ _ _) PySem.F.entry_str_count (PySem.F.args_str_count_4 _ _ _ _) (gives_count4 x y i j t u t3 t4) ⟨loc, M, F, Like.tokn s _ (Nat.le_succ _), h⟩
open Builtin Builtin.Str in
theorem CA_rfind4 {Q : QV} {x y : Str} {i j : Int} (h : Q (.int (lastI (lastOccurrence x y (fromIndex x.length i) (min (fromIndex x.length j) x.length))) 0) loc M) : CA X n fz L (.builtin "str.rfind") [.str x 0, .str y 0, .int i 0, .int j 0] Q loc M := fun vs e A s r F o => by
  (refine obEEEEAAAA (vs4 e) ?_; intro v w u z hz4 e1 e2 e3 e4; subst hz4)
  (refine obE (er_str e1) ?_; intro t hz1; subst hz1)
  (refine obE (er_str e2) ?_; intro u hz1; subst hz1)
  (refine obE (er_int e3) ?_; intro t3 hz1; subst hz1)
  (refine obE (er_int e4) ?_; intro t4 hz1; subst hz1)
  exact call_gives PySem.F.slot_str_rfind (typeIs_str _ _ _) PySem.F.entry_str_rfind (PySem.F.args_str_rfind_4 _ _ _ _) (gives_rfind4 x y i j t u t3 t4) ⟨loc, M, F, Like.tokn s _ (Nat.le_succ _), h⟩

theorem EV_replace {Q : QV} {ob : Expr} {apos pos p1 p2 : Pos} {k1 k2 : Nat} {y z : Str} {pl : Sem Bool} (hyz : (y == z) = false)
    (h : EV X n fz L env ob (fun v l m => ∃ x, v = .str x 0 ∧ x.length + (x.length + 1) * z.length ≤ 16777216 ∧ Q (.str (Txt.replace x y z) 0) l m) loc M)
    (he : eval (.Call (.Attribute ob "replace" apos) [.Constant (.str y) k1 p1, .Constant (.str z) k2 p2] [] pos) env = (do
      let ov ← eval ob env
      standAt apos.atName
      let (f, first) ← holding [ov] (getMethod ov "replace" pl)
      callWith pos f first (backTo pos (starEach [.Constant (.str y) k1 p1, .Constant (.str z) k2 p2] env)) []) := by rfl) :
    EV X n fz L env (.Call (.Attribute ob "replace" apos) [.Constant (.str y) k1 p1, .Constant (.str z) k2 p2] [] pos) Q loc M := fun A s r F o => by
  refine MethodCall_ (wpAny_mono (h A s r F o) (fun v s₁ hq => ?_) (fun _ _ e => e)) he
  (refine obEEAAEAA (hq) ?_; intro l' M' f' k' x e hl q)
  (refine obE (er_str e) ?_; intro t hz1; subst hz1)
  refine PySem.GM.replace ?_
  refine callWith_method1 (e := .Constant (.str y) k1 p1) (rest := [.Constant (.str z) k2 p2]) ?_
  refine wpAny_items_cons (wpAny_Constant_str (wpAny_items_cons (wpAny_Constant_str (wpAny_items_nil ?_))))
  refine wpAny_with_toks (n := s₁.toks + 1 + 1) (Nat.le_refl _) ?_
  have o1 := k'.one o
  exact SC.replace (Nat.ne_of_gt o1) (Nat.succ_ne_zero _) (Nat.ne_of_lt (Nat.lt_succ_self _)) hyz hl fun t' k hk => ⟨l', M', f', k'.trans (Like.mk' s₁ _ _ (Nat.le_trans (Nat.le_succ_of_le (Nat.le_succ _)) hk)), q⟩

noncomputable def strsV (ts : List (List Nat)) : List Value := ts.map fun l => .str (mkS l) 0
theorem strsOf {vs : List Value} {ts : List (List Nat)} (h : vs.map er = strsV ts) : ∃ l : List (Str × Tok), vs = strValues l ∧ l.map (·.1) = ts.map mkS := by
  induction vs generalizing ts with
  | nil =>
    cases ts with
    | nil => exact ⟨[], rfl, rfl⟩
    | cons _ _ => cases h
  | cons v r ih =>
    cases ts with
    | nil => cases h
    | cons t ts =>
      simp only [List.map_cons, strsV, List.cons.injEq] at h
      (refine obEA (ih h.2) ?_; intro l hz1 e; subst hz1)
      (refine obE (er_str h.1) ?_; intro u hz1; subst hz1)
      exact ⟨(mkS t, u) :: l, rfl, by simp [e]⟩

theorem join_mkS (s : List Nat) : ∀ ts : List (List Nat), Txt.join (mkS s) (ts.map mkS) = mkS (s.intercalate ts) := by
  intro ts
  show Builtin.Str.glued (mkS s) (ts.map mkS) = _
  rw [StrLaws.glued_eq_join]
  induction ts with
  | nil => rfl
  | cons a r ih =>
    cases r with
    | nil => simp [Str.join, List.intercalate]
    | cons b r =>
      show mkS a ++ mkS s ++ Str.join (mkS s) ((b :: r).map mkS) = _
      rw [ih, mkS_append, mkS_append]
      simp [List.intercalate, List.intersperse]

theorem CA_join {Q : QV} {sep : List Nat} {ts : List (List Nat)} (hm : RdM X M a (.lst (strsV ts))) (hok : JoinOk (mkS sep) (ts.map mkS) = true) (h : Q (.str (mkS (sep.intercalate ts)) 0) loc M) :
    CA X n fz L (.builtin "str.join") [.str (mkS sep) 0, .ref a] Q loc M := fun vs e A s r F o => by
  (refine obEEAA (vs2 e) ?_; intro v w hz2 e1 e2; subst hz2)
  (refine obE (er_str e1) ?_; intro t hz1; subst hz1)
  rw [er_ref e2]
  (refine obEA (hm.get F) ?_; intro vs h1 h2)
  (refine obEA (strsOf h2) ?_; intro l e hl)
  have h1' : s.heap.IsList a (strValues l).toArray := by rw [← e]; exact h1
  refine wpAny_with_toks (Nat.le_refl s.toks) ?_
  exact SC.join h1' hl hok fun t' k hk => ⟨loc, M, F, Like.tokn s _ hk, by rw [join_mkS]; exact h⟩

theorem new_list {loc' : Loc} {M' : Mem} {hh : Heap} {vs : List Value} (F : FV X fz L loc' M' hh) : FV X fz L loc' (setM M' hh.objs.size (.lst (vs.map er))) (hh.push { cls := .type "list", data := .seq vs.toArray }) :=
  F.new1 (Ext.push _ _) rfl fun own _ => ⟨vs.toArray, ⟨_, Heap.get?_push_size _ rfl⟩, by simp⟩
theorem new_tup {loc' : Loc} {M' : Mem} {hh : Heap} {vs : List Value} (F : FV X fz L loc' M' hh) : FV X fz L loc' (setM M' hh.objs.size (.tup (vs.map er))) (hh.push { cls := .type "tuple", data := .seq vs.toArray }) :=
  F.new1 (Ext.push _ _) rfl fun own _ => ⟨vs.toArray, ⟨_, Heap.get?_push_size _ rfl, rfl, _, rfl⟩, by simp⟩


end
end Mine
end
section
set_option linter.unusedVariables false
set_option maxRecDepth 100000
namespace Mine
open PySem PySem.W PySem.Calls PyProof.Rows

section
variable {X : Cx} {n : Nat} {fz : Frz} {L : Addr} {loc : Loc} {M : Mem} {env : Env} {a b : Addr}

theorem EV_list {Q : QV} {es : List Expr} {pos : Pos} (h : AR X n fz L env es (fun vs l m => vs.length ≤ 16777216 ∧ ∀ D, m D = none → Q (.ref D) l (setM m D (.lst vs))) loc M)
    (hs : es.any isStarred = false := by rfl) : EV X n fz L env (.List es pos) Q loc M := fun A s r F o =>
  wpAny_List (wpAny_mono (AR_spliced (pos := pos) hs h A s r F o) (fun vs s₁ ⟨l', M', f', k', hl, q⟩ =>
    ⟨by rw [sizeLine_eq]; simpa using hl, l', _, new_list f', k'.trans (Like.heap s₁ _), q _ f'.fresh⟩) (fun _ _ e => e))
theorem EV_tuple {Q : QV} {es : List Expr} {k : Nat} {pos : Pos} (h : AR X n fz L env es (fun vs l m => vs.length ≤ 16777216 ∧ ∀ D, m D = none → Q (.ref D) l (setM m D (.tup vs))) loc M)
    (hs : es.any isStarred = false := by rfl) : EV X n fz L env (.Tuple es k pos) Q loc M := fun A s r F o =>
  wpAny_Tuple (wpAny_mono (AR_spliced (pos := pos) hs h A s r F o) (fun vs s₁ ⟨l', M', f', k', hl, q⟩ =>
    ⟨by rw [sizeLine_eq]; simpa using hl, l', _, new_tup f', k'.trans (Like.heap s₁ _), q _ f'.fresh⟩) (fun _ _ e => e))

noncomputable abbrev KE := Str × Nat × Pos × Expr
noncomputable def DP (X : Cx) (n : Nat) (fz : Frz) (L : Addr) (env : Env) : List KE → (List (Str × Value) → Loc → Mem → Prop) → Loc → Mem → Prop
  | [], Q => Q []
  | t :: r, Q => EV X n fz L env t.2.2.2 (fun v => DP X n fz L env r (fun vs => Q ((t.1, v) :: vs)))
noncomputable def kexpr (t : KE) : Option Expr := some (.Constant (.str t.1) t.2.1 t.2.2.1)
noncomputable def pairOf (pos : Pos) (env : Env) (t : KE) : Sem Value × Sem Value := (eval (.Constant (.str t.1) t.2.1 t.2.2.1) env, do let x ← eval t.2.2.2 env; standAt pos; pure x)
theorem pairs_zip (pos : Pos) (env : Env) : ∀ kes : List KE, (evalEachOpt (kes.map kexpr) env).zip ((evalEach (kes.map (·.2.2.2)) env).map fun v => do let x ← v; standAt pos; pure x) = (kes.map (pairOf pos env)).map (fun p => (some p.1, p.2))
  | [] => rfl
  | t :: r => by
    show (_ :: evalEachOpt (r.map kexpr) env).zip (_ :: (evalEach (r.map (·.2.2.2)) env).map _) = _
    rw [List.zip_cons_cons, pairs_zip pos env r]
    rfl
theorem DP_pairs {pos : Pos} : ∀ {kes : List KE} {Q : List (Str × Value) → Loc → Mem → Prop} {loc : Loc} {M : Mem}, DP X n fz L env kes Q loc M →
    WT X n fz L (evalPairs (kes.map (pairOf pos env))) (fun vs l m => ∃ kvs : List (Str × Value), kvs.map (·.1) = kes.map (·.1) ∧ Carries (strKind X.prog X.w) vs kvs ∧ Q (kvs.map fun p => (p.1, er p.2)) l m) loc M
  | [], Q, loc, M, h => fun A s r F o => wpAny_pure ⟨loc, M, F, Like.refl s, [], rfl, trivial, h⟩
  | (x, kk, pp, e) :: kes, Q, loc, M, h => fun A s r F o => by
    show wpAny _ _ (do
      let kv ← eval (.Constant (.str x) kk pp) env
      let vv ← holding [kv] (do let x ← eval e env; standAt pos; pure x)
      return (kv, vv) :: (← holding [kv, vv] (evalPairs (kes.map (pairOf pos env))))) _ _ _
    refine wpAny_bind (wpAny_Constant_str (wpAny_bind (wpAny_holding (wpAny_bind ?_))))
    refine wpAny_mono (WT.use h r F (Like.tokn s _ (Nat.le_succ _)) o) (fun v s₁ hq => ?_) (fun _ _ e => e)
    (refine obEEAA (hq) ?_; intro l₁ M₁ F₁ k₁ q)
    refine wpAny_bind (wpAny_standAt (wpAny_pure (wpAny_bind (wpAny_holding ?_))))
    refine wpAny_mono (WT.use (DP_pairs (pos := pos) q) r F₁ k₁ o) (fun vs s₂ hq => ?_) (fun _ _ e => e)
    (refine obEEAAEAA (hq) ?_; intro l₂ M₂ F₂ k₂ kvs hk hc q)
    exact wpAny_pure ⟨l₂, M₂, F₂, k₂, (x, v) :: kvs, by simp [hk], ⟨strKind_is X.prog X.w x _, rfl, hc⟩, q⟩

theorem stored_new {K : Type} [DecidableEq K] (acc : List (K × Value)) (k : K) (v : Value) (h : k ∉ acc.map (·.1)) : stored acc k v = acc ++ [(k, v)] := by
  unfold stored
  have : acc.any (fun kv => decide (kv.1 = k)) = false := by
    rw [List.any_eq_false]
    intro p hp
    simp only [decide_eq_true_eq]
    intro e
    exact h (e ▸ List.mem_map_of_mem hp)
  rw [this]; rfl
theorem merged_nodup {K : Type} [DecidableEq K] : ∀ (more acc : List (K × Value)), ((acc ++ more).map (·.1)).Nodup → merged acc more = acc ++ more
  | [], acc, _ => by simp [merged]
  | (k, v) :: r, acc, h => by
    have hk : k ∉ acc.map (·.1) := by
      rw [List.map_append, List.nodup_append] at h
      intro hm
      exact h.2.2 k hm k (by simp) rfl
    show merged (stored acc k v) r = _
    rw [stored_new acc k v hk, merged_nodup r (acc ++ [(k, v)]) (by simpa using h)]
    simp

theorem dictOf_empty {hh : Heap} : (hh.push { cls := .type "dict", data := .dict #[] }).DictOf (strKind X.prog X.w) hh.objs.size [] :=
  ⟨_, #[], 0, Heap.get?_push_size _ rfl, ⟨rfl, rfl, rfl⟩, rfl, (fun e he => by simp at he), .nil, List.nodup_nil⟩

theorem EV_dictK {Q : QV} {kes : List KE} {pos : Pos} (h0 : kes ≠ []) (hlen : kes.length ≤ 15) (hnd : (kes.map (·.1)).Nodup)
    (h : ∀ D, M D = none → DP X n fz L env kes (fun es l m => m D = some (.dct []) ∧ Q (.ref D) l (setM m D (.dct es))) loc (setM M D (.dct []))) :
    EV X n fz L env (.Dict (kes.map kexpr) (kes.map (·.2.2.2)) pos) Q loc M := fun A s r F o => by
  have F0 : FV X fz L loc (setM M s.heap.objs.size (.dct [])) (s.heap.push { cls := .type "dict", data := .dict #[] }) :=
    F.new1 (Ext.push _ _) rfl fun own _ => ⟨[], dictOf_empty, F.size3, rfl⟩
  refine wpAny_Dict_pairs (knd := strKind X.prog X.w) (pairs_zip pos env kes) (by simpa using h0) (by simpa using hlen) ?_
  refine wpAny_mono (WT.use (DP_pairs (pos := pos) (h _ F.fresh)) r F0 (Like.heap s _) o) (fun vs s₁ hq => ?_) (fun _ _ e => e)
  (refine obEEAAEAAA (hq) ?_; intro l₁ M₁ F₁ k₁ kvs hk hc hD q)
  (refine obE (id F₁) ?_; intro own I)
  (refine obAEAA (I.inv.rep _ _ hD) ?_; intro hown kv0 hd0 h3 hm0)
  have : kv0 = [] := by simpa using hm0
  subst this
  refine ⟨kvs, hc, hd0, fun h' hd' hs => ?_⟩
  have := merged_nodup kvs [] (by simpa [hk] using hnd)
  rw [this] at hd'
  have hr : ORep X own h' s.heap.objs.size (.dct (kvs.map fun p => (p.1, er p.2))) := ⟨kvs, hd', h3, rfl⟩
  exact ⟨l₁, _, ⟨own, FV.change I hown hs.2 hr hown⟩, k₁.trans (Like.mk' s₁ _ _ (Nat.le_add_right _ _)), q⟩

theorem EV_dict2 {Q : QV} {x1 x2 : Str} {k1 k2 : Nat} {p1 p2 : Pos} {e1 e2 : Expr} {pos : Pos}
    (h : ∀ D, M D = none → EV X n fz L env e1 (fun v1 => EV X n fz L env e2 (fun v2 l m => m D = some (.dct []) ∧ Q (.ref D) l (setM m D (.dct [(x1, v1), (x2, v2)])))) loc (setM M D (.dct [])))
    (hnd : [x1, x2].Nodup := by decide +kernel) :
    EV X n fz L env (.Dict [some (.Constant (.str x1) k1 p1), some (.Constant (.str x2) k2 p2)] [e1, e2] pos) Q loc M :=
  EV_dictK (kes := [(x1, k1, p1, e1), (x2, k2, p2, e2)]) (by simp) (by simp) hnd h

theorem GM_append {Q : Value → List Value → Loc → Mem → Prop} {xs : List Value} (hm : M a = some (.lst xs)) (h : Q (.builtin "list.append") [.ref a] loc M) : GM X n fz L "append" (.ref a) Q loc M := fun vo pl e A s r F o => by
  rw [er_ref e]
  (refine obE (id F) ?_; intro own I)
  (refine obAEA (I.inv.rep a _ hm) ?_; intro _ vs hz2 h2; refine dn fun hG0 => ?_; obtain ⟨nn, h1⟩ := hz2; refine hG0 ?_; clear hG0)
  have q : (fun p l m => Q (er p.1) (p.2.map er) l m : Value × List Value → Loc → Mem → Prop) (.builtin "list.append", [.ref a]) loc M := h
  exact getMethod_builtin (T := "list") ⟨_, h1, rfl⟩ PySem.F.plainAttrs_list PySem.F.slot_list_append PySem.F.type_list_append (fun a' e' => by cases e'; exact ⟨_, h1, rfl⟩) ⟨loc, M, F, Like.refl s, q⟩
theorem CA_append {Q : QV} {xs : List Value} {v : Value} (hm : M a = some (.lst xs)) (hl : xs.length ≤ 16777216) (h : Q .none loc (setM M a (.lst (xs ++ [v])))) : CA X n fz L (.builtin "list.append") [.ref a, v] Q loc M := fun vs e A s r F o => by
  (refine obEEAA (vs2 e) ?_; intro v1 v2 hz2 e1 e2; subst hz2)
  rw [er_ref e1]
  (refine obE (id F) ?_; intro own I)
  (refine obAEA (I.inv.rep a _ hm) ?_; intro hown us h1 h2)
  have hsz : us.size = xs.length := by rw [← h2, List.length_map, Array.length_toList]
  refine wpAny_list_append_plain h1 (fun h' hp hs => ?_) (by rw [hsz, sizeLine_eq]; exact hl)
  have hr : ORep X own h' a (.lst (xs ++ [v])) := ⟨us.push v2, hp, by simp [h2, e2]⟩
  exact ⟨loc, _, ⟨own, FV.change I hown hs.2 hr hown⟩, Like.heap s h', h⟩

theorem CA_len_str {Q : QV} {l : List Nat} (hl : l.length ≤ 16777216) (h : Q (.int l.length 0) loc M) : CA X n fz L (.builtin "len") [.str (mkS l) 0] Q loc M := fun vs e A s r F o => by
  (refine obEA (vs1 e) ?_; intro v hz1 e1; subst hz1)
  (refine obE (er_str e1) ?_; intro t hz1; subst hz1)
  exact P.len_str (by rw [mkS_length]; (lia)) ⟨loc, M, F, Like.tokn s _ (Nat.le_succ_of_le (Nat.le_succ _)), by show Q (.int (mkS l).length 0) loc M; rw [mkS_length]; exact h⟩
theorem CA_ord {Q : QV} {c : Nat} (h : Q (.int c 0) loc M) : CA X n fz L (.builtin "ord") [.str (mkS [c]) 0] Q loc M := fun vs e A s r F o => by
  (refine obEA (vs1 e) ?_; intro v hz1 e1; subst hz1)
  (refine obE (er_str e1) ?_; intro t hz1; subst hz1)
  exact P.ord_of_char ⟨loc, M, F, Like.tokn s _ (Nat.le_succ _), h⟩


theorem strs_mem {vs : List Value} {ts : List (List Nat)} (h : vs.map er = strsV ts) {y : Value} (hy : y ∈ vs) : ∃ l t, y = .str (mkS l) t := by
  have : er y ∈ strsV ts := h ▸ List.mem_map_of_mem hy
  (refine obEA (List.mem_map.mp this) ?_; intro l _ e)
  (refine obE (er_str e.symm) ?_; intro t hz1; subst hz1)
  exact ⟨l, t, rfl⟩
noncomputable def strEq (x : List Nat) (v : Value) : Bool := match v with | .str y _ => decide (y = mkS x) | _ => false
theorem any_strs {vs : List Value} {ts : List (List Nat)} (h : vs.map er = strsV ts) (x : List Nat) : vs.any (strEq x) = decide (x ∈ ts) := by
  induction vs generalizing ts with
  | nil =>
    cases ts with
    | nil => rfl
    | cons _ _ => cases h
  | cons v r ih =>
    cases ts with
    | nil => cases h
    | cons t ts =>
      simp only [List.map_cons, strsV, List.cons.injEq] at h
      (refine obE (er_str h.1) ?_; intro u hz1; subst hz1)
      rw [List.any_cons, ih h.2]
      show (decide (mkS t = mkS x) || _) = _
      by_cases q : x = t
      · subst q; simp
      · have : ¬ mkS t = mkS x := fun e => q (mkS_inj e).symm
        simp [q, this]
theorem O2_in_tup {Q : QV} {x : List Nat} {ts : List (List Nat)} (hm : RdM X M b (.tup (strsV ts))) (h : Q (.bool (decide (x ∈ ts))) loc M) : O2 X n fz L (compareOp .In) (.str (mkS x) 0) (.ref b) Q loc M := fun va vb e1 e2 A s r F o => by
  (refine obE (er_str e1) ?_; intro t hz1; subst hz1)
  rw [er_ref e2]
  (refine obEA (hm.get F) ?_; intro us hz1 h2; refine dn fun hG0 => ?_; obtain ⟨ob, ho, hc, nn, hd⟩ := hz1; refine hG0 ?_; clear hG0)
  refine SeqAt.in_tupleAt (strEq x) ⟨ob, ho, hc, nn, hd⟩ (fun y hy => ?_) ⟨loc, M, F, Like.refl s, ?_⟩
  · (refine obEE (strs_mem h2 (by simpa using hy)) ?_; intro l u hz2; subst hz2)
    have := SeqAt.EqAt.str_str (A := A.in1) (s := s) (mkS l) u (mkS x) t
    have e : (mkS l == mkS x) = strEq x (.str (mkS l) u) := by
      show _ = decide (mkS l = mkS x)
      by_cases q : mkS l = mkS x <;> simp [q]
    rw [← e]; exact this
  · have : us.any (strEq x) = decide (x ∈ ts) := by rw [← any_strs h2 x, Array.any_toList]
    show Q (.bool (us.any (strEq x))) loc M
    rw [this]; exact h
end
end Mine
end
section
set_option linter.unusedVariables false
set_option maxRecDepth 100000
namespace Mine
open PySem PySem.W PySem.Calls PyProof.Rows

noncomputable def loopQ (Q : QF) (next : Loc → Mem → Prop) : QF := fun f l m => match f with
  | .next | .cont => next l m
  | .brk => Q .next l m
  | .ret v => Q (.ret v) l m

section
variable {X : Cx} {n : Nat} {fz : Frz} {L : Addr} {loc : Loc} {M : Mem} {env : Env} {a b : Addr}

theorem E1_While {Q : QF} {test : Expr} {body : List Stmt} {pos : Pos} (I : Nat → Loc → Mem → Prop) (k : Nat) (h0 : I k loc M)
    (h : ∀ k l m, I k l m → TV X n fz L env test (fun b l m => (b = true → EX X n fz L env body (loopQ Q fun l m => ∃ k', k' < k ∧ I k' l m) l m) ∧ (b = false → Q .next l m)) l m) :
    E1 X n fz L env (.While test body [] pos) Q loc M := fun A s r F o => by
  refine wpAny_While (codeAny_whileLoop (fun k s' => ∃ l m, FV X fz L l m s'.heap ∧ Like s s' ∧ I k l m) (fun k s₁ hI => ?_) k ⟨loc, M, F, Like.refl s, h0⟩)
  (refine obEEAA (hI) ?_; intro l₁ M₁ F₁ k₁ hI)
  refine wpAny_mono (WT.use (h k l₁ M₁ hI _ rfl) r F₁ k₁ o) (fun b s₂ hq => ?_) (fun _ _ e => e.elim)
  (refine obEEAA (hq) ?_; intro l₂ M₂ F₂ k₂ q)
  cases b with
  | false => exact wpAny_execs_nil ⟨l₂, M₂, F₂, k₂, q.2 rfl⟩
  | true =>
    refine wpAny_mono (WT.use (q.1 rfl) r F₂ k₂ o) (fun f s₃ hq => ?_) (fun _ _ e => e.elim)
    (refine obEEAA (hq) ?_; intro l₃ M₃ F₃ k₃ q)
    cases f with
    | next => obtain ⟨k', hk, q⟩ := q; exact ⟨k', hk, l₃, M₃, F₃, k₃, q⟩
    | cont => obtain ⟨k', hk, q⟩ := q; exact ⟨k', hk, l₃, M₃, F₃, k₃, q⟩
    | brk => exact ⟨l₃, M₃, F₃, k₃, q⟩
    | ret v => exact ⟨l₃, M₃, F₃, k₃, q⟩

noncomputable def frzL (fz : Frz) (ips : List Addr) (h : Heap) : Frz := fun b => if b ∈ ips then h.get? b else fz b
noncomputable def Off (X : Cx) (fz : Frz) (ips : List Addr) : Prop := ∀ b ∈ ips, fz b = none ∧ X.T.get? b = none

theorem FV.mv {ips : List Addr} {h h' : Heap} (F : FV X (frzL fz ips h) L loc M h) (off : Off X fz ips) (k : ∀ b o, b ∉ ips → h.get? b = some o → h'.get? b = some o)
    (live : ∀ b ∈ ips, ∃ o, h.get? b = some o) : FV X (frzL fz ips h') L loc M h' := by
  (refine dn fun hG0 => ?_; obtain ⟨own, ⟨i1, i2, i3⟩, a1, a2, m, hm, he⟩ := F; refine hG0 ?_; clear hG0)
  have own0 : ∀ b ∈ ips, own b = none := fun b hb => by
    (refine obE (live b hb) ?_; intro o ho)
    exact (i2 b o ((if_pos hb).trans ho)).2
  have hL : L ∉ ips := fun hb => by
    (refine obE (live L hb) ?_; intro o ho)
    rw [show frzL fz ips h L = h.get? L from if_pos hb, ho] at a2; cases a2
  have own1 : ∀ d y, own d = some y → d ∉ ips := fun d y e hd => by rw [own0 d hd] at e; cases e
  refine ⟨own, ⟨fun c x e => ?_, fun c x e => ?_, fun c x e => ?_⟩, a1, ?_, m, ?_, he⟩
  · have hc : c ∉ ips := fun hc => by rw [(off c hc).2] at e; cases e
    have := i1 c x e
    rw [show frzL fz ips h c = fz c from if_neg hc] at this
    exact (if_neg hc).trans this
  · by_cases hc : c ∈ ips
    · exact ⟨(if_pos hc : frzL fz ips h' c = _).symm.trans e, own0 c hc⟩
    · have e' : frzL fz ips h c = some x := (if_neg hc).trans ((if_neg hc : frzL fz ips h' c = _).symm.trans e)
      exact ⟨k _ _ hc (i2 c x e').1, (i2 c x e').2⟩
  · have q := i3 c x e
    exact ⟨q.1, q.2.mono (fun d y hd od => k d y (own1 d _ od) hd) (fun _ _ _ q => q) q.1⟩
  · rw [show frzL fz ips h L = fz L from if_neg hL] at a2
    exact (if_neg hL).trans a2
  · exact hm.at' fun o e => k L o hL e
theorem FV.thaw {ips : List Addr} {h : Heap} (F : FV X (frzL fz ips h) L loc M h) (off : Off X fz ips) : FV X fz L loc M h := by
  (refine dn fun hG0 => ?_; obtain ⟨own, ⟨i1, i2, i3⟩, a1, a2, r⟩ := F; refine hG0 ?_; clear hG0)
  have sub : ∀ c x, fz c = some x → frzL fz ips h c = some x := fun c x e => by
    have hc : c ∉ ips := fun hc => by rw [(off c hc).1] at e; cases e
    exact (if_neg hc).trans e
  refine ⟨own, ⟨fun c x e => ?_, fun c x e => i2 c x (sub c x e), i3⟩, a1, ?_, r⟩
  · have hc : c ∉ ips := fun hc => by rw [(off c hc).2] at e; cases e
    exact (if_neg hc : frzL fz ips h c = _).symm.trans (i1 c x e)
  · cases q : fz L with
    | none => rfl
    | some x => rw [sub _ _ q] at a2; cases a2
theorem FV.setApart {ips : List Addr} {h h' : Heap} (F : FV X fz L loc M h) (k : Ext h h') (new : ∀ b ∈ ips, h.get? b = none) : FV X (frzL fz ips h') L loc M h' ∧ Off X fz ips := by
  (refine dn fun hG0 => ?_; obtain ⟨own, ⟨i1, i2, i3⟩, a1, a2, m, hm, he⟩ := F; refine hG0 ?_; clear hG0)
  have hoff : Off X fz ips := fun b hb => by
    constructor
    · cases q : fz b with
      | none => rfl
      | some x => exact absurd (i2 b x q).1 (by rw [new b hb]; exact fun e => by cases e)
    · cases q : X.T.get? b with
      | none => rfl
      | some x => exact absurd (i2 b x (i1 b x q)).1 (by rw [new b hb]; exact fun e => by cases e)
  have hL : L ∉ ips := fun hb => by
    (refine obEEEA (hm) ?_; intro o es ep ho _)
    rw [new L hb] at ho; cases ho
  let own' : Addr → Option Addr := fun b => if b ∈ ips then none else own b
  have oo : ∀ b x, h.get? b = some x → own' b = own b := fun b x e => if_neg fun hb => by rw [new b hb] at e; cases e
  refine ⟨⟨own', ⟨fun c x e => ?_, fun c x e => ?_, fun c x e => ?_⟩, (if_neg hL).trans a1, (if_neg hL).trans a2, m, hm.keeps k, he⟩, hoff⟩
  · have hc : c ∉ ips := fun hc => by rw [(hoff c hc).2] at e; cases e
    exact (if_neg hc).trans (i1 c x e)
  · by_cases hc : c ∈ ips
    · exact ⟨(if_pos hc : frzL fz ips h' c = _).symm.trans e, if_pos hc⟩
    · have e' : fz c = some x := (if_neg hc : frzL fz ips h' c = _).symm.trans e
      exact ⟨k _ _ (i2 c x e').1, (if_neg hc).trans (i2 c x e').2⟩
  · have q := i3 c x e
    refine ⟨(if_neg fun hb => ?_).trans q.1, q.2.mono (fun _ _ hd _ => k _ _ hd) (fun d y hd od => (oo d y hd).trans od) q.1⟩
    have := q.2.lt
    have h0 := new c hb
    cases x with
    | inst C kk f => obtain ⟨dx, es, n, h1, _⟩ := q.2; rw [h0] at h1; cases h1
    | dct l => obtain ⟨kvs, ⟨o, es, ep, ho, _⟩, _⟩ := q.2; rw [h0] at ho; cases ho
    | lst xs => obtain ⟨vs, ⟨o, ho⟩, _⟩ := q.2; rw [h0] at ho; cases ho
    | tup xs => obtain ⟨vs, ⟨o, ho, _⟩, _⟩ := q.2; rw [h0] at ho; cases ho
    | obj o => have ho : h.get? c = some o := q.2; rw [h0] at ho; cases ho

structure Itr (X : Cx) (n : Nat) (I : Addr) (ips : List Addr) (tgt : Expr) (tOk : Env → Prop) (upd : Nat → Loc → Loc) (len : Nat) (St : Nat → Heap → Prop) (G : Mem → Prop) : Prop where
  live : ∀ i h, St i h → ∀ b ∈ ips, ∃ o, h.get? b = some o
  only : ∀ i h h', St i h → (∀ b ∈ ips, ∀ o, h.get? b = some o → h'.get? b = some o) → St i h'
  item : ∀ i A (s : Shared) env L fz loc M, Room A n → tOk env → env.locals = L → env.scope.kind = .function → Off X fz ips → FV X (frzL fz ips s.heap) L loc M s.heap → G M → St i s.heap → i < len →
    wpAny (model X.prog X.w) A (pyNext (.ref I)) (fun r s₁ => ∃ v, r = some v ∧ wpAny (model X.prog X.w) A (letOwnedTupleGo tgt (.ref I) v) (fun _ s₂ => wpAny (model X.prog X.w) A (assign tgt env v)
      (fun _ s₃ => FV X (frzL fz ips s₃.heap) L (upd i loc) M s₃.heap ∧ St (i + 1) s₃.heap ∧ Like s s₃) (fun _ _ => False) s₂) (fun _ _ => False) s₁) (fun _ _ => False) s
  done : ∀ A (s : Shared) L fz loc M, Room A n → Off X fz ips → FV X (frzL fz ips s.heap) L loc M s.heap → G M → St len s.heap →
    wpAny (model X.prog X.w) A (pyNext (.ref I)) (fun r s₁ => r = none ∧ FV X fz L loc M s₁.heap ∧ Like s s₁) (fun _ _ => False) s
  self : ∀ i A (s : Shared) (Q : Value → Shared → Prop) (E : Value → Shared → Prop), St i s.heap → Q (.ref I) s → wpAny (model X.prog X.w) A (pyIter (.ref I)) Q E s

theorem Itr.stay {I : Addr} {ips : List Addr} {tgt : Expr} {tOk : Env → Prop} {upd : Nat → Loc → Loc} {len : Nat} {St : Nat → Heap → Prop} {G : Mem → Prop} (hI : Itr X n I ips tgt tOk upd len St G) {i : Nat} {h h' : Heap} {l : Loc} {m : Mem} {C : Addr}
    (F : FV X (frzL fz ips h) C l m h') (st : St i h) : FV X (frzL fz ips h') C l m h' ∧ St i h' := by
  have lv := hI.live _ _ st
  (refine obE (id F) ?_; intro own I4)
  have same : frzL fz ips h' = frzL fz ips h := by
    funext b
    unfold frzL
    split
    · rename_i hb
      (refine obE (lv b hb) ?_; intro x hx)
      rw [hx, (I4.inv.fz b x ((if_pos hb).trans hx)).1]
    · rfl
  exact ⟨by rw [same]; exact F, hI.only _ _ _ st fun b hb o ho => (I4.inv.fz b o ((if_pos hb).trans ho)).1⟩

noncomputable abbrev QI := (Env → Prop) → Nat → (Nat → Loc → Loc) → (Mem → Prop) → Loc → Mem → Prop
noncomputable def IE (X : Cx) (n : Nat) (fz : Frz) (L : Addr) (env : Env) (iter tgt : Expr) (Q : QI) (loc : Loc) (M : Mem) : Prop :=
  ∀ A s (R : Value → Shared → Prop), Room A n → FV X fz L loc M s.heap → 1 ≤ s.toks →
    (∀ I ips St tOk len upd G l m s', Itr X n I ips tgt tOk upd len St G → Off X fz ips → FV X (frzL fz ips s'.heap) L l m s'.heap → St 0 s'.heap → Like s s' → Q tOk len upd G l m → R (.ref I) s') →
    wpAny (model X.prog X.w) A (eval iter env) (fun v s₁ => wpAny (model X.prog X.w) A (pyIter v) R (fun _ _ => False) s₁) (fun _ _ => False) s

theorem E1_For {Q : QF} {tgt iter : Expr} {body : List Stmt} {pos : Pos} (hE : Fun env L)
    (h : IE X n fz L env iter tgt (fun tOk len upd G l m => tOk env ∧ ∃ Inv : Nat → Loc → Mem → Prop, Inv 0 l m ∧
      (∀ i l m, i < len → Inv i l m → G m ∧ ∀ fz, EX X n fz L env body (loopQ Q (Inv (i + 1))) (upd i l) m) ∧ (∀ l m, Inv len l m → G m ∧ Q .next l m)) loc M)
    (hs : ∀ x, foldedSetIterable iter env x = pure x := by intro _; rfl) :
    E1 X n fz L env (.For tgt iter body [] pos) Q loc M := fun A s r F o => by
  refine wpAny_For (h A s _ r F o fun I ips St tOk len upd G l m s₁ hI off F₁ st₁ k₁ hq => ?_) hs
  (refine obAEAA (hq) ?_; intro ht Inv i0 turn fin)
  refine codeAny_forLoop_any (fun k s' => ∃ i l m, k = len - i ∧ i ≤ len ∧ FV X (frzL fz ips s'.heap) L l m s'.heap ∧ St i s'.heap ∧ Like s s' ∧ Inv i l m) (fun k s₂ hJ => ?_) len
    ⟨0, l, m, rfl, Nat.zero_le _, F₁, st₁, k₁, i0⟩
  (refine obEEEAAAAA (hJ) ?_; intro i l₂ M₂ hz3 hi F₂ st₂ k₂ inv₂; subst hz3)
  by_cases hlt : i < len
  · (refine obA (turn i l₂ M₂ hlt inv₂) ?_; intro g tr)
    refine wpAny_mono (hI.item i A s₂ env L fz l₂ M₂ r ht hE.loc hE.kind off F₂ g st₂ hlt) (fun r' s₃ hr => ?_) (fun _ _ e => e.elim)
    (refine obEA (hr) ?_; intro v hz1 w; subst hz1)
    refine wpAny_mono w (fun _ s₄ w => wpAny_mono w (fun _ s₃ w => ?_) (fun _ _ e => e.elim)) (fun _ _ e => e.elim)
    (refine obAA (w) ?_; intro F₃ st₃ k₃)
    refine wpAny_mono (WT.use (tr _) r F₃ (k₂.trans k₃) o) (fun f s₄ hq => ?_) (fun _ _ e => e.elim)
    (refine obEEAA (hq) ?_; intro l₄ M₄ F₄ k₄ q)
    (refine obA (hI.stay F₄ st₃) ?_; intro F₄' st₄)
    have again : Inv (i + 1) l₄ M₄ → ∃ m, m < len - i ∧ ∃ i l m', m = len - i ∧ i ≤ len ∧ FV X (frzL fz ips s₄.heap) L l m' s₄.heap ∧ St i s₄.heap ∧ Like s s₄ ∧ Inv i l m' := fun q =>
      ⟨len - (i + 1), by (clear q st₄ F₄' k₄ F₄ hq k₃ st₃ F₃ w tr g inv₂ k₂ st₂ F₂ fin turn i0 ht k₁ st₁ F₁ off hI o F r hs h hE; omega), i + 1, l₄, M₄, rfl, hlt, F₄', st₄, k₄, q⟩
    cases f with
    | next => exact again q
    | cont => exact again q
    | brk => exact ⟨l₄, M₄, F₄'.thaw off, k₄, q⟩
    | ret v => exact ⟨l₄, M₄, F₄'.thaw off, k₄, q⟩
  · have : i = len := by (lia)
    subst this
    (refine obA (fin _ _ inv₂) ?_; intro g q)
    refine wpAny_mono (hI.done A s₂ L fz l₂ M₂ r off F₂ g st₂) (fun r' s₃ hr => ?_) (fun _ _ e => e.elim)
    (refine obAA (hr) ?_; intro hz0 F₃ k₃; subst hz0)
    exact wpAny_execs_nil ⟨l₂, M₂, F₃, k₂.trans k₃, q⟩
end
end Mine
end
section
set_option linter.unusedVariables false
set_option maxRecDepth 100000
namespace Mine
open PySem PySem.W PySem.Calls PyProof.Rows

section
variable {X : Cx} {n : Nat} {fz : Frz} {L : Addr} {loc : Loc} {M : Mem} {env : Env} {a b : Addr}



theorem FV.stayL {ips : List Addr} {h h' : Heap} (F : FV X (frzL fz ips h) L loc M h') (lv : ∀ b ∈ ips, ∃ o, h.get? b = some o) :
    FV X (frzL fz ips h') L loc M h' ∧ ∀ b ∈ ips, ∀ o, h.get? b = some o → h'.get? b = some o := by
  (refine obE (id F) ?_; intro own I4)
  have same : frzL fz ips h' = frzL fz ips h := by
    funext b
    unfold frzL
    split
    · rename_i hb
      (refine obE (lv b hb) ?_; intro x hx)
      rw [hx, (I4.inv.fz b x ((if_pos hb).trans hx)).1]
    · rfl
  exact ⟨by rw [same]; exact F, fun b hb o ho => (I4.inv.fz b o ((if_pos hb).trans ho)).1⟩
theorem asgName {ips : List Addr} {A : Around} {s : Shared} {x : Str} {p : Pos} {v : Value} (F : FV X (frzL fz ips s.heap) L loc M s.heap) (lv : ∀ b ∈ ips, ∃ o, s.heap.get? b = some o)
    (hx : env.kindOf x = some .local) (hL : env.locals = L) (hk : env.scope.kind = .function) :
    wpAny (model X.prog X.w) A (assign (.Name x p) env v) (fun _ s' => FV X (frzL fz ips s'.heap) L (setL loc x (er v)) M s'.heap ∧ (∀ b ∈ ips, ∀ o, s.heap.get? b = some o → s'.heap.get? b = some o) ∧ Like s s') (fun _ _ => False) s := by
  subst hL
  (refine obEA (F.ns) ?_; intro m hn he)
  refine wpAny_assign_Name (wpAny_storeName_local hx hn (fun h' hn' hs => ?_) (by rw [hk]; rfl))
  have F' : FV X (frzL fz ips s.heap) env.locals (setL loc x (er v)) M h' := F.store hs hn' fun y => by
    unfold setL
    by_cases hy : y = x
    · simp [hy]
    · simp [hy, he]
  (refine obA (F'.stayL lv) ?_; intro F₂ k)
  exact ⟨F₂, k, Like.mk' s _ _ (Nat.le_succ _)⟩


theorem Itr_str {I : Addr} {l : List Nat} {t : Tok} {x : Str} {p : Pos} {ty : String} (hty : ty = "str_ascii_iterator" ∨ ty = "str_iterator") :
    Itr X n I [I] (.Name x p) (fun env => env.kindOf x = some .local) (fun i lo => setL lo x (.str (mkS [l.getD i 0]) 0)) l.length (fun i h => h.IsStrIter I ty (mkS l) t i) (fun m => True) where
  live := fun i h st b hb => by rw [List.mem_singleton.mp hb]; obtain ⟨o, ho, _⟩ := st; exact ⟨o, ho⟩
  only := fun i h h' st k => by obtain ⟨o, ho, r⟩ := st; exact ⟨o, k I (by simp) o ho, r⟩
  item := fun i A s env L fz loc M r ht hL hk off F g st hi => by
    have hx : (mkS l).cps[i]? = some l[i] := by simp [mkS, hi]
    have lvs : ∀ {j : Nat} {h : Heap}, h.IsStrIter I ty (mkS l) t j → ∀ b ∈ [I], ∃ o, h.get? b = some o := fun st b hb => by rw [List.mem_singleton.mp hb]; obtain ⟨o, ho, _⟩ := st; exact ⟨o, ho⟩
    have go : ∀ (h' : Heap) (v : Value) (tk : Tok), er v = .str (mkS [l[i]]) 0 → s.toks ≤ tk → h'.IsStrIter I ty (mkS l) t (i + 1) → Heap.SameBut I s.heap h' →
        wpAny (model X.prog X.w) A (letOwnedTupleGo (.Name x p) (.ref I) v) (fun _ s₂ => wpAny (model X.prog X.w) A (assign (.Name x p) env v)
          (fun _ s₃ => FV X (frzL fz [I] s₃.heap) L (setL loc x (.str (mkS [l.getD i 0]) 0)) M s₃.heap ∧ s₃.heap.IsStrIter I ty (mkS l) t (i + 1) ∧ Like s s₃) (fun _ _ => False) s₂) (fun _ _ => False) { s with heap := h', toks := tk } := fun h' v tk ev htk st' hs => by
      have F₁ := F.mv off (h' := h') (fun b o hb ho => (hs.2 b (fun e => hb (by simp [e]))).trans ho) (lvs st)
      refine wpAny_of_eq (rfl : letOwnedTupleGo (.Name x p) (.ref I) v = pure ()) ?_
      have w := asgName (A := A) (s := { s with heap := h', toks := tk }) (x := x) (p := p) (v := v) F₁ (lvs st') ht hL hk
      refine wpAny_mono w (fun _ s' q => ?_) (fun _ _ e => e)
      (refine obAA (q) ?_; intro F₂ k lk)
      have : er v = .str (mkS [l.getD i 0]) 0 := by rw [ev]; simp [List.getD, List.getElem?_eq_getElem hi]
      (refine obEA (st') ?_; intro o ho rr)
      exact ⟨by rw [← this]; exact F₂, ⟨o, k I (by simp) o ho, rr⟩, (Like.mk' s h' tk htk).trans lk⟩
    rcases hty with rfl | rfl
    · exact wpAny_pyNext_ascii_item st hx fun h' st' hs => ⟨_, rfl, go h' _ _ rfl (Nat.le_succ _) st' hs⟩
    · exact wpAny_pyNext_wide_item st hx fun h' st' hs => ⟨_, rfl, go h' _ _ rfl (Nat.le_succ _) st' hs⟩
  done := fun A s L fz loc M r off F g st => by
    have lv : ∀ b ∈ [I], ∃ o, s.heap.get? b = some o := fun b hb => by rw [List.mem_singleton.mp hb]; obtain ⟨o, ho, _⟩ := st; exact ⟨o, ho⟩
    have hx : (mkS l).cps[l.length]? = none := by simp [mkS]
    rcases hty with rfl | rfl
    · exact wpAny_pyNext_ascii_end r.handled st hx fun h' hs => ⟨rfl, (F.mv off (h' := h') (fun b o hb ho => hs b o (fun e => hb (by simp [e])) ho) lv).thaw off, Like.heap s h'⟩
    · exact wpAny_pyNext_wide_end r.handled st hx fun h' hs => ⟨rfl, (F.mv off (h' := h') (fun b o hb ho => hs b o (fun e => hb (by simp [e])) ho) lv).thaw off, Like.heap s h'⟩
  self := fun i A s Q E st hq => by
    rcases hty with rfl | rfl
    · exact wpAny_pyIter_striter_ascii st hq
    · exact wpAny_pyIter_striter_wide st hq
theorem fresh_get (h : Heap) : ∀ b ∈ [h.objs.size], h.get? b = none := fun b hb => by
  rw [List.mem_singleton.mp hb]
  cases z : h.get? h.objs.size with
  | none => rfl
  | some y => exact absurd (Heap.lt_size z) (Nat.lt_irrefl _)
theorem IE_str {Q : QI} {iter : Expr} {x : Str} {p : Pos} (h : EV X n fz L env iter (fun v lo m => ∃ l, v = .str (mkS l) 0 ∧ Q (fun env => env.kindOf x = some .local) l.length (fun i lo => setL lo x (.str (mkS [l.getD i 0]) 0)) (fun m => True) lo m) loc M) :
    IE X n fz L env iter (.Name x p) Q loc M := fun A s R r F o fin => by
  refine wpAny_mono (h A s r F o) (fun v s₁ hq => ?_) (fun _ _ e => e)
  (refine obEEAAEA (hq) ?_; intro l₁ M₁ F₁ k₁ l e q)
  (refine obE (er_str e) ?_; intro t hz1; subst hz1)
  cases ha : (mkS l).cps.all (· < 128)
  · refine wpAny_pyIter_wide ha ?_
    (refine obA (F₁.setApart (ips := [s₁.heap.objs.size]) (Ext.push s₁.heap { cls := .type "str_iterator", data := .fields #[.str (mkS l) t, .int 0 0] }) (fresh_get _)) ?_; intro F₂ off)
    exact fin _ [s₁.heap.objs.size] _ _ _ _ _ l₁ M₁ _ (Itr_str (l := l) (t := t) (x := x) (p := p) (.inr rfl)) off F₂ ⟨_, Heap.get?_push_size _ rfl, rfl, rfl⟩ (k₁.trans (Like.heap s₁ _)) q
  · refine wpAny_pyIter_ascii ha ?_
    (refine obA (F₁.setApart (ips := [s₁.heap.objs.size]) (Ext.push s₁.heap { cls := .type "str_ascii_iterator", data := .fields #[.str (mkS l) t, .int 0 0] }) (fresh_get _)) ?_; intro F₂ off)
    exact fin _ [s₁.heap.objs.size] _ _ _ _ _ l₁ M₁ _ (Itr_str (l := l) (t := t) (x := x) (p := p) (.inl rfl)) off F₂ ⟨_, Heap.get?_push_size _ rfl, rfl, rfl⟩ (k₁.trans (Like.heap s₁ _)) q

end
end Mine
end
section
set_option linter.unusedVariables false
set_option maxRecDepth 100000
namespace Mine
open PySem PySem.W PySem.Calls PyProof.Rows

section
variable {X : Cx} {n : Nat} {fz : Frz} {L : Addr} {loc : Loc} {M : Mem} {env : Env} {a b : Addr}


noncomputable def frz1 (fz : Frz) (L : Addr) (o : Obj) : Frz := fun b => if b = L then some o else fz b
theorem FV.frame {h : Heap} (F : FV X fz L loc M h) : ∃ oL, h.get? L = some oL ∧ GV X (frz1 fz L oL) M h ∧ fz L = none ∧ ∀ M' h', GV X (frz1 fz L oL) M' h' → FV X fz L loc M' h' := by
  (refine obE (F) ?_; intro own F)
  (refine obEA (F.loc) ?_; intro m hz1 he; refine dn fun hG0 => ?_; obtain ⟨oL, es, ep, hL, hd⟩ := hz1; refine hG0 ?_; clear hG0)
  have T0 : ∀ b o, X.T.get? b = some o → b ≠ L := fun b o e z => by
    have q := F.inv.top b o e
    rw [z, F.fzL] at q; cases q
  refine ⟨oL, hL, ⟨own, ⟨fun b o e => (if_neg (T0 b o e)).trans (F.inv.top b o e), fun b o e => ?_, F.inv.rep⟩⟩, F.fzL, fun M' h' g' => ?_⟩
  · by_cases hb : b = L
    · subst hb
      have : some oL = some o := (if_pos rfl : frz1 fz b oL b = some oL).symm.trans e
      cases this
      exact ⟨hL, F.ownL⟩
    · have : fz b = some o := (if_neg hb : frz1 fz L oL b = fz b).symm.trans e
      exact F.inv.fz b o this
  · (refine obE (g') ?_; intro own' I)
    have hL' := I.fz L oL (if_pos rfl)
    have fzz : ∀ b o, fz b = some o → frz1 fz L oL b = some o := fun b o e => by
      have : b ≠ L := fun z => by rw [z, F.fzL] at e; cases e
      exact (if_neg this).trans e
    exact ⟨own', ⟨F.inv.top, fun b o e => I.fz b o (fzz b o e), I.rep⟩, hL'.2, F.fzL, m, ⟨oL, es, ep, hL'.1, hd⟩, he⟩
theorem GV.enter {h h' : Heap} {C : Addr} {m : Str → Option Value} (g : GV X fz M h) (k : Ext h h') (hC : h.get? C = none) (hn : h'.Ns C m) (he : ∀ x, (m x).map er = loc x) : FV X fz C loc M h' := by
  (refine obE (g) ?_; intro own I)
  let own' : Addr → Option Addr := fun b => if b = C then none else own b
  have oo : ∀ b x, h.get? b = some x → own' b = own b := fun b x e => if_neg fun z => by rw [z, hC] at e; cases e
  refine ⟨own', ⟨I.top, fun b o e => ⟨k _ _ (I.fz b o e).1, (oo _ _ (I.fz b o e).1).trans (I.fz b o e).2⟩, fun b o e => ?_⟩, if_pos rfl, ?_, m, hn, he⟩
  · have q := I.rep b o e
    refine ⟨(if_neg fun z => ?_).trans q.1, q.2.mono (fun _ _ hd _ => k _ _ hd) (fun d y hd od => (oo d y hd).trans od) q.1⟩
    have lt := q.2
    cases o with
    | inst C' kk f => obtain ⟨dx, es, n, h1, _⟩ := lt; rw [z, hC] at h1; cases h1
    | dct l => obtain ⟨kvs, ⟨o, es, ep, ho, _⟩, _⟩ := lt; rw [z, hC] at ho; cases ho
    | lst xs => obtain ⟨vs, ⟨o, ho⟩, _⟩ := lt; rw [z, hC] at ho; cases ho
    | tup xs => obtain ⟨vs, ⟨o, ho, _⟩, _⟩ := lt; rw [z, hC] at ho; cases ho
    | obj o => have ho : h.get? b = some o := lt; rw [z, hC] at ho; cases ho
  · cases q : fz C with
    | none => rfl
    | some x => have := (I.fz _ _ q).1; rw [hC] at this; cases this
theorem FV.leave {h h' : Heap} {C : Addr} (F : FV X fz C loc M h) (hs : Heap.SameBut C h h') : GV X fz M h' := by
  (refine dn fun hG0 => ?_; obtain ⟨own, ⟨i1, i2, i3⟩, a1, a2, _⟩ := F; refine hG0 ?_; clear hG0)
  refine ⟨own, ⟨i1, fun c o e => ⟨(hs.2 c fun z => ?_).trans (i2 c o e).1, (i2 c o e).2⟩, fun c o e => ⟨(i3 c o e).1, (i3 c o e).2.mono (fun d x hd od => (hs.2 d fun z => ?_).trans hd) (fun _ _ _ q => q) (i3 c o e).1⟩⟩⟩
  · rw [z, a2] at e; cases e
  · rw [z, a1] at od; cases od
theorem GV.thawList {h : Heap} {D : Addr} {us : Array Value} (g : GV X (frzL fz [D] h) M h) (off : Off X fz [D]) (hD : h.PlainList D us) : GV X fz (setM M D (.lst (us.toList.map er))) h ∧ M D = none := by
  (refine obE (g) ?_; intro own I)
  (refine obE (id hD) ?_; intro nn hd)
  have oD : own D = none := (I.fz D _ ((if_pos (by simp)).trans hd)).2
  have MD : M D = none := by
    cases q : M D with
    | none => rfl
    | some x => have := (I.rep D x q).1; rw [oD] at this; cases this
  refine ⟨⟨fun b => if b = D then some D else own b, ⟨fun c x e => ?_, fun c x e => ?_, fun c x e => ?_⟩⟩, MD⟩
  · have hc : c ∉ [D] := fun hc => by rw [(off c hc).2] at e; cases e
    exact (if_neg hc : frzL fz [D] h c = _).symm.trans (I.top c x e)
  · have hc : c ∉ [D] := fun hc => by rw [(off c hc).1] at e; cases e
    have e' : frzL fz [D] h c = some x := (if_neg hc).trans e
    have hcD : c ≠ D := fun z => hc (by simp [z])
    exact ⟨(I.fz c x e').1, (if_neg hcD).trans (I.fz c x e').2⟩
  · by_cases hc : c = D
    · subst hc
      rw [setM_same] at e; cases e
      exact ⟨if_pos rfl, us, hD, rfl⟩
    · rw [setM_ne _ _ hc] at e
      have q := I.rep c x e
      refine ⟨(if_neg hc).trans q.1, q.2.mono (fun _ _ hd _ => hd) (fun d y hd od => ?_) q.1⟩
      have : d ≠ D := fun z => by rw [z, oD] at od; cases od
      exact (if_neg this).trans od

theorem frzL_cons (fz : Frz) (D : Addr) (ips : List Addr) (h : Heap) : frzL fz (D :: ips) h = frzL (frzL fz [D] h) ips h := by
  funext b
  unfold frzL
  by_cases q : b ∈ ips
  · simp [q]
  · by_cases z : b = D
    · simp [z]
    · simp [q, z]

theorem FV.refrz {h h' : Heap} {C : Addr} {o o' : Obj} (F : FV X fz C loc M h) (hL : fz L = some o) (hs : Heap.SameBut L h h') (hL' : h'.get? L = some o') (hCL : C ≠ L) (TL : X.T.get? L = none) : FV X (fun b => if b = L then some o' else fz b) C loc M h' := by
  obtain ⟨own, ⟨i1, i2, i3⟩, a1, a2, m, ⟨oC, es, ep, hC, hd⟩, he⟩ := F
  have oL := (i2 L o hL).2
  refine ⟨own, ⟨fun c x e => ?_, fun c x e => ?_, fun c x e => ⟨(i3 c x e).1, (i3 c x e).2.mono (fun d y hd od => (hs.2 d fun z => ?_).trans hd) (fun _ _ _ q => q) (i3 c x e).1⟩⟩, a1, (if_neg hCL).trans a2, m, ⟨oC, es, ep, (hs.2 C hCL).trans hC, hd⟩, he⟩
  · have : c ≠ L := fun z => by rw [z, TL] at e; cases e
    exact (if_neg this).trans (i1 c x e)
  · by_cases hc : c = L
    · subst hc
      have : some o' = some x := (if_pos rfl).symm.trans e
      cases this
      exact ⟨hL', oL⟩
    · have e' : fz c = some x := (if_neg hc : (if c = L then some o' else fz c) = fz c).symm.trans e
      exact ⟨(hs.2 c hc).trans (i2 c x e').1, (i2 c x e').2⟩
  · rw [z, oL] at od; cases od
theorem GV.unframe {h : Heap} {o : Obj} {m : Str → Option Value} (g : GV X (frz1 fz L o) M h) (hf : fz L = none) (TL : X.T.get? L = none) (hn : h.Ns L m) (he : ∀ x, (m x).map er = loc x) : FV X fz L loc M h := by
  obtain ⟨own, I⟩ := g
  have hL' := I.fz L o (if_pos rfl)
  refine ⟨own, ⟨fun b x e => ?_, fun b x e => I.fz b x ?_, I.rep⟩, hL'.2, hf, m, hn, he⟩
  · have : b ≠ L := fun z => by rw [z, TL] at e; cases e
    exact (if_neg this : frz1 fz L o b = fz b).symm.trans (I.top b x e)
  · have : b ≠ L := fun z => by rw [z, hf] at e; cases e
    exact (if_neg this : frz1 fz L o b = fz b).trans e
/-- a comprehension's run, whatever is done with its list behind -/
theorem comp_core {RR : Value → Env → Result → Shared → Prop} {elt tgt iter : Expr} {scope : Scope} {pos : Pos} {A : Around} {s s₂ : Shared} {I : Addr} {ips : List Addr} {St : Nat → Heap → Prop} {tOk : Env → Prop} {len : Nat} {upd : Nat → Loc → Loc} {G : Mem → Prop} {l : Loc} {m : Mem} {Inv : Nat → List Value → Loc → Mem → Prop}
    (hE : Fun env L) (r : Room A n) (o : 1 ≤ s.toks) (hI : Itr X n I ips tgt tOk upd len St G) (off : Off X fz ips) (F₂ : FV X (frzL fz ips s₂.heap) L l m s₂.heap) (st₂ : St 0 s₂.heap) (k₂ : Like s s₂) (hlen : len ≤ 16777216) (i0 : Inv 0 [] (fun _ => none) m)
    (turn : ∀ i ys lc mm, i < len → ys.length = i → Inv i ys lc mm → G mm ∧ ∀ fz C cenv, Fun cenv C → cenv.scope = scope → tOk cenv ∧ EV X n fz C cenv elt (fun y lc mm => Inv (i + 1) (ys ++ [y]) lc mm) (upd i lc) mm)
    (hcell : ∀ y ∈ scope.names, y.2 ≠ .cell) (hkind : scope.kind = .function) (gl : ∀ ys lc mm, ys.length = len → Inv len ys lc mm → G mm)
    (fin : ∀ (D C : Addr) (s₅ : Shared) lc mm ys (m' mL : Str → Option Value), mm D = none → ys.length = len → Inv len ys lc mm → s₅.heap.Ns C m' → s₅.heap.Ns L mL → (∀ x, (mL x).map er = l x) → C ≠ L → Like s s₅ →
      (∀ hB mB loc', Heap.SameBut L s₅.heap hB → hB.Ns L mB → (∀ x, (mB x).map er = loc' x) → ∀ h', Heap.SameBut C hB h' → FV X fz L loc' (setM mm D (.lst ys)) h') → RR (.ref D) (compEnv scope C env) (.ok .next) s₅) :
    wpAny (model X.prog X.w) A (newList []) (fun acc s₃ => wpAny (model X.prog X.w) A (newFunctionEnv scope env.globals [] [] env.qual none .none (some env)) (fun cenv s₄ =>
      codeAny (model X.prog X.w) A (.compStart (.ListComp elt [⟨tgt, iter, [], 0⟩] scope pos) 0 (.ref I) acc { cenv with scope := scope }) (RR acc { cenv with scope := scope }) s₄) (fun _ _ => False) s₃) (fun _ _ => False) s₂ := by
  have hh := r.handled
  refine wpAny_newObj_type (wpAny_newFunctionEnv hcell (by intro y hy; simp at hy) (fun h₁ hns₁ hsb₁ => ?_) hkind) (by size_fits)
  dsimp only at hns₁ hsb₁ ⊢
  -- the new list D, the comprehension's frame C
  generalize hD : s₂.heap.objs.size = D at *
  generalize hH2 : s₂.heap.push { cls := .type "list", dict := none, data := .seq ([] : List Value).toArray } = H2 at *
  have hC : H2.objs.size = D + 1 := by rw [← hH2, Heap.size_push, hD]
  generalize hCC : H2.objs.size = C at *
  have fresh : ∀ a, D ≤ a → s₂.heap.get? a = none := fun a ha => by
    cases e : s₂.heap.get? a with
    | none => rfl
    | some o' => have := Heap.lt_size e; rw [hD] at this; exact absurd this (Nat.not_lt.mpr ha)
  have extH : Ext s₂.heap H2 := by rw [← hH2]; exact Ext.push _ _
  have H2C : H2.get? C = none := by
    cases e : H2.get? C with
    | none => rfl
    | some o' => have := Heap.lt_size e; rw [hCC] at this; exact absurd this (Nat.lt_irrefl _)
  have ext2 : Ext H2 h₁ := fun b o' hb => by
    have : b ≠ C := fun z => by rw [z, H2C] at hb; cases hb
    exact hsb₁.extBut b o' this (Heap.get?_push_of_some _ hb)
  obtain ⟨FD, offD⟩ := F₂.setApart (ips := [D]) extH (fun b hb => by rw [List.mem_singleton.mp hb]; exact fresh D (Nat.le_refl _))
  (refine obEAAA (FD.frame) ?_; intro oL hoL gL fzL0 back)
  -- names for the frozen parts
  have lv₂ := hI.live _ _ st₂
  have hDip : D ∉ ips := fun hb => by obtain ⟨x, hx⟩ := lv₂ D hb; rw [fresh D (Nat.le_refl _)] at hx; cases hx
  have hLip : L ∉ ips := fun hb => by
    (refine obE (lv₂ L hb) ?_; intro x hx)
    (refine obE (F₂) ?_; intro own I2)
    have := I2.fzL
    rw [show frzL fz ips s₂.heap L = s₂.heap.get? L from if_pos hb, hx] at this; cases this
  have hLD : L ≠ D := fun z => by
    (refine obE (F₂) ?_; intro own I2)
    (refine obEA (I2.loc) ?_; intro m' hz1 _; refine dn fun hG0 => ?_; obtain ⟨o', es, ep, ho', _⟩ := hz1; refine hG0 ?_; clear hG0)
    rw [z, fresh D (Nat.le_refl _)] at ho'; cases ho'
  have fzL : fz L = none := by
    (refine obE (F₂) ?_; intro own I2)
    exact (if_neg hLip : frzL fz ips s₂.heap L = fz L).symm.trans I2.fzL
  have lvH : ∀ b ∈ ips, H2.get? b = s₂.heap.get? b := fun b hb => by obtain ⟨x, hx⟩ := lv₂ b hb; rw [hx]; exact extH _ _ hx
  have fzD : fz D = none := (if_neg hDip : frzL fz ips s₂.heap D = fz D).symm.trans (offD D (by simp)).1
  have eqfz : frz1 (frzL (frzL fz ips s₂.heap) [D] H2) L oL = frzL (frz1 fz L oL) (D :: ips) H2 := by
    funext b
    unfold frz1 frzL
    by_cases q : b = L
    · subst q; simp [hLip, hLD]
    · by_cases z : b = D
      · subst z; simp [q]
      · by_cases y : b ∈ ips
        · simp [q, z, y, lvH b y]
        · simp [q, z, y]
  have offA : Off X (frz1 fz L oL) (D :: ips) := fun b hb => by
    rcases List.mem_cons.mp hb with rfl | hb
    · exact ⟨(if_neg (Ne.symm hLD)).trans fzD, (offD b (by simp)).2⟩
    · have hbL : b ≠ L := fun z => hLip (by rw [← z]; exact hb)
      exact ⟨(if_neg hbL : frz1 fz L oL b = fz b).trans (off b hb).1, (off b hb).2⟩
  have offI : ∀ h, Off X (frzL (frz1 fz L oL) [D] h) ips := fun h b hb => by
    have := offA b (List.mem_cons_of_mem _ hb)
    have hbD : b ∉ [D] := fun z => hDip (by rw [← List.mem_singleton.mp z]; exact hb)
    exact ⟨(if_neg hbD : frzL (frz1 fz L oL) [D] h b = frz1 fz L oL b).trans this.1, this.2⟩
  rw [eqfz] at gL
  have FC : FV X (frzL (frz1 fz L oL) (D :: ips) H2) C (fun _ => none) m h₁ := gL.enter ext2 H2C hns₁ (fun x => rfl)
  have H2D : H2.PlainList D #[] := by rw [← hH2, ← hD]; exact ⟨_, Heap.get?_push_size _ rfl⟩
  have lvA : ∀ b ∈ D :: ips, ∃ o, H2.get? b = some o := fun b hb => by
    rcases List.mem_cons.mp hb with rfl | hb
    · obtain ⟨nn, e⟩ := H2D; exact ⟨_, e⟩
    · rw [lvH b hb]; exact lv₂ b hb
  (refine obA (FC.stayL lvA) ?_; intro FC₁ kC)
  have stC : St 0 h₁ := hI.only _ _ _ st₂ fun b hb o' ho' => ext2 _ _ (extH _ _ ho')
  have plC : h₁.PlainList D #[] := H2D.at fun o' e => kC D (by simp) o' e
  let cenv : Env := compEnv scope C env
  have hcE : Fun cenv C := ⟨hkind, rfl, hE.glob, hE.bi⟩
  have hcS : cenv.scope = scope := rfl
  have hcL : cenv.locals = C := rfl
  have loop : ∀ s₃ : Shared, s₃.heap = h₁ → Like s s₃ → codeAny (model X.prog X.w) A (.compLoop (.ListComp elt [⟨tgt, iter, [], 0⟩] scope pos) 0 (.ref I) (.ref D) cenv)
      (RR (.ref D) cenv) s₃ := fun s₃ hs₃ lk₃ => by
    subst hs₃
    refine kcp_loop (fun k s' => ∃ i ys us lc mm, k = len - i ∧ i ≤ len ∧ ys.length = i ∧ FV X (frzL (frz1 fz L oL) (D :: ips) s'.heap) C lc mm s'.heap ∧ St i s'.heap ∧ s'.heap.PlainList D us ∧ us.toList.map er = ys ∧ Like s s' ∧ Inv i ys lc mm)
      (fun k s₄ hJ => ?_) len ⟨0, [], #[], fun _ => none, m, rfl, Nat.zero_le _, rfl, FC₁, stC, plC, rfl, lk₃, i0⟩
    (refine obEEEEEAAAAAAAA (hJ) ?_; intro i ys us lc mm hz5 hi hys F₄ st₄ pl₄ hus k₄ inv; subst hz5)
    by_cases hlt : i < len
    · (refine obA (turn i ys lc mm hlt hys inv) ?_; intro g tr)
      have F₄' := F₄
      rw [frzL_cons] at F₄'
      (refine obA (tr (frzL (frz1 fz L oL) (D :: ips) s₄.heap) C cenv hcE hcS) ?_; intro tk _)
      refine wpAny_mono (hI.item i A s₄ cenv C _ lc mm r tk hcL hcE.kind (offI _) F₄' g st₄ hlt) (fun r' s₅ hr => ?_) (fun _ _ e => e.elim)
      (refine obEA (hr) ?_; intro v hz1 w; subst hz1)
      refine wpAny_mono w (fun _ s₆ w => wpAny_mono w (fun _ s₇ w => ?_) (fun _ _ e => e.elim)) (fun _ _ e => e.elim)
      (refine obAA (w) ?_; intro F₇ st₇ k₇)
      (refine obE (id pl₄) ?_; intro nn hD4)
      have hD7 : s₇.heap.get? D = s₄.heap.get? D := by
        (refine obE (F₇) ?_; intro own I7)
        rw [hD4]
        exact (I7.inv.fz D _ ((if_neg hDip).trans ((if_pos (by simp)).trans hD4))).1
      have F₇' : FV X (frzL (frz1 fz L oL) (D :: ips) s₇.heap) C (upd i lc) mm s₇.heap := by
        rw [frzL_cons]
        have : frzL (frz1 fz L oL) [D] s₇.heap = frzL (frz1 fz L oL) [D] s₄.heap := by
          funext b
          unfold frzL
          by_cases z : b ∈ [D]
          · rw [if_pos z, if_pos z, List.mem_singleton.mp z, hD7]
          · rw [if_neg z, if_neg z]
        rw [this]; exact F₇
      (refine obA (tr (frzL (frz1 fz L oL) (D :: ips) s₇.heap) C cenv hcE hcS) ?_; intro _ ev)
      refine wpAny_mono (WT.use ev r F₇' (k₄.trans k₇) o) (fun y s₈ hq => ?_) (fun _ _ e => e.elim)
      (refine obEEAA (hq) ?_; intro lc' mm' F₈ k₈ inv')
      have pl₇ : s₇.heap.PlainList D us := ⟨nn, hD7.trans hD4⟩
      have lv₇ : ∀ b ∈ D :: ips, ∃ o, s₇.heap.get? b = some o := fun b hb => by
        rcases List.mem_cons.mp hb with rfl | hb
        · exact ⟨_, hD7.trans hD4⟩
        · exact hI.live _ _ st₇ b hb
      (refine obA (F₈.stayL lv₇) ?_; intro F₈' k₈')
      have hsz : us.size = i := by rw [← hys, ← hus, List.length_map, Array.length_toList]
      refine wpAny_list_append_plain (pl₇.at fun o' e => k₈' D (by simp) o' e) (fun h₉ pl₉ hs₉ => ?_) (by rw [hsz, sizeLine_eq]; (first | lia | omega))
      have lv₈ : ∀ b ∈ D :: ips, ∃ o, s₈.heap.get? b = some o := fun b hb => by obtain ⟨x, hx⟩ := lv₇ b hb; exact ⟨x, k₈' b hb x hx⟩
      refine ⟨len - (i + 1), by (first | lia | omega), i + 1, ys ++ [er y], us.push y, lc', mm', rfl, hlt, by simp [hys], F₈'.mv offA (fun b o' hb ho' => (hs₉.2 b fun z => hb (by simp [z])).trans ho') lv₈, ?_, pl₉, by simp [hus], k₈.trans (Like.heap s₈ h₉), inv'⟩
      exact hI.only _ _ _ st₇ fun b hb o' ho' => (hs₉.2 b fun z => hDip (z ▸ hb)).trans (k₈' b (List.mem_cons_of_mem _ hb) o' ho')
    · have : i = len := by (lia)
      subst this
      have g := gl ys lc mm hys inv
      have F₄' := F₄
      rw [frzL_cons] at F₄'
      refine wpAny_mono (hI.done A s₄ C _ lc mm r (offI _) F₄' g st₄) (fun r' s₅ hr => ?_) (fun _ _ e => e.elim)
      (refine obAA (hr) ?_; intro hz0 F₅ k₅; subst hz0)
      (refine obE (id pl₄) ?_; intro nn hD4)
      have hD5 : s₅.heap.get? D = s₄.heap.get? D := by
        (refine obE (F₅) ?_; intro own I5)
        rw [hD4]
        exact (I5.inv.fz D _ ((if_pos (by simp)).trans hD4)).1
      obtain ⟨m', hn', _⟩ := F₅.ns
      have hL5 : s₅.heap.get? L = some oL := by
        obtain ⟨own, I5⟩ := F₅
        exact (I5.inv.fz L _ ((if_neg (fun z => hLD (List.mem_singleton.mp z))).trans (if_pos rfl))).1
      have TL : X.T.get? L = none := by
        obtain ⟨own, I2⟩ := F₂
        cases q9 : X.T.get? L with
        | none => rfl
        | some x =>
          have e9 := I2.inv.top L x q9
          rw [I2.fzL] at e9; cases e9
      obtain ⟨mL, hnL, heL⟩ := F₂.ns
      have hCL : C ≠ L := fun z => by
        obtain ⟨o2, es, ep, h2, hd⟩ := hnL
        have e1 : H2.get? L = some o2 := extH _ _ h2
        rw [← z, H2C] at e1; cases e1
      have hnL5 : s₅.heap.Ns L mL := by
        obtain ⟨o2, es, ep, h2, hd⟩ := hnL
        have e1 : H2.get? L = some o2 := extH _ _ h2
        rw [hoL] at e1
        cases e1
        exact ⟨_, es, ep, hL5, hd⟩
      have hCD : C ≠ D := fun z => by rw [hC] at z; exact absurd z (Nat.succ_ne_self D)
      have key : ∀ hB mB loc', Heap.SameBut L s₅.heap hB → hB.Ns L mB → (∀ x, (mB x).map er = loc' x) → ∀ h', Heap.SameBut C hB h' → FV X fz L loc' (setM mm D (.lst ys)) h' ∧ mm D = none := fun hB mB loc' hsB hnB heB h' hs' => by
        have hD' : h'.get? D = s₄.heap.get? D := (hs'.2 D (Ne.symm hCD)).trans ((hsB.2 D (Ne.symm hLD)).trans hD5)
        obtain ⟨oB, esB, epB, hLB, hdB⟩ := hnB
        have F₆ : FV X (frzL (frz1 fz L oB) [D] h') C lc mm hB := by
          have e9 : (fun b => if b = L then some oB else frzL (frz1 fz L oL) [D] s₄.heap b) = frzL (frz1 fz L oB) [D] h' := by
            funext b
            unfold frzL frz1
            by_cases z : b = L
            · rw [if_pos z, z, if_neg (fun q => hLD (List.mem_singleton.mp q)), if_pos rfl]
            · rw [if_neg z]
              by_cases q : b ∈ [D]
              · rw [if_pos q, if_pos q, List.mem_singleton.mp q, hD']
              · rw [if_neg q, if_neg q, if_neg z, if_neg z]
          rw [← e9]
          exact F₅.refrz ((if_neg (fun z => hLD (List.mem_singleton.mp z))).trans (if_pos rfl)) hsB hLB hCL TL
        obtain ⟨gg, mD⟩ := (F₆.leave hs').thawList (fun b hb => by
          rw [List.mem_singleton.mp hb]
          have q9 := offA D (by simp)
          exact ⟨(if_neg (Ne.symm hLD)).trans ((if_neg (Ne.symm hLD) : frz1 fz L oL D = fz D).symm.trans q9.1), q9.2⟩) ⟨nn, hD'.trans hD4⟩
        rw [hus] at gg
        exact ⟨gg.unframe fzL TL ⟨oB, esB, epB, (hs'.2 L (Ne.symm hCL)).trans hLB, hdB⟩ heB, mD⟩
      exact fin D C s₅ lc mm ys m' mL (key s₅.heap mL l ⟨rfl, fun _ _ => rfl⟩ hnL5 heL s₅.heap ⟨rfl, fun _ _ => rfl⟩).2 hys inv hn' hnL5 heL hCL (k₄.trans k₅) fun hB mB loc' a b c h' d => (key hB mB loc' a b c h' d).1
  have lk₁ : Like s { s₂ with heap := h₁, toks := s₂.toks + ([] : List (Str × Value)).length } := k₂.trans (Like.mk' s₂ _ _ (Nat.le_add_right _ _))
  refine codeAny_compStart_list (loop _ rfl lk₁) (hI.self 0 A _ _ _ stC (loop _ rfl lk₁))
theorem EV_comp {Q : QV} {elt tgt iter : Expr} {scope : Scope} {pos : Pos} (hE : Fun env L)
    (h : IE X n fz L env iter tgt (fun tOk len upd G l m => len ≤ 16777216 ∧ ∃ Inv : Nat → List Value → Loc → Mem → Prop, Inv 0 [] (fun _ => none) m ∧
      (∀ i ys lc mm, i < len → ys.length = i → Inv i ys lc mm → G mm ∧ ∀ fz C cenv, Fun cenv C → cenv.scope = scope → tOk cenv ∧ EV X n fz C cenv elt (fun y lc mm => Inv (i + 1) (ys ++ [y]) lc mm) (upd i lc) mm) ∧
      (∀ ys lc mm, ys.length = len → Inv len ys lc mm → G mm ∧ ∀ D, mm D = none → Q (.ref D) l (setM mm D (.lst ys)))) loc M)
    (hfree : ∀ x ∈ scope.names, x.2 ≠ .free := by decide +kernel) (hcell : ∀ y ∈ scope.names, y.2 ≠ .cell := by decide +kernel) (hkind : scope.kind = .function := by rfl)
    (hnames : ∀ x ∈ scope.names, x.2 = .local → scope.names.lookup x.1 = some .local := by decide +kernel)
    (hs : ∀ x, foldedSetIterable iter env x = pure x := by intro _; rfl) :
    EV X n fz L env (.ListComp elt [⟨tgt, iter, [], 0⟩] scope pos) Q loc M := fun A s r F o =>
  wpAny_ListComp hfree hkind hnames (h A s _ r F o fun I ips St tOk len upd G l m s₂ hI off F₂ st₂ k₂ hq => by
    obtain ⟨hlen, Inv, i0, turn, fin⟩ := hq
    exact comp_core (RR := fun acc cenv r s' => ∃ m, s'.heap.Ns cenv.locals m ∧ ∀ h', Heap.SameBut cenv.locals s'.heap h' → match r with
        | .ok _ => ∃ loc' M', FV X fz L loc' M' h' ∧ Like s { s' with heap := h' } ∧ Q (er acc) loc' M'
        | .error x => wpAny (model X.prog X.w) A (passOn "comprehension.variables-let-go" x cenv) (fun v s' => ∃ loc' M', FV X fz L loc' M' s'.heap ∧ Like s s' ∧ Q (er v) loc' M') (fun _ _ => False) { s' with heap := h' })
      hE r o hI off F₂ st₂ k₂ hlen i0 turn hcell hkind (fun ys lc mm a b => (fin ys lc mm a b).1) fun D C s₅ lc mm ys m' mL mD hy inv hn' hnL heL hCL k₅ cl =>
        ⟨m', hn', fun h' hs' => ⟨l, _, cl s₅.heap mL l ⟨rfl, fun _ _ => rfl⟩ hnL heL h' hs', k₅.trans (Like.heap s₅ h'), (fin ys lc mm hy inv).2 D mD⟩⟩) hs
end
end Mine
end
section
set_option linter.unusedVariables false
set_option maxRecDepth 100000
namespace Mine
open PySem PySem.W PySem.Calls PyProof.Rows

section
variable {X : Cx} {n : Nat} {fz : Frz} {L : Addr} {loc : Loc} {M : Mem} {env : Env} {a b C : Addr} {k : Nat} {f : Str → Option Value} {name : Str} {v : Value}

theorem GA_boundO {Q : QV} {g : Addr} (hm : M a = some (.inst C k f)) (hf : f name = none) (ok : MethOk X.K C name g) (h : ∀ q, M q = none → Q (.ref q) loc (setM M q (.obj (methodObj (.ref g) (.ref a))))) :
    O1 X n fz L (fun o => getAttr o name true) (.ref a) Q loc M := fun va e A s r F o => by
  have e := er_ref e
  subst e
  have kin := F.kin
  (refine obE (id F) ?_; intro own I)
  (refine obAEEEAAAAAA (I.inv.rep a _ hm) ?_; intro _ dx es nn h1 h2 h3 h4 h5 h6 h7)
  have hx := h7 name
  rw [hf, Option.map_eq_none_iff] at hx
  refine get_bind kin (⟨h1, rfl, rfl, h4⟩ : InstAt s.heap a (instObj C dx) C (some (dictOf es nn))) (plainGet_of ok.get).1
    (findObj_fn ok.dict ok.find ok.gget ok.takes ok.copied (by rw [lookIn_dict, getL_of h5, hx])) (plainGet_of ok.get).2
    (wpAny_call (fn_get (s := { s with toks := s.toks + 1 }) kin (beq_iff_eq.mp ok.fn) (handed_on rfl
      ⟨loc, _, F.new1 (o := .obj (methodObj (.ref g) (.ref a))) (Ext.push _ _) rfl (fun own _ => Heap.get?_push_size _ rfl), Like.mk' s _ _ (Nat.le_succ _), h _ F.fresh⟩)))

theorem GM_usual {Q : Value → List Value → Loc → Mem → Prop} (hm : M a = some (.inst C k f)) (hf : f name = some v) (ok : FieldOk X.K C name) (hn : findIn X.K (.ref C) name = some none) (h : Q v [] loc M) (hh : handedIn v = true := by rfl) :
    GM X n fz L name (.ref a) Q loc M := fun vo pl e A s r F o => by
  have e := er_ref e
  subst e
  have kin := F.kin
  (refine obE (id F) ?_; intro own I)
  (refine obAEEEAAAAAA (I.inv.rep a _ hm) ?_; intro _ dx es nn h1 h2 h3 h4 h5 h6 h7)
  have hx := h7 name
  rw [hf] at hx
  (refine obEA (Option.map_eq_some_iff.mp hx) ?_; intro v' e1 e2)
  (refine obEA (ok.attr) ?_; intro attr ha hng)
  refine method_usual kin (⟨h1, rfl, rfl, h4⟩ : InstAt s.heap a (instObj C dx) C (some (dictOf es nn))) (plainGet_of ok.get).1 (plainGet_of ok.get).2 hn rfl ?_
  refine get_value kin (⟨h1, rfl, rfl, h4⟩ : InstAt s.heap a (instObj C dx) C (some (dictOf es nn))) (plainGet_of ok.get).1
    (findObj_own ok.dict ha hng (by rw [lookIn_dict, getL_of h5, e1])) (handed_er e2 hh) ⟨loc, M, F, Like.tokn s _ (Nat.le_succ _), ?_⟩
  show Q (er v') [] loc M
  rw [e2]; exact h

theorem nil_er {fs : List Value} (h : fs.map er = []) : fs = [] := List.map_eq_nil_iff.mp h
theorem CL_bound {Q : Value → Mem → Prop} {q g : Addr} {self : Value} {args : List Value} (h0 : M q = some (.obj (methodObj (.ref g) self))) (hse : er self = self) (h : CL X n (.ref g) (self :: args) Q M) : CL X n (.ref q) args Q M :=
  fun fz A s vs r e gv o => by
    (refine obE (id gv) ?_; intro own I)
    exact method_call (I.rep q _ h0).2 (h fz A s (self :: vs) r (by rw [List.map_cons, hse, e]) gv o)
theorem CW_bound {Q : QV} {pos : Pos} {q g : Addr} {self : Value} {args : List Expr} (hg : fnIn X.K g = true)
    (h : AR X n fz L env args (fun vs l m => m q = some (.obj (methodObj (.ref g) self)) ∧ CA X n fz L (.ref q) vs Q l m) loc M)
    (hs : args.any isStarred = false := by rfl) : CW X n fz L env pos (.ref q) [] args Q loc M := fun fv fs e1 e2 A s r ff o => by
  rw [er_ref e1, nil_er e2]
  refine callWith_of (P := MethP X.K q g self) (by rw [noStar_any hs]; rfl) (fun hh x => keeps_M hg hh x) ?_
  have fin : ∀ vs l' M' s₁, FV X fz L l' M' s₁.heap → Like s s₁ → (M' q = some (.obj (methodObj (.ref g) self)) ∧ CA X n fz L (.ref q) (vs.map er) Q l' M') →
      MethP X.K q g self s₁.heap ∧ wpAny (model X.prog X.w) A (call (.ref q) ([] ++ vs) []) (fun v s' => ∃ loc' M', FV X fz L loc' M' s'.heap ∧ Like s s' ∧ Q (er v) loc' M') (fun _ _ => False) s₁ :=
    fun vs l' M' s₁ f' k' q' => by
      (refine obE (id f') ?_; intro own I)
      have ho : s₁.heap.get? q = some (methodObj (.ref g) self) := (I.inv.rep q _ q'.1).2
      exact ⟨⟨ho, f'.kin⟩, WT.use (q'.2 vs rfl) r f' k' o⟩
  cases args with
  | nil => exact evalArgs_nil3 (by simpa using fin [] loc M s ff (Like.refl s) (by simpa [AR] using h))
  | cons e rest =>
    have hs' := hs
    rw [List.any_cons, Bool.or_eq_false_iff] at hs'
    rw [star_cons hs'.1]
    refine evalArgs_plain ?_
    have sp := AR_spliced (pos := pos) hs h A s r ff o
    rw [star_cons hs'.1] at sp
    exact wpAny_mono sp (fun vs s₁ w => obEEAA w fun l' M' f' k' q => by simpa using fin vs l' M' s₁ f' k' q) fun _ _ e => e

theorem find_mbool (K : Frag) : findIn K (.type "method") "__bool__" = some none := by kernel_rfl
theorem find_mlen (K : Frag) : findIn K (.type "method") "__len__" = some none := by kernel_rfl
theorem TR_meth {Q : QB} {q : Addr} {g self : Value} (h0 : M q = some (.obj (methodObj g self))) (h : Q true loc M) : O1B X n fz L truthy (.ref q) Q loc M := fun va e A s r F o => by
  rw [er_ref e]
  have kin := F.kin
  (refine obE (id F) ?_; intro own I)
  have ho : s.heap.get? q = some (methodObj g self) := (I.inv.rep q _ h0).2
  have ty : Looks (model X.prog X.w) s.heap (typeOf (.ref q)) (.type "method") := (Looks.ld ho).andThen .now
  unfold truthy
  refine wpAny_bind (m := callSpecial? (.ref q) (Str.ofString "__bool__")) (wpAny_bind (wpAny_bind (ty.here ((looks_findIn kin (find_mbool _)).here (wpAny_pure ?_)))))
  refine wpAny_bind (wpAny_bind (ty.here ((looks_findIn kin (find_mlen _)).here ?_)))
  exact wpAny_pure ⟨loc, M, F, Like.refl s, h⟩


theorem GV.new1 {o : AO} {h h' : Heap} (g : GV X fz M h) (k : Ext h h') {x : Addr} (hx : h.get? x = none) (r : ∀ own : Addr → Option Addr, (∀ b, h.get? b = none → own b = some x) → ORep X own h' x o) : GV X fz (setM M x o) h' := by
  (refine dn fun hG0 => ?_; obtain ⟨own, i1, i2, i3⟩ := g; refine hG0 ?_; clear hG0)
  let own' : Addr → Option Addr := fun b => if h.get? b = none then some x else own b
  have oo : ∀ b y, h.get? b = some y → own' b = own b := fun b y e => if_neg (by rw [e]; exact fun z => by cases z)
  have ox : own' x = some x := if_pos hx
  refine ⟨own', ⟨i1, fun c y e => ⟨k _ _ (i2 c y e).1, (oo _ _ (i2 c y e).1).trans (i2 c y e).2⟩, fun c y e => ?_⟩⟩
  by_cases hc : c = x
  · subst hc
    rw [setM_same] at e; cases e
    exact ⟨ox, r own' fun b hb => if_pos hb⟩
  · rw [setM_ne _ _ hc] at e
    have q := i3 c y e
    have lt : ∃ z, h.get? c = some z := by
      cases y with
      | inst C' kk f => obtain ⟨dx, es, n, h1, _⟩ := q.2; exact ⟨_, h1⟩
      | dct l => obtain ⟨kvs, ⟨o, es, ep, ho, _⟩, _⟩ := q.2; exact ⟨_, ho⟩
      | lst xs => obtain ⟨vs, ⟨o, ho⟩, _⟩ := q.2; exact ⟨_, ho⟩
      | tup xs => obtain ⟨vs, ⟨o, ho, _⟩, _⟩ := q.2; exact ⟨_, ho⟩
      | obj o => exact ⟨_, q.2⟩
    (refine obE (lt) ?_; intro z hz)
    refine ⟨(oo c z hz).trans q.1, q.2.mono (fun _ _ hd _ => k _ _ hd) (fun d y hd od => (oo d y hd).trans od) q.1⟩

theorem CL_make {Q : Value → Mem → Prop} {fI : Addr} {args : List Value} (hm : makesIn X.K C = true) (hi : findIn X.K (.ref C) "__init__" = some (some (.ref fI))) (hf : typeIn X.K (.ref fI) = some (.type "function"))
    (h : ∀ x, M x = none → CL X n (.ref fI) (.ref x :: args) (fun v m => v = .none ∧ Q (.ref x) m) (setM M x (.inst C 0 (fun _ => none)))) : CL X (n + 1) (.ref C) args Q M := fun fz A s vs r e g o => by
  have kin := g.kin
  (refine dn fun hG0 => ?_; obtain ⟨hh, gg, d, t, os⟩ := s; refine hG0 ?_; clear hG0)
  dsimp only at g o kin
  have fx : hh.get? (hh.objs.size + 1) = none := by
    cases q : hh.get? (hh.objs.size + 1) with
    | none => rfl
    | some z => exact absurd (Heap.lt_size q) (Nat.not_lt.mpr (Nat.le_succ _))
  have fd : hh.get? hh.objs.size = none := by
    cases q : hh.get? hh.objs.size with
    | none => rfl
    | some z => exact absurd (Heap.lt_size q) (Nat.lt_irrefl _)
  have Mx : M (hh.objs.size + 1) = none := by
    cases q : M (hh.objs.size + 1) with
    | none => rfl
    | some z => obtain ⟨own, I⟩ := g; exact absurd (I.rep _ z q).2.lt (Nat.not_lt.mpr (Nat.le_succ _))
  have g' : GV X fz (setM M (hh.objs.size + 1) (.inst C 0 (fun _ => none))) ((hh.push emptyDict).push (instObj C hh.objs.size)) := by
    refine g.new1 ((Ext.push _ _).trans (Ext.push _ _)) fx fun own ho => ?_
    have h1 : ((hh.push emptyDict).push (instObj C hh.objs.size)).get? (hh.objs.size + 1) = some (instObj C hh.objs.size) := by
      have := Heap.get?_push_size (hh.push emptyDict) (o := instObj C hh.objs.size) rfl
      rw [Heap.size_push] at this; exact this
    have h2 : ((hh.push emptyDict).push (instObj C hh.objs.size)).get? hh.objs.size = some emptyDict := Heap.get?_push_of_some _ (Heap.get?_push_size _ rfl)
    exact ⟨hh.objs.size, [], 0, h1, ho _ fd, Nat.ne_of_lt (Nat.lt_succ_self _), h2, fun e he => by simp at he, Nat.le_refl _, fun x => rfl⟩
  refine make_core (makes_of kin hm) (looks_findIn kin hi) (fun self => bind_fn kin self hf) (.inl rfl) ?_
  have w1 : Code.weight (.builtin "type.__call__" ⟨.ref C :: vs, []⟩) ≤ 4 := by
    have e : Code.weight (.builtin "type.__call__" ⟨.ref C :: vs, []⟩) = Code.weight (.builtin "type.__call__" ⟨[.ref 0], []⟩) := by kernel_rfl
    rw [e]; decide +kernel
  have w2 : Code.cUnits (.builtin "type.__call__" ⟨.ref C :: vs, []⟩) ≤ 8 := by
    have e : Code.cUnits (.builtin "type.__call__" ⟨.ref C :: vs, []⟩) = Code.cUnits (.builtin "type.__call__" ⟨[.ref 0], []⟩) := by kernel_rfl
    rw [e]; decide +kernel
  have r' : Room (A.under (.builtin "type.__call__" ⟨.ref C :: vs, []⟩)) n := ⟨r.handled,
    by have := r.depth; show A.depth + Code.weight _ + 4 * n < _; (lia), by have := r.units; show A.units + Code.cUnits _ + 8 * n < _; (lia)⟩
  refine codeAny_mono (h _ Mx fz _ _ (.ref (hh.objs.size + 1) :: vs) r' (by rw [List.map_cons, e]; rfl) g' o) fun rr s' hq => ?_
  (refine obEEAAAA (hq) ?_; intro v M' hz2 g₂ lk hv q; subst hz2)
  have : v = .none := er_none hv
  subst this
  exact ⟨rfl, _, M', rfl, g₂, lk, q⟩



theorem TV_chain2 {Q : QB} {l r₁ r₂ : Expr} {op₁ op₂ : CmpOp} {pos : Pos}
    (h : EV X n fz L env l (fun a lo m => EV X n fz L env r₁ (fun b lo m => O2 X n fz L (compareOp op₁) a b (fun c lo m => O1B X n fz L truthy c (fun t lo m =>
      (t = true → EV X n fz L env r₂ (fun d lo m => O2 X n fz L (compareOp op₂) b d (fun c lo m => O1B X n fz L truthy c Q lo m) lo m) lo m) ∧ (t = false → Q false lo m)) lo m) lo m) lo m) loc M)
    (hm : lastMarks [op₁, op₂] [r₁, r₂] = false := by with_unfolding_all rfl) : TV X n fz L env (.Compare l [op₁, op₂] [r₁, r₂] pos) Q loc M := fun whole hw A s rm F o => by
  refine isTrue_chain (wpAny_mono (h A s rm F o) (fun va s₁ hq => test_link ?_) (fun _ _ e => e)) hm
  (refine obEEAA (hq) ?_; intro l₁ M₁ F₁ k₁ q)
  refine wpAny_mono (WT.use q rm F₁ k₁ o) (fun vb s₂ hq => ?_) (fun _ _ e => e)
  (refine obEEAA (hq) ?_; intro l₂ M₂ F₂ k₂ q)
  refine wpAny_mono (WT.use (q va vb rfl rfl) rm F₂ k₂ o) (fun vc s₃ hq => ?_) (fun _ _ e => e)
  (refine obEEAA (hq) ?_; intro l₃ M₃ F₃ k₃ q)
  refine wpAny_mono (WT.use (q vc rfl) rm F₃ k₃ o) (fun t s₄ hq => ?_) (fun _ _ e => e)
  (refine obEEAA (hq) ?_; intro l₄ M₄ F₄ k₄ q)
  cases t with
  | false => exact ⟨l₄, M₄, F₄, k₄, q.2 rfl⟩
  | true =>
    refine test_last (wpAny_mono (WT.use (q.1 rfl) rm F₄ k₄ o) (fun vd s₅ hq => ?_) (fun _ _ e => e))
    (refine obEEAA (hq) ?_; intro l₅ M₅ F₅ k₅ q)
    refine wpAny_mono (WT.use (q vb vd rfl rfl) rm F₅ k₅ o) (fun vc s₆ hq => ?_) (fun _ _ e => e)
    (refine obEEAA (hq) ?_; intro l₆ M₆ F₆ k₆ q)
    exact WT.use (q vc rfl) rm F₆ k₆ o

noncomputable def SI (X : Cx) (n : Nat) (fz : Frz) (L : Addr) (o i v : Value) (Q : Loc → Mem → Prop) (loc : Loc) (M : Mem) : Prop :=
  ∀ vo vi vv, er vo = o → er vi = i → er vv = v → WT X n fz L (setItem vo vi vv) (fun _ l m => Q l m) loc M
theorem stored_er (kvs : List (Str × Value)) (x : Str) (v : Value) : (stored kvs x v).map (fun p => (p.1, er p.2)) = stored (kvs.map fun p => (p.1, er p.2)) x (er v) := by
  unfold stored
  have : (kvs.map fun p : Str × Value => (p.1, er p.2)).any (fun kv => decide (kv.1 = x)) = kvs.any fun kv => decide (kv.1 = x) := by rw [List.any_map]; rfl
  rw [this]
  split
  · rw [List.map_map, List.map_map]
    apply List.map_congr_left
    intro p hp
    simp only [Function.comp]
    split <;> rfl
  · simp
theorem SI_dict {Q : Loc → Mem → Prop} {es : List (Str × Value)} {x : Str} {v : Value} (hm : M a = some (.dct es)) (hl : es.length ≤ 16777216) (h : Q loc (setM M a (.dct (stored es x v)))) : SI X n fz L (.ref a) (.str x 0) v Q loc M := fun vo vi vv e1 e2 e3 A s r F o => by
  rw [er_ref e1]
  (refine obE (er_str e2) ?_; intro u hz1; subst hz1)
  (refine obE (id F) ?_; intro own I)
  (refine obAEAA (I.inv.rep a _ hm) ?_; intro hown kvs h1 h3 h2)
  subst h2
  refine wpAny_setItem_pairs (strKind_is X.prog X.w x u) h1 (fun h' hd' hs => ?_) (by rw [sizeLine_eq]; simpa using hl)
  have hr : ORep X own h' a (.dct (stored (kvs.map fun p => (p.1, er p.2)) x v)) := ⟨_, hd', h3, by rw [stored_er, e3]⟩
  exact ⟨loc, _, ⟨own, FV.change I hown hs.2 hr hown⟩, Like.mk' s h' _ (Nat.le_succ _), h⟩

noncomputable def AT (X : Cx) (n : Nat) (fz : Frz) (L : Addr) (env : Env) (t : Expr) (v : Value) (Q : Loc → Mem → Prop) (loc : Loc) (M : Mem) : Prop :=
  ∀ vv, er vv = v → WT X n fz L (assign t env vv) (fun _ l m => Q l m) loc M
theorem AT_name {Q : Loc → Mem → Prop} {x : Str} {p : Pos} (h : ST X n fz L env x v Q loc M) : AT X n fz L env (.Name x p) v Q loc M := fun vv e A s r F o => wpAny_assign_Name (h vv e A s r F o)
theorem AT_attr {Q : Loc → Mem → Prop} {ob : Expr} {attr : Str} {p : Pos} (h : EV X n fz L env ob (fun ov l m => SA X n fz L ov attr v Q l m) loc M) : AT X n fz L env (.Attribute ob attr p) v Q loc M := fun vv e A s r F o => by
  rw [assign_Attribute]
  refine wpAny_bind (wpAny_holding (wpAny_mono (h A s r F o) (fun vo s₁ hq => ?_) (fun _ _ e => e)))
  (refine obEEAA (hq) ?_; intro l₁ M₁ F₁ k₁ q)
  refine wpAny_bind (wpAny_standAt (wpAny_bind (wpAny_holding (wpAny_mono (WT.use (q _ _ rfl e) r F₁ k₁ o) (fun _ s₂ hq => ?_) (fun _ _ e => e)))))
  exact wpAny_release' hq
noncomputable def ATs (X : Cx) (n : Nat) (fz : Frz) (L : Addr) (env : Env) : List Expr → List Value → (Loc → Mem → Prop) → Loc → Mem → Prop
  | [], [], Q => Q
  | t :: ts, v :: vs, Q => AT X n fz L env t v (ATs X n fz L env ts vs Q)
  | _, _, _ => fun _ _ => False
theorem ATs_go : ∀ {ts : List Expr} {vs : List Value} {vv : List Value} {Q : Loc → Mem → Prop} {loc : Loc} {M : Mem}, vv.map er = vs → ATs X n fz L env ts vs Q loc M → WT X n fz L (assignInOrder (ts.map fun t => assign t env) vv) (fun _ l m => Q l m) loc M
  | [], [], [], Q, loc, M, _, h => fun A s r F o => assignInOrder_nil ⟨loc, M, F, Like.refl s, h⟩
  | t :: ts, v :: vs, w :: ws, Q, loc, M, e, h => fun A s r F o => by
    simp only [List.map_cons, List.cons.injEq] at e
    refine assignInOrder_cons (wpAny_mono (h w e.1 A s r F o) (fun _ s₁ hq => ?_) (fun _ _ e => e))
    (refine obEEAA (hq) ?_; intro l₁ M₁ F₁ k₁ q)
    exact WT.use (ATs_go e.2 q) r F₁ k₁ o
  | [], _ :: _, _, _, _, _, _, h => h.elim
  | _ :: _, [], _, _, _, _, _, h => h.elim
  | _ :: _, _ :: _, [], _, _, _, e, _ => by cases e
  | [], [], _ :: _, _, _, _, e, _ => by cases e
theorem E1_AssignTuple {Q : QF} {elts : List Expr} {kk : Nat} {tp pos : Pos} {e : Expr} (h : EV X n fz L env e (fun v l m => ∃ D vs, v = .ref D ∧ RdM X m D (.tup vs) ∧ elts.length = vs.length ∧ ATs X n fz L env elts vs (fun l m => Q .next l m) l m) loc M)
    (hae : assignEach elts env = elts.map fun t => (false, assign t env) := by rfl)
    (hs : swapsWithSole [.Tuple elts kk tp] e pos.line env = pure false := by rfl)
    (hw : swappedStores [.Tuple elts kk tp] e env = pure none := by rfl) : E1 X n fz L env (.Assign [.Tuple elts kk tp] e pos) Q loc M := fun A s r F o => by
  refine Assign_Tuple (wpAny_mono (h A s r F o) (fun v s₁ hq => ?_) (fun _ _ e => e)) hs hw
  (refine obEEAAEEAAA (hq) ?_; intro l₁ M₁ F₁ k₁ D vs e hm hlen q)
  rw [er_ref e]
  (refine obEA (hm.get F₁) ?_; intro us ht h2)
  have hsz : us.size = vs.length := by rw [← h2, List.length_map, Array.length_toList]
  refine assign_Tuple_tuple r.handled ht (by rw [hae, List.length_map, hlen, hsz]) (by rw [hae, List.findIdx?_map]; simp) fun h' he => ?_
  have F₂ : FV X fz L l₁ M₁ h' := F₁.ext fun b o hb => he b o (Nat.ne_of_lt (Heap.lt_size hb)) hb
  have ee : (assignEach elts env).map (·.2) = elts.map fun t => assign t env := by rw [hae, List.map_map]; rfl
  rw [ee]
  exact wpAny_mono (WT.use (ATs_go h2 q) r F₂ (k₁.trans (Like.heap s₁ h')) o) (fun _ _ q => q) (fun _ _ e => e)
end
end Mine
end
section
set_option linter.unusedVariables false
set_option maxRecDepth 100000
namespace Mine
open PySem PySem.W PySem.Calls PyProof.Rows PySem.SeqAt
open PySem.AutoSeq1 (wpAny_loadPart')
open PySem.MeetsSeq PySem.MeetsSeq2 PySem.MeetsSeq3

section
variable {prog : Program} {w : World}
noncomputable def EqP (prog : Program) (w : World) (A : Around) (s : Shared) (y x : Value) : Prop :=
  ∀ (E : Value → Shared → Prop) (Q : Bool → Shared → Prop), Q true s → wpAny (model prog w) A (eqBool y x) Q E s

theorem lne_loop (l b : Addr) (items items2 : Array Value) (n n2 : Nat) (dd dd2 : Option Addr) (sl sl2 : Array (Option Value)) (hsz : items.size = items2.size) (k : Nat) :
    ∀ i : Nat, items.size - i = k → ∀ (A : Around) (R : Result → Shared → Prop) (s : Shared), (s.heap.get? l = some { cls := .type "list", dict := dd, data := .seq items n, slots := sl } ∧ s.heap.get? b = some { cls := .type "list", dict := dd2, data := .seq items2 n2, slots := sl2 } ∧
        (∀ j (h1 : j < items.size) (h2 : j < items2.size), EqP prog w A.in1 s items[j] items2[j]) ∧ R (.ok (.ret (.bool false))) s) →
      wpAny (model prog w) A.in1 (Builtin.«list.__eq__.loop» ⟨[.ref l, .ref b, rawInt i, rawInt 3], []⟩) (fun fin s' => match fin with | .done f => R (.ok f) s' | .again c' => c'.quiet = true ∧ codeAny (model prog w) A c' R s') (fun e s' => R (.error e) s') s := by
  induction k with
  | zero =>
    intro i hk A R s h
    obtain ⟨hp, g, d, tk, os⟩ := s; obtain ⟨hl, hb, he, h⟩ := h
    wp_walk using wpAny_loadPart' hl, wpAny_loadPart' hb
    have hi1 : items[((i : Nat) : Int).toNat]? = none := by simp; (lia)
    have hi2 : items2[((i : Nat) : Int).toNat]? = none := by simp; (lia)
    rw [hi1, hi2]
    wp_walk using wpAny_loadPart' hl, wpAny_loadPart' hb
    show R (.ok (.ret (.bool (items.size != items2.size)))) _
    rw [hsz]
    simpa using h
  | succ k ih =>
    intro i hk A R s h
    obtain ⟨hp, g, d, tk, os⟩ := s; obtain ⟨hl, hb, he, h⟩ := h
    wp_walk using wpAny_loadPart' hl, wpAny_loadPart' hb
    have hlt : i < items.size := by (clear h he hb hl ih hsz; omega)
    have hlt2 : i < items2.size := by (lia)
    have hi1 : items[((i : Nat) : Int).toNat]? = some items[i] := by simp [hlt]
    have hi2 : items2[((i : Nat) : Int).toNat]? = some items2[i] := by simp [hlt2]
    have hc : ((i : Int) + 1) = ((i + 1 : Nat) : Int) := by push_cast; rfl
    rw [hi1, hi2]
    refine wpAny_bind (he i hlt hlt2 _ _ ?_)
    wp_walk
    rw [hc]
    exact ⟨plainId_quiet plain_eq_loop _, codeAny_builtin entry_eq_loop (by
      rw [Around.under_plainId plain_eq_loop _]
      exact ih (i + 1) (by (lia)) A R _ ⟨hl, hb, he, h⟩)⟩

theorem lne_lists {A : Around} {s : Shared} {l b : Addr} {items items2 : Array Value} {Q E : Value → Shared → Prop} (hl : s.heap.IsList l items) (hb : s.heap.IsList b items2) (hsz : items.size = items2.size) (hu : A.units < cLine)
    (he : ∀ j (h1 : j < items.size) (h2 : j < items2.size), EqP prog w A.in1 s items[j] items2[j]) (h : Q (.bool false) s) : wpAny (model prog w) A (richCompare .NotEq (.ref l) (.ref b)) Q E s := by
  (refine obEAAE (id hl) ?_; intro hz0 ho hc n hd; refine dn fun hG0 => ?_; obtain ⟨cls, dd, data, sl⟩ := hz0; refine hG0 ?_; clear hG0)
  (refine obEAAE (id hb) ?_; intro hz0 ho2 hc2 n2 hd2; refine dn fun hG0 => ?_; obtain ⟨cls2, dd2, data2, sl2⟩ := hz0; refine hG0 ?_; clear hG0)
  simp only at hc hd hc2 hd2
  subst hc hd hc2 hd2
  refine wpAny_richCompare_same_room (op := .NotEq) ⟨_, ho, rfl⟩ ⟨_, ho2, rfl⟩ PySem.F.slot_list_ne ?_ hu
  refine wpAny_call (codeAny_call_builtin PySem.F.slot_list_ne.plain PySem.F.entry_list_ne (PySem.F.slot_list_ne.check _ _ _ _ _ _ _ _ ⟨_, ho, rfl⟩ (PySem.F.args_list_ne_2 _ _) ?_))
  (refine dn fun hG0 => ?_; obtain ⟨hp, g, d, tk, os⟩ := s; refine hG0 ?_; clear hG0)
  have f3 := AutoSeq1.sub_list_list
  have hne : ¬ (items.size != items2.size) = true := by simp [hsz]
  dsimp only at ho ho2
  wp_walk using wpAny_loadPart' ho, wpAny_loadPart' ho2
  exact ⟨plainId_quiet plain_eq_loop _, codeAny_builtin entry_eq_loop (by
    rw [Around.under_plainId plain_eq_loop _]
    exact lne_loop l b items items2 n n2 dd dd2 sl sl2 hsz _ 0 rfl A (wants (fun v s' => v ≠ .notImplemented ∧ Q v s') E) _ ⟨ho, ho2, he, (show Value.bool false ≠ Value.notImplemented ∧ Q (.bool false) _ from ⟨(fun x => nomatch x), h⟩)⟩)⟩
end

section
variable {X : Cx} {n : Nat} {fz : Frz} {L : Addr} {loc : Loc} {M : Mem} {env : Env} {a b : Addr}

inductive SameM (X : Cx) (M : Mem) : Nat → Value → Value → Prop
  | int (k : Nat) (i : Int) : SameM X M k (.int i 0) (.int i 0)
  | str (k : Nat) (x : Str) : SameM X M k (.str x 0) (.str x 0)
  | none (k : Nat) : SameM X M k .none .none
  | bool (k : Nat) (b : Bool) : SameM X M k (.bool b) (.bool b)
  | lst {k : Nat} {a b : Addr} {xs ys : List Value} : RdM X M a (.lst xs) → RdM X M b (.lst ys) → xs.length = ys.length → (∀ (j : Nat) x y, xs[j]? = some x → ys[j]? = some y → SameM X M k x y) → SameM X M (k + 1) (.ref a) (.ref b)
  | tup {k : Nat} {a b : Addr} {xs ys : List Value} : RdM X M a (.tup xs) → RdM X M b (.tup ys) → xs.length = ys.length → (∀ (j : Nat) x y, xs[j]? = some x → ys[j]? = some y → SameM X M k x y) → SameM X M (k + 1) (.ref a) (.ref b)

theorem SameM.eqAt {k : Nat} {v w : Value} (h : SameM X M k v w) : ∀ {A : Around} {s : Shared} {vv ww : Value}, FV X fz L loc M s.heap → er vv = v → er ww = w → A.units + 2 * k < cLine → EqAt A s vv ww true := by
  induction h with
  | int k i =>
    intro A s vv ww F e1 e2 hu
    (refine obE (er_int e1) ?_; intro t hz1; subst hz1)
    (refine obE (er_int e2) ?_; intro u hz1; subst hz1)
    have := EqAt.int_int (A := A) (s := s) i t i u
    simpa using this
  | str k x =>
    intro A s vv ww F e1 e2 hu
    (refine obE (er_str e1) ?_; intro t hz1; subst hz1)
    (refine obE (er_str e2) ?_; intro u hz1; subst hz1)
    have := EqAt.str_str (A := A) (s := s) x t x u
    simpa using this
  | none k =>
    intro A s vv ww F e1 e2 hu
    rw [er_none e1, er_none e2]
    exact EqAt.same _
  | bool k b =>
    intro A s vv ww F e1 e2 hu
    rw [er_bool e1, er_bool e2]
    exact EqAt.same _
  | @lst k a b xs ys h1 h2 hl _ ih =>
    intro A s vv ww F e1 e2 hu
    rw [er_ref e1, er_ref e2]
    by_cases hab : a = b
    · subst hab; exact EqAt.same _
    · (refine obEA (h1.get F) ?_; intro us g1 g2)
      (refine obEA (h2.get F) ?_; intro ws g3 g4)
      have z1 : us.size = xs.length := by rw [← g2, List.length_map, Array.length_toList]
      have z2 : ws.size = ys.length := by rw [← g4, List.length_map, Array.length_toList]
      have r := RcAt.lists (A := A) (s := s) (e := fun _ => true) g1 g3 (by (lia)) (by (lia)) (fun j j1 j2 =>
        ih j (er us[j]) (er ws[j]) (by subst g2; simp [j1]) (by subst g4; simp [j2]) F rfl rfl (by show A.units + 1 + 2 * k < cLine; (lia)))
      have e : (List.range us.size).all (fun _ => true) = true := by simp
      rw [e] at r
      exact EqAt.of_refs hab r
  | @tup k a b xs ys h1 h2 hl _ ih =>
    intro A s vv ww F e1 e2 hu
    rw [er_ref e1, er_ref e2]
    by_cases hab : a = b
    · subst hab; exact EqAt.same _
    · (refine obEA (h1.get F) ?_; intro us g1 g2)
      (refine obEA (h2.get F) ?_; intro ws g3 g4)
      have z1 : us.size = xs.length := by rw [← g2, List.length_map, Array.length_toList]
      have z2 : ws.size = ys.length := by rw [← g4, List.length_map, Array.length_toList]
      have r := RcAt.tuples (A := A) (s := s) (e := fun _ => true) g1 g3 (by (lia)) (fun j j1 j2 =>
        ih j (er us[j]) (er ws[j]) (by subst g2; simp [j1]) (by subst g4; simp [j2]) F rfl rfl (by show A.units + 1 + 2 * k < cLine; (lia)))
      have e : ((List.range (min us.size ws.size)).all (fun _ => true) && us.size == ws.size) = true := by simp; (lia)
      rw [e] at r
      exact EqAt.of_refs hab r

noncomputable def SameD (X : Cx) (M : Mem) (v w : Value) : Prop := ∃ a b es fs, v = .ref a ∧ w = .ref b ∧ RdM X M a (.dct es) ∧ RdM X M b (.dct fs) ∧ es.map (·.1) = fs.map (·.1) ∧ (es.map (·.1)).Nodup ∧ ∀ (j : Nat) x y, es[j]? = some x → fs[j]? = some y → SameM X M 2 x.2 y.2

theorem valueAt_idx {kvs : List (Str × Value)} (hnd : (kvs.map (·.1)).Nodup) {j : Nat} {p : Str × Value} (h : kvs[j]? = some p) : valueAt kvs p.1 = some p.2 := by
  induction kvs generalizing j with
  | nil => simp at h
  | cons q r ih =>
    unfold valueAt
    rw [List.map_cons, List.nodup_cons] at hnd
    cases j with
    | zero => simp at h; subst h; simp
    | succ j =>
      simp only [List.getElem?_cons_succ] at h
      have : p.1 ∈ r.map (·.1) := List.mem_map_of_mem (List.mem_of_getElem? h)
      have ne : q.1 ≠ p.1 := fun e => hnd.1 (e ▸ this)
      have := ih hnd.2 h
      unfold valueAt at this
      simp [ne, this]
theorem hits_of {A : Around} {s : Shared} {kb : List (Str × Value)} (hnd : (kb.map (·.1)).Nodup) : ∀ (ka : List (Str × Value)) (i : Nat), ka.map (·.1) = (kb.drop i).map (·.1) →
    (∀ (j : Nat) x y, ka[j]? = some x → kb[i + j]? = some y → EqAt A s x.2 y.2 true) → KeqHits A s kb ka true
  | [], _, _, _ => .nil
  | (k, v) :: r, i, hk, he => by
    cases hd : kb[i]? with
    | none =>
      have : kb.drop i = [] := List.drop_eq_nil_iff.mpr (List.getElem?_eq_none_iff.mp hd)
      rw [this] at hk; cases hk
    | some p =>
      have hlt : i < kb.length := (List.getElem?_eq_some_iff.mp hd).1
      have e : kb.drop i = p :: kb.drop (i + 1) := by
        rw [List.drop_eq_getElem_cons hlt]
        have := (List.getElem?_eq_some_iff.mp hd).2
        rw [this]
      rw [e, List.map_cons, List.map_cons, List.cons.injEq] at hk
      have hv := valueAt_idx hnd hd
      dsimp only at hk
      rw [← hk.1] at hv
      have h1 := he 0 (k, v) p rfl (by simpa using hd)
      have h2 := hits_of hnd r (i + 1) hk.2 (fun j x y hx hy => he (j + 1) x y (by simpa using hx) (by rw [← hy]; congr 1; (clear hy hx h1 hv e hlt hd hk he hnd; lia)))
      exact KeqHits.hit (e := true) (b := true) hv h1 h2
theorem sysM {a : Addr} (h : 3 < a) : (a == sysModules) = false := by
  have : a ≠ sysModules := fun e => by rw [e] at h; exact absurd h (by decide)
  simpa using this
theorem SameD.hits {v w : Value} (h : SameD X M v w) {A : Around} {s : Shared} {vv ww : Value} (F : FV X fz L loc M s.heap) (e1 : er vv = v) (e2 : er ww = w) (hu : A.units + 4 < cLine) :
    ∃ a b ka kb, vv = .ref a ∧ ww = .ref b ∧ 3 < a ∧ 3 < b ∧ s.heap.DictOf (strKind X.prog X.w) a ka ∧ s.heap.DictOf (strKind X.prog X.w) b kb ∧ ka.length = kb.length ∧ KeqHits A s kb ka true := by
  (refine obEEEEAAAAAA (h) ?_; intro a b es fs hz4 hz5 h1 h2 hk hnd hs; subst hz4; subst hz5)
  (refine obEAA (h1.get F) ?_; intro ka g1 g2 g3)
  (refine obEAA (h2.get F) ?_; intro kb g4 g5 g6)
  have k1 : ka.map (·.1) = es.map (·.1) := by rw [← g3, List.map_map]; rfl
  have k2 : kb.map (·.1) = fs.map (·.1) := by rw [← g6, List.map_map]; rfl
  have hl : ka.length = kb.length := by
    have := congrArg List.length (k1.trans (hk.trans k2.symm))
    simpa using this
  refine ⟨a, b, ka, kb, er_ref e1, er_ref e2, g2, g5, g1, g4, hl, hits_of (by rw [k2, ← hk]; exact hnd) ka 0 (by rw [List.drop_zero, k1, hk, k2]) fun j x y hx hy => ?_⟩
  rw [Nat.zero_add] at hy
  exact (hs j (x.1, er x.2) (y.1, er y.2) (by rw [← g3, List.getElem?_map, hx]; rfl) (by rw [← g6, List.getElem?_map, hy]; rfl)).eqAt F rfl rfl hu
theorem SameD.eqP {v w : Value} (h : SameD X M v w) {A : Around} {s : Shared} {vv ww : Value} (F : FV X fz L loc M s.heap) (e1 : er vv = v) (e2 : er ww = w) (hu : A.units + 8 < cLine) : EqP X.prog X.w A s vv ww := by
  obtain ⟨a, b, ka, kb, rfl, rfl, l1, l2, d1, d2, hl, hits⟩ := h.hits (A := A.in1) F e1 e2 (by show A.units + 1 + 4 < cLine; (lia))
  intro E Q q
  by_cases hab : a = b
  · subst hab; exact EqAt.same _ _ _ E Q q
  · unfold eqBool
    refine wpAny_holding ?_
    refine wpAny_ite_split (fun hab' => absurd (by have := eq_of_beq hab'; injection this) hab) (fun _ => ?_)
    refine wpAny_bind (m := richCompare .Eq (.ref a) (.ref b)) ?_
    exact keq_eq (sysM l1) (sysM l2) d1 d2 (by (lia)) (fun _ => hits) (wpAny_truthy_bool (by simpa [hl] using q))
theorem O2_ne_dct {Q : QV} {v w : Value} (hs : SameD X M v w) (hn : 2 ≤ n) (h : Q (.bool false) loc M) : O2 X n fz L (compareOp .NotEq) v w Q loc M := fun va vb e1 e2 A s r F o => by
  have hu := r.units
  obtain ⟨a, b, ka, kb, rfl, rfl, l1, l2, d1, d2, hl, hits⟩ := hs.hits (A := A.in1) F e1 e2 (by show A.units + 1 + 4 < cLine; (lia))
  refine keq_ne (sysM l1) (sysM l2) d1 d2 (by (lia)) (fun _ => hits) ⟨loc, M, F, Like.refl s, ?_⟩
  simpa [hl] using h
theorem O2_ne_dcts {Q : QV} {xs ys : List Value} (h1 : RdM X M a (.lst xs)) (h2 : RdM X M b (.lst ys)) (hl : xs.length = ys.length) (hs : ∀ (j : Nat) x y, xs[j]? = some x → ys[j]? = some y → SameD X M x y) (hn : 2 ≤ n) (h : Q (.bool false) loc M) :
    O2 X n fz L (compareOp .NotEq) (.ref a) (.ref b) Q loc M := fun va vb e1 e2 A s r F o => by
  rw [er_ref e1, er_ref e2]
  have hu := r.units
  (refine obEA (h1.get F) ?_; intro us g1 g2)
  (refine obEA (h2.get F) ?_; intro ws g3 g4)
  have z1 : us.size = xs.length := by rw [← g2, List.length_map, Array.length_toList]
  have z2 : ws.size = ys.length := by rw [← g4, List.length_map, Array.length_toList]
  show wpAny _ _ (richCompare .NotEq (.ref a) (.ref b)) _ _ _
  refine lne_lists g1 g3 (by (lia)) (by (lia)) (fun j j1 j2 => (hs j (er us[j]) (er ws[j]) (by subst g2; simp [j1]) (by subst g4; simp [j2])).eqP F rfl rfl (by show A.units + 1 + 8 < cLine; (lia))) ⟨loc, M, F, Like.refl s, h⟩

theorem EV_bool1 {Q : QV} {op e pos} (h : EV X n fz L env e Q loc M) : EV X n fz L env (.BoolOp op [e] pos) Q loc M := h
theorem EV_orN {Q : QV} {x y rest pos} (h : EV X n fz L env x (fun a lo m => O1B X n fz L truthy a (fun t lo m => (t = true → Q a lo m) ∧ (t = false → EV X n fz L env (.BoolOp .Or (y :: rest) pos) Q lo m)) lo m) loc M) : EV X n fz L env (.BoolOp .Or (x :: y :: rest) pos) Q loc M := fun A s rm F o =>
  BoolOp_or (wpAny_mono (h A s rm F o) (fun v _ w => obEEAA w fun _ _ f' k' q => wpAny_mono (WT.use (q v rfl) rm f' k' o) (fun t s' w => obEEAA w fun l' M' f' k' q => by
    cases t
    · exact WT.use (q.2 rfl) rm f' k' o
    · exact ⟨l', M', f', k', q.1 rfl⟩) (fun _ _ e => e)) (fun _ _ e => e))
theorem EV_chain2 {Q : QV} {l r₁ r₂ : Expr} {op₁ op₂ : CmpOp} {pos : Pos}
    (h : EV X n fz L env l (fun a lo m => EV X n fz L env r₁ (fun b lo m => O2 X n fz L (compareOp op₁) a b (fun c lo m => O1B X n fz L truthy c (fun t lo m =>
      (t = true → EV X n fz L env r₂ (fun d lo m => O2 X n fz L (compareOp op₂) b d Q lo m) lo m) ∧ (t = false → Q c lo m)) lo m) lo m) lo m) loc M)
    (hm : lastMarks [op₁, op₂] [r₁, r₂] = false := by with_unfolding_all rfl) : EV X n fz L env (.Compare l [op₁, op₂] [r₁, r₂] pos) Q loc M := fun A s rm F o => by
  refine Compare_chain (wpAny_mono (h A s rm F o) (fun va s₁ hq => chain_link ?_) (fun _ _ e => e)) hm
  (refine obEEAA (hq) ?_; intro l₁ M₁ F₁ k₁ q)
  refine wpAny_mono (WT.use q rm F₁ k₁ o) (fun vb s₂ hq => ?_) (fun _ _ e => e)
  (refine obEEAA (hq) ?_; intro l₂ M₂ F₂ k₂ q)
  refine wpAny_mono (WT.use (q va vb rfl rfl) rm F₂ k₂ o) (fun vc s₃ hq => ?_) (fun _ _ e => e)
  (refine obEEAA (hq) ?_; intro l₃ M₃ F₃ k₃ q)
  refine wpAny_mono (WT.use (q vc rfl) rm F₃ k₃ o) (fun t s₄ hq => ?_) (fun _ _ e => e)
  (refine obEEAA (hq) ?_; intro l₄ M₄ F₄ k₄ q)
  cases t with
  | false => exact ⟨l₄, M₄, F₄, k₄, q.2 rfl⟩
  | true =>
    refine chain_last (wpAny_mono (WT.use (q.1 rfl) rm F₄ k₄ o) (fun vd s₅ hq => ?_) (fun _ _ e => e))
    (refine obEEAA (hq) ?_; intro l₅ M₅ F₅ k₅ q)
    exact WT.use (q vb vd rfl rfl) rm F₅ k₅ o

noncomputable def intsV (ns : List Int) : List Value := ns.map fun i => .int i 0
theorem O2_in_tupI {Q : QV} {i : Int} {ns : List Int} (hm : RdM X M b (.tup (intsV ns))) (h : Q (.bool (decide (i ∈ ns))) loc M) : O2 X n fz L (compareOp .In) (.int i 0) (.ref b) Q loc M := fun va vb e1 e2 A s r F o => by
  (refine obE (er_int e1) ?_; intro t hz1; subst hz1)
  rw [er_ref e2]
  (refine obEA (hm.get F) ?_; intro us hz1 h2; refine dn fun hG0 => ?_; obtain ⟨ob, ho, hc, nn, hd⟩ := hz1; refine hG0 ?_; clear hG0)
  have isI : ∀ y ∈ us, ∃ j u, y = .int j u ∧ j ∈ ns := fun y hy => by
    have : er y ∈ intsV ns := h2 ▸ List.mem_map_of_mem (by simpa using hy)
    (refine obEA (List.mem_map.mp this) ?_; intro j hj e)
    (refine obE (er_int e.symm) ?_; intro u hz1; subst hz1)
    exact ⟨j, u, rfl, hj⟩
  refine SeqAt.in_tupleAt (fun y => match y with | .int j _ => j == i | _ => false) ⟨ob, ho, hc, nn, hd⟩ (fun y hy => ?_) ⟨loc, M, F, Like.refl s, ?_⟩
  · (refine obEEA (isI y hy) ?_; intro j u hz2 _; subst hz2)
    exact SeqAt.EqAt.int_int j u i t
  · have : us.any (fun y => match y with | .int j _ => j == i | _ => false) = decide (i ∈ ns) := by
      rw [Bool.eq_iff_iff, decide_eq_true_eq, ← Array.any_toList, List.any_eq_true]
      constructor
      · rintro ⟨y, hy, e⟩
        (refine obEEA (isI y (by simpa using hy)) ?_; intro j u hz2 hj; subst hz2)
        simp at e; subst e; exact hj
      · intro hi
        have : Value.int i 0 ∈ us.toList.map er := by rw [h2]; exact List.mem_map_of_mem hi
        (refine obEA (List.mem_map.mp this) ?_; intro y hy e)
        (refine obE (er_int e) ?_; intro u hz1; subst hz1)
        exact ⟨_, hy, by simp⟩
    show Q (.bool (us.any _)) loc M
    rw [this]; exact h
end
end Mine
end
section
set_option linter.unusedVariables false
set_option maxRecDepth 100000
namespace Mine
open PySem PySem.W PySem.Calls PyProof.Rows

noncomputable def tblF (l : List (Str × Value)) : Str → Option Value := fun x => l.lookup x
noncomputable def putA : List (Str × Value) → Str → Value → List (Str × Value)
  | [], x, v => [(x, v)]
  | (y, w) :: r, x, v => if y = x then (y, v) :: r else (y, w) :: putA r x v
theorem setL_tbl (l : List (Str × Value)) (x : Str) (v : Value) : setL (tblF l) x v = tblF (putA l x v) := by
  funext y
  unfold setL tblF
  induction l with
  | nil =>
    by_cases h : y = x
    · subst h; simp [putA]
    · have : (y == x) = false := by simpa using h
      simp [putA, h]
      simp [List.lookup, this]
  | cons p r ih =>
    (refine dn fun hG0 => ?_; obtain ⟨z, w⟩ := p; refine hG0 ?_; clear hG0)
    unfold putA
    by_cases hz : z = x
    · subst hz
      rw [if_pos rfl]
      by_cases h : y = z
      · subst h; simp [List.lookup]
      · have : (y == z) = false := by simpa using h
        simp [List.lookup, this, h]
    · rw [if_neg hz]
      by_cases h : y = z
      · subst h
        simp [List.lookup, hz]
      · have : (y == z) = false := by simpa using h
        simp only [List.lookup, this]
        exact ih
theorem none_tbl : (fun _ => none : Str → Option Value) = tblF [] := rfl
theorem bindL1 (a : Str) (v : Value) : bindL [(a, v)] = setL (fun _ => none) a v := by
  funext x; unfold bindL setL
  by_cases h : x = a
  · subst h; simp
  · have : (x == a) = false := by simpa using h
    simp [h, List.lookup, this]
theorem bindL_snoc (l : List (Str × Value)) (a : Str) (v : Value) : bindL (l ++ [(a, v)]) = setL (bindL l) a v := by
  funext x; unfold bindL setL
  rw [List.reverse_append]
  by_cases h : x = a
  · subst h; simp
  · have : (x == a) = false := by simpa using h
    simp [h, List.lookup, this]
theorem bindL2 (a b : Str) (v w : Value) : bindL [(a, v), (b, w)] = setL (setL (fun _ => none) a v) b w := by
  rw [← bindL1]; exact bindL_snoc [(a, v)] b w
theorem bindL3 (a b c : Str) (v w u : Value) : bindL [(a, v), (b, w), (c, u)] = setL (setL (setL (fun _ => none) a v) b w) c u := by
  rw [← bindL2]; exact bindL_snoc [(a, v), (b, w)] c u
theorem bindL4 (a b c d : Str) (v w u z : Value) : bindL [(a, v), (b, w), (c, u), (d, z)] = setL (setL (setL (setL (fun _ => none) a v) b w) c u) d z := by
  rw [← bindL3]; exact bindL_snoc [(a, v), (b, w), (c, u)] d z
theorem bindL5 (a b c d e : Str) (v w u z y : Value) : bindL [(a, v), (b, w), (c, u), (d, z), (e, y)] = setL (setL (setL (setL (setL (fun _ => none) a v) b w) c u) d z) e y := by
  rw [← bindL4]; exact bindL_snoc [(a, v), (b, w), (c, u), (d, z)] e y

theorem setL_setL (m : Loc) (x : Str) (v w : Value) : setL (setL m x v) x w = setL m x w := by
  funext y; unfold setL; split <;> rfl
theorem setM_old {M : Mem} {a D : Addr} {o x : AO} (hD : M D = none) (ha : M a = some x) : setM M D o a = some x := by
  have : a ≠ D := fun e => by rw [e, hD] at ha; cases ha
  rw [setM_ne _ _ this]; exact ha
theorem setM_none {M : Mem} {a D : Addr} {o : AO} (h : setM M D o a = none) : M a = none ∧ a ≠ D := by
  by_cases e : a = D
  · subst e; rw [setM_same] at h; cases h
  · rw [setM_ne _ _ e] at h; exact ⟨h, e⟩

theorem setL_other {m : Loc} {x y : Str} {v : Value} {w : Option Value} (h : x ≠ y) (e : m x = w) : setL m y v x = w := (if_neg h).trans e
theorem setL_self (m : Loc) (x : Str) (v : Value) : setL m x v x = some v := if_pos rfl
theorem sH {m : Loc} {x : Str} {v : Value} : setL m x v x = some v := if_pos rfl
theorem sS {m : Loc} {x y : Str} {v : Value} {w : Option Value} (e : m x = w) (h : (x == y) = false := by kernel_rfl) : setL m y v x = w := setL_other (by simpa using h) e
theorem tH {r : List (Str × Value)} {x : Str} {v : Value} : tblF ((x, v) :: r) x = some v := by unfold tblF; simp [List.lookup]
theorem tE {r : List (Str × Value)} {x y : Str} {v : Value} (h : (x == y) = true := by kernel_rfl) : tblF ((y, v) :: r) x = some v := by unfold tblF; simp [List.lookup, h]
theorem tS {r : List (Str × Value)} {x y : Str} {v : Value} {w : Option Value} (e : tblF r x = w) (h : (x == y) = false := by kernel_rfl) : tblF ((y, v) :: r) x = w := by unfold tblF at e ⊢; simp [List.lookup, h, e]
theorem tN {x : Str} : tblF [] x = none := rfl
theorem pH {r : List (Str × Value)} {x : Str} {v w : Value} : putA ((x, w) :: r) x v = (x, v) :: r := if_pos rfl
theorem pS {r l : List (Str × Value)} {x y : Str} {v w : Value} (e : putA r x v = l) (h : (x == y) = false := by kernel_rfl) : putA ((y, w) :: r) x v = (y, w) :: l := by
  unfold putA
  have : ¬ y = x := fun z => by rw [z] at h; simp at h
  rw [if_neg this, e]
theorem pN {x : Str} {v : Value} : putA [] x v = [(x, v)] := rfl
end Mine
namespace Mine
open PySem PySem.W PySem.Calls PyProof.Rows
section
variable {X : Cx} {n : Nat} {fz : Frz} {L : Addr} {loc : Loc} {M M0 : Mem} {env : Env} {a b C : Addr} {k : Nat} {l l' : List (Str × Value)} {name : Str} {v : Value}
theorem SA_tbl {Q : Loc → Mem → Prop} {k' : Nat} (hm : M a = some (.inst C k (tblF l))) (ok : StoreOk X.K C name) (hk : (tblF l name).isSome = true ∧ k' = k ∨ k' = k + 1) (h1000 : k' ≤ 900) (hp : putA l name v = l')
    (h : Q loc (setM M a (.inst C k' (tblF l')))) : SA X n fz L (.ref a) name v Q loc M := SA_go hm ok hk h1000 (by rw [setL_tbl, hp]; exact h)
theorem SA_tbl2 {Q : Loc → Mem → Prop} {k' : Nat} (ok : StoreOk X.K C name) (hk : (tblF l name).isSome = true ∧ k' = k ∨ k' = k + 1) (h1000 : k' ≤ 900) (hp : putA l name v = l')
    (h : Q loc (setM M0 a (.inst C k' (tblF l')))) : SA X n fz L (.ref a) name v Q loc (setM M0 a (.inst C k (tblF l))) := SA_tbl (setM_same _ _ _) ok hk h1000 hp (by rw [setM_setM]; exact h)
theorem EV_builtinF {Q : QV} {x : Str} {p : Pos} {id : String} (hE : Fun env L) (hx : env.kindOf x = some .globalImplicit) (hv : nsIn X.K mainGlobals x = some none) (hb : bootBuiltins x = some (.builtin id)) (h : Q (.builtin id) loc M)
    (hn : x ≠ "__name__" := by decide +kernel) (hd : (x == ("__debug__" : Str)) = false := by decide +kernel) : EV X n fz L env (.Name x p) Q loc M := EV_builtin hE hx hv hb h hn hd
theorem EV_gref {Q : QV} {x : Str} {p : Pos} {a : Addr} (hE : Fun env L) (hx : env.kindOf x = some .globalImplicit) (hv : nsIn X.K mainGlobals x = some (some (.ref a))) (h : Q (.ref a) loc M)
    (hd : (x == ("__debug__" : Str)) = false := by decide +kernel) : EV X n fz L env (.Name x p) Q loc M := EV_global hE hx hv h hd
theorem EV_gnone {Q : QV} {x : Str} {p : Pos} (hE : Fun env L) (hx : env.kindOf x = some .globalImplicit) (hv : nsIn X.K mainGlobals x = some (some .none)) (h : Q .none loc M)
    (hd : (x == ("__debug__" : Str)) = false := by decide +kernel) : EV X n fz L env (.Name x p) Q loc M := EV_global hE hx hv h hd
theorem KeepOk.bf (id : String) : KeepOk X (.builtin id) := .inl ⟨_, rfl⟩
theorem KeepOk.rf (h : keepIn X.K (.ref a) = true) : KeepOk X (.ref a) := .inr (.inr h)
theorem CW_go0 {Q : QV} {pos : Pos} {f : Value} {args : List Expr} (hk : KeepOk X f) (h : AR X n fz L env args (fun vs l m => CA X n fz L f vs Q l m) loc M)
    (hs : args.any isStarred = false := by rfl) : CW X n fz L env pos f [] args Q loc M := CW_go hk h hs
theorem CW_go1 {Q : QV} {pos : Pos} {f w : Value} {args : List Expr} (hk : KeepOk X f) (h : AR X n fz L env args (fun vs l m => CA X n fz L f (w :: vs) Q l m) loc M)
    (hs : args.any isStarred = false := by rfl) : CW X n fz L env pos f [w] args Q loc M := CW_go hk h hs
theorem EX_cut {Q : QF} {st : Stmt} {rest : List Stmt} {R : Loc → Mem → Prop} (h1 : E1 X n fz L env st (fun f l m => f = .next ∧ R l m) loc M) (h2 : ∀ l m, R l m → EX X n fz L env rest Q l m) : EX X n fz L env (st :: rest) Q loc M :=
  EX_cons (WT.mono h1 fun f l m ⟨e, r⟩ => by show seqQ X n fz L env rest Q (erF f) l m; rw [e]; exact h2 l m r)
theorem EX_cutG {Q : QF} {st : Stmt} {rest : List Stmt} {R : Loc → Mem → Prop} (h1 : ∀ R' : Loc → Mem → Prop, (∀ l m, R l m → R' l m) → E1 X n fz L env st (fun f l m => f = .next ∧ R' l m) loc M) (h2 : ∀ l m, R l m → EX X n fz L env rest Q l m) : EX X n fz L env (st :: rest) Q loc M := EX_cut (h1 R fun _ _ h => h) h2
theorem E1_WhileG {Q : QF} {test : Expr} {body : List Stmt} {pos : Pos} (I : Nat → Loc → Mem → Prop) (k : Nat) (h0 : I k loc M)
    (h : ∀ k l m, I k l m → ∀ R' : Loc → Mem → Prop, (∀ k' l m, k' < k → I k' l m → R' l m) → TV X n fz L env test (fun b l m => (b = true → EX X n fz L env body (loopQ Q R') l m) ∧ (b = false → Q .next l m)) l m) :
    E1 X n fz L env (.While test body [] pos) Q loc M := E1_While I k h0 fun k l m i => h k l m i _ fun k' l m lt i => ⟨k', lt, i⟩
theorem GA_clsI {Q : QV} {f : Str → Option Value} {i : Int} {t : Tok} (hm : M a = some (.inst C k f)) (hf : f name = none) (ok : ClsOk X.K C name (.int i t)) (h : Q (.int i 0) loc M) :
    O1 X n fz L (fun o => getAttr o name true) (.ref a) Q loc M := GA_cls hm hf ok h
theorem EX_cutR {Q : QF} {st : Stmt} {rest : List Stmt} {R : Loc → Mem → Prop} (h1 : E1 X n fz L env st (fun f l m => (f = .next ∧ R l m) ∨ ∃ v, f = .ret v ∧ Q (.ret v) l m) loc M) (h2 : ∀ l m, R l m → EX X n fz L env rest Q l m) : EX X n fz L env (st :: rest) Q loc M :=
  EX_cons (WT.mono h1 fun f l m h => by
    show seqQ X n fz L env rest Q (erF f) l m
    rcases h with ⟨e, r⟩ | ⟨v, e, q⟩
    · rw [e]; exact h2 l m r
    · rw [e]; exact q)
theorem ATs_nil {Q : Loc → Mem → Prop} (h : Q loc M) : ATs X n fz L env [] [] Q loc M := h
theorem ATs_cons {Q : Loc → Mem → Prop} {t : Expr} {ts : List Expr} {v : Value} {vs : List Value} (h : AT X n fz L env t v (ATs X n fz L env ts vs Q) loc M) : ATs X n fz L env (t :: ts) (v :: vs) Q loc M := h
theorem EX_abs {Q : QF} {ss : List Stmt} {R : Mem → Prop} (r : R M) (h : ∀ m, R m → EX X n fz L env ss Q loc m) : EX X n fz L env ss Q loc M := h M r
theorem EX_cutF {Q : QF} {st : Stmt} {rest : List Stmt} {R : Loc → Mem → Prop} (h1 : E1 X n fz L env st (fun f l m => (f = .next ∧ R l m) ∨ (f ≠ .next ∧ Q f l m)) loc M) (h2 : ∀ l m, R l m → EX X n fz L env rest Q l m) : EX X n fz L env (st :: rest) Q loc M :=
  EX_cons (WT.mono h1 fun f l m h => by
    show seqQ X n fz L env rest Q (erF f) l m
    rcases h with ⟨e, r⟩ | ⟨e, q⟩
    · rw [e]; exact h2 l m r
    · cases f with
      | next => exact absurd rfl e
      | brk => exact q
      | cont => exact q
      | ret v => exact q)
theorem E1_AugLocal {Q : QF} {x : Str} {p pos : Pos} {op : Operator} {e : Expr} {v : Value} (hE : Fun env L) (hx : env.kindOf x = some .local) (hv : loc x = some v)
    (h : EV X n fz L env e (fun b l m => O2 X n fz L (inplaceOp op) v b (fun v l m => ST X n fz L env x v (fun l m => Q .next l m) l m) l m) loc M) : E1 X n fz L env (.AugAssign (.Name x p) op e pos) Q loc M := fun A s r F o => by
  (refine obEA (F.ns) ?_; intro m hn he)
  have hm := he x
  rw [hv] at hm
  (refine obEA (Option.map_eq_some_iff.mp hm) ?_; intro v' e1 e2)
  refine wpAny_AugAssign_Name (wpAny_loadName_local hE.kind hx (hE.loc ▸ hn) e1 ?_)
  refine wpAny_mono (h A s r F o) (fun _ _ w => obEEAA w fun _ _ f' k' q => wpAny_mono (WT.use (q _ _ e2 rfl) r f' k' o) (fun _ _ w => obEEAA w fun _ _ f' k' q =>
    wpAny_mono (WT.use (q _ rfl) r f' k' o) (fun _ _ q => q) (fun _ _ e => e)) (fun _ _ e => e)) (fun _ _ e => e)
theorem SUB_dictT {Q : QV} {value slice : Expr} {es : List (Str × Value)} {x : Str} {v : Value} (hm : RdM X M a (.dct es)) (hx : tblF es x = some v) (h : Q v loc M)
    (hs : ∀ u, subscripted slice false (.ref a) (.str x u) = operate [.ref a, .str x u] (getItem (.ref a) (.str x u)) := by intro _; with_unfolding_all rfl) :
    O2 X n fz L (subscriptTail value slice) (.ref a) (.str x 0) Q loc M := SUB_dict hm hx h hs
theorem EV_dict2K {Q : QV} {x1 x2 : Str} {k1 k2 : Nat} {p1 p2 : Pos} {e1 e2 : Expr} {pos : Pos}
    (h : ∀ D, M D = none → EV X n fz L env e1 (fun v1 => EV X n fz L env e2 (fun v2 l m => m = setM M D (.dct []) ∧ Q (.ref D) l (setM M D (.dct [(x1, v1), (x2, v2)])))) loc (setM M D (.dct [])))
    (hnd : [x1, x2].Nodup := by decide +kernel) :
    EV X n fz L env (.Dict [some (.Constant (.str x1) k1 p1), some (.Constant (.str x2) k2 p2)] [e1, e2] pos) Q loc M :=
  EV_dict2 (fun D hD => WT.mono (h D hD) fun v1 l m q => WT.mono q fun v2 l m ⟨e, q⟩ => by subst e; rw [setM_setM]; exact ⟨setM_same _ _ _, q⟩) hnd
theorem AR_nil {Q : QL} (h : Q [] loc M) : AR X n fz L env [] Q loc M := h
theorem AR_cons {Q : QL} {e : Expr} {r : List Expr} (h : EV X n fz L env e (fun v l m => AR X n fz L env r (fun vs l m => Q (v :: vs) l m) l m) loc M) : AR X n fz L env (e :: r) Q loc M := h
end

end Mine
end
section
set_option linter.unusedVariables false
set_option maxRecDepth 100000
namespace Mine
open PySem PySem.W PySem.Calls PyProof.Rows PySem.StrLaws PySem.Builtin PySem.Builtin.Str

theorem At_mkS {l p : List Nat} {i : Nat} (hp : p ≠ []) : At (mkS l) (mkS p) (mkS l).length i ↔ p <+: l.drop i := by
  unfold At
  rw [subAt_eq]
  simp only [mkS_toList, mkS_length]
  constructor
  · rintro ⟨h1, h2⟩
    rw [beq_iff_eq] at h2
    exact List.prefix_iff_eq_take.mpr h2.symm
  · intro h
    have hl := h.length_le
    rw [List.length_drop] at hl
    have : 0 < p.length := List.length_pos_iff.mpr hp
    exact ⟨by (lia), by rw [beq_iff_eq]; exact (List.prefix_iff_eq_take.mp h).symm⟩

noncomputable def repL (p z : List Nat) : Nat → List Nat → List Nat
  | 0, l => l
  | _ + 1, [] => []
  | k + 1, c :: r => if p <+: c :: r then z ++ repL p z k ((c :: r).drop p.length) else c :: repL p z k r

theorem strSub_mkS (l : List Nat) (i j : Nat) : strSub (mkS l) i j = mkS ((l.drop i).take (j - i)) := by
  apply Str.ext'
  have := strSub_toList (mkS l) i j
  rw [mkS_toList] at this
  apply Array.toList_inj.mp
  rw [this]; rfl

theorem repL_run (p z : List Nat) (hp : p ≠ []) (l : List Nat) : ∀ (d a : Nat) (k : Nat), (∀ j, a ≤ j → j < a + d → ¬ p <+: l.drop j) → a + d ≤ l.length → (l.drop a).length ≤ k →
    repL p z k (l.drop a) = (l.drop a).take d ++ repL p z (k - d) (l.drop (a + d))
  | 0, a, k, _, _, _ => by simp
  | d + 1, a, k, hn, hl, hk => by
    have hlt : a < l.length := by (lia)
    have e : l.drop a = l[a] :: l.drop (a + 1) := List.drop_eq_getElem_cons hlt
    cases k with
    | zero => rw [List.length_drop] at hk; (clear e hl hn hp; omega)
    | succ k =>
      have h0 := hn a (Nat.le_refl _) (by (lia))
      rw [e] at h0 hk ⊢
      rw [repL, if_neg h0]
      rw [repL_run p z hp l d (a + 1) k (fun j h1 h2 => hn j (by (exact Nat.le_of_lt (by assumption))) (by (lia))) (by (lia)) (by simp only [List.length_cons] at hk; (lia))]
      have e2 : a + 1 + d = a + (d + 1) := by (lia)
      rw [e2, Nat.succ_sub_succ, List.take_succ_cons, List.cons_append]

theorem repL_fuel (p z : List Nat) (hp : p ≠ []) : ∀ (k k' : Nat) (l : List Nat), l.length ≤ k → l.length ≤ k' → repL p z k l = repL p z k' l
  | 0, k', l, h, h' => by
    have : l = [] := List.length_eq_zero_iff.mp (by (lia))
    subst this; cases k' <;> rfl
  | k + 1, 0, l, h, h' => by
    have : l = [] := List.length_eq_zero_iff.mp (by (lia))
    subst this; rfl
  | k + 1, k' + 1, [], _, _ => rfl
  | k + 1, k' + 1, c :: r, h, h' => by
    have pl : 0 < p.length := List.length_pos_iff.mpr hp
    simp only [List.length_cons] at h h'
    simp only [repL]
    split
    · rw [repL_fuel p z hp k k' _ (by simp; (lia)) (by simp; (lia))]
    · rw [repL_fuel p z hp k k' r (by (lia)) (by (lia))]

theorem rep_parts (p z : List Nat) (hp : p ≠ []) (l : List Nat) : ∀ (cuts : List Nat) (a f : Nat), a ≤ l.length → ChainG (mkS l) (mkS p) (mkS l).length a cuts f → (∀ k, f ≤ k → ¬ At (mkS l) (mkS p) (mkS l).length k) →
    Str.join (mkS z) (partsFrom (mkS l) (mkS p).length a cuts) = mkS (repL p z l.length (l.drop a))
  | [], a, f, ha, h, hn => by
    have e : f = a := h
    subst e
    show strSub (mkS l) f (mkS l).length = _
    have no : ∀ j, f ≤ j → j < f + (l.length - f) → ¬ p <+: l.drop j := fun j h1 _ hx => hn j h1 ((At_mkS hp).mpr hx)
    rw [strSub_mkS, mkS_length, repL_run p z hp l (l.length - f) f l.length no (by (lia)) (by simp)]
    have : l.drop (f + (l.length - f)) = [] := List.drop_eq_nil_of_le (by (lia))
    rw [this]
    have e2 : repL p z (l.length - (l.length - f)) [] = [] := by cases l.length - (l.length - f) <;> rfl
    rw [e2, List.append_nil]
  | c :: r, a, f, ha, h, hn => by
    (refine obAAA (h) ?_; intro h1 h2 h3 h4)
    have hpre := (At_mkS hp).mp h2
    have hc : c + p.length ≤ l.length := by have := h2.1; simpa using this
    have pl : 0 < p.length := List.length_pos_iff.mpr hp
    have ih := rep_parts p z hp l r (c + (mkS p).length) f (by simpa using hc) h4 hn
    have no : ∀ j, a ≤ j → j < a + (c - a) → ¬ p <+: l.drop j := fun j k1 k2 hx => h3 j k1 (by (lia)) ((At_mkS hp).mpr hx)
    rw [repL_run p z hp l (c - a) a l.length no (by (clear no ih hpre h4 h3 h2 hn h ha hp; lia)) (by simp)]
    have e1 : a + (c - a) = c := by (lia)
    rw [e1]
    have hlt : c < l.length := by (lia)
    have e2 : l.drop c = l[c] :: l.drop (c + 1) := List.drop_eq_getElem_cons hlt
    obtain ⟨k, hk⟩ : ∃ k, l.length - (c - a) = k + 1 := ⟨l.length - (c - a) - 1, by (clear e2 no ih pl hc hpre h4 h3 h2 h1 hn h ha hp; lia)⟩
    have e3 : repL p z (l.length - (c - a)) (l.drop c) = z ++ repL p z l.length (l.drop (c + p.length)) := by
      rw [hk, e2, repL, ← e2, if_pos hpre, List.drop_drop]
      rw [repL_fuel p z hp k l.length _ (by simp; (lia)) (by simp)]
    rw [e3]
    (refine obEE (partsFrom_ne (mkS l) (mkS p).length (c + (mkS p).length) r) ?_; intro q rr hq)
    show Str.join (mkS z) (strSub (mkS l) a c :: partsFrom (mkS l) (mkS p).length (c + (mkS p).length) r) = _
    rw [hq]
    show strSub (mkS l) a c ++ mkS z ++ Str.join (mkS z) (q :: rr) = _
    rw [← hq, ih, strSub_mkS, mkS_append, mkS_append, mkS_length, List.append_assoc]

theorem replace_mkS (p z l : List Nat) (hp : p ≠ []) : Txt.replace (mkS l) (mkS p) (mkS z) = mkS (repL p z l.length l) := by
  obtain ⟨f, hG, hn⟩ := occ_tight (mkS l) (mkS p) (by rw [mkS_length]; exact List.length_pos_iff.mpr hp)
  have key := rep_parts p z hp l _ 0 f (Nat.zero_le _) hG hn
  rw [List.drop_zero] at key
  unfold Txt.replace
  split
  · rename_i hc
    rw [Bool.or_eq_true] at hc
    rcases hc with hc | hc
    · have e : occurrences (mkS l) (mkS p) 0 (mkS l).length ((mkS l).length + 1) = [] := List.isEmpty_iff.mp hc
      rw [e] at key
      rw [← key]
      show _ = strSub (mkS l) 0 (mkS l).length
      rw [sub_whole]
    · rw [mkS_length] at hc
      simp only [Bool.and_eq_true, beq_iff_eq] at hc
      exact absurd hc.1 (Nat.ne_of_gt (List.length_pos_iff.mpr hp))
  · rw [glued_eq_join, partsBetween_eq]; exact key

noncomputable def mend : List Nat → List Nat
  | [] => []
  | 13 :: 10 :: r => 10 :: mend r
  | 13 :: r => 10 :: mend r
  | c :: r => c :: mend r

theorem mend_13 (r : List Nat) (h : r.head? ≠ some 10) : mend (13 :: r) = 10 :: mend r := by
  cases r with
  | nil => rfl
  | cons d r =>
    have : d ≠ 10 := fun e => h (by simp [e])
    rw [mend]
    · intro r' e; cases e; exact this rfl
theorem mend_c (c : Nat) (r : List Nat) (h : c ≠ 13) : mend (c :: r) = c :: mend r := by
  rw [mend]
  · intro r' e; exact absurd e h
  · intro e; exact absurd e h

theorem rep_mend : ∀ (k : Nat) (l : List Nat), l.length ≤ k → repL [13] [10] k (repL [13, 10] [10] k l) = mend l := by
  intro k
  induction k with
  | zero =>
    intro l h
    have : l = [] := List.length_eq_zero_iff.mp (by (lia))
    subst this; rfl
  | succ k ih =>
    intro l h
    have small : ∀ (k : Nat) (l : List Nat), (repL [13, 10] [10] k l).length ≤ l.length := by
      intro k
      induction k with
      | zero => intro l; exact Nat.le_refl _
      | succ k ih =>
        intro l
        cases l with
        | nil => exact Nat.le_refl _
        | cons c r =>
          rw [repL]
          split
          · rename_i hp
            have := hp.length_le
            have h2 := ih ((c :: r).drop [13, 10].length)
            simp only [List.length_append, List.length_cons, List.length_nil, List.length_drop] at h2 this ⊢
            (clear hp ih h; omega)
          · simp only [List.length_cons]
            have := ih r
            (lia)
    cases l with
    | nil => rfl
    | cons c r =>
      simp only [List.length_cons] at h
      rw [repL]
      split
      · rename_i hp
        (refine obE (hp) ?_; intro t ht)
        simp only [List.cons_append, List.nil_append, List.cons.injEq] at ht
        (refine obA (ht) ?_; intro hz0 hz1; subst hz0; subst hz1)
        show repL [13] [10] (k + 1) (10 :: repL [13, 10] [10] k t) = _
        rw [repL, if_neg (by rintro ⟨s, hs⟩; simp at hs)]
        rw [mend, ih t (by simp only [List.length_cons] at h; (lia))]
      · rename_i hp
        by_cases hc : c = 13
        · subst hc
          have hh : r.head? ≠ some 10 := fun e => hp (by
            cases r with
            | nil => cases e
            | cons d r => simp at e; subst e; exact ⟨r, rfl⟩)
          rw [repL, if_pos ⟨_, rfl⟩, mend_13 r hh]
          show 10 :: repL [13] [10] k (repL [13, 10] [10] k r) = _
          rw [ih r (by (lia))]
        · rw [repL, if_neg (by rintro ⟨s, hs⟩; simp at hs; exact hc hs.1.symm), mend_c c r hc, ih r (by (lia))]


theorem mend_append : ∀ (a b : List Nat), (a.getLast? = some 13 → b.head? ≠ some 10) → mend (a ++ b) = mend a ++ mend b
  | [], b, _ => rfl
  | [c], b, h => by
    by_cases hc : c = 13
    · subst hc
      exact mend_13 b (h rfl)
    · rw [List.singleton_append, mend_c c b hc, mend_c c [] hc]; rfl
  | c :: d :: a, b, h => by
    by_cases hc : c = 13
    · subst hc
      by_cases hd : d = 10
      · subst hd
        have ih := mend_append a b (fun e => h (by cases a with | nil => cases e | cons x a => simpa [List.getLast?_cons_cons] using e))
        show mend (13 :: 10 :: (a ++ b)) = mend (13 :: 10 :: a) ++ mend b
        rw [mend, mend, ih, List.cons_append]
      · have ih := mend_append (d :: a) b (fun e => h (by simpa [List.getLast?_cons_cons] using e))
        show mend (13 :: (d :: a ++ b)) = _
        rw [mend_13 _ (by simp [hd]), mend_13 (d :: a) (by simp [hd]), ih, List.cons_append]
    · have ih := mend_append (d :: a) b (fun e => h (by simpa [List.getLast?_cons_cons] using e))
      show mend (c :: (d :: a ++ b)) = _
      rw [mend_c _ _ hc, mend_c _ _ hc, ih, List.cons_append]
theorem mend_length (l : List Nat) : (mend l).length ≤ l.length := by
  have : ∀ (k : Nat) (l : List Nat), l.length ≤ k → (mend l).length ≤ l.length := by
    intro k
    induction k with
    | zero => intro l h; have : l = [] := List.length_eq_zero_iff.mp (by (lia)); subst this; exact Nat.le_refl _
    | succ k ih =>
      intro l h
      cases l with
      | nil => exact Nat.le_refl _
      | cons c r =>
        simp only [List.length_cons] at h
        by_cases hc : c = 13
        · subst hc
          by_cases hr : r.head? = some 10
          · cases r with
            | nil => cases hr
            | cons d r => simp at hr; subst hr; rw [mend]; have := ih r (by simp at h; (exact Nat.le_of_lt (by assumption))); simp; (exact Nat.le_succ_of_le (by assumption))
          · rw [mend_13 r hr]; have := ih r (by (lia)); simp; (assumption)
        · rw [mend_c c r hc]; have := ih r (by (lia)); simp; (assumption)
  exact this _ l (Nat.le_refl _)
theorem mend_ne (l : List Nat) (h : l ≠ []) : mend l ≠ [] := by
  cases l with
  | nil => exact absurd rfl h
  | cons c r =>
    by_cases hc : c = 13
    · subst hc
      by_cases hr : r.head? = some 10
      · cases r with
        | nil => cases hr
        | cons d r => simp at hr; subst hr; rw [mend]; simp
      · rw [mend_13 r hr]; simp
    · rw [mend_c c r hc]; simp

noncomputable def trail (l : List Nat) : Nat := (l.reverse.takeWhile (· != 10)).length
theorem tw_all {α : Type} (p : α → Bool) : ∀ l : List α, (∀ x ∈ l, p x = true) → l.takeWhile p = l
  | [], _ => rfl
  | a :: r, h => by rw [List.takeWhile_cons, h a (List.mem_cons_self ..), if_pos rfl, tw_all p r fun x hx => h x (List.mem_cons_of_mem _ hx)]
theorem tw_len {α : Type} (p : α → Bool) : ∀ l : List α, (l.takeWhile p).length = l.length → ∀ x ∈ l, p x = true
  | [], _, x, hx => by cases hx
  | a :: r, h, x, hx => by
    rw [List.takeWhile_cons] at h
    cases ha : p a with
    | false => rw [ha] at h; simp at h
    | true =>
      rw [ha, if_pos rfl] at h
      rcases List.mem_cons.mp hx with rfl | hx
      · exact ha
      · exact tw_len p r (by simpa using h) x hx
theorem trail_append (a b : List Nat) : trail (a ++ b) = if 10 ∈ b then trail b else trail a + b.length := by
  unfold trail
  rw [List.reverse_append, List.takeWhile_append]
  by_cases h : 10 ∈ b
  · rw [if_pos h, if_neg]
    intro e
    have := tw_len (· != 10) b.reverse e 10 (by simpa using h)
    simp at this
  · rw [if_neg h]
    have e : b.reverse.takeWhile (· != 10) = b.reverse := by
      refine tw_all _ _ fun x hx => ?_
      simp only [bne_iff_ne, ne_eq]
      intro z; subst z; exact h (by simpa using hx)
    rw [e, if_pos rfl, List.length_append, List.length_reverse]
    (lia)

theorem trail_le (l : List Nat) : trail l ≤ l.length := by
  have := (List.takeWhile_sublist (l := l.reverse) (· != 10)).length_le
  unfold trail; simpa using this
theorem trail_lt (l : List Nat) (h : 10 ∈ l) : trail l < l.length := by
  rcases Nat.lt_or_ge (trail l) l.length with h1 | h1
  · exact h1
  · exfalso
    have e : (l.reverse.takeWhile (· != 10)).length = l.reverse.length := by
      have := trail_le l
      unfold trail at this h1
      rw [List.length_reverse]; (lia)
    have := tw_len (· != 10) l.reverse e 10 (by simpa using h)
    simp at this
theorem cnt_run (l : List Nat) (c hi limit : Nat) (hh : hi ≤ l.length) : ∀ (m cur : Nat) (st : Array Nat × Nat), st.snd ≤ cur → st.fst.size + m ≤ limit →
    (forIn (List.range' cur m) st (occBody (mkS l) (mkS [c]) hi limit)).run.fst.size = st.fst.size + ((l.take (min (cur + m) hi)).drop cur).count c
  | 0, cur, st, _, _ => by
    have : (l.take (min (cur + 0) hi)).drop cur = [] := List.drop_eq_nil_of_le (by simp; (lia))
    rw [this]; rfl
  | m + 1, cur, st, h1, h2 => by
    rw [List.range'_succ, List.forIn_cons]
    have hsub : (cur + (mkS [c]).length ≤ hi ∧ subAt (mkS l) (mkS [c]) cur = true) ↔ (cur < hi ∧ l[cur]? = some c) := by
      rw [subAt_eq, mkS_length]
      show (cur + 1 ≤ hi ∧ ((l.drop cur).take 1 == [c]) = true) ↔ _
      rw [take1_drop]
      exact ⟨fun h => ⟨by (lia), h.2⟩, fun h => ⟨by (lia), h.2⟩⟩
    have e : min (cur + (m + 1)) hi = min (cur + 1 + m) hi := by (lia)
    by_cases hc : cur < hi ∧ l[cur]? = some c
    · have hb : occBody (mkS l) (mkS [c]) hi limit cur st = pure (ForInStep.yield (st.fst.push cur, cur + (mkS [c]).length)) := by
        unfold occBody
        exact if_pos ⟨⟨⟨by (lia), h1⟩, (hsub.mpr hc).1⟩, (hsub.mpr hc).2⟩
      rw [hb]
      show (forIn (List.range' (cur + 1) m) (st.fst.push cur, cur + (mkS [c]).length) (occBody (mkS l) (mkS [c]) hi limit)).run.fst.size = _
      rw [cnt_run l c hi limit hh m (cur + 1) _ (by simp) (by simp; (lia))]
      have hlt : cur < (l.take (min (cur + (m + 1)) hi)).length := by simp; (lia)
      rw [List.drop_eq_getElem_cons hlt, List.count_cons]
      have hx : (l.take (min (cur + (m + 1)) hi))[cur] = c := by
        rw [List.getElem_take]
        exact (List.getElem?_eq_some_iff.mp hc.2).2
      rw [hx, e]
      simp
      (lia)
    · have hb : occBody (mkS l) (mkS [c]) hi limit cur st = pure (ForInStep.yield (st.fst, st.snd)) := by
        unfold occBody
        exact if_neg fun hx => hc (hsub.mp ⟨hx.1.2, hx.2⟩)
      rw [hb]
      show (forIn (List.range' (cur + 1) m) (st.fst, st.snd) (occBody (mkS l) (mkS [c]) hi limit)).run.fst.size = _
      rw [cnt_run l c hi limit hh m (cur + 1) _ (by simp; (exact Nat.le_succ_of_le (by assumption))) (by simp; (exact Nat.le_of_lt (by assumption)))]
      by_cases hlt : cur < (l.take (min (cur + (m + 1)) hi)).length
      · rw [List.drop_eq_getElem_cons hlt, List.count_cons]
        have hl2 : cur < l.length ∧ cur < hi := by simp at hlt; (clear hb hc e hsub h2 h1; lia)
        have hx : (l.take (min (cur + (m + 1)) hi))[cur] ≠ c := by
          rw [List.getElem_take]
          intro z
          exact hc ⟨hl2.2, by rw [← z]; exact List.getElem?_eq_getElem hl2.1⟩
        rw [if_neg (by simpa using hx), e]
        simp
      · have n1 := Nat.not_lt.mp hlt
        rw [List.drop_eq_nil_of_le n1, List.drop_eq_nil_of_le (by rw [← e]; (exact Nat.le_succ_of_le (by assumption)))]
theorem count_mkS (l : List Nat) (c : Nat) (off : Nat) (ho : off ≤ l.length) : (occurrences (mkS l) (mkS [c]) (fromIndex (mkS l).length 0) (min (fromIndex (mkS l).length (off : Int)) (mkS l).length) ((mkS l).length + 1)).length = (l.take off).count c := by
  have e0 : fromIndex (mkS l).length 0 = 0 := rfl
  have e1 : fromIndex (mkS l).length (off : Int) = off := by
    unfold fromIndex
    rw [mkS_length, if_neg (by (lia))]
    (lia)
  rw [e0, e1, mkS_length, Nat.min_eq_left ho, occ_eq, Array.length_toList, cnt_run l c off (l.length + 1) ho _ 0 _ (Nat.le_refl _) (by simp; (assumption))]
  simp

theorem last_mkS (l : List Nat) (off : Nat) (ho : off ≤ l.length) :
    lastI (lastOccurrence (mkS l) (mkS [10]) (fromIndex (mkS l).length 0) (min (fromIndex (mkS l).length (off : Int)) (mkS l).length)) =
      if 10 ∈ l.take off then (off : Int) - 1 - trail (l.take off) else -1 := by
  have e0 : fromIndex (mkS l).length 0 = 0 := rfl
  have e1 : fromIndex (mkS l).length (off : Int) = off := by
    unfold fromIndex
    rw [mkS_length, if_neg (by (lia))]
    (lia)
  rw [e0, e1, mkS_length, Nat.min_eq_left ho]
  have key : LastOk (mkS l) (mkS [10]) off ([] ++ List.range' 0 (off + 1 - 0)) (lastOccurrence (mkS l) (mkS [10]) 0 off) := by
    rw [last_eq]
    exact last_run (mkS l) (mkS [10]) off _ [] none (fun i hi => by cases hi) (fun i hi => by cases hi) (List.pairwise_lt_range' ..)
  have hAt : ∀ i, At (mkS l) (mkS [10]) off i ↔ (i < off ∧ l[i]? = some 10) := fun i => by
    unfold At
    rw [subAt_eq, mkS_length]
    show (i + 1 ≤ off ∧ ((l.drop i).take 1 == [10]) = true) ↔ _
    rw [take1_drop]
    exact ⟨fun h => ⟨by (lia), h.2⟩, fun h => ⟨by (lia), h.2⟩⟩
  have mem : 10 ∈ l.take off ↔ ∃ i, i < off ∧ l[i]? = some 10 := by
    rw [List.mem_iff_getElem?]
    constructor
    · rintro ⟨i, hi⟩
      rw [List.getElem?_take] at hi
      split at hi
      · exact ⟨i, by assumption, hi⟩
      · cases hi
    · rintro ⟨i, h1, h2⟩
      exact ⟨i, by rw [List.getElem?_take, if_pos h1]; exact h2⟩
  cases q : lastOccurrence (mkS l) (mkS [10]) 0 off with
  | none =>
    rw [q] at key
    have : ¬ 10 ∈ l.take off := fun hm => by
      (refine obEA (mem.mp hm) ?_; intro i h1 h2)
      exact key i (by simp [List.mem_range']; (exact Nat.le_succ_of_le (by assumption))) ((hAt i).mpr ⟨h1, h2⟩)
    rw [if_neg this]; rfl
  | some i =>
    rw [q] at key
    (refine obA (key) ?_; intro k1 k2)
    (refine obA ((hAt i).mp k1) ?_; intro h1 h2)
    have hm : 10 ∈ l.take off := mem.mpr ⟨i, h1, h2⟩
    rw [if_pos hm]
    have hd : l.take off = l.take i ++ 10 :: ((l.take off).drop (i + 1)) := by
      have hlt : i < (l.take off).length := by simp; (lia)
      have e : (l.take off)[i] = 10 := by
        rw [List.getElem_take]
        exact (List.getElem?_eq_some_iff.mp h2).2
      have := List.take_append_drop i (l.take off)
      rw [List.drop_eq_getElem_cons hlt, e, List.take_take, Nat.min_eq_left (by (exact Nat.le_of_lt (by assumption)))] at this
      exact this.symm
    have hfree : 10 ∉ (l.take off).drop (i + 1) := fun hx => by
      (refine obE (List.getElem?_of_mem hx) ?_; intro j hj)
      rw [List.getElem?_drop, List.getElem?_take] at hj
      split at hj
      · exact k2 (i + 1 + j) (by simp [List.mem_range']; (exact Nat.le_succ_of_le (by assumption))) (by (exact Nat.le_add_right _ _)) ((hAt _).mpr ⟨by assumption, hj⟩)
      · cases hj
    have ht : trail (l.take off) = ((l.take off).drop (i + 1)).length := by
      have e3 : l.take i ++ 10 :: ((l.take off).drop (i + 1)) = (l.take i ++ [10]) ++ ((l.take off).drop (i + 1)) := by simp
      have e4 := congrArg trail (hd.trans e3)
      rw [trail_append, if_neg hfree] at e4
      have : trail (l.take i ++ [10]) = 0 := by
        rw [trail_append, if_pos (by simp)]
        rfl
      rw [e4, this, Nat.zero_add]
    rw [ht]
    show ((i : Nat) : Int) = _
    simp
    (clear ht hfree hd hm h2 k2 k1 q key mem hAt e0; lia)
end Mine
end
section
open PySem PySem.W PyProof.Rows
set_option maxRecDepth 100000
set_option maxHeartbeats 4000000
set_option linter.unusedVariables false
namespace Mine
section
variable {X : Cx} {n : Nat} {fz : Frz} {L : Addr} {loc : Loc} {M : Mem}
end
end Mine
end
section
open PySem PySem.W PySem.Calls PyProof.Rows
set_option maxRecDepth 100000
namespace Mine
variable {X : Cx} {n : Nat} {fz : Frz} {L : Addr} {loc : Loc} {M : Mem} {env : Env} {a b C C2 : Addr} {k kb : Nat} {f f2 : Str → Option Value} {l : List (Str × Value)} {name name2 x y : Str} {v w : Value} {Q : QF} {rest body orelse : List Stmt} {p p1 p2 p3 p4 p5 p6 p7 p8 p9 p10 p11 p12 : Pos} {kk k1 k2 k3 k4 : Nat}
theorem EXn (h : EX X n fz L env rest Q loc M) : EX X n fz L env [] (seqQ X n fz L env rest Q) loc M := EX_nil h
theorem RETb {b : Bool} (h : Q (.ret (.bool b)) loc M) : EX X n fz L env (.Return (some (.Constant (.bool b) kk p)) p1 :: rest) Q loc M := EX_cons (E1_Return (EV_bool h))
theorem STn (hE : Fun env L) (hx : env.kindOf x = some .local) (h : EX X n fz L env rest Q (setL loc x v) M) : ST X n fz L env x v (fun l m => seqQ X n fz L env rest Q .next l m) loc M := ST_local hE hx h
theorem EVaf {Q : QV} (hE : Fun env L) (hx : env.kindOf x = some .local) (hv : loc x = some (.ref a)) (hm : M a = some (.inst C k f)) (hf : f name = some v) (ok : FieldOk X.K C name) (h : Q v loc M)
    (hh : handedIn v = true := by rfl) (hd : (x == ("__debug__" : Str)) = false := by decide) : EV X n fz L env (.Attribute (.Name x p) name p1) Q loc M :=
  EV_attr (EV_local hE hx hv (GA_field hm hf ok h hh) hd) (fun _ => by with_unfolding_all rfl)
theorem EX_gen {ss : List Stmt} (h : ∀ Q' : QF, (∀ f l m, Q f l m → Q' f l m) → EX X n fz L env ss Q' loc M) : EX X n fz L env ss Q loc M := h Q fun _ _ _ h => h
theorem IFs {s t : List Nat} {y : Str} (hE : Fun env L) (hx : env.kindOf x = some .local) (hv : loc x = some (.str (mkS s) 0)) (e : y = mkS t)
    (h : (decide (s = t) = true → EX X n fz L env body (seqQ X n fz L env rest Q) loc M) ∧ (decide (s = t) = false → EX X n fz L env orelse (seqQ X n fz L env rest Q) loc M))
    (hd : (x == ("__debug__" : Str)) = false := by decide) : EX X n fz L env (.If (.Compare (.Name x p) [.Eq] [.Constant (.str y) kk p1] p2) body orelse p3 :: rest) Q loc M :=
  EX_cons (E1_If (TV_compare (EV_local hE hx hv (EV_str e (O2_eq_str (TR_bool h))) hd) (by with_unfolding_all rfl)))
theorem IFn {y : Str} {t : List Nat} (hE : Fun env L) (hx : env.kindOf x = some .local) (hv : loc x = some .none) (e : y = mkS t) (h : EX X n fz L env orelse (seqQ X n fz L env rest Q) loc M)
    (hd : (x == ("__debug__" : Str)) = false := by decide) : EX X n fz L env (.If (.Compare (.Name x p) [.Eq] [.Constant (.str y) kk p1] p2) body orelse p3 :: rest) Q loc M :=
  EX_cons (E1_If (TV_compare (EV_local hE hx hv (EV_str e (O2_eq_none_str (TR_bool ⟨(fun z => nomatch z), fun _ => h⟩))) hd) (by with_unfolding_all rfl)))
theorem IFi {i j : Int} (hE : Fun env L) (hx : env.kindOf x = some .local) (hv : loc x = some (.int i 0))
    (h : (decide (i = j) = true → EX X n fz L env body (seqQ X n fz L env rest Q) loc M) ∧ (decide (i = j) = false → EX X n fz L env orelse (seqQ X n fz L env rest Q) loc M))
    (hd : (x == ("__debug__" : Str)) = false := by decide) : EX X n fz L env (.If (.Compare (.Name x p) [.Eq] [.Constant (.int j) kk p1] p2) body orelse p3 :: rest) Q loc M :=
  EX_cons (E1_If (TV_compare (EV_local hE hx hv (EV_int (O2_eq_int (TR_bool h))) hd) (by with_unfolding_all rfl)))
theorem IFiN {i j : Int} (hE : Fun env L) (hx : env.kindOf x = some .local) (hv : loc x = some (.int i 0)) (hn : decide (i = j) = false) (h : EX X n fz L env rest Q loc M)
    (hd : (x == ("__debug__" : Str)) = false := by decide) : EX X n fz L env (.If (.Compare (.Name x p) [.Eq] [.Constant (.int j) kk p1] p2) body [] p3 :: rest) Q loc M :=
  IFi hE hx hv ⟨fun z => absurd (hn.symm.trans z) (by decide), fun _ => EXn h⟩ hd
theorem IFc {op : CmpOp} {r : Expr} (hE : Fun env L) (hx : env.kindOf x = some .local) (hv : loc x = some v)
    (h : EV X n fz L env r (fun b lo m => O2 X n fz L (compareOp op) v b (fun c lo m => O1B X n fz L truthy c (fun b l m => (b = true → EX X n fz L env body (seqQ X n fz L env rest Q) l m) ∧ (b = false → EX X n fz L env orelse (seqQ X n fz L env rest Q) l m)) lo m) lo m) loc M)
    (hm : behindInMarks op r = false := by with_unfolding_all rfl) (hd : (x == ("__debug__" : Str)) = false := by decide) : EX X n fz L env (.If (.Compare (.Name x p) [op] [r] p2) body orelse p3 :: rest) Q loc M :=
  EX_cons (E1_If (TV_compare (EV_local hE hx hv h hd) hm))
theorem STA {g : Addr} {k' : Nat} {at1 at2 : Str} {l' : Addr → List (Str × Value)} (hE : Fun env L) (hx : env.kindOf x = some .local) (hv : loc x = some (.ref a)) (hm : M a = some (.inst C k (tblF l))) (hf : tblF l at1 = none) (ok : MethOk X.K C at1 g)
    (ok2 : StoreOk X.K C at2) (hk : (tblF l at2).isSome = true ∧ k' = k ∨ k' = k + 1) (h1000 : k' ≤ 900) (hp : ∀ q, putA l at2 (.ref q) = l' q)
    (h : ∀ q, EX X n fz L env rest Q loc (setM M a (.inst C k' (tblF (l' q)))))
    (hs : swapsWith (.Attribute (.Name x p) at1 p1) (some (.Attribute (.Name x p2) at2 p3)) p4.line env = pure false := by rfl)
    (hd : (x == ("__debug__" : Str)) = false := by decide) : EX X n fz L env (.Assign [.Attribute (.Name x p2) at2 p3] (.Attribute (.Name x p) at1 p1) p4 :: rest) Q loc M :=
  EX_cons (E1_AssignAttr (EV_attr (EV_local hE hx hv (GA_bound hm hf ok (fun q => EV_local hE hx hv (SA_tbl hm ok2 hk h1000 (hp q) (h q)) hd)) hd) (fun _ => by with_unfolding_all rfl)) hs)
theorem TOKg {q td : Addr} {xs : List Value} {x1 x2 yt ns : Str} {l1 : List Nat} {es : List (Str × Value)} {e2 : Expr} {pl : Sem Bool}
    (hE : Fun env L) (hx : env.kindOf x = some .local) (hv : loc x = some (.ref a)) (hm : M a = some (.inst C k f)) (hf : f name = some (.ref q)) (ok : FieldOk X.K C name) (hq : M q = some (.lst xs))
    (hg : env.kindOf ns = some .globalImplicit) (hn : nsIn X.K mainGlobals ns = some (some (.ref td))) (e1 : yt = mkS l1) (hTT : ReadO X X.T td (.dct es)) (ht : tblF es (mkS l1) = some v) (hl : xs.length ≤ 16777216)
    (h : ∀ D, M D = none → EV X n fz L env e2 (fun w l m => m = setM M D (.dct []) ∧ EX X n fz L env rest Q l (setM (setM M D (.dct [(x1, v), (x2, w)])) q (.lst (xs ++ [.ref D])))) loc (setM M D (.dct [])))
    (he : eval (.Call (.Attribute (.Attribute (.Name x p) name p1) "append" p2) [.Dict [some (.Constant (.str x1) k1 p3), some (.Constant (.str x2) k2 p4)] [.Subscript (.Name ns p5) (.Constant (.str yt) k3 p6) p7, e2] p9] [] p10) env = (do
      let ov ← eval (.Attribute (.Name x p) name p1) env
      standAt p2.atName
      let (f, first) ← holding [ov] (getMethod ov "append" pl)
      callWith p10 f first (backTo p10 (starEach [.Dict [some (.Constant (.str x1) k1 p3), some (.Constant (.str x2) k2 p4)] [.Subscript (.Name ns p5) (.Constant (.str yt) k3 p6) p7, e2] p9] env)) []) := by rfl)
    (hi : interactive env = false := by rfl) (hnd : [x1, x2].Nodup := by decide +kernel) (hd : (x == ("__debug__" : Str)) = false := by decide) (hd' : (ns == ("__debug__" : Str)) = false := by decide +kernel)
    (hs : swapsWith (.Call (.Attribute (.Attribute (.Name x p) name p1) "append" p2) [.Dict [some (.Constant (.str x1) k1 p3), some (.Constant (.str x2) k2 p4)] [.Subscript (.Name ns p5) (.Constant (.str yt) k3 p6) p7, e2] p9] [] p10) none p11.line env = pure false := by rfl) :
    EX X n fz L env (.Expr (.Call (.Attribute (.Attribute (.Name x p) name p1) "append" p2) [.Dict [some (.Constant (.str x1) k1 p3), some (.Constant (.str x2) k2 p4)] [.Subscript (.Name ns p5) (.Constant (.str yt) k3 p6) p7, e2] p9] [] p10) p11 :: rest) Q loc M :=
  EX_cons (E1_Expr (EV_mcall (EVaf hE hx hv hm hf ok (GM_append hq (CW_go1 (KeepOk.bf _) (AR_cons (EV_dict2K (fun D hD => EV_sub (EV_gref hE hg hn (EV_str e1 (SUB_dictT (.inr hTT) ht (WT.mono (h D hD) fun w l m ⟨e, r⟩ => ⟨e, AR_nil (CA_append (setM_old hD hq) hl r)⟩) (by intro _; with_unfolding_all rfl))) hd')) hnd)) rfl)) rfl hd) he) hi hs)
theorem CHR {meth : Str} {g : Addr} {pl : Sem Bool} (hE : Fun env L) (hx : env.kindOf x = some .local) (hv : loc x = some (.ref a)) (hm : M a = some (.inst C k f)) (hf : f name = some (.ref b)) (ok : FieldOk X.K C name)
    (hm2 : M b = some (.inst C2 kb f2)) (hf2 : f2 meth = none) (ok2 : MethOk X.K C2 meth g) (hk : KeepOk X (.ref g))
    (h : CA X n fz L (.ref g) [.ref b] (fun v l m => ST X n fz L env y v (fun l m => seqQ X n fz L env rest Q .next l m) l m) loc M)
    (he : eval (.Call (.Attribute (.Attribute (.Name x p) name p1) meth p2) [] [] p3) env = (do
      let ov ← eval (.Attribute (.Name x p) name p1) env
      standAt p2.atName
      let (f, first) ← holding [ov] (getMethod ov meth pl)
      callWith p3 f first (backTo p3 (starEach [] env)) []) := by rfl)
    (hd : (x == ("__debug__" : Str)) = false := by decide)
    (hs : swapsWith (.Call (.Attribute (.Attribute (.Name x p) name p1) meth p2) [] [] p3) (some (.Name y p4)) p5.line env = pure false := by rfl) :
    EX X n fz L env (.Assign [.Name y p4] (.Call (.Attribute (.Attribute (.Name x p) name p1) meth p2) [] [] p3) p5 :: rest) Q loc M :=
  EX_cons (E1_AssignName (EV_mcall (EVaf hE hx hv hm hf ok (GM_meth hm2 hf2 ok2 (CW_go1 hk (AR_nil h) rfl)) rfl hd) he) hs)
end Mine
end
section
open PySem PySem.W PyProof.Rows
set_option maxRecDepth 100000
set_option maxHeartbeats 4000000
set_option linter.unusedVariables false
namespace Mine
noncomputable section
noncomputable def bodyL (i : Nat) : Option Stmt := PySem.Challenge.pw_te0032_05.main.body[i]?
noncomputable def fd : Option Stmt → Arguments × List Stmt × Scope
  | some (.FunctionDef _ a b _ _ _ s _ _ _) => (a, b, s)
  | _ => default
noncomputable def T (i : Nat) := fd (bodyL i)
noncomputable def D (i j : Nat) := fd (match bodyL i with | some (.ClassDef _ _ _ b _ _ _ _ _ _ _) => b[j]? | _ => none)
noncomputable def fo (x : Arguments × List Stmt × Scope) (nm q : Str) (dv : Value) (pm : Str) (t : Tok) (c : Addr) : Obj :=
  { cls := .type "function", data := .func { name := nm, qualname := q, params := x.1, body := .stmts x.2.1, scope := x.2.2, globals := 3, closure := [], defaults := dv, kwdefaults := .none, pyModule := .str pm t, code := .ref c } }
noncomputable def ob (c : Value) (d : Data) : Obj := { cls := c, data := d }
noncomputable def en (P : Params) (k : Str) (t : Tok) (v : Value) : DictEntry := { hash := PyData.keyHash P k, key := .str k t, val := v }
noncomputable def KP (P : Params) : Frag := [
(2, { cls := .none, data := .dict #[] }),
(3, { cls := .type "dict", data := .dict #[en P "__name__" 165 (.str "law_te0032_05" 1444), en P "__doc__" 166 .none, en P "__package__" 167 .none, en P "__loader__" 168 (.builtin "__main__.__loader__#opaque"), en P "__spec__" 169 .none, en P "__annotations__" 170 (.ref 6), en P "__builtins__" 171 (.ref 4), en P "__file__" 173 (.str "/claim/cut.py" 172), en P "__cached__" 174 .none, en P "_wall" 193 (.ref 21), en P "EOF" 196 .none, en P "spaceCharacters" 202 (.ref 22), en P "asciiLetters" 256 (.ref 27), en P "digits" 268 (.ref 32), en P "hexDigits" 292 (.ref 37), en P "asciiLower" 298 (.ref 42), en P "entities" 428 (.ref 43), en P "replacementCharacters" 531 (.ref 46), en P "tokenTypes" 556 (.ref 48), en P "tagTokenTypes" 563 (.ref 49), en P "Text" 604 (.ref 73), en P "_is_invalid" 611 (.ref 84), en P "HTMLUnicodeInputStream" 737 (.ref 166), en P "bisect_left" 751 (.ref 178), en P "Trie" 826 (.ref 230), en P "entitiesTrie" 843 (.ref 236), en P "HTMLTokenizer" 1443 (.ref 762), en P "_law_SIGNS" 1459 (.ref 767), en P "_law_HELD" 1465 (.ref 774), en P "_law_BEHIND" 1471 (.ref 781), en P "_law_TAILS" 1477 (.ref 788), en P "_law_TOLD" 1483 (.ref 795), en P "_law_CUT" 1489 (.ref 802), en P "_law_marks" 1500 (.ref 809), en P "_law_opening" 1509 (.ref 816), en P "_law_read" 1522 (.ref 823), en P "_law_fault" 1532 (.ref 830), en P "_law_call" 1540 (.ref 837), en P "_law_run" 1546 (.ref 842), en P "law" 1552 (.ref 847)] 40 }),
(22, { cls := .type "tuple", data := .seq #[.str "\t" 197, .str "\n" 198, .str "\x0c" 199, .str " " 200, .str "\x0d" 201] }),
(27, { cls := .type "tuple", data := .seq #[.str "a" 204, .str "b" 205, .str "c" 206, .str "d" 207, .str "e" 208, .str "f" 209, .str "g" 210, .str "h" 211, .str "i" 212, .str "j" 213, .str "k" 214, .str "l" 215, .str "m" 216, .str "n" 217, .str "o" 218, .str "p" 219, .str "q" 220, .str "r" 221, .str "s" 222, .str "t" 223, .str "u" 224, .str "v" 225, .str "w" 226, .str "x" 227, .str "y" 228, .str "z" 229, .str "A" 230, .str "B" 231, .str "C" 232, .str "D" 233, .str "E" 234, .str "F" 235, .str "G" 236, .str "H" 237, .str "I" 238, .str "J" 239, .str "K" 240, .str "L" 241, .str "M" 242, .str "N" 243, .str "O" 244, .str "P" 245, .str "Q" 246, .str "R" 247, .str "S" 248, .str "T" 249, .str "U" 250, .str "V" 251, .str "W" 252, .str "X" 253, .str "Y" 254, .str "Z" 255] }),
(42, fo (T 7) "asciiLower" "asciiLower" .none "html5lib.constants" 194 41),
(41, ob (.type "code") (.fields #[.str "asciiLower" 293, .str "asciiLower" 294, .str "/claim/cut.py" 295, .int 10 0, .int 1 0, .int 0 0, .int 0 0, .int 3 0, .ref 38, .bool true, .int 181 0, .ref 39, .none, .none, .none, .ref 40, .int 296 0, .int 10 0, .str "/claim/cut.py" 297])),
(48, { cls := .type "dict", data := .dict #[en P "Doctype" 532 (.int 0 533), en P "Characters" 534 (.int 1 535), en P "SpaceCharacters" 536 (.int 2 537), en P "StartTag" 538 (.int 3 539), en P "EndTag" 540 (.int 4 541), en P "EmptyTag" 542 (.int 5 543), en P "Comment" 544 (.int 6 545), en P "ParseError" 546 (.int 7 547)] 8 }),
(49, { cls := .type "tuple", data := .seq #[.int 3 539, .int 4 541, .int 5 543] }),
(72, { cls := .type "dict", data := .dict #[en P "__module__" 573 (.str "html5lib._inputstream" 564), en P "__firstlineno__" 577 (.int 17 576), en P "__init__" 585 (.ref 63), en P "read" 594 (.ref 70), en P "__static_attributes__" 597 (.ref 71), en P "__dict__" 599 (.ref 74), en P "__weakref__" 601 (.ref 75), en P "__doc__" 602 .none] 4 }),
(73, { cls := .type "type", data := .cls { name := "Text", bases := [.type "object"], mro := [.ref 73, .type "object"], ns := 72, qualname := "Text" }, slots := #[some (.ref 50), none, some (.str "Text" 566), some (.str "Text" 574), some (.builtin "object.__new__"), some (.bool true)] }),
(165, { cls := .type "dict", data := .dict #[en P "__module__" 619 (.str "html5lib._inputstream" 564), en P "__firstlineno__" 623 (.int 29 622), en P "_defaultChunkSize" 625 (.int 10240 624), en P "__init__" 633 (.ref 98), en P "reset" 640 (.ref 105), en P "openStream" 649 (.ref 112), en P "_position" 662 (.ref 119), en P "position" 671 (.ref 126), en P "char" 680 (.ref 133), en P "readChunk" 690 (.ref 141), en P "characterErrorsUCS4" 699 (.ref 148), en P "charsUntil" 711 (.ref 156), en P "unget" 719 (.ref 163), en P "__static_attributes__" 730 (.ref 164), en P "__dict__" 732 (.ref 167), en P "__weakref__" 734 (.ref 168), en P "__doc__" 735 .none] 4 }),
(166, { cls := .type "type", data := .cls { name := "HTMLUnicodeInputStream", bases := [.type "object"], mro := [.ref 166, .type "object"], ns := 165, qualname := "HTMLUnicodeInputStream" }, slots := #[some (.ref 85), none, some (.str "HTMLUnicodeInputStream" 612), some (.str "HTMLUnicodeInputStream" 620), some (.builtin "object.__new__"), some (.bool true)] }),
(761, { cls := .type "dict", data := .dict #[en P "__module__" 851 (.str "html5lib._tokenizer" 827), en P "__firstlineno__" 855 (.int 182 854), en P "__init__" 864 (.ref 261), en P "__iter__" 871 (.ref 268), en P "consumeNumberEntity" 886 (.ref 275), en P "consumeEntity" 901 (.ref 283), en P "processEntityInAttribute" 909 (.ref 290), en P "emitCurrentToken" 919 (.ref 297), en P "dataState" 928 (.ref 304), en P "entityDataState" 935 (.ref 311), en P "rcdataState" 942 (.ref 318), en P "characterReferenceInRcdata" 949 (.ref 325), en P "rawtextState" 956 (.ref 332), en P "scriptDataState" 963 (.ref 339), en P "plaintextState" 970 (.ref 346), en P "tagOpenState" 978 (.ref 353), en P "closeTagOpenState" 986 (.ref 360), en P "tagNameState" 994 (.ref 367), en P "rcdataLessThanSignState" 1001 (.ref 374), en P "rcdataEndTagOpenState" 1008 (.ref 381), en P "rcdataEndTagNameState" 1015 (.ref 388), en P "rawtextLessThanSignState" 1022 (.ref 395), en P "rawtextEndTagOpenState" 1029 (.ref 402), en P "rawtextEndTagNameState" 1036 (.ref 409), en P "scriptDataLessThanSignState" 1043 (.ref 416), en P "scriptDataEndTagOpenState" 1050 (.ref 423), en P "scriptDataEndTagNameState" 1057 (.ref 430), en P "scriptDataEscapeStartState" 1064 (.ref 437), en P "scriptDataEscapeStartDashState" 1071 (.ref 444), en P "scriptDataEscapedState" 1078 (.ref 451), en P "scriptDataEscapedDashState" 1085 (.ref 458), en P "scriptDataEscapedDashDashState" 1092 (.ref 465), en P "scriptDataEscapedLessThanSignState" 1099 (.ref 472), en P "scriptDataEscapedEndTagOpenState" 1106 (.ref 479), en P "scriptDataEscapedEndTagNameState" 1113 (.ref 486), en P "scriptDataDoubleEscapeStartState" 1120 (.ref 493), en P "scriptDataDoubleEscapedState" 1127 (.ref 500), en P "scriptDataDoubleEscapedDashState" 1134 (.ref 507), en P "scriptDataDoubleEscapedDashDashState" 1141 (.ref 514), en P "scriptDataDoubleEscapedLessThanSignState" 1148 (.ref 521), en P "scriptDataDoubleEscapeEndState" 1155 (.ref 528), en P "beforeAttributeNameState" 1163 (.ref 535), en P "attributeNameState" 1175 (.ref 542), en P "afterAttributeNameState" 1183 (.ref 549), en P "beforeAttributeValueState" 1191 (.ref 556), en P "attributeValueDoubleQuotedState" 1199 (.ref 563), en P "attributeValueSingleQuotedState" 1207 (.ref 570), en P "attributeValueUnQuotedState" 1215 (.ref 577), en P "afterAttributeValueState" 1223 (.ref 584), en P "selfClosingStartTagState" 1231 (.ref 591), en P "bogusCommentState" 1239 (.ref 598), en P "markupDeclarationOpenState" 1249 (.ref 605), en P "commentStartState" 1257 (.ref 612), en P "commentStartDashState" 1265 (.ref 619), en P "commentState" 1273 (.ref 626), en P "commentEndDashState" 1281 (.ref 633), en P "commentEndState" 1289 (.ref 640), en P "commentEndBangState" 1297 (.ref 647), en P "doctypeState" 1305 (.ref 654), en P "beforeDoctypeNameState" 1313 (.ref 661), en P "doctypeNameState" 1321 (.ref 668), en P "afterDoctypeNameState" 1331 (.ref 675), en P "afterDoctypePublicKeywordState" 1339 (.ref 682), en P "beforeDoctypePublicIdentifierState" 1347 (.ref 689), en P "doctypePublicIdentifierDoubleQuotedState" 1355 (.ref 696), en P "doctypePublicIdentifierSingleQuotedState" 1363 (.ref 703), en P "afterDoctypePublicIdentifierState" 1371 (.ref 710), en P "betweenDoctypePublicAndSystemIdentifiersState" 1379 (.ref 717), en P "afterDoctypeSystemKeywordState" 1387 (.ref 724), en P "beforeDoctypeSystemIdentifierState" 1395 (.ref 731), en P "doctypeSystemIdentifierDoubleQuotedState" 1403 (.ref 738), en P "doctypeSystemIdentifierSingleQuotedState" 1411 (.ref 745), en P "afterDoctypeSystemIdentifierState" 1419 (.ref 752), en P "bogusDoctypeState" 1427 (.ref 759), en P "__static_attributes__" 1436 (.ref 760), en P "__dict__" 1438 (.ref 763), en P "__weakref__" 1440 (.ref 764), en P "__doc__" 1441 .none] 4 }),
(762, { cls := .type "type", data := .cls { name := "HTMLTokenizer", bases := [.type "object"], mro := [.ref 762, .type "object"], ns := 761, qualname := "HTMLTokenizer" }, slots := #[some (.ref 247), none, some (.str "HTMLTokenizer" 844), some (.str "HTMLTokenizer" 852), some (.builtin "object.__new__"), some (.bool true)] }),
(63, fo (D 13 0) "__init__" "Text.__init__" .none "html5lib._inputstream" 564 62),
(62, ob (.type "code") (.fields #[.str "__init__" 578, .str "Text.__init__" 579, .str "/claim/cut.py" 580, .int 19 0, .int 2 0, .int 0 0, .int 0 0, .int 3 0, .ref 57, .bool true, .int 181 0, .ref 58, .none, .ref 59, .ref 60, .ref 61, .int 583 0, .int 19 0, .str "/claim/cut.py" 584])),
(70, fo (D 13 1) "read" "Text.read" .none "html5lib._inputstream" 564 69),
(69, ob (.type "code") (.fields #[.str "read" 586, .str "Text.read" 587, .str "/claim/cut.py" 588, .int 23 0, .int 2 0, .int 0 0, .int 0 0, .int 3 0, .ref 64, .bool true, .int 181 0, .ref 65, .none, .ref 66, .ref 67, .ref 68, .int 592 0, .int 23 0, .str "/claim/cut.py" 593])),
(84, fo (T 14) "_is_invalid" "_is_invalid" .none "html5lib._inputstream" 564 83),
(83, ob (.type "code") (.fields #[.str "_is_invalid" 605, .str "_is_invalid" 606, .str "/claim/cut.py" 607, .int 27 0, .int 1 0, .int 0 0, .int 0 0, .int 3 0, .ref 78, .bool true, .int 181 0, .ref 79, .none, .ref 80, .ref 81, .ref 82, .int 609 0, .int 27 0, .str "/claim/cut.py" 610])),
(98, fo (D 15 1) "__init__" "HTMLUnicodeInputStream.__init__" .none "html5lib._inputstream" 564 97),
(97, ob (.type "code") (.fields #[.str "__init__" 626, .str "HTMLUnicodeInputStream.__init__" 627, .str "/claim/cut.py" 628, .int 32 0, .int 2 0, .int 0 0, .int 0 0, .int 3 0, .ref 92, .bool true, .int 181 0, .ref 93, .none, .ref 94, .ref 95, .ref 96, .int 631 0, .int 32 0, .str "/claim/cut.py" 632])),
(105, fo (D 15 2) "reset" "HTMLUnicodeInputStream.reset" .none "html5lib._inputstream" 564 104),
(104, ob (.type "code") (.fields #[.str "reset" 634, .str "HTMLUnicodeInputStream.reset" 635, .str "/claim/cut.py" 636, .int 38 0, .int 1 0, .int 0 0, .int 0 0, .int 3 0, .ref 99, .bool true, .int 181 0, .ref 100, .none, .ref 101, .ref 102, .ref 103, .int 638 0, .int 38 0, .str "/claim/cut.py" 639])),
(112, fo (D 15 3) "openStream" "HTMLUnicodeInputStream.openStream" .none "html5lib._inputstream" 564 111),
(111, ob (.type "code") (.fields #[.str "openStream" 641, .str "HTMLUnicodeInputStream.openStream" 642, .str "/claim/cut.py" 643, .int 47 0, .int 2 0, .int 0 0, .int 0 0, .int 3 0, .ref 106, .bool true, .int 181 0, .ref 107, .none, .ref 108, .ref 109, .ref 110, .int 647 0, .int 47 0, .str "/claim/cut.py" 648])),
(119, fo (D 15 4) "_position" "HTMLUnicodeInputStream._position" .none "html5lib._inputstream" 564 118),
(118, ob (.type "code") (.fields #[.str "_position" 650, .str "HTMLUnicodeInputStream._position" 651, .str "/claim/cut.py" 652, .int 51 0, .int 2 0, .int 0 0, .int 0 0, .int 3 0, .ref 113, .bool true, .int 181 0, .ref 114, .none, .ref 115, .ref 116, .ref 117, .int 660 0, .int 51 0, .str "/claim/cut.py" 661])),
(126, fo (D 15 5) "position" "HTMLUnicodeInputStream.position" .none "html5lib._inputstream" 564 125),
(125, ob (.type "code") (.fields #[.str "position" 663, .str "HTMLUnicodeInputStream.position" 664, .str "/claim/cut.py" 665, .int 62 0, .int 1 0, .int 0 0, .int 0 0, .int 3 0, .ref 120, .bool true, .int 181 0, .ref 121, .none, .ref 122, .ref 123, .ref 124, .int 669 0, .int 62 0, .str "/claim/cut.py" 670])),
(133, fo (D 15 6) "char" "HTMLUnicodeInputStream.char" .none "html5lib._inputstream" 564 132),
(132, ob (.type "code") (.fields #[.str "char" 672, .str "HTMLUnicodeInputStream.char" 673, .str "/claim/cut.py" 674, .int 66 0, .int 1 0, .int 0 0, .int 0 0, .int 3 0, .ref 127, .bool true, .int 181 0, .ref 128, .none, .ref 129, .ref 130, .ref 131, .int 678 0, .int 66 0, .str "/claim/cut.py" 679])),
(141, fo (D 15 7) "readChunk" "HTMLUnicodeInputStream.readChunk" (.ref 134) "html5lib._inputstream" 564 140),
(140, ob (.type "code") (.fields #[.str "readChunk" 681, .str "HTMLUnicodeInputStream.readChunk" 682, .str "/claim/cut.py" 683, .int 75 0, .int 2 0, .int 0 0, .int 0 0, .int 3 0, .ref 135, .bool true, .int 181 0, .ref 136, .none, .ref 137, .ref 138, .ref 139, .int 688 0, .int 75 0, .str "/claim/cut.py" 689])),
(148, fo (D 15 8) "characterErrorsUCS4" "HTMLUnicodeInputStream.characterErrorsUCS4" .none "html5lib._inputstream" 564 147),
(147, ob (.type "code") (.fields #[.str "characterErrorsUCS4" 691, .str "HTMLUnicodeInputStream.characterErrorsUCS4" 692, .str "/claim/cut.py" 693, .int 101 0, .int 2 0, .int 0 0, .int 0 0, .int 3 0, .ref 142, .bool true, .int 181 0, .ref 143, .none, .ref 144, .ref 145, .ref 146, .int 697 0, .int 101 0, .str "/claim/cut.py" 698])),
(156, fo (D 15 9) "charsUntil" "HTMLUnicodeInputStream.charsUntil" (.ref 149) "html5lib._inputstream" 564 155),
(155, ob (.type "code") (.fields #[.str "charsUntil" 700, .str "HTMLUnicodeInputStream.charsUntil" 701, .str "/claim/cut.py" 702, .int 106 0, .int 3 0, .int 0 0, .int 0 0, .int 3 0, .ref 150, .bool true, .int 181 0, .ref 151, .none, .ref 152, .ref 153, .ref 154, .int 709 0, .int 106 0, .str "/claim/cut.py" 710])),
(163, fo (D 15 10) "unget" "HTMLUnicodeInputStream.unget" .none "html5lib._inputstream" 564 162),
(162, ob (.type "code") (.fields #[.str "unget" 712, .str "HTMLUnicodeInputStream.unget" 713, .str "/claim/cut.py" 714, .int 125 0, .int 2 0, .int 0 0, .int 0 0, .int 3 0, .ref 157, .bool true, .int 181 0, .ref 158, .none, .ref 159, .ref 160, .ref 161, .int 717 0, .int 125 0, .str "/claim/cut.py" 718])),
(261, fo (D 21 0) "__init__" "HTMLTokenizer.__init__" (.ref 254) "html5lib._tokenizer" 827 260),
(260, ob (.type "code") (.fields #[.str "__init__" 856, .str "HTMLTokenizer.__init__" 857, .str "/claim/cut.py" 858, .int 184 0, .int 3 0, .int 0 0, .int 0 0, .int 3 0, .ref 255, .bool true, .int 181 0, .ref 256, .none, .ref 257, .ref 258, .ref 259, .int 862 0, .int 184 0, .str "/claim/cut.py" 863])),
(297, fo (D 21 5) "emitCurrentToken" "HTMLTokenizer.emitCurrentToken" .none "html5lib._tokenizer" 827 296),
(296, ob (.type "code") (.fields #[.str "emitCurrentToken" 910, .str "HTMLTokenizer.emitCurrentToken" 911, .str "/claim/cut.py" 912, .int 286 0, .int 1 0, .int 0 0, .int 0 0, .int 3 0, .ref 291, .bool true, .int 181 0, .ref 292, .none, .ref 293, .ref 294, .ref 295, .int 917 0, .int 286 0, .str "/claim/cut.py" 918])),
(612, fo (D 21 50) "commentStartState" "HTMLTokenizer.commentStartState" .none "html5lib._tokenizer" 827 611),
(611, ob (.type "code") (.fields #[.str "commentStartState" 1250, .str "HTMLTokenizer.commentStartState" 1251, .str "/claim/cut.py" 1252, .int 715 0, .int 1 0, .int 0 0, .int 0 0, .int 3 0, .ref 606, .bool true, .int 181 0, .ref 607, .none, .ref 608, .ref 609, .ref 610, .int 1255 0, .int 715 0, .str "/claim/cut.py" 1256])),
(619, fo (D 21 51) "commentStartDashState" "HTMLTokenizer.commentStartDashState" .none "html5lib._tokenizer" 827 618),
(618, ob (.type "code") (.fields #[.str "commentStartDashState" 1258, .str "HTMLTokenizer.commentStartDashState" 1259, .str "/claim/cut.py" 1260, .int 735 0, .int 1 0, .int 0 0, .int 0 0, .int 3 0, .ref 613, .bool true, .int 181 0, .ref 614, .none, .ref 615, .ref 616, .ref 617, .int 1263 0, .int 735 0, .str "/claim/cut.py" 1264])),
(626, fo (D 21 52) "commentState" "HTMLTokenizer.commentState" .none "html5lib._tokenizer" 827 625),
(625, ob (.type "code") (.fields #[.str "commentState" 1266, .str "HTMLTokenizer.commentState" 1267, .str "/claim/cut.py" 1268, .int 755 0, .int 1 0, .int 0 0, .int 0 0, .int 3 0, .ref 620, .bool true, .int 181 0, .ref 621, .none, .ref 622, .ref 623, .ref 624, .int 1271 0, .int 755 0, .str "/claim/cut.py" 1272])),
(633, fo (D 21 53) "commentEndDashState" "HTMLTokenizer.commentEndDashState" .none "html5lib._tokenizer" 827 632),
(632, ob (.type "code") (.fields #[.str "commentEndDashState" 1274, .str "HTMLTokenizer.commentEndDashState" 1275, .str "/claim/cut.py" 1276, .int 770 0, .int 1 0, .int 0 0, .int 0 0, .int 3 0, .ref 627, .bool true, .int 181 0, .ref 628, .none, .ref 629, .ref 630, .ref 631, .int 1279 0, .int 770 0, .str "/claim/cut.py" 1280])),
(640, fo (D 21 54) "commentEndState" "HTMLTokenizer.commentEndState" .none "html5lib._tokenizer" 827 639),
(639, ob (.type "code") (.fields #[.str "commentEndState" 1282, .str "HTMLTokenizer.commentEndState" 1283, .str "/claim/cut.py" 1284, .int 787 0, .int 1 0, .int 0 0, .int 0 0, .int 3 0, .ref 634, .bool true, .int 181 0, .ref 635, .none, .ref 636, .ref 637, .ref 638, .int 1287 0, .int 787 0, .str "/claim/cut.py" 1288])),
(647, fo (D 21 55) "commentEndBangState" "HTMLTokenizer.commentEndBangState" .none "html5lib._tokenizer" 827 646),
(646, ob (.type "code") (.fields #[.str "commentEndBangState" 1290, .str "HTMLTokenizer.commentEndBangState" 1291, .str "/claim/cut.py" 1292, .int 812 0, .int 1 0, .int 0 0, .int 0 0, .int 3 0, .ref 641, .bool true, .int 181 0, .ref 642, .none, .ref 643, .ref 644, .ref 645, .int 1295 0, .int 812 0, .str "/claim/cut.py" 1296])),
(767, { cls := .type "list", data := .seq #[.str "-" 1446, .str "a" 1447, .str "--" 1448, .str "!" 1449, .str ">" 1450, .str "\x00" 1451, .str "-" 1452, .str "\x0d" 1453, .str "-!" 1454, .str "\n" 1455, .str "b <" 1456, .str "\x0d\n" 1457, .str "->" 1458] }),
(774, fo (T 24) "_law_HELD" "_law_HELD" .none "law_te0032_05" 1444 773),
(773, ob (.type "code") (.fields #[.str "_law_HELD" 1460, .str "_law_HELD" 1461, .str "/claim/cut.py" 1462, .int 1187 0, .int 0 0, .int 0 0, .int 0 0, .int 3 0, .ref 768, .bool true, .int 181 0, .ref 769, .none, .ref 770, .ref 771, .ref 772, .int 1463 0, .int 1187 0, .str "/claim/cut.py" 1464])),
(781, fo (T 25) "_law_BEHIND" "_law_BEHIND" .none "law_te0032_05" 1444 780),
(780, ob (.type "code") (.fields #[.str "_law_BEHIND" 1466, .str "_law_BEHIND" 1467, .str "/claim/cut.py" 1468, .int 1189 0, .int 0 0, .int 0 0, .int 0 0, .int 3 0, .ref 775, .bool true, .int 181 0, .ref 776, .none, .ref 777, .ref 778, .ref 779, .int 1469 0, .int 1189 0, .str "/claim/cut.py" 1470])),
(788, fo (T 26) "_law_TAILS" "_law_TAILS" .none "law_te0032_05" 1444 787),
(787, ob (.type "code") (.fields #[.str "_law_TAILS" 1472, .str "_law_TAILS" 1473, .str "/claim/cut.py" 1474, .int 1191 0, .int 0 0, .int 0 0, .int 0 0, .int 3 0, .ref 782, .bool true, .int 181 0, .ref 783, .none, .ref 784, .ref 785, .ref 786, .int 1475 0, .int 1191 0, .str "/claim/cut.py" 1476])),
(795, fo (T 27) "_law_TOLD" "_law_TOLD" .none "law_te0032_05" 1444 794),
(794, ob (.type "code") (.fields #[.str "_law_TOLD" 1478, .str "_law_TOLD" 1479, .str "/claim/cut.py" 1480, .int 1193 0, .int 0 0, .int 0 0, .int 0 0, .int 3 0, .ref 789, .bool true, .int 181 0, .ref 790, .none, .ref 791, .ref 792, .ref 793, .int 1481 0, .int 1193 0, .str "/claim/cut.py" 1482])),
(802, fo (T 28) "_law_CUT" "_law_CUT" .none "law_te0032_05" 1444 801),
(801, ob (.type "code") (.fields #[.str "_law_CUT" 1484, .str "_law_CUT" 1485, .str "/claim/cut.py" 1486, .int 1195 0, .int 0 0, .int 0 0, .int 0 0, .int 3 0, .ref 796, .bool true, .int 181 0, .ref 797, .none, .ref 798, .ref 799, .ref 800, .int 1487 0, .int 1195 0, .str "/claim/cut.py" 1488])),
(809, fo (T 29) "_law_marks" "_law_marks" .none "law_te0032_05" 1444 808),
(808, ob (.type "code") (.fields #[.str "_law_marks" 1490, .str "_law_marks" 1491, .str "/claim/cut.py" 1492, .int 1197 0, .int 1 0, .int 0 0, .int 0 0, .int 3 0, .ref 803, .bool true, .int 181 0, .ref 804, .none, .ref 805, .ref 806, .ref 807, .int 1498 0, .int 1197 0, .str "/claim/cut.py" 1499])),
(816, fo (T 30) "_law_opening" "_law_opening" .none "law_te0032_05" 1444 815),
(815, ob (.type "code") (.fields #[.str "_law_opening" 1501, .str "_law_opening" 1502, .str "/claim/cut.py" 1503, .int 1204 0, .int 2 0, .int 0 0, .int 0 0, .int 3 0, .ref 810, .bool true, .int 181 0, .ref 811, .none, .ref 812, .ref 813, .ref 814, .int 1507 0, .int 1204 0, .str "/claim/cut.py" 1508])),
(823, fo (T 31) "_law_read" "_law_read" .none "law_te0032_05" 1444 822),
(822, ob (.type "code") (.fields #[.str "_law_read" 1510, .str "_law_read" 1511, .str "/claim/cut.py" 1512, .int 1211 0, .int 2 0, .int 0 0, .int 0 0, .int 3 0, .ref 817, .bool true, .int 181 0, .ref 818, .none, .ref 819, .ref 820, .ref 821, .int 1520 0, .int 1211 0, .str "/claim/cut.py" 1521])),
(830, fo (T 32) "_law_fault" "_law_fault" .none "law_te0032_05" 1444 829),
(829, ob (.type "code") (.fields #[.str "_law_fault" 1523, .str "_law_fault" 1524, .str "/claim/cut.py" 1525, .int 1221 0, .int 3 0, .int 0 0, .int 0 0, .int 3 0, .ref 824, .bool true, .int 181 0, .ref 825, .none, .ref 826, .ref 827, .ref 828, .int 1530 0, .int 1221 0, .str "/claim/cut.py" 1531])),
(837, fo (T 33) "_law_call" "_law_call" .none "law_te0032_05" 1444 836),
(836, ob (.type "code") (.fields #[.str "_law_call" 1533, .str "_law_call" 1534, .str "/claim/cut.py" 1535, .int 1230 0, .int 2 0, .int 0 0, .int 0 0, .int 3 0, .ref 831, .bool true, .int 181 0, .ref 832, .none, .ref 833, .ref 834, .ref 835, .int 1538 0, .int 1230 0, .str "/claim/cut.py" 1539])),
(842, fo (T 34) "_law_run" "_law_run" .none "law_te0032_05" 1444 841),
(841, ob (.type "code") (.fields #[.str "_law_run" 1541, .str "_law_run" 1542, .str "/claim/cut.py" 1543, .int 1242 0, .int 6 0, .int 0 0, .int 0 0, .int 3 0, .ref 838, .bool true, .int 181 0, .ref 839, .none, .none, .none, .ref 840, .int 1544 0, .int 1242 0, .str "/claim/cut.py" 1545])),
(847, fo (T 35) "law" "law" .none "law_te0032_05" 1444 846),
(846, ob (.type "code") (.fields #[.str "law" 1547, .str "law" 1548, .str "/claim/cut.py" 1549, .int 1273 0, .int 1 0, .int 0 0, .int 0 0, .int 3 0, .ref 843, .bool true, .int 181 0, .ref 844, .none, .none, .none, .ref 845, .int 1550 0, .int 1273 0, .str "/claim/cut.py" 1551])),
(134, { cls := .type "tuple", data := .seq #[.none] }),
(149, { cls := .type "tuple", data := .seq #[.bool false] }),
(254, { cls := .type "tuple", data := .seq #[.none] }),
(304, fo (D 21 6) "dataState" "HTMLTokenizer.dataState" .none "html5lib._tokenizer" 827 303),
(303, ob (.type "code") (.fields #[.str "dataState" 920, .str "HTMLTokenizer.dataState" 921, .str "/claim/cut.py" 922, .int 304 0, .int 1 0, .int 0 0, .int 0 0, .int 3 0, .ref 298, .bool true, .int 181 0, .ref 299, .none, .ref 300, .ref 301, .ref 302, .int 926 0, .int 304 0, .str "/claim/cut.py" 927]))]
end

structure Cz where
  prog : Program
  w : World
  T : Heap
  p : Program
  loose : List Str
  mg : Str → Option Value
  mb : Str → Option Value
  X : (KP w.params).In T
  R : TopRead p loose mg mb T
noncomputable def Cz.cx (z : Cz) : Cx := ⟨z.prog, z.w, KP z.w.params, z.T, z.p, z.loose, z.mg, z.mb, z.X, z.R⟩
theorem Cz.of {X : Cx} (h : X.K = KP X.w.params) : ∃ z : Cz, z.cx = X := by
  obtain ⟨a, b, K, d, e, f, g, i, j, k⟩ := X
  have h : K = KP b.params := h
  subst h
  exact ⟨⟨a, b, d, e, f, g, i, j, k⟩, rfl⟩
noncomputable def fokB (K : Frag) (C : Addr) (nm : Str) : Bool := plainGet K C nm && hasDictIn K C && (match findIn K (.ref C) nm with | some x => noGet K x | none => false)
theorem fok {K : Frag} {C : Addr} {nm : Str} (h : fokB K C nm = true) : FieldOk K C nm := by
  unfold fokB at h
  simp only [Bool.and_eq_true] at h
  refine ⟨h.1.1, h.1.2, ?_⟩
  cases q : findIn K (.ref C) nm with
  | none => rw [q] at h; cases h.2
  | some x => rw [q] at h; exact ⟨x, rfl, h.2⟩
noncomputable def isB (v : Option (Option Value)) (s : String) : Bool := match v with | some (some (.builtin x)) => x == s | _ => false
theorem isB_eq {v : Option (Option Value)} {s : String} (h : isB v s = true) : v = some (some (.builtin s)) := by
  unfold isB at h
  split at h
  · rw [eq_of_beq h]
  · cases h
noncomputable def sokB (K : Frag) (C : Addr) (nm : Str) : Bool := isB (findIn K (.ref C) "__setattr__") "object.__setattr__" && plainOver K C && (match takerIn K C nm with | some none => true | _ => false) && hasDictIn K C
theorem sok {K : Frag} {C : Addr} {nm : Str} (h : sokB K C nm = true) : StoreOk K C nm := by
  unfold sokB at h
  simp only [Bool.and_eq_true] at h
  obtain ⟨⟨⟨a, b⟩, c⟩, d⟩ := h
  refine ⟨isB_eq a, b, ?_, d⟩
  split at c
  · assumption
  · cases c
noncomputable def mokB (K : Frag) (C : Addr) (nm : Str) (g : Addr) : Bool := plainGet K C nm && hasDictIn K C && (match findIn K (.ref C) nm with | some (some (.ref x)) => x == g | _ => false) && isFn K (.ref g)
  && isB (specialIn K (.ref g) "__get__") "function.__get__" && (match takesIn K (.ref g) with | some false => true | _ => false) && !copiedNames.contains nm
theorem mok {K : Frag} {C : Addr} {nm : Str} {g : Addr} (h : mokB K C nm g = true) : MethOk K C nm g := by
  unfold mokB at h
  simp only [Bool.and_eq_true] at h
  obtain ⟨⟨⟨⟨⟨⟨a, b⟩, c⟩, d⟩, e⟩, f⟩, k⟩ := h
  refine ⟨a, b, ?_, d, isB_eq e, ?_, by simpa using k⟩
  · split at c
    · rename_i q; rw [q, eq_of_beq c]
    · cases c
  · split at f
    · assumption
    · cases f
theorem el2 {α β : Type} {G : α → β → Prop} {a : α} {b : β} (h : G a b) : ∀ v m, v = a ∧ m = b → G v m := by rintro _ _ ⟨rfl, rfl⟩; exact h
theorem el1 {α β : Type} {G R : α → β → Prop} {a : α} (h : ∀ m, R a m → G a m) : ∀ v m, v = a ∧ R v m → G v m := by rintro _ m ⟨rfl, r⟩; exact h m r

theorem pySl_nat {α : Type} (l : List α) (a b : Nat) : pySl l (some (a : Int)) (some (b : Int)) = (l.take b).drop a := by
  unfold pySl clipI
  have h1 : ¬ ((a : Int) < 0) := by (lia)
  have h2 : ¬ ((b : Int) < 0) := by (lia)
  simp only [h1, h2, if_false, Int.toNat_natCast]
  by_cases hb : b ≤ l.length
  · rw [Nat.min_eq_left hb]
    by_cases ha : a ≤ l.length
    · rw [Nat.min_eq_left ha]
    · rw [Nat.min_eq_right (Nat.le_of_not_le ha), List.drop_eq_nil_of_le (by simp; (lia)), List.drop_eq_nil_of_le (by simp; (lia))]
  · rw [Nat.min_eq_right (Nat.le_of_not_le hb), List.take_length, List.take_of_length_le (Nat.le_of_not_le hb)]
    by_cases ha : a ≤ l.length
    · rw [Nat.min_eq_left ha]
    · rw [Nat.min_eq_right (Nat.le_of_not_le ha), List.drop_eq_nil_of_le (Nat.le_refl _), List.drop_eq_nil_of_le (Nat.le_of_not_le ha)]
theorem pySl_from {α : Type} (l : List α) (a : Nat) : pySl l (some (a : Int)) none = l.drop a := by
  unfold pySl clipI
  have h2 : ¬ ((a : Int) < 0) := by (lia)
  simp only [h2, if_false, Int.toNat_natCast, List.take_length]
  by_cases ha : a ≤ l.length
  · rw [Nat.min_eq_left ha]
  · rw [Nat.min_eq_right (Nat.le_of_not_le ha), List.drop_eq_nil_of_le (Nat.le_refl _), List.drop_eq_nil_of_le (Nat.le_of_not_le ha)]
theorem pySl_upto {α : Type} (l : List α) (b : Nat) : pySl l none (some (b : Int)) = l.take b := by
  have := pySl_nat l 0 b
  unfold pySl clipI at this ⊢
  simpa using this

structure G where
  S : Addr
  X : Addr
  E : Addr
  Q : Addr
  N : Addr
  txt : List Nat
noncomputable def bv (b : List Nat) : Value := match b with | [] => .none | b => .str (mkS b) 0
noncomputable def stT (g : G) (c : List Nat) (co : Nat) (pl pc : Nat) (b : List Nat) : List (Str × Value) :=
  [("reportCharacterErrors", .ref g.Q), ("newLines", .ref g.N), ("dataStream", .ref g.X), ("chunk", .str (mkS c) 0), ("chunkSize", .int c.length 0), ("chunkOffset", .int co 0), ("errors", .ref g.E),
   ("prevNumLines", .int pl 0), ("prevNumCols", .int pc 0), ("_bufferedCharacter", bv b)]
theorem stNo {g : G} {c : List Nat} {co pl pc : Nat} {b : List Nat} {x : Str} (h : (["reportCharacterErrors", "newLines", "dataStream", "chunk", "chunkSize", "chunkOffset", "errors", "prevNumLines", "prevNumCols", "_bufferedCharacter"] : List Str).all (fun y => (x == y) == false) = true) : tblF (stT g c co pl pc b) x = none := by
  simp only [List.all_cons, List.all_nil, Bool.and_true, Bool.and_eq_true, beq_iff_eq] at h
  obtain ⟨h0, h1, h2, h3, h4, h5, h6, h7, h8, h9⟩ := h
  exact tS (tS (tS (tS (tS (tS (tS (tS (tS (tS tN h9) h8) h7) h6) h5) h4) h3) h2) h1) h0
theorem sgf3 {g : G} {c : List Nat} {co pl pc : Nat} {b : List Nat} : tblF (stT g c co pl pc b) "chunk" = some (.str (mkS c) 0) := tS (tS (tS (tH)))
theorem sgf4 {g : G} {c : List Nat} {co pl pc : Nat} {b : List Nat} : tblF (stT g c co pl pc b) "chunkSize" = some (.int c.length 0) := tS (tS (tS (tS (tH))))
theorem sgf5 {g : G} {c : List Nat} {co pl pc : Nat} {b : List Nat} : tblF (stT g c co pl pc b) "chunkOffset" = some (.int co 0) := tS (tS (tS (tS (tS (tH)))))
theorem sgf7 {g : G} {c : List Nat} {co pl pc : Nat} {b : List Nat} : tblF (stT g c co pl pc b) "prevNumLines" = some (.int pl 0) := tS (tS (tS (tS (tS (tS (tS (tH)))))))
theorem sgf8 {g : G} {c : List Nat} {co pl pc : Nat} {b : List Nat} : tblF (stT g c co pl pc b) "prevNumCols" = some (.int pc 0) := tS (tS (tS (tS (tS (tS (tS (tS (tH))))))))
structure St (M : Mem) (g : G) (pre c : List Nat) (co : Nat) (b : List Nat) (p : Nat) : Prop where
  hS : M g.S = some (.inst 166 10 (tblF (stT g c co (pre.count 10) (trail pre) b)))
  hX : M g.X = some (.inst 73 2 (tblF [("text", .str (mkS g.txt) 0), ("place", .int p 0)]))
  hE : ∃ es, M g.E = some (.lst es) ∧ es.length + b.length ≤ p
  hQ : M g.Q = some (.obj (methodObj (.ref 148) (.ref g.S)))
  hW : mend g.txt = pre ++ c ++ mend (b ++ g.txt.drop p)
  hco : co ≤ c.length
  hb : b = [] ∨ b = [13]
  hp : p ≤ g.txt.length
  len : g.txt.length ≤ 100000
  small : ∀ x ∈ g.txt, x < 55296
noncomputable def Mid (M m : Mem) (g : G) (pl pc : Nat) (b : List Nat) (p : Nat) (es : List Value) : Prop :=
  m g.S = some (.inst 166 10 (tblF (stT g [] 0 pl pc b))) ∧ m g.X = some (.inst 73 2 (tblF [("text", .str (mkS g.txt) 0), ("place", .int p 0)])) ∧ m g.E = some (.lst es) ∧ m g.Q = some (.obj (methodObj (.ref 148) (.ref g.S))) ∧
  ∀ a o, a ≠ g.S → a ≠ g.X → a ≠ g.E → M a = some o → m a = some o
noncomputable def Kp (g : G) (M M' : Mem) : Prop := ∀ a o, a ≠ g.S → a ≠ g.X → a ≠ g.E → M a = some o → M' a = some o
theorem Kp.refl (g : G) (M : Mem) : Kp g M M := fun _ _ _ _ _ e => e
theorem Kp.trans {g : G} {a b c : Mem} (x : Kp g a b) (y : Kp g b c) : Kp g a c := fun d o h1 h2 h3 e => y d o h1 h2 h3 (x d o h1 h2 h3 e)

theorem pySl_m1 {α : Type} (l : List α) : pySl l none (some (-1)) = l.dropLast := by
  unfold pySl clipI
  simp only [show ((-1 : Int) < 0) = True by simp, if_true, List.drop_zero]
  rw [List.dropLast_eq_take]
  congr 1
  (lia)
theorem EV_rep {X : Cx} {n : Nat} {fz : Frz} {L : Addr} {loc : Loc} {M : Mem} {env : Env} {Q : QV} {ob : PySem.Expr} {apos pos p1 p2 : Pos} {k1 k2 : Nat} {y z : Str} {pl : Sem Bool} (p q : List Nat) (hy : y = mkS p) (hz : z = mkS q) (hp : p ≠ []) (hpq : p ≠ q) (hq : q.length ≤ 4)
    (h : EV X n fz L env ob (fun v l m => ∃ t, v = .str (mkS t) 0 ∧ t.length ≤ 1000000 ∧ Q (.str (mkS (repL p q t.length t)) 0) l m) loc M)
    (he : eval (.Call (.Attribute ob "replace" apos) [.Constant (.str y) k1 p1, .Constant (.str z) k2 p2] [] pos) env = (do
      let ov ← eval ob env
      standAt apos.atName
      let (f, first) ← holding [ov] (getMethod ov "replace" pl)
      callWith pos f first (backTo pos (starEach [.Constant (.str y) k1 p1, .Constant (.str z) k2 p2] env)) []) := by rfl) :
    EV X n fz L env (.Call (.Attribute ob "replace" apos) [.Constant (.str y) k1 p1, .Constant (.str z) k2 p2] [] pos) Q loc M := by
  subst hy hz
  refine EV_replace (pl := pl) (by rw [mkS_beq]; simpa using hpq) (WT.mono h ?_) he
  rintro v l m ⟨t, e, hl, hQ⟩
  refine ⟨mkS t, e, ?_, ?_⟩
  · rw [mkS_length, mkS_length]
    have : (t.length + 1) * q.length ≤ 1000001 * 4 := Nat.mul_le_mul (by (exact Nat.lt_of_le_of_lt (by assumption) (by decide))) hq
    (lia)
  · rw [replace_mkS p q t hp]; exact hQ
theorem repL_le (p z : List Nat) (h : z.length ≤ p.length) : ∀ (k : Nat) (l : List Nat), (repL p z k l).length ≤ l.length := by
  intro k
  induction k with
  | zero => intro l; exact Nat.le_refl _
  | succ k ih =>
    intro l
    cases l with
    | nil => exact Nat.le_refl _
    | cons c r =>
      rw [repL]
      split
      · rename_i hp
        have := hp.length_le
        have h2 := ih ((c :: r).drop p.length)
        simp only [List.length_append, List.length_cons, List.length_drop] at h2 this ⊢
        (omega)
      · simp only [List.length_cons]
        have := ih r
        (lia)
theorem mended2 (l : List Nat) : repL [13] [10] (repL [13, 10] [10] l.length l).length (repL [13, 10] [10] l.length l) = mend l := by
  rw [repL_fuel [13] [10] (by simp) _ l.length _ (Nat.le_refl _) (repL_le _ _ (by simp) _ _), rep_mend l.length l (Nat.le_refl _)]
theorem chunk_law {txt b : List Nat} {p k : Nat} (hk : 2 ≤ k) (hb : b = [] ∨ b = [13]) (hp : p ≤ txt.length) :
    let part := (txt.take (p + k)).drop p
    let d := b ++ part
    b ++ txt.drop p = d ++ txt.drop (p + part.length) ∧ p + part.length ≤ txt.length ∧ (d = [] → txt.drop p = []) ∧
    (1 < d.length → d.getLast? = some 13 → mend (b ++ txt.drop p) = mend d.dropLast ++ mend ([13] ++ txt.drop (p + part.length))) ∧
    (¬ (1 < d.length ∧ d.getLast? = some 13) → mend (b ++ txt.drop p) = mend d ++ mend ([] ++ txt.drop (p + part.length))) := by
  intro part d
  have hpart : part = (txt.drop p).take k := by
    show (txt.take (p + k)).drop p = _
    rw [List.drop_take]; congr 1; (lia)
  have hlen : part.length = min k (txt.length - p) := by rw [hpart]; simp
  have hsplit : txt.drop p = part ++ txt.drop (p + part.length) := by
    rw [hlen, hpart, ← List.drop_drop]
    conv => lhs; rw [← List.take_append_drop k (txt.drop p)]
    congr 1
    by_cases h : k ≤ txt.length - p
    · rw [Nat.min_eq_left h]
    · rw [Nat.min_eq_right (by (lia)), List.drop_eq_nil_of_le (by simp; (lia)), List.drop_eq_nil_of_le (by simp)]
  have hall : b ++ txt.drop p = d ++ txt.drop (p + part.length) := by
    show _ = (b ++ part) ++ _
    rw [List.append_assoc, ← hsplit]
  refine ⟨hall, by (clear hall hsplit hpart hb hk; lia), fun h => ?_, fun h1 h2 => ?_, fun h => ?_⟩
  · have h' := List.append_eq_nil_iff.mp h
    have : part.length = 0 := by rw [h'.2]; rfl
    exact List.drop_eq_nil_of_le (by (lia))
  · rw [hall]
    have hd : d = d.dropLast ++ [13] := by
      obtain ⟨ys, hy⟩ := List.getLast?_eq_some_iff.mp h2
      rw [hy]; simp
    conv => lhs; rw [hd]
    rw [List.append_assoc, mend_append _ _ (by simp)]
  · rw [hall, List.nil_append]
    refine mend_append _ _ fun h2 h3 => ?_
    have hd : ¬ 1 < d.length := fun h1 => h ⟨h1, h2⟩
    have hdl : d.length = b.length + part.length := List.length_append
    have hnil : txt.drop (p + part.length) = [] := by
      have : 0 < d.length := by
        rcases Nat.eq_zero_or_pos d.length with z | z
        · rw [List.length_eq_zero_iff.mp z] at h2; cases h2
        · exact z
      exact List.drop_eq_nil_of_le (by (lia))
    rw [hnil] at h3; cases h3

section
variable {Z : Cz} {P : Params}
theorem c_read {n : Nat} {M : Mem} {a : Addr} {txt part : List Nat} {p k : Nat} (hpt : (txt.take (p + k)).drop p = part) (hM : M a = some (.inst 73 2 (tblF [("text", .str (mkS txt) 0), ("place", .int p 0)]))) (hl : txt.length ≤ 16777216) :
    CL Z.cx (n + 1) (.ref 70) [.ref a, .int k 0] (fun v m => v = .str (mkS part) 0 ∧ m = setM M a (.inst 73 2 (tblF [("text", .str (mkS txt) 0), ("place", .int (p + part.length : Nat) 0)]))) M := by
  subst hpt
  refine CL_fn (binds := [("self", .ref a), ("size", .int k 0)]) (by rfl) (by kernel_rfl) ?_ (by kernel_rfl) ?_
  · intro vs e
    obtain ⟨v1, v2, rfl, e1, e2⟩ := vs2 e
    exact ⟨[("self", v1), ("size", v2)], fun s hx => kp_binds hx (fun S => rfl), by simp [e1, e2]⟩
  · intro fz L env hE he; subst he
    rw [bindL2]
    (refine EX_cons ?_; refine E1_AssignName ?_ rfl; refine EV_slice_str ?_; refine EVaf hE (by kernel_rfl) (sS sH) hM tH (fok (by kernel_rfl)) ?_; (with_reducible first | refine exr ?_ | refine ⟨_, rfl, ?_⟩))
    refine ⟨hl, ?_⟩
    (refine PT_some ?_; refine EVaf hE (by kernel_rfl) (sS sH) hM (tS tH) (fok (by kernel_rfl)) ?_; (with_reducible first | refine exr ?_ | refine ⟨_, rfl, ?_⟩); refine PT_some ?_; refine EV_binop ?_; refine EVaf hE (by kernel_rfl) (sS sH) hM (tS tH) (fok (by kernel_rfl)) ?_; refine EV_local hE (by kernel_rfl) sH ?_; (with_reducible refine O2_add_int ?_); (with_reducible first | refine exr ?_ | refine ⟨_, rfl, ?_⟩); refine STn hE (by kernel_rfl) ?_; refine EX_cons ?_; refine E1_AugAttr ?_; refine EV_local hE (by kernel_rfl) (sS (sS sH)) ?_; refine GA_field hM (tS tH) (fok (by kernel_rfl)) ?_; refine EV_ncall ?_; refine EV_builtinF (id := "len") hE (by kernel_rfl) (by kernel_rfl) (by kernel_rfl) ?_; refine CW_go0 (KeepOk.bf _) ?_; refine AR_cons ?_; refine EV_local hE (by kernel_rfl) sH ?_; refine AR_nil ?_; (with_reducible refine CA_len_str ?_ ?_); rotate_left; (with_reducible refine O2_iadd_int ?_); refine SA_tbl hM (sok (by kernel_rfl)) (.inl ⟨(by kernel_rfl), rfl⟩) (by decide) (pS pH) ?_; refine seq_next ?_; refine EX_cons ?_; refine E1_Return ?_; refine EV_local hE (by kernel_rfl) sH ?_; refine seq_ret ?_; rotate_left)
    · have e : ((p : Int) + k) = ((p + k : Nat) : Int) := by (lia)
      rw [e, pySl_nat]
      simp; (lia)
    · have e : ((p : Int) + k) = ((p + k : Nat) : Int) := by (lia)
      rw [e, pySl_nat]
      refine ⟨rfl, ?_⟩
      have e2 : ((p : Int) + ((List.drop p (List.take (p + k) txt)).length : Int)) = ((p + (List.drop p (List.take (p + k) txt)).length : Nat) : Int) := by (lia)
      rw [e2]

theorem c__position {n : Nat} {M : Mem} {g : G} {c : List Nat} {co pl pc : Nat} {b : List Nat} {off : Nat} (hS : M g.S = some (.inst 166 10 (tblF (stT g c co pl pc b)))) (hoff : off ≤ c.length) :
    CL Z.cx (n + 1) (.ref 119) [.ref g.S, .int off 0] (fun v m => ∃ D, M D = none ∧ v = .ref D ∧ m = setM M D (.tup [.int (pl + (c.take off).count 10 : Nat) 0, .int (if 10 ∈ c.take off then trail (c.take off) else pc + off : Nat) 0])) M := by
  refine CL_fn (binds := [("self", .ref g.S), ("offset", .int off 0)]) (by rfl) (by kernel_rfl) ?_ (by kernel_rfl) ?_
  · intro vs e
    obtain ⟨v1, v2, rfl, e1, e2⟩ := vs2 e
    exact ⟨[("self", v1), ("offset", v2)], fun s hx => kp_binds hx (fun S => rfl), by simp [e1, e2]⟩
  · intro fz L env hE he; subst he
    rw [bindL2]
    unfold stT at hS
    (refine EX_cons ?_; refine E1_AssignName ?_ rfl; refine EVaf hE (by kernel_rfl) (sS sH) hS sgf3 (fok (by kernel_rfl)) ?_; refine STn hE (by kernel_rfl) ?_; refine EX_cons ?_; refine E1_AssignName ?_ rfl; refine EV_mcall ?_; refine EV_local hE (by kernel_rfl) sH ?_; (with_reducible refine GM_count ?_); refine CW_go1 (KeepOk.bf _) ?_; refine AR_cons ?_; refine EV_str (l := [10]) (by kernel_rfl) ?_; refine AR_cons ?_; refine EV_int ?_; refine AR_cons ?_; refine EV_local hE (by kernel_rfl) (sS sH) ?_; refine AR_nil ?_; (with_reducible refine CA_count4 ?_); refine STn hE (by kernel_rfl) ?_; refine EX_cons ?_; refine E1_AssignName ?_ rfl; refine EV_binop ?_; refine EVaf hE (by kernel_rfl) (sS (sS (sS sH))) hS sgf7 (fok (by kernel_rfl)) ?_; refine EV_local hE (by kernel_rfl) sH ?_; (with_reducible refine O2_add_int ?_); refine STn hE (by kernel_rfl) ?_; refine EX_cons ?_; refine E1_AssignName ?_ rfl; refine EV_mcall ?_; refine EV_local hE (by kernel_rfl) (sS (sS sH)) ?_; (with_reducible refine GM_rfind ?_); refine CW_go1 (KeepOk.bf _) ?_; refine AR_cons ?_; refine EV_str (l := [10]) (by kernel_rfl) ?_; refine AR_cons ?_; refine EV_int ?_; refine AR_cons ?_; refine EV_local hE (by kernel_rfl) (sS (sS (sS sH))) ?_; refine AR_nil ?_; (with_reducible refine CA_rfind4 ?_); refine STn hE (by kernel_rfl) ?_; refine IFc hE (by kernel_rfl) sH ?_; refine EV_unop ?_; refine EV_int ?_; (with_reducible refine O1_neg_int ?_); (with_reducible refine O2_eq_int ?_); (with_reducible refine TR_bool ?_))
    rw [last_mkS c off hoff, count_mkS c 10 off hoff]
    refine ⟨fun h => ?_, fun h => ?_⟩
    · (refine EX_cons ?_; refine E1_AssignName ?_ rfl; refine EV_binop ?_; refine EVaf hE (by kernel_rfl) (sS (sS (sS (sS (sS sH))))) hS sgf8 (fok (by kernel_rfl)) ?_; refine EV_local hE (by kernel_rfl) (sS (sS (sS (sS sH)))) ?_; (with_reducible refine O2_add_int ?_); refine STn hE (by kernel_rfl) ?_; refine EXn ?_; refine EX_cons ?_; refine E1_Return ?_; refine EV_tuple ?_; refine AR_cons ?_; refine EV_local hE (by kernel_rfl) (sS (sS sH)) ?_; refine AR_cons ?_; refine EV_local hE (by kernel_rfl) sH ?_; refine AR_nil ?_)
      have hn : 10 ∉ c.take off := fun hm => by
        rw [if_pos hm] at h
        have := of_decide_eq_true h
        have h2 := trail_lt (c.take off) hm
        have h3 := List.length_take_le off c
        (clear hm h hE hoff hS; lia)
      refine ⟨by simp, fun D hD => ?_⟩
      refine seq_ret ?_
      refine ⟨D, hD, rfl, ?_⟩
      rw [if_neg hn]
      simp
    · (refine EX_cons ?_; refine E1_AssignName ?_ rfl; refine EV_binop ?_; refine EV_local hE (by kernel_rfl) (sS (sS (sS (sS sH)))) ?_; refine EV_binop ?_; refine EV_local hE (by kernel_rfl) sH ?_; refine EV_int ?_; (with_reducible refine O2_add_int ?_); (with_reducible refine O2_sub_int ?_); refine STn hE (by kernel_rfl) ?_; refine EXn ?_; refine EX_cons ?_; refine E1_Return ?_; refine EV_tuple ?_; refine AR_cons ?_; refine EV_local hE (by kernel_rfl) (sS (sS sH)) ?_; refine AR_cons ?_; refine EV_local hE (by kernel_rfl) sH ?_; refine AR_nil ?_)
      have hn : 10 ∈ c.take off := by
        refine Decidable.byContradiction fun hm => ?_
        rw [if_neg hm] at h
        simp at h
      refine ⟨by simp, fun D hD => ?_⟩
      refine seq_ret ?_
      refine ⟨D, hD, rfl, ?_⟩
      rw [if_pos hn, if_pos hn]
      have e : ((off : Int) - ((off : Int) - 1 - (trail (c.take off) : Int) + 1)) = (trail (c.take off) : Int) := by (lia)
      rw [e]
      simp

theorem c_invalid {n : Nat} {M : Mem} {c : Nat} : CL Z.cx (n + 1) (.ref 84) [.int c 0] (fun v m => (∃ b, v = .bool b) ∧ ∀ a o, M a = some o → m a = some o) M := by
  refine CL_fn (binds := [("codepoint", .int c 0)]) (by rfl) (by kernel_rfl) ?_ (by kernel_rfl) ?_
  · intro vs e
    obtain ⟨v1, rfl, e1⟩ := vs1 e
    exact ⟨[("codepoint", v1)], fun s hx => kp_binds hx (fun S => rfl), by simp [e1]⟩
  · intro fz L env hE he; subst he
    rw [bindL1]
    have fin : ∀ (b : Bool) (m : Mem), (∀ a o, M a = some o → m a = some o) → (∃ b', retOf (.ret (.bool b)) = .bool b') ∧ ∀ a o, M a = some o → m a = some o := fun b m h => ⟨⟨b, rfl⟩, h⟩
    (refine EX_cons ?_; refine E1_Return ?_; refine EV_orN ?_; refine EV_chain2 ?_; refine EV_int ?_; refine EV_local hE (by kernel_rfl) sH ?_; (with_reducible refine O2_le_int ?_); (with_reducible refine TR_bool ?_); (refine And.intro ?_ ?_ <;> intro hb <;> try (cases hb; done)); refine EV_int ?_; (with_reducible refine O2_le_int ?_); (with_reducible refine TR_bool ?_); (refine And.intro ?_ ?_ <;> intro hb <;> try (cases hb; done)); refine seq_ret ?_; rotate_left; refine EV_orN ?_; refine EV_compare ?_; refine EV_local hE (by kernel_rfl) sH ?_; refine EV_int ?_; (with_reducible refine O2_eq_int ?_); (with_reducible refine TR_bool ?_); (refine And.intro ?_ ?_ <;> intro hb <;> try (cases hb; done)); refine seq_ret ?_; rotate_left; refine EV_orN ?_; refine EV_chain2 ?_; refine EV_int ?_; refine EV_local hE (by kernel_rfl) sH ?_; (with_reducible refine O2_le_int ?_); (with_reducible refine TR_bool ?_); (refine And.intro ?_ ?_ <;> intro hb <;> try (cases hb; done)); refine EV_int ?_; (with_reducible refine O2_le_int ?_); (with_reducible refine TR_bool ?_); (refine And.intro ?_ ?_ <;> intro hb <;> try (cases hb; done)); refine seq_ret ?_; rotate_left; refine EV_orN ?_; refine EV_chain2 ?_; refine EV_int ?_; refine EV_local hE (by kernel_rfl) sH ?_; (with_reducible refine O2_le_int ?_); (with_reducible refine TR_bool ?_); (refine And.intro ?_ ?_ <;> intro hb <;> try (cases hb; done)); refine EV_int ?_; (with_reducible refine O2_le_int ?_); (with_reducible refine TR_bool ?_); (refine And.intro ?_ ?_ <;> intro hb <;> try (cases hb; done)); refine seq_ret ?_; rotate_left; refine EV_orN ?_; refine EV_chain2 ?_; refine EV_int ?_; refine EV_local hE (by kernel_rfl) sH ?_; (with_reducible refine O2_le_int ?_); (with_reducible refine TR_bool ?_); (refine And.intro ?_ ?_ <;> intro hb <;> try (cases hb; done)); refine EV_int ?_; (with_reducible refine O2_le_int ?_); (with_reducible refine TR_bool ?_); (refine And.intro ?_ ?_ <;> intro hb <;> try (cases hb; done)); refine seq_ret ?_; rotate_left; refine EV_orN ?_; refine EV_compare ?_; refine EV_binop ?_; refine EV_local hE (by kernel_rfl) sH ?_; refine EV_int ?_; refine O2_mod_int (by decide) ?_; refine EV_tuple ?_; refine AR_cons ?_; refine EV_int ?_; refine AR_cons ?_; refine EV_int ?_; refine AR_nil ?_; rotate_left; (with_reducible refine TR_bool ?_); (refine And.intro ?_ ?_ <;> intro hb <;> try (cases hb; done)); refine seq_ret ?_; rotate_left; refine EV_orN ?_; refine EV_compare ?_; refine EV_binop ?_; refine EV_local hE (by kernel_rfl) sH ?_; refine EV_int ?_; refine O2_mod_int (by decide) ?_; refine EV_tuple ?_; refine AR_cons ?_; refine EV_int ?_; refine AR_cons ?_; refine EV_int ?_; refine AR_nil ?_; rotate_left; (with_reducible refine TR_bool ?_); (refine And.intro ?_ ?_ <;> intro hb <;> try (cases hb; done)); refine seq_ret ?_; rotate_left; refine EV_orN ?_; refine EV_chain2 ?_; refine EV_int ?_; refine EV_local hE (by kernel_rfl) sH ?_; (with_reducible refine O2_le_int ?_); (with_reducible refine TR_bool ?_); (refine And.intro ?_ ?_ <;> intro hb <;> try (cases hb; done)); refine EV_int ?_; (with_reducible refine O2_le_int ?_); (with_reducible refine TR_bool ?_); (refine And.intro ?_ ?_ <;> intro hb <;> try (cases hb; done)); refine seq_ret ?_; rotate_left; refine EV_orN ?_; refine EV_compare ?_; refine EV_binop ?_; refine EV_local hE (by kernel_rfl) sH ?_; refine EV_int ?_; refine O2_mod_int (by decide) ?_; refine EV_tuple ?_; refine AR_cons ?_; refine EV_int ?_; refine AR_cons ?_; refine EV_int ?_; refine AR_nil ?_; rotate_left; (with_reducible refine TR_bool ?_); (refine And.intro ?_ ?_ <;> intro hb <;> try (cases hb; done)); refine seq_ret ?_; rotate_left; refine EV_orN ?_; refine EV_compare ?_; refine EV_binop ?_; refine EV_local hE (by kernel_rfl) sH ?_; refine EV_int ?_; refine O2_mod_int (by decide) ?_; refine EV_tuple ?_; refine AR_cons ?_; refine EV_int ?_; refine AR_cons ?_; refine EV_int ?_; refine AR_nil ?_; rotate_left; (with_reducible refine TR_bool ?_); (refine And.intro ?_ ?_ <;> intro hb <;> try (cases hb; done)); refine seq_ret ?_; rotate_left; refine EV_orN ?_; refine EV_chain2 ?_; refine EV_int ?_; refine EV_local hE (by kernel_rfl) sH ?_; (with_reducible refine O2_le_int ?_); (with_reducible refine TR_bool ?_); (refine And.intro ?_ ?_ <;> intro hb <;> try (cases hb; done)); refine EV_int ?_; (with_reducible refine O2_le_int ?_); (with_reducible refine TR_bool ?_); (refine And.intro ?_ ?_ <;> intro hb <;> try (cases hb; done)); refine seq_ret ?_; rotate_left; refine EV_orN ?_; refine EV_chain2 ?_; refine EV_int ?_; refine EV_local hE (by kernel_rfl) sH ?_; (with_reducible refine O2_le_int ?_); (with_reducible refine TR_bool ?_); (refine And.intro ?_ ?_ <;> intro hb <;> try (cases hb; done)); refine EV_int ?_; (with_reducible refine O2_le_int ?_); (with_reducible refine TR_bool ?_); (refine And.intro ?_ ?_ <;> intro hb <;> try (cases hb; done)); refine seq_ret ?_; rotate_left; refine EV_orN ?_; refine EV_compare ?_; refine EV_binop ?_; refine EV_local hE (by kernel_rfl) sH ?_; refine EV_int ?_; refine O2_mod_int (by decide) ?_; refine EV_tuple ?_; refine AR_cons ?_; refine EV_int ?_; refine AR_cons ?_; refine EV_int ?_; refine AR_nil ?_; rotate_left; (with_reducible refine TR_bool ?_); (refine And.intro ?_ ?_ <;> intro hb <;> try (cases hb; done)); refine seq_ret ?_; rotate_left; refine EV_orN ?_; refine EV_compare ?_; refine EV_binop ?_; refine EV_local hE (by kernel_rfl) sH ?_; refine EV_int ?_; refine O2_mod_int (by decide) ?_; refine EV_tuple ?_; refine AR_cons ?_; refine EV_int ?_; refine AR_cons ?_; refine EV_int ?_; refine AR_nil ?_; rotate_left; (with_reducible refine TR_bool ?_); (refine And.intro ?_ ?_ <;> intro hb <;> try (cases hb; done)); refine seq_ret ?_; rotate_left; refine EV_orN ?_; refine EV_chain2 ?_; refine EV_int ?_; refine EV_local hE (by kernel_rfl) sH ?_; (with_reducible refine O2_le_int ?_); (with_reducible refine TR_bool ?_); (refine And.intro ?_ ?_ <;> intro hb <;> try (cases hb; done)); refine EV_int ?_; (with_reducible refine O2_le_int ?_); (with_reducible refine TR_bool ?_); (refine And.intro ?_ ?_ <;> intro hb <;> try (cases hb; done)); refine seq_ret ?_; rotate_left; refine EV_orN ?_; refine EV_compare ?_; refine EV_binop ?_; refine EV_local hE (by kernel_rfl) sH ?_; refine EV_int ?_; refine O2_mod_int (by decide) ?_; refine EV_tuple ?_; refine AR_cons ?_; refine EV_int ?_; refine AR_cons ?_; refine EV_int ?_; refine AR_nil ?_; rotate_left; (with_reducible refine TR_bool ?_); (refine And.intro ?_ ?_ <;> intro hb <;> try (cases hb; done)); refine seq_ret ?_; rotate_left; refine EV_orN ?_; refine EV_compare ?_; refine EV_binop ?_; refine EV_local hE (by kernel_rfl) sH ?_; refine EV_int ?_; refine O2_mod_int (by decide) ?_; refine EV_tuple ?_; refine AR_cons ?_; refine EV_int ?_; refine AR_cons ?_; refine EV_int ?_; refine AR_nil ?_; rotate_left; (with_reducible refine TR_bool ?_); (refine And.intro ?_ ?_ <;> intro hb <;> try (cases hb; done)); refine seq_ret ?_; rotate_left; refine EV_orN ?_; refine EV_compare ?_; refine EV_local hE (by kernel_rfl) sH ?_; refine EV_int ?_; (with_reducible refine O2_eq_int ?_); (with_reducible refine TR_bool ?_); (refine And.intro ?_ ?_ <;> intro hb <;> try (cases hb; done)); refine seq_ret ?_; rotate_left; refine EV_orN ?_; refine EV_chain2 ?_; refine EV_int ?_; refine EV_local hE (by kernel_rfl) sH ?_; (with_reducible refine O2_le_int ?_); (with_reducible refine TR_bool ?_); (refine And.intro ?_ ?_ <;> intro hb <;> try (cases hb; done)); refine EV_int ?_; (with_reducible refine O2_le_int ?_); (with_reducible refine TR_bool ?_); (refine And.intro ?_ ?_ <;> intro hb <;> try (cases hb; done)); refine seq_ret ?_; rotate_left; refine EV_orN ?_; refine EV_chain2 ?_; refine EV_int ?_; refine EV_local hE (by kernel_rfl) sH ?_; (with_reducible refine O2_le_int ?_); (with_reducible refine TR_bool ?_); (refine And.intro ?_ ?_ <;> intro hb <;> try (cases hb; done)); refine EV_int ?_; (with_reducible refine O2_le_int ?_); (with_reducible refine TR_bool ?_); (refine And.intro ?_ ?_ <;> intro hb <;> try (cases hb; done)); refine seq_ret ?_; rotate_left; refine EV_orN ?_; refine EV_chain2 ?_; refine EV_int ?_; refine EV_local hE (by kernel_rfl) sH ?_; (with_reducible refine O2_le_int ?_); (with_reducible refine TR_bool ?_); (refine And.intro ?_ ?_ <;> intro hb <;> try (cases hb; done)); refine EV_int ?_; (with_reducible refine O2_le_int ?_); (with_reducible refine TR_bool ?_); (refine And.intro ?_ ?_ <;> intro hb <;> try (cases hb; done)); refine seq_ret ?_; rotate_left; refine EV_orN ?_; refine EV_compare ?_; refine EV_binop ?_; refine EV_local hE (by kernel_rfl) sH ?_; refine EV_int ?_; refine O2_mod_int (by decide) ?_; refine EV_tuple ?_; refine AR_cons ?_; refine EV_int ?_; refine AR_cons ?_; refine EV_int ?_; refine AR_nil ?_; rotate_left; (with_reducible refine TR_bool ?_); (refine And.intro ?_ ?_ <;> intro hb <;> try (cases hb; done)); refine seq_ret ?_; rotate_left; refine EV_orN ?_; refine EV_compare ?_; refine EV_binop ?_; refine EV_local hE (by kernel_rfl) sH ?_; refine EV_int ?_; refine O2_mod_int (by decide) ?_; refine EV_tuple ?_; refine AR_cons ?_; refine EV_int ?_; refine AR_cons ?_; refine EV_int ?_; refine AR_nil ?_; rotate_left; (with_reducible refine TR_bool ?_); (refine And.intro ?_ ?_ <;> intro hb <;> try (cases hb; done)); refine seq_ret ?_; rotate_left; refine EV_orN ?_; refine EV_chain2 ?_; refine EV_int ?_; refine EV_local hE (by kernel_rfl) sH ?_; (with_reducible refine O2_le_int ?_); (with_reducible refine TR_bool ?_); (refine And.intro ?_ ?_ <;> intro hb <;> try (cases hb; done)); refine EV_int ?_; (with_reducible refine O2_le_int ?_); (with_reducible refine TR_bool ?_); (refine And.intro ?_ ?_ <;> intro hb <;> try (cases hb; done)); refine seq_ret ?_; rotate_left; refine EV_orN ?_; refine EV_compare ?_; refine EV_binop ?_; refine EV_local hE (by kernel_rfl) sH ?_; refine EV_int ?_; refine O2_mod_int (by decide) ?_; refine EV_tuple ?_; refine AR_cons ?_; refine EV_int ?_; refine AR_cons ?_; refine EV_int ?_; refine AR_nil ?_; rotate_left; (with_reducible refine TR_bool ?_); (refine And.intro ?_ ?_ <;> intro hb <;> try (cases hb; done)); refine seq_ret ?_; rotate_left; refine EV_orN ?_; refine EV_compare ?_; refine EV_binop ?_; refine EV_local hE (by kernel_rfl) sH ?_; refine EV_int ?_; refine O2_mod_int (by decide) ?_; refine EV_tuple ?_; refine AR_cons ?_; refine EV_int ?_; refine AR_cons ?_; refine EV_int ?_; refine AR_nil ?_; rotate_left; (with_reducible refine TR_bool ?_); (refine And.intro ?_ ?_ <;> intro hb <;> try (cases hb; done)); refine seq_ret ?_; rotate_left; refine EV_orN ?_; refine EV_chain2 ?_; refine EV_int ?_; refine EV_local hE (by kernel_rfl) sH ?_; (with_reducible refine O2_le_int ?_); (with_reducible refine TR_bool ?_); (refine And.intro ?_ ?_ <;> intro hb <;> try (cases hb; done)); refine EV_int ?_; (with_reducible refine O2_le_int ?_); (with_reducible refine TR_bool ?_); (refine And.intro ?_ ?_ <;> intro hb <;> try (cases hb; done)); refine seq_ret ?_; rotate_left; refine EV_orN ?_; refine EV_chain2 ?_; refine EV_int ?_; refine EV_local hE (by kernel_rfl) sH ?_; (with_reducible refine O2_le_int ?_); (with_reducible refine TR_bool ?_); (refine And.intro ?_ ?_ <;> intro hb <;> try (cases hb; done)); refine EV_int ?_; (with_reducible refine O2_le_int ?_); (with_reducible refine TR_bool ?_); (refine And.intro ?_ ?_ <;> intro hb <;> try (cases hb; done)); refine seq_ret ?_; rotate_left; refine EV_orN ?_; refine EV_compare ?_; refine EV_binop ?_; refine EV_local hE (by kernel_rfl) sH ?_; refine EV_int ?_; refine O2_mod_int (by decide) ?_; refine EV_tuple ?_; refine AR_cons ?_; refine EV_int ?_; refine AR_cons ?_; refine EV_int ?_; refine AR_nil ?_; rotate_left; (with_reducible refine TR_bool ?_); (refine And.intro ?_ ?_ <;> intro hb <;> try (cases hb; done)); refine seq_ret ?_; rotate_left; refine EV_orN ?_; refine EV_compare ?_; refine EV_binop ?_; refine EV_local hE (by kernel_rfl) sH ?_; refine EV_int ?_; refine O2_mod_int (by decide) ?_; refine EV_tuple ?_; refine AR_cons ?_; refine EV_int ?_; refine AR_cons ?_; refine EV_int ?_; refine AR_nil ?_; rotate_left; (with_reducible refine TR_bool ?_); (refine And.intro ?_ ?_ <;> intro hb <;> try (cases hb; done)); refine seq_ret ?_; rotate_left; refine EV_orN ?_; refine EV_chain2 ?_; refine EV_int ?_; refine EV_local hE (by kernel_rfl) sH ?_; (with_reducible refine O2_le_int ?_); (with_reducible refine TR_bool ?_); (refine And.intro ?_ ?_ <;> intro hb <;> try (cases hb; done)); refine EV_int ?_; (with_reducible refine O2_le_int ?_); (with_reducible refine TR_bool ?_); (refine And.intro ?_ ?_ <;> intro hb <;> try (cases hb; done)); refine seq_ret ?_; rotate_left; refine EV_orN ?_; refine EV_compare ?_; refine EV_binop ?_; refine EV_local hE (by kernel_rfl) sH ?_; refine EV_int ?_; refine O2_mod_int (by decide) ?_; refine EV_tuple ?_; refine AR_cons ?_; refine EV_int ?_; refine AR_cons ?_; refine EV_int ?_; refine AR_nil ?_; rotate_left; (with_reducible refine TR_bool ?_); (refine And.intro ?_ ?_ <;> intro hb <;> try (cases hb; done)); refine seq_ret ?_; rotate_left; refine EV_orN ?_; refine EV_compare ?_; refine EV_binop ?_; refine EV_local hE (by kernel_rfl) sH ?_; refine EV_int ?_; refine O2_mod_int (by decide) ?_; refine EV_tuple ?_; refine AR_cons ?_; refine EV_int ?_; refine AR_cons ?_; refine EV_int ?_; refine AR_nil ?_; rotate_left)
    all_goals first | exact ⟨⟨_, rfl⟩, fun _ _ e => e⟩ | skip
    all_goals (refine ⟨by simp, fun D hD => ?_⟩; refine O2_in_tupI (ns := [65534, 65535]) (.tup (setM_same _ _ _)) ?_; ((with_reducible refine TR_bool ?_); (refine And.intro ?_ ?_ <;> intro hb <;> try (cases hb; done)); refine seq_ret ?_; rotate_left; refine EV_bool1 ?_; refine EV_chain2 ?_; refine EV_int ?_; refine EV_local hE (by kernel_rfl) sH ?_; (with_reducible refine O2_le_int ?_); (with_reducible refine TR_bool ?_); (refine And.intro ?_ ?_ <;> intro hb <;> try (cases hb; done)); refine EV_int ?_; (with_reducible refine O2_le_int ?_); refine seq_ret ?_; rotate_left; refine seq_ret ?_; rotate_left))
    all_goals exact ⟨⟨_, rfl⟩, fun a o e => setM_old hD e⟩

theorem c_errors {n : Nat} {M : Mem} {g : G} {c d : List Nat} {co pl pc : Nat} {b : List Nat} {es : List Value} (hS : M g.S = some (.inst 166 10 (tblF (stT g c co pl pc b)))) (hEr : M g.E = some (.lst es)) (hl : es.length + d.length ≤ 16777216) :
    CL Z.cx (n + 2) (.ref 148) [.ref g.S, .str (mkS d) 0] (fun v m => v = .none ∧ (∃ es', m g.E = some (.lst es') ∧ es'.length ≤ es.length + d.length) ∧ ∀ a o, a ≠ g.E → M a = some o → m a = some o) M := by
  have hne : g.S ≠ g.E := fun e => by rw [e, hEr] at hS; cases hS
  refine CL_fn (binds := [("self", .ref g.S), ("data", .str (mkS d) 0)]) (by rfl) (by kernel_rfl) ?_ (by kernel_rfl) ?_
  · intro vs e
    obtain ⟨v1, v2, rfl, e1, e2⟩ := vs2 e
    exact ⟨[("self", v1), ("data", v2)], fun s hx => kp_binds hx (fun S => rfl), by simp [e1, e2]⟩
  · intro fz L env hE he; subst he
    rw [bindL2]
    refine EX_cons ?_
    refine E1_For hE (IE_str ?_)
    (refine EV_local hE (by kernel_rfl) sH ?_; (with_reducible first | refine exr ?_ | refine ⟨_, rfl, ?_⟩))
    refine ⟨(by kernel_rfl), fun i l m => (∀ v, setL l "c" v = setL (setL (setL (fun x => none) "self" (.ref g.S)) "data" (.str (mkS d) 0)) "c" v) ∧ (∃ es', m g.E = some (.lst es') ∧ es'.length ≤ es.length + i) ∧ ∀ a o, a ≠ g.E → M a = some o → m a = some o,
      ⟨fun _ => rfl, ⟨es, hEr, by (exact Nat.le_refl _)⟩, fun _ _ _ e => e⟩, ?_, ?_⟩
    · rintro i l m hi ⟨hl0, ⟨es', he1, he2⟩, kp⟩
      refine ⟨trivial, fun fz => ?_⟩
      have hS' := kp _ _ hne hS
      unfold stT at hS'
      dsimp only
      rw [hl0]
      (refine EX_cons ?_; refine E1_If ?_; refine TV_value ?_; refine EV_ncall ?_; refine EV_gref (a := 84) hE (by kernel_rfl) (by kernel_rfl) ?_; refine CW_go0 (KeepOk.rf (by kernel_rfl)) ?_; refine AR_cons ?_; refine EV_ncall ?_; refine EV_builtinF (id := "ord") hE (by kernel_rfl) (by kernel_rfl) (by kernel_rfl) ?_; refine CW_go0 (KeepOk.bf _) ?_; refine AR_cons ?_; refine EV_local hE (by kernel_rfl) sH ?_; refine AR_nil ?_; (with_reducible refine CA_ord ?_); refine AR_nil ?_)
      refine CA_CL ((c_invalid (n := n)).mono ?_) (Nat.le_refl _)
      rintro v m' ⟨⟨bb, rfl⟩, kp'⟩
      have he1' := kp' _ _ he1
      have hS'' := kp' _ _ hS'
      ((with_reducible refine TR_bool ?_); (refine And.intro ?_ ?_ <;> intro hb <;> try (cases hb; done)); refine EX_cons ?_; refine E1_Expr ?_ (by rfl) (by rfl); refine EV_mcall ?_; refine EVaf hE (by kernel_rfl) (sS (sS sH)) hS'' (tS (tS (tS (tS (tS (tS tH)))))) (fok (by kernel_rfl)) ?_; (with_reducible refine GM_append he1' ?_); refine CW_go1 (KeepOk.bf _) ?_; refine AR_cons ?_; refine EV_str (l := [105, 110, 118, 97, 108, 105, 100, 45, 99, 111, 100, 101, 112, 111, 105, 110, 116]) (by kernel_rfl) ?_; refine AR_nil ?_; refine CA_append he1' ?_ ?_; rotate_left; refine seq_next ?_; refine EXn ?_; refine EX_nil ?_; rotate_left; refine EXn ?_; refine EX_nil ?_; rotate_left)
      · (lia)
      · refine ⟨fun v => by rw [setL_setL], ⟨_, setM_same _ _ _, by simp; (lia)⟩, fun a o ha e => (setM_ne _ _ ha).trans (kp' _ _ (kp a o ha e))⟩
      · exact ⟨fun v => by rw [setL_setL], ⟨es', he1', by (exact Nat.le_succ_of_le (by assumption))⟩, fun a o ha e => kp' _ _ (kp a o ha e)⟩
    · (intro l m hq0; refine obAA hq0 ?_; clear hq0; intro hl0 he1 kp)
      refine ⟨trivial, ?_⟩
      (refine seq_next ?_; refine EX_nil ?_)
      exact ⟨rfl, he1, kp⟩

theorem c_readChunk {n : Nat} {M : Mem} {g : G} {pre c : List Nat} {co : Nat} {b : List Nat} {p k : Nat} {args : List Value} {cv : Value} (S : St M g pre c co b p) (hk : 2 ≤ k)
    (ha : (args = [.ref g.S] ∧ cv = .none ∧ k = 10240) ∨ (args = [.ref g.S, .int k 0] ∧ cv = .int k 0)) :
    CL Z.cx (n + 4) (.ref 141) args (fun v m => ∃ ok c' b' p', v = .bool ok ∧ St m g (pre ++ c) c' 0 b' p' ∧ Kp g M m ∧ (ok = true → c' ≠ []) ∧ (ok = false → c' = [] ∧ mend (b' ++ g.txt.drop p') = [])) M := by
  have hSX : g.S ≠ g.X := fun e => by have := S.hS; rw [e, S.hX] at this; cases this
  (refine obEA (S.hE) ?_; intro es hEr hes)
  have hSE : g.S ≠ g.E := fun e => by have := S.hS; rw [e, hEr] at this; cases this
  have hXE : g.X ≠ g.E := fun e => by have := S.hX; rw [e, hEr] at this; cases this
  refine CL_fn (binds := [("self", .ref g.S), ("chunkSize", cv)]) (by rfl) (by kernel_rfl) ?_ (by kernel_rfl) ?_
  · intro vs e
    rcases ha with ⟨rfl, rfl, _⟩ | ⟨rfl, rfl⟩
    · obtain ⟨v1, rfl, e1⟩ := vs1 e
      exact ⟨[("self", v1), ("chunkSize", .none)], fun s hx => kp_binds hx (fun S => rfl), by simp [e1]⟩
    · obtain ⟨v1, v2, rfl, e1, e2⟩ := vs2 e
      exact ⟨[("self", v1), ("chunkSize", v2)], fun s hx => kp_binds hx (fun S => rfl), by simp [e1, e2]⟩
  · intro fz L env hE he; subst he; refine EX_gen fun Qg hQg => ?_
    rw [bindL2]
    have hS := S.hS
    unfold stT at hS
    refine EX_cutG (R := fun l m => l = setL (setL (fun x => none) "self" (.ref g.S)) "chunkSize" (.int k 0) ∧ m = M) ?_ ?_
    · intro Rg1 hR1; (refine E1_If ?_; refine TV_compare ?_; refine EV_local hE (by kernel_rfl) sH ?_; refine EV_none ?_; (with_reducible refine O2_is_none ?_); (with_reducible refine TR_bool ?_))
      refine And.intro ?_ ?_ <;> intro hb
      · rcases ha with ⟨rfl, rfl, rfl⟩ | ⟨rfl, rfl⟩
        · (refine EX_cons ?_; refine E1_AssignName ?_ rfl; refine EV_attr ?_; refine EV_local hE (by kernel_rfl) (sS sH) ?_; refine GA_clsI (i := 10240) (t := 624) hS (tS (tS (tS (tS (tS (tS (tS (tS (tS (tS tN)))))))))) ⟨(by kernel_rfl), (by kernel_rfl), (by kernel_rfl), (by kernel_rfl), (by kernel_rfl), (by kernel_rfl)⟩ ?_; refine STn hE (by kernel_rfl) ?_; refine EX_nil ?_)
          exact ⟨rfl, hR1 _ _ ⟨by rw [setL_setL]; rfl, rfl⟩⟩
        · cases hb
      · rcases ha with ⟨rfl, rfl, rfl⟩ | ⟨rfl, rfl⟩
        · cases hb
        · refine EX_nil ?_
          exact ⟨rfl, hR1 _ _ ⟨rfl, rfl⟩⟩
    · (intro l m hq0; refine obA hq0 ?_; clear hq0; intro hz0 hz1; subst hz0; subst hz1)
      have hX := S.hX
      have hQ := S.hQ
      have hQS : g.Q ≠ g.S := fun e => by rw [e, hS] at hQ; cases hQ
      have hQX : g.Q ≠ g.X := fun e => by rw [e, hX] at hQ; cases hQ
      have hpos := c__position (Z := Z) (n := n) hS (Nat.le_refl c.length)
      rw [List.take_length, ← List.count_append, ← trail_append] at hpos
      (refine obAAAA (chunk_law (txt := g.txt) (b := b) (p := p) (k := k) hk S.hb S.hp) ?_; intro ch1 ch2 ch3 ch4 ch5)
      generalize hpart : (g.txt.take (p + k)).drop p = part at *
      have hpl : part.length ≤ 100000 := by rw [← hpart]; have := S.len; simp; (clear ch5 ch4 ch3 ch2 ch1 hpart hpos hQX hQS hQ hX hS hQg hEr S hE hXE hSE hSX ha hk; lia)
      have hbl : b.length ≤ 1 := by rcases S.hb with rfl | rfl <;> simp
      generalize hpl' : (pre ++ c).count 10 = pl' at *
      generalize hpc' : trail (pre ++ c) = pc' at *
      (refine EX_cons ?_; refine E1_AssignTuple ?_ rfl rfl rfl; refine EV_mcall ?_; refine EV_local hE (by kernel_rfl) (sS sH) ?_; refine GM_meth (g := 119) hS (stNo (by kernel_rfl)) (mok (by kernel_rfl)) ?_; refine CW_go1 (KeepOk.rf (by kernel_rfl)) ?_; refine AR_cons ?_; refine EVaf hE (by kernel_rfl) (sS sH) hS sgf4 (fok (by kernel_rfl)) ?_; refine AR_nil ?_)
      refine CA_CL (hpos.mono ?_) (by (lia))
      rintro v m' ⟨D, hD, rfl, rfl⟩
      refine ⟨D, _, rfl, .tup (setM_same _ _ _), rfl, ?_⟩
      (refine ATs_cons ?_; refine AT_attr ?_; refine EV_local hE (by kernel_rfl) (sS sH) ?_; refine SA_tbl (setM_old hD hS) (sok (by kernel_rfl)) (.inl ⟨(by kernel_rfl), rfl⟩) (by decide) (pS (pS (pS (pS (pS (pS (pS pH))))))) ?_; refine ATs_cons ?_; refine AT_attr ?_; refine EV_local hE (by kernel_rfl) (sS sH) ?_; refine SA_tbl2 (sok (by kernel_rfl)) (.inl ⟨(by kernel_rfl), rfl⟩) (by decide) (pS (pS (pS (pS (pS (pS (pS (pS pH)))))))) ?_; refine ATs_nil ?_; refine seq_next ?_; refine EX_cons ?_; refine E1_AssignAttr ?_ rfl; refine EV_str (l := []) (by kernel_rfl) ?_; refine EV_local hE (by kernel_rfl) (sS sH) ?_; refine SA_tbl2 (sok (by kernel_rfl)) (.inl ⟨(by kernel_rfl), rfl⟩) (by decide) (pS (pS (pS pH))) ?_; refine seq_next ?_; refine EX_cons ?_; refine E1_AssignAttr ?_ rfl; refine EV_int ?_; refine EV_local hE (by kernel_rfl) (sS sH) ?_; refine SA_tbl2 (sok (by kernel_rfl)) (.inl ⟨(by kernel_rfl), rfl⟩) (by decide) (pS (pS (pS (pS pH)))) ?_; refine seq_next ?_; refine EX_cons ?_; refine E1_AssignAttr ?_ rfl; refine EV_int ?_; refine EV_local hE (by kernel_rfl) (sS sH) ?_; refine SA_tbl2 (sok (by kernel_rfl)) (.inl ⟨(by kernel_rfl), rfl⟩) (by decide) (pS (pS (pS (pS (pS pH))))) ?_; refine seq_next ?_; refine EX_cons ?_; refine E1_AssignName ?_ rfl; refine EV_mcall ?_; refine EVaf hE (by kernel_rfl) (sS sH) (setM_same _ _ _) (tS (tS tH)) (fok (by kernel_rfl)) ?_; refine GM_meth (g := 70) ((setM_ne _ _ (Ne.symm hSX)).trans (setM_old hD hX)) (tS (tS tN)) (mok (by kernel_rfl)) ?_; refine CW_go1 (KeepOk.rf (by kernel_rfl)) ?_; refine AR_cons ?_; refine EV_local hE (by kernel_rfl) sH ?_; refine AR_nil ?_)
      refine CA_CL (CL.mono (c_read (n := n) hpart (by exact ((setM_ne _ _ (Ne.symm hSX)).trans (setM_old hD hX))) (by have := S.len; (exact Nat.le_trans (by assumption) (by decide)))) ?_) (by (lia))
      rintro v m' ⟨rfl, rfl⟩
      refine ST_local hE (by kernel_rfl) ?_
      refine seq_next ?_
      refine EX_abs (R := fun m' => Mid m m' g pl' pc' b (p + part.length) es) ⟨(setM_ne _ _ hSX).trans (setM_same _ _ _), setM_same _ _ _, ?_, ?_, ?_⟩ ?_
      · exact (setM_ne _ _ (Ne.symm hXE)).trans ((setM_ne _ _ (Ne.symm hSE)).trans (setM_old hD hEr))
      · exact (setM_ne _ _ hQX).trans ((setM_ne _ _ hQS).trans (setM_old hD hQ))
      · exact fun a o h1 h2 h3 e => (setM_ne _ _ h2).trans ((setM_ne _ _ h1).trans (setM_old hD e))
      rintro m' ⟨mS, mX, mE, mQ, mK⟩
      unfold stT at mS
      have hfin : ∀ (b' : List Nat) (c' : List Nat) (m₂ : Mem) (es' : List Value), m₂ g.S = some (.inst 166 10 (tblF (stT g c' 0 pl' pc' b'))) → m₂ g.X = some (.inst 73 2 (tblF [("text", .str (mkS g.txt) 0), ("place", .int (p + part.length : Nat) 0)])) →
          m₂ g.E = some (.lst es') → es'.length + b'.length ≤ p + part.length → m₂ g.Q = some (.obj (methodObj (.ref 148) (.ref g.S))) → (b' = [] ∨ b' = [13]) → mend (b ++ g.txt.drop p) = c' ++ mend (b' ++ g.txt.drop (p + part.length)) →
          St m₂ g (pre ++ c) c' 0 b' (p + part.length) := fun b' c' m₂ es' q1 q2 q3 q4 q5 q6 q7 =>
        ⟨by rw [hpl', hpc']; exact q1, q2, ⟨es', q3, q4⟩, q5, by rw [S.hW, q7]; simp only [List.append_assoc], Nat.zero_le _, q6, ch2, S.len, S.small⟩
      refine EX_cutR (R := fun l m₂ => l = setL (setL (setL (fun x => none) "self" (.ref g.S)) "chunkSize" (.int k 0)) "data" (.str (mkS (b ++ part)) 0) ∧ Mid m m₂ g pl' pc' [] (p + part.length) es ∧ b ++ part ≠ []) ?_ ?_
      · refine E1_If ?_
        (refine TV_value ?_; refine EV_attr ?_; refine EV_local hE (by kernel_rfl) (sS (sS sH)) ?_)
        rcases S.hb with rfl | rfl
        · refine GA_field mS (tS (tS (tS (tS (tS (tS (tS (tS (tS tH))))))))) (fok (by kernel_rfl)) ?_
          refine TR_none ?_
          (refine And.intro ?_ ?_ <;> intro hb <;> try (cases hb; done))
          · (refine EX_cons ?_; refine E1_If ?_; refine TV_not ?_; refine TV_value ?_; refine EV_local hE (by kernel_rfl) sH ?_; (with_reducible refine TR_str ?_ ?_); rotate_left; rotate_left)
            · (exact Nat.le_trans (by assumption) (by decide))
            · (refine And.intro ?_ ?_ <;> intro hb <;> try (cases hb; done))
              · have hp0 : part = [] := by cases part <;> simp_all
                subst hp0
                (refine RETb ?_; refine seq_ret ?_)
                refine .inr ⟨_, rfl, hQg _ _ _ ⟨false, [], [], _, rfl, hfin [] [] m' es mS mX mE (by simpa using hes) mQ (.inl rfl) ?_, mK, (fun h => by cases h), fun _ => ⟨rfl, ?_⟩⟩⟩
                · exact ch5 (by simp)
                · have := ch3 rfl
                  simp only [List.nil_append, List.length_nil, Nat.add_zero] at this ⊢
                  rw [this]; rfl
              · have hp0 : part ≠ [] := by cases part <;> simp_all
                (refine EXn ?_; refine EX_nil ?_)
                exact .inl ⟨rfl, rfl, ⟨mS, mX, mE, mQ, mK⟩, by simpa using hp0⟩
        · refine GA_field mS (tS (tS (tS (tS (tS (tS (tS (tS (tS tH))))))))) (fok (by kernel_rfl)) ?_
          refine TR_str (l := [13]) (by simp) ?_
          (refine And.intro ?_ ?_ <;> intro hb <;> try (cases hb; done))
          · (refine EX_cons ?_; refine E1_AssignName ?_ rfl; refine EV_binop ?_; refine EVaf hE (by kernel_rfl) (sS (sS sH)) mS (tS (tS (tS (tS (tS (tS (tS (tS (tS tH))))))))) (fok (by kernel_rfl)) ?_; refine EV_local hE (by kernel_rfl) sH ?_)
            refine O2_add_str (a := [13]) (by simp; (lia)) ?_
            (refine STn hE (by kernel_rfl) ?_; refine EX_cons ?_; refine E1_AssignAttr ?_ rfl; refine EV_none ?_; refine EV_local hE (by kernel_rfl) (sS (sS (sS sH))) ?_; refine SA_tbl mS (sok (by kernel_rfl)) (.inl ⟨(by kernel_rfl), rfl⟩) (by decide) (pS (pS (pS (pS (pS (pS (pS (pS (pS pH))))))))) ?_; refine seq_next ?_; refine EX_nil ?_)
            exact .inl ⟨rfl, by rw [setL_setL], ⟨setM_same _ _ _, (setM_ne _ _ (Ne.symm hSX)).trans mX, (setM_ne _ _ (Ne.symm hSE)).trans mE, (setM_ne _ _ hQS).trans mQ, fun a o h1 h2 h3 e => (setM_ne _ _ h1).trans (mK a o h1 h2 h3 e)⟩, by simp⟩
      · (intro l m₂ hq0; refine obAA hq0 ?_; clear hq0; intro hz0 hz1 hne; subst hz0; refine dn fun hG0 => ?_; obtain ⟨mS, mX, mE, mQ, mK⟩ := hz1; refine hG0 ?_; clear hG0)
        unfold stT at mS
        have hbp : (b ++ part).length ≤ 100001 := by simp; (clear mK mQ mE mX mS hne hfin hD hpos hpc' hpl' ch5 ch4 ch3 ch2 ch1 hpart hQX hQS hQ hX hS hQg hEr S hE hXE hSE hes hSX ha hk; lia)
        have hch : ∀ x ∈ b ++ part, x < 55296 := by
          intro x hx
          rcases List.mem_append.mp hx with hx | hx
          · rcases S.hb with rfl | rfl
            · cases hx
            · simp at hx; (lia)
          · exact S.small x (by rw [← hpart] at hx; exact List.mem_of_mem_take (List.mem_of_mem_drop hx))
        generalize hd : b ++ part = d at *
        refine EX_cutG (R := fun l m₃ => ∃ d' b', l "self" = some (.ref g.S) ∧ l "data" = some (.str (mkS d') 0) ∧ Mid m m₃ g pl' pc' b' (p + part.length) es ∧ d' ≠ [] ∧ d'.length + b'.length = d.length ∧ (b' = [] ∨ b' = [13]) ∧ mend (b ++ g.txt.drop p) = mend d' ++ mend (b' ++ g.txt.drop (p + part.length))) ?_ ?_
        · intro Rg3 hR3; (refine E1_If ?_; refine TV_compare ?_; refine EV_ncall ?_; refine EV_builtinF (id := "len") hE (by kernel_rfl) (by kernel_rfl) (by kernel_rfl) ?_; refine CW_go0 (KeepOk.bf _) ?_; refine AR_cons ?_; refine EV_local hE (by kernel_rfl) sH ?_; refine AR_nil ?_; (with_reducible refine CA_len_str ?_ ?_); rotate_left; refine EV_int ?_; (with_reducible refine O2_gt_int ?_); (with_reducible refine TR_bool ?_); rotate_left)
          · (exact Nat.le_trans (by assumption) (by decide))
          · (refine And.intro ?_ ?_ <;> intro hb <;> try (cases hb; done))
            · have hlen : 1 < d.length := by have := of_decide_eq_true hb; (clear hb hR3 hch hne ch5 ch4 ch3 ch1 hd mK mQ mE mX mS hfin hD hpos hpc' hpl' hbl hpl ch2 hpart hQX hQS hQ hX hS hQg hEr S hE hXE hSE hes hSX ha hk; lia)
              obtain ⟨lastc, hlast⟩ : ∃ x, d.getLast? = some x := by
                cases q : d.getLast? with
                | none => rw [List.getLast?_eq_none_iff] at q; exact absurd q hne
                | some x => exact ⟨x, rfl⟩
              have hidx : d[d.length - 1]? = some lastc := by rw [← List.getLast?_eq_getElem?]; exact hlast
              have hlc : lastc < 55296 := hch _ (List.mem_of_getElem? hidx)
              (refine EX_cons ?_; refine E1_AssignName ?_ rfl; refine EV_ncall ?_; refine EV_builtinF (id := "ord") hE (by kernel_rfl) (by kernel_rfl) (by kernel_rfl) ?_; refine CW_go0 (KeepOk.bf _) ?_; refine AR_cons ?_; refine EV_sub ?_; refine EV_local hE (by kernel_rfl) sH ?_; refine EV_unop ?_; refine EV_int ?_; (with_reducible refine O1_neg_int ?_))
              refine SUB_str (j := d.length - 1) (c := lastc) (by decide) (by simp; (clear hlc hidx hlast hb hR3 hch hne ch5 ch4 ch3 ch1 hd mK mQ mE mX mS hfin hD hpos hpc' hpl' hbl hpl ch2 hpart hQX hQS hQ hX hS hQg hEr S hE hXE hSE hes hSX ha hk; lia)) hidx ?_
              (refine AR_nil ?_; (with_reducible refine CA_ord ?_); refine STn hE (by kernel_rfl) ?_; refine EX_cons ?_; refine E1_If ?_; refine TV_boolop ?_; refine TAll_or ?_; refine TV_compare ?_; refine EV_local hE (by kernel_rfl) sH ?_; refine EV_int ?_; (with_reducible refine O2_eq_int ?_); (with_reducible refine TR_bool ?_))
              (refine And.intro ?_ ?_ <;> intro hb <;> try (cases hb; done))
              · have h13 : lastc = 13 := by have := of_decide_eq_true hb; (clear hb hlc hidx hlast hlen hR3 hch hbp hne ch5 ch4 ch3 ch1 hd mK mQ mE mX mS hfin hD hpos hpc' hpl' hbl hpl ch2 hpart hQX hQS hQ hX hS hQg hEr S hE hXE hSE hes hSX ha hk; lia)
                subst h13
                (refine And.intro ?_ ?_ <;> intro hb <;> try (cases hb; done))
                (refine EX_cons ?_; refine E1_AssignAttr ?_ rfl; refine EV_sub ?_; refine EV_local hE (by kernel_rfl) (sS sH) ?_; refine EV_unop ?_; refine EV_int ?_; (with_reducible refine O1_neg_int ?_))
                refine SUB_str (j := d.length - 1) (c := 13) (by decide) (by simp; (lia)) hidx ?_
                (refine EV_local hE (by kernel_rfl) (sS (sS (sS sH))) ?_; refine SA_tbl mS (sok (by kernel_rfl)) (.inl ⟨(by kernel_rfl), rfl⟩) (by decide) (pS (pS (pS (pS (pS (pS (pS (pS (pS pH))))))))) ?_; refine seq_next ?_; refine EX_cons ?_; refine E1_AssignName ?_ rfl; refine EV_slice_str ?_; refine EV_local hE (by kernel_rfl) (sS sH) ?_; (with_reducible first | refine exr ?_ | refine ⟨_, rfl, ?_⟩))
                refine ⟨by (exact Nat.le_trans (by assumption) (by decide)), ?_⟩
                (refine PT_none ?_; refine PT_some ?_; refine EV_unop ?_; refine EV_int ?_; (with_reducible refine O1_neg_int ?_); (with_reducible first | refine exr ?_ | refine ⟨_, rfl, ?_⟩); refine STn hE (by kernel_rfl) ?_; refine EXn ?_; refine EX_nil ?_)
                rw [pySl_m1]
                have hdd : d.dropLast.length + 1 = d.length := by simp; (lia)
                exact ⟨rfl, hR3 _ _ ⟨d.dropLast, [13], rfl, rfl, ⟨setM_same _ _ _, (setM_ne _ _ (Ne.symm hSX)).trans mX, (setM_ne _ _ (Ne.symm hSE)).trans mE, (setM_ne _ _ hQS).trans mQ, fun a o h1 h2 h3 e => (setM_ne _ _ h1).trans (mK a o h1 h2 h3 e)⟩,
                  (fun z => by rw [z] at hdd; simp at hdd; (lia)), by simpa using hdd, .inr rfl, ch4 hlen hlast⟩⟩
              · have h13 : ¬ lastc = 13 := by have := of_decide_eq_false hb; (clear hb hlc hidx hlast hlen hR3 hch hbp hne ch5 ch4 ch3 ch1 hd mK mQ mE mX mS hfin hD hpos hpc' hpl' hbl hpl ch2 hpart hQX hQS hQ hX hS hQg hEr S hE hXE hSE hes hSX ha hk; lia)
                (refine TAll_or ?_; refine TV_chain2 ?_; refine EV_int ?_; refine EV_local hE (by kernel_rfl) sH ?_; (with_reducible refine O2_le_int ?_); (with_reducible refine TR_bool ?_))
                (refine And.intro ?_ ?_ <;> intro hb <;> try (cases hb; done))
                · exfalso
                  have := of_decide_eq_true hb; (clear hb h13 hidx hlast hlen hR3 hch hbp hne ch5 ch4 ch3 ch1 hd mK mQ mE mX mS hfin hD hpos hpc' hpl' hbl hpl ch2 hpart hQX hQS hQ hX hS hQg hEr S hE hXE hSE hes hSX ha hk; lia)
                · ((refine And.intro ?_ ?_ <;> intro hb <;> try (cases hb; done)); refine TAll_or_nil ?_; (refine And.intro ?_ ?_ <;> intro hb <;> try (cases hb; done)); refine EXn ?_; refine EX_nil ?_)
                  exact ⟨rfl, hR3 _ _ ⟨d, [], rfl, rfl, ⟨mS, mX, mE, mQ, mK⟩, hne, by simp, .inl rfl, ch5 (fun h => h13 (by have := h.2; rw [hlast] at this; exact Option.some.inj this))⟩⟩
            · have hlen : ¬ 1 < d.length := by have := of_decide_eq_false hb; (clear hb hR3 hch hne ch5 ch4 ch3 ch1 hd mK mQ mE mX mS hfin hD hpos hpc' hpl' hbl hpl ch2 hpart hQX hQS hQ hX hS hQg hEr S hE hXE hSE hes hSX ha hk; lia)
              refine EX_nil ?_
              exact ⟨rfl, hR3 _ _ ⟨d, [], rfl, rfl, ⟨mS, mX, mE, mQ, mK⟩, hne, by simp, .inl rfl, ch5 (fun h => hlen h.1)⟩⟩
        · (intro l m₃ hq0; refine obEEAAAAAA hq0 ?_; clear hq0; intro d' b' hls hld hz4 hne' hlen' hb' hW'; refine dn fun hG0 => ?_; obtain ⟨mS, mX, mE, mQ, mK⟩ := hz4; refine hG0 ?_; clear hG0)
          unfold stT at mS
          (refine EX_cons ?_; refine E1_If ?_; refine TV_value ?_; refine EVaf hE (by kernel_rfl) hls mS tH (fok (by kernel_rfl)) ?_; refine TR_meth mQ ?_)
          (refine And.intro ?_ ?_ <;> intro hb <;> try (cases hb; done))
          (refine EX_cons ?_; refine E1_Expr ?_ (by rfl) (by rfl); refine EV_mcall ?_; refine EV_local hE (by kernel_rfl) hls ?_; refine GM_usual mS tH (fok (by kernel_rfl)) (by kernel_rfl) ?_)
          refine CW_bound (g := 148) (self := .ref g.S) (by kernel_rfl) ?_
          (refine AR_cons ?_; refine EV_local hE (by kernel_rfl) hld ?_; refine AR_nil ?_)
          have hdl' : d'.length ≤ 100001 := by (lia)
          refine ⟨mQ, CA_CL (CL_bound mQ rfl ((c_errors (n := n) (g := g) mS mE (by have := S.len; (clear hb mK mQ mE mX mS hW' hb' hlen' hne' hld hls hch hbp hne ch5 ch4 ch3 ch1 hd hfin hD hpos hpc' hpl' hpart hQX hQS hQ hX hS hQg hEr S hE hXE hSE hSX ha hk; lia))).mono ?_)) (by (exact Nat.le_succ _))⟩
          (intro v m₄ hq0; refine obAA hq0 ?_; clear hq0; intro hz0 hz1 hk4; subst hz0; refine dn fun hG0 => ?_; obtain ⟨es', hE', hes'⟩ := hz1; refine hG0 ?_; clear hG0)
          have nS := hk4 _ _ hSE mS
          have nX := hk4 _ _ hXE mX
          have hQE : g.Q ≠ g.E := fun e => by rw [e, mE] at mQ; cases mQ
          have nQ := hk4 _ _ hQE mQ
          have nK : ∀ a o, a ≠ g.S → a ≠ g.X → a ≠ g.E → m a = some o → m₄ a = some o := fun a o h1 h2 h3 e => hk4 a o h3 (mK a o h1 h2 h3 e)
          (refine seq_next ?_; refine EXn ?_; refine EX_cons ?_; refine E1_AssignName ?_ rfl)
          refine EV_rep [13, 10] [10] (by kernel_rfl) (by kernel_rfl) (by simp) (by simp) (by simp) ?_
          (refine EV_local hE (by kernel_rfl) hld ?_; (with_reducible first | refine exr ?_ | refine ⟨_, rfl, ?_⟩))
          refine ⟨by (exact Nat.le_trans (by assumption) (by decide)), ?_⟩
          (refine STn hE (by kernel_rfl) ?_; refine EX_cons ?_; refine E1_AssignName ?_ rfl)
          refine EV_rep [13] [10] (by kernel_rfl) (by kernel_rfl) (by simp) (by simp) (by simp) ?_
          (refine EV_local hE (by kernel_rfl) sH ?_; (with_reducible first | refine exr ?_ | refine ⟨_, rfl, ?_⟩))
          have hr1 := repL_le [13, 10] [10] (by simp) d'.length d'
          refine ⟨by (clear nK nQ hQE nX nS hes' hE' hk4 hb mK mQ mE mX mS hW' hb' hlen' hne' hld hls hch hbp hne ch5 ch4 ch3 ch1 hd hfin hD hpos hpc' hpl' hbl hpl ch2 hpart hQX hQS hQ hX hS hQg hEr S hE hXE hSE hes hSX ha hk; lia), ?_⟩
          rw [mended2]
          have hml := mend_length d'
          (refine STn hE (by kernel_rfl) ?_; refine EX_cons ?_; refine E1_AssignAttr ?_ rfl; refine EV_local hE (by kernel_rfl) sH ?_; refine EV_local hE (by kernel_rfl) (sS (sS hls)) ?_; refine SA_tbl nS (sok (by kernel_rfl)) (.inl ⟨(by kernel_rfl), rfl⟩) (by decide) (pS (pS (pS pH))) ?_; refine seq_next ?_; refine EX_cons ?_; refine E1_AssignAttr ?_ rfl; refine EV_ncall ?_; refine EV_builtinF (id := "len") hE (by kernel_rfl) (by kernel_rfl) (by kernel_rfl) ?_; refine CW_go0 (KeepOk.bf _) ?_; refine AR_cons ?_; refine EV_local hE (by kernel_rfl) sH ?_; refine AR_nil ?_; (with_reducible refine CA_len_str ?_ ?_); rotate_left; refine EV_local hE (by kernel_rfl) (sS (sS hls)) ?_; refine SA_tbl2 (sok (by kernel_rfl)) (.inl ⟨(by kernel_rfl), rfl⟩) (by decide) (pS (pS (pS (pS pH)))) ?_; refine seq_next ?_; refine RETb ?_; rotate_left)
          · (clear hr1 nK nQ hQE nX nS hes' hE' hk4 hb mK mQ mE mX mS hW' hb' hlen' hne' hld hls hch hbp hne ch5 ch4 ch3 ch1 hd hfin hD hpos hpc' hpl' hbl hpl ch2 hpart hQX hQS hQ hX hS hQg hEr S hE hXE hSE hes hSX ha hk; lia)
          · refine hQg _ _ _ ⟨true, mend d', b', _, rfl, hfin b' (mend d') _ es' (setM_same _ _ _) ((setM_ne _ _ (Ne.symm hSX)).trans nX) ((setM_ne _ _ (Ne.symm hSE)).trans hE') ?_ ((setM_ne _ _ hQS).trans nQ) hb' hW',
              fun a o h1 h2 h3 e => (setM_ne _ _ h1).trans (nK a o h1 h2 h3 e), fun _ => mend_ne _ hne', (fun h => by cases h)⟩
            have : d.length = b.length + part.length := by rw [← hd]; simp
            (clear hml hr1 nK nQ hQE nX nS hE' hk4 hdl' hb mK mQ mE mX mS hW' hb' hne' hld hls hch hbp hne ch5 ch4 ch3 ch1 hd hfin hD hpos hpc' hpl' hbl hpl ch2 hpart hQX hQS hQ hX hS hQg hEr S hE hXE hSE hSX ha hk; lia)
end
end Mine
end
section
open PySem PySem.W PyProof.Rows
set_option maxRecDepth 100000
set_option maxHeartbeats 4000000
set_option linter.unusedVariables false
namespace Mine

noncomputable def SAt (M : Mem) (g : G) (n bk : Nat) : Prop := ∃ pre c co b p, St M g pre c co b p ∧ n = pre.length + co ∧ bk ≤ co
noncomputable def WT' (g : G) : List Nat := mend g.txt
theorem SAt.ex {M : Mem} {g : G} {k bk : Nat} (h : SAt M g k bk) : ∃ l, M g.S = some (.inst 166 10 (tblF l)) ∧ ∀ x, (["reportCharacterErrors", "newLines", "dataStream", "chunk", "chunkSize", "chunkOffset", "errors", "prevNumLines", "prevNumCols", "_bufferedCharacter"] : List Str).all (fun y => (x == y) == false) = true → tblF l x = none :=
  Exists.elim h fun _ h => Exists.elim h fun _ h => Exists.elim h fun _ h => Exists.elim h fun _ h => Exists.elim h fun _ h => ⟨_, h.1.hS, fun _ e => stNo e⟩
noncomputable def SAt.l {M : Mem} {g : G} {k bk : Nat} (h : SAt M g k bk) : List (Str × Value) := Classical.choose h.ex
theorem SAt.hS {M : Mem} {g : G} {k bk : Nat} (h : SAt M g k bk) : M g.S = some (.inst 166 10 (tblF h.l)) := (Classical.choose_spec h.ex).1
theorem SAt.no {M : Mem} {g : G} {k bk : Nat} (h : SAt M g k bk) {x : Str} (e : (["reportCharacterErrors", "newLines", "dataStream", "chunk", "chunkSize", "chunkOffset", "errors", "prevNumLines", "prevNumCols", "_bufferedCharacter"] : List Str).all (fun y => (x == y) == false) = true) : tblF h.l x = none := (Classical.choose_spec h.ex).2 x e
theorem SAt.weak {M : Mem} {g : G} {n bk : Nat} (h : SAt M g n bk) : SAt M g n 0 := by
  obtain ⟨pre, c, co, b, p, S, e, _⟩ := h
  exact ⟨pre, c, co, b, p, S, e, Nat.zero_le _⟩
theorem SAt.le {M : Mem} {g : G} {n bk : Nat} (h : SAt M g n bk) : n ≤ (WT' g).length := by
  obtain ⟨pre, c, co, b, p, S, e, _⟩ := h
  unfold WT'
  rw [S.hW]
  have := S.hco
  simp; (lia)
theorem St.get {M : Mem} {g : G} {pre c : List Nat} {co : Nat} {b : List Nat} {p : Nat} (S : St M g pre c co b p) (h : co < c.length) : (WT' g)[pre.length + co]? = c[co]? := by
  unfold WT'
  rw [S.hW, List.append_assoc, List.getElem?_append_right (by (exact Nat.le_add_right _ _))]
  rw [List.getElem?_append_left (by (lia))]
  congr 1; (lia)
theorem St.take {M : Mem} {g : G} {pre c : List Nat} {co : Nat} {b : List Nat} {p : Nat} (S : St M g pre c co b p) : (WT' g).take (pre.length + co) = pre ++ c.take co := by
  unfold WT'
  have := S.hco
  rw [S.hW, List.append_assoc, List.take_length_add_append, List.take_append_of_le_length this]
theorem St.drop {M : Mem} {g : G} {pre c : List Nat} {co : Nat} {b : List Nat} {p : Nat} (S : St M g pre c co b p) : (WT' g).drop (pre.length + co) = c.drop co ++ mend (b ++ g.txt.drop p) := by
  unfold WT'
  have := S.hco
  rw [S.hW, List.append_assoc, List.drop_length_add_append, List.drop_append_of_le_length this]
theorem St.keep {M M' : Mem} {g : G} {pre c : List Nat} {co : Nat} {b : List Nat} {p : Nat} (S : St M g pre c co b p) (k : ∀ a o, M a = some o → M' a = some o) : St M' g pre c co b p := by
  obtain ⟨es, h1, h2⟩ := S.hE
  exact ⟨k _ _ S.hS, k _ _ S.hX, ⟨es, k _ _ h1, h2⟩, k _ _ S.hQ, S.hW, S.hco, S.hb, S.hp, S.len, S.small⟩
theorem St.at {M : Mem} {g : G} {pre c : List Nat} {co co' : Nat} {b : List Nat} {p : Nat} (S : St M g pre c co b p) (hco : co' ≤ c.length) :
    St (setM M g.S (.inst 166 10 (tblF (stT g c co' (pre.count 10) (trail pre) b)))) g pre c co' b p ∧ Kp g M (setM M g.S (.inst 166 10 (tblF (stT g c co' (pre.count 10) (trail pre) b)))) := by
  obtain ⟨es, h1, h2⟩ := S.hE
  have hS := S.hS
  have hX := S.hX
  have hQ := S.hQ
  have n1 : g.X ≠ g.S := fun e => by rw [e, hS] at hX; cases hX
  have n2 : g.E ≠ g.S := fun e => by rw [e, hS] at h1; cases h1
  have n3 : g.Q ≠ g.S := fun e => by rw [e, hS] at hQ; cases hQ
  exact ⟨⟨setM_same _ _ _, (setM_ne _ _ n1).trans hX, ⟨es, (setM_ne _ _ n2).trans h1, h2⟩, (setM_ne _ _ n3).trans hQ, S.hW, hco, S.hb, S.hp, S.len, S.small⟩, fun a o k1 _ _ e => (setM_ne _ _ k1).trans e⟩

section
variable {Z : Cz} {P : Params}
theorem c_char {n k bk : Nat} {M : Mem} {g : G} (hs : SAt M g k bk) :
    CL Z.cx (n + 5) (.ref 133) [.ref g.S] (fun v m => Kp g M m ∧ ((∃ x, (WT' g)[k]? = some x ∧ v = .str (mkS [x]) 0 ∧ SAt m g (k + 1) 1) ∨ ((WT' g)[k]? = none ∧ v = .none ∧ SAt m g k 0))) M := by
  (refine obEEEEEAA (hs) ?_; intro pre c co b p S e hbk)
  subst e
  refine CL_fn (binds := [("self", .ref g.S)]) (by rfl) (by kernel_rfl) ?_ (by kernel_rfl) ?_
  · intro vs e
    obtain ⟨v1, rfl, e1⟩ := vs1 e
    exact ⟨[("self", v1)], fun s hx => kp_binds hx (fun S => rfl), by simp [e1]⟩
  · intro fz L env hE he; subst he
    rw [bindL1]
    have hS := S.hS
    unfold stT at hS
    refine EX_cutR (R := fun l m => l = setL (fun x => none) "self" (.ref g.S) ∧ ∃ pre' c' co' b' p', St m g pre' c' co' b' p' ∧ co' < c'.length ∧ pre.length + co = pre'.length + co' ∧ Kp g M m) ?_ ?_
    · (refine E1_If ?_; refine TV_compare ?_; refine EVaf hE (by kernel_rfl) sH hS sgf5 (fok (by kernel_rfl)) ?_; refine EVaf hE (by kernel_rfl) sH hS sgf4 (fok (by kernel_rfl)) ?_; (with_reducible refine O2_ge_int ?_); (with_reducible refine TR_bool ?_))
      (refine And.intro ?_ ?_ <;> intro hb <;> try (cases hb; done))
      · have hcc : co = c.length := by have := of_decide_eq_true hb; have := S.hco; (clear hb hS hE hs hbk S; lia)
        (refine EX_cons ?_; refine E1_If ?_; refine TV_not ?_; refine TV_value ?_; refine EV_mcall ?_; refine EV_local hE (by kernel_rfl) sH ?_; refine GM_meth (g := 141) hS (stNo (by kernel_rfl)) (mok (by kernel_rfl)) ?_; refine CW_go1 (KeepOk.rf (by kernel_rfl)) ?_; refine AR_nil ?_)
        refine CA_CL ((c_readChunk (n := n) (k := 10240) (cv := .none) S (by (exact Nat.le_add_left _ _)) (.inl ⟨rfl, rfl, rfl⟩)).mono ?_) (by (exact Nat.le_refl _))
        (intro v m hq0; refine obEEEEAAAA hq0 ?_; clear hq0; intro ok c' b' p' hz4 S' kp h1 h2; subst hz4)
        with_reducible refine TR_bool ?_
        (refine And.intro ?_ ?_ <;> intro hb <;> try (cases hb; done))
        · have hok : ok = false := by simpa using hb
          (refine obA (h2 hok) ?_; intro hz0 hW; subst hz0)
          (refine EX_cons ?_; refine E1_Return ?_; refine EV_gnone hE (by kernel_rfl) (by kernel_rfl) ?_; refine seq_ret ?_; refine seq_ret ?_)
          refine .inr ⟨_, rfl, kp, .inr ⟨?_, rfl, pre ++ c, [], 0, b', p', S', by simp [hcc], Nat.le_refl _⟩⟩
          unfold WT'
          rw [S'.hW, hW]
          simp [hcc]
        · have hok : ok = true := by simpa using hb
          (refine EXn ?_; refine EX_nil ?_)
          exact .inl ⟨rfl, rfl, pre ++ c, c', 0, b', p', S', List.length_pos_iff.mpr (h1 hok), by simp [hcc], kp⟩
      · have hcc : co < c.length := by have := of_decide_eq_false hb; (clear hb hS hE hs hbk S; lia)
        refine EX_nil ?_
        exact .inl ⟨rfl, rfl, pre, c, co, b, p, S, hcc, rfl, Kp.refl _ _⟩
    · (intro l m hq0; refine obAEEEEEAAA hq0 ?_; clear hq0; intro hz0 pre' c' co' b' p' S' hlt hk' kp; subst hz0)
      have hS := S'.hS
      unfold stT at hS
      obtain ⟨x, hx⟩ : ∃ x, c'[co']? = some x := ⟨_, List.getElem?_eq_getElem hlt⟩
      have hlen : c'.length ≤ 100000 := by
        have h1 := mend_length g.txt
        rw [S'.hW] at h1
        have := S'.len
        simp at h1; (clear hx hS kp hk' hlt S' hE hs hbk S; lia)
      (refine EX_cons ?_; refine E1_AssignName ?_ rfl; refine EVaf hE (by kernel_rfl) sH hS sgf5 (fok (by kernel_rfl)) ?_; refine STn hE (by kernel_rfl) ?_; refine EX_cons ?_; refine E1_AssignName ?_ rfl; refine EV_sub ?_; refine EVaf hE (by kernel_rfl) (sS sH) hS sgf3 (fok (by kernel_rfl)) ?_; refine EV_local hE (by kernel_rfl) sH ?_)
      refine SUB_str (j := co') (c := x) (by (lia)) (by rw [if_neg (by (lia))]) hx ?_
      (refine STn hE (by kernel_rfl) ?_; refine EX_cons ?_; refine E1_AssignAttr ?_ rfl; refine EV_binop ?_; refine EV_local hE (by kernel_rfl) (sS sH) ?_; refine EV_int ?_; (with_reducible refine O2_add_int ?_); refine EV_local hE (by kernel_rfl) (sS (sS sH)) ?_; refine SA_tbl hS (sok (by kernel_rfl)) (.inl ⟨(by kernel_rfl), rfl⟩) (by decide) (pS (pS (pS (pS (pS pH))))) ?_; refine seq_next ?_; refine EX_cons ?_; refine E1_Return ?_; refine EV_local hE (by kernel_rfl) sH ?_; refine seq_ret ?_)
      (refine obA (S'.at (co' := co' + 1) (by (assumption))) ?_; intro S2 kp2)
      rw [hk', S'.get hlt]
      refine ⟨kp.trans kp2, .inl ⟨x, hx, rfl, pre', c', co' + 1, b', p', S2, by (lia), by (exact Nat.le_add_left _ _)⟩⟩


theorem c_position {n k bk : Nat} {M : Mem} {g : G} (hs : SAt M g k bk) :
    CL Z.cx (n + 2) (.ref 126) [.ref g.S] (fun v m => ∃ D, v = .ref D ∧ m D = some (.tup [.int (((WT' g).take k).count 10 + 1 : Nat) 0, .int (trail ((WT' g).take k) : Nat) 0]) ∧ ∀ a o, M a = some o → m a = some o) M := by
  (refine obEEEEEAA (hs) ?_; intro pre c co b p S e hbk)
  subst e
  refine CL_fn (binds := [("self", .ref g.S)]) (by rfl) (by kernel_rfl) ?_ (by kernel_rfl) ?_
  · intro vs e
    obtain ⟨v1, rfl, e1⟩ := vs1 e
    exact ⟨[("self", v1)], fun s hx => kp_binds hx (fun S => rfl), by simp [e1]⟩
  · intro fz L env hE he; subst he
    rw [bindL1]
    have hS := S.hS
    have hpos := c__position (Z := Z) (n := n) hS S.hco
    unfold stT at hS
    (refine EX_cons ?_; refine E1_AssignTuple ?_ rfl rfl rfl; refine EV_mcall ?_; refine EV_local hE (by kernel_rfl) sH ?_; refine GM_meth (g := 119) hS (stNo (by kernel_rfl)) (mok (by kernel_rfl)) ?_; refine CW_go1 (KeepOk.rf (by kernel_rfl)) ?_; refine AR_cons ?_; refine EVaf hE (by kernel_rfl) sH hS sgf5 (fok (by kernel_rfl)) ?_; refine AR_nil ?_)
    refine CA_CL (hpos.mono ?_) (by (exact Nat.lt_succ_self _))
    rintro v m' ⟨D, hD, rfl, rfl⟩
    refine ⟨D, _, rfl, .tup (setM_same _ _ _), rfl, ?_⟩
    (refine ATs_cons ?_; refine AT_name ?_; refine ST_local hE (by kernel_rfl) ?_; refine ATs_cons ?_; refine AT_name ?_; refine ST_local hE (by kernel_rfl) ?_; refine ATs_nil ?_; refine seq_next ?_; refine EX_cons ?_; refine E1_Return ?_; refine EV_tuple ?_; refine AR_cons ?_; refine EV_binop ?_; refine EV_local hE (by kernel_rfl) (sS sH) ?_; refine EV_int ?_; (with_reducible refine O2_add_int ?_); refine AR_cons ?_; refine EV_local hE (by kernel_rfl) sH ?_; refine AR_nil ?_)
    refine ⟨by simp, fun D' hD' => ?_⟩
    (refine seq_ret ?_; (with_reducible first | refine exr ?_ | refine ⟨_, rfl, ?_⟩))
    refine ⟨?_, fun a o h => setM_old hD' (setM_old hD h)⟩
    have hc : (c.take co).length = co := by have := S.hco; simp; (lia)
    rw [setM_same, S.take, List.count_append, trail_append, hc]
    have e2 : (((pre.count 10 + (c.take co).count 10 + 1 : Nat)) : Int) = ((pre.count 10 + (c.take co).count 10 : Nat) : Int) + 1 := by (lia)
    rw [e2]
end
end Mine
end
section
open PySem PySem.W PyProof.Rows
set_option maxRecDepth 100000
set_option maxHeartbeats 4000000
set_option linter.unusedVariables false
namespace Mine

theorem inter_nil (ts : List (List Nat)) : ([] : List Nat).intercalate ts = ts.flatten := by
  have : ∀ ts : List (List Nat), (List.intersperse ([] : List Nat) ts).flatten = ts.flatten := by
    intro ts
    induction ts with
    | nil => rfl
    | cons a r ih =>
      cases r with
      | nil => simp
      | cons b r => simp only [List.intersperse, List.flatten_cons, List.nil_append] at ih ⊢; rw [ih]
  exact this ts
theorem joinOk_nil (ts : List (List Nat)) (h : ts.flatten.length ≤ 16777216) : JoinOk (mkS []) (ts.map mkS) = true := by
  unfold JoinOk
  rw [PySem.StrLaws.joinTotal]
  have e : (2 : Nat) ^ 24 = 16777216 := by decide
  have : ((ts.map mkS).map (·.length)).sum = ts.flatten.length := by
    rw [List.length_flatten, List.map_map]
    congr 1
  rw [this, mkS_length]
  unfold Builtin.Str.tooLong sizeLine
  rw [Bool.not_eq_true']
  refine decide_eq_false ?_
  have e0 : ([] : List Nat).length = 0 := rfl
  rw [e0]
  (lia)
noncomputable def upTo (g : G) (ts : List (List Nat)) (k : Nat) : List Nat := ((WT' g).drop k).takeWhile fun x => !decide ([x] ∈ ts)
theorem upTo_eq {g : G} {ts : List (List Nat)} {k j : Nat} (hk : k ≤ j) (hj : j ≤ (WT' g).length) (hno : ∀ i x, k ≤ i → i < j → (WT' g)[i]? = some x → [x] ∉ ts) (hend : ∀ x, (WT' g)[j]? = some x → [x] ∈ ts) :
    upTo g ts k = ((WT' g).drop k).take (j - k) := by
  unfold upTo
  have e : (WT' g).drop k = ((WT' g).drop k).take (j - k) ++ (WT' g).drop j := by
    conv => lhs; rw [← List.take_append_drop (j - k) ((WT' g).drop k)]
    rw [List.drop_drop]; congr 2; (lia)
  conv => lhs; rw [e]
  have h1 : (((WT' g).drop k).take (j - k)).takeWhile (fun x => !decide ([x] ∈ ts)) = ((WT' g).drop k).take (j - k) := by
    refine tw_all _ _ fun x hx => ?_
    obtain ⟨i, hi⟩ := List.getElem?_of_mem hx
    rw [List.getElem?_take] at hi
    split at hi
    · rw [List.getElem?_drop] at hi
      have := hno (k + i) x (by (exact Nat.le_add_right _ _)) (by (clear hi hx e hend hno hj hk; omega)) hi
      simpa using this
    · cases hi
  have h2 : ((WT' g).drop j).takeWhile (fun x => !decide ([x] ∈ ts)) = [] := by
    cases q : (WT' g).drop j with
    | nil => rfl
    | cons x r =>
      have : (WT' g)[j]? = some x := by
        have := congrArg (fun l => l[0]?) q
        simpa using this
      rw [List.takeWhile_cons]
      have := hend x this
      simp [this]
  rw [List.takeWhile_append, h1, h2]
  simp

theorem St.off {M : Mem} {g : G} {pre c : List Nat} {co : Nat} {b : List Nat} {p : Nat} {R : Addr} {o : AO} (S : St M g pre c co b p) (h1 : R ≠ g.S) (h2 : R ≠ g.X) (h3 : R ≠ g.E) (h4 : R ≠ g.Q) : St (setM M R o) g pre c co b p := by
  obtain ⟨es, q1, q2⟩ := S.hE
  exact ⟨(setM_ne _ _ h1.symm).trans S.hS, (setM_ne _ _ h2.symm).trans S.hX, ⟨es, (setM_ne _ _ h3.symm).trans q1, q2⟩, (setM_ne _ _ h4.symm).trans S.hQ, S.hW, S.hco, S.hb, S.hp, S.len, S.small⟩
theorem RdM.kp {X : Cx} {M M' : Mem} {g : G} {a : Addr} {xs : List Value} {pre c : List Nat} {co : Nat} {b : List Nat} {p : Nat} (h : RdM X M a (.tup xs)) (S : St M g pre c co b p) (k : ∀ d o, d ≠ g.S → d ≠ g.X → d ≠ g.E → M d = some o → M' d = some o) : RdM X M' a (.tup xs) := by
  rcases h with ⟨h, _⟩ | h
  · obtain ⟨es, h1, _⟩ := S.hE
    refine .inl ⟨k _ _ (fun e => ?_) (fun e => ?_) (fun e => ?_) h, rfl⟩
    · have := S.hS; rw [← e, h] at this; cases this
    · have := S.hX; rw [← e, h] at this; cases this
    · rw [← e, h] at h1; cases h1
  · exact .inr h

section
variable {Z : Cz} {P : Params}
theorem c_charsUntil {n k bk : Nat} {M : Mem} {g : G} {ca : Addr} {ts : List (List Nat)} (hs : SAt M g k bk) (hca : RdM Z.cx M ca (.tup (strsV ts))) :
    CL Z.cx (n + 5) (.ref 156) [.ref g.S, .ref ca] (fun v m => v = .str (mkS (upTo g ts k)) 0 ∧ Kp g M m ∧ SAt m g (k + (upTo g ts k).length) 0) M := by
  (refine obEEEEEAA (hs) ?_; intro pre c co b p S e hbk)
  subst e
  refine CL_fn (binds := [("self", .ref g.S), ("characters", .ref ca), ("opposite", .bool false)]) (by rfl) (by kernel_rfl) ?_ (by kernel_rfl) ?_
  · intro vs e
    obtain ⟨v1, v2, rfl, e1, e2⟩ := vs2 e
    exact ⟨[("self", v1), ("characters", v2), ("opposite", .bool false)], fun s hx => kp_binds hx (fun S => rfl), by simp [e1, e2]⟩
  · intro fz L env hE he; subst he; refine EX_gen fun Qg hQ => ?_
    rw [bindL3]
    have hlen : (WT' g).length ≤ 100000 := by
      have h1 := mend_length g.txt
      have := S.len
      unfold WT'; (lia)
    refine EX_cons ?_
    (refine E1_AssignName ?_ rfl; refine EV_list ?_; refine AR_nil ?_)
    refine ⟨by simp, fun R hR => ?_⟩
    refine ST_local hE (by kernel_rfl) ?_
    refine seq_next ?_
    have hRE : R ≠ g.E := fun e => by refine obEA (S.hE) ?_; intro es0 hE0 _; rw [e, hE0] at hR; cases hR
    have keepR : ∀ a o, M a = some o → setM M R (.lst []) a = some o := fun a o h => setM_old hR h
    -- the loop
    refine EX_cutG (R := fun l m => ∃ parts j, l "self" = some (.ref g.S) ∧ l "rv" = some (.ref R) ∧ m R = some (.lst (strsV parts)) ∧ pre.length + co ≤ j ∧ parts.flatten = ((WT' g).drop (pre.length + co)).take (j - (pre.length + co)) ∧ SAt m g j 0 ∧
      (∀ i x, pre.length + co ≤ i → i < j → (WT' g)[i]? = some x → [x] ∉ ts) ∧ (∀ x, (WT' g)[j]? = some x → [x] ∈ ts) ∧ Kp g M m) ?_ ?_
    · intro Rg1 hR1; refine E1_WhileG (I := fun kk l m => ∃ parts pre' c' co' b' p', kk = (WT' g).length - (pre'.length + co') + (if parts = [] then 1 else 0) ∧ l "self" = some (.ref g.S) ∧ l "characters" = some (.ref ca) ∧ l "opposite" = some (.bool false) ∧ l "rv" = some (.ref R) ∧
        m R = some (.lst (strsV parts)) ∧ pre.length + co ≤ pre'.length + co' ∧ parts.flatten = ((WT' g).drop (pre.length + co)).take (pre'.length + co' - (pre.length + co)) ∧ St m g pre' c' co' b' p' ∧
        (∀ i x, pre.length + co ≤ i → i < pre'.length + co' → (WT' g)[i]? = some x → [x] ∉ ts) ∧ parts.length ≤ pre'.length + co' + 1 ∧ (parts ≠ [] → co' < c'.length) ∧ Kp g M m) _
        ⟨[], pre, c, co, b, p, rfl, rfl, rfl, rfl, rfl, setM_same _ _ _, Nat.le_refl _, by simp, S.keep keepR, fun i x h1 h2 => by (lia), by simp, fun h => absurd rfl h, fun a o _ _ _ h => keepR a o h⟩ ?_
      rintro kk l m ⟨parts, pre', c', co', b', p', rfl, l1, l2, l3, l4, mR, hle, hfl, S', hno, hpl, hpc, kp⟩ Rw1 hRw1
      have hS := S'.hS
      unfold stT at hS
      have hca' := hca.kp S kp
      (refine obEA (S'.hE) ?_; intro es hEr _)
      have hRS : R ≠ g.S := fun e => by rw [e, hS] at mR; cases mR
      have hRX : R ≠ g.X := fun e => by have := S'.hX; rw [← e, mR] at this; cases this
      have hcl : pre'.length + c'.length ≤ (WT' g).length := by
        unfold WT'; rw [S'.hW]; simp
      refine TV_value ?_
      (refine EV_bool ?_; (with_reducible refine TR_bool ?_))
      (refine And.intro ?_ ?_ <;> intro hb <;> try (cases hb; done))
      (refine EX_cons ?_; refine E1_AssignName ?_ rfl; refine EVaf hE (by kernel_rfl) l1 hS sgf5 (fok (by kernel_rfl)) ?_; refine STn hE (by kernel_rfl) ?_)
      refine EX_cutG (R := fun l' m' => m' = m ∧ ∃ e, l' "end" = some (.int (e : Nat) 0) ∧ l' "self" = some (.ref g.S) ∧ l' "characters" = some (.ref ca) ∧ l' "opposite" = some (.bool false) ∧ l' "rv" = some (.ref R) ∧ co' ≤ e ∧ e ≤ c'.length ∧
        (∀ i x, co' ≤ i → i < e → c'[i]? = some x → [x] ∉ ts) ∧ (∀ x, c'[e]? = some x → [x] ∈ ts)) ?_ ?_
      · intro Rg2 hR2; refine E1_WhileG (I := fun jj l' m' => m' = m ∧ ∃ e, jj = c'.length - e ∧ l' "end" = some (.int (e : Nat) 0) ∧ l' "self" = some (.ref g.S) ∧ l' "characters" = some (.ref ca) ∧ l' "opposite" = some (.bool false) ∧ l' "rv" = some (.ref R) ∧ co' ≤ e ∧ e ≤ c'.length ∧
          (∀ i x, co' ≤ i → i < e → c'[i]? = some x → [x] ∉ ts)) (c'.length - co') ⟨rfl, co', rfl, by exact sH, by exact (sS l1), by exact (sS l2), by exact (sS l3), by exact (sS l4), Nat.le_refl _, S'.hco, fun i x h1 h2 => by (lia)⟩ ?_
        rintro jj l' m' ⟨rfl, e, rfl, k0, k1, k2, k3, k4, e1, e2, e3⟩ Rw2 hRw2
        (refine TV_boolop ?_; refine TAll_and ?_; refine TV_compare ?_; refine EV_local hE (by kernel_rfl) k0 ?_; refine EVaf hE (by kernel_rfl) k1 hS sgf4 (fok (by kernel_rfl)) ?_; (with_reducible refine O2_ne_int ?_); (with_reducible refine TR_bool ?_))
        (refine And.intro ?_ ?_ <;> intro hb <;> try (cases hb; done))
        · have hlt : e < c'.length := by
            have : ¬ ((e : Int) = (c'.length : Int)) := by simpa using hb
            (clear hb hRw2 e3 e1 k4 k3 k2 k1 k0 hR2 hEr hca' hS kp S' mR hcl hRX hRS hRw1 hpc hpl hno hfl hle l4 l3 l2 l1 hR1 keepR hRE hR hlen hQ hE hs hbk S hca; lia)
          obtain ⟨x, hx⟩ : ∃ x, c'[e]? = some x := ⟨_, List.getElem?_eq_getElem hlt⟩
          (refine TAll_and ?_; refine TV_compare ?_; refine EV_compare ?_; refine EV_sub ?_; refine EVaf hE (by kernel_rfl) k1 hS sgf3 (fok (by kernel_rfl)) ?_; refine EV_local hE (by kernel_rfl) k0 ?_)
          refine SUB_str (j := e) (c := x) (by (clear hx hb hRw2 e3 e2 e1 k4 k3 k2 k1 k0 hR2 hEr hca' hS kp S' mR hRX hRS hRw1 hpc hpl hno hfl hle l4 l3 l2 l1 hR1 keepR hRE hR hQ hE hs hbk S hca; lia)) (by rw [if_neg (by (lia))]) hx ?_
          refine EV_local hE (by kernel_rfl) k2 ?_
          refine O2_in_tup hca' ?_
          (refine EV_local hE (by kernel_rfl) k3 ?_; (with_reducible refine O2_eq_bool ?_); (with_reducible refine TR_bool ?_))
          (refine And.intro ?_ ?_ <;> intro hb <;> try (cases hb; done))
          · have hn : [x] ∉ ts := by simpa using hb
            (refine TAll_and_nil ?_; (refine And.intro ?_ ?_ <;> intro hb <;> try (cases hb; done)); refine EX_cons ?_; refine E1_AugLocal hE (by kernel_rfl) k0 ?_; refine EV_int ?_; (with_reducible refine O2_iadd_int ?_); refine STn hE (by kernel_rfl) ?_; refine EX_nil ?_)
            refine hRw2 (c'.length - (e + 1)) _ _ (by (lia)) ⟨rfl, e + 1, rfl, ?_, by exact (sS k1), by exact (sS k2), by exact (sS k3), by exact (sS k4), by (exact Nat.le_succ_of_le (by assumption)), hlt, fun i y h1 h2 hy => ?_⟩
            · exact setL_self _ _ _
            · by_cases hi : i < e
              · exact e3 i y h1 hi hy
              · have : i = e := by (lia)
                subst this
                rw [hx] at hy; cases hy; exact hn
          · have hn : [x] ∈ ts := by simpa using hb
            (refine And.intro ?_ ?_ <;> intro hb <;> try (cases hb; done))
            exact ⟨rfl, hR2 _ _ ⟨rfl, e, k0, k1, k2, k3, k4, e1, e2, e3, fun y hy => by rw [hx] at hy; cases hy; exact hn⟩⟩
        · have heq : e = c'.length := by
            have : ((e : Int) = (c'.length : Int)) := by simpa using hb
            (clear hb hRw2 e3 e2 e1 k4 k3 k2 k1 k0 hR2 hEr hca' hS kp S' mR hcl hRX hRS hRw1 hpc hpl hno hfl hle l4 l3 l2 l1 hR1 keepR hRE hR hlen hQ hE hs hbk S hca; lia)
          (refine And.intro ?_ ?_ <;> intro hb <;> try (cases hb; done))
          exact ⟨rfl, hR2 _ _ ⟨rfl, e, k0, k1, k2, k3, k4, e1, e2, e3, fun y hy => by rw [heq, List.getElem?_eq_none (Nat.le_refl _)] at hy; cases hy⟩⟩
      · (intro l2 m2 hq0; refine obAEAAAAAAAA hq0 ?_; clear hq0; intro hz0 e k0 k1 k2 k3 k4 e1 e2 e3 e4; subst hz0)
        have hQR : R ≠ g.Q := fun z => by have := S'.hQ; rw [← z, mR] at this; cases this
        have hcl2 : c'.length ≤ 100000 := by (lia)
        have hend : ∀ {co2 : Nat}, e = co2 → co2 < c'.length → ∀ x, (WT' g)[pre'.length + co2]? = some x → [x] ∈ ts := fun {co2} h1 h2 x hx => by
          subst h1
          refine e4 x ?_
          rw [← hx]
          exact (St.get (co := e) ⟨(S'.at (co' := e) (by (assumption))).1.hS, (S'.at (co' := e) (by (assumption))).1.hX, (S'.at (co' := e) (by (assumption))).1.hE, (S'.at (co' := e) (by (assumption))).1.hQ, S'.hW, by (assumption), S'.hb, S'.hp, S'.len, S'.small⟩ h2).symm
        have hno2 : ∀ co2, co2 ≤ e → ∀ i x, pre.length + co ≤ i → i < pre'.length + co2 → (WT' g)[i]? = some x → [x] ∉ ts := fun co2 hc2 i x h1 h2 hx => by
          by_cases hi : i < pre'.length + co'
          · exact hno i x h1 hi hx
          · obtain ⟨d, rfl⟩ : ∃ d, i = pre'.length + d := ⟨i - pre'.length, by (clear hx h2 h1 hc2 hend hcl2 hQR hEr hca' hS kp S' mR e4 e3 e2 e1 k4 k3 k2 k1 k0 hb hcl hRX hRS hRw1 hpc hpl hno hfl hle l4 l3 l1 hR1 keepR hRE hR hlen hQ hE hs hbk S hca; lia)⟩
            refine e3 d x (by (clear hx h2 h1 hc2 hend hcl2 hQR hEr hca' hS kp S' mR e4 e3 e2 e1 k4 k3 k2 k1 k0 hb hcl hRX hRS hRw1 hpc hpl hno hfl hle l4 l3 l1 hR1 keepR hRE hR hlen hQ hE hs hbk S hca; lia)) (by (clear hi hx h1 hend hcl2 hQR hEr hca' hS kp S' mR e4 e3 e2 e1 k4 k3 k2 k1 k0 hb hcl hRX hRS hRw1 hpc hpl hno hfl hle l4 l3 l1 hR1 keepR hRE hR hlen hQ hE hs hbk S hca; lia)) ?_
            rw [← hx]
            exact (St.get (co := d) ⟨(S'.at (co' := d) (by (lia))).1.hS, (S'.at (co' := d) (by (lia))).1.hX, (S'.at (co' := d) (by (lia))).1.hE, (S'.at (co' := d) (by (lia))).1.hQ, S'.hW, by (lia), S'.hb, S'.hp, S'.len, S'.small⟩ (by (lia))).symm
        have hfl2 : ∀ e, co' ≤ e → e ≤ c'.length → (parts ++ [(c'.take e).drop co']).flatten = ((WT' g).drop (pre.length + co)).take (pre'.length + e - (pre.length + co)) := fun e h1 h2 => by
          rw [List.flatten_append, hfl]
          have hd := S'.drop
          have e6 : pre'.length + e - (pre.length + co) = (pre'.length + co' - (pre.length + co)) + (e - co') := by (clear hd h2 hno2 hend hcl2 hQR hEr hca' hS kp S' mR e4 e3 e2 e1 k4 k3 k2 k1 k0 hb hcl hRX hRS hRw1 hpc hpl hno hfl l4 l3 l1 hR1 keepR hRE hR hlen hQ hE hs hbk S hca; lia)
          have e7 : pre.length + co + (pre'.length + co' - (pre.length + co)) = pre'.length + co' := by (clear e6 hd h2 h1 hno2 hend hcl2 hQR hEr hca' hS kp S' mR e4 e3 e2 e1 k4 k3 k2 k1 k0 hb hcl hRX hRS hRw1 hpc hpl hno hfl l4 l3 l1 hR1 keepR hRE hR hlen hQ hE hs hbk S hca; omega)
          rw [e6, List.take_add, List.drop_drop, e7, hd, List.take_append_of_le_length (by simp; (lia)), List.drop_take]
          simp
        refine EX_cutF (R := fun l' m' => l' = l2 ∧ m' = m2 ∧ e = c'.length) ?_ ?_
        · (refine E1_If ?_; refine TV_compare ?_; refine EV_local hE (by kernel_rfl) k0 ?_; refine EVaf hE (by kernel_rfl) k1 hS sgf5 (fok (by kernel_rfl)) ?_; (with_reducible refine O2_eq_int ?_); (with_reducible refine TR_bool ?_))
          (refine And.intro ?_ ?_ <;> intro hb <;> try (cases hb; done))
          · have he1 : e = co' := by have := of_decide_eq_true hb; (clear hb hfl2 hno2 hend hcl2 hQR hEr hca' hS kp S' mR e4 e3 e2 e1 k4 k3 k2 k1 k0 hcl hRX hRS hRw1 hpc hpl hno hfl hle l4 l3 l1 hR1 keepR hRE hR hlen hQ hE hs hbk S hca; lia)
            (refine EX_cons ?_; refine E1_If ?_; refine TV_compare ?_; refine EVaf hE (by kernel_rfl) k1 hS sgf5 (fok (by kernel_rfl)) ?_; refine EVaf hE (by kernel_rfl) k1 hS sgf4 (fok (by kernel_rfl)) ?_; (with_reducible refine O2_ne_int ?_); (with_reducible refine TR_bool ?_))
            (refine And.intro ?_ ?_ <;> intro hb <;> try (cases hb; done))
            · have hne : co' ≠ c'.length := by
                have : ¬ ((co' : Int) = (c'.length : Int)) := by simpa using hb
                (clear hb he1 hfl2 hno2 hend hcl2 hQR hEr hca' hS kp S' mR e4 e3 e2 e1 k4 k3 k2 k1 k0 hcl hRX hRS hRw1 hpc hpl hno hfl hle l4 l3 l1 hR1 keepR hRE hR hlen hQ hE hs hbk S hca; lia)
              (refine EX_cons ?_; refine E1_Break ?_)
              exact .inr ⟨by simp, rfl, hR1 _ _ ⟨parts, pre'.length + co', k1, k4, mR, hle, hfl, ⟨pre', c', co', b', p', S', rfl, Nat.zero_le _⟩, hno, hend he1 (by (clear hb hfl2 hno2 hend hcl2 hQR hEr hca' hS kp S' mR e4 e3 e1 k4 k3 k2 k1 k0 hcl hRX hRS hRw1 hpc hpl hno hfl hle l4 l3 l1 hR1 keepR hRE hR hlen hQ hE hs hbk S hca; lia)), kp⟩⟩
            · have hne : co' = c'.length := by
                have : ((co' : Int) = (c'.length : Int)) := by simpa using hb
                (lia)
              (refine EXn ?_; refine EX_nil ?_)
              exact .inl ⟨rfl, rfl, rfl, by (lia)⟩
          · have he1 : ¬ e = co' := by have := of_decide_eq_false hb; (clear hb hfl2 hno2 hend hcl2 hQR hEr hca' hS kp S' mR e4 e3 e2 e1 k4 k3 k2 k1 k0 hcl hRX hRS hRw1 hpc hpl hno hfl hle l4 l3 l1 hR1 keepR hRE hR hlen hQ hE hs hbk S hca; lia)
            (refine IFc hE (by kernel_rfl) k0 ?_; refine EVaf hE (by kernel_rfl) k1 hS sgf4 (fok (by kernel_rfl)) ?_; (with_reducible refine O2_ne_int ?_); (with_reducible refine TR_bool ?_))
            (refine And.intro ?_ ?_ <;> intro hb <;> try (cases hb; done))
            · have hne : e ≠ c'.length := by
                have : ¬ ((e : Int) = (c'.length : Int)) := by simpa using hb
                (clear hb he1 hfl2 hno2 hend hcl2 hQR hEr hca' hS kp S' mR e4 e3 e2 e1 k4 k3 k2 k1 k0 hcl hRX hRS hRw1 hpc hpl hno hfl hle l4 l3 l1 hR1 keepR hRE hR hlen hQ hE hs hbk S hca; lia)
              (refine EX_cons ?_; refine E1_Expr ?_ (by rfl) (by rfl); refine EV_mcall ?_; refine EV_local hE (by kernel_rfl) k4 ?_; (with_reducible refine GM_append mR ?_); refine CW_go1 (KeepOk.bf _) ?_; refine AR_cons ?_; refine EV_slice_str ?_; refine EVaf hE (by kernel_rfl) k1 hS sgf3 (fok (by kernel_rfl)) ?_; (with_reducible first | refine exr ?_ | refine ⟨_, rfl, ?_⟩))
              refine ⟨by (exact Nat.le_trans (by assumption) (by decide)), ?_⟩
              (refine PT_some ?_; refine EVaf hE (by kernel_rfl) k1 hS sgf5 (fok (by kernel_rfl)) ?_; (with_reducible first | refine exr ?_ | refine ⟨_, rfl, ?_⟩); refine PT_some ?_; refine EV_local hE (by kernel_rfl) k0 ?_; (with_reducible first | refine exr ?_ | refine ⟨_, rfl, ?_⟩); refine AR_nil ?_; refine CA_append mR ?_ ?_; rotate_left; refine seq_next ?_; refine EX_cons ?_; refine E1_AssignAttr ?_ rfl; refine EV_local hE (by kernel_rfl) k0 ?_; refine EV_local hE (by kernel_rfl) k1 ?_; refine SA_tbl ((setM_ne _ _ (Ne.symm hRS)).trans hS) (sok (by kernel_rfl)) (.inl ⟨(by kernel_rfl), rfl⟩) (by decide) (pS (pS (pS (pS (pS pH))))) ?_; refine seq_next ?_; refine EX_cons ?_; refine E1_Break ?_; rotate_left)
              · simp [strsV]; (clear hne hb he1 hfl2 hno2 hend hcl2 hQR hEr hca' hS kp S' mR e4 e3 k4 k3 k2 k1 k0 hRX hRS hRw1 hpc hno hfl hle l4 l3 l1 hR1 keepR hRE hR hQ hE hs hbk S hca; lia)
              · rw [pySl_nat]
                obtain ⟨S2, kp2⟩ := (S'.off (o := .lst (strsV parts ++ [.str (mkS ((c'.take e).drop co')) 0])) hRS hRX hRE hQR).at (co' := e) e2
                refine .inr ⟨by simp, rfl, hR1 _ _ ⟨parts ++ [(c'.take e).drop co'], pre'.length + e, by exact k1, by exact k4, (setM_ne _ _ hRS).trans ((setM_same _ _ _).trans (by simp [strsV])), by (clear kp2 S2 hne hb he1 hfl2 hno2 hend hcl2 hQR hEr hca' hS kp S' mR e4 e3 e2 k4 k3 k2 k1 k0 hcl hRX hRS hRw1 hpc hpl hno hfl l4 l3 l1 hR1 keepR hRE hR hlen hQ hE hs hbk S hca; lia), hfl2 e e1 e2, ⟨pre', c', e, b', p', S2, rfl, Nat.zero_le _⟩, hno2 e (Nat.le_refl _), hend rfl (by (clear kp2 S2 hb he1 hfl2 hno2 hend hcl2 hQR hEr hca' hS kp S' mR e4 e3 e1 k4 k3 k2 k1 k0 hcl hRX hRS hRw1 hpc hpl hno hfl hle l4 l3 l1 hR1 keepR hRE hR hlen hQ hE hs hbk S hca; lia)),
                  fun a o h1 h2 h3 h => (setM_ne _ _ h1).trans ((setM_ne _ _ (fun z => by rw [z, hR] at h; cases h)).trans (kp a o h1 h2 h3 h))⟩⟩
            · have hne : e = c'.length := by
                have : ((e : Int) = (c'.length : Int)) := by simpa using hb
                (clear hb he1 hfl2 hno2 hend hcl2 hQR hEr hca' hS kp S' mR e4 e3 e2 e1 k4 k3 k2 k1 k0 hcl hRX hRS hRw1 hpc hpl hno hfl hle l4 l3 l1 hR1 keepR hRE hR hlen hQ hE hs hbk S hca; lia)
              (refine EXn ?_; refine EX_nil ?_)
              exact .inl ⟨rfl, rfl, rfl, hne⟩
        · (intro l3 m3 hq0; refine obAA hq0 ?_; clear hq0; intro hz0 hz1 heq; subst hz0; subst hz1)
          (refine EX_cons ?_; refine E1_Expr ?_ (by rfl) (by rfl); refine EV_mcall ?_; refine EV_local hE (by kernel_rfl) k4 ?_; (with_reducible refine GM_append mR ?_); refine CW_go1 (KeepOk.bf _) ?_; refine AR_cons ?_; refine EV_slice_str ?_; refine EVaf hE (by kernel_rfl) k1 hS sgf3 (fok (by kernel_rfl)) ?_; (with_reducible first | refine exr ?_ | refine ⟨_, rfl, ?_⟩))
          refine ⟨by (exact Nat.le_trans (by assumption) (by decide)), ?_⟩
          (refine PT_some ?_; refine EVaf hE (by kernel_rfl) k1 hS sgf5 (fok (by kernel_rfl)) ?_; (with_reducible first | refine exr ?_ | refine ⟨_, rfl, ?_⟩); refine PT_none ?_; refine AR_nil ?_; refine CA_append mR ?_ ?_; rotate_left; refine seq_next ?_; refine EX_cons ?_; refine E1_If ?_; refine TV_not ?_; refine TV_value ?_; refine EV_mcall ?_; refine EV_local hE (by kernel_rfl) k1 ?_; refine GM_meth (g := 141) ((setM_ne _ _ (Ne.symm hRS)).trans hS) (tS (tS (tS (tS (tS (tS (tS (tS (tS (tS tN)))))))))) (mok (by kernel_rfl)) ?_; refine CW_go1 (KeepOk.rf (by kernel_rfl)) ?_; refine AR_nil ?_; rotate_left)
          · simp [strsV]; (clear hEr hca' hS kp S' mR k4 k3 k2 k1 k0 hfl2 hno2 hend hcl2 hQR e4 e3 e2 hb hRX hRS hRw1 hpc hno hfl hle l4 l2 l1 hR1 keepR hRE hR hQ hE hs hbk S hca; lia)
          · rw [pySl_from]
            have S2 := S'.off (o := .lst (strsV parts ++ [.str (mkS (c'.drop co')) 0])) hRS hRX hRE hQR
            refine CA_CL ((c_readChunk (n := n) (k := 10240) (cv := .none) S2 (by (exact Nat.le_add_left _ _)) (.inl ⟨rfl, rfl, rfl⟩)).mono ?_) (by (exact Nat.le_refl _))
            (intro v m4 hq0; refine obEEEEAAAA hq0 ?_; clear hq0; intro ok c4 b4 p4 hz4 S4 kp4 q1 q2; subst hz4)
            have mR4 : m4 R = some (.lst (strsV (parts ++ [c'.drop co']))) := by
              rw [kp4 R _ hRS hRX hRE (setM_same _ _ _)]
              simp [strsV]
            have kpM : Kp g M m4 := fun a o h1 h2 h3 h => kp4 a o h1 h2 h3 ((setM_ne _ _ (fun z => by rw [z, hR] at h; cases h)).trans (kp a o h1 h2 h3 h))
            have hfl4 := hfl2 c'.length S'.hco (Nat.le_refl _)
            rw [List.take_length] at hfl4
            have hno4 := hno2 c'.length (by (lia))
            have hlp : (pre' ++ c').length = pre'.length + c'.length := List.length_append
            with_reducible refine TR_bool ?_
            (refine And.intro ?_ ?_ <;> intro hb <;> try (cases hb; done))
            · have hok : ok = false := by simpa using hb
              (refine obA (q2 hok) ?_; intro hz0 hW0; subst hz0)
              (refine EX_cons ?_; refine E1_Break ?_)
              refine ⟨rfl, hR1 _ _ ⟨parts ++ [c'.drop co'], pre'.length + c'.length, by exact k1, by exact k4, mR4, by (clear q2 q1 S4 hW0 hok hb hlp hno4 hfl4 kpM mR4 kp4 S2 hEr hca' hS kp S' mR k4 k3 k2 k1 k0 hfl2 hno2 hend hcl2 hQR e4 e3 e2 hcl hRX hRS hRw1 hpc hpl hno hfl l4 l2 l1 hR1 keepR hRE hR hlen hQ hE hs hbk S hca; lia), hfl4, ⟨pre' ++ c', [], 0, b4, p4, S4, by (exact (by assumption : _ = _).symm), Nat.le_refl _⟩, hno4, fun x hx => ?_, kpM⟩⟩
              have : (WT' g).length ≤ pre'.length + c'.length := by
                unfold WT'; rw [S4.hW, hW0]; simp
              rw [List.getElem?_eq_none this] at hx; cases hx
            · have hok : ok = true := by simpa using hb
              (refine EXn ?_; refine EX_nil ?_)
              refine hRw1 _ _ _ ?_ ⟨parts ++ [c'.drop co'], pre' ++ c', c4, 0, b4, p4, rfl, by exact k1, by exact k2, by exact k3, by exact k4, mR4, by (clear hok hb hno4 hfl4 kpM mR4 q2 q1 kp4 S4 S2 hEr hca' hS kp S' mR k4 k3 k2 k1 k0 hfl2 hno2 hend hcl2 hQR e4 e3 e2 hcl hRX hRS hRw1 hpc hpl hno hfl l4 l2 l1 hR1 keepR hRE hR hlen hQ hE hs hbk S hca; lia), by rw [hlp, Nat.add_zero]; exact hfl4, S4, by rw [hlp, Nat.add_zero]; exact hno4, ?_, fun _ => List.length_pos_iff.mpr (q1 hok), kpM⟩
              · rw [hlp, if_neg (by simp)]
                by_cases hp0 : parts = []
                · rw [if_pos hp0]; (clear hp0 hok hb hno4 hfl4 kpM mR4 q2 q1 kp4 S4 S2 hEr hca' hS kp S' mR k4 k3 k2 k1 k0 hfl2 hno2 hend hcl2 hQR e4 e3 e2 hRX hRS hRw1 hpc hpl hno hfl hle l4 l2 l1 hR1 keepR hRE hR hlen hQ hE hs hbk S hca; lia)
                · rw [if_neg hp0]; have := hpc hp0; (clear hp0 hok hb hno4 hfl4 kpM mR4 q2 q1 kp4 S4 S2 hEr hca' hS kp S' mR k4 k3 k2 k1 k0 hfl2 hno2 hend hcl2 hQR e4 e3 e2 e1 hRX hRS hRw1 hpc hpl hno hfl hle l4 l2 l1 hR1 keepR hRE hR hlen hQ hE hs hbk S hca; lia)
              · rw [hlp, List.length_append, List.length_singleton]
                by_cases hp0 : parts = []
                · rw [hp0]; simp
                · have := hpc hp0; (clear hp0 hok hb hno4 hfl4 kpM mR4 q2 q1 kp4 S4 S2 hEr hca' hS kp S' mR k4 k3 k2 k1 k0 hfl2 hno2 hend hcl2 hQR e4 e3 e2 e1 hcl hRX hRS hRw1 hpc hno hfl hle l4 l2 l1 hR1 keepR hRE hR hlen hQ hE hs hbk S hca; lia)
    · (intro l m hq0; refine obEEAAAAAAAA hq0 ?_; clear hq0; intro parts j l1 l4 mR hle hfl hat hno hend kp)
      have hj := hat.le
      have hup := upTo_eq hle hj hno hend
      have hul : (upTo g ts (pre.length + co)).length = j - (pre.length + co) := by rw [hup]; simp; (lia)
      (refine EX_cons ?_; refine E1_AssignName ?_ rfl; refine EV_mcall ?_; refine EV_str (l := []) (by kernel_rfl) ?_; (with_reducible refine GM_join ?_); refine CW_go1 (KeepOk.bf _) ?_; refine AR_cons ?_; refine EV_local hE (by kernel_rfl) l4 ?_; refine AR_nil ?_)
      refine CA_join (.lst mR) (joinOk_nil _ ?_) ?_
      · rw [hfl]; simp; (omega)
      · rw [inter_nil, hfl, ← hup]
        (refine STn hE (by kernel_rfl) ?_; refine EX_cons ?_; refine E1_Return ?_; refine EV_local hE (by kernel_rfl) sH ?_; refine seq_ret ?_)
        refine hQ _ _ _ ⟨rfl, kp, ?_⟩
        rw [hul]
        have : pre.length + co + (j - (pre.length + co)) = j := by (clear hul hup hj kp hend hno hat hfl mR l4 l1 keepR hRE hR hlen hQ hE hs hbk S hca; omega)
        rw [this]; exact hat
end
end Mine
end
section
open PySem PySem.W PyProof.Rows
set_option maxRecDepth 100000
set_option maxHeartbeats 4000000
set_option linter.unusedVariables false
namespace Mine
section
variable {Z : Cz} {P : Params}

noncomputable def ttL : List (Str × Value) := [("Doctype", .int 0 0), ("Characters", .int 1 0), ("SpaceCharacters", .int 2 0), ("StartTag", .int 3 0), ("EndTag", .int 4 0), ("EmptyTag", .int 5 0), ("Comment", .int 6 0), ("ParseError", .int 7 0)]
noncomputable def keyS (v : Value) : Str := match v with | .str x _ => x | _ => Str.empty
theorem pairs_of : ∀ (es : List DictEntry), (∀ e ∈ es, ∃ x t, e.key = .str x t ∧ e.hash = hashStr Z.cx.w x) → Pairs (PySem.strKind Z.cx.prog Z.cx.w) es (es.map fun e => (keyS e.key, e.val))
  | [], _ => .nil
  | e :: r, h => by
    (refine obEEA (h e (List.mem_cons_self ..)) ?_; intro x t h1 _)
    refine .cons ?_ rfl (pairs_of r fun e he => h e (List.mem_cons_of_mem _ he))
    show (PySem.strKind Z.cx.prog Z.cx.w).is (keyS e.key) e.key = true
    rw [h1]
    exact strKind_is Z.cx.prog Z.cx.w x t
theorem top_dct {a : Addr} {es : Array DictEntry} {ep : Nat} {l : List (Str × Value)} (h : Z.cx.K.lookup a = some { cls := .type "dict", data := .dict es ep }) (ha : 3 < a) (hk : ∀ e ∈ es.toList, ∃ x t, e.key = .str x t ∧ e.hash = hashStr Z.cx.w x)
    (e : es.toList.map (fun e => (keyS e.key, er e.val)) = l) (nd : (l.map (·.1)).Nodup) : ReadO Z.cx Z.cx.T a (.dct l) := by
  refine ⟨es.toList.map fun e => (keyS e.key, e.val), ⟨_, es, ep, Z.cx.X _ _ h, ⟨rfl, rfl, rfl⟩, rfl, fun x hx => ?_, pairs_of _ hk, ?_⟩, ha, ?_⟩
  · (refine obEEA (hk x (by simpa using hx)) ?_; intro y t h1 h2)
    exact ⟨y, by rw [h1]; exact strKind_is Z.cx.prog Z.cx.w y t, h2⟩
  · rw [List.map_map]
    rw [← e, List.map_map] at nd
    exact nd
  · rw [List.map_map, ← e]; rfl
theorem top_types (hP : P = Z.cx.w.params) : ReadO Z.cx Z.cx.T 48 (.dct ttL) := by
  subst hP
  refine top_dct (by rfl) (by decide) ?_ (by kernel_rfl) (by decide +kernel)
  intro e he
  simp only [List.mem_cons, List.not_mem_nil, or_false] at he
  rcases he with rfl | rfl | rfl | rfl | rfl | rfl | rfl | rfl <;> exact ⟨_, _, rfl, rfl⟩
end
end Mine
end
section
open PySem PySem.W PyProof.Rows
set_option maxRecDepth 100000
set_option maxHeartbeats 4000000
set_option linter.unusedVariables false
namespace Mine
inductive TK where
  | err (s : List Nat)
  | chars (s : List Nat)
  | tag (ty : Int) (nm : List Nat)
inductive All2 {α β : Type} (R : α → β → Prop) : List α → List β → Prop
  | nil : All2 R [] []
  | cons {a b r s} : R a b → All2 R r s → All2 R (a :: r) (b :: s)
noncomputable def KT (g : G) (T q : Addr) (M m : Mem) : Prop := ∀ a o, a ≠ g.S → a ≠ g.X → a ≠ g.E → a ≠ T → a ≠ q → M a = some o → m a = some o
section
variable {M m : Mem} {g : G} {T q lf : Addr} {k bk k' bk' : Nat} {kept kept' : List Nat} {now now' : Option (Int × List Nat)} {sv sv' : Value} {toks : List TK} {ct ct' : Value} {vs : List Value}
theorem All2.mono {α β : Type} {R R' : α → β → Prop} (k : ∀ a b, R a b → R' a b) : ∀ {l : List α} {s : List β}, All2 R l s → All2 R' l s
  | _, _, .nil => .nil
  | _, _, .cons h r => .cons (k _ _ h) (r.mono k)
theorem All2.snoc {α β : Type} {R : α → β → Prop} {a : α} {b : β} (h : R a b) : ∀ {l : List α} {s : List β}, All2 R l s → All2 R (l ++ [a]) (s ++ [b])
  | _, _, .nil => .cons h .nil
  | _, _, .cons x r => .cons x (r.snoc h)
theorem SAt.off (h : SAt M g k bk) (k1 : m g.S = M g.S) (k2 : m g.X = M g.X) (k3 : m g.E = M g.E) (k4 : m g.Q = M g.Q) : SAt m g k bk := by
  obtain ⟨pre, c, co, b, p, S, e, hb⟩ := h
  obtain ⟨es, hE, hl⟩ := S.hE
  exact ⟨pre, c, co, b, p, ⟨k1.trans S.hS, k2.trans S.hX, ⟨es, k3.trans hE, hl⟩, k4.trans S.hQ, S.hW, S.hco, S.hb, S.hp, S.len, S.small⟩, e, hb⟩
end
end Mine
end
section
open PySem PySem.W PyProof.Rows
set_option maxRecDepth 100000
set_option maxHeartbeats 4000000
set_option linter.unusedVariables false
namespace Mine
section
variable {M m : Mem} {g : G} {T q lf : Addr} {k bk : Nat} {kept : List Nat} {now : Option (Int × List Nat)} {sv : Value} {ct : Value} {vs : List Value}
end
end Mine
end
local macro_rules | `(tactic| ktr_rel) => `(tactic| first
  | with_reducible assumption
  | (apply Mine.TAt.app1 <;> first | with_reducible assumption | exact .inl ⟨rfl, rfl⟩ | exact .inr ⟨rfl, rfl⟩ | ktr_rel)
  | (apply Mine.TAt.app0 <;> first | with_reducible assumption | exact .inl ⟨rfl, rfl⟩ | exact .inr ⟨rfl, rfl⟩ | ktr_rel)
  | (apply Mine.TAt.set1; ktr_rel))
local macro_rules | `(tactic| ktr_room) => `(tactic| first
  | with_reducible assumption
  | (with_reducible refine Mine.KT.tok ?_; ktr_room)
  | (with_reducible refine Mine.KT.que ?_; ktr_room)
  | (with_reducible refine Mine.KT.new ?_ (by with_reducible assumption); ktr_room))
section
open PySem PySem.W PyProof.Rows
set_option maxRecDepth 100000
set_option maxHeartbeats 4000000
set_option linter.unusedVariables false
namespace Mine
theorem setM_3 (M : Mem) (S D : Addr) (x o1 o2 : AO) : setM (setM (setM M S o1) D x) S o2 = setM (setM M D x) S o2 := by
  funext b; unfold setM; split <;> rfl
section
variable {Z : Cz} {P : Params}
theorem c_textInit {n : Nat} {M : Mem} {x : Addr} {txt : List Nat} (hM : M x = some (.inst 73 0 (tblF []))) :
    CL Z.cx (n + 1) (.ref 63) [.ref x, .str (mkS txt) 0] (fun v m => v = .none ∧ m = setM M x (.inst 73 2 (tblF [("text", .str (mkS txt) 0), ("place", .int 0 0)]))) M := by
  refine CL_fn (binds := [("self", .ref x), ("text", .str (mkS txt) 0)]) (by rfl) (by kernel_rfl) ?_ (by kernel_rfl) ?_
  · intro vs e
    obtain ⟨v1, v2, rfl, e1, e2⟩ := vs2 e
    exact ⟨[("self", v1), ("text", v2)], fun s hx => kp_binds hx (fun S => rfl), by simp [e1, e2]⟩
  · intro fz L env hE he; subst he
    rw [bindL2]
    (refine EX_cons ?_; refine E1_AssignAttr ?_ rfl; refine EV_local hE (by kernel_rfl) sH ?_; refine EV_local hE (by kernel_rfl) (sS sH) ?_; refine SA_tbl hM (sok (by kernel_rfl)) (.inr rfl) (by decide) pN ?_; refine seq_next ?_; refine EX_cons ?_; refine E1_AssignAttr ?_ rfl; refine EV_int ?_; refine EV_local hE (by kernel_rfl) (sS sH) ?_; refine SA_tbl2 (sok (by kernel_rfl)) (.inr rfl) (by decide) (pS pN) ?_; refine seq_next ?_; refine EX_nil ?_)
    exact ⟨rfl, rfl⟩
theorem c_text {n : Nat} {M : Mem} {txt : List Nat} :
    CL Z.cx (n + 2) (.ref 73) [.str (mkS txt) 0] (fun v m => ∃ x, M x = none ∧ v = .ref x ∧ m = setM M x (.inst 73 2 (tblF [("text", .str (mkS txt) 0), ("place", .int 0 0)]))) M := by
  refine CL_make (fI := 63) (by kernel_rfl) (by kernel_rfl) (by kernel_rfl) fun x hx => ?_
  rw [none_tbl]
  refine (c_textInit (setM_same _ _ _)).mono ?_
  refine el2 ?_
  exact ⟨rfl, x, hx, rfl, by rw [setM_setM]⟩
noncomputable def stN (S X E Q N : Addr) : List (Str × Value) :=
  [("reportCharacterErrors", .ref Q), ("newLines", .ref N), ("dataStream", .ref X), ("chunk", .str (mkS []) 0), ("chunkSize", .int 0 0), ("chunkOffset", .int 0 0), ("errors", .ref E),
   ("prevNumLines", .int 0 0), ("prevNumCols", .int 0 0), ("_bufferedCharacter", .none)]
theorem c_reset {n : Nat} {M : Mem} {S XX Q N : Addr} (hM : M S = some (.inst 166 3 (tblF [("reportCharacterErrors", .ref Q), ("newLines", .ref N), ("dataStream", .ref XX)]))) :
    CL Z.cx (n + 1) (.ref 105) [.ref S] (fun v m => v = .none ∧ ∃ E, M E = none ∧ m = setM (setM M E (.lst [])) S (.inst 166 10 (tblF (stN S XX E Q N)))) M := by
  refine CL_fn (binds := [("self", .ref S)]) (by rfl) (by kernel_rfl) ?_ (by kernel_rfl) ?_
  · intro vs e
    obtain ⟨v1, rfl, e1⟩ := vs1 e
    exact ⟨[("self", v1)], fun s hx => kp_binds hx (fun S => rfl), by simp [e1]⟩
  · intro fz L env hE he; subst he
    rw [bindL1]
    (refine EX_cons ?_; refine E1_AssignAttr ?_ rfl; refine EV_str (l := []) (by kernel_rfl) ?_; refine EV_local hE (by kernel_rfl) sH ?_; refine SA_tbl hM (sok (by kernel_rfl)) (.inr rfl) (by decide) (pS (pS (pS pN))) ?_; refine seq_next ?_; refine EX_cons ?_; refine E1_AssignAttr ?_ rfl; refine EV_int ?_; refine EV_local hE (by kernel_rfl) sH ?_; refine SA_tbl2 (sok (by kernel_rfl)) (.inr rfl) (by decide) (pS (pS (pS (pS pN)))) ?_; refine seq_next ?_; refine EX_cons ?_; refine E1_AssignAttr ?_ rfl; refine EV_int ?_; refine EV_local hE (by kernel_rfl) sH ?_; refine SA_tbl2 (sok (by kernel_rfl)) (.inr rfl) (by decide) (pS (pS (pS (pS (pS pN))))) ?_; refine seq_next ?_; refine EX_cons ?_; refine E1_AssignAttr ?_ rfl; refine EV_list ?_; refine AR_nil ?_)
    refine ⟨by simp, fun D hD => ?_⟩
    have hDS := (setM_none hD).2
    (refine EV_local hE (by kernel_rfl) sH ?_; refine SA_tbl (setM_old hD (setM_same _ _ _)) (sok (by kernel_rfl)) (.inr rfl) (by decide) (pS (pS (pS (pS (pS (pS pN)))))) ?_; refine seq_next ?_; refine EX_cons ?_; refine E1_AssignAttr ?_ rfl; refine EV_int ?_; refine EV_local hE (by kernel_rfl) sH ?_; refine SA_tbl2 (sok (by kernel_rfl)) (.inr rfl) (by decide) (pS (pS (pS (pS (pS (pS (pS pN))))))) ?_; refine seq_next ?_; refine EX_cons ?_; refine E1_AssignAttr ?_ rfl; refine EV_int ?_; refine EV_local hE (by kernel_rfl) sH ?_; refine SA_tbl2 (sok (by kernel_rfl)) (.inr rfl) (by decide) (pS (pS (pS (pS (pS (pS (pS (pS pN)))))))) ?_; refine seq_next ?_; refine EX_cons ?_; refine E1_AssignAttr ?_ rfl; refine EV_none ?_; refine EV_local hE (by kernel_rfl) sH ?_; refine SA_tbl2 (sok (by kernel_rfl)) (.inr rfl) (by decide) (pS (pS (pS (pS (pS (pS (pS (pS (pS pN))))))))) ?_; refine seq_next ?_; refine EX_nil ?_)
    exact ⟨rfl, D, (setM_none hD).1, setM_3 _ _ _ _ _ _⟩
theorem c_open {n : Nat} {M : Mem} {S : Addr} {txt : List Nat} :
    CL Z.cx (n + 3) (.ref 112) [.ref S, .str (mkS txt) 0] (fun v m => ∃ x, M x = none ∧ v = .ref x ∧ m = setM M x (.inst 73 2 (tblF [("text", .str (mkS txt) 0), ("place", .int 0 0)]))) M := by
  refine CL_fn (binds := [("self", .ref S), ("source", .str (mkS txt) 0)]) (by rfl) (by kernel_rfl) ?_ (by kernel_rfl) ?_
  · intro vs e
    obtain ⟨v1, v2, rfl, e1, e2⟩ := vs2 e
    exact ⟨[("self", v1), ("source", v2)], fun s hx => kp_binds hx (fun S => rfl), by simp [e1, e2]⟩
  · intro fz L env hE he; subst he
    rw [bindL2]
    (refine EX_cons ?_; refine E1_AssignName ?_ rfl; refine EV_ncall ?_; refine EV_gref (a := 73) hE (by kernel_rfl) (by kernel_rfl) ?_; refine CW_go0 (KeepOk.rf (by kernel_rfl)) ?_; refine AR_cons ?_; refine EV_local hE (by kernel_rfl) sH ?_; refine AR_nil ?_)
    refine CA_CL (k := n + 2) ((c_text (n := n)).mono ?_) (by (exact Nat.le_refl _))
    (intro v m hq0; refine obEAA hq0 ?_; clear hq0; intro x hx hz2 hz3; subst hz2; subst hz3)
    (refine STn hE (by kernel_rfl) ?_; refine EX_cons ?_; refine E1_Return ?_; refine EV_local hE (by kernel_rfl) sH ?_; refine seq_ret ?_)
    exact ⟨x, hx, rfl, rfl⟩
theorem c_streamInit {n : Nat} {M : Mem} {S : Addr} {txt : List Nat} (hM : M S = some (.inst 166 0 (tblF []))) :
    CL Z.cx (n + 4) (.ref 98) [.ref S, .str (mkS txt) 0] (fun v m => v = .none ∧ ∃ XX E Q N, M XX = none ∧ M E = none ∧ M Q = none ∧ M N = none ∧ XX ≠ E ∧ XX ≠ Q ∧ XX ≠ N ∧ E ≠ Q ∧ E ≠ N ∧ Q ≠ N ∧
      m S = some (.inst 166 10 (tblF (stN S XX E Q N))) ∧ m XX = some (.inst 73 2 (tblF [("text", .str (mkS txt) 0), ("place", .int 0 0)])) ∧ m E = some (.lst []) ∧ m Q = some (.obj (methodObj (.ref 148) (.ref S))) ∧ ∀ a o, a ≠ S → M a = some o → m a = some o) M := by
  refine CL_fn (binds := [("self", .ref S), ("source", .str (mkS txt) 0)]) (by rfl) (by kernel_rfl) ?_ (by kernel_rfl) ?_
  · intro vs e
    obtain ⟨v1, v2, rfl, e1, e2⟩ := vs2 e
    exact ⟨[("self", v1), ("source", v2)], fun s hx => kp_binds hx (fun S => rfl), by simp [e1, e2]⟩
  · intro fz L env hE he; subst he
    rw [bindL2]
    refine EX_cons ?_
    refine E1_AssignAttr ?_ rfl
    refine EV_attr ?_
    refine EV_local hE (by kernel_rfl) (sS sH) ?_
    refine GA_boundO (by exact hM) (by exact tN) (by exact (show MethOk _ _ _ 148 from (mok (by kernel_rfl)))) fun Q hQ => ?_
    have nQ : S ≠ Q := fun z => by rw [← z, hM] at hQ; cases hQ
    have hM1 := setM_old hQ hM (o := .obj (methodObj (.ref 148) (.ref S)))
    (refine EV_local hE (by kernel_rfl) (sS sH) ?_; refine SA_tbl hM1 (sok (by kernel_rfl)) (.inr rfl) (by decide) pN ?_; refine seq_next ?_; refine EX_cons ?_; refine E1_AssignAttr ?_ rfl; refine EV_list ?_; refine AR_cons ?_; refine EV_int ?_; refine AR_nil ?_)
    refine ⟨by simp, fun N hN => ?_⟩
    have nN := (setM_none hN).2
    (refine EV_local hE (by kernel_rfl) (sS sH) ?_; refine SA_tbl (setM_old hN (setM_same _ _ _)) (sok (by kernel_rfl)) (.inr rfl) (by decide) (pS pN) ?_; refine seq_next ?_; refine EX_cons ?_; refine E1_AssignAttr ?_ rfl; refine EV_mcall ?_; refine EV_local hE (by kernel_rfl) (sS sH) ?_; refine GM_meth (g := 112) (setM_same _ _ _) (tS (tS tN)) (mok (by kernel_rfl)) ?_; refine CW_go1 (KeepOk.rf (by kernel_rfl)) ?_; refine AR_cons ?_; refine EV_local hE (by kernel_rfl) sH ?_; refine AR_nil ?_)
    refine CA_CL (k := n + 3) ((c_open (n := n)).mono ?_) (by (exact Nat.le_refl _))
    (intro v m hq0; refine obEAA hq0 ?_; clear hq0; intro XX hX hz2 hz3; subst hz2; subst hz3)
    have nX := (setM_none hX).2
    have hX1 := (setM_none (setM_none hX).1).2
    have nXN : XX ≠ N := hX1
    (refine EV_local hE (by kernel_rfl) (sS sH) ?_; refine SA_tbl (setM_old hX (setM_same _ _ _)) (sok (by kernel_rfl)) (.inr rfl) (by decide) (pS (pS pN)) ?_; refine seq_next ?_; refine EX_cons ?_; refine E1_Expr ?_ (by rfl) (by rfl); refine EV_mcall ?_; refine EV_local hE (by kernel_rfl) (sS sH) ?_; refine GM_meth (g := 105) (setM_same _ _ _) (tS (tS (tS tN))) (mok (by kernel_rfl)) ?_; refine CW_go1 (KeepOk.rf (by kernel_rfl)) ?_; refine AR_nil ?_)
    refine CA_CL (k := n + 3) (((c_reset (n := n + 2) (setM_same _ _ _)).mono ?_)) (by (exact Nat.le_refl _))
    (intro v m hq0; refine obAEA hq0 ?_; clear hq0; intro hz0 E hE' hz3; subst hz0; subst hz3)
    (refine seq_next ?_; refine EX_nil ?_)
    have a1 := setM_none hE'
    have a2 := setM_none a1.1
    have a3 := setM_none a2.1
    have a4 := setM_none a3.1
    have a5 := setM_none a4.1
    have a6 := setM_none a5.1
    have b2 := setM_none (setM_none hX).1
    have b3 := setM_none b2.1
    have b4 := setM_none b3.1
    have c2 := setM_none hN
    have c3 := setM_none c2.1
    have nEX : XX ≠ E := a2.2.symm
    have nES : E ≠ S := a1.2
    have nEN : E ≠ N := a4.2
    have nEQ : E ≠ Q := a6.2
    have nXQ : XX ≠ Q := b4.2
    have nNQ : Q ≠ N := c3.2.symm
    refine ⟨rfl, XX, E, Q, N, b4.1, a6.1, hQ, c3.1, nEX, nXQ, nXN, nEQ, nEN, nNQ, by exact (setM_same _ _ _), by exact ((setM_ne _ _ nX).trans (setM_old hE' ((setM_ne _ _ nX).trans (setM_same _ _ _)))), by exact ((setM_ne _ _ nES).trans (setM_same _ _ _)), by exact ((setM_ne _ _ (Ne.symm nQ)).trans (setM_old hE' ((setM_ne _ _ (Ne.symm nQ)).trans (setM_old hX ((setM_ne _ _ (Ne.symm nQ)).trans (setM_old hN ((setM_ne _ _ (Ne.symm nQ)).trans (setM_same _ _ _)))))))), fun a o i e => ?_⟩
    have d1 : a ≠ Q := fun z => by rw [z, hQ] at e; cases e
    have d2 : a ≠ N := fun z => by rw [z, c3.1] at e; cases e
    have d3 : a ≠ XX := fun z => by rw [z, b4.1] at e; cases e
    have d4 : a ≠ E := fun z => by rw [z, a6.1] at e; cases e
    simp only [setM_ne, ne_eq, i, d1, d2, d3, d4, not_false_eq_true]
    exact e
end
end Mine
end
section
open PySem PySem.W PyProof.Rows
set_option maxRecDepth 100000
set_option maxHeartbeats 4000000
set_option linter.unusedVariables false
namespace Mine
noncomputable def tk0 (S lf : Addr) (sv : Value) : List (Str × Value) :=
  [("stream", .ref S), ("parser", .none), ("escapeFlag", .bool false), ("lastFourChars", .ref lf), ("state", sv), ("escape", .bool false), ("currentToken", .none)]
section
variable {Z : Cz} {P : Params}
theorem c_stream {n : Nat} {M : Mem} {txt : List Nat} (hl : txt.length ≤ 100000) (hs : ∀ x ∈ txt, x < 55296) :
    CL Z.cx (n + 5) (.ref 166) [.str (mkS txt) 0] (fun v m => ∃ g : G, v = .ref g.S ∧ g.txt = txt ∧ St m g [] [] 0 [] 0 ∧ (∀ a o, M a = some o → m a = some o) ∧ M g.S = none ∧ M g.X = none ∧ M g.E = none ∧ M g.Q = none) M := by
  refine CL_make (fI := 98) (by kernel_rfl) (by kernel_rfl) (by kernel_rfl) fun x hx => ?_
  rw [none_tbl]
  refine (c_streamInit (n := n) (setM_same _ _ _)).mono ?_
  (intro v m hq0; refine obAEEEEAAAAAAAAAAAAAA hq0 ?_; clear hq0; intro hz0 XX E Q N h1 h2 h3 h4 _ _ _ _ _ _ h5 h6 h7 h8 kp; subst hz0)
  refine ⟨rfl, ⟨x, XX, E, Q, N, txt⟩, rfl, rfl, ⟨h5, h6, ⟨[], h7, by simp⟩, h8, by simp, by simp, .inl rfl, by simp, hl, hs⟩, fun a o e => kp a o (fun z => by rw [z, hx] at e; cases e) (setM_old hx e), hx, (setM_none h1).1, (setM_none h2).1, (setM_none h3).1⟩
theorem c_tokInit {n : Nat} {M : Mem} {T : Addr} {txt : List Nat} (hM : M T = some (.inst 762 0 (tblF []))) (hl : txt.length ≤ 100000) (hs : ∀ x ∈ txt, x < 55296) :
    CL Z.cx (n + 6) (.ref 261) [.ref T, .str (mkS txt) 0] (fun v m => v = .none ∧ ∃ (g : G) (lf zz : Addr), g.txt = txt ∧ m T = some (.inst 762 7 (tblF (tk0 g.S lf (.ref zz)))) ∧ St m g [] [] 0 [] 0 ∧ (∀ a o, a ≠ T → M a = some o → m a = some o) ∧ M g.S = none ∧ M g.X = none ∧ M g.E = none ∧ M g.Q = none) M := by
  refine CL_fn (binds := [("self", .ref T), ("stream", .str (mkS txt) 0), ("parser", .none)]) (by rfl) (by kernel_rfl) ?_ (by kernel_rfl) ?_
  · intro vs e
    obtain ⟨v1, v2, rfl, e1, e2⟩ := vs2 e
    exact ⟨[("self", v1), ("stream", v2), ("parser", .none)], fun s hx => kp_binds hx (fun S => rfl), by simp [e1, e2]⟩
  · intro fz L env hE he; subst he
    rw [bindL3]
    (refine EX_cons ?_; refine E1_AssignAttr ?_ rfl; refine EV_ncall ?_; refine EV_gref (a := 166) hE (by kernel_rfl) (by kernel_rfl) ?_; refine CW_go0 (KeepOk.rf (by kernel_rfl)) ?_; refine AR_cons ?_; refine EV_local hE (by kernel_rfl) (sS sH) ?_; refine AR_nil ?_)
    refine CA_CL (k := n + 5) ((c_stream (n := n) hl hs).mono ?_) (by (exact Nat.le_refl _))
    (intro v m hq0; refine obEAAAAAAA hq0 ?_; clear hq0; intro g hz1 hg S kp n1 n2 n3 n4; subst hz1)
    have hT := kp _ _ hM
    have hS := S.hS
    unfold stT at hS
    (refine EV_local hE (by kernel_rfl) (sS (sS sH)) ?_; refine SA_tbl hT (sok (by kernel_rfl)) (.inr rfl) (by decide) pN ?_; refine seq_next ?_; refine EX_cons ?_; refine E1_AssignAttr ?_ rfl; refine EV_local hE (by kernel_rfl) sH ?_; refine EV_local hE (by kernel_rfl) (sS (sS sH)) ?_; refine SA_tbl2 (sok (by kernel_rfl)) (.inr rfl) (by decide) (pS pN) ?_; refine seq_next ?_; refine EX_cons ?_; refine E1_AssignAttr ?_ rfl; refine EV_bool ?_; refine EV_local hE (by kernel_rfl) (sS (sS sH)) ?_; refine SA_tbl2 (sok (by kernel_rfl)) (.inr rfl) (by decide) (pS (pS pN)) ?_; refine seq_next ?_; refine EX_cons ?_; refine E1_AssignAttr ?_ rfl; refine EV_list ?_; refine AR_nil ?_)
    refine ⟨by simp, fun D hD => ?_⟩
    (refine EV_local hE (by kernel_rfl) (sS (sS sH)) ?_; refine SA_tbl (setM_old hD (setM_same _ _ _)) (sok (by kernel_rfl)) (.inr rfl) (by decide) (pS (pS (pS pN))) ?_; refine seq_next ?_; refine EX_cons ?_; refine E1_AssignAttr ?_ rfl; refine EV_attr ?_; refine EV_local hE (by kernel_rfl) (sS (sS sH)) ?_; refine GA_bound (g := 304) (setM_same _ _ _) (tS (tS (tS (tS tN)))) (mok (by kernel_rfl)) ?_; intro zz; refine EV_local hE (by kernel_rfl) (sS (sS sH)) ?_; refine SA_tbl2 (sok (by kernel_rfl)) (.inr rfl) (by decide) (pS (pS (pS (pS pN)))) ?_; refine seq_next ?_; refine EX_cons ?_; refine E1_AssignAttr ?_ rfl; refine EV_bool ?_; refine EV_local hE (by kernel_rfl) (sS (sS sH)) ?_; refine SA_tbl2 (sok (by kernel_rfl)) (.inr rfl) (by decide) (pS (pS (pS (pS (pS pN))))) ?_; refine seq_next ?_; refine EX_cons ?_; refine E1_AssignAttr ?_ rfl; refine EV_none ?_; refine EV_local hE (by kernel_rfl) (sS (sS sH)) ?_; refine SA_tbl2 (sok (by kernel_rfl)) (.inr rfl) (by decide) (pS (pS (pS (pS (pS (pS pN)))))) ?_; refine seq_next ?_; refine EX_nil ?_)
    have hD1 := setM_none hD
    rw [setM_3]
    have t1 : T ≠ g.S := fun z => by rw [z, n1] at hM; cases hM
    have t2 : T ≠ g.X := fun z => by rw [z, n2] at hM; cases hM
    have t3 : T ≠ g.E := fun z => by rw [z, n3] at hM; cases hM
    have t4 : T ≠ g.Q := fun z => by rw [z, n4] at hM; cases hM
    exact ⟨rfl, g, D, zz, hg, setM_same _ _ _, (S.keep (fun a o e => setM_old hD1.1 e)).off t1 t2 t3 t4, fun a o i e => (setM_ne _ _ i).trans (setM_old hD1.1 (kp _ _ e)), n1, n2, n3, n4⟩
theorem c_tok {n : Nat} {M : Mem} {txt : List Nat} (hl : txt.length ≤ 100000) (hs : ∀ x ∈ txt, x < 55296) :
    CL Z.cx (n + 7) (.ref 762) [.str (mkS txt) 0] (fun v m => ∃ (T : Addr) (g : G) (lf zz : Addr), v = .ref T ∧ g.txt = txt ∧ m T = some (.inst 762 7 (tblF (tk0 g.S lf (.ref zz)))) ∧ St m g [] [] 0 [] 0 ∧ (∀ a o, M a = some o → m a = some o) ∧ M T = none ∧ M g.S = none ∧ M g.X = none ∧ M g.E = none ∧ M g.Q = none) M := by
  refine CL_make (fI := 261) (by kernel_rfl) (by kernel_rfl) (by kernel_rfl) fun x hx => ?_
  rw [none_tbl]
  refine (c_tokInit (n := n) (setM_same _ _ _) hl hs).mono ?_
  (intro v m hq0; refine obAEEEAAAAAAA hq0 ?_; clear hq0; intro hz0 g lf zz hg h1 S kp n1 n2 n3 n4; subst hz0)
  exact ⟨rfl, x, g, lf, zz, rfl, hg, h1, S, fun a o e => kp a o (fun z => by rw [z, hx] at e; cases e) (setM_old hx e), hx, (setM_none n1).1, (setM_none n2).1, (setM_none n3).1, (setM_none n4).1⟩
end
end Mine
end
section
set_option linter.unusedVariables false
set_option maxRecDepth 100000
section
namespace Mine
open PySem PySem.W PySem.Calls PyProof.Rows
variable {X : Cx} {n : Nat} {fz : Frz} {L : Addr} {loc : Loc} {M : Mem} {own : Addr → Option Addr} {h h' : Heap} {a : Addr} {o : AO}
end Mine
end
section
namespace Mine
open PySem PySem.W PySem.Calls PyProof.Rows
variable {X : Cx} {n : Nat} {fz : Frz} {L : Addr} {loc : Loc} {M : Mem} {own : Addr → Option Addr} {h h' : Heap} {a : Addr} {o : AO}
end Mine
end
section
namespace Mine
open PySem PySem.W PySem.Calls PyProof.Rows
variable {X : Cx} {n : Nat} {fz : Frz} {L : Addr} {loc : Loc} {M : Mem} {env : Env}
end Mine
end
section
namespace Mine
open PySem PySem.W PySem.Calls PyProof.Rows
variable {X : Cx} {n : Nat} {fz : Frz} {L : Addr} {loc : Loc} {M : Mem} {env : Env} {a b : Addr}
theorem Itr_list {I : Addr} {xs : List Value} {x : Str} {p : Pos} : Itr X n I [I] (.Name x p) (fun env => env.kindOf x = some .local) (fun i l => setL l x (xs.getD i .none)) xs.length (fun i h => h.IsListIter I a i) (fun m => RdM X m a (.lst xs)) where
  live := fun i h st b hb => by rw [List.mem_singleton.mp hb]; obtain ⟨o, ho, _⟩ := st; exact ⟨o, ho⟩
  only := fun i h h' st k => st.at fun o ho => k I (by simp) o ho
  item := fun i A s env L fz loc M r ht hL hk off F g st hi => by
    obtain ⟨us, h1, h2⟩ := g.get F
    obtain ⟨v, g1, g2⟩ := map_get h2 (List.getElem?_eq_getElem hi)
    refine wpAny_pyNext_list_item st h1 g1 fun h' st' hs => ⟨v, rfl, ?_⟩
    have F₁ := F.mv off (h' := h') (fun b o hb ho => (hs.2 b (fun e => hb (by simp [e]))).trans ho) (fun b hb => by rw [List.mem_singleton.mp hb]; obtain ⟨o, ho, _⟩ := st; exact ⟨o, ho⟩)
    refine wpAny_of_eq (rfl : letOwnedTupleGo (.Name x p) (.ref I) v = pure ()) ?_
    have w := asgName (A := A) (s := { s with heap := h' }) (x := x) (p := p) (v := v) F₁ (fun b hb => by rw [List.mem_singleton.mp hb]; obtain ⟨o, ho, _⟩ := st'; exact ⟨o, ho⟩) ht hL hk
    refine wpAny_mono w (fun _ s' q => ?_) (fun _ _ e => e)
    obtain ⟨F₂, k, l⟩ := q
    have : er v = xs.getD i .none := by rw [g2]; simp [List.getD, List.getElem?_eq_getElem hi]
    exact ⟨by show FV _ _ _ (setL loc x (xs.getD i .none)) _ _; rw [← this]; exact F₂, st'.at fun o ho => k I (by simp) o ho, (Like.heap s h').trans l⟩
  done := fun A s L fz loc M r off F g st => by
    obtain ⟨us, h1, h2⟩ := g.get F
    have hsz : us.size = xs.length := by rw [← h2, List.length_map, Array.length_toList]
    refine wpAny_pyNext_list_end r.handled st h1 (Array.getElem?_eq_none (by omega)) fun h' hs => ⟨rfl, ?_, Like.heap s h'⟩
    exact (F.mv off (h' := h') (fun b o hb ho => hs b o (fun e => hb (by simp [e])) ho) (fun b hb => by rw [List.mem_singleton.mp hb]; obtain ⟨o, ho, _⟩ := st; exact ⟨o, ho⟩)).thaw off
  self := fun i A s Q E st hq => wpAny_pyIter_listiter st hq
end Mine
end
section
namespace Mine
open PySem PySem.W PySem.Calls PyProof.Rows
variable {X : Cx} {n : Nat} {fz : Frz} {L : Addr} {loc : Loc} {M : Mem} {env : Env} {a b : Addr}
theorem IE_list {Q : QI} {iter : Expr} {x : Str} {p : Pos} (h : EV X n fz L env iter (fun v l m => ∃ a xs, v = .ref a ∧ RdM X m a (.lst xs) ∧ Q (fun env => env.kindOf x = some .local) xs.length (fun i l => setL l x (xs.getD i .none)) (fun m => RdM X m a (.lst xs)) l m) loc M) :
    IE X n fz L env iter (.Name x p) Q loc M := fun A s R r F o fin => by
  refine wpAny_mono (h A s r F o) (fun v s₁ hq => ?_) (fun _ _ e => e)
  obtain ⟨l₁, M₁, F₁, k₁, a, xs, e, hm, q⟩ := hq
  rw [er_ref e]
  obtain ⟨us, h1, h2⟩ := hm.get F₁
  refine wpAny_pyIter_list h1 ?_
  obtain ⟨F₂, off⟩ := F₁.setApart (ips := [s₁.heap.objs.size]) (Ext.push s₁.heap { cls := .type "list_iterator", data := .fields #[.ref a, .int 0 0] }) (fun b hb => by
    rw [List.mem_singleton.mp hb]
    cases z : s₁.heap.get? s₁.heap.objs.size with
    | none => rfl
    | some y => exact absurd (Heap.lt_size z) (Nat.lt_irrefl _))
  exact fin _ [s₁.heap.objs.size] _ _ _ _ _ l₁ M₁ _ (Itr_list (a := a) (xs := xs) (x := x) (p := p)) off F₂ ⟨_, Heap.get?_push_size _ rfl, rfl, rfl⟩ (k₁.trans (Like.heap s₁ _)) q
end Mine
end
section
namespace Mine
open PySem PySem.W PyProof.Rows
variable {M m : Mem} {g : G} {T q lf : Addr} {k bk k' bk' : Nat} {kept kept' : List Nat} {now now' : Option (Int × List Nat)} {sv sv' : Value} {toks : List TK} {ct ct' : Value} {vs : List Value}
theorem All2.len {α β : Type} {R : α → β → Prop} : ∀ {l : List α} {s : List β}, All2 R l s → l.length = s.length
  | _, _, .nil => rfl
  | _, _, .cons x r => by simp [r.len]
end Mine
end
section
namespace Mine
open PySem PySem.W PyProof.Rows

end Mine
end
section
namespace Mine
open PySem PySem.W PyProof.Rows

end Mine
end
section
namespace Mine
open PySem PySem.W PyProof.Rows

end Mine
end
section
namespace Mine
open PySem PySem.W PyProof.Rows

end Mine
end
section
namespace Mine
open PySem PySem.W PyProof.Rows

end Mine
end
section
namespace Mine
open PySem PySem.W PyProof.Rows

end Mine
end
end
section
set_option linter.unusedVariables false
set_option maxRecDepth 100000
set_option maxHeartbeats 4000000
namespace Mine
open PySem PySem.W PySem.Calls PyProof.Rows
noncomputable def bindT : List (Str × Pos) → List Value → Loc → Loc
  | p :: ps, v :: vs, l => bindT ps vs (setL l p.1 v)
  | _, _, l => l
section
variable {X : Cx} {n : Nat} {fz : Frz} {L : Addr} {loc : Loc} {M : Mem} {env : Env} {a b : Addr}
theorem E1_gen {st : Stmt} {X : Cx} {n : Nat} {fz : Frz} {L : Addr} {env : Env} {Q : QF} {loc : Loc} {M : Mem} (h : ∀ Q' : QF, (∀ f l m, Q f l m → Q' f l m) → E1 X n fz L env st Q' loc M) : E1 X n fz L env st Q loc M := h Q fun _ _ _ h => h
theorem asgNames {ips : List Addr} {A : Around} (hL : env.locals = L) (hk : env.scope.kind = .function) (names : List (Str × Pos)) : ∀ (vv : List Value) (loc : Loc) (s : Shared), FV X (frzL fz ips s.heap) L loc M s.heap → (∀ b ∈ ips, ∃ o, s.heap.get? b = some o) →
    (∀ p ∈ names, env.kindOf p.1 = some .local) → vv.length = names.length →
    wpAny (model X.prog X.w) A (assignInOrder (names.map fun p => assign (.Name p.1 p.2) env) vv) (fun _ s' => FV X (frzL fz ips s'.heap) L (bindT names (vv.map er) loc) M s'.heap ∧ (∀ b ∈ ips, ∀ o, s.heap.get? b = some o → s'.heap.get? b = some o) ∧ Like s s') (fun _ _ => False) s := by
  induction names with
  | nil =>
    intro vv loc s F lv hx hl
    have : vv = [] := List.length_eq_zero_iff.mp hl
    subst this
    exact assignInOrder_nil ⟨F, fun _ _ _ e => e, Like.refl s⟩
  | cons p ps ih =>
    intro vv loc s F lv hx hl
    cases vv with
    | nil => cases hl
    | cons v vs =>
      refine assignInOrder_cons (wpAny_mono (asgName (A := A) (s := s) (x := p.1) (p := p.2) (v := v) F lv (hx p List.mem_cons_self) hL hk) (fun _ s₁ hq => ?_) (fun _ _ e => e))
      obtain ⟨F₁, k₁, l₁⟩ := hq
      refine wpAny_mono (ih vs _ s₁ F₁ (fun b hb => by obtain ⟨o, ho⟩ := lv b hb; exact ⟨o, k₁ b hb o ho⟩) (fun p hp => hx p (List.mem_cons_of_mem _ hp)) (by simpa using hl)) (fun _ s₂ hq => ?_) (fun _ _ e => e)
      obtain ⟨F₂, k₂, l₂⟩ := hq
      exact ⟨F₂, fun b hb o ho => k₂ b hb o (k₁ b hb o ho), l₁.trans l₂⟩
theorem Itr_tups {I : Addr} {xs : List Value} {names : List (Str × Pos)} {elts : List Expr} {ws : Nat → List Value} {kk : Nat} {tp : Pos} (he : elts = names.map fun p => .Name p.1 p.2) (hae : ∀ env, assignEach elts env = elts.map fun t => (false, assign t env)) :
    Itr X n I [I] (.Tuple elts kk tp) (fun env => ∀ p ∈ names, env.kindOf p.1 = some .local) (fun i l => bindT names (ws i) l) xs.length (fun i h => h.IsListIter I a i)
      (fun m => RdM X m a (.lst xs) ∧ ∀ (i : Nat) v, xs[i]? = some v → ∃ b, v = .ref b ∧ RdM X m b (.tup (ws i)) ∧ (ws i).length = names.length) where
  live := fun i h st b hb => by rw [List.mem_singleton.mp hb]; obtain ⟨o, ho, _⟩ := st; exact ⟨o, ho⟩
  only := fun i h h' st k => st.at fun o ho => k I (by simp) o ho
  item := fun i A s env L fz loc M r ht hL hk off F g st hi => by
    obtain ⟨us, h1, h2⟩ := g.1.get F
    obtain ⟨v, g1, g2⟩ := map_get h2 (List.getElem?_eq_getElem hi)
    obtain ⟨b, hb, hbt, hlen⟩ := g.2 i _ (List.getElem?_eq_getElem hi)
    rw [hb] at g2
    have g3 := er_ref g2
    subst g3
    have lv₀ : ∀ b ∈ [I], ∃ o, s.heap.get? b = some o := fun b hb => by rw [List.mem_singleton.mp hb]; obtain ⟨o, ho, _⟩ := st; exact ⟨o, ho⟩
    refine wpAny_pyNext_list_item st h1 g1 fun h' st' hs => ⟨.ref b, rfl, ?_⟩
    have F₁ := F.mv off (h' := h') (fun b o hb ho => (hs.2 b (fun e => hb (by simp [e]))).trans ho) lv₀
    refine wpAny_letOwnedTupleGo_listiter st' ?_
    obtain ⟨ts, ht1, ht2⟩ := hbt.get F₁
    have hsz : ts.size = (ws i).length := by rw [← ht2, List.length_map, Array.length_toList]
    have hne : names.length = elts.length := by rw [he, List.length_map]
    refine assign_Tuple_tuple r.handled ht1 (by rw [hae, List.length_map, hsz, hlen, hne]) (by rw [hae, List.findIdx?_map]; simp) fun h₃ he₃ => ?_
    have ext₃ : Ext h' h₃ := fun b o ho => he₃ b o (Nat.ne_of_lt (Heap.lt_size ho)) ho
    have lv' : ∀ b ∈ [I], ∃ o, h'.get? b = some o := fun b hb => by rw [List.mem_singleton.mp hb]; obtain ⟨o, ho, _⟩ := st'; exact ⟨o, ho⟩
    obtain ⟨F₃, k₃⟩ := (F₁.ext ext₃).stayL lv'
    have ee : (assignEach elts env).map (·.2) = names.map fun p => assign (.Name p.1 p.2) env := by rw [hae, he, List.map_map, List.map_map]; rfl
    rw [ee]
    refine wpAny_mono (asgNames (A := A) hL hk names ts.toList _ { s with heap := h₃ } F₃ (fun b hb => by obtain ⟨o, ho⟩ := lv' b hb; exact ⟨o, k₃ b hb o ho⟩) ht (by rw [Array.length_toList, hsz, hlen])) (fun _ s₄ hq => ?_) (fun _ _ e => e)
    obtain ⟨F₄, k₄, l₄⟩ := hq
    rw [ht2] at F₄
    exact ⟨F₄, st'.at fun o ho => k₄ I (by simp) o (k₃ I (by simp) o ho), (Like.heap s h₃).trans l₄⟩
  done := fun A s L fz loc M r off F g st => by
    obtain ⟨us, h1, h2⟩ := g.1.get F
    have hsz : us.size = xs.length := by rw [← h2, List.length_map, Array.length_toList]
    refine wpAny_pyNext_list_end r.handled st h1 (Array.getElem?_eq_none (by (first | lia | omega))) fun h' hs => ⟨rfl, ?_, Like.heap s h'⟩
    exact (F.mv off (h' := h') (fun b o hb ho => hs b o (fun e => hb (by simp [e])) ho) (fun b hb => by rw [List.mem_singleton.mp hb]; obtain ⟨o, ho, _⟩ := st; exact ⟨o, ho⟩)).thaw off
  self := fun i A s Q E st hq => wpAny_pyIter_listiter st hq
theorem IE_tups {Q : QI} {iter : Expr} {elts : List Expr} {kk : Nat} {tp : Pos} (names : List (Str × Pos)) (he : elts = names.map fun p => .Name p.1 p.2) (hae : ∀ env, assignEach elts env = elts.map fun t => (false, assign t env))
    (h : EV X n fz L env iter (fun v l m => ∃ (a : Addr) (xs : List Value) (ws : Nat → List Value), v = .ref a ∧ RdM X m a (.lst xs) ∧ Q (fun env => ∀ p ∈ names, env.kindOf p.1 = some .local) xs.length (fun i l => bindT names (ws i) l)
      (fun m => RdM X m a (.lst xs) ∧ ∀ (i : Nat) v, xs[i]? = some v → ∃ b, v = .ref b ∧ RdM X m b (.tup (ws i)) ∧ (ws i).length = names.length) l m) loc M) :
    IE X n fz L env iter (.Tuple elts kk tp) Q loc M := fun A s R r F o fin => by
  refine wpAny_mono (h A s r F o) (fun v s₁ hq => ?_) (fun _ _ e => e)
  obtain ⟨l₁, M₁, F₁, k₁, a, xs, ws, e, hm, q⟩ := hq
  rw [er_ref e]
  obtain ⟨us, h1, h2⟩ := hm.get F₁
  refine wpAny_pyIter_list h1 ?_
  obtain ⟨F₂, off⟩ := F₁.setApart (ips := [s₁.heap.objs.size]) (Ext.push s₁.heap { cls := .type "list_iterator", data := .fields #[.ref a, .int 0 0] }) (fun b hb => by
    rw [List.mem_singleton.mp hb]
    cases z : s₁.heap.get? s₁.heap.objs.size with
    | none => rfl
    | some y => exact absurd (Heap.lt_size z) (Nat.lt_irrefl _))
  exact fin _ [s₁.heap.objs.size] _ _ _ _ _ l₁ M₁ _ (Itr_tups (a := a) (xs := xs) (names := names) (ws := ws) (kk := kk) (tp := tp) he hae) off F₂ ⟨_, Heap.get?_push_size _ rfl, rfl, rfl⟩ (k₁.trans (Like.heap s₁ _)) q
end
end Mine
end
section
open PySem PySem.W PyProof.Rows
set_option maxRecDepth 100000
set_option maxHeartbeats 4000000
set_option linter.unusedVariables false
namespace Mine
theorem sub_slice {prog : Program} {w : World} {A : Around} {E : Value → Shared → Prop} {s : Shared} {env : Env} {value : Expr} {lower upper : Option Expr} {p pos : Pos} {T id : String} {Q : Value → Shared → Prop}
    (hl : typeLookup (.type T) "__getitem__" = pure (some (.builtin id)))
    (h : wpAny (model prog w) A (eval value env) (fun o s₁ => wpAny (model prog w) A (eval (.Slice lower upper none p) env) (fun i s₂ => s₂.TypeIs o T ∧ wpAny (model prog w) A (getItem o i) Q E s₂) E s₁) E s) :
    wpAny (model prog w) A (eval (.Subscript value (.Slice lower upper none p) pos) env) Q E s := by
  rw [eval_Subscript]
  refine wpAny_bind (wpAny_mono h (fun o s₁ h₁ => wpAny_bind (wpAny_holding (wpAny_mono h₁ (fun i s₂ h₂ => wpAny_bind (wpAny_standAt ?_)) fun _ _ x => x))) fun _ _ x => x)
  have fin : wpAny (model prog w) A (operate [i, o] (getItem o i)) (fun r s₃ => wpAny (model prog w) A (letTemporaryGo value o r >>= fun _ => pure r) Q E s₃) E s₂ :=
    wpAny_operating (wpAny_mono h₂.2 (fun r s₃ h₃ => wpAny_bind (wpAny_letTemporaryGo (wpAny_pure h₃))) fun _ _ x => x)
  refine wpAny_bind ?_
  rw [getitemInPython_of_ne h₂.1.not_modules]
  refine wpAny_bind (wpAny_specialOf h₂.1 hl ?_)
  first
    | exact wpAny_pure (wpAny_bind fin)
    | exact wpAny_bind (wpAny_pure (wpAny_bind fin))
    | exact wpAny_bind fin
theorem sub_list_slice {prog : Program} {w : World} {A : Around} {E : Value → Shared → Prop} {s : Shared} {env : Env} {value : Expr} {lower upper : Option Expr} {p pos : Pos} {Q : Value → Shared → Prop}
    (h : wpAny (model prog w) A (eval value env) (fun o s₁ => wpAny (model prog w) A (evalPart lower env) (fun vl s₂ => wpAny (model prog w) A (evalPart upper env) (fun vu s₃ =>
      ∃ l items lo hi, o = .ref l ∧ s₃.heap.IsList l items ∧ items.size ≤ sizeLine ∧ IsPart vl lo ∧ IsPart vu hi ∧
        Q (.ref (s₃.heap.objs.size + 1)) { s₃ with heap := (s₃.heap.push { cls := .type "slice", data := .fields #[vl, vu, .none] }).push { cls := .type "list", data := .seq (slicePick items lo hi none) } }) E s₂) E s₁) E s) :
    wpAny (model prog w) A (eval (.Subscript value (.Slice lower upper none p) pos) env) Q E s := by
  refine sub_slice (T := "list") list_getitem_lookup (wpAny_mono h (fun o s₁ h₁ => wpAny_Slice (wpAny_mono h₁ (fun vl s₂ h₂ => wpAny_mono h₂ (fun vu s₃ h₃ => ?_) fun _ _ e => e) fun _ _ e => e)) fun _ _ e => e)
  obtain ⟨l, items, lo, hi, rfl, hl, hsz, pl, pu, hQ⟩ := h₃
  rw [evalPart_none]
  refine wpAny_pure ⟨(hl.push _).typeIs, wpAny_getItem_list_slice (hl.push _) (Heap.IsSliceOf.new ..) pl pu .none (by simp) ?_ hsz⟩
  rw [Heap.size_push]
  exact hQ
section
variable {X : Cx} {n : Nat} {fz : Frz} {L : Addr} {loc : Loc} {M : Mem} {env : Env}
theorem EV_slice_listT {Q : QV} {value : Expr} {lower upper : Option Expr} {p pos : Pos}
    (h : EV X n fz L env value (fun o lo m => ∃ a xs, o = .ref a ∧ xs.length ≤ 16777216 ∧ PT X n fz L env lower (fun i lo m => PT X n fz L env upper (fun j lo m => RdM X m a (.lst xs) ∧ ∀ D, m D = none → Q (.ref D) lo (setM m D (.lst (pySl xs i j)))) lo m) lo m) loc M) :
    EV X n fz L env (.Subscript value (.Slice lower upper none p) pos) Q loc M := fun A s rm F o => by
  refine sub_list_slice (wpAny_mono (h A s rm F o) (fun v s₁ hq => ?_) (fun _ _ e => e))
  obtain ⟨l₁, M₁, f₁, k₁, a, xs, el, hl, q⟩ := hq
  refine wpAny_mono (WT.use q rm f₁ k₁ o) (fun vi s₂ hq => ?_) (fun _ _ e => e)
  obtain ⟨l₂, M₂, f₂, k₂, hi, q⟩ := hq
  refine wpAny_mono (WT.use q rm f₂ k₂ o) (fun vj s₃ hq => ?_) (fun _ _ e => e)
  obtain ⟨l₃, M₃, f₃, k₃, hj, hm, q⟩ := hq
  obtain ⟨us, h1, h2⟩ := hm.get f₃
  have hsz : us.size = xs.length := by rw [← h2, List.length_map, Array.length_toList]
  have part : ∀ v : Value, ((∃ i t, v = .int i t) ∨ v = .none) → IsPart v (optInt v) := fun v hv => by
    rcases hv with ⟨i, t, rfl⟩ | rfl
    · exact .int i t
    · exact .none
  refine ⟨a, us, _, _, er_ref el, h1, by rw [hsz, sizeLine_eq]; exact hl, part vi hi, part vj hj, ?_⟩
  have pick : (slicePick us (optInt vi) (optInt vj) none).toList.map er = pySl xs (optInt vi) (optInt vj) := by
    have hidx : slicePick us (optInt vi) (optInt vj) none = (pySl us.toList (optInt vi) (optInt vj)).toArray := by
      have e1 := clip_eq (optInt vi) 0 us.size (Nat.zero_le _)
      have e2 := clip_eq (optInt vj) us.size us.size (Nat.le_refl _)
      have e3 : sliceBounds (optInt vi) (optInt vj) none us.size = (((clipI (optInt vi) 0 us.size : Nat) : Int), ((clipI (optInt vj) us.size us.size : Nat) : Int), 1) := by
        rw [← e1, ← e2]; rfl
      unfold slicePick
      rw [e3]
      dsimp only
      rw [PySem.sliceRange_one]
      have := range_pick us.toList (clipI (optInt vi) 0 us.size) (clipI (optInt vj) us.size us.size) (by rw [Array.length_toList]; exact clipI_le _ _ _ (Nat.le_refl _))
      simp only [Array.getElem?_toList] at this
      rw [this]
      unfold pySl
      rw [Array.length_toList]
    rw [hidx]
    show (pySl us.toList _ _).map er = _
    unfold pySl
    rw [List.map_drop, List.map_take, h2, ← List.length_map (f := er) (as := us.toList), h2]
  have F2 : FV X fz L l₃ M₃ (s₃.heap.push { cls := .type "slice", data := .fields #[vi, vj, .none] }) := f₃.ext (Ext.push _ _)
  have F3 := new_list (vs := (slicePick us (optInt vi) (optInt vj) none).toList) F2
  rw [pick, Heap.size_push] at F3
  have fr := F2.fresh
  rw [Heap.size_push] at fr
  exact ⟨l₃, _, F3, k₃.trans (Like.heap s₃ _), q _ fr⟩

theorem TR_listR {Q : QB} {a : Addr} {xs : List Value} (hm : RdM X M a (.lst xs)) (hl : xs.length ≤ 16777216) (h : Q (!xs.isEmpty) loc M) : O1B X n fz L truthy (.ref a) Q loc M := fun va e A s r F o => by
  rw [er_ref e]
  obtain ⟨vs, h1, h2⟩ := hm.get F
  have hs : vs.size = xs.length := by rw [← h2, List.length_map, Array.length_toList]
  refine wpAny_truthy_list h1 (by (first | lia | omega)) ?_
  have e : (!vs.isEmpty) = !xs.isEmpty := by
    have : vs.isEmpty = xs.isEmpty := by
      rw [Bool.eq_iff_iff, List.isEmpty_iff_length_eq_zero, ← hs]; simp
    rw [this]
  rw [e]; exact ⟨loc, M, F, Like.tokn s _ (by (first | lia | omega)), h⟩
end
end Mine
end
section
open PySem PySem.W PyProof.Rows
set_option maxRecDepth 100000
set_option maxHeartbeats 4000000
set_option linter.unusedVariables false
namespace Mine
section
variable {X : Cx} {n : Nat} {fz : Frz} {L : Addr} {env : Env} {loc : Loc} {M : Mem}
end
end Mine
end
section
open PySem PySem.W PySem.Calls PyProof.Rows
set_option maxRecDepth 100000
set_option maxHeartbeats 4000000
set_option linter.unusedVariables false
namespace Mine
section
variable {X : Cx} {n : Nat} {fz : Frz} {L : Addr} {env : Env} {loc : Loc} {M : Mem} {a b : Addr}
theorem E1_AugSub {Q : QF} {ob i e : Expr} {p pos : Pos} {op : Operator}
    (h : EV X n fz L env ob (fun ov l m => EV X n fz L env i (fun iv l m => O2 X n fz L getItem ov iv (fun old l m => EV X n fz L env e (fun b l m => O2 X n fz L (inplaceOp op) old b (fun v l m => SI X n fz L ov iv v (fun l m => Q .next l m) l m) l m) l m) l m) l m) loc M)
    (hi : ∀ ov iv new, augStore i ov iv new = (do holding [new, ov, iv] (setItem ov iv new); release [new, ov, iv] []; pure .next) := by intros; rfl) :
    E1 X n fz L env (.AugAssign (.Subscript ob i p) op e pos) Q loc M :=
  fun A s r f o => wpAny_AugAssign_SubscriptAny (wpAny_mono (h A s r f o) (fun _ _ w => obEEAA w fun _ _ f' k' q => wpAny_mono (WT.use q r f' k' o) (fun _ _ w => obEEAA w fun _ _ f' k' q =>
    wpAny_mono (WT.use (q _ _ rfl rfl) r f' k' o) (fun _ _ w => obEEAA w fun _ _ f' k' q => wpAny_mono (WT.use q r f' k' o) (fun _ _ w => obEEAA w fun _ _ f' k' q => wpAny_mono (WT.use (q _ _ rfl rfl) r f' k' o) (fun _ _ w => obEEAA w fun _ _ f' k' q =>
      wpAny_mono (WT.use (q _ _ _ rfl rfl rfl) r f' k' o) (fun _ _ q => q) (fun _ _ e => e)) (fun _ _ e => e)) (fun _ _ e => e)) (fun _ _ e => e)) (fun _ _ e => e)) (fun _ _ e => e)) hi
theorem GI_dict {Q : QV} {es : List (Str × Value)} {x : Str} {v : Value} (hm : RdM X M a (.dct es)) (hx : es.lookup x = some v) (h : Q v loc M) :
    O2 X n fz L getItem (.ref a) (.str x 0) Q loc M := fun va vb e1 e2 A s r F o => by
  rw [er_ref e1]
  obtain ⟨u, rfl⟩ := er_str e2
  obtain ⟨kvs, h1, _, h2⟩ := hm.get F
  subst h2
  obtain ⟨w, g1, g2⟩ := valueAt_er hx
  exact wpAny_getItem_of (strKind_is X.prog X.w x u) h1.mapOf g1 ⟨loc, M, F, Like.tokn s _ (Nat.le_succ _), by show Q (er _) loc M; rw [g2]; exact h⟩
noncomputable def cmD (c : List Nat) : List (Str × Value) := [("type", .int 6 0), ("data", .str (mkS c) 0)]
theorem AUGD {Q : QF} {x name : Str} {p p1 p2 p3 pos : Pos} {kk : Nat} {e : Expr} {rest : List Stmt} {C : Addr} {k : Nat} {f : Str → Option Value} {D : Addr} {c : List Nat}
    (hE : Fun env L) (hx : env.kindOf x = some .local) (hv : loc x = some (.ref a)) (hm : M a = some (.inst C k f)) (hf : f name = some (.ref D)) (ok : FieldOk X.K C name) (hD : M D = some (.dct (cmD c)))
    (h : EV X n fz L env e (fun w l m => ∃ d, w = .str (mkS d) 0 ∧ m D = some (.dct (cmD c)) ∧ c.length + d.length ≤ 16777216 ∧ EX X n fz L env rest Q l (setM m D (.dct (cmD (c ++ d))))) loc M)
    (hd : (x == ("__debug__" : Str)) = false := by decide)
    (hi : ∀ ov iv new, augStore (.Constant (.str "data") kk p2) ov iv new = (do holding [new, ov, iv] (setItem ov iv new); release [new, ov, iv] []; pure .next) := by intros; rfl) :
    EX X n fz L env (.AugAssign (.Subscript (.Attribute (.Name x p) name p1) (.Constant (.str "data") kk p2) p3) .Add e pos :: rest) Q loc M :=
  EX_cons (E1_AugSub (EV_attr (EV_local hE hx hv (GA_field hm hf ok (EV_str (l := [100, 97, 116, 97]) (by kernel_rfl) (GI_dict (.dct hD) (v := .str (mkS c) 0) (by unfold cmD; rfl) (WT.mono h fun w l m ⟨d, hw, hm2, hl, q⟩ => by
    show O2 _ _ _ _ _ _ (er w) _ _ _
    rw [hw]
    refine O2_iadd_str hl ?_
    refine SI_dict hm2 (by show 2 ≤ 16777216; decide) ?_
    exact seq_next q)))) hd) (by intros; rfl)) hi)
theorem E1_AssignSwap {Q : QF} {elts : List Expr} {kk : Nat} {tp pos : Pos} {e : Expr} (x y : Str) (hE : Fun env L) (hx : env.kindOf x = some .local) (hy : env.kindOf y = some .local)
    (h : EV X n fz L env e (fun v l m => ∃ D a b, v = .ref D ∧ RdM X m D (.tup [a, b]) ∧ Q .next (setL (setL l y b) x a) m) loc M)
    (hw : swappedStores [.Tuple elts kk tp] e env = pure (some [x, y]) := by rfl)
    (hs : swapsWithSole [.Tuple elts kk tp] e pos.line env = pure false := by rfl) : E1 X n fz L env (.Assign [.Tuple elts kk tp] e pos) Q loc M := fun A s r F o => by
  refine Assign_Tuple_swapped (names := [x, y]) (wpAny_mono (h A s r F o) (fun v s₁ hq => ?_) (fun _ _ e => e)) hs hw
  obtain ⟨l₁, M₁, F₁, k₁, D, a, b, e, hm, q⟩ := hq
  rw [er_ref e]
  obtain ⟨us, ht, h2⟩ := hm.get F₁
  have hsz : us.size = 2 := by rw [← Array.length_toList, ← List.length_map (f := er), h2]; rfl
  obtain ⟨w1, w2, hw12, e1, e2⟩ := vs2 h2
  show wpAny _ _ (unpackItems (.ref D) 2 none) _ _ _
  rw [← hsz]
  refine unpackItems_tuple r.handled ht fun h' he => ?_
  have F₂ : FV X fz L l₁ M₁ h' := F₁.ext fun b o hb => he b o (Nat.ne_of_lt (Heap.lt_size hb)) hb
  rw [hw12]
  show wpAny _ _ (assignInOrder [fun v => bindName env y v, fun v => bindName env x v] [w2, w1]) _ _ _
  have st : ST X n fz L env y b (fun l m => ST X n fz L env x a (fun l m => Q .next l m) l m) l₁ M₁ := ST_local hE hy (ST_local hE hx q)
  refine assignInOrder_cons (bindName_ (wpAny_mono (WT.use (st w2 e2) r F₂ (k₁.trans (Like.heap s₁ h')) o) (fun _ s₂ hq => ?_) (fun _ _ e => e)))
  obtain ⟨l₂, M₂, F₃, k₂, q2⟩ := hq
  refine assignInOrder_cons (bindName_ (wpAny_mono (WT.use (q2 w1 e1) r F₃ k₂ o) (fun _ s₃ hq => ?_) (fun _ _ e => e)))
  exact assignInOrder_nil hq
end
end Mine
end
section
open PySem PySem.W PyProof.Rows
set_option maxRecDepth 100000
set_option maxHeartbeats 4000000
set_option linter.unusedVariables false
namespace Mine
noncomputable def tkC (g : G) (lf : Addr) (sv : Value) (D q : Addr) : List (Str × Value) :=
  [("stream", .ref g.S), ("parser", .none), ("escapeFlag", .bool false), ("lastFourChars", .ref lf), ("state", sv), ("escape", .bool false), ("currentToken", .ref D), ("tokenQueue", .ref q)]
noncomputable def ErrR (M : Mem) (s : List Nat) (v : Value) : Prop := ∃ a, v = .ref a ∧ M a = some (.dct [("type", .int 7 0), ("data", .str (mkS s) 0)])
theorem ErrR.keep {M m : Mem} {s : List Nat} {v : Value} (h : ErrR M s v) (kd : ∀ a, M a = some (.dct [("type", .int 7 0), ("data", .str (mkS s) 0)]) → m a = some (.dct [("type", .int 7 0), ("data", .str (mkS s) 0)])) : ErrR m s v := by
  obtain ⟨a, h1, h2⟩ := h; exact ⟨a, h1, kd _ h2⟩
theorem err_ne_cm {s c : List Nat} : (AO.dct [("type", .int 7 0), ("data", .str (mkS s) 0)]) ≠ .dct (cmD c) := fun h => by
  unfold cmD at h; cases h
structure CAt (M : Mem) (g : G) (T q lf D : Addr) (k bk : Nat) (sv : Value) (c : List Nat) (errs : List (List Nat)) (fin : Bool) (us : List Value) : Prop where
  hat : SAt M g k bk
  hT : M T = some (.inst 762 8 (tblF (tkC g lf sv D q)))
  hD : M D = some (.dct (cmD c))
  hq : M q = some (.lst (us ++ if fin then [.ref D] else []))
  ha : All2 (ErrR M) errs us
  ne : q ≠ g.E
section
variable {M m : Mem} {g : G} {T q lf D : Addr} {k bk k' bk' : Nat} {sv sv' : Value} {c : List Nat} {errs : List (List Nat)} {fin : Bool} {us : List Value}
theorem CAt.geo (h : CAt M g T q lf D k bk sv c errs fin us) :
    T ≠ g.S ∧ T ≠ g.X ∧ T ≠ g.E ∧ T ≠ g.Q ∧ q ≠ g.S ∧ q ≠ g.X ∧ q ≠ g.E ∧ q ≠ g.Q ∧ T ≠ q ∧ D ≠ g.S ∧ D ≠ g.X ∧ D ≠ g.E ∧ D ≠ g.Q ∧ D ≠ T ∧ D ≠ q := by
  obtain ⟨pre, c', co, b, p, S, _⟩ := h.hat
  have hT := h.hT
  have hq := h.hq
  have hD := h.hD
  obtain ⟨es, hE, _⟩ := S.hE
  have hS := S.hS
  have hX := S.hX
  have hQ := S.hQ
  refine ⟨fun e => ?_, fun e => ?_, fun e => ?_, fun e => ?_, fun e => ?_, fun e => ?_, h.ne, fun e => ?_, fun e => ?_, fun e => ?_, fun e => ?_, fun e => ?_, fun e => ?_, fun e => ?_, fun e => ?_⟩
  · rw [e, hS] at hT; cases hT
  · rw [e, hX] at hT; cases hT
  · rw [e, hE] at hT; cases hT
  · rw [e, hQ] at hT; cases hT
  · rw [e, hS] at hq; cases hq
  · rw [e, hX] at hq; cases hq
  · rw [e, hQ] at hq; cases hq
  · rw [e, hq] at hT; cases hT
  · rw [e, hS] at hD; cases hD
  · rw [e, hX] at hD; cases hD
  · rw [e, hE] at hD; cases hD
  · rw [e, hQ] at hD; cases hD
  · rw [e, hT] at hD; cases hD
  · rw [e, hq] at hD; cases hD
theorem CAt.step (h : CAt M g T q lf D k bk sv c errs fin us) (kp : Kp g M m) (hs : SAt m g k' bk') : CAt m g T q lf D k' bk' sv c errs fin us := by
  obtain ⟨t1, t2, t3, t4, q1, q2, q3, q4, tq, d1, d2, d3, d4, d5, d6⟩ := h.geo
  obtain ⟨pre, c', co, b, p, S, _⟩ := h.hat
  obtain ⟨es, hE, _⟩ := S.hE
  have kd : ∀ a l, M a = some (.dct l) → m a = some (.dct l) := fun a l e => kp a _ (fun z => by rw [z, S.hS] at e; cases e) (fun z => by rw [z, S.hX] at e; cases e) (fun z => by rw [z, hE] at e; cases e) e
  exact ⟨hs, kp _ _ t1 t2 t3 h.hT, kd _ _ h.hD, kp _ _ q1 q2 q3 h.hq, h.ha.mono fun _ _ r => r.keep fun a e => kd a _ e, h.ne⟩
theorem CAt.grow (h : CAt M g T q lf D k bk sv c errs fin us) (kp : ∀ a o, M a = some o → m a = some o) : CAt m g T q lf D k bk sv c errs fin us := by
  obtain ⟨pre, c', co, b, p, S, e, hb⟩ := h.hat
  exact h.step (fun a o _ _ _ e => kp a o e) ⟨pre, c', co, b, p, S.keep kp, e, hb⟩
theorem CAt.weak (h : CAt M g T q lf D k bk sv c errs fin us) : CAt M g T q lf D k 0 sv c errs fin us := ⟨h.hat.weak, h.hT, h.hD, h.hq, h.ha, h.ne⟩
theorem CAt.set (h : CAt M g T q lf D k bk sv c errs fin us) (sv' : Value) : CAt (setM M T (.inst 762 8 (tblF (tkC g lf sv' D q)))) g T q lf D k bk sv' c errs fin us := by
  obtain ⟨t1, t2, t3, t4, q1, q2, q3, q4, tq, d1, d2, d3, d4, d5, d6⟩ := h.geo
  have hT := h.hT
  exact ⟨h.hat.off (setM_ne _ _ t1.symm) (setM_ne _ _ t2.symm) (setM_ne _ _ t3.symm) (setM_ne _ _ t4.symm), setM_same _ _ _, (setM_ne _ _ d5).trans h.hD, (setM_ne _ _ tq.symm).trans h.hq,
    h.ha.mono fun _ _ r => r.keep fun a e => (setM_ne _ _ (fun z => by rw [z, hT] at e; cases e)).trans e, h.ne⟩
theorem CAt.dat (h : CAt M g T q lf D k bk sv c errs fin us) (c' : List Nat) : CAt (setM M D (.dct (cmD c'))) g T q lf D k bk sv c' errs fin us := by
  obtain ⟨t1, t2, t3, t4, q1, q2, q3, q4, tq, d1, d2, d3, d4, d5, d6⟩ := h.geo
  have hD := h.hD
  exact ⟨h.hat.off (setM_ne _ _ d1.symm) (setM_ne _ _ d2.symm) (setM_ne _ _ d3.symm) (setM_ne _ _ d4.symm), (setM_ne _ _ d5.symm).trans h.hT, setM_same _ _ _, (setM_ne _ _ d6.symm).trans h.hq,
    h.ha.mono fun _ _ r => r.keep fun a e => (setM_ne _ _ (fun z => by rw [z, hD] at e; exact err_ne_cm (Option.some.inj e).symm)).trans e, h.ne⟩
theorem CAt.err (h : CAt M g T q lf D k bk sv c errs false us) {B : Addr} (hB : M B = none) (s : List Nat) :
    CAt (setM (setM M B (.dct [("type", .int 7 0), ("data", .str (mkS s) 0)])) q (.lst (us ++ [.ref B]))) g T q lf D k bk sv c (errs ++ [s]) false (us ++ [.ref B]) := by
  obtain ⟨t1, t2, t3, t4, q1, q2, q3, q4, tq, d1, d2, d3, d4, d5, d6⟩ := h.geo
  obtain ⟨pre, c', co, b, p, S, _⟩ := h.hat
  obtain ⟨es, hE, _⟩ := S.hE
  have hq := h.hq
  have nB : ∀ a o, M a = some o → a ≠ B := fun a o e z => by rw [z, hB] at e; cases e
  have st : ∀ a o, a ≠ q → M a = some o → setM (setM M B (.dct [("type", .int 7 0), ("data", .str (mkS s) 0)])) q (.lst (us ++ [.ref B])) a = some o := fun a o h1 e => (setM_ne _ _ h1).trans ((setM_ne _ _ (nB _ _ e)).trans e)
  have hBq : B ≠ q := fun z => by rw [z, hq] at hB; cases hB
  refine ⟨h.hat.off ?_ ?_ ?_ ?_, st _ _ tq h.hT, st _ _ d6 h.hD, ?_, (h.ha.mono fun _ _ r => r.keep fun a e => st a _ (fun z => by rw [z, hq] at e; cases e) e).snoc ⟨B, rfl, (setM_ne _ _ hBq).trans (setM_same _ _ _)⟩, h.ne⟩
  · rw [S.hS]; exact st _ _ q1.symm S.hS
  · rw [S.hX]; exact st _ _ q2.symm S.hX
  · rw [hE]; exact st _ _ q3.symm hE
  · rw [S.hQ]; exact st _ _ q4.symm S.hQ
  · rw [setM_same]; simp
theorem CAt.emit (h : CAt M g T q lf D k bk sv c errs false us) : CAt (setM M q (.lst (us ++ [.ref D]))) g T q lf D k bk sv c errs true us := by
  obtain ⟨t1, t2, t3, t4, q1, q2, q3, q4, tq, d1, d2, d3, d4, d5, d6⟩ := h.geo
  have hq := h.hq
  exact ⟨h.hat.off (setM_ne _ _ q1.symm) (setM_ne _ _ q2.symm) (setM_ne _ _ q3.symm) (setM_ne _ _ q4.symm), (setM_ne _ _ tq).trans h.hT, (setM_ne _ _ d6).trans h.hD, by rw [setM_same]; rfl,
    h.ha.mono fun _ _ r => r.keep fun a e => (setM_ne _ _ (fun z => by rw [z, hq] at e; cases e)).trans e, h.ne⟩
end
structure Cres where
  errs : List (List Nat)
  k : Nat
  c : List Nat
  fin : Bool
  stays : Bool
noncomputable def KC (g : G) (T q D : Addr) (M m : Mem) : Prop := ∀ a o, a ≠ g.S → a ≠ g.X → a ≠ g.E → a ≠ T → a ≠ q → a ≠ D → M a = some o → m a = some o
theorem KC.refl (g : G) (T q D : Addr) (M : Mem) : KC g T q D M M := fun _ _ _ _ _ _ _ _ e => e
theorem KC.kp {g : G} {T q D : Addr} {a b c : Mem} (x : KC g T q D a b) (y : Kp g b c) : KC g T q D a c := fun d o h1 h2 h3 h4 h5 h6 e => y d o h1 h2 h3 (x d o h1 h2 h3 h4 h5 h6 e)
theorem KC.new {g : G} {T q D : Addr} {a b : Mem} (x : KC g T q D a b) {B : Addr} {o : AO} (h : b B = none) : KC g T q D a (setM b B o) := fun d o h1 h2 h3 h4 h5 h6 e => setM_old h (x d o h1 h2 h3 h4 h5 h6 e)
theorem KC.tok {g : G} {T q D : Addr} {a b : Mem} (x : KC g T q D a b) {o : AO} : KC g T q D a (setM b T o) := fun d o h1 h2 h3 h4 h5 h6 e => (setM_ne _ _ h4).trans (x d o h1 h2 h3 h4 h5 h6 e)
theorem KC.que {g : G} {T q D : Addr} {a b : Mem} (x : KC g T q D a b) {o : AO} : KC g T q D a (setM b q o) := fun d o h1 h2 h3 h4 h5 h6 e => (setM_ne _ _ h5).trans (x d o h1 h2 h3 h4 h5 h6 e)
theorem KC.dat {g : G} {T q D : Addr} {a b : Mem} (x : KC g T q D a b) {o : AO} : KC g T q D a (setM b D o) := fun d o h1 h2 h3 h4 h5 h6 e => (setM_ne _ _ h6).trans (x d o h1 h2 h3 h4 h5 h6 e)
noncomputable def CrAt (M m : Mem) (g : G) (T q lf D : Addr) (r : Cres) : Prop := ∃ sv us, CAt m g T q lf D r.k 0 sv r.c r.errs r.fin us ∧ KC g T q D M m ∧ (sv = .none ∧ r.stays = true ∨ (∃ z, sv = .ref z) ∧ r.stays = false)
end Mine
end
section
open PySem PySem.W PyProof.Rows
namespace Mine
theorem ckf0 {g : G} {lf q D : Addr} {sv : Value} : tblF (tkC g lf sv D q) "stream" = some (.ref g.S) := tH
theorem ckf4 {g : G} {lf q D : Addr} {sv : Value} : tblF (tkC g lf sv D q) "state" = some (sv) := tS (tS (tS (tS (tH))))
theorem ckf6 {g : G} {lf q D : Addr} {sv : Value} : tblF (tkC g lf sv D q) "currentToken" = some (.ref D) := tS (tS (tS (tS (tS (tS (tH))))))
theorem ckf7 {g : G} {lf q D : Addr} {sv : Value} : tblF (tkC g lf sv D q) "tokenQueue" = some (.ref q) := tS (tS (tS (tS (tS (tS (tS (tH)))))))
theorem ckNo {g : G} {lf q D : Addr} {sv : Value} {x : Str} (h : (["stream", "parser", "escapeFlag", "lastFourChars", "state", "escape", "currentToken", "tokenQueue"] : List Str).all (fun y => (x == y) == false) = true) : tblF (tkC g lf sv D q) x = none := by
  simp only [List.all_cons, List.all_nil, Bool.and_true, Bool.and_eq_true, beq_iff_eq] at h
  obtain ⟨h0, h1, h2, h3, h4, h5, h6, h7⟩ := h
  exact tS (tS (tS (tS (tS (tS (tS (tS tN h7) h6) h5) h4) h3) h2) h1) h0
theorem pck4 {g : G} {lf q D : Addr} {sv : Value} {v : Value} : putA (tkC g lf sv D q) "state" v = tkC g lf v D q := pS (pS (pS (pS (pH))))
end Mine
end
section
open PySem PySem.W PyProof.Rows
namespace Mine
theorem CAt.usl {M : Mem} {g : G} {T q lf D : Addr} {k bk : Nat} {sv : Value} {c : List Nat} {errs : List (List Nat)} {fin : Bool} {us : List Value} (h : CAt M g T q lf D k bk sv c errs fin us) (e : Nat.ble errs.length 10 = true) : us.length ≤ 10 := by
  rw [← h.ha.len]; exact Nat.le_of_ble_eq_true e
theorem CAt.tq {M : Mem} {g : G} {T q lf D : Addr} {k bk : Nat} {sv : Value} {c : List Nat} {errs : List (List Nat)} {fin : Bool} {us : List Value} (h : CAt M g T q lf D k bk sv c errs fin us) : T ≠ q := h.geo.2.2.2.2.2.2.2.2.1
theorem CAt.hqF {M : Mem} {g : G} {T q lf D : Addr} {k bk : Nat} {sv : Value} {c : List Nat} {errs : List (List Nat)} {us : List Value} (h : CAt M g T q lf D k bk sv c errs false us) : M q = some (.lst us) := by
  have := h.hq
  rwa [if_neg Bool.false_ne_true, List.append_nil] at this
end Mine
end
section
open PySem PySem.W PyProof.Rows
set_option maxRecDepth 100000
set_option maxHeartbeats 4000000
set_option linter.unusedVariables false
namespace Mine
noncomputable abbrev m_bad : List Nat := [105, 110, 118, 97, 108, 105, 100, 45, 99, 111, 100, 101, 112, 111, 105, 110, 116]
noncomputable abbrev m_inc : List Nat := [105, 110, 99, 111, 114, 114, 101, 99, 116, 45, 99, 111, 109, 109, 101, 110, 116]
noncomputable abbrev m_eof0 : List Nat := [101, 111, 102, 45, 105, 110, 45, 99, 111, 109, 109, 101, 110, 116]
noncomputable abbrev m_eof3 : List Nat := [101, 111, 102, 45, 105, 110, 45, 99, 111, 109, 109, 101, 110, 116, 45, 101, 110, 100, 45, 100, 97, 115, 104]
noncomputable abbrev m_eof4 : List Nat := [101, 111, 102, 45, 105, 110, 45, 99, 111, 109, 109, 101, 110, 116, 45, 100, 111, 117, 98, 108, 101, 45, 100, 97, 115, 104]
noncomputable abbrev m_eof5 : List Nat := [101, 111, 102, 45, 105, 110, 45, 99, 111, 109, 109, 101, 110, 116, 45, 101, 110, 100, 45, 98, 97, 110, 103, 45, 115, 116, 97, 116, 101]
noncomputable abbrev m_bang : List Nat := [117, 110, 101, 120, 112, 101, 99, 116, 101, 100, 45, 98, 97, 110, 103, 45, 97, 102, 116, 101, 114, 45, 100, 111, 117, 98, 108, 101, 45, 100, 97, 115, 104, 45, 105, 110, 45, 99, 111, 109, 109, 101, 110, 116]
noncomputable abbrev m_dash : List Nat := [117, 110, 101, 120, 112, 101, 99, 116, 101, 100, 45, 100, 97, 115, 104, 45, 97, 102, 116, 101, 114, 45, 100, 111, 117, 98, 108, 101, 45, 100, 97, 115, 104, 45, 105, 110, 45, 99, 111, 109, 109, 101, 110, 116]
noncomputable abbrev m_char : List Nat := [117, 110, 101, 120, 112, 101, 99, 116, 101, 100, 45, 99, 104, 97, 114, 45, 105, 110, 45, 99, 111, 109, 109, 101, 110, 116]
noncomputable def cm0 (g : G) (W : List Nat) (k : Nat) (c : List Nat) : Cres := match W[k]? with
  | some x => if x = 45 then ⟨[], k + 1, c, false, false⟩ else if x = 0 then ⟨[m_bad], k + 1, c ++ [65533], false, true⟩ else if x = 62 then ⟨[m_inc], k + 1, c, true, false⟩ else ⟨[], k + 1, c ++ [x], false, false⟩
  | none => ⟨[m_eof0], k, c, true, false⟩
noncomputable def cm1 (g : G) (W : List Nat) (k : Nat) (c : List Nat) : Cres := match W[k]? with
  | some x => if x = 45 then ⟨[], k + 1, c, false, false⟩ else if x = 0 then ⟨[m_bad], k + 1, c ++ [45, 65533], false, true⟩ else if x = 62 then ⟨[m_inc], k + 1, c, true, false⟩ else ⟨[], k + 1, c ++ [45, x], false, false⟩
  | none => ⟨[m_eof0], k, c, true, false⟩
noncomputable def cm2 (g : G) (W : List Nat) (k : Nat) (c : List Nat) : Cres := match W[k]? with
  | some x => if x = 45 then ⟨[], k + 1, c, false, false⟩ else if x = 0 then ⟨[m_bad], k + 1, c ++ [65533], false, true⟩ else ⟨[], k + 1 + (upTo g [[45], [0]] (k + 1)).length, c ++ ([x] ++ upTo g [[45], [0]] (k + 1)), false, true⟩
  | none => ⟨[m_eof0], k, c, true, false⟩
noncomputable def cm3 (g : G) (W : List Nat) (k : Nat) (c : List Nat) : Cres := match W[k]? with
  | some x => if x = 45 then ⟨[], k + 1, c, false, false⟩ else if x = 0 then ⟨[m_bad], k + 1, c ++ [45, 65533], false, false⟩ else ⟨[], k + 1, c ++ [45, x], false, false⟩
  | none => ⟨[m_eof3], k, c, true, false⟩
noncomputable def cm4 (g : G) (W : List Nat) (k : Nat) (c : List Nat) : Cres := match W[k]? with
  | some x => if x = 62 then ⟨[], k + 1, c, true, false⟩ else if x = 0 then ⟨[m_bad], k + 1, c ++ [45, 45, 65533], false, false⟩ else if x = 33 then ⟨[m_bang], k + 1, c, false, false⟩ else if x = 45 then ⟨[m_dash], k + 1, c ++ [x], false, true⟩ else ⟨[m_char], k + 1, c ++ [45, 45, x], false, false⟩
  | none => ⟨[m_eof4], k, c, true, false⟩
noncomputable def cm5 (g : G) (W : List Nat) (k : Nat) (c : List Nat) : Cres := match W[k]? with
  | some x => if x = 62 then ⟨[], k + 1, c, true, false⟩ else if x = 45 then ⟨[], k + 1, c ++ [45, 45, 33], false, false⟩ else if x = 0 then ⟨[m_bad], k + 1, c ++ [45, 45, 33, 65533], false, false⟩ else ⟨[], k + 1, c ++ [45, 45, 33, x], false, false⟩
  | none => ⟨[m_eof5], k, c, true, false⟩
theorem upTo_len5 {M : Mem} {g : G} {pre c : List Nat} {co : Nat} {b : List Nat} {p : Nat} (S : St M g pre c co b p) (ts : List (List Nat)) (k : Nat) : (upTo g ts k).length ≤ 100000 := by
  have h1 := mend_length g.txt
  have h2 := S.len
  have h3 := (List.takeWhile_sublist (l := (WT' g).drop k) (fun x => !decide ([x] ∈ ts))).length_le
  unfold upTo
  unfold WT' at h3 ⊢
  simp at h3 ⊢
  (first | lia | omega)
section
variable {Z : Cz} {P : Params}
theorem c_k0 (hP : P = Z.cx.w.params) {n : Nat} {M : Mem} {g : G} {T q lf Cm : Addr} {k : Nat} {c : List Nat} (h : CAt M g T q lf Cm k 0 .none c [] false []) (hcl : c.length ≤ 100000) :
    CL Z.cx (n + 7) (.ref 612) [.ref T] (fun v m => v = .bool true ∧ CrAt M m g T q lf Cm (cm0 g (WT' g) k c)) M := by
  have hTT := (top_types (Z := Z)) hP
  have tq := CAt.tq h
  refine CL_fn (binds := [("self", .ref T)]) (by rfl) (by kernel_rfl) ?_ (by kernel_rfl) ?_
  · intro vs e
    obtain ⟨v1, rfl, e1⟩ := vs1 e
    exact ⟨[("self", v1)], fun s hx => kp_binds hx (fun S => rfl), by simp [e1]⟩
  · intro fz L env hE he; subst he; refine EX_gen fun Qg1 hQ1 => ?_
    rw [bindL1]
    (have hT0 := CAt.hT h; have hq0 := CAt.hqF h; have hD0 := CAt.hD h; have hS0 := SAt.hS (CAt.hat h))
    (refine CHR (g := 133) hE (by kernel_rfl) sH hT0 ckf0 (fok (by kernel_rfl)) hS0 (SAt.no _ (by kernel_rfl)) (mok (by kernel_rfl)) (KeepOk.rf (by kernel_rfl)) ?_)
    refine CA_CL ((c_char (n := n) (CAt.hat h)).mono ?_) (by (first | lia | omega))
    (intro v m1 hq0; refine dn fun hG0 => ?_; rcases hq0 with ⟨kp1, ⟨x, hx, rfl, hat1⟩ | ⟨hx, rfl, hat1⟩⟩ <;> refine hG0 ?_ <;> clear hG0)
    · have h1 := CAt.step h kp1 hat1
      have k1 : KC g T q Cm M m1 := (KC.refl _ _ _ _ _).kp kp1
      (have hT1 := CAt.hT h1; have hq1 := CAt.hqF h1; have hD1 := CAt.hD h1; have hS1 := SAt.hS (CAt.hat h1))
      (refine STn hE (by kernel_rfl) ?_; refine IFs hE (by kernel_rfl) sH (t := [45]) (by kernel_rfl) ?_)
      (refine And.intro ?_ ?_ <;> intro hb <;> try (cases hb; done))
      · have e1 : x = 45 := by simpa using hb
        have hr : cm0 g (WT' g) k c = ⟨[], k + 1, c, false, false⟩ := by unfold cm0; rw [hx]; simp [e1]
        (refine STA (g := 619) hE (by kernel_rfl) (sS sH) hT1 (ckNo (by kernel_rfl)) (mok (by kernel_rfl)) (sok (by kernel_rfl)) (.inl ⟨(by kernel_rfl), rfl⟩) (by decide) (fun _ => pck4) ?_; intro zz; refine EXn ?_; refine RETb ?_)
        refine hQ1 _ _ _ ?_; rw [hr]; exact ⟨rfl, _, _, (h1.set _).weak, k1.tok, .inr ⟨⟨_, rfl⟩, rfl⟩⟩
      · have n45 : ¬ x = 45 := by simpa using hb
        (refine IFs hE (by kernel_rfl) sH (t := [0]) (by kernel_rfl) ?_)
        (refine And.intro ?_ ?_ <;> intro hb <;> try (cases hb; done))
        · have e1 : x = 0 := by simpa using hb
          have hr : cm0 g (WT' g) k c = ⟨[m_bad], k + 1, c ++ [65533], false, true⟩ := by unfold cm0; rw [hx]; simp [e1]
          (refine TOKg hE (by kernel_rfl) (sS sH) hT1 ckf7 (fok (by kernel_rfl)) hq1 (by kernel_rfl) (by kernel_rfl) (l1 := [80, 97, 114, 115, 101, 69, 114, 114, 111, 114]) (by kernel_rfl) hTT (tS (tS (tS (tS (tS (tS (tS tE))))))) (by simp; done) ?_; intro D hD; refine EV_str (l := [105, 110, 118, 97, 108, 105, 100, 45, 99, 111, 100, 101, 112, 111, 105, 110, 116]) (by kernel_rfl) ?_; refine ⟨rfl, ?_⟩)
          refine EX_abs (R := fun m' => ∃ us, CAt m' g T q lf Cm (k + 1) 1 .none (c) [m_bad] false us ∧ KC g T q Cm M m') ⟨_, h1.err hD _, (k1.new hD).que⟩ ?_
          (intro m2 hq9; refine obEA hq9 ?_; clear hq9; intro us2 h2 k2)
          have hu2 := h2.usl rfl
          (have hT2 := CAt.hT h2; have hq2 := CAt.hqF h2; have hD2 := CAt.hD h2; have hS2 := SAt.hS (CAt.hat h2))
          refine AUGD hE ((by kernel_rfl)) (by exact (sS sH)) hT2 (by exact (tS (tS (tS (tS (tS (tS tH))))))) ⟨by kernel_rfl, by kernel_rfl, none, by kernel_rfl, rfl⟩ hD2 ?_
          (refine EV_str (l := [65533]) (by kernel_rfl) ?_; (with_reducible first | refine exr ?_ | refine ⟨_, rfl, ?_⟩))
          refine ⟨hD2, by simp; (first | lia | omega), ?_⟩
          refine EX_abs (R := fun m' => ∃ us, CAt m' g T q lf Cm (k + 1) 1 .none (c ++ [65533]) [m_bad] false us ∧ KC g T q Cm M m') ⟨_, h2.dat _, k2.dat⟩ ?_
          (intro m3 hq9; refine obEA hq9 ?_; clear hq9; intro us3 h3 k3)
          have hu3 := h3.usl rfl
          (have hT3 := CAt.hT h3; have hq3 := CAt.hqF h3; have hD3 := CAt.hD h3; have hS3 := SAt.hS (CAt.hat h3))
          (refine EXn ?_; refine EXn ?_; refine RETb ?_)
          refine hQ1 _ _ _ ?_; rw [hr]; exact ⟨rfl, _, _, h3.weak, k3, .inl ⟨rfl, rfl⟩⟩
        · have n0 : ¬ x = 0 := by simpa using hb
          (refine IFs hE (by kernel_rfl) sH (t := [62]) (by kernel_rfl) ?_)
          (refine And.intro ?_ ?_ <;> intro hb <;> try (cases hb; done))
          · have e1 : x = 62 := by simpa using hb
            have hr : cm0 g (WT' g) k c = ⟨[m_inc], k + 1, c, true, false⟩ := by unfold cm0; rw [hx]; simp [e1]
            (refine TOKg hE (by kernel_rfl) (sS sH) hT1 ckf7 (fok (by kernel_rfl)) hq1 (by kernel_rfl) (by kernel_rfl) (l1 := [80, 97, 114, 115, 101, 69, 114, 114, 111, 114]) (by kernel_rfl) hTT (tS (tS (tS (tS (tS (tS (tS tE))))))) (by simp; done) ?_; intro D hD; refine EV_str (l := [105, 110, 99, 111, 114, 114, 101, 99, 116, 45, 99, 111, 109, 109, 101, 110, 116]) (by kernel_rfl) ?_; refine ⟨rfl, ?_⟩)
            refine EX_abs (R := fun m' => ∃ us, CAt m' g T q lf Cm (k + 1) 1 .none (c) [m_inc] false us ∧ KC g T q Cm M m') ⟨_, h1.err hD _, (k1.new hD).que⟩ ?_
            (intro m2 hq9; refine obEA hq9 ?_; clear hq9; intro us2 h2 k2)
            have hu2 := h2.usl rfl
            (have hT2 := CAt.hT h2; have hq2 := CAt.hqF h2; have hD2 := CAt.hD h2; have hS2 := SAt.hS (CAt.hat h2))
            (refine EX_cons ?_; refine E1_Expr ?_ (by rfl) (by rfl); refine EV_mcall ?_; refine EVaf hE (by kernel_rfl) (sS sH) hT2 ckf7 (fok (by kernel_rfl)) ?_; (with_reducible refine GM_append hq2 ?_); refine CW_go1 (KeepOk.bf _) ?_; refine AR_cons ?_; refine EVaf hE (by kernel_rfl) (sS sH) hT2 ckf6 (fok (by kernel_rfl)) ?_; refine AR_nil ?_; refine CA_append hq2 ?_ ?_)
            · (first | lia | omega)
            refine EX_abs (R := fun m' => ∃ us, CAt m' g T q lf Cm (k + 1) 1 .none (c) [m_inc] true us ∧ KC g T q Cm M m') ⟨_, h2.emit, k2.que⟩ ?_
            (intro m3 hq9; refine obEA hq9 ?_; clear hq9; intro us3 h3 k3)
            have hu3 := h3.usl rfl
            (have hT3 := CAt.hT h3; have hq3 := CAt.hq h3; have hD3 := CAt.hD h3; have hS3 := SAt.hS (CAt.hat h3))
            (refine STA (g := 304) hE (by kernel_rfl) (sS sH) hT3 (ckNo (by kernel_rfl)) (mok (by kernel_rfl)) (sok (by kernel_rfl)) (.inl ⟨(by kernel_rfl), rfl⟩) (by decide) (fun _ => pck4) ?_; intro zz; refine EXn ?_; refine EXn ?_; refine EXn ?_; refine RETb ?_)
            refine hQ1 _ _ _ ?_; rw [hr]; exact ⟨rfl, _, _, (h3.set _).weak, k3.tok, .inr ⟨⟨_, rfl⟩, rfl⟩⟩
          · have n62 : ¬ x = 62 := by simpa using hb
            (refine IFc hE (by kernel_rfl) sH ?_; refine EV_gnone hE (by kernel_rfl) (by kernel_rfl) ?_; (with_reducible refine O2_is_none ?_); (with_reducible refine TR_bool ?_))
            (refine And.intro ?_ ?_ <;> intro hb <;> try (cases hb; done))
            have hr : cm0 g (WT' g) k c = ⟨[], k + 1, c ++ [x], false, false⟩ := by unfold cm0; rw [hx]; simp [n45, n0, n62]
            refine AUGD hE ((by kernel_rfl)) (by exact (sS sH)) hT1 (by exact (tS (tS (tS (tS (tS (tS tH))))))) ⟨by kernel_rfl, by kernel_rfl, none, by kernel_rfl, rfl⟩ hD1 ?_
            (refine EV_local hE (by kernel_rfl) sH ?_; (with_reducible first | refine exr ?_ | refine ⟨_, rfl, ?_⟩))
            refine ⟨hD1, by simp; (first | lia | omega), ?_⟩
            refine EX_abs (R := fun m' => ∃ us, CAt m' g T q lf Cm (k + 1) 1 .none (c ++ [x]) [] false us ∧ KC g T q Cm M m') ⟨_, h1.dat _, k1.dat⟩ ?_
            (intro m2 hq9; refine obEA hq9 ?_; clear hq9; intro us2 h2 k2)
            have hu2 := h2.usl rfl
            (have hT2 := CAt.hT h2; have hq2 := CAt.hqF h2; have hD2 := CAt.hD h2; have hS2 := SAt.hS (CAt.hat h2))
            (refine STA (g := 626) hE (by kernel_rfl) (sS sH) hT2 (ckNo (by kernel_rfl)) (mok (by kernel_rfl)) (sok (by kernel_rfl)) (.inl ⟨(by kernel_rfl), rfl⟩) (by decide) (fun _ => pck4) ?_; intro zz; refine EXn ?_; refine EXn ?_; refine EXn ?_; refine EXn ?_; refine RETb ?_)
            refine hQ1 _ _ _ ?_; rw [hr]; exact ⟨rfl, _, _, (h2.set _).weak, k2.tok, .inr ⟨⟨_, rfl⟩, rfl⟩⟩
    · have h1 := CAt.step h kp1 hat1
      have k1 : KC g T q Cm M m1 := (KC.refl _ _ _ _ _).kp kp1
      (have hT1 := CAt.hT h1; have hq1 := CAt.hqF h1; have hD1 := CAt.hD h1; have hS1 := SAt.hS (CAt.hat h1))
      have hr : cm0 g (WT' g) k c = ⟨[m_eof0], k, c, true, false⟩ := by unfold cm0; rw [hx]
      (refine STn hE (by kernel_rfl) ?_; refine IFn hE (by kernel_rfl) sH (t := [45]) (by kernel_rfl) ?_; refine IFn hE (by kernel_rfl) sH (t := [0]) (by kernel_rfl) ?_; refine IFn hE (by kernel_rfl) sH (t := [62]) (by kernel_rfl) ?_; refine IFc hE (by kernel_rfl) sH ?_; refine EV_gnone hE (by kernel_rfl) (by kernel_rfl) ?_; (with_reducible refine O2_is_none ?_); (with_reducible refine TR_bool ?_); (refine And.intro ?_ ?_ <;> intro hb <;> try (cases hb; done)); refine TOKg hE (by kernel_rfl) (sS sH) hT1 ckf7 (fok (by kernel_rfl)) hq1 (by kernel_rfl) (by kernel_rfl) (l1 := [80, 97, 114, 115, 101, 69, 114, 114, 111, 114]) (by kernel_rfl) hTT (tS (tS (tS (tS (tS (tS (tS tE))))))) (by simp; done) ?_; intro D hD; refine EV_str (l := [101, 111, 102, 45, 105, 110, 45, 99, 111, 109, 109, 101, 110, 116]) (by kernel_rfl) ?_; refine ⟨rfl, ?_⟩; refine EX_cons ?_; refine E1_Expr ?_ (by rfl) (by rfl); refine EV_mcall ?_; refine EVaf hE (by kernel_rfl) (sS sH) ((setM_ne _ _ tq).trans (setM_old hD hT1)) (tS (tS (tS (tS (tS (tS (tS tH))))))) (fok (by kernel_rfl)) ?_; (with_reducible refine GM_append (setM_same _ _ _) ?_); refine CW_go1 (KeepOk.bf _) ?_; refine AR_cons ?_; refine EVaf hE (by kernel_rfl) (sS sH) ((setM_ne _ _ tq).trans (setM_old hD hT1)) (tS (tS (tS (tS (tS (tS tH)))))) (fok (by kernel_rfl)) ?_; refine AR_nil ?_; refine CA_append (setM_same _ _ _) (by simp; done) ?_; refine seq_next ?_; refine STA (g := 304) hE (by kernel_rfl) (sS sH) ((setM_ne _ _ tq).trans ((setM_ne _ _ tq).trans (setM_old hD hT1))) (ckNo (by kernel_rfl)) (mok (by kernel_rfl)) (sok (by kernel_rfl)) (.inl ⟨(by kernel_rfl), rfl⟩) (by decide) (fun _ => pck4) ?_; intro zz; refine EXn ?_; refine EXn ?_; refine EXn ?_; refine EXn ?_; refine RETb ?_)
      refine hQ1 _ _ _ ?_; rw [hr]; exact ⟨rfl, _, _, ((h1.err hD _).emit.set _).weak, (((k1.new hD).que).que).tok, .inr ⟨⟨_, rfl⟩, rfl⟩⟩
theorem c_k1 (hP : P = Z.cx.w.params) {n : Nat} {M : Mem} {g : G} {T q lf Cm : Addr} {k : Nat} {c : List Nat} (h : CAt M g T q lf Cm k 0 .none c [] false []) (hcl : c.length ≤ 100000) :
    CL Z.cx (n + 7) (.ref 619) [.ref T] (fun v m => v = .bool true ∧ CrAt M m g T q lf Cm (cm1 g (WT' g) k c)) M := by
  have hTT := (top_types (Z := Z)) hP
  have tq := CAt.tq h
  refine CL_fn (binds := [("self", .ref T)]) (by rfl) (by kernel_rfl) ?_ (by kernel_rfl) ?_
  · intro vs e
    obtain ⟨v1, rfl, e1⟩ := vs1 e
    exact ⟨[("self", v1)], fun s hx => kp_binds hx (fun S => rfl), by simp [e1]⟩
  · intro fz L env hE he; subst he; refine EX_gen fun Qg1 hQ1 => ?_
    rw [bindL1]
    (have hT0 := CAt.hT h; have hq0 := CAt.hqF h; have hD0 := CAt.hD h; have hS0 := SAt.hS (CAt.hat h))
    (refine CHR (g := 133) hE (by kernel_rfl) sH hT0 ckf0 (fok (by kernel_rfl)) hS0 (SAt.no _ (by kernel_rfl)) (mok (by kernel_rfl)) (KeepOk.rf (by kernel_rfl)) ?_)
    refine CA_CL ((c_char (n := n) (CAt.hat h)).mono ?_) (by (first | lia | omega))
    (intro v m1 hq0; refine dn fun hG0 => ?_; rcases hq0 with ⟨kp1, ⟨x, hx, rfl, hat1⟩ | ⟨hx, rfl, hat1⟩⟩ <;> refine hG0 ?_ <;> clear hG0)
    · have h1 := CAt.step h kp1 hat1
      have k1 : KC g T q Cm M m1 := (KC.refl _ _ _ _ _).kp kp1
      (have hT1 := CAt.hT h1; have hq1 := CAt.hqF h1; have hD1 := CAt.hD h1; have hS1 := SAt.hS (CAt.hat h1))
      (refine STn hE (by kernel_rfl) ?_; refine IFs hE (by kernel_rfl) sH (t := [45]) (by kernel_rfl) ?_)
      (refine And.intro ?_ ?_ <;> intro hb <;> try (cases hb; done))
      · have e1 : x = 45 := by simpa using hb
        have hr : cm1 g (WT' g) k c = ⟨[], k + 1, c, false, false⟩ := by unfold cm1; rw [hx]; simp [e1]
        (refine STA (g := 640) hE (by kernel_rfl) (sS sH) hT1 (ckNo (by kernel_rfl)) (mok (by kernel_rfl)) (sok (by kernel_rfl)) (.inl ⟨(by kernel_rfl), rfl⟩) (by decide) (fun _ => pck4) ?_; intro zz; refine EXn ?_; refine RETb ?_)
        refine hQ1 _ _ _ ?_; rw [hr]; exact ⟨rfl, _, _, (h1.set _).weak, k1.tok, .inr ⟨⟨_, rfl⟩, rfl⟩⟩
      · have n45 : ¬ x = 45 := by simpa using hb
        (refine IFs hE (by kernel_rfl) sH (t := [0]) (by kernel_rfl) ?_)
        (refine And.intro ?_ ?_ <;> intro hb <;> try (cases hb; done))
        · have e1 : x = 0 := by simpa using hb
          have hr : cm1 g (WT' g) k c = ⟨[m_bad], k + 1, c ++ [45, 65533], false, true⟩ := by unfold cm1; rw [hx]; simp [e1]
          (refine TOKg hE (by kernel_rfl) (sS sH) hT1 ckf7 (fok (by kernel_rfl)) hq1 (by kernel_rfl) (by kernel_rfl) (l1 := [80, 97, 114, 115, 101, 69, 114, 114, 111, 114]) (by kernel_rfl) hTT (tS (tS (tS (tS (tS (tS (tS tE))))))) (by simp; done) ?_; intro D hD; refine EV_str (l := [105, 110, 118, 97, 108, 105, 100, 45, 99, 111, 100, 101, 112, 111, 105, 110, 116]) (by kernel_rfl) ?_; refine ⟨rfl, ?_⟩)
          refine EX_abs (R := fun m' => ∃ us, CAt m' g T q lf Cm (k + 1) 1 .none (c) [m_bad] false us ∧ KC g T q Cm M m') ⟨_, h1.err hD _, (k1.new hD).que⟩ ?_
          (intro m2 hq9; refine obEA hq9 ?_; clear hq9; intro us2 h2 k2)
          have hu2 := h2.usl rfl
          (have hT2 := CAt.hT h2; have hq2 := CAt.hqF h2; have hD2 := CAt.hD h2; have hS2 := SAt.hS (CAt.hat h2))
          refine AUGD hE ((by kernel_rfl)) (by exact (sS sH)) hT2 (by exact (tS (tS (tS (tS (tS (tS tH))))))) ⟨by kernel_rfl, by kernel_rfl, none, by kernel_rfl, rfl⟩ hD2 ?_
          (refine EV_str (l := [45, 65533]) (by kernel_rfl) ?_; (with_reducible first | refine exr ?_ | refine ⟨_, rfl, ?_⟩))
          refine ⟨hD2, by simp; (first | lia | omega), ?_⟩
          refine EX_abs (R := fun m' => ∃ us, CAt m' g T q lf Cm (k + 1) 1 .none (c ++ [45, 65533]) [m_bad] false us ∧ KC g T q Cm M m') ⟨_, h2.dat _, k2.dat⟩ ?_
          (intro m3 hq9; refine obEA hq9 ?_; clear hq9; intro us3 h3 k3)
          have hu3 := h3.usl rfl
          (have hT3 := CAt.hT h3; have hq3 := CAt.hqF h3; have hD3 := CAt.hD h3; have hS3 := SAt.hS (CAt.hat h3))
          (refine EXn ?_; refine EXn ?_; refine RETb ?_)
          refine hQ1 _ _ _ ?_; rw [hr]; exact ⟨rfl, _, _, h3.weak, k3, .inl ⟨rfl, rfl⟩⟩
        · have n0 : ¬ x = 0 := by simpa using hb
          (refine IFs hE (by kernel_rfl) sH (t := [62]) (by kernel_rfl) ?_)
          (refine And.intro ?_ ?_ <;> intro hb <;> try (cases hb; done))
          · have e1 : x = 62 := by simpa using hb
            have hr : cm1 g (WT' g) k c = ⟨[m_inc], k + 1, c, true, false⟩ := by unfold cm1; rw [hx]; simp [e1]
            (refine TOKg hE (by kernel_rfl) (sS sH) hT1 ckf7 (fok (by kernel_rfl)) hq1 (by kernel_rfl) (by kernel_rfl) (l1 := [80, 97, 114, 115, 101, 69, 114, 114, 111, 114]) (by kernel_rfl) hTT (tS (tS (tS (tS (tS (tS (tS tE))))))) (by simp; done) ?_; intro D hD; refine EV_str (l := [105, 110, 99, 111, 114, 114, 101, 99, 116, 45, 99, 111, 109, 109, 101, 110, 116]) (by kernel_rfl) ?_; refine ⟨rfl, ?_⟩)
            refine EX_abs (R := fun m' => ∃ us, CAt m' g T q lf Cm (k + 1) 1 .none (c) [m_inc] false us ∧ KC g T q Cm M m') ⟨_, h1.err hD _, (k1.new hD).que⟩ ?_
            (intro m2 hq9; refine obEA hq9 ?_; clear hq9; intro us2 h2 k2)
            have hu2 := h2.usl rfl
            (have hT2 := CAt.hT h2; have hq2 := CAt.hqF h2; have hD2 := CAt.hD h2; have hS2 := SAt.hS (CAt.hat h2))
            (refine EX_cons ?_; refine E1_Expr ?_ (by rfl) (by rfl); refine EV_mcall ?_; refine EVaf hE (by kernel_rfl) (sS sH) hT2 ckf7 (fok (by kernel_rfl)) ?_; (with_reducible refine GM_append hq2 ?_); refine CW_go1 (KeepOk.bf _) ?_; refine AR_cons ?_; refine EVaf hE (by kernel_rfl) (sS sH) hT2 ckf6 (fok (by kernel_rfl)) ?_; refine AR_nil ?_; refine CA_append hq2 ?_ ?_)
            · (first | lia | omega)
            refine EX_abs (R := fun m' => ∃ us, CAt m' g T q lf Cm (k + 1) 1 .none (c) [m_inc] true us ∧ KC g T q Cm M m') ⟨_, h2.emit, k2.que⟩ ?_
            (intro m3 hq9; refine obEA hq9 ?_; clear hq9; intro us3 h3 k3)
            have hu3 := h3.usl rfl
            (have hT3 := CAt.hT h3; have hq3 := CAt.hq h3; have hD3 := CAt.hD h3; have hS3 := SAt.hS (CAt.hat h3))
            (refine STA (g := 304) hE (by kernel_rfl) (sS sH) hT3 (ckNo (by kernel_rfl)) (mok (by kernel_rfl)) (sok (by kernel_rfl)) (.inl ⟨(by kernel_rfl), rfl⟩) (by decide) (fun _ => pck4) ?_; intro zz; refine EXn ?_; refine EXn ?_; refine EXn ?_; refine RETb ?_)
            refine hQ1 _ _ _ ?_; rw [hr]; exact ⟨rfl, _, _, (h3.set _).weak, k3.tok, .inr ⟨⟨_, rfl⟩, rfl⟩⟩
          · have n62 : ¬ x = 62 := by simpa using hb
            (refine IFc hE (by kernel_rfl) sH ?_; refine EV_gnone hE (by kernel_rfl) (by kernel_rfl) ?_; (with_reducible refine O2_is_none ?_); (with_reducible refine TR_bool ?_))
            (refine And.intro ?_ ?_ <;> intro hb <;> try (cases hb; done))
            have hr : cm1 g (WT' g) k c = ⟨[], k + 1, c ++ [45, x], false, false⟩ := by unfold cm1; rw [hx]; simp [n45, n0, n62]
            refine AUGD hE ((by kernel_rfl)) (by exact (sS sH)) hT1 (by exact (tS (tS (tS (tS (tS (tS tH))))))) ⟨by kernel_rfl, by kernel_rfl, none, by kernel_rfl, rfl⟩ hD1 ?_
            (refine EV_binop ?_; refine EV_str (l := [45]) (by kernel_rfl) ?_; refine EV_local hE (by kernel_rfl) sH ?_; (with_reducible refine O2_add_str ?_ ?_); rotate_left; (with_reducible first | refine exr ?_ | refine ⟨_, rfl, ?_⟩); rotate_left)
            · simp
            refine ⟨hD1, by simp; (first | lia | omega), ?_⟩
            refine EX_abs (R := fun m' => ∃ us, CAt m' g T q lf Cm (k + 1) 1 .none (c ++ [45, x]) [] false us ∧ KC g T q Cm M m') ⟨_, h1.dat _, k1.dat⟩ ?_
            (intro m2 hq9; refine obEA hq9 ?_; clear hq9; intro us2 h2 k2)
            have hu2 := h2.usl rfl
            (have hT2 := CAt.hT h2; have hq2 := CAt.hqF h2; have hD2 := CAt.hD h2; have hS2 := SAt.hS (CAt.hat h2))
            (refine STA (g := 626) hE (by kernel_rfl) (sS sH) hT2 (ckNo (by kernel_rfl)) (mok (by kernel_rfl)) (sok (by kernel_rfl)) (.inl ⟨(by kernel_rfl), rfl⟩) (by decide) (fun _ => pck4) ?_; intro zz; refine EXn ?_; refine EXn ?_; refine EXn ?_; refine EXn ?_; refine RETb ?_)
            refine hQ1 _ _ _ ?_; rw [hr]; exact ⟨rfl, _, _, (h2.set _).weak, k2.tok, .inr ⟨⟨_, rfl⟩, rfl⟩⟩
    · have h1 := CAt.step h kp1 hat1
      have k1 : KC g T q Cm M m1 := (KC.refl _ _ _ _ _).kp kp1
      (have hT1 := CAt.hT h1; have hq1 := CAt.hqF h1; have hD1 := CAt.hD h1; have hS1 := SAt.hS (CAt.hat h1))
      have hr : cm1 g (WT' g) k c = ⟨[m_eof0], k, c, true, false⟩ := by unfold cm1; rw [hx]
      (refine STn hE (by kernel_rfl) ?_; refine IFn hE (by kernel_rfl) sH (t := [45]) (by kernel_rfl) ?_; refine IFn hE (by kernel_rfl) sH (t := [0]) (by kernel_rfl) ?_; refine IFn hE (by kernel_rfl) sH (t := [62]) (by kernel_rfl) ?_; refine IFc hE (by kernel_rfl) sH ?_; refine EV_gnone hE (by kernel_rfl) (by kernel_rfl) ?_; (with_reducible refine O2_is_none ?_); (with_reducible refine TR_bool ?_); (refine And.intro ?_ ?_ <;> intro hb <;> try (cases hb; done)); refine TOKg hE (by kernel_rfl) (sS sH) hT1 ckf7 (fok (by kernel_rfl)) hq1 (by kernel_rfl) (by kernel_rfl) (l1 := [80, 97, 114, 115, 101, 69, 114, 114, 111, 114]) (by kernel_rfl) hTT (tS (tS (tS (tS (tS (tS (tS tE))))))) (by simp; done) ?_; intro D hD; refine EV_str (l := [101, 111, 102, 45, 105, 110, 45, 99, 111, 109, 109, 101, 110, 116]) (by kernel_rfl) ?_; refine ⟨rfl, ?_⟩; refine EX_cons ?_; refine E1_Expr ?_ (by rfl) (by rfl); refine EV_mcall ?_; refine EVaf hE (by kernel_rfl) (sS sH) ((setM_ne _ _ tq).trans (setM_old hD hT1)) (tS (tS (tS (tS (tS (tS (tS tH))))))) (fok (by kernel_rfl)) ?_; (with_reducible refine GM_append (setM_same _ _ _) ?_); refine CW_go1 (KeepOk.bf _) ?_; refine AR_cons ?_; refine EVaf hE (by kernel_rfl) (sS sH) ((setM_ne _ _ tq).trans (setM_old hD hT1)) (tS (tS (tS (tS (tS (tS tH)))))) (fok (by kernel_rfl)) ?_; refine AR_nil ?_; refine CA_append (setM_same _ _ _) (by simp; done) ?_; refine seq_next ?_; refine STA (g := 304) hE (by kernel_rfl) (sS sH) ((setM_ne _ _ tq).trans ((setM_ne _ _ tq).trans (setM_old hD hT1))) (ckNo (by kernel_rfl)) (mok (by kernel_rfl)) (sok (by kernel_rfl)) (.inl ⟨(by kernel_rfl), rfl⟩) (by decide) (fun _ => pck4) ?_; intro zz; refine EXn ?_; refine EXn ?_; refine EXn ?_; refine EXn ?_; refine RETb ?_)
      refine hQ1 _ _ _ ?_; rw [hr]; exact ⟨rfl, _, _, ((h1.err hD _).emit.set _).weak, (((k1.new hD).que).que).tok, .inr ⟨⟨_, rfl⟩, rfl⟩⟩
theorem c_k2 (hP : P = Z.cx.w.params) {n : Nat} {M : Mem} {g : G} {T q lf Cm : Addr} {k : Nat} {c : List Nat} (h : CAt M g T q lf Cm k 0 .none c [] false []) (hcl : c.length ≤ 100000) :
    CL Z.cx (n + 7) (.ref 626) [.ref T] (fun v m => v = .bool true ∧ CrAt M m g T q lf Cm (cm2 g (WT' g) k c)) M := by
  have hTT := (top_types (Z := Z)) hP
  have tq := CAt.tq h
  refine CL_fn (binds := [("self", .ref T)]) (by rfl) (by kernel_rfl) ?_ (by kernel_rfl) ?_
  · intro vs e
    obtain ⟨v1, rfl, e1⟩ := vs1 e
    exact ⟨[("self", v1)], fun s hx => kp_binds hx (fun S => rfl), by simp [e1]⟩
  · intro fz L env hE he; subst he; refine EX_gen fun Qg1 hQ1 => ?_
    rw [bindL1]
    (have hT0 := CAt.hT h; have hq0 := CAt.hqF h; have hD0 := CAt.hD h; have hS0 := SAt.hS (CAt.hat h))
    (refine CHR (g := 133) hE (by kernel_rfl) sH hT0 ckf0 (fok (by kernel_rfl)) hS0 (SAt.no _ (by kernel_rfl)) (mok (by kernel_rfl)) (KeepOk.rf (by kernel_rfl)) ?_)
    refine CA_CL ((c_char (n := n) (CAt.hat h)).mono ?_) (by (first | lia | omega))
    (intro v m1 hq0; refine dn fun hG0 => ?_; rcases hq0 with ⟨kp1, ⟨x, hx, rfl, hat1⟩ | ⟨hx, rfl, hat1⟩⟩ <;> refine hG0 ?_ <;> clear hG0)
    · have h1 := CAt.step h kp1 hat1
      have k1 : KC g T q Cm M m1 := (KC.refl _ _ _ _ _).kp kp1
      (have hT1 := CAt.hT h1; have hq1 := CAt.hqF h1; have hD1 := CAt.hD h1; refine dn fun hG0 => ?_; obtain ⟨pre1, c1, co1, b1, p1, S1, hpos1⟩ := id (CAt.hat h1); refine hG0 ?_; clear hG0; have hS1 := S1.hS)
      (refine STn hE (by kernel_rfl) ?_; refine IFs hE (by kernel_rfl) sH (t := [45]) (by kernel_rfl) ?_)
      (refine And.intro ?_ ?_ <;> intro hb <;> try (cases hb; done))
      · have e1 : x = 45 := by simpa using hb
        have hr : cm2 g (WT' g) k c = ⟨[], k + 1, c, false, false⟩ := by unfold cm2; rw [hx]; simp [e1]
        (refine STA (g := 633) hE (by kernel_rfl) (sS sH) hT1 (ckNo (by kernel_rfl)) (mok (by kernel_rfl)) (sok (by kernel_rfl)) (.inl ⟨(by kernel_rfl), rfl⟩) (by decide) (fun _ => pck4) ?_; intro zz; refine EXn ?_; refine RETb ?_)
        refine hQ1 _ _ _ ?_; rw [hr]; exact ⟨rfl, _, _, (h1.set _).weak, k1.tok, .inr ⟨⟨_, rfl⟩, rfl⟩⟩
      · have n45 : ¬ x = 45 := by simpa using hb
        (refine IFs hE (by kernel_rfl) sH (t := [0]) (by kernel_rfl) ?_)
        (refine And.intro ?_ ?_ <;> intro hb <;> try (cases hb; done))
        · have e1 : x = 0 := by simpa using hb
          have hr : cm2 g (WT' g) k c = ⟨[m_bad], k + 1, c ++ [65533], false, true⟩ := by unfold cm2; rw [hx]; simp [e1]
          (refine TOKg hE (by kernel_rfl) (sS sH) hT1 ckf7 (fok (by kernel_rfl)) hq1 (by kernel_rfl) (by kernel_rfl) (l1 := [80, 97, 114, 115, 101, 69, 114, 114, 111, 114]) (by kernel_rfl) hTT (tS (tS (tS (tS (tS (tS (tS tE))))))) (by simp; done) ?_; intro D hD; refine EV_str (l := [105, 110, 118, 97, 108, 105, 100, 45, 99, 111, 100, 101, 112, 111, 105, 110, 116]) (by kernel_rfl) ?_; refine ⟨rfl, ?_⟩)
          refine EX_abs (R := fun m' => ∃ us, CAt m' g T q lf Cm (k + 1) 1 .none (c) [m_bad] false us ∧ KC g T q Cm M m') ⟨_, h1.err hD _, (k1.new hD).que⟩ ?_
          (intro m2 hq9; refine obEA hq9 ?_; clear hq9; intro us2 h2 k2)
          have hu2 := h2.usl rfl
          (have hT2 := CAt.hT h2; have hq2 := CAt.hqF h2; have hD2 := CAt.hD h2; have hS2 := SAt.hS (CAt.hat h2))
          refine AUGD hE ((by kernel_rfl)) (by exact (sS sH)) hT2 (by exact (tS (tS (tS (tS (tS (tS tH))))))) ⟨by kernel_rfl, by kernel_rfl, none, by kernel_rfl, rfl⟩ hD2 ?_
          (refine EV_str (l := [65533]) (by kernel_rfl) ?_; (with_reducible first | refine exr ?_ | refine ⟨_, rfl, ?_⟩))
          refine ⟨hD2, by simp; (first | lia | omega), ?_⟩
          refine EX_abs (R := fun m' => ∃ us, CAt m' g T q lf Cm (k + 1) 1 .none (c ++ [65533]) [m_bad] false us ∧ KC g T q Cm M m') ⟨_, h2.dat _, k2.dat⟩ ?_
          (intro m3 hq9; refine obEA hq9 ?_; clear hq9; intro us3 h3 k3)
          have hu3 := h3.usl rfl
          (have hT3 := CAt.hT h3; have hq3 := CAt.hqF h3; have hD3 := CAt.hD h3; have hS3 := SAt.hS (CAt.hat h3))
          (refine EXn ?_; refine EXn ?_; refine RETb ?_)
          refine hQ1 _ _ _ ?_; rw [hr]; exact ⟨rfl, _, _, h3.weak, k3, .inl ⟨rfl, rfl⟩⟩
        · have n0 : ¬ x = 0 := by simpa using hb
          (refine IFc hE (by kernel_rfl) sH ?_; refine EV_gnone hE (by kernel_rfl) (by kernel_rfl) ?_; (with_reducible refine O2_is_none ?_); (with_reducible refine TR_bool ?_))
          (refine And.intro ?_ ?_ <;> intro hb <;> try (cases hb; done))
          have hr : cm2 g (WT' g) k c = ⟨[], k + 1 + (upTo g [[45], [0]] (k + 1)).length, c ++ ([x] ++ upTo g [[45], [0]] (k + 1)), false, true⟩ := by unfold cm2; rw [hx]; simp [n45, n0]
          refine AUGD hE ((by kernel_rfl)) (by exact (sS sH)) hT1 (by exact (tS (tS (tS (tS (tS (tS tH))))))) ⟨by kernel_rfl, by kernel_rfl, none, by kernel_rfl, rfl⟩ hD1 ?_
          (refine EV_binop ?_; refine EV_local hE (by kernel_rfl) sH ?_; refine EV_mcall ?_; refine EVaf hE (by kernel_rfl) (sS sH) hT1 ckf0 (fok (by kernel_rfl)) ?_; refine GM_meth (g := 156) hS1 (stNo (by kernel_rfl)) (mok (by kernel_rfl)) ?_; refine CW_go1 (KeepOk.rf (by kernel_rfl)) ?_; refine AR_cons ?_; refine EV_tuple ?_; refine AR_cons ?_; refine EV_str (l := [45]) (by kernel_rfl) ?_; refine AR_cons ?_; refine EV_str (l := [0]) (by kernel_rfl) ?_; refine AR_nil ?_)
          refine ⟨by simp, fun D0 hD0 => ?_⟩
          have h1' := h1.grow (m := setM m1 D0 (.tup (strsV [[45], [0]]))) (fun a o e => setM_old hD0 e)
          have k1' : KC g T q Cm M (setM m1 D0 (.tup (strsV [[45], [0]]))) := k1.new hD0
          have hul : (upTo g [[45], [0]] (k + 1)).length ≤ 100000 := upTo_len5 S1 _ _
          refine AR_nil ?_
          refine CA_CL ((c_charsUntil (n := n) (ts := [[45], [0]]) h1'.hat (.tup (setM_same _ _ _))).mono ?_) (by (first | lia | omega))
          (intro v m3 hq0; refine dn fun hG0 => ?_; rcases hq0 with ⟨rfl, kp3, hat3⟩ <;> refine hG0 ?_ <;> clear hG0)
          have h3 := CAt.step h1' kp3 hat3
          have k3 := k1'.kp kp3
          (have hT3 := CAt.hT h3; have hq3 := CAt.hqF h3; have hD3 := CAt.hD h3; have hS3 := SAt.hS (CAt.hat h3))
          ((with_reducible refine O2_add_str ?_ ?_); rotate_left; (with_reducible first | refine exr ?_ | refine ⟨_, rfl, ?_⟩); rotate_left)
          · simp; (first | lia | omega)
          skip
          refine ⟨hD3, by simp; (first | lia | omega), ?_⟩
          refine EX_abs (R := fun m' => ∃ us, CAt m' g T q lf Cm (k + 1 + (upTo g [[45], [0]] (k + 1)).length) 0 .none (c ++ ([x] ++ upTo g [[45], [0]] (k + 1))) [] false us ∧ KC g T q Cm M m') ⟨_, (h3.dat _).weak, k3.dat⟩ ?_
          (intro m4 hq9; refine obEA hq9 ?_; clear hq9; intro us4 h4 k4)
          have hu4 := h4.usl rfl
          (have hT4 := CAt.hT h4; have hq4 := CAt.hqF h4; have hD4 := CAt.hD h4; have hS4 := SAt.hS (CAt.hat h4))
          (refine EXn ?_; refine EXn ?_; refine EXn ?_; refine RETb ?_)
          refine hQ1 _ _ _ ?_; rw [hr]; exact ⟨rfl, _, _, h4.weak, k4, .inl ⟨rfl, rfl⟩⟩
    · have h1 := CAt.step h kp1 hat1
      have k1 : KC g T q Cm M m1 := (KC.refl _ _ _ _ _).kp kp1
      (have hT1 := CAt.hT h1; have hq1 := CAt.hqF h1; have hD1 := CAt.hD h1; refine dn fun hG0 => ?_; obtain ⟨pre1, c1, co1, b1, p1, S1, hpos1⟩ := id (CAt.hat h1); refine hG0 ?_; clear hG0; have hS1 := S1.hS)
      have hr : cm2 g (WT' g) k c = ⟨[m_eof0], k, c, true, false⟩ := by unfold cm2; rw [hx]
      (refine STn hE (by kernel_rfl) ?_; refine IFn hE (by kernel_rfl) sH (t := [45]) (by kernel_rfl) ?_; refine IFn hE (by kernel_rfl) sH (t := [0]) (by kernel_rfl) ?_; refine IFc hE (by kernel_rfl) sH ?_; refine EV_gnone hE (by kernel_rfl) (by kernel_rfl) ?_; (with_reducible refine O2_is_none ?_); (with_reducible refine TR_bool ?_); (refine And.intro ?_ ?_ <;> intro hb <;> try (cases hb; done)); refine TOKg hE (by kernel_rfl) (sS sH) hT1 ckf7 (fok (by kernel_rfl)) hq1 (by kernel_rfl) (by kernel_rfl) (l1 := [80, 97, 114, 115, 101, 69, 114, 114, 111, 114]) (by kernel_rfl) hTT (tS (tS (tS (tS (tS (tS (tS tE))))))) (by simp; done) ?_; intro D hD; refine EV_str (l := [101, 111, 102, 45, 105, 110, 45, 99, 111, 109, 109, 101, 110, 116]) (by kernel_rfl) ?_; refine ⟨rfl, ?_⟩; refine EX_cons ?_; refine E1_Expr ?_ (by rfl) (by rfl); refine EV_mcall ?_; refine EVaf hE (by kernel_rfl) (sS sH) ((setM_ne _ _ tq).trans (setM_old hD hT1)) (tS (tS (tS (tS (tS (tS (tS tH))))))) (fok (by kernel_rfl)) ?_; (with_reducible refine GM_append (setM_same _ _ _) ?_); refine CW_go1 (KeepOk.bf _) ?_; refine AR_cons ?_; refine EVaf hE (by kernel_rfl) (sS sH) ((setM_ne _ _ tq).trans (setM_old hD hT1)) (tS (tS (tS (tS (tS (tS tH)))))) (fok (by kernel_rfl)) ?_; refine AR_nil ?_; refine CA_append (setM_same _ _ _) (by simp; done) ?_; refine seq_next ?_; refine STA (g := 304) hE (by kernel_rfl) (sS sH) ((setM_ne _ _ tq).trans ((setM_ne _ _ tq).trans (setM_old hD hT1))) (ckNo (by kernel_rfl)) (mok (by kernel_rfl)) (sok (by kernel_rfl)) (.inl ⟨(by kernel_rfl), rfl⟩) (by decide) (fun _ => pck4) ?_; intro zz; refine EXn ?_; refine EXn ?_; refine EXn ?_; refine RETb ?_)
      refine hQ1 _ _ _ ?_; rw [hr]; exact ⟨rfl, _, _, ((h1.err hD _).emit.set _).weak, (((k1.new hD).que).que).tok, .inr ⟨⟨_, rfl⟩, rfl⟩⟩
theorem c_k3 (hP : P = Z.cx.w.params) {n : Nat} {M : Mem} {g : G} {T q lf Cm : Addr} {k : Nat} {c : List Nat} (h : CAt M g T q lf Cm k 0 .none c [] false []) (hcl : c.length ≤ 100000) :
    CL Z.cx (n + 7) (.ref 633) [.ref T] (fun v m => v = .bool true ∧ CrAt M m g T q lf Cm (cm3 g (WT' g) k c)) M := by
  have hTT := (top_types (Z := Z)) hP
  have tq := CAt.tq h
  refine CL_fn (binds := [("self", .ref T)]) (by rfl) (by kernel_rfl) ?_ (by kernel_rfl) ?_
  · intro vs e
    obtain ⟨v1, rfl, e1⟩ := vs1 e
    exact ⟨[("self", v1)], fun s hx => kp_binds hx (fun S => rfl), by simp [e1]⟩
  · intro fz L env hE he; subst he; refine EX_gen fun Qg1 hQ1 => ?_
    rw [bindL1]
    (have hT0 := CAt.hT h; have hq0 := CAt.hqF h; have hD0 := CAt.hD h; have hS0 := SAt.hS (CAt.hat h))
    (refine CHR (g := 133) hE (by kernel_rfl) sH hT0 ckf0 (fok (by kernel_rfl)) hS0 (SAt.no _ (by kernel_rfl)) (mok (by kernel_rfl)) (KeepOk.rf (by kernel_rfl)) ?_)
    refine CA_CL ((c_char (n := n) (CAt.hat h)).mono ?_) (by (first | lia | omega))
    (intro v m1 hq0; refine dn fun hG0 => ?_; rcases hq0 with ⟨kp1, ⟨x, hx, rfl, hat1⟩ | ⟨hx, rfl, hat1⟩⟩ <;> refine hG0 ?_ <;> clear hG0)
    · have h1 := CAt.step h kp1 hat1
      have k1 : KC g T q Cm M m1 := (KC.refl _ _ _ _ _).kp kp1
      (have hT1 := CAt.hT h1; have hq1 := CAt.hqF h1; have hD1 := CAt.hD h1; have hS1 := SAt.hS (CAt.hat h1))
      (refine STn hE (by kernel_rfl) ?_; refine IFs hE (by kernel_rfl) sH (t := [45]) (by kernel_rfl) ?_)
      (refine And.intro ?_ ?_ <;> intro hb <;> try (cases hb; done))
      · have e1 : x = 45 := by simpa using hb
        have hr : cm3 g (WT' g) k c = ⟨[], k + 1, c, false, false⟩ := by unfold cm3; rw [hx]; simp [e1]
        (refine STA (g := 640) hE (by kernel_rfl) (sS sH) hT1 (ckNo (by kernel_rfl)) (mok (by kernel_rfl)) (sok (by kernel_rfl)) (.inl ⟨(by kernel_rfl), rfl⟩) (by decide) (fun _ => pck4) ?_; intro zz; refine EXn ?_; refine RETb ?_)
        refine hQ1 _ _ _ ?_; rw [hr]; exact ⟨rfl, _, _, (h1.set _).weak, k1.tok, .inr ⟨⟨_, rfl⟩, rfl⟩⟩
      · have n45 : ¬ x = 45 := by simpa using hb
        (refine IFs hE (by kernel_rfl) sH (t := [0]) (by kernel_rfl) ?_)
        (refine And.intro ?_ ?_ <;> intro hb <;> try (cases hb; done))
        · have e1 : x = 0 := by simpa using hb
          have hr : cm3 g (WT' g) k c = ⟨[m_bad], k + 1, c ++ [45, 65533], false, false⟩ := by unfold cm3; rw [hx]; simp [e1]
          (refine TOKg hE (by kernel_rfl) (sS sH) hT1 ckf7 (fok (by kernel_rfl)) hq1 (by kernel_rfl) (by kernel_rfl) (l1 := [80, 97, 114, 115, 101, 69, 114, 114, 111, 114]) (by kernel_rfl) hTT (tS (tS (tS (tS (tS (tS (tS tE))))))) (by simp; done) ?_; intro D hD; refine EV_str (l := [105, 110, 118, 97, 108, 105, 100, 45, 99, 111, 100, 101, 112, 111, 105, 110, 116]) (by kernel_rfl) ?_; refine ⟨rfl, ?_⟩)
          refine EX_abs (R := fun m' => ∃ us, CAt m' g T q lf Cm (k + 1) 1 .none (c) [m_bad] false us ∧ KC g T q Cm M m') ⟨_, h1.err hD _, (k1.new hD).que⟩ ?_
          (intro m2 hq9; refine obEA hq9 ?_; clear hq9; intro us2 h2 k2)
          have hu2 := h2.usl rfl
          (have hT2 := CAt.hT h2; have hq2 := CAt.hqF h2; have hD2 := CAt.hD h2; have hS2 := SAt.hS (CAt.hat h2))
          refine AUGD hE ((by kernel_rfl)) (by exact (sS sH)) hT2 (by exact (tS (tS (tS (tS (tS (tS tH))))))) ⟨by kernel_rfl, by kernel_rfl, none, by kernel_rfl, rfl⟩ hD2 ?_
          (refine EV_str (l := [45, 65533]) (by kernel_rfl) ?_; (with_reducible first | refine exr ?_ | refine ⟨_, rfl, ?_⟩))
          refine ⟨hD2, by simp; (first | lia | omega), ?_⟩
          refine EX_abs (R := fun m' => ∃ us, CAt m' g T q lf Cm (k + 1) 1 .none (c ++ [45, 65533]) [m_bad] false us ∧ KC g T q Cm M m') ⟨_, h2.dat _, k2.dat⟩ ?_
          (intro m3 hq9; refine obEA hq9 ?_; clear hq9; intro us3 h3 k3)
          have hu3 := h3.usl rfl
          (have hT3 := CAt.hT h3; have hq3 := CAt.hqF h3; have hD3 := CAt.hD h3; have hS3 := SAt.hS (CAt.hat h3))
          (refine STA (g := 626) hE (by kernel_rfl) (sS sH) hT3 (ckNo (by kernel_rfl)) (mok (by kernel_rfl)) (sok (by kernel_rfl)) (.inl ⟨(by kernel_rfl), rfl⟩) (by decide) (fun _ => pck4) ?_; intro zz; refine EXn ?_; refine EXn ?_; refine RETb ?_)
          refine hQ1 _ _ _ ?_; rw [hr]; exact ⟨rfl, _, _, (h3.set _).weak, k3.tok, .inr ⟨⟨_, rfl⟩, rfl⟩⟩
        · have n0 : ¬ x = 0 := by simpa using hb
          (refine IFc hE (by kernel_rfl) sH ?_; refine EV_gnone hE (by kernel_rfl) (by kernel_rfl) ?_; (with_reducible refine O2_is_none ?_); (with_reducible refine TR_bool ?_))
          (refine And.intro ?_ ?_ <;> intro hb <;> try (cases hb; done))
          have hr : cm3 g (WT' g) k c = ⟨[], k + 1, c ++ [45, x], false, false⟩ := by unfold cm3; rw [hx]; simp [n45, n0]
          refine AUGD hE ((by kernel_rfl)) (by exact (sS sH)) hT1 (by exact (tS (tS (tS (tS (tS (tS tH))))))) ⟨by kernel_rfl, by kernel_rfl, none, by kernel_rfl, rfl⟩ hD1 ?_
          (refine EV_binop ?_; refine EV_str (l := [45]) (by kernel_rfl) ?_; refine EV_local hE (by kernel_rfl) sH ?_; (with_reducible refine O2_add_str ?_ ?_); rotate_left; (with_reducible first | refine exr ?_ | refine ⟨_, rfl, ?_⟩); rotate_left)
          · simp
          refine ⟨hD1, by simp; (first | lia | omega), ?_⟩
          refine EX_abs (R := fun m' => ∃ us, CAt m' g T q lf Cm (k + 1) 1 .none (c ++ [45, x]) [] false us ∧ KC g T q Cm M m') ⟨_, h1.dat _, k1.dat⟩ ?_
          (intro m2 hq9; refine obEA hq9 ?_; clear hq9; intro us2 h2 k2)
          have hu2 := h2.usl rfl
          (have hT2 := CAt.hT h2; have hq2 := CAt.hqF h2; have hD2 := CAt.hD h2; have hS2 := SAt.hS (CAt.hat h2))
          (refine STA (g := 626) hE (by kernel_rfl) (sS sH) hT2 (ckNo (by kernel_rfl)) (mok (by kernel_rfl)) (sok (by kernel_rfl)) (.inl ⟨(by kernel_rfl), rfl⟩) (by decide) (fun _ => pck4) ?_; intro zz; refine EXn ?_; refine EXn ?_; refine EXn ?_; refine RETb ?_)
          refine hQ1 _ _ _ ?_; rw [hr]; exact ⟨rfl, _, _, (h2.set _).weak, k2.tok, .inr ⟨⟨_, rfl⟩, rfl⟩⟩
    · have h1 := CAt.step h kp1 hat1
      have k1 : KC g T q Cm M m1 := (KC.refl _ _ _ _ _).kp kp1
      (have hT1 := CAt.hT h1; have hq1 := CAt.hqF h1; have hD1 := CAt.hD h1; have hS1 := SAt.hS (CAt.hat h1))
      have hr : cm3 g (WT' g) k c = ⟨[m_eof3], k, c, true, false⟩ := by unfold cm3; rw [hx]
      (refine STn hE (by kernel_rfl) ?_; refine IFn hE (by kernel_rfl) sH (t := [45]) (by kernel_rfl) ?_; refine IFn hE (by kernel_rfl) sH (t := [0]) (by kernel_rfl) ?_; refine IFc hE (by kernel_rfl) sH ?_; refine EV_gnone hE (by kernel_rfl) (by kernel_rfl) ?_; (with_reducible refine O2_is_none ?_); (with_reducible refine TR_bool ?_); (refine And.intro ?_ ?_ <;> intro hb <;> try (cases hb; done)); refine TOKg hE (by kernel_rfl) (sS sH) hT1 ckf7 (fok (by kernel_rfl)) hq1 (by kernel_rfl) (by kernel_rfl) (l1 := [80, 97, 114, 115, 101, 69, 114, 114, 111, 114]) (by kernel_rfl) hTT (tS (tS (tS (tS (tS (tS (tS tE))))))) (by simp; done) ?_; intro D hD; refine EV_str (l := [101, 111, 102, 45, 105, 110, 45, 99, 111, 109, 109, 101, 110, 116, 45, 101, 110, 100, 45, 100, 97, 115, 104]) (by kernel_rfl) ?_; refine ⟨rfl, ?_⟩; refine EX_cons ?_; refine E1_Expr ?_ (by rfl) (by rfl); refine EV_mcall ?_; refine EVaf hE (by kernel_rfl) (sS sH) ((setM_ne _ _ tq).trans (setM_old hD hT1)) (tS (tS (tS (tS (tS (tS (tS tH))))))) (fok (by kernel_rfl)) ?_; (with_reducible refine GM_append (setM_same _ _ _) ?_); refine CW_go1 (KeepOk.bf _) ?_; refine AR_cons ?_; refine EVaf hE (by kernel_rfl) (sS sH) ((setM_ne _ _ tq).trans (setM_old hD hT1)) (tS (tS (tS (tS (tS (tS tH)))))) (fok (by kernel_rfl)) ?_; refine AR_nil ?_; refine CA_append (setM_same _ _ _) (by simp; done) ?_; refine seq_next ?_; refine STA (g := 304) hE (by kernel_rfl) (sS sH) ((setM_ne _ _ tq).trans ((setM_ne _ _ tq).trans (setM_old hD hT1))) (ckNo (by kernel_rfl)) (mok (by kernel_rfl)) (sok (by kernel_rfl)) (.inl ⟨(by kernel_rfl), rfl⟩) (by decide) (fun _ => pck4) ?_; intro zz; refine EXn ?_; refine EXn ?_; refine EXn ?_; refine RETb ?_)
      refine hQ1 _ _ _ ?_; rw [hr]; exact ⟨rfl, _, _, ((h1.err hD _).emit.set _).weak, (((k1.new hD).que).que).tok, .inr ⟨⟨_, rfl⟩, rfl⟩⟩
theorem c_k4 (hP : P = Z.cx.w.params) {n : Nat} {M : Mem} {g : G} {T q lf Cm : Addr} {k : Nat} {c : List Nat} (h : CAt M g T q lf Cm k 0 .none c [] false []) (hcl : c.length ≤ 100000) :
    CL Z.cx (n + 7) (.ref 640) [.ref T] (fun v m => v = .bool true ∧ CrAt M m g T q lf Cm (cm4 g (WT' g) k c)) M := by
  have hTT := (top_types (Z := Z)) hP
  have tq := CAt.tq h
  refine CL_fn (binds := [("self", .ref T)]) (by rfl) (by kernel_rfl) ?_ (by kernel_rfl) ?_
  · intro vs e
    obtain ⟨v1, rfl, e1⟩ := vs1 e
    exact ⟨[("self", v1)], fun s hx => kp_binds hx (fun S => rfl), by simp [e1]⟩
  · intro fz L env hE he; subst he; refine EX_gen fun Qg1 hQ1 => ?_
    rw [bindL1]
    (have hT0 := CAt.hT h; have hq0 := CAt.hqF h; have hD0 := CAt.hD h; have hS0 := SAt.hS (CAt.hat h))
    (refine CHR (g := 133) hE (by kernel_rfl) sH hT0 ckf0 (fok (by kernel_rfl)) hS0 (SAt.no _ (by kernel_rfl)) (mok (by kernel_rfl)) (KeepOk.rf (by kernel_rfl)) ?_)
    refine CA_CL ((c_char (n := n) (CAt.hat h)).mono ?_) (by (first | lia | omega))
    (intro v m1 hq0; refine dn fun hG0 => ?_; rcases hq0 with ⟨kp1, ⟨x, hx, rfl, hat1⟩ | ⟨hx, rfl, hat1⟩⟩ <;> refine hG0 ?_ <;> clear hG0)
    · have h1 := CAt.step h kp1 hat1
      have k1 : KC g T q Cm M m1 := (KC.refl _ _ _ _ _).kp kp1
      (have hT1 := CAt.hT h1; have hq1 := CAt.hqF h1; have hD1 := CAt.hD h1; have hS1 := SAt.hS (CAt.hat h1))
      (refine STn hE (by kernel_rfl) ?_; refine IFs hE (by kernel_rfl) sH (t := [62]) (by kernel_rfl) ?_)
      (refine And.intro ?_ ?_ <;> intro hb <;> try (cases hb; done))
      · have e1 : x = 62 := by simpa using hb
        have hr : cm4 g (WT' g) k c = ⟨[], k + 1, c, true, false⟩ := by unfold cm4; rw [hx]; simp [e1]
        (refine EX_cons ?_; refine E1_Expr ?_ (by rfl) (by rfl); refine EV_mcall ?_; refine EVaf hE (by kernel_rfl) (sS sH) hT1 ckf7 (fok (by kernel_rfl)) ?_; (with_reducible refine GM_append hq1 ?_); refine CW_go1 (KeepOk.bf _) ?_; refine AR_cons ?_; refine EVaf hE (by kernel_rfl) (sS sH) hT1 ckf6 (fok (by kernel_rfl)) ?_; refine AR_nil ?_; refine CA_append hq1 (by simp; done) ?_; refine seq_next ?_)
        refine EX_abs (R := fun m' => ∃ us, CAt m' g T q lf Cm (k + 1) 1 .none (c) [] true us ∧ KC g T q Cm M m') ⟨_, h1.emit, k1.que⟩ ?_
        (intro m2 hq9; refine obEA hq9 ?_; clear hq9; intro us2 h2 k2)
        have hu2 := h2.usl rfl
        (have hT2 := CAt.hT h2; have hq2 := CAt.hq h2; have hD2 := CAt.hD h2; have hS2 := SAt.hS (CAt.hat h2))
        (refine STA (g := 304) hE (by kernel_rfl) (sS sH) hT2 (ckNo (by kernel_rfl)) (mok (by kernel_rfl)) (sok (by kernel_rfl)) (.inl ⟨(by kernel_rfl), rfl⟩) (by decide) (fun _ => pck4) ?_; intro zz; refine EXn ?_; refine RETb ?_)
        refine hQ1 _ _ _ ?_; rw [hr]; exact ⟨rfl, _, _, (h2.set _).weak, k2.tok, .inr ⟨⟨_, rfl⟩, rfl⟩⟩
      · have n62 : ¬ x = 62 := by simpa using hb
        (refine IFs hE (by kernel_rfl) sH (t := [0]) (by kernel_rfl) ?_)
        (refine And.intro ?_ ?_ <;> intro hb <;> try (cases hb; done))
        · have e1 : x = 0 := by simpa using hb
          have hr : cm4 g (WT' g) k c = ⟨[m_bad], k + 1, c ++ [45, 45, 65533], false, false⟩ := by unfold cm4; rw [hx]; simp [e1]
          (refine TOKg hE (by kernel_rfl) (sS sH) hT1 ckf7 (fok (by kernel_rfl)) hq1 (by kernel_rfl) (by kernel_rfl) (l1 := [80, 97, 114, 115, 101, 69, 114, 114, 111, 114]) (by kernel_rfl) hTT (tS (tS (tS (tS (tS (tS (tS tE))))))) (by simp; done) ?_; intro D hD; refine EV_str (l := [105, 110, 118, 97, 108, 105, 100, 45, 99, 111, 100, 101, 112, 111, 105, 110, 116]) (by kernel_rfl) ?_; refine ⟨rfl, ?_⟩)
          refine EX_abs (R := fun m' => ∃ us, CAt m' g T q lf Cm (k + 1) 1 .none (c) [m_bad] false us ∧ KC g T q Cm M m') ⟨_, h1.err hD _, (k1.new hD).que⟩ ?_
          (intro m2 hq9; refine obEA hq9 ?_; clear hq9; intro us2 h2 k2)
          have hu2 := h2.usl rfl
          (have hT2 := CAt.hT h2; have hq2 := CAt.hqF h2; have hD2 := CAt.hD h2; have hS2 := SAt.hS (CAt.hat h2))
          refine AUGD hE ((by kernel_rfl)) (by exact (sS sH)) hT2 (by exact (tS (tS (tS (tS (tS (tS tH))))))) ⟨by kernel_rfl, by kernel_rfl, none, by kernel_rfl, rfl⟩ hD2 ?_
          (refine EV_str (l := [45, 45, 65533]) (by kernel_rfl) ?_; (with_reducible first | refine exr ?_ | refine ⟨_, rfl, ?_⟩))
          refine ⟨hD2, by simp; (first | lia | omega), ?_⟩
          refine EX_abs (R := fun m' => ∃ us, CAt m' g T q lf Cm (k + 1) 1 .none (c ++ [45, 45, 65533]) [m_bad] false us ∧ KC g T q Cm M m') ⟨_, h2.dat _, k2.dat⟩ ?_
          (intro m3 hq9; refine obEA hq9 ?_; clear hq9; intro us3 h3 k3)
          have hu3 := h3.usl rfl
          (have hT3 := CAt.hT h3; have hq3 := CAt.hqF h3; have hD3 := CAt.hD h3; have hS3 := SAt.hS (CAt.hat h3))
          (refine STA (g := 626) hE (by kernel_rfl) (sS sH) hT3 (ckNo (by kernel_rfl)) (mok (by kernel_rfl)) (sok (by kernel_rfl)) (.inl ⟨(by kernel_rfl), rfl⟩) (by decide) (fun _ => pck4) ?_; intro zz; refine EXn ?_; refine EXn ?_; refine RETb ?_)
          refine hQ1 _ _ _ ?_; rw [hr]; exact ⟨rfl, _, _, (h3.set _).weak, k3.tok, .inr ⟨⟨_, rfl⟩, rfl⟩⟩
        · have n0 : ¬ x = 0 := by simpa using hb
          (refine IFs hE (by kernel_rfl) sH (t := [33]) (by kernel_rfl) ?_)
          (refine And.intro ?_ ?_ <;> intro hb <;> try (cases hb; done))
          · have e1 : x = 33 := by simpa using hb
            have hr : cm4 g (WT' g) k c = ⟨[m_bang], k + 1, c, false, false⟩ := by unfold cm4; rw [hx]; simp [e1]
            (refine TOKg hE (by kernel_rfl) (sS sH) hT1 ckf7 (fok (by kernel_rfl)) hq1 (by kernel_rfl) (by kernel_rfl) (l1 := [80, 97, 114, 115, 101, 69, 114, 114, 111, 114]) (by kernel_rfl) hTT (tS (tS (tS (tS (tS (tS (tS tE))))))) (by simp; done) ?_; intro D hD; refine EV_str (l := [117, 110, 101, 120, 112, 101, 99, 116, 101, 100, 45, 98, 97, 110, 103, 45, 97, 102, 116, 101, 114, 45, 100, 111, 117, 98, 108, 101, 45, 100, 97, 115, 104, 45, 105, 110, 45, 99, 111, 109, 109, 101, 110, 116]) (by kernel_rfl) ?_; refine ⟨rfl, ?_⟩)
            refine EX_abs (R := fun m' => ∃ us, CAt m' g T q lf Cm (k + 1) 1 .none (c) [m_bang] false us ∧ KC g T q Cm M m') ⟨_, h1.err hD _, (k1.new hD).que⟩ ?_
            (intro m2 hq9; refine obEA hq9 ?_; clear hq9; intro us2 h2 k2)
            have hu2 := h2.usl rfl
            (have hT2 := CAt.hT h2; have hq2 := CAt.hqF h2; have hD2 := CAt.hD h2; have hS2 := SAt.hS (CAt.hat h2))
            (refine STA (g := 647) hE (by kernel_rfl) (sS sH) hT2 (ckNo (by kernel_rfl)) (mok (by kernel_rfl)) (sok (by kernel_rfl)) (.inl ⟨(by kernel_rfl), rfl⟩) (by decide) (fun _ => pck4) ?_; intro zz; refine EXn ?_; refine EXn ?_; refine EXn ?_; refine RETb ?_)
            refine hQ1 _ _ _ ?_; rw [hr]; exact ⟨rfl, _, _, (h2.set _).weak, k2.tok, .inr ⟨⟨_, rfl⟩, rfl⟩⟩
          · have n33 : ¬ x = 33 := by simpa using hb
            (refine IFs hE (by kernel_rfl) sH (t := [45]) (by kernel_rfl) ?_)
            (refine And.intro ?_ ?_ <;> intro hb <;> try (cases hb; done))
            · have e1 : x = 45 := by simpa using hb
              have hr : cm4 g (WT' g) k c = ⟨[m_dash], k + 1, c ++ [x], false, true⟩ := by unfold cm4; rw [hx]; simp [e1]
              (refine TOKg hE (by kernel_rfl) (sS sH) hT1 ckf7 (fok (by kernel_rfl)) hq1 (by kernel_rfl) (by kernel_rfl) (l1 := [80, 97, 114, 115, 101, 69, 114, 114, 111, 114]) (by kernel_rfl) hTT (tS (tS (tS (tS (tS (tS (tS tE))))))) (by simp; done) ?_; intro D hD; refine EV_str (l := [117, 110, 101, 120, 112, 101, 99, 116, 101, 100, 45, 100, 97, 115, 104, 45, 97, 102, 116, 101, 114, 45, 100, 111, 117, 98, 108, 101, 45, 100, 97, 115, 104, 45, 105, 110, 45, 99, 111, 109, 109, 101, 110, 116]) (by kernel_rfl) ?_; refine ⟨rfl, ?_⟩)
              refine EX_abs (R := fun m' => ∃ us, CAt m' g T q lf Cm (k + 1) 1 .none (c) [m_dash] false us ∧ KC g T q Cm M m') ⟨_, h1.err hD _, (k1.new hD).que⟩ ?_
              (intro m2 hq9; refine obEA hq9 ?_; clear hq9; intro us2 h2 k2)
              have hu2 := h2.usl rfl
              (have hT2 := CAt.hT h2; have hq2 := CAt.hqF h2; have hD2 := CAt.hD h2; have hS2 := SAt.hS (CAt.hat h2))
              refine AUGD hE ((by kernel_rfl)) (by exact (sS sH)) hT2 (by exact (tS (tS (tS (tS (tS (tS tH))))))) ⟨by kernel_rfl, by kernel_rfl, none, by kernel_rfl, rfl⟩ hD2 ?_
              (refine EV_local hE (by kernel_rfl) sH ?_; (with_reducible first | refine exr ?_ | refine ⟨_, rfl, ?_⟩))
              refine ⟨hD2, by simp; (first | lia | omega), ?_⟩
              refine EX_abs (R := fun m' => ∃ us, CAt m' g T q lf Cm (k + 1) 1 .none (c ++ [x]) [m_dash] false us ∧ KC g T q Cm M m') ⟨_, h2.dat _, k2.dat⟩ ?_
              (intro m3 hq9; refine obEA hq9 ?_; clear hq9; intro us3 h3 k3)
              have hu3 := h3.usl rfl
              (have hT3 := CAt.hT h3; have hq3 := CAt.hqF h3; have hD3 := CAt.hD h3; have hS3 := SAt.hS (CAt.hat h3))
              (refine EXn ?_; refine EXn ?_; refine EXn ?_; refine EXn ?_; refine RETb ?_)
              refine hQ1 _ _ _ ?_; rw [hr]; exact ⟨rfl, _, _, h3.weak, k3, .inl ⟨rfl, rfl⟩⟩
            · have n45 : ¬ x = 45 := by simpa using hb
              (refine IFc hE (by kernel_rfl) sH ?_; refine EV_gnone hE (by kernel_rfl) (by kernel_rfl) ?_; (with_reducible refine O2_is_none ?_); (with_reducible refine TR_bool ?_))
              (refine And.intro ?_ ?_ <;> intro hb <;> try (cases hb; done))
              have hr : cm4 g (WT' g) k c = ⟨[m_char], k + 1, c ++ [45, 45, x], false, false⟩ := by unfold cm4; rw [hx]; simp [n62, n0, n33, n45]
              (refine TOKg hE (by kernel_rfl) (sS sH) hT1 ckf7 (fok (by kernel_rfl)) hq1 (by kernel_rfl) (by kernel_rfl) (l1 := [80, 97, 114, 115, 101, 69, 114, 114, 111, 114]) (by kernel_rfl) hTT (tS (tS (tS (tS (tS (tS (tS tE))))))) (by simp; done) ?_; intro D hD; refine EV_str (l := [117, 110, 101, 120, 112, 101, 99, 116, 101, 100, 45, 99, 104, 97, 114, 45, 105, 110, 45, 99, 111, 109, 109, 101, 110, 116]) (by kernel_rfl) ?_; refine ⟨rfl, ?_⟩)
              refine EX_abs (R := fun m' => ∃ us, CAt m' g T q lf Cm (k + 1) 1 .none (c) [m_char] false us ∧ KC g T q Cm M m') ⟨_, h1.err hD _, (k1.new hD).que⟩ ?_
              (intro m2 hq9; refine obEA hq9 ?_; clear hq9; intro us2 h2 k2)
              have hu2 := h2.usl rfl
              (have hT2 := CAt.hT h2; have hq2 := CAt.hqF h2; have hD2 := CAt.hD h2; have hS2 := SAt.hS (CAt.hat h2))
              refine AUGD hE ((by kernel_rfl)) (by exact (sS sH)) hT2 (by exact (tS (tS (tS (tS (tS (tS tH))))))) ⟨by kernel_rfl, by kernel_rfl, none, by kernel_rfl, rfl⟩ hD2 ?_
              (refine EV_binop ?_; refine EV_str (l := [45, 45]) (by kernel_rfl) ?_; refine EV_local hE (by kernel_rfl) sH ?_; (with_reducible refine O2_add_str ?_ ?_); rotate_left; (with_reducible first | refine exr ?_ | refine ⟨_, rfl, ?_⟩); rotate_left)
              · simp
              refine ⟨hD2, by simp; (first | lia | omega), ?_⟩
              refine EX_abs (R := fun m' => ∃ us, CAt m' g T q lf Cm (k + 1) 1 .none (c ++ [45, 45, x]) [m_char] false us ∧ KC g T q Cm M m') ⟨_, h2.dat _, k2.dat⟩ ?_
              (intro m3 hq9; refine obEA hq9 ?_; clear hq9; intro us3 h3 k3)
              have hu3 := h3.usl rfl
              (have hT3 := CAt.hT h3; have hq3 := CAt.hqF h3; have hD3 := CAt.hD h3; have hS3 := SAt.hS (CAt.hat h3))
              (refine STA (g := 626) hE (by kernel_rfl) (sS sH) hT3 (ckNo (by kernel_rfl)) (mok (by kernel_rfl)) (sok (by kernel_rfl)) (.inl ⟨(by kernel_rfl), rfl⟩) (by decide) (fun _ => pck4) ?_; intro zz; refine EXn ?_; refine EXn ?_; refine EXn ?_; refine EXn ?_; refine EXn ?_; refine RETb ?_)
              refine hQ1 _ _ _ ?_; rw [hr]; exact ⟨rfl, _, _, (h3.set _).weak, k3.tok, .inr ⟨⟨_, rfl⟩, rfl⟩⟩
    · have h1 := CAt.step h kp1 hat1
      have k1 : KC g T q Cm M m1 := (KC.refl _ _ _ _ _).kp kp1
      (have hT1 := CAt.hT h1; have hq1 := CAt.hqF h1; have hD1 := CAt.hD h1; have hS1 := SAt.hS (CAt.hat h1))
      have hr : cm4 g (WT' g) k c = ⟨[m_eof4], k, c, true, false⟩ := by unfold cm4; rw [hx]
      (refine STn hE (by kernel_rfl) ?_; refine IFn hE (by kernel_rfl) sH (t := [62]) (by kernel_rfl) ?_; refine IFn hE (by kernel_rfl) sH (t := [0]) (by kernel_rfl) ?_; refine IFn hE (by kernel_rfl) sH (t := [33]) (by kernel_rfl) ?_; refine IFn hE (by kernel_rfl) sH (t := [45]) (by kernel_rfl) ?_; refine IFc hE (by kernel_rfl) sH ?_; refine EV_gnone hE (by kernel_rfl) (by kernel_rfl) ?_; (with_reducible refine O2_is_none ?_); (with_reducible refine TR_bool ?_); (refine And.intro ?_ ?_ <;> intro hb <;> try (cases hb; done)); refine TOKg hE (by kernel_rfl) (sS sH) hT1 ckf7 (fok (by kernel_rfl)) hq1 (by kernel_rfl) (by kernel_rfl) (l1 := [80, 97, 114, 115, 101, 69, 114, 114, 111, 114]) (by kernel_rfl) hTT (tS (tS (tS (tS (tS (tS (tS tE))))))) (by simp; done) ?_; intro D hD; refine EV_str (l := [101, 111, 102, 45, 105, 110, 45, 99, 111, 109, 109, 101, 110, 116, 45, 100, 111, 117, 98, 108, 101, 45, 100, 97, 115, 104]) (by kernel_rfl) ?_; refine ⟨rfl, ?_⟩; refine EX_cons ?_; refine E1_Expr ?_ (by rfl) (by rfl); refine EV_mcall ?_; refine EVaf hE (by kernel_rfl) (sS sH) ((setM_ne _ _ tq).trans (setM_old hD hT1)) (tS (tS (tS (tS (tS (tS (tS tH))))))) (fok (by kernel_rfl)) ?_; (with_reducible refine GM_append (setM_same _ _ _) ?_); refine CW_go1 (KeepOk.bf _) ?_; refine AR_cons ?_; refine EVaf hE (by kernel_rfl) (sS sH) ((setM_ne _ _ tq).trans (setM_old hD hT1)) (tS (tS (tS (tS (tS (tS tH)))))) (fok (by kernel_rfl)) ?_; refine AR_nil ?_; refine CA_append (setM_same _ _ _) (by simp; done) ?_; refine seq_next ?_; refine STA (g := 304) hE (by kernel_rfl) (sS sH) ((setM_ne _ _ tq).trans ((setM_ne _ _ tq).trans (setM_old hD hT1))) (ckNo (by kernel_rfl)) (mok (by kernel_rfl)) (sok (by kernel_rfl)) (.inl ⟨(by kernel_rfl), rfl⟩) (by decide) (fun _ => pck4) ?_; intro zz; refine EXn ?_; refine EXn ?_; refine EXn ?_; refine EXn ?_; refine EXn ?_; refine RETb ?_)
      refine hQ1 _ _ _ ?_; rw [hr]; exact ⟨rfl, _, _, ((h1.err hD _).emit.set _).weak, (((k1.new hD).que).que).tok, .inr ⟨⟨_, rfl⟩, rfl⟩⟩
theorem c_k5 (hP : P = Z.cx.w.params) {n : Nat} {M : Mem} {g : G} {T q lf Cm : Addr} {k : Nat} {c : List Nat} (h : CAt M g T q lf Cm k 0 .none c [] false []) (hcl : c.length ≤ 100000) :
    CL Z.cx (n + 7) (.ref 647) [.ref T] (fun v m => v = .bool true ∧ CrAt M m g T q lf Cm (cm5 g (WT' g) k c)) M := by
  have hTT := (top_types (Z := Z)) hP
  have tq := CAt.tq h
  refine CL_fn (binds := [("self", .ref T)]) (by rfl) (by kernel_rfl) ?_ (by kernel_rfl) ?_
  · intro vs e
    obtain ⟨v1, rfl, e1⟩ := vs1 e
    exact ⟨[("self", v1)], fun s hx => kp_binds hx (fun S => rfl), by simp [e1]⟩
  · intro fz L env hE he; subst he; refine EX_gen fun Qg1 hQ1 => ?_
    rw [bindL1]
    (have hT0 := CAt.hT h; have hq0 := CAt.hqF h; have hD0 := CAt.hD h; have hS0 := SAt.hS (CAt.hat h))
    (refine CHR (g := 133) hE (by kernel_rfl) sH hT0 ckf0 (fok (by kernel_rfl)) hS0 (SAt.no _ (by kernel_rfl)) (mok (by kernel_rfl)) (KeepOk.rf (by kernel_rfl)) ?_)
    refine CA_CL ((c_char (n := n) (CAt.hat h)).mono ?_) (by (first | lia | omega))
    (intro v m1 hq0; refine dn fun hG0 => ?_; rcases hq0 with ⟨kp1, ⟨x, hx, rfl, hat1⟩ | ⟨hx, rfl, hat1⟩⟩ <;> refine hG0 ?_ <;> clear hG0)
    · have h1 := CAt.step h kp1 hat1
      have k1 : KC g T q Cm M m1 := (KC.refl _ _ _ _ _).kp kp1
      (have hT1 := CAt.hT h1; have hq1 := CAt.hqF h1; have hD1 := CAt.hD h1; have hS1 := SAt.hS (CAt.hat h1))
      (refine STn hE (by kernel_rfl) ?_; refine IFs hE (by kernel_rfl) sH (t := [62]) (by kernel_rfl) ?_)
      (refine And.intro ?_ ?_ <;> intro hb <;> try (cases hb; done))
      · have e1 : x = 62 := by simpa using hb
        have hr : cm5 g (WT' g) k c = ⟨[], k + 1, c, true, false⟩ := by unfold cm5; rw [hx]; simp [e1]
        (refine EX_cons ?_; refine E1_Expr ?_ (by rfl) (by rfl); refine EV_mcall ?_; refine EVaf hE (by kernel_rfl) (sS sH) hT1 ckf7 (fok (by kernel_rfl)) ?_; (with_reducible refine GM_append hq1 ?_); refine CW_go1 (KeepOk.bf _) ?_; refine AR_cons ?_; refine EVaf hE (by kernel_rfl) (sS sH) hT1 ckf6 (fok (by kernel_rfl)) ?_; refine AR_nil ?_; refine CA_append hq1 (by simp; done) ?_; refine seq_next ?_)
        refine EX_abs (R := fun m' => ∃ us, CAt m' g T q lf Cm (k + 1) 1 .none (c) [] true us ∧ KC g T q Cm M m') ⟨_, h1.emit, k1.que⟩ ?_
        (intro m2 hq9; refine obEA hq9 ?_; clear hq9; intro us2 h2 k2)
        have hu2 := h2.usl rfl
        (have hT2 := CAt.hT h2; have hq2 := CAt.hq h2; have hD2 := CAt.hD h2; have hS2 := SAt.hS (CAt.hat h2))
        (refine STA (g := 304) hE (by kernel_rfl) (sS sH) hT2 (ckNo (by kernel_rfl)) (mok (by kernel_rfl)) (sok (by kernel_rfl)) (.inl ⟨(by kernel_rfl), rfl⟩) (by decide) (fun _ => pck4) ?_; intro zz; refine EXn ?_; refine RETb ?_)
        refine hQ1 _ _ _ ?_; rw [hr]; exact ⟨rfl, _, _, (h2.set _).weak, k2.tok, .inr ⟨⟨_, rfl⟩, rfl⟩⟩
      · have n62 : ¬ x = 62 := by simpa using hb
        (refine IFs hE (by kernel_rfl) sH (t := [45]) (by kernel_rfl) ?_)
        (refine And.intro ?_ ?_ <;> intro hb <;> try (cases hb; done))
        · have e1 : x = 45 := by simpa using hb
          have hr : cm5 g (WT' g) k c = ⟨[], k + 1, c ++ [45, 45, 33], false, false⟩ := by unfold cm5; rw [hx]; simp [e1]
          refine AUGD hE ((by kernel_rfl)) (by exact (sS sH)) hT1 (by exact (tS (tS (tS (tS (tS (tS tH))))))) ⟨by kernel_rfl, by kernel_rfl, none, by kernel_rfl, rfl⟩ hD1 ?_
          (refine EV_str (l := [45, 45, 33]) (by kernel_rfl) ?_; (with_reducible first | refine exr ?_ | refine ⟨_, rfl, ?_⟩))
          refine ⟨hD1, by simp; (first | lia | omega), ?_⟩
          refine EX_abs (R := fun m' => ∃ us, CAt m' g T q lf Cm (k + 1) 1 .none (c ++ [45, 45, 33]) [] false us ∧ KC g T q Cm M m') ⟨_, h1.dat _, k1.dat⟩ ?_
          (intro m2 hq9; refine obEA hq9 ?_; clear hq9; intro us2 h2 k2)
          have hu2 := h2.usl rfl
          (have hT2 := CAt.hT h2; have hq2 := CAt.hqF h2; have hD2 := CAt.hD h2; have hS2 := SAt.hS (CAt.hat h2))
          (refine STA (g := 633) hE (by kernel_rfl) (sS sH) hT2 (ckNo (by kernel_rfl)) (mok (by kernel_rfl)) (sok (by kernel_rfl)) (.inl ⟨(by kernel_rfl), rfl⟩) (by decide) (fun _ => pck4) ?_; intro zz; refine EXn ?_; refine EXn ?_; refine RETb ?_)
          refine hQ1 _ _ _ ?_; rw [hr]; exact ⟨rfl, _, _, (h2.set _).weak, k2.tok, .inr ⟨⟨_, rfl⟩, rfl⟩⟩
        · have n45 : ¬ x = 45 := by simpa using hb
          (refine IFs hE (by kernel_rfl) sH (t := [0]) (by kernel_rfl) ?_)
          (refine And.intro ?_ ?_ <;> intro hb <;> try (cases hb; done))
          · have e1 : x = 0 := by simpa using hb
            have hr : cm5 g (WT' g) k c = ⟨[m_bad], k + 1, c ++ [45, 45, 33, 65533], false, false⟩ := by unfold cm5; rw [hx]; simp [e1]
            (refine TOKg hE (by kernel_rfl) (sS sH) hT1 ckf7 (fok (by kernel_rfl)) hq1 (by kernel_rfl) (by kernel_rfl) (l1 := [80, 97, 114, 115, 101, 69, 114, 114, 111, 114]) (by kernel_rfl) hTT (tS (tS (tS (tS (tS (tS (tS tE))))))) (by simp; done) ?_; intro D hD; refine EV_str (l := [105, 110, 118, 97, 108, 105, 100, 45, 99, 111, 100, 101, 112, 111, 105, 110, 116]) (by kernel_rfl) ?_; refine ⟨rfl, ?_⟩)
            refine EX_abs (R := fun m' => ∃ us, CAt m' g T q lf Cm (k + 1) 1 .none (c) [m_bad] false us ∧ KC g T q Cm M m') ⟨_, h1.err hD _, (k1.new hD).que⟩ ?_
            (intro m2 hq9; refine obEA hq9 ?_; clear hq9; intro us2 h2 k2)
            have hu2 := h2.usl rfl
            (have hT2 := CAt.hT h2; have hq2 := CAt.hqF h2; have hD2 := CAt.hD h2; have hS2 := SAt.hS (CAt.hat h2))
            refine AUGD hE ((by kernel_rfl)) (by exact (sS sH)) hT2 (by exact (tS (tS (tS (tS (tS (tS tH))))))) ⟨by kernel_rfl, by kernel_rfl, none, by kernel_rfl, rfl⟩ hD2 ?_
            (refine EV_str (l := [45, 45, 33, 65533]) (by kernel_rfl) ?_; (with_reducible first | refine exr ?_ | refine ⟨_, rfl, ?_⟩))
            refine ⟨hD2, by simp; (first | lia | omega), ?_⟩
            refine EX_abs (R := fun m' => ∃ us, CAt m' g T q lf Cm (k + 1) 1 .none (c ++ [45, 45, 33, 65533]) [m_bad] false us ∧ KC g T q Cm M m') ⟨_, h2.dat _, k2.dat⟩ ?_
            (intro m3 hq9; refine obEA hq9 ?_; clear hq9; intro us3 h3 k3)
            have hu3 := h3.usl rfl
            (have hT3 := CAt.hT h3; have hq3 := CAt.hqF h3; have hD3 := CAt.hD h3; have hS3 := SAt.hS (CAt.hat h3))
            (refine STA (g := 626) hE (by kernel_rfl) (sS sH) hT3 (ckNo (by kernel_rfl)) (mok (by kernel_rfl)) (sok (by kernel_rfl)) (.inl ⟨(by kernel_rfl), rfl⟩) (by decide) (fun _ => pck4) ?_; intro zz; refine EXn ?_; refine EXn ?_; refine EXn ?_; refine RETb ?_)
            refine hQ1 _ _ _ ?_; rw [hr]; exact ⟨rfl, _, _, (h3.set _).weak, k3.tok, .inr ⟨⟨_, rfl⟩, rfl⟩⟩
          · have n0 : ¬ x = 0 := by simpa using hb
            (refine IFc hE (by kernel_rfl) sH ?_; refine EV_gnone hE (by kernel_rfl) (by kernel_rfl) ?_; (with_reducible refine O2_is_none ?_); (with_reducible refine TR_bool ?_))
            (refine And.intro ?_ ?_ <;> intro hb <;> try (cases hb; done))
            have hr : cm5 g (WT' g) k c = ⟨[], k + 1, c ++ [45, 45, 33, x], false, false⟩ := by unfold cm5; rw [hx]; simp [n62, n45, n0]
            refine AUGD hE ((by kernel_rfl)) (by exact (sS sH)) hT1 (by exact (tS (tS (tS (tS (tS (tS tH))))))) ⟨by kernel_rfl, by kernel_rfl, none, by kernel_rfl, rfl⟩ hD1 ?_
            (refine EV_binop ?_; refine EV_str (l := [45, 45, 33]) (by kernel_rfl) ?_; refine EV_local hE (by kernel_rfl) sH ?_; (with_reducible refine O2_add_str ?_ ?_); rotate_left; (with_reducible first | refine exr ?_ | refine ⟨_, rfl, ?_⟩); rotate_left)
            · simp
            refine ⟨hD1, by simp; (first | lia | omega), ?_⟩
            refine EX_abs (R := fun m' => ∃ us, CAt m' g T q lf Cm (k + 1) 1 .none (c ++ [45, 45, 33, x]) [] false us ∧ KC g T q Cm M m') ⟨_, h1.dat _, k1.dat⟩ ?_
            (intro m2 hq9; refine obEA hq9 ?_; clear hq9; intro us2 h2 k2)
            have hu2 := h2.usl rfl
            (have hT2 := CAt.hT h2; have hq2 := CAt.hqF h2; have hD2 := CAt.hD h2; have hS2 := SAt.hS (CAt.hat h2))
            (refine STA (g := 626) hE (by kernel_rfl) (sS sH) hT2 (ckNo (by kernel_rfl)) (mok (by kernel_rfl)) (sok (by kernel_rfl)) (.inl ⟨(by kernel_rfl), rfl⟩) (by decide) (fun _ => pck4) ?_; intro zz; refine EXn ?_; refine EXn ?_; refine EXn ?_; refine EXn ?_; refine RETb ?_)
            refine hQ1 _ _ _ ?_; rw [hr]; exact ⟨rfl, _, _, (h2.set _).weak, k2.tok, .inr ⟨⟨_, rfl⟩, rfl⟩⟩
    · have h1 := CAt.step h kp1 hat1
      have k1 : KC g T q Cm M m1 := (KC.refl _ _ _ _ _).kp kp1
      (have hT1 := CAt.hT h1; have hq1 := CAt.hqF h1; have hD1 := CAt.hD h1; have hS1 := SAt.hS (CAt.hat h1))
      have hr : cm5 g (WT' g) k c = ⟨[m_eof5], k, c, true, false⟩ := by unfold cm5; rw [hx]
      (refine STn hE (by kernel_rfl) ?_; refine IFn hE (by kernel_rfl) sH (t := [62]) (by kernel_rfl) ?_; refine IFn hE (by kernel_rfl) sH (t := [45]) (by kernel_rfl) ?_; refine IFn hE (by kernel_rfl) sH (t := [0]) (by kernel_rfl) ?_; refine IFc hE (by kernel_rfl) sH ?_; refine EV_gnone hE (by kernel_rfl) (by kernel_rfl) ?_; (with_reducible refine O2_is_none ?_); (with_reducible refine TR_bool ?_); (refine And.intro ?_ ?_ <;> intro hb <;> try (cases hb; done)); refine TOKg hE (by kernel_rfl) (sS sH) hT1 ckf7 (fok (by kernel_rfl)) hq1 (by kernel_rfl) (by kernel_rfl) (l1 := [80, 97, 114, 115, 101, 69, 114, 114, 111, 114]) (by kernel_rfl) hTT (tS (tS (tS (tS (tS (tS (tS tE))))))) (by simp; done) ?_; intro D hD; refine EV_str (l := [101, 111, 102, 45, 105, 110, 45, 99, 111, 109, 109, 101, 110, 116, 45, 101, 110, 100, 45, 98, 97, 110, 103, 45, 115, 116, 97, 116, 101]) (by kernel_rfl) ?_; refine ⟨rfl, ?_⟩; refine EX_cons ?_; refine E1_Expr ?_ (by rfl) (by rfl); refine EV_mcall ?_; refine EVaf hE (by kernel_rfl) (sS sH) ((setM_ne _ _ tq).trans (setM_old hD hT1)) (tS (tS (tS (tS (tS (tS (tS tH))))))) (fok (by kernel_rfl)) ?_; (with_reducible refine GM_append (setM_same _ _ _) ?_); refine CW_go1 (KeepOk.bf _) ?_; refine AR_cons ?_; refine EVaf hE (by kernel_rfl) (sS sH) ((setM_ne _ _ tq).trans (setM_old hD hT1)) (tS (tS (tS (tS (tS (tS tH)))))) (fok (by kernel_rfl)) ?_; refine AR_nil ?_; refine CA_append (setM_same _ _ _) (by simp; done) ?_; refine seq_next ?_; refine STA (g := 304) hE (by kernel_rfl) (sS sH) ((setM_ne _ _ tq).trans ((setM_ne _ _ tq).trans (setM_old hD hT1))) (ckNo (by kernel_rfl)) (mok (by kernel_rfl)) (sok (by kernel_rfl)) (.inl ⟨(by kernel_rfl), rfl⟩) (by decide) (fun _ => pck4) ?_; intro zz; refine EXn ?_; refine EXn ?_; refine EXn ?_; refine EXn ?_; refine RETb ?_)
      refine hQ1 _ _ _ ?_; rw [hr]; exact ⟨rfl, _, _, ((h1.err hD _).emit.set _).weak, (((k1.new hD).que).que).tok, .inr ⟨⟨_, rfl⟩, rfl⟩⟩
end
end Mine
end
section
open PySem PySem.W PyProof.Rows
set_option maxRecDepth 100000
set_option maxHeartbeats 4000000
set_option linter.unusedVariables false
namespace Mine
noncomputable def heldL : List (List Nat) := [[], [120], [45, 45], [60, 33, 45]]
noncomputable def behindL : List (List Nat) := [[], [45], [], [45], [45, 45], [45, 45, 33]]
noncomputable def cutL : List (List Nat) := [[101, 111, 102, 45, 105, 110, 45, 99, 111, 109, 109, 101, 110, 116], [101, 111, 102, 45, 105, 110, 45, 99, 111, 109, 109, 101, 110, 116], [101, 111, 102, 45, 105, 110, 45, 99, 111, 109, 109, 101, 110, 116], [101, 111, 102, 45, 105, 110, 45, 99, 111, 109, 109, 101, 110, 116, 45, 101, 110, 100, 45, 100, 97, 115, 104], [101, 111, 102, 45, 105, 110, 45, 99, 111, 109, 109, 101, 110, 116, 45, 100, 111, 117, 98, 108, 101, 45, 100, 97, 115, 104], [101, 111, 102, 45, 105, 110, 45, 99, 111, 109, 109, 101, 110, 116, 45, 101, 110, 100, 45, 98, 97, 110, 103, 45, 115, 116, 97, 116, 101]]
section
variable {Z : Cz} {P : Params}
theorem c_held {n : Nat} {M : Mem} : CL Z.cx (n + 1) (.ref 774) [] (fun v m => ∃ D, M D = none ∧ v = .ref D ∧ m = setM M D (.lst (strsV heldL))) M := by
  refine CL_fn (binds := []) (by rfl) (by kernel_rfl) ?_ (by kernel_rfl) ?_
  · intro vs e
    have := vs0 e
    subst this
    exact ⟨[], fun s hx => kp_binds hx (fun S => rfl), by simp⟩
  · intro fz L env hE he; subst he
    (refine EX_cons ?_; refine E1_Return ?_; refine EV_list ?_; refine AR_cons ?_; refine EV_str (l := []) (by kernel_rfl) ?_; refine AR_cons ?_; refine EV_str (l := [120]) (by kernel_rfl) ?_; refine AR_cons ?_; refine EV_str (l := [45, 45]) (by kernel_rfl) ?_; refine AR_cons ?_; refine EV_str (l := [60, 33, 45]) (by kernel_rfl) ?_; refine AR_nil ?_)
    refine ⟨by simp, fun D hD => ?_⟩
    refine seq_ret ?_
    exact ⟨D, hD, rfl, by kernel_rfl⟩
theorem c_behind {n : Nat} {M : Mem} : CL Z.cx (n + 1) (.ref 781) [] (fun v m => ∃ D, M D = none ∧ v = .ref D ∧ m = setM M D (.lst (strsV behindL))) M := by
  refine CL_fn (binds := []) (by rfl) (by kernel_rfl) ?_ (by kernel_rfl) ?_
  · intro vs e
    have := vs0 e
    subst this
    exact ⟨[], fun s hx => kp_binds hx (fun S => rfl), by simp⟩
  · intro fz L env hE he; subst he
    (refine EX_cons ?_; refine E1_Return ?_; refine EV_list ?_; refine AR_cons ?_; refine EV_str (l := []) (by kernel_rfl) ?_; refine AR_cons ?_; refine EV_str (l := [45]) (by kernel_rfl) ?_; refine AR_cons ?_; refine EV_str (l := []) (by kernel_rfl) ?_; refine AR_cons ?_; refine EV_str (l := [45]) (by kernel_rfl) ?_; refine AR_cons ?_; refine EV_str (l := [45, 45]) (by kernel_rfl) ?_; refine AR_cons ?_; refine EV_str (l := [45, 45, 33]) (by kernel_rfl) ?_; refine AR_nil ?_)
    refine ⟨by simp, fun D hD => ?_⟩
    refine seq_ret ?_
    exact ⟨D, hD, rfl, by kernel_rfl⟩
theorem c_cut {n : Nat} {M : Mem} : CL Z.cx (n + 1) (.ref 802) [] (fun v m => ∃ D, M D = none ∧ v = .ref D ∧ m = setM M D (.lst (strsV cutL))) M := by
  refine CL_fn (binds := []) (by rfl) (by kernel_rfl) ?_ (by kernel_rfl) ?_
  · intro vs e
    have := vs0 e
    subst this
    exact ⟨[], fun s hx => kp_binds hx (fun S => rfl), by simp⟩
  · intro fz L env hE he; subst he
    (refine EX_cons ?_; refine E1_Return ?_; refine EV_list ?_; refine AR_cons ?_; refine EV_str (l := [101, 111, 102, 45, 105, 110, 45, 99, 111, 109, 109, 101, 110, 116]) (by kernel_rfl) ?_; refine AR_cons ?_; refine EV_str (l := [101, 111, 102, 45, 105, 110, 45, 99, 111, 109, 109, 101, 110, 116]) (by kernel_rfl) ?_; refine AR_cons ?_; refine EV_str (l := [101, 111, 102, 45, 105, 110, 45, 99, 111, 109, 109, 101, 110, 116]) (by kernel_rfl) ?_; refine AR_cons ?_; refine EV_str (l := [101, 111, 102, 45, 105, 110, 45, 99, 111, 109, 109, 101, 110, 116, 45, 101, 110, 100, 45, 100, 97, 115, 104]) (by kernel_rfl) ?_; refine AR_cons ?_; refine EV_str (l := [101, 111, 102, 45, 105, 110, 45, 99, 111, 109, 109, 101, 110, 116, 45, 100, 111, 117, 98, 108, 101, 45, 100, 97, 115, 104]) (by kernel_rfl) ?_; refine AR_cons ?_; refine EV_str (l := [101, 111, 102, 45, 105, 110, 45, 99, 111, 109, 109, 101, 110, 116, 45, 101, 110, 100, 45, 98, 97, 110, 103, 45, 115, 116, 97, 116, 101]) (by kernel_rfl) ?_; refine AR_nil ?_)
    refine ⟨by simp, fun D hD => ?_⟩
    refine seq_ret ?_
    exact ⟨D, hD, rfl, by kernel_rfl⟩
noncomputable def cmS (st : Nat) (g : G) (W : List Nat) (k : Nat) (c : List Nat) : Cres := match st with
  | 0 => cm0 g W k c | 1 => cm1 g W k c | 2 => cm2 g W k c | 3 => cm3 g W k c | 4 => cm4 g W k c | _ => cm5 g W k c
theorem c_call5 (hP : P = Z.cx.w.params) {n : Nat} {M : Mem} {g : G} {T q lf Cm : Addr} {k st : Nat} {c : List Nat} (hst : st < 6) (h : CAt M g T q lf Cm k 0 .none c [] false []) (hcl : c.length ≤ 100000) :
    CL Z.cx (n + 8) (.ref 837) [.ref T, .int st 0] (fun v m => v = .bool true ∧ CrAt M m g T q lf Cm (cmS st g (WT' g) k c)) M := by
  refine CL_fn (binds := [("t", .ref T), ("state", .int st 0)]) (by rfl) (by kernel_rfl) ?_ (by kernel_rfl) ?_
  · intro vs e
    obtain ⟨v1, v2, rfl, e1, e2⟩ := vs2 e
    exact ⟨[("t", v1), ("state", v2)], fun s hx => kp_binds hx (fun S => rfl), by simp [e1, e2]⟩
  · intro fz L env hE he; subst he
    rw [bindL2]
    have hT := h.hT
    match st, hst with
    | 0, _ =>
      (refine IFi hE (by kernel_rfl) sH ?_; (refine And.intro ?_ ?_ <;> intro hb <;> try (cases hb; done)); refine EX_cons ?_; refine E1_Return ?_; refine EV_mcall ?_; refine EV_local hE (by kernel_rfl) (sS sH) ?_; refine GM_meth (g := 612) hT (ckNo (by kernel_rfl)) (mok (by kernel_rfl)) ?_; refine CW_go1 (KeepOk.rf (by kernel_rfl)) ?_; refine AR_nil ?_)
      refine CA_CL ((c_k0 hP (n := n) h hcl).mono ?_) (by (first | lia | omega))
      (refine el1 ?_; intro m r)
      (refine seq_ret ?_; refine seq_ret ?_)
      exact ⟨rfl, r⟩
    | 1, _ =>
      (refine IFiN hE (by kernel_rfl) sH (by kernel_rfl) ?_; refine IFi hE (by kernel_rfl) sH ?_; (refine And.intro ?_ ?_ <;> intro hb <;> try (cases hb; done)); refine EX_cons ?_; refine E1_Return ?_; refine EV_mcall ?_; refine EV_local hE (by kernel_rfl) (sS sH) ?_; refine GM_meth (g := 619) hT (ckNo (by kernel_rfl)) (mok (by kernel_rfl)) ?_; refine CW_go1 (KeepOk.rf (by kernel_rfl)) ?_; refine AR_nil ?_)
      refine CA_CL ((c_k1 hP (n := n) h hcl).mono ?_) (by (first | lia | omega))
      (refine el1 ?_; intro m r)
      (refine seq_ret ?_; refine seq_ret ?_)
      exact ⟨rfl, r⟩
    | 2, _ =>
      (refine IFiN hE (by kernel_rfl) sH (by kernel_rfl) ?_; refine IFiN hE (by kernel_rfl) sH (by kernel_rfl) ?_; refine IFi hE (by kernel_rfl) sH ?_; (refine And.intro ?_ ?_ <;> intro hb <;> try (cases hb; done)); refine EX_cons ?_; refine E1_Return ?_; refine EV_mcall ?_; refine EV_local hE (by kernel_rfl) (sS sH) ?_; refine GM_meth (g := 626) hT (ckNo (by kernel_rfl)) (mok (by kernel_rfl)) ?_; refine CW_go1 (KeepOk.rf (by kernel_rfl)) ?_; refine AR_nil ?_)
      refine CA_CL ((c_k2 hP (n := n) h hcl).mono ?_) (by (first | lia | omega))
      (refine el1 ?_; intro m r)
      (refine seq_ret ?_; refine seq_ret ?_)
      exact ⟨rfl, r⟩
    | 3, _ =>
      (refine IFiN hE (by kernel_rfl) sH (by kernel_rfl) ?_; refine IFiN hE (by kernel_rfl) sH (by kernel_rfl) ?_; refine IFiN hE (by kernel_rfl) sH (by kernel_rfl) ?_; refine IFi hE (by kernel_rfl) sH ?_; (refine And.intro ?_ ?_ <;> intro hb <;> try (cases hb; done)); refine EX_cons ?_; refine E1_Return ?_; refine EV_mcall ?_; refine EV_local hE (by kernel_rfl) (sS sH) ?_; refine GM_meth (g := 633) hT (ckNo (by kernel_rfl)) (mok (by kernel_rfl)) ?_; refine CW_go1 (KeepOk.rf (by kernel_rfl)) ?_; refine AR_nil ?_)
      refine CA_CL ((c_k3 hP (n := n) h hcl).mono ?_) (by (first | lia | omega))
      (refine el1 ?_; intro m r)
      (refine seq_ret ?_; refine seq_ret ?_)
      exact ⟨rfl, r⟩
    | 4, _ =>
      (refine IFiN hE (by kernel_rfl) sH (by kernel_rfl) ?_; refine IFiN hE (by kernel_rfl) sH (by kernel_rfl) ?_; refine IFiN hE (by kernel_rfl) sH (by kernel_rfl) ?_; refine IFiN hE (by kernel_rfl) sH (by kernel_rfl) ?_; refine IFi hE (by kernel_rfl) sH ?_; (refine And.intro ?_ ?_ <;> intro hb <;> try (cases hb; done)); refine EX_cons ?_; refine E1_Return ?_; refine EV_mcall ?_; refine EV_local hE (by kernel_rfl) (sS sH) ?_; refine GM_meth (g := 640) hT (ckNo (by kernel_rfl)) (mok (by kernel_rfl)) ?_; refine CW_go1 (KeepOk.rf (by kernel_rfl)) ?_; refine AR_nil ?_)
      refine CA_CL ((c_k4 hP (n := n) h hcl).mono ?_) (by (first | lia | omega))
      (refine el1 ?_; intro m r)
      (refine seq_ret ?_; refine seq_ret ?_)
      exact ⟨rfl, r⟩
    | 5, _ =>
      (refine IFiN hE (by kernel_rfl) sH (by kernel_rfl) ?_; refine IFiN hE (by kernel_rfl) sH (by kernel_rfl) ?_; refine IFiN hE (by kernel_rfl) sH (by kernel_rfl) ?_; refine IFiN hE (by kernel_rfl) sH (by kernel_rfl) ?_; refine IFiN hE (by kernel_rfl) sH (by kernel_rfl) ?_; refine EX_cons ?_; refine E1_Return ?_; refine EV_mcall ?_; refine EV_local hE (by kernel_rfl) (sS sH) ?_; refine GM_meth (g := 647) hT (ckNo (by kernel_rfl)) (mok (by kernel_rfl)) ?_; refine CW_go1 (KeepOk.rf (by kernel_rfl)) ?_; refine AR_nil ?_)
      refine CA_CL ((c_k5 hP (n := n) h hcl).mono ?_) (by (first | lia | omega))
      (refine el1 ?_; intro m r)
      refine seq_ret ?_
      exact ⟨rfl, r⟩
end
end Mine
end
section
open PySem PySem.W PyProof.Rows
set_option maxRecDepth 100000
set_option maxHeartbeats 4000000
set_option linter.unusedVariables false
namespace Mine
noncomputable def repN (l : List Nat) : List Nat := l.map fun x => if x = 0 then 65533 else x
theorem repN_app (a b : List Nat) : repN (a ++ b) = repN a ++ repN b := by unfold repN; simp
noncomputable def opF (fresh : Bool) (sg : List Nat) : List Nat × List Nat :=
  if fresh then
    match sg.dropWhile (· == 0) with
    | 45 :: r => (repN (sg.takeWhile (· == 0)) ++ ((r.takeWhile (· == 0)).map fun _ => [45, 65533]).flatten, 45 :: r.dropWhile (· == 0))
    | r => (repN (sg.takeWhile (· == 0)), r)
  else ([], sg)
theorem dw_app {l : List Nat} {x : Nat} : (l ++ [x]).dropWhile (· == 0) = if l.dropWhile (· == 0) = [] then (if x = 0 then [] else [x]) else l.dropWhile (· == 0) ++ [x] := by
  induction l with
  | nil => by_cases h : x = 0 <;> simp [h]
  | cons a l ih =>
    by_cases h : a = 0
    · subst h; simpa using ih
    · simp [h]
theorem tw_app {l : List Nat} {x : Nat} : (l ++ [x]).takeWhile (· == 0) = if l.dropWhile (· == 0) = [] then (if x = 0 then l ++ [x] else l) else l.takeWhile (· == 0) := by
  induction l with
  | nil => by_cases h : x = 0 <;> simp [h]
  | cons a l ih =>
    by_cases h : a = 0
    · subst h
      simp only [List.cons_append, List.takeWhile_cons, List.dropWhile_cons, beq_self_eq_true, if_true]
      rw [ih]
      split
      · split <;> rfl
      · rfl
    · simp [h]
theorem dw_nil {l : List Nat} (h : l.dropWhile (· == 0) = []) : l.takeWhile (· == 0) = l := by
  have := List.takeWhile_append_dropWhile (p := (· == 0)) (l := l)
  rw [h, List.append_nil] at this; exact this
theorem opF_app {fresh : Bool} {sg : List Nat} {x : Nat} : opF fresh (sg ++ [x]) =
    if fresh = true ∧ x = 0 ∧ (opF fresh sg).2 = [] then ((opF fresh sg).1 ++ [65533], [])
    else if fresh = true ∧ x = 0 ∧ (opF fresh sg).2 = [45] then ((opF fresh sg).1 ++ [45, 65533], [45])
    else ((opF fresh sg).1, (opF fresh sg).2 ++ [x]) := by
  cases fresh with
  | false => simp [opF]
  | true =>
    unfold opF
    simp only [if_true]
    rw [dw_app, tw_app]
    cases hd : sg.dropWhile (· == 0) with
    | nil =>
      have ht := dw_nil hd
      by_cases hx : x = 0
      · subst hx; simp [ht, repN_app, repN]
      · by_cases h45 : x = 45
        · subst h45; simp [ht]
        · simp only [if_true, if_neg hx, hx, false_and, and_false, if_false, List.nil_append, ht]
          split
          · rename_i e; cases e; exact absurd rfl h45
          · simp
    | cons a r =>
      simp only [List.cons_ne_nil, if_false, List.cons_append]
      by_cases ha : a = 45
      · subst ha
        simp only
        rw [dw_app, tw_app]
        by_cases hr : r.dropWhile (· == 0) = []
        · have ht := dw_nil hr
          by_cases hx : x = 0
          · subst hx; simp [hr, ht]
          · simp [hr, ht, hx]
        · simp [hr]
      · split
        · rename_i e; cases e; exact absurd rfl ha
        · rename_i e1 e2
          split
          · rename_i e; cases e; exact absurd rfl ha
          · simp [ha]
end Mine
end
section
open PySem PySem.W PyProof.Rows
set_option maxRecDepth 100000
set_option maxHeartbeats 4000000
set_option linter.unusedVariables false
namespace Mine
noncomputable def sfx (r : List Nat) : Nat × List Nat :=
  if [62, 33, 45, 45].isPrefixOf r then (6, r.drop 4) else if [62, 45, 45].isPrefixOf r then (6, r.drop 3) else if [33, 45, 45].isPrefixOf r then (5, r.drop 3)
  else if [45, 45].isPrefixOf r then (4, r.drop 2) else if [45].isPrefixOf r then (3, r.drop 1) else (2, r)
noncomputable def readF (fresh : Bool) (sg : List Nat) : Nat × List Nat :=
  if fresh = true ∧ (opF fresh sg).2 = [] then (0, (opF fresh sg).1) else if fresh = true ∧ (opF fresh sg).2 = [45] then (1, (opF fresh sg).1)
  else if fresh = true ∧ ((opF fresh sg).2 = [62] ∨ (opF fresh sg).2 = [45, 62]) then (6, (opF fresh sg).1)
  else ((sfx (opF fresh sg).2.reverse).1, (opF fresh sg).1 ++ repN (sfx (opF fresh sg).2.reverse).2.reverse)
noncomputable def nx1 (x : Nat) : Nat := if x = 0 then 65533 else x
noncomputable def nxt (st : Nat) (kept : List Nat) (x : Nat) : Nat × List Nat := match st with
  | 0 => if x = 45 then (1, kept) else if x = 0 then (0, kept ++ [65533]) else if x = 62 then (6, kept) else (2, kept ++ [x])
  | 1 => if x = 45 then (4, kept) else if x = 0 then (1, kept ++ [45, 65533]) else if x = 62 then (6, kept) else (2, kept ++ [45, x])
  | 2 => if x = 45 then (3, kept) else (2, kept ++ [nx1 x])
  | 3 => if x = 45 then (4, kept) else (2, kept ++ [45, nx1 x])
  | 4 => if x = 62 then (6, kept) else if x = 33 then (5, kept) else if x = 45 then (4, kept ++ [45]) else (2, kept ++ [45, 45, nx1 x])
  | _ => if x = 62 then (6, kept) else if x = 45 then (3, kept ++ [45, 45, 33]) else (2, kept ++ [45, 45, 33, nx1 x])
theorem repN_rev (l : List Nat) (x : Nat) : repN (x :: l).reverse = repN l.reverse ++ [nx1 x] := by rw [List.reverse_cons, repN_app]; rfl
theorem sfx_cases (r : List Nat) : (sfx r).1 = 6 ∨ (∃ t, r = 33 :: 45 :: 45 :: t ∧ sfx r = (5, t)) ∨ (∃ t, r = 45 :: 45 :: t ∧ sfx r = (4, t)) ∨ (∃ t, r = 45 :: t ∧ t.head? ≠ some 45 ∧ sfx r = (3, t)) ∨
    (r.head? ≠ some 45 ∧ (∀ t, r ≠ 33 :: 45 :: 45 :: t) ∧ sfx r = (2, r)) := by
  unfold sfx
  by_cases q1 : [62, 33, 45, 45].isPrefixOf r = true
  · exact .inl (by rw [if_pos q1])
  by_cases q2 : [62, 45, 45].isPrefixOf r = true
  · exact .inl (by rw [if_neg q1, if_pos q2])
  by_cases q3 : [33, 45, 45].isPrefixOf r = true
  · obtain ⟨t, rfl⟩ := List.isPrefixOf_iff_prefix.mp q3
    exact .inr (.inl ⟨t, rfl, by rw [if_neg q1, if_neg q2, if_pos q3]; rfl⟩)
  by_cases q4 : [45, 45].isPrefixOf r = true
  · obtain ⟨t, rfl⟩ := List.isPrefixOf_iff_prefix.mp q4
    exact .inr (.inr (.inl ⟨t, rfl, by rw [if_neg q1, if_neg q2, if_neg q3, if_pos q4]; rfl⟩))
  by_cases q5 : [45].isPrefixOf r = true
  · obtain ⟨t, rfl⟩ := List.isPrefixOf_iff_prefix.mp q5
    refine .inr (.inr (.inr (.inl ⟨t, rfl, fun hh => q4 ?_, by rw [if_neg q1, if_neg q2, if_neg q3, if_neg q4, if_pos q5]; rfl⟩)))
    cases t with
    | nil => cases hh
    | cons a t => cases hh; rfl
  · refine .inr (.inr (.inr (.inr ⟨fun hh => q5 ?_, fun t e => q3 (by rw [e]; rfl), by rw [if_neg q1, if_neg q2, if_neg q3, if_neg q4, if_neg q5]⟩)))
    cases r with
    | nil => cases hh
    | cons a t => cases hh; rfl
theorem sfx_cons {x : Nat} {r : List Nat} : sfx (x :: r) = if x = 62 ∧ [33, 45, 45].isPrefixOf r = true then (6, r.drop 3) else if x = 62 ∧ [45, 45].isPrefixOf r = true then (6, r.drop 2) else if x = 33 ∧ [45, 45].isPrefixOf r = true then (5, r.drop 2)
    else if x = 45 ∧ [45].isPrefixOf r = true then (4, r.drop 1) else if x = 45 then (3, r) else (2, x :: r) := by
  unfold sfx
  simp only [List.isPrefixOf, Bool.and_eq_true, beq_iff_eq, List.drop_succ_cons, List.drop_zero, Bool.and_true]
  simp only [eq_comm (a := 62) (b := x), eq_comm (a := 33) (b := x), eq_comm (a := 45) (b := x)]
theorem sfx_plain {x : Nat} {r : List Nat} (h45 : x ≠ 45) (h62 : x ≠ 62 ∨ [33, 45, 45].isPrefixOf r = false) (h : [45, 45].isPrefixOf r = false) : sfx (x :: r) = (2, x :: r) := by
  have n : ¬ [45, 45].isPrefixOf r = true := by rw [h]; exact Bool.false_ne_true
  rw [sfx_cons, if_neg (fun z => h62.elim (fun q => q z.1) (fun q => by rw [q] at z; cases z.2)), if_neg (fun z => n z.2), if_neg (fun z => n z.2), if_neg (fun z => h45 z.1), if_neg h45]
theorem rr (lead l : List Nat) (x : Nat) : lead ++ repN (x :: l).reverse = (lead ++ repN l.reverse) ++ [nx1 x] := by rw [repN_rev, List.append_assoc]
theorem sfx_step {r : List Nat} {st : Nat} {t : List Nat} (h : sfx r = (st, t)) (hst : st < 6) (x : Nat) (lead : List Nat) :
    ((sfx (x :: r)).1, lead ++ repN (sfx (x :: r)).2.reverse) = nxt st (lead ++ repN t.reverse) x := by
  rcases sfx_cases r with h6 | ⟨t', rfl, h5⟩ | ⟨t', rfl, h4⟩ | ⟨t', rfl, hh, h3⟩ | ⟨hh, h33, h2⟩
  · rw [h] at h6; subst h6; exact absurd hst (Nat.lt_irrefl _)
  · rw [h] at h5; cases h5
    by_cases h62 : x = 62
    · subst h62; rfl
    by_cases h45 : x = 45
    · subst h45
      show (3, lead ++ repN (33 :: 45 :: 45 :: t).reverse) = (3, (lead ++ repN t.reverse) ++ [45, 45, 33])
      rw [rr, rr, rr, List.append_assoc, List.append_assoc]; rfl
    rw [sfx_plain h45 (.inl h62) rfl]
    show (2, lead ++ repN (x :: 33 :: 45 :: 45 :: t).reverse) = (if x = 62 then _ else if x = 45 then _ else _)
    rw [if_neg h62, if_neg h45, rr, rr, rr, rr, List.append_assoc, List.append_assoc, List.append_assoc]; rfl
  · rw [h] at h4; cases h4
    by_cases h62 : x = 62
    · subst h62; rfl
    by_cases h33 : x = 33
    · subst h33; rfl
    by_cases h45 : x = 45
    · subst h45
      show (4, lead ++ repN (45 :: t).reverse) = (4, (lead ++ repN t.reverse) ++ [45])
      rw [rr]; rfl
    rw [sfx_cons, if_neg (fun z => h62 z.1), if_neg (fun z => h62 z.1), if_neg (fun z => h33 z.1), if_neg (fun z => h45 z.1), if_neg h45]
    show (2, lead ++ repN (x :: 45 :: 45 :: t).reverse) = (if x = 62 then _ else if x = 33 then _ else if x = 45 then _ else _)
    rw [if_neg h62, if_neg h33, if_neg h45, rr, rr, rr, List.append_assoc, List.append_assoc]; rfl
  · rw [h] at h3; cases h3
    by_cases h45 : x = 45
    · subst h45; rfl
    have hp : [45].isPrefixOf t = false := by
      cases t with
      | nil => rfl
      | cons a t'' =>
        cases q : [45].isPrefixOf (a :: t'') with
        | false => rfl
        | true => obtain ⟨u, hu⟩ := List.isPrefixOf_iff_prefix.mp q; cases hu; exact absurd rfl hh
    rw [sfx_plain (r := 45 :: t) h45 (.inr rfl) (by show ((45 : Nat) == 45 && [45].isPrefixOf t) = false; rw [hp]; rfl)]
    show (2, lead ++ repN (x :: 45 :: t).reverse) = (if x = 45 then _ else _)
    rw [if_neg h45, rr, rr, List.append_assoc]; rfl
  · rw [h] at h2; cases h2
    have e2 : ∀ l, [45].isPrefixOf r = false ∧ ([45] ++ l).isPrefixOf r = false := fun l => by
      cases r with
      | nil => exact ⟨rfl, rfl⟩
      | cons a t'' =>
        have ha : ((45 : Nat) == a) = false := by
          cases q : ((45 : Nat) == a) with
          | false => rfl
          | true => rw [← eq_of_beq q] at hh; exact absurd rfl hh
        constructor
        · show ((45 : Nat) == a && _) = false
          rw [ha]; rfl
        · show ((45 : Nat) == a && _) = false
          rw [ha]; rfl
    by_cases h45 : x = 45
    · subst h45
      rw [sfx_cons, if_neg (fun z => by cases z.1), if_neg (fun z => by cases z.1), if_neg (fun z => by cases z.1), if_neg (fun z => by rw [(e2 []).1] at z; cases z.2), if_pos rfl]
      rfl
    have e1 : [33, 45, 45].isPrefixOf r = false := by
      cases q : [33, 45, 45].isPrefixOf r with
      | false => rfl
      | true =>
        obtain ⟨u, hu⟩ := List.isPrefixOf_iff_prefix.mp q
        exact absurd hu.symm (h33 u)
    rw [sfx_plain h45 (.inr e1) (e2 [45]).2]
    show (2, lead ++ repN (x :: r).reverse) = (if x = 45 then _ else _)
    rw [if_neg h45, rr]
theorem readF_eq {fresh : Bool} {s lead rest : List Nat} (h : opF fresh s = (lead, rest)) : readF fresh s = if fresh = true ∧ rest = [] then (0, lead) else if fresh = true ∧ rest = [45] then (1, lead)
    else if fresh = true ∧ (rest = [62] ∨ rest = [45, 62]) then (6, lead) else ((sfx rest.reverse).1, lead ++ repN (sfx rest.reverse).2.reverse) := by
  unfold readF; rw [h]
theorem readF_app {fresh : Bool} {sg : List Nat} {st : Nat} {kept : List Nat} (h : readF fresh sg = (st, kept)) (hst : st < 6) (x : Nat) : readF fresh (sg ++ [x]) = nxt st kept x := by
  obtain ⟨lead, rest, ho⟩ : ∃ lead rest, opF fresh sg = (lead, rest) := ⟨_, _, rfl⟩
  have hap := opF_app (fresh := fresh) (sg := sg) (x := x)
  rw [ho] at hap
  rw [readF_eq ho] at h
  by_cases h0 : fresh = true ∧ rest = []
  · obtain ⟨rfl, rfl⟩ := h0
    rw [if_pos ⟨rfl, rfl⟩] at h
    cases h
    by_cases hx0 : x = 0
    · subst hx0
      rw [if_pos ⟨rfl, rfl, rfl⟩] at hap
      exact readF_eq hap
    · rw [if_neg (fun z => hx0 z.2.1), if_neg (fun z => hx0 z.2.1)] at hap
      refine (readF_eq hap).trans ?_
      by_cases hx45 : x = 45
      · subst hx45; rfl
      by_cases hx62 : x = 62
      · subst hx62; rfl
      rw [if_neg (fun z => by cases z.2), if_neg (fun z => hx45 (by cases z.2; rfl)), if_neg (fun z => z.2.elim (fun q => hx62 (by cases q; rfl)) (fun q => by cases q))]
      show ((sfx [x]).1, kept ++ repN (sfx [x]).2.reverse) = (if x = 45 then _ else if x = 0 then _ else if x = 62 then _ else _)
      rw [sfx_plain hx45 (.inl hx62) rfl, if_neg hx45, if_neg hx0, if_neg hx62]
      show (2, kept ++ [nx1 x]) = _
      unfold nx1; rw [if_neg hx0]
  by_cases h1 : fresh = true ∧ rest = [45]
  · obtain ⟨rfl, rfl⟩ := h1
    rw [if_neg h0, if_pos ⟨rfl, rfl⟩] at h
    cases h
    by_cases hx0 : x = 0
    · subst hx0
      rw [if_neg (fun z => h0 ⟨rfl, z.2.2⟩), if_pos ⟨rfl, rfl, rfl⟩] at hap
      exact readF_eq hap
    · rw [if_neg (fun z => hx0 z.2.1), if_neg (fun z => hx0 z.2.1)] at hap
      refine (readF_eq hap).trans ?_
      by_cases hx45 : x = 45
      · subst hx45
        show (4, kept ++ []) = (4, kept)
        rw [List.append_nil]
      by_cases hx62 : x = 62
      · subst hx62; rfl
      rw [if_neg (fun z => by cases z.2), if_neg (fun z => by cases z.2), if_neg (fun z => z.2.elim (fun q => by cases q) (fun q => hx62 (by cases q; rfl)))]
      show ((sfx [x, 45]).1, kept ++ repN (sfx [x, 45]).2.reverse) = (if x = 45 then _ else if x = 0 then _ else if x = 62 then _ else _)
      rw [sfx_plain hx45 (.inl hx62) rfl, if_neg hx45, if_neg hx0, if_neg hx62]
      show (2, kept ++ [45, nx1 x]) = _
      unfold nx1; rw [if_neg hx0]
  by_cases h6 : fresh = true ∧ (rest = [62] ∨ rest = [45, 62])
  · rw [if_neg h0, if_neg h1, if_pos h6] at h
    cases h; exact absurd hst (Nat.lt_irrefl _)
  rw [if_neg h0, if_neg h1, if_neg h6] at h
  rw [if_neg (fun z => h0 ⟨z.1, z.2.2⟩), if_neg (fun z => h1 ⟨z.1, z.2.2⟩)] at hap
  refine (readF_eq hap).trans ?_
  have e1 : ∀ {l : List Nat} {y : Nat}, rest ++ [x] = l ++ [y] → rest = l := fun z => (List.append_inj' z rfl).1
  rw [if_neg (fun z => by
      have := congrArg List.length z.2
      rw [List.length_append] at this; cases this), if_neg (fun z => h0 ⟨z.1, e1 (l := []) (y := 45) z.2⟩), if_neg (fun z => z.2.elim (fun q => h0 ⟨z.1, e1 (l := []) (y := 62) q⟩) (fun q => h1 ⟨z.1, e1 (l := [45]) (y := 62) q⟩))]
  have e : (rest ++ [x]).reverse = x :: rest.reverse := by rw [List.reverse_append]; rfl
  rw [e]
  obtain ⟨g1, g2⟩ := Prod.mk.inj h
  rw [← g2]
  exact sfx_step (Prod.ext g1 rfl) hst x _
end Mine
end
section
open PySem PySem.W PyProof.Rows
set_option maxRecDepth 100000
set_option maxHeartbeats 4000000
set_option linter.unusedVariables false
namespace Mine
noncomputable def toldF (x : Nat) : List Nat := if x = 45 then m_dash else if x = 33 then m_bang else m_char
noncomputable def fltF (fresh : Bool) (sg : List Nat) (x : Nat) : List (List Nat) :=
  if x = 0 then [m_bad] else if (fresh = true ∧ ((opF fresh sg).2 = [] ∨ (opF fresh sg).2 = [45])) ∧ x = 62 then [m_inc]
  else if [45, 45].isPrefixOf (opF fresh sg).2.reverse = true ∧ x ≠ 62 then [toldF x] else []
noncomputable def flt (st x : Nat) : List (List Nat) := if x = 0 then [m_bad] else match st with
  | 0 => if x = 62 then [m_inc] else []
  | 1 => if x = 62 then [m_inc] else []
  | 4 => if x = 62 then [] else [toldF x]
  | _ => []
theorem sfx_p2 {r : List Nat} {st : Nat} {t : List Nat} (h : sfx r = (st, t)) (hst : st < 6) : [45, 45].isPrefixOf r = decide (st = 4) := by
  rcases sfx_cases r with h6 | ⟨t', rfl, h5⟩ | ⟨t', rfl, h4⟩ | ⟨t', rfl, hh, h3⟩ | ⟨hh, h33, h2⟩
  · rw [h] at h6; simp only at h6; (first | lia | omega)
  · rw [h] at h5; cases h5; simp [List.isPrefixOf]
  · rw [h] at h4; cases h4; simp [List.isPrefixOf]
  · rw [h] at h3; cases h3
    cases t with
    | nil => rfl
    | cons a t'' =>
      have : a ≠ 45 := by simpa using hh
      simp [List.isPrefixOf, Ne.symm this]
  · rw [h] at h2; cases h2
    cases r with
    | nil => rfl
    | cons a t'' =>
      have : a ≠ 45 := by simpa using hh
      simp [List.isPrefixOf, Ne.symm this]
theorem flt_st {fresh : Bool} {sg : List Nat} {st : Nat} {kept : List Nat} (h : readF fresh sg = (st, kept)) (hst : st < 6) (x : Nat) : fltF fresh sg x = flt st x := by
  unfold fltF flt
  by_cases hx : x = 0
  · rw [if_pos hx, if_pos hx]
  rw [if_neg hx, if_neg hx]
  unfold readF at h
  split at h
  · rename_i q
    cases h
    obtain ⟨qa, qb⟩ := q
    subst qa
    rw [qb]
    by_cases h62 : x = 62
    · simp [h62]
    · simp [h62, List.isPrefixOf]
  · rename_i q0
    split at h
    · rename_i q
      cases h
      obtain ⟨qa, qb⟩ := q
      subst qa
      rw [qb]
      by_cases h62 : x = 62
      · simp [h62]
      · simp [h62, List.isPrefixOf]
    · rename_i q1
      split at h
      · cases h; (first | lia | omega)
      · have n : ¬ ((fresh = true ∧ ((opF fresh sg).2 = [] ∨ (opF fresh sg).2 = [45])) ∧ x = 62) := by
          rintro ⟨⟨z1, z2⟩, _⟩
          rcases z2 with z | z
          · exact q0 ⟨z1, z⟩
          · exact q1 ⟨z1, z⟩
        rw [if_neg n]
        obtain ⟨h1, h2⟩ := Prod.mk.inj h
        have hs : sfx (opF fresh sg).2.reverse = (st, (sfx (opF fresh sg).2.reverse).2) := Prod.ext h1 rfl
        rw [sfx_p2 hs hst]
        have hn0 : st = 2 ∨ st = 3 ∨ st = 4 ∨ st = 5 := by
          rcases sfx_cases (opF fresh sg).2.reverse with h6 | ⟨t', e, h5⟩ | ⟨t', e, h4⟩ | ⟨t', e, hh, h3⟩ | ⟨hh, h33, h2⟩
          · rw [hs] at h6; simp only at h6; (first | lia | omega)
          · rw [h5] at hs; cases hs; (first | lia | omega)
          · rw [h4] at hs; cases hs; (first | lia | omega)
          · rw [h3] at hs; cases hs; (first | lia | omega)
          · rw [h2] at hs; cases hs; (first | lia | omega)
        rcases hn0 with rfl | rfl | rfl | rfl
        · simp
        · simp
        · by_cases h62 : x = 62 <;> simp [h62]
        · simp
theorem cm_one {g : G} {st p x : Nat} {held kept : List Nat} (hst : st < 6) (hx : (WT' g)[p]? = some x) (h2 : st = 2 → x = 45 ∨ x = 0) :
    cmS st g (WT' g) p (held ++ kept) = ⟨flt st x, p + 1, held ++ (nxt st kept x).2, decide ((nxt st kept x).1 = 6), decide ((nxt st kept x).1 = st)⟩ := by
  have h6 : st = 0 ∨ st = 1 ∨ st = 2 ∨ st = 3 ∨ st = 4 ∨ st = 5 := by (first | lia | omega)
  by_cases h0 : x = 0
  · subst h0
    rcases h6 with rfl | rfl | rfl | rfl | rfl | rfl <;> first | (exact absurd (h2 rfl) (by decide)) | (show cm0 g (WT' g) p (held ++ kept) = _; unfold cm0; rw [hx]; first | rfl | exact congrArg (fun c => Cres.mk _ _ c _ _) (List.append_assoc held kept _)) | (show cm1 g (WT' g) p (held ++ kept) = _; unfold cm1; rw [hx]; first | rfl | exact congrArg (fun c => Cres.mk _ _ c _ _) (List.append_assoc held kept _)) | (show cm2 g (WT' g) p (held ++ kept) = _; unfold cm2; rw [hx]; first | rfl | exact congrArg (fun c => Cres.mk _ _ c _ _) (List.append_assoc held kept _)) | (show cm3 g (WT' g) p (held ++ kept) = _; unfold cm3; rw [hx]; first | rfl | exact congrArg (fun c => Cres.mk _ _ c _ _) (List.append_assoc held kept _)) | (show cm4 g (WT' g) p (held ++ kept) = _; unfold cm4; rw [hx]; first | rfl | exact congrArg (fun c => Cres.mk _ _ c _ _) (List.append_assoc held kept _)) | (show cm5 g (WT' g) p (held ++ kept) = _; unfold cm5; rw [hx]; first | rfl | exact congrArg (fun c => Cres.mk _ _ c _ _) (List.append_assoc held kept _))
  by_cases h45 : x = 45
  · subst h45
    rcases h6 with rfl | rfl | rfl | rfl | rfl | rfl <;> first | (exact absurd (h2 rfl) (by decide)) | (show cm0 g (WT' g) p (held ++ kept) = _; unfold cm0; rw [hx]; first | rfl | exact congrArg (fun c => Cres.mk _ _ c _ _) (List.append_assoc held kept _)) | (show cm1 g (WT' g) p (held ++ kept) = _; unfold cm1; rw [hx]; first | rfl | exact congrArg (fun c => Cres.mk _ _ c _ _) (List.append_assoc held kept _)) | (show cm2 g (WT' g) p (held ++ kept) = _; unfold cm2; rw [hx]; first | rfl | exact congrArg (fun c => Cres.mk _ _ c _ _) (List.append_assoc held kept _)) | (show cm3 g (WT' g) p (held ++ kept) = _; unfold cm3; rw [hx]; first | rfl | exact congrArg (fun c => Cres.mk _ _ c _ _) (List.append_assoc held kept _)) | (show cm4 g (WT' g) p (held ++ kept) = _; unfold cm4; rw [hx]; first | rfl | exact congrArg (fun c => Cres.mk _ _ c _ _) (List.append_assoc held kept _)) | (show cm5 g (WT' g) p (held ++ kept) = _; unfold cm5; rw [hx]; first | rfl | exact congrArg (fun c => Cres.mk _ _ c _ _) (List.append_assoc held kept _))
  by_cases h62 : x = 62
  · subst h62
    rcases h6 with rfl | rfl | rfl | rfl | rfl | rfl <;> first | (exact absurd (h2 rfl) (by decide)) | (show cm0 g (WT' g) p (held ++ kept) = _; unfold cm0; rw [hx]; first | rfl | exact congrArg (fun c => Cres.mk _ _ c _ _) (List.append_assoc held kept _)) | (show cm1 g (WT' g) p (held ++ kept) = _; unfold cm1; rw [hx]; first | rfl | exact congrArg (fun c => Cres.mk _ _ c _ _) (List.append_assoc held kept _)) | (show cm2 g (WT' g) p (held ++ kept) = _; unfold cm2; rw [hx]; first | rfl | exact congrArg (fun c => Cres.mk _ _ c _ _) (List.append_assoc held kept _)) | (show cm3 g (WT' g) p (held ++ kept) = _; unfold cm3; rw [hx]; first | rfl | exact congrArg (fun c => Cres.mk _ _ c _ _) (List.append_assoc held kept _)) | (show cm4 g (WT' g) p (held ++ kept) = _; unfold cm4; rw [hx]; first | rfl | exact congrArg (fun c => Cres.mk _ _ c _ _) (List.append_assoc held kept _)) | (show cm5 g (WT' g) p (held ++ kept) = _; unfold cm5; rw [hx]; first | rfl | exact congrArg (fun c => Cres.mk _ _ c _ _) (List.append_assoc held kept _))
  by_cases h33 : x = 33
  · subst h33
    rcases h6 with rfl | rfl | rfl | rfl | rfl | rfl <;> first | (exact absurd (h2 rfl) (by decide)) | (show cm0 g (WT' g) p (held ++ kept) = _; unfold cm0; rw [hx]; first | rfl | exact congrArg (fun c => Cres.mk _ _ c _ _) (List.append_assoc held kept _)) | (show cm1 g (WT' g) p (held ++ kept) = _; unfold cm1; rw [hx]; first | rfl | exact congrArg (fun c => Cres.mk _ _ c _ _) (List.append_assoc held kept _)) | (show cm2 g (WT' g) p (held ++ kept) = _; unfold cm2; rw [hx]; first | rfl | exact congrArg (fun c => Cres.mk _ _ c _ _) (List.append_assoc held kept _)) | (show cm3 g (WT' g) p (held ++ kept) = _; unfold cm3; rw [hx]; first | rfl | exact congrArg (fun c => Cres.mk _ _ c _ _) (List.append_assoc held kept _)) | (show cm4 g (WT' g) p (held ++ kept) = _; unfold cm4; rw [hx]; first | rfl | exact congrArg (fun c => Cres.mk _ _ c _ _) (List.append_assoc held kept _)) | (show cm5 g (WT' g) p (held ++ kept) = _; unfold cm5; rw [hx]; first | rfl | exact congrArg (fun c => Cres.mk _ _ c _ _) (List.append_assoc held kept _))
  have e1 : nx1 x = x := if_neg h0
  rcases h6 with rfl | rfl | rfl | rfl | rfl | rfl <;> first | (exact absurd (h2 rfl) (fun z => z.elim h45 h0)) | (show cm0 g (WT' g) p (held ++ kept) = _; unfold cm0; rw [hx]; simp only [nxt, flt, toldF, if_neg h0, if_neg h45, if_neg h62, if_neg h33, e1]; first | rfl | exact congrArg (fun c => Cres.mk _ _ c _ _) (List.append_assoc held kept _)) | (show cm1 g (WT' g) p (held ++ kept) = _; unfold cm1; rw [hx]; simp only [nxt, flt, toldF, if_neg h0, if_neg h45, if_neg h62, if_neg h33, e1]; first | rfl | exact congrArg (fun c => Cres.mk _ _ c _ _) (List.append_assoc held kept _)) | (show cm2 g (WT' g) p (held ++ kept) = _; unfold cm2; rw [hx]; simp only [nxt, flt, toldF, if_neg h0, if_neg h45, if_neg h62, if_neg h33, e1]; first | rfl | exact congrArg (fun c => Cres.mk _ _ c _ _) (List.append_assoc held kept _)) | (show cm3 g (WT' g) p (held ++ kept) = _; unfold cm3; rw [hx]; simp only [nxt, flt, toldF, if_neg h0, if_neg h45, if_neg h62, if_neg h33, e1]; first | rfl | exact congrArg (fun c => Cres.mk _ _ c _ _) (List.append_assoc held kept _)) | (show cm4 g (WT' g) p (held ++ kept) = _; unfold cm4; rw [hx]; simp only [nxt, flt, toldF, if_neg h0, if_neg h45, if_neg h62, if_neg h33, e1]; first | rfl | exact congrArg (fun c => Cres.mk _ _ c _ _) (List.append_assoc held kept _)) | (show cm5 g (WT' g) p (held ++ kept) = _; unfold cm5; rw [hx]; simp only [nxt, flt, toldF, if_neg h0, if_neg h45, if_neg h62, if_neg h33, e1]; first | rfl | exact congrArg (fun c => Cres.mk _ _ c _ _) (List.append_assoc held kept _))
noncomputable def fltL (fresh : Bool) : List Nat → List Nat → List (List Nat)
  | _, [] => []
  | sg, x :: r => fltF fresh sg x ++ fltL fresh (sg ++ [x]) r
theorem readF_run {fresh : Bool} : ∀ {l sg kept : List Nat}, readF fresh sg = (2, kept) → (∀ x ∈ l, x ≠ 45 ∧ x ≠ 0) → readF fresh (sg ++ l) = (2, kept ++ l) ∧ fltL fresh sg l = []
  | [], sg, kept, h, _ => by simp [fltL, h]
  | x :: l, sg, kept, h, hl => by
    obtain ⟨n45, n0⟩ := hl x List.mem_cons_self
    have h1 := readF_app h (by (first | lia | omega)) x
    have e : nxt 2 kept x = (2, kept ++ [x]) := by simp [nxt, n45, nx1, n0]
    rw [e] at h1
    obtain ⟨r1, r2⟩ := readF_run (l := l) h1 (fun y hy => hl y (List.mem_cons_of_mem _ hy))
    refine ⟨by rw [show sg ++ x :: l = sg ++ [x] ++ l by simp, r1]; simp, ?_⟩
    show fltF fresh sg x ++ fltL fresh (sg ++ [x]) l = []
    rw [r2, flt_st h (by (first | lia | omega))]
    simp [flt, n0]
theorem one_sign {W : List Nat} {k x : Nat} (h : W[k]? = some x) : (W.take (k + 1)).drop k = [x] := by
  obtain ⟨hl, he⟩ := List.getElem?_eq_some_iff.mp h
  rw [List.drop_take, List.drop_eq_getElem_cons hl, he]
  simp
theorem cm_step {g : G} {fresh : Bool} {sg kept held : List Nat} {st p : Nat} (h : readF fresh sg = (st, kept)) (hst : st < 6) (hp : p < (WT' g).length) :
    ∃ e st' kept', p < e ∧ e ≤ (WT' g).length ∧ readF fresh (sg ++ ((WT' g).take e).drop p) = (st', kept') ∧ (st' ≤ 6) ∧
      cmS st g (WT' g) p (held ++ kept) = ⟨fltL fresh sg (((WT' g).take e).drop p), e, held ++ kept', decide (st' = 6), decide (st' = st)⟩ := by
  obtain ⟨x, hx⟩ : ∃ x, (WT' g)[p]? = some x := ⟨_, List.getElem?_eq_getElem hp⟩
  have hsg : ((WT' g).take (p + 1)).drop p = [x] := one_sign hx
  by_cases h2 : st = 2 → x = 45 ∨ x = 0
  · have h1 := readF_app h hst x
    have hn6 : (nxt st kept x).1 ≤ 6 := by
      unfold nxt
      split <;> (repeat' split) <;> simp
    refine ⟨p + 1, (nxt st kept x).1, (nxt st kept x).2, by (first | lia | omega), hp, by rw [hsg, h1], hn6, ?_⟩
    rw [cm_one hst hx h2, hsg]
    simp only [fltL, List.append_nil, flt_st h hst]
  · have hs : st = 2 ∧ x ≠ 45 ∧ x ≠ 0 := by
      refine ⟨?_, ?_, ?_⟩
      · exact Decidable.byContradiction fun z => h2 fun y => absurd y z
      · exact fun z => h2 fun _ => .inl z
      · exact fun z => h2 fun _ => .inr z
    obtain ⟨rfl, n45, n0⟩ := hs
    have hul : ((WT' g).drop (p + 1)).takeWhile (fun y => !decide ([y] ∈ [[45], [0]])) = upTo g [[45], [0]] (p + 1) := rfl
    have hpre : upTo g [[45], [0]] (p + 1) <+: (WT' g).drop (p + 1) := by rw [← hul]; exact List.takeWhile_prefix _
    have hlen : (upTo g [[45], [0]] (p + 1)).length ≤ (WT' g).length - (p + 1) := by
      have := hpre.length_le; simpa using this
    have hd : ((WT' g).take (p + 1 + (upTo g [[45], [0]] (p + 1)).length)).drop p = x :: upTo g [[45], [0]] (p + 1) := by
      obtain ⟨hl, he⟩ := List.getElem?_eq_some_iff.mp hx
      have h1 : ((WT' g).take (p + 1 + (upTo g [[45], [0]] (p + 1)).length))[p]? = some x := by rw [List.getElem?_take, if_pos (by (first | lia | omega))]; exact hx
      obtain ⟨hl', he'⟩ := List.getElem?_eq_some_iff.mp h1
      rw [List.drop_eq_getElem_cons hl', he', List.drop_take]
      have e1 : p + 1 + (upTo g [[45], [0]] (p + 1)).length - (p + 1) = (upTo g [[45], [0]] (p + 1)).length := by (first | lia | omega)
      rw [e1]
      exact congrArg _ (List.prefix_iff_eq_take.mp hpre).symm
    have hall : ∀ y ∈ x :: upTo g [[45], [0]] (p + 1), y ≠ 45 ∧ y ≠ 0 := by
      intro y hy
      rcases List.mem_cons.mp hy with rfl | hy
      · exact ⟨n45, n0⟩
      · rw [← hul] at hy
        have := List.all_eq_true.mp (List.all_takeWhile (p := fun y => !decide ([y] ∈ [[45], [0]])) (l := (WT' g).drop (p + 1))) y hy
        simp at this
        exact this
    obtain ⟨r1, r2⟩ := readF_run h hall
    refine ⟨p + 1 + (upTo g [[45], [0]] (p + 1)).length, 2, kept ++ (x :: upTo g [[45], [0]] (p + 1)), by (first | lia | omega), by (first | lia | omega), by rw [hd, r1], by (first | lia | omega), ?_⟩
    rw [hd, r2]
    simp [cmS, cm2, hx, n45, n0]
end Mine
end
section
open PySem PySem.W PyProof.Rows
set_option maxRecDepth 100000
set_option maxHeartbeats 4000000
set_option linter.unusedVariables false
namespace Mine
theorem opF_false (s : List Nat) : opF false s = ([], s) := rfl
theorem opF_0 (s : List Nat) : opF true (0 :: s) = (65533 :: (opF true s).1, (opF true s).2) := by
  unfold opF
  simp only [if_true, List.dropWhile_cons, List.takeWhile_cons, beq_self_eq_true]
  split
  · simp [repN]
  · simp [repN]
theorem opF_45 (r : List Nat) : opF true (45 :: 0 :: r) = (45 :: 65533 :: (opF true (45 :: r)).1, (opF true (45 :: r)).2) := by
  unfold opF
  simp [repN]
theorem opF_end {s : List Nat} (h0 : s.head? ≠ some 0) (h1 : ∀ r, s ≠ 45 :: 0 :: r) : opF true s = ([], s) := by
  unfold opF
  simp only [if_true]
  have hd : s.dropWhile (· == 0) = s := by
    cases s with
    | nil => rfl
    | cons a s =>
      have : a ≠ 0 := by simpa using h0
      simp [this]
  have ht : s.takeWhile (· == 0) = [] := by
    cases s with
    | nil => rfl
    | cons a s =>
      have : a ≠ 0 := by simpa using h0
      simp [this]
  rw [hd, ht]
  split
  · rename_i r
    cases r with
    | nil => simp [repN]
    | cons b r =>
      have : b ≠ 0 := fun z => h1 r (by rw [z])
      simp [repN, this]
  · simp [repN]
theorem TV_T {X : Cx} {n : Nat} {fz : Frz} {L : Addr} {env : Env} {loc : Loc} {M : Mem} {Q : QB} {test : Expr} (t : Bool) (R : Mem → Prop) (h1 : TV X n fz L env test (fun b l m => b = t ∧ l = loc ∧ R m) loc M) (h2 : ∀ m, R m → Q t loc m) : TV X n fz L env test Q loc M :=
  fun whole e => WT.mono (h1 whole e) fun b l m ⟨hb, hl, hr⟩ => by subst hb hl; exact h2 m hr
theorem take1_0 (s : List Nat) : (s.take 1 = [0]) ↔ s.head? = some 0 := by
  cases s <;> simp
section
variable {Z : Cz} {P : Params}
theorem c_opening {n : Nat} {M : Mem} {sg : List Nat} {fresh : Bool} (hl : sg.length ≤ 1000) :
    CL Z.cx (n + 2) (.ref 816) [.str (mkS sg) 0, .bool fresh] (fun v m => ∃ D, v = .ref D ∧ M D = none ∧ m D = some (.tup [.str (mkS (opF fresh sg).1) 0, .str (mkS (opF fresh sg).2) 0]) ∧ ∀ a o, M a = some o → m a = some o) M := by
  refine CL_fn (binds := [("signs", .str (mkS sg) 0), ("fresh", .bool fresh)]) (by rfl) (by kernel_rfl) ?_ (by kernel_rfl) ?_
  · intro vs e
    obtain ⟨v1, v2, rfl, e1, e2⟩ := vs2 e
    exact ⟨[("signs", v1), ("fresh", v2)], fun s hx => kp_binds hx (fun S => rfl), by simp [e1, e2]⟩
  · intro fz L env hE he; subst he; refine EX_gen fun Qg1 hQ1 => ?_
    rw [bindL2]
    (refine EX_cons ?_; refine E1_AssignName ?_ rfl; refine EV_str (l := []) (by kernel_rfl) ?_; refine STn hE (by kernel_rfl) ?_)
    refine EX_cut (R := fun l m => ∃ lead s, l "lead" = some (.str (mkS lead) 0) ∧ l "signs" = some (.str (mkS s) 0) ∧ l "fresh" = some (.bool fresh) ∧ lead.length + 2 * s.length ≤ 2000 ∧ opF fresh sg = (lead ++ (opF fresh s).1, (opF fresh s).2) ∧ (fresh = true → s.head? ≠ some 0) ∧ ∀ a o, M a = some o → m a = some o) ?_ ?_
    · refine E1_gen fun Qg2 hQ2 => ?_
      refine E1_WhileG (I := fun kk l m => ∃ lead s, kk = s.length ∧ l "lead" = some (.str (mkS lead) 0) ∧ l "signs" = some (.str (mkS s) 0) ∧ l "fresh" = some (.bool fresh) ∧ lead.length + 2 * s.length ≤ 2000 ∧ opF fresh sg = (lead ++ (opF fresh s).1, (opF fresh s).2) ∧ ∀ a o, M a = some o → m a = some o) _
        ⟨[], sg, rfl, setL_self _ _ _, by exact (sS (sS sH)), by exact (sS sH), by simp; (first | lia | omega), by simp, fun a o e => e⟩ ?_
      rintro kk l m ⟨lead, s, rfl, l1, l2, l3, h1, h2, kp⟩ Rw3 hRw3
      cases fresh with
      | false =>
        (refine TV_boolop ?_; refine TAll_and ?_; refine TV_value ?_; refine EV_local hE (by kernel_rfl) l3 ?_; (with_reducible refine TR_bool ?_); (refine And.intro ?_ ?_ <;> intro hb <;> try (cases hb; done)); (refine And.intro ?_ ?_ <;> intro hb <;> try (cases hb; done)))
        (first | exact hQ2 _ _ _ ⟨rfl, lead, s, l1, l2, l3, h1, h2, (fun z => by cases z), kp⟩ | exact ⟨rfl, hQ2 _ _ _ ⟨lead, s, l1, l2, l3, h1, h2, (fun z => by cases z), kp⟩⟩ | exact ⟨rfl, lead, s, l1, l2, l3, h1, h2, (fun z => by cases z), kp⟩)
      | true =>
        refine TV_T (decide (s.head? = some 0)) (fun m' => m' = m) ?_ ?_
        · refine TV_boolop ?_
          (refine TAll_and ?_; refine TV_value ?_; refine EV_local hE (by kernel_rfl) l3 ?_; (with_reducible refine TR_bool ?_))
          (refine And.intro ?_ ?_ <;> intro hb <;> try (cases hb; done))
          (refine TAll_and ?_; refine TV_compare ?_; refine EV_slice_str ?_; refine EV_local hE (by kernel_rfl) l2 ?_; (with_reducible first | refine exr ?_ | refine ⟨_, rfl, ?_⟩))
          (first | refine hQ2 _ _ _ ⟨by (first | lia | omega), ?_⟩ | refine ⟨by (first | lia | omega), hQ2 _ _ _ ⟨?_⟩⟩ | refine ⟨by (first | lia | omega), ?_⟩)
          (refine PT_none ?_; refine PT_some ?_; refine EV_int ?_; (with_reducible first | refine exr ?_ | refine ⟨_, rfl, ?_⟩); refine EV_str (l := [0]) (by kernel_rfl) ?_; (with_reducible refine O2_eq_str ?_); (with_reducible refine TR_bool ?_))
          have e1 : pySl s none (some 1) = s.take 1 := pySl_upto s 1
          rw [e1]
          (refine And.intro ?_ ?_ <;> intro hb <;> try (cases hb; done))
          · have hb' : s.take 1 = [0] := by simpa using hb
            refine TAll_and_nil ?_
            (first | exact hQ2 _ _ _ ⟨by rw [eq_comm, decide_eq_true_eq]; exact (take1_0 s).mp hb', rfl, rfl⟩ | exact ⟨by rw [eq_comm, decide_eq_true_eq]; exact (take1_0 s).mp hb', hQ2 _ _ _ ⟨rfl, rfl⟩⟩ | exact ⟨by rw [eq_comm, decide_eq_true_eq]; exact (take1_0 s).mp hb', rfl, rfl⟩)
          · have hb' : ¬ s.take 1 = [0] := by simpa using hb
            skip
            (first | exact hQ2 _ _ _ ⟨by rw [eq_comm, decide_eq_false_iff_not]; exact fun z => hb' ((take1_0 s).mpr z), rfl, rfl⟩ | exact ⟨by rw [eq_comm, decide_eq_false_iff_not]; exact fun z => hb' ((take1_0 s).mpr z), hQ2 _ _ _ ⟨rfl, rfl⟩⟩ | exact ⟨by rw [eq_comm, decide_eq_false_iff_not]; exact fun z => hb' ((take1_0 s).mpr z), rfl, rfl⟩)
        rintro m' rfl
        (first | refine hQ2 _ _ _ ⟨fun ht => ?_, fun ht => ?_⟩ | refine ⟨fun ht => ?_, hQ2 _ _ _ ⟨fun ht => ?_⟩⟩ | refine ⟨fun ht => ?_, fun ht => ?_⟩)
        · have hh : s.head? = some 0 := of_decide_eq_true ht
          obtain ⟨s', rfl⟩ : ∃ s', s = 0 :: s' := by
            cases s with
            | nil => cases hh
            | cons a s' => simp at hh; exact ⟨s', by rw [hh]⟩
          rw [opF_0] at h2
          refine EX_cons (E1_AssignSwap "lead" "signs" hE ((by kernel_rfl)) ((by kernel_rfl)) ?_ (by rfl) (by rfl))
          (refine EV_tuple ?_; refine AR_cons ?_; refine EV_binop ?_; refine EV_local hE (by kernel_rfl) l1 ?_; refine EV_str (l := [65533]) (by kernel_rfl) ?_; (with_reducible refine O2_add_str ?_ ?_); rotate_left; refine AR_cons ?_; refine EV_slice_str ?_; refine EV_local hE (by kernel_rfl) l2 ?_; (with_reducible first | refine exr ?_ | refine ⟨_, rfl, ?_⟩); rotate_left)
          · simp; simp at h1; (first | lia | omega)
          (first | refine hQ2 _ _ _ ⟨by simp; simp at h1; (first | lia | omega), ?_⟩ | refine ⟨by simp; simp at h1; (first | lia | omega), hQ2 _ _ _ ⟨?_⟩⟩ | refine ⟨by simp; simp at h1; (first | lia | omega), ?_⟩)
          (refine PT_some ?_; refine EV_int ?_; (with_reducible first | refine exr ?_ | refine ⟨_, rfl, ?_⟩); refine PT_none ?_; refine AR_nil ?_)
          have e2 : pySl (0 :: s') (some 1) none = s' := pySl_from (0 :: s') 1
          rw [e2]
          refine ⟨by simp, fun D hD => ?_⟩
          (first | refine hQ2 _ _ _ ⟨D, _, _, rfl, .tup (setM_same _ _ _), ?_⟩ | refine ⟨D, hQ2 _ _ _ ⟨_, _, rfl, .tup (setM_same _ _ _), ?_⟩⟩ | refine ⟨D, _, _, rfl, .tup (setM_same _ _ _), ?_⟩)
          (refine seq_next ?_; refine EX_nil ?_)
          (first | exact hRw3 (s'.length) _ _ (by simp) ⟨lead ++ [65533], s', rfl, setL_self _ _ _, by exact (sS sH), by exact (sS (sS l3)), by simp at h1 ⊢; (first | lia | omega), by rw [h2]; simp, fun a o e => setM_old hD (kp a o e)⟩ | exact hQ2 _ _ _ ⟨s'.length, by simp, lead ++ [65533], s', rfl, setL_self _ _ _, by exact (sS sH), by exact (sS (sS l3)), by simp at h1 ⊢; (first | lia | omega), by rw [h2]; simp, fun a o e => setM_old hD (kp a o e)⟩ | exact ⟨s'.length, hQ2 _ _ _ ⟨by simp, lead ++ [65533], s', rfl, setL_self _ _ _, by exact (sS sH), by exact (sS (sS l3)), by simp at h1 ⊢; (first | lia | omega), by rw [h2]; simp, fun a o e => setM_old hD (kp a o e)⟩⟩ | exact ⟨s'.length, by simp, lead ++ [65533], s', rfl, setL_self _ _ _, by exact (sS sH), by exact (sS (sS l3)), by simp at h1 ⊢; (first | lia | omega), by rw [h2]; simp, fun a o e => setM_old hD (kp a o e)⟩)
        · (first | exact hQ2 _ _ _ ⟨rfl, lead, s, l1, l2, l3, h1, h2, (fun _ => of_decide_eq_false ht), kp⟩ | exact ⟨rfl, hQ2 _ _ _ ⟨lead, s, l1, l2, l3, h1, h2, (fun _ => of_decide_eq_false ht), kp⟩⟩ | exact ⟨rfl, lead, s, l1, l2, l3, h1, h2, (fun _ => of_decide_eq_false ht), kp⟩)
    (intro l m hq0; refine dn fun hG0 => ?_; rcases hq0 with ⟨lead, s, l1, l2, l3, h1, h2, h3, kp⟩ <;> refine hG0 ?_ <;> clear hG0)
    refine EX_cut (R := fun l m => ∃ lead s, l "lead" = some (.str (mkS lead) 0) ∧ l "signs" = some (.str (mkS s) 0) ∧ lead.length + s.length ≤ 2000 ∧ opF fresh sg = (lead, s) ∧ ∀ a o, M a = some o → m a = some o) ?_ ?_
    · refine E1_gen fun Qg4 hQ4 => ?_
      refine E1_WhileG (I := fun kk l m => ∃ lead s, kk = s.length ∧ l "lead" = some (.str (mkS lead) 0) ∧ l "signs" = some (.str (mkS s) 0) ∧ l "fresh" = some (.bool fresh) ∧ lead.length + 2 * s.length ≤ 2000 ∧ opF fresh sg = (lead ++ (opF fresh s).1, (opF fresh s).2) ∧ (fresh = true → s.head? ≠ some 0) ∧ ∀ a o, M a = some o → m a = some o) _
        ⟨lead, s, rfl, l1, l2, l3, h1, h2, h3, kp⟩ ?_
      rintro kk l m ⟨lead, s, rfl, l1, l2, l3, h1, h2, h3, kp⟩ Rw5 hRw5
      cases fresh with
      | false =>
        (refine TV_boolop ?_; refine TAll_and ?_; refine TV_value ?_; refine EV_local hE (by kernel_rfl) l3 ?_; (with_reducible refine TR_bool ?_); (refine And.intro ?_ ?_ <;> intro hb <;> try (cases hb; done)); (refine And.intro ?_ ?_ <;> intro hb <;> try (cases hb; done)))
        (first | exact hQ4 _ _ _ ⟨rfl, lead, s, l1, l2, by (first | lia | omega), by rw [h2, opF_false]; simp, kp⟩ | exact ⟨rfl, hQ4 _ _ _ ⟨lead, s, l1, l2, by (first | lia | omega), by rw [h2, opF_false]; simp, kp⟩⟩ | exact ⟨rfl, lead, s, l1, l2, by (first | lia | omega), by rw [h2, opF_false]; simp, kp⟩)
      | true =>
        refine TV_T (decide (s.take 2 = [45, 0])) (fun m' => m' = m) ?_ ?_
        · refine TV_boolop ?_
          (refine TAll_and ?_; refine TV_value ?_; refine EV_local hE (by kernel_rfl) l3 ?_; (with_reducible refine TR_bool ?_))
          (refine And.intro ?_ ?_ <;> intro hb <;> try (cases hb; done))
          (refine TAll_and ?_; refine TV_compare ?_; refine EV_slice_str ?_; refine EV_local hE (by kernel_rfl) l2 ?_; (with_reducible first | refine exr ?_ | refine ⟨_, rfl, ?_⟩))
          (first | refine hQ4 _ _ _ ⟨by (first | lia | omega), ?_⟩ | refine ⟨by (first | lia | omega), hQ4 _ _ _ ⟨?_⟩⟩ | refine ⟨by (first | lia | omega), ?_⟩)
          (refine PT_none ?_; refine PT_some ?_; refine EV_int ?_; (with_reducible first | refine exr ?_ | refine ⟨_, rfl, ?_⟩); refine EV_str (l := [45, 0]) (by kernel_rfl) ?_; (with_reducible refine O2_eq_str ?_); (with_reducible refine TR_bool ?_))
          have e1 : pySl s none (some 2) = s.take 2 := pySl_upto s 2
          rw [e1]
          (refine And.intro ?_ ?_ <;> intro hb <;> try (cases hb; done))
          · have hb' : s.take 2 = [45, 0] := by simpa using hb
            refine TAll_and_nil ?_
            (first | exact hQ4 _ _ _ ⟨by rw [eq_comm, decide_eq_true_eq]; exact hb', rfl, rfl⟩ | exact ⟨by rw [eq_comm, decide_eq_true_eq]; exact hb', hQ4 _ _ _ ⟨rfl, rfl⟩⟩ | exact ⟨by rw [eq_comm, decide_eq_true_eq]; exact hb', rfl, rfl⟩)
          · have hb' : ¬ s.take 2 = [45, 0] := by simpa using hb
            skip
            (first | exact hQ4 _ _ _ ⟨by rw [eq_comm, decide_eq_false_iff_not]; exact hb', rfl, rfl⟩ | exact ⟨by rw [eq_comm, decide_eq_false_iff_not]; exact hb', hQ4 _ _ _ ⟨rfl, rfl⟩⟩ | exact ⟨by rw [eq_comm, decide_eq_false_iff_not]; exact hb', rfl, rfl⟩)
        rintro m' rfl
        (first | refine hQ4 _ _ _ ⟨fun ht => ?_, fun ht => ?_⟩ | refine ⟨fun ht => ?_, hQ4 _ _ _ ⟨fun ht => ?_⟩⟩ | refine ⟨fun ht => ?_, fun ht => ?_⟩)
        · have hh : s.take 2 = [45, 0] := of_decide_eq_true ht
          obtain ⟨s', rfl⟩ : ∃ s', s = 45 :: 0 :: s' := by
            match s, hh with
            | a :: b :: s', hh => simp at hh; exact ⟨s', by rw [hh.1, hh.2]⟩
            | [], hh => simp at hh
            | [a], hh => simp at hh
          rw [opF_45] at h2
          refine EX_cons (E1_AssignSwap "lead" "signs" hE ((by kernel_rfl)) ((by kernel_rfl)) ?_ (by rfl) (by rfl))
          (refine EV_tuple ?_; refine AR_cons ?_; refine EV_binop ?_; refine EV_local hE (by kernel_rfl) l1 ?_; refine EV_str (l := [45, 65533]) (by kernel_rfl) ?_; (with_reducible refine O2_add_str ?_ ?_); rotate_left; refine AR_cons ?_; refine EV_binop ?_; refine EV_str (l := [45]) (by kernel_rfl) ?_; refine EV_slice_str ?_; refine EV_local hE (by kernel_rfl) l2 ?_; (with_reducible first | refine exr ?_ | refine ⟨_, rfl, ?_⟩); rotate_left)
          · simp; simp at h1; (first | lia | omega)
          (first | refine hQ4 _ _ _ ⟨by simp; simp at h1; (first | lia | omega), ?_⟩ | refine ⟨by simp; simp at h1; (first | lia | omega), hQ4 _ _ _ ⟨?_⟩⟩ | refine ⟨by simp; simp at h1; (first | lia | omega), ?_⟩)
          have e2 : pySl (45 :: 0 :: s') (some 2) none = s' := pySl_from (45 :: 0 :: s') 2
          (refine PT_some ?_; refine EV_int ?_; (with_reducible first | refine exr ?_ | refine ⟨_, rfl, ?_⟩); refine PT_none ?_; (with_reducible refine O2_add_str ?_ ?_); rotate_left; refine AR_nil ?_; rotate_left)
          · rw [e2]; simp; simp at h1; (first | lia | omega)
          rw [e2]
          refine ⟨by simp, fun D hD => ?_⟩
          (first | refine hQ4 _ _ _ ⟨D, _, _, rfl, .tup (setM_same _ _ _), ?_⟩ | refine ⟨D, hQ4 _ _ _ ⟨_, _, rfl, .tup (setM_same _ _ _), ?_⟩⟩ | refine ⟨D, _, _, rfl, .tup (setM_same _ _ _), ?_⟩)
          (refine seq_next ?_; refine EX_nil ?_)
          (first | exact hRw5 ((45 :: s').length) _ _ (by simp) ⟨lead ++ [45, 65533], 45 :: s', rfl, setL_self _ _ _, by exact (sS sH), by exact (sS (sS l3)), by simp at h1 ⊢; (first | lia | omega), by rw [h2]; simp, fun _ => by simp, fun a o e => setM_old hD (kp a o e)⟩ | exact hQ4 _ _ _ ⟨(45 :: s').length, by simp, lead ++ [45, 65533], 45 :: s', rfl, setL_self _ _ _, by exact (sS sH), by exact (sS (sS l3)), by simp at h1 ⊢; (first | lia | omega), by rw [h2]; simp, fun _ => by simp, fun a o e => setM_old hD (kp a o e)⟩ | exact ⟨(45 :: s').length, hQ4 _ _ _ ⟨by simp, lead ++ [45, 65533], 45 :: s', rfl, setL_self _ _ _, by exact (sS sH), by exact (sS (sS l3)), by simp at h1 ⊢; (first | lia | omega), by rw [h2]; simp, fun _ => by simp, fun a o e => setM_old hD (kp a o e)⟩⟩ | exact ⟨(45 :: s').length, by simp, lead ++ [45, 65533], 45 :: s', rfl, setL_self _ _ _, by exact (sS sH), by exact (sS (sS l3)), by simp at h1 ⊢; (first | lia | omega), by rw [h2]; simp, fun _ => by simp, fun a o e => setM_old hD (kp a o e)⟩)
        · have hh : ¬ s.take 2 = [45, 0] := of_decide_eq_false ht
          have he2 := opF_end (h3 rfl) (fun r z => hh (by rw [z]; rfl))
          (first | exact hQ4 _ _ _ ⟨rfl, lead, s, l1, l2, by (first | lia | omega), by rw [h2, he2]; simp, kp⟩ | exact ⟨rfl, hQ4 _ _ _ ⟨lead, s, l1, l2, by (first | lia | omega), by rw [h2, he2]; simp, kp⟩⟩ | exact ⟨rfl, lead, s, l1, l2, by (first | lia | omega), by rw [h2, he2]; simp, kp⟩)
    (intro l m hq0; refine dn fun hG0 => ?_; rcases hq0 with ⟨lead, s, l1, l2, h1, h2, kp⟩ <;> refine hG0 ?_ <;> clear hG0)
    (refine EX_cons ?_; refine E1_Return ?_; refine EV_tuple ?_; refine AR_cons ?_; refine EV_local hE (by kernel_rfl) l1 ?_; refine AR_cons ?_; refine EV_local hE (by kernel_rfl) l2 ?_; refine AR_nil ?_)
    refine ⟨by simp, fun D hD => ?_⟩
    (refine seq_ret ?_; refine hQ1 _ _ _ ?_; rw [h2]; refine ⟨_, rfl, ?_⟩)
    have hMD : M D = none := by
      cases q : M D with
      | none => rfl
      | some o => rw [kp _ _ q] at hD; cases hD
    (first | exact hQ1 _ _ _ ⟨hMD, setM_same _ _ _, fun a o e => setM_old hD (kp a o e)⟩ | exact ⟨hMD, hQ1 _ _ _ ⟨setM_same _ _ _, fun a o e => setM_old hD (kp a o e)⟩⟩ | exact ⟨hMD, setM_same _ _ _, fun a o e => setM_old hD (kp a o e)⟩)
end
end Mine
end
section
open PySem PySem.W PySem.Calls PyProof.Rows
set_option maxRecDepth 100000
set_option maxHeartbeats 4000000
set_option linter.unusedVariables false
namespace Mine
section
variable {X : Cx} {n : Nat} {fz : Frz} {L : Addr} {env : Env} {loc : Loc} {M : Mem} {a b : Addr}
theorem SUB_tupP {Q : QV} {value slice : Expr} {xs : List Value} {i : Nat} {x : Value} (hm : RdM X M a (.tup xs)) (hi : i < 1000) (hx : xs[i]? = some x) (h : Q x loc M)
    (hs : ∀ u, subscripted slice false (.ref a) (.int (i : Int) u) = operate [.ref a, .int (i : Int) u] (getItem (.ref a) (.int (i : Int) u)) := by intro _; with_unfolding_all rfl) :
    O2 X n fz L (subscriptTail value slice) (.ref a) (.int (i : Int) 0) Q loc M := fun va vb e1 e2 A s r F o => by
  rw [er_ref e1]
  obtain ⟨u, rfl⟩ := er_int e2
  obtain ⟨vs, h1, h2⟩ := hm.get F
  obtain ⟨v, g1, g2⟩ := map_get h2 hx
  have hsz : i < vs.size := (Array.getElem?_eq_some_iff.mp g1).1
  have hj : seqIndex? (i : Int) vs.size = some i := by
    unfold seqIndex?
    simp; (first | lia | omega)
  exact tail_any h1.typeIs PySem.F.slot_tuple_getitem.lookup (getItem_tuple h1 (by (first | lia | omega)) (by (first | lia | omega)) hj g1 ⟨loc, M, F, Like.refl s, by show Q (er _) loc M; rw [g2]; exact h⟩) (hs u)
theorem valueAt_map {x : Str} : ∀ {kvs : List (Str × Value)}, (kvs.map fun p => (p.1, er p.2)).lookup x = (valueAt kvs x).map er
  | [] => rfl
  | (k, w) :: r => by
    have ih := valueAt_map (x := x) (kvs := r)
    unfold valueAt at ih ⊢
    simp only [List.map_cons, List.lookup_cons, List.find?_cons]
    by_cases q : k = x
    · subst q; simp
    · have : (x == k) = false := by simpa using fun e : x = k => q e.symm
      rw [this]
      simp only [q, decide_false]
      exact ih
theorem CA_dget {Q : QV} {es : List (Str × Value)} {x : Str} {d : Value} (hm : M a = some (.dct es)) (h : Q ((es.lookup x).getD d) loc M) : CA X n fz L (.builtin "dict.get") [.ref a, .str x 0, d] Q loc M := fun vs e A s r F o => by
  obtain ⟨v1, v2, v3, rfl, e1, e2, e3⟩ := vs3 e
  rw [er_ref e1]
  obtain ⟨u, rfl⟩ := er_str e2
  obtain ⟨kvs, h1, h3, h2⟩ := (RdM.dct hm : RdM X M a (.dct es)).get F
  refine call_meetsIn PySem.F.slot_dict_get h1.mapOf.typeIs PySem.F.entry_dict_get (PySem.F.args_dict_get_3 _ _ _) (meets_dict_get_default (strKind X.prog X.w) (k := x) a (strKind_is X.prog X.w x u) (sysM h3) v3) ⟨_, h1.mapOf, ?_⟩
  refine ⟨loc, M, F, Like.tokn s _ (Nat.le_succ _), ?_⟩
  show Q (er _) loc M
  have key : er ((valueAt kvs x).getD v3) = (es.lookup x).getD d := by
    rw [← h2, valueAt_map]
    cases hq : valueAt kvs x with
    | none => exact e3
    | some w => rfl
  rw [key]; exact h
theorem GM_dget {Q : Value → List Value → Loc → Mem → Prop} {es : List (Str × Value)} (hm : M a = some (.dct es)) (h : Q (.builtin "dict.get") [.ref a] loc M) : GM X n fz L "get" (.ref a) Q loc M := fun vo pl e A s r F o => by
  rw [er_ref e]
  obtain ⟨kvs, h1, h3, h2⟩ := (RdM.dct hm : RdM X M a (.dct es)).get F
  have q : (fun p l m => Q (er p.1) (p.2.map er) l m : Value × List Value → Loc → Mem → Prop) (.builtin "dict.get", [.ref a]) loc M := h
  refine getMethod_builtin (T := "dict") h1.mapOf.typeIs PySem.F.plainAttrs_dict PySem.F.slot_dict_get PySem.F.type_dict_get (fun a' e' => ?_) ⟨loc, M, F, Like.refl s, q⟩
  cases e'
  obtain ⟨o, es', ep, ho, hx, _⟩ := h1
  exact ⟨o, ho, hx.2.1⟩
end
end Mine
end
section
open PySem PySem.W PyProof.Rows
set_option maxRecDepth 100000
set_option maxHeartbeats 4000000
set_option linter.unusedVariables false
namespace Mine
noncomputable def toldD : List (Str × Value) := [("-", .str (mkS m_dash) 0), ("!", .str (mkS m_bang) 0)]
theorem pySl_m2 (l : List Nat) : pySl l (some (-2)) none = l.drop (l.length - 2) := by
  unfold pySl clipI
  simp
  congr 1
  (first | lia | omega)
theorem last2 (l : List Nat) : (l.drop (l.length - 2) = [45, 45]) ↔ [45, 45].isPrefixOf l.reverse = true := by
  rw [List.isPrefixOf_iff_prefix]
  constructor
  · intro h
    have h1 := List.take_append_drop (l.length - 2) l
    rw [h] at h1
    exact ⟨(l.take (l.length - 2)).reverse, by rw [← h1]; simp⟩
  · rintro ⟨t, ht⟩
    have h1 : l = t.reverse ++ [45, 45] := by
      have := congrArg List.reverse ht
      simp at this
      rw [← this]
    rw [h1]; simp
theorem E1_IfT {X : Cx} {n : Nat} {fz : Frz} {L : Addr} {env : Env} {loc : Loc} {M : Mem} {Q : QF} {test : Expr} {body orelse : List Stmt} {pos : Pos} (t : Bool) (R : Mem → Prop) (h1 : TV X n fz L env test (fun b l m => b = t ∧ l = loc ∧ R m) loc M)
    (h2 : t = true → ∀ m, R m → EX X n fz L env body Q loc m) (h3 : t = false → ∀ m, R m → EX X n fz L env orelse Q loc m) : E1 X n fz L env (.If test body orelse pos) Q loc M :=
  E1_If fun whole e => WT.mono (h1 whole e) fun b l m ⟨hb, hl, hr⟩ => by subst hb hl; exact ⟨fun z => h2 z m hr, fun z => h3 z m hr⟩
theorem opF_len (fresh : Bool) (sg : List Nat) : (opF fresh sg).2.length ≤ sg.length := by
  have hd : ∀ l : List Nat, (l.dropWhile (· == 0)).length ≤ l.length := fun l => (List.dropWhile_sublist _).length_le
  cases fresh with
  | false => exact Nat.le_refl _
  | true =>
    unfold opF
    simp only [if_true]
    have h1 := hd sg
    split
    · rename_i r e
      rw [e] at h1
      have h2 := hd r
      simp at h1 ⊢
      (first | lia | omega)
    · exact h1
theorem told_look (x : Nat) : (toldD.lookup (mkS [x])).getD (.str (mkS m_char) 0) = .str (mkS (toldF x)) 0 := by
  have k1 : (("-" : Str)) = mkS [45] := by kernel_rfl
  have k2 : (("!" : Str)) = mkS [33] := by kernel_rfl
  have ke : ∀ c : Nat, ((mkS [x] : Str) == mkS [c]) = decide (x = c) := fun c => by
    by_cases h : x = c
    · subst h; simp
    · have : mkS [x] ≠ mkS [c] := fun z => h (by have := mkS_inj z; simpa using this)
      simp [h, this]
  unfold toldD toldF
  rw [k1, k2]
  simp only [List.lookup_cons, ke, List.lookup_nil]
  by_cases h45 : x = 45
  · subst h45; simp
  · by_cases h33 : x = 33
    · subst h33; simp
    · simp [h45, h33]
section
variable {Z : Cz} {P : Params}
theorem c_told {n : Nat} {M : Mem} : CL Z.cx (n + 1) (.ref 795) [] (fun v m => ∃ D, M D = none ∧ v = .ref D ∧ m D = some (.dct toldD) ∧ ∀ a o, M a = some o → m a = some o) M := by
  refine CL_fn (binds := []) (by rfl) (by kernel_rfl) ?_ (by kernel_rfl) ?_
  · intro vs e
    have := vs0 e
    subst this
    exact ⟨[], fun s hx => kp_binds hx (fun S => rfl), by simp⟩
  · intro fz L env hE he; subst he
    (refine EX_cons ?_; refine E1_Return ?_; (refine EV_dict2K ?_; intro D hD); refine EV_str (l := [117, 110, 101, 120, 112, 101, 99, 116, 101, 100, 45, 100, 97, 115, 104, 45, 97, 102, 116, 101, 114, 45, 100, 111, 117, 98, 108, 101, 45, 100, 97, 115, 104, 45, 105, 110, 45, 99, 111, 109, 109, 101, 110, 116]) (by kernel_rfl) ?_; refine EV_str (l := [117, 110, 101, 120, 112, 101, 99, 116, 101, 100, 45, 98, 97, 110, 103, 45, 97, 102, 116, 101, 114, 45, 100, 111, 117, 98, 108, 101, 45, 100, 97, 115, 104, 45, 105, 110, 45, 99, 111, 109, 109, 101, 110, 116]) (by kernel_rfl) ?_; refine ⟨rfl, ?_⟩; refine seq_ret ?_)
    exact ⟨_, hD, rfl, setM_same _ _ _, fun a o e => setM_old hD e⟩
theorem c_fault {n : Nat} {M : Mem} {sg : List Nat} {fresh : Bool} {x : Nat} (hl : sg.length ≤ 1000) :
    CL Z.cx (n + 3) (.ref 830) [.str (mkS sg) 0, .str (mkS [x]) 0, .bool fresh] (fun v m => ∃ D, v = .ref D ∧ M D = none ∧ m D = some (.lst (strsV (fltF fresh sg x))) ∧ ∀ a o, M a = some o → m a = some o) M := by
  refine CL_fn (binds := [("signs", .str (mkS sg) 0), ("sign", .str (mkS [x]) 0), ("fresh", .bool fresh)]) (by rfl) (by kernel_rfl) ?_ (by kernel_rfl) ?_
  · intro vs e
    obtain ⟨v1, v2, v3, rfl, e1, e2, e3⟩ := vs3 e
    exact ⟨[("signs", v1), ("sign", v2), ("fresh", v3)], fun s hx => kp_binds hx (fun S => rfl), by simp [e1, e2, e3]⟩
  · intro fz L env hE he; subst he; refine EX_gen fun Qg1 hQ1 => ?_
    rw [bindL3]
    (refine EX_cons ?_; refine E1_AssignName ?_ rfl; refine EV_sub ?_; refine EV_ncall ?_; refine EV_gref (a := 816) hE (by kernel_rfl) (by kernel_rfl) ?_; refine CW_go0 (KeepOk.rf (by kernel_rfl)) ?_; refine AR_cons ?_; refine EV_local hE (by kernel_rfl) (sS (sS sH)) ?_; refine AR_cons ?_; refine EV_local hE (by kernel_rfl) sH ?_; refine AR_nil ?_)
    refine CA_CL ((c_opening (n := n) hl).mono ?_) (by (first | lia | omega))
    (intro v m1 hq0; refine dn fun hG0 => ?_; rcases hq0 with ⟨D1, rfl, hD1, mD1, kp1⟩ <;> refine hG0 ?_ <;> clear hG0)
    refine EV_int ?_
    refine SUB_tupP (i := 1) (.tup mD1) (by decide) (x := .str (mkS (opF fresh sg).2) 0) rfl ?_
    (refine STn hE (by kernel_rfl) ?_)
    have fresh1 : ∀ {m : Mem} {D : Addr}, (∀ a o, m1 a = some o → m a = some o) → m D = none → M D = none := fun {m D} k hD => by
      cases q : M D with
      | none => rfl
      | some o => rw [k _ _ (kp1 _ _ q)] at hD; cases hD
    have hf : fltF fresh sg x = if x = 0 then [m_bad] else if (fresh = true ∧ ((opF fresh sg).2 = [] ∨ (opF fresh sg).2 = [45])) ∧ x = 62 then [m_inc] else if [45, 45].isPrefixOf (opF fresh sg).2.reverse = true ∧ x ≠ 62 then [toldF x] else [] := rfl
    have hrl : (opF fresh sg).2.length ≤ 1000 := Nat.le_trans (opF_len _ _) hl
    generalize (opF fresh sg).2 = rest at hf hrl ⊢
    refine EX_cons (E1_IfT (decide (x = 0)) (fun m => m = m1) ?_ ?_ ?_)
    · (refine TV_compare ?_; refine EV_local hE (by kernel_rfl) (sS (sS sH)) ?_; refine EV_str (l := [0]) (by kernel_rfl) ?_; (with_reducible refine O2_eq_str ?_); (with_reducible refine TR_bool ?_))
      exact ⟨by simp, rfl, rfl⟩
    · rintro ht m rfl
      have h0 : x = 0 := of_decide_eq_true ht
      rw [if_pos h0] at hf
      (refine EX_cons ?_; refine E1_Return ?_; refine EV_list ?_; refine AR_cons ?_; refine EV_str (l := [105, 110, 118, 97, 108, 105, 100, 45, 99, 111, 100, 101, 112, 111, 105, 110, 116]) (by kernel_rfl) ?_; refine AR_nil ?_)
      refine ⟨by simp, fun D hD => ?_⟩
      (refine seq_ret ?_; refine seq_ret ?_; refine hQ1 _ _ _ ?_; rw [hf]; refine ⟨_, rfl, ?_⟩)
      exact ⟨fresh1 (fun a o e => e) hD, setM_same _ _ _, fun a o e => setM_old hD (kp1 _ _ e)⟩
    rintro ht m rfl
    have h0 : ¬ x = 0 := of_decide_eq_false ht
    rw [if_neg h0] at hf
    refine EX_nil ?_
    refine seq_next ?_
    refine EX_cons (E1_IfT (decide ((fresh = true ∧ (rest = [] ∨ rest = [45])) ∧ x = 62)) (fun m2 => ∀ a o, m a = some o → m2 a = some o) ?_ ?_ ?_)
    · cases fresh with
      | false =>
        (refine TV_boolop ?_; refine TAll_and ?_; refine TV_value ?_; refine EV_local hE (by kernel_rfl) (sS sH) ?_; (with_reducible refine TR_bool ?_); (refine And.intro ?_ ?_ <;> intro hb <;> try (cases hb; done)))
        exact ⟨by simp, rfl, fun a o e => e⟩
      | true =>
        refine TV_boolop ?_
        (refine TAll_and ?_; refine TV_value ?_; refine EV_local hE (by kernel_rfl) (sS sH) ?_; (with_reducible refine TR_bool ?_))
        (refine And.intro ?_ ?_ <;> intro hb <;> try (cases hb; done))
        (refine TAll_and ?_; refine TV_compare ?_; refine EV_local hE (by kernel_rfl) sH ?_; refine EV_tuple ?_; refine AR_cons ?_; refine EV_str (l := []) (by kernel_rfl) ?_; refine AR_cons ?_; refine EV_str (l := [45]) (by kernel_rfl) ?_; refine AR_nil ?_)
        refine ⟨by simp, fun D hD => ?_⟩
        skip
        refine O2_in_tup (ts := [[], [45]]) (.tup (setM_same _ _ _)) ?_
        with_reducible refine TR_bool ?_
        (refine And.intro ?_ ?_ <;> intro hb <;> try (cases hb; done))
        · have h1 : rest = [] ∨ rest = [45] := by simpa using hb
          (refine TAll_and ?_; refine TV_compare ?_; refine EV_local hE (by kernel_rfl) (sS (sS sH)) ?_; refine EV_str (l := [62]) (by kernel_rfl) ?_; (with_reducible refine O2_eq_str ?_); (with_reducible refine TR_bool ?_))
          (refine And.intro ?_ ?_ <;> intro hb <;> try (cases hb; done))
          · have h2 : x = 62 := by simpa using hb
            refine TAll_and_nil ?_
            exact ⟨by simp [h1, h2], rfl, fun a o e => setM_old hD e⟩
          · have h2 : ¬ x = 62 := by simpa using hb
            skip
            exact ⟨by simp [h2], rfl, fun a o e => setM_old hD e⟩
        · have h1 : ¬ (rest = [] ∨ rest = [45]) := by simpa using hb
          skip
          exact ⟨by simp [h1], rfl, fun a o e => setM_old hD e⟩
    · rintro ht2 m2 kp2
      have h2 := of_decide_eq_true ht2
      rw [if_pos h2] at hf
      (refine EX_cons ?_; refine E1_Return ?_; refine EV_list ?_; refine AR_cons ?_; refine EV_str (l := [105, 110, 99, 111, 114, 114, 101, 99, 116, 45, 99, 111, 109, 109, 101, 110, 116]) (by kernel_rfl) ?_; refine AR_nil ?_)
      refine ⟨by simp, fun D hD => ?_⟩
      (refine seq_ret ?_; refine seq_ret ?_; refine hQ1 _ _ _ ?_; rw [hf]; refine ⟨_, rfl, ?_⟩)
      exact ⟨fresh1 kp2 hD, setM_same _ _ _, fun a o e => setM_old hD (kp2 _ _ (kp1 _ _ e))⟩
    rintro ht2 m2 kp2
    have h2 := of_decide_eq_false ht2
    rw [if_neg h2] at hf
    refine EX_nil ?_
    refine seq_next ?_
    refine EX_cons (E1_IfT (decide ([45, 45].isPrefixOf rest.reverse = true ∧ x ≠ 62)) (fun m => m = m2) ?_ ?_ ?_)
    · (refine TV_boolop ?_; refine TAll_and ?_; refine TV_compare ?_; refine EV_slice_str ?_; refine EV_local hE (by kernel_rfl) sH ?_; (with_reducible first | refine exr ?_ | refine ⟨_, rfl, ?_⟩))
      refine ⟨by (first | lia | omega), ?_⟩
      (refine PT_some ?_; refine EV_unop ?_; refine EV_int ?_; (with_reducible refine O1_neg_int ?_); (with_reducible first | refine exr ?_ | refine ⟨_, rfl, ?_⟩); refine PT_none ?_; refine EV_str (l := [45, 45]) (by kernel_rfl) ?_; (with_reducible refine O2_eq_str ?_); (with_reducible refine TR_bool ?_))
      rw [pySl_m2]
      (refine And.intro ?_ ?_ <;> intro hb <;> try (cases hb; done))
      · have h5 : rest.drop (rest.length - 2) = [45, 45] := by simpa using hb
        (refine TAll_and ?_; refine TV_compare ?_; refine EV_local hE (by kernel_rfl) (sS (sS sH)) ?_; refine EV_str (l := [62]) (by kernel_rfl) ?_; (with_reducible refine O2_ne_str ?_); (with_reducible refine TR_bool ?_))
        (refine And.intro ?_ ?_ <;> intro hb <;> try (cases hb; done))
        · have h6 : x ≠ 62 := by simpa using hb
          refine TAll_and_nil ?_
          exact ⟨by rw [eq_comm, decide_eq_true_eq]; exact ⟨(last2 rest).mp h5, h6⟩, rfl, rfl⟩
        · have h6 : ¬ x ≠ 62 := by simpa using hb
          skip
          exact ⟨by rw [eq_comm, decide_eq_false_iff_not]; exact fun z => h6 z.2, rfl, rfl⟩
      · have h5 : ¬ rest.drop (rest.length - 2) = [45, 45] := by simpa using hb
        skip
        exact ⟨by rw [eq_comm, decide_eq_false_iff_not]; exact fun z => h5 ((last2 rest).mpr z.1), rfl, rfl⟩
    · rintro ht3 m3 rfl
      have h3 := of_decide_eq_true ht3
      rw [if_pos h3] at hf
      (refine EX_cons ?_; refine E1_Return ?_; refine EV_list ?_; refine AR_cons ?_; refine EV_mcall ?_; refine EV_ncall ?_; refine EV_gref (a := 795) hE (by kernel_rfl) (by kernel_rfl) ?_; refine CW_go0 (KeepOk.rf (by kernel_rfl)) ?_; refine AR_nil ?_)
      refine CA_CL ((c_told (n := n)).mono ?_) (by (first | lia | omega))
      (intro v m4 hq0; refine dn fun hG0 => ?_; rcases hq0 with ⟨DT, hDT, rfl, mDT, kp4⟩ <;> refine hG0 ?_ <;> clear hG0)
      refine GM_dget mDT ?_
      (refine CW_go1 (KeepOk.bf _) ?_; refine AR_cons ?_; refine EV_local hE (by kernel_rfl) (sS (sS sH)) ?_; refine AR_cons ?_; refine EV_str (l := [117, 110, 101, 120, 112, 101, 99, 116, 101, 100, 45, 99, 104, 97, 114, 45, 105, 110, 45, 99, 111, 109, 109, 101, 110, 116]) (by kernel_rfl) ?_; refine AR_nil ?_)
      refine CA_dget mDT ?_
      have hk := told_look x
      rw [hk]
      refine AR_nil ?_
      refine ⟨by simp, fun D hD => ?_⟩
      (refine seq_ret ?_; refine seq_ret ?_; refine hQ1 _ _ _ ?_; rw [hf]; refine ⟨_, rfl, ?_⟩)
      exact ⟨fresh1 (fun a o e => kp4 _ _ (kp2 _ _ e)) hD, setM_same _ _ _, fun a o e => setM_old hD (kp4 _ _ (kp2 _ _ (kp1 _ _ e)))⟩
    rintro ht3 m3 rfl
    have h3 := of_decide_eq_false ht3
    rw [if_neg h3] at hf
    (refine EXn ?_; refine EX_cons ?_; refine E1_Return ?_; refine EV_list ?_; refine AR_nil ?_)
    refine ⟨by simp, fun D hD => ?_⟩
    (refine seq_ret ?_; refine hQ1 _ _ _ ?_; rw [hf]; refine ⟨_, rfl, ?_⟩)
    exact ⟨fresh1 kp2 hD, setM_same _ _ _, fun a o e => setM_old hD (kp2 _ _ (kp1 _ _ e))⟩
end
end Mine
end
section
open PySem PySem.W PyProof.Rows
set_option maxRecDepth 100000
set_option maxHeartbeats 4000000
set_option linter.unusedVariables false
namespace Mine
noncomputable def tailsL : List (List Nat × Nat) := [([45, 45, 33, 62], 6), ([45, 45, 62], 6), ([45, 45, 33], 5), ([45, 45], 4), ([45], 3), ([], 2)]
theorem sfx_nat {rest tail : List Nat} : (rest.drop (rest.length - tail.length) = tail) ↔ tail <:+ rest := by
  constructor
  · intro h
    exact ⟨rest.take (rest.length - tail.length), by
      have := List.take_append_drop (rest.length - tail.length) rest
      rw [h] at this; exact this⟩
  · rintro ⟨t, rfl⟩
    simp
theorem pySl_tail {rest tail : List Nat} : (pySl rest (some ((rest.length : Int) - (tail.length : Int))) none = tail) ↔ tail <:+ rest := by
  by_cases h : tail.length ≤ rest.length
  · have e : ((rest.length : Int) - (tail.length : Int)) = ((rest.length - tail.length : Nat) : Int) := by (first | lia | omega)
    rw [e, pySl_from]
    exact sfx_nat
  · constructor
    · intro z
      have h1 : (pySl rest (some ((rest.length : Int) - (tail.length : Int))) none).length ≤ rest.length := by
        unfold pySl
        simp
        (first | lia | omega)
      rw [z] at h1
      (first | lia | omega)
    · intro z
      have := z.length_le
      (first | lia | omega)
theorem suf_rev {rest tail : List Nat} : tail <:+ rest ↔ tail.reverse.isPrefixOf rest.reverse = true := by
  rw [List.isPrefixOf_iff_prefix, List.reverse_prefix]
theorem sfx_tail {rest : List Nat} {i : Nat} {tl : List Nat} {st : Nat} (h : tailsL[i]? = some (tl, st)) (hno : ∀ j t s, j < i → tailsL[j]? = some (t, s) → ¬ t <:+ rest) (hy : tl <:+ rest) :
    sfx rest.reverse = (st, (rest.take (rest.length - tl.length)).reverse) := by
  have hd : (rest.take (rest.length - tl.length)).reverse = rest.reverse.drop tl.length := by
    have := hy.length_le
    rw [List.reverse_take]
    congr 1
    (first | lia | omega)
  rw [hd]
  have n : ∀ j t s, j < i → tailsL[j]? = some (t, s) → ¬ t.reverse.isPrefixOf rest.reverse = true := fun j t s h1 h2 z => hno j t s h1 h2 (suf_rev.mpr z)
  have y := suf_rev.mp hy
  unfold sfx
  match i, h with
  | 0, h => cases h; rw [if_pos (by exact y)]; rfl
  | 1, h => cases h; rw [if_neg (by exact n 0 _ _ (by (first | lia | omega)) rfl), if_pos (by exact y)]; rfl
  | 2, h => cases h; rw [if_neg (by exact n 0 _ _ (by (first | lia | omega)) rfl), if_neg (by exact n 1 _ _ (by (first | lia | omega)) rfl), if_pos (by exact y)]; rfl
  | 3, h => cases h; rw [if_neg (by exact n 0 _ _ (by (first | lia | omega)) rfl), if_neg (by exact n 1 _ _ (by (first | lia | omega)) rfl), if_neg (by exact n 2 _ _ (by (first | lia | omega)) rfl), if_pos (by exact y)]; rfl
  | 4, h => cases h; rw [if_neg (by exact n 0 _ _ (by (first | lia | omega)) rfl), if_neg (by exact n 1 _ _ (by (first | lia | omega)) rfl), if_neg (by exact n 2 _ _ (by (first | lia | omega)) rfl), if_neg (by exact n 3 _ _ (by (first | lia | omega)) rfl), if_pos (by exact y)]; rfl
  | 5, h => cases h; rw [if_neg (by exact n 0 _ _ (by (first | lia | omega)) rfl), if_neg (by exact n 1 _ _ (by (first | lia | omega)) rfl), if_neg (by exact n 2 _ _ (by (first | lia | omega)) rfl), if_neg (by exact n 3 _ _ (by (first | lia | omega)) rfl), if_neg (by exact n 4 _ _ (by (first | lia | omega)) rfl)]; rfl
  | i + 6, h => cases h
end Mine
end
section
open PySem PySem.W PyProof.Rows
set_option maxRecDepth 100000
set_option maxHeartbeats 4000000
set_option linter.unusedVariables false
namespace Mine
section
variable {Z : Cz} {P : Params}
theorem c_tails {n : Nat} {M : Mem} : CL Z.cx (n + 1) (.ref 788) [] (fun v m => ∃ (D : Addr) (bs : List Addr), v = .ref D ∧ m D = some (.lst (bs.map .ref)) ∧ bs.length = 6 ∧ (∀ (i : Nat) (tl : List Nat) (st : Nat) (b : Addr), tailsL[i]? = some (tl, st) → bs[i]? = some b → m b = some (.tup [.str (mkS tl) 0, .int (st : Nat) 0])) ∧ ∀ a o, M a = some o → m a = some o) M := by
  refine CL_fn (binds := []) (by rfl) (by kernel_rfl) ?_ (by kernel_rfl) ?_
  · intro vs e
    have := vs0 e
    subst this
    exact ⟨[], fun s hx => kp_binds hx (fun S => rfl), by simp⟩
  · intro fz L env hE he; subst he
    (refine EX_cons ?_; refine E1_Return ?_; refine EV_list ?_; refine AR_cons ?_; refine EV_tuple ?_; refine AR_cons ?_; refine EV_str (l := [45, 45, 33, 62]) (by kernel_rfl) ?_; refine AR_cons ?_; refine EV_int ?_; refine AR_nil ?_)
    refine ⟨by simp, fun D1 hD1 => ?_⟩
    (refine AR_cons ?_; refine EV_tuple ?_; refine AR_cons ?_; refine EV_str (l := [45, 45, 62]) (by kernel_rfl) ?_; refine AR_cons ?_; refine EV_int ?_; refine AR_nil ?_)
    refine ⟨by simp, fun D2 hD2 => ?_⟩
    (refine AR_cons ?_; refine EV_tuple ?_; refine AR_cons ?_; refine EV_str (l := [45, 45, 33]) (by kernel_rfl) ?_; refine AR_cons ?_; refine EV_int ?_; refine AR_nil ?_)
    refine ⟨by simp, fun D3 hD3 => ?_⟩
    (refine AR_cons ?_; refine EV_tuple ?_; refine AR_cons ?_; refine EV_str (l := [45, 45]) (by kernel_rfl) ?_; refine AR_cons ?_; refine EV_int ?_; refine AR_nil ?_)
    refine ⟨by simp, fun D4 hD4 => ?_⟩
    (refine AR_cons ?_; refine EV_tuple ?_; refine AR_cons ?_; refine EV_str (l := [45]) (by kernel_rfl) ?_; refine AR_cons ?_; refine EV_int ?_; refine AR_nil ?_)
    refine ⟨by simp, fun D5 hD5 => ?_⟩
    (refine AR_cons ?_; refine EV_tuple ?_; refine AR_cons ?_; refine EV_str (l := []) (by kernel_rfl) ?_; refine AR_cons ?_; refine EV_int ?_; refine AR_nil ?_)
    refine ⟨by simp, fun D6 hD6 => ?_⟩
    refine AR_nil ?_
    refine ⟨by simp, fun D hD => ?_⟩
    refine seq_ret ?_
    refine ⟨D, [D1, D2, D3, D4, D5, D6], rfl, setM_same _ _ _, rfl, fun i tl st b h1 h2 => ?_, fun a o e => setM_old hD (setM_old hD6 (setM_old hD5 (setM_old hD4 (setM_old hD3 (setM_old hD2 (setM_old hD1 e))))))⟩
    match i, h1, h2 with
    | 0, h1, h2 => cases h1; cases h2; exact setM_old hD (setM_old hD6 (setM_old hD5 (setM_old hD4 (setM_old hD3 (setM_old hD2 (setM_same _ _ _))))))
    | 1, h1, h2 => cases h1; cases h2; exact setM_old hD (setM_old hD6 (setM_old hD5 (setM_old hD4 (setM_old hD3 (setM_same _ _ _)))))
    | 2, h1, h2 => cases h1; cases h2; exact setM_old hD (setM_old hD6 (setM_old hD5 (setM_old hD4 (setM_same _ _ _))))
    | 3, h1, h2 => cases h1; cases h2; exact setM_old hD (setM_old hD6 (setM_old hD5 (setM_same _ _ _)))
    | 4, h1, h2 => cases h1; cases h2; exact setM_old hD (setM_old hD6 (setM_same _ _ _))
    | 5, h1, h2 => cases h1; cases h2; exact setM_old hD (setM_same _ _ _)
    | i + 6, h1, h2 => cases h1
end
end Mine
end
section
open PySem PySem.W PyProof.Rows
set_option maxRecDepth 100000
set_option maxHeartbeats 4000000
set_option linter.unusedVariables false
namespace Mine
theorem repL_0 : ∀ (n : Nat) (l : List Nat), l.length ≤ n → repL [0] [65533] n l = repN l
  | 0, [], _ => rfl
  | 0, a :: l, h => by simp at h
  | n + 1, [], _ => rfl
  | n + 1, c :: r, h => by
    have ih := repL_0 n r (by simp at h; (first | lia | omega))
    unfold repL
    by_cases hc : c = 0
    · subst hc
      rw [if_pos (by exact ⟨r, rfl⟩)]
      show [65533] ++ repL [0] [65533] n r = _
      rw [ih]; rfl
    · have hn : ¬ [0] <+: c :: r := by
        rintro ⟨t, ht⟩
        simp at ht
        exact hc ht.1.symm
      rw [if_neg hn, ih]
      unfold repN
      simp [hc]
theorem pySl_head {rest tl : List Nat} (h : tl <:+ rest) : pySl rest none (some ((rest.length : Int) - (tl.length : Int))) = rest.take (rest.length - tl.length) := by
  have := h.length_le
  rw [show ((rest.length : Int) - (tl.length : Int)) = ((rest.length - tl.length : Nat) : Int) by (first | lia | omega), pySl_upto]
noncomputable def wsT (i : Nat) : List Value := match tailsL[i]? with | some p => [.str (mkS p.1) 0, .int (p.2 : Nat) 0] | none => []
theorem EX_abl {X : Cx} {n : Nat} {fz : Frz} {L : Addr} {env : Env} {loc : Loc} {M : Mem} {Q : QF} {ss : List Stmt} {R : Loc → Prop} (h1 : R loc) (h2 : ∀ l, R l → EX X n fz L env ss Q l M) : EX X n fz L env ss Q loc M := h2 _ h1
theorem opF1_len (fresh : Bool) (sg : List Nat) : (opF fresh sg).1.length ≤ 2 * sg.length := by
  cases fresh with
  | false => simp [opF]
  | true =>
    have h0 : (sg.takeWhile (· == 0)).length + (sg.dropWhile (· == 0)).length = sg.length := by
      rw [← List.length_append, List.takeWhile_append_dropWhile]
    unfold opF
    simp only [if_true]
    split
    · rename_i r e
      rw [e] at h0
      have h1 : (r.takeWhile (· == 0)).length ≤ r.length := (List.takeWhile_sublist _).length_le
      have h2 : ∀ l : List Nat, ((l.map fun _ => [45, 65533]).flatten).length = 2 * l.length := fun l => by
        induction l with
        | nil => rfl
        | cons a l ih => simp only [List.map_cons, List.flatten_cons, List.length_append, ih, List.length_cons, List.length_nil]; (first | lia | omega)
      have h3 : ∀ l : List Nat, (repN l).length = l.length := fun l => by unfold repN; simp
      rw [List.length_append, h2, h3]
      simp at h0
      (first | lia | omega)
    · have h3 : ∀ l : List Nat, (repN l).length = l.length := fun l => by unfold repN; simp
      show (repN _).length ≤ _
      rw [h3]; (first | lia | omega)
section
variable {Z : Cz} {P : Params}
theorem c_lawread {n : Nat} {M : Mem} {sg : List Nat} {fresh : Bool} (hl : sg.length ≤ 1000) :
    CL Z.cx (n + 3) (.ref 823) [.str (mkS sg) 0, .bool fresh] (fun v m => ∃ D, v = .ref D ∧ M D = none ∧ m D = some (.tup [.int ((readF fresh sg).1 : Nat) 0, .str (mkS (readF fresh sg).2) 0]) ∧ ∀ a o, M a = some o → m a = some o) M := by
  refine CL_fn (binds := [("signs", .str (mkS sg) 0), ("fresh", .bool fresh)]) (by rfl) (by kernel_rfl) ?_ (by kernel_rfl) ?_
  · intro vs e
    obtain ⟨v1, v2, rfl, e1, e2⟩ := vs2 e
    exact ⟨[("signs", v1), ("fresh", v2)], fun s hx => kp_binds hx (fun S => rfl), by simp [e1, e2]⟩
  · intro fz L env hE he; subst he; refine EX_gen fun Qg1 hQ1 => ?_
    rw [bindL2]
    have hf : readF fresh sg = if fresh = true ∧ (opF fresh sg).2 = [] then (0, (opF fresh sg).1) else if fresh = true ∧ (opF fresh sg).2 = [45] then (1, (opF fresh sg).1)
      else if fresh = true ∧ ((opF fresh sg).2 = [62] ∨ (opF fresh sg).2 = [45, 62]) then (6, (opF fresh sg).1)
      else ((sfx (opF fresh sg).2.reverse).1, (opF fresh sg).1 ++ repN (sfx (opF fresh sg).2.reverse).2.reverse) := rfl
    have hrl : (opF fresh sg).2.length ≤ 1000 := Nat.le_trans (opF_len _ _) hl
    (refine EX_cons ?_; refine E1_AssignTuple ?_ rfl rfl rfl; refine EV_ncall ?_; refine EV_gref (a := 816) hE (by kernel_rfl) (by kernel_rfl) ?_; refine CW_go0 (KeepOk.rf (by kernel_rfl)) ?_; refine AR_cons ?_; refine EV_local hE (by kernel_rfl) (sS sH) ?_; refine AR_cons ?_; refine EV_local hE (by kernel_rfl) sH ?_; refine AR_nil ?_)
    refine CA_CL ((c_opening (n := n) hl).mono ?_) (by (first | lia | omega))
    (intro v m1 hq0; refine dn fun hG0 => ?_; rcases hq0 with ⟨D1, rfl, hD1, mD1, kp1⟩ <;> refine hG0 ?_ <;> clear hG0)
    refine ⟨D1, _, rfl, .tup mD1, rfl, ?_⟩
    (refine ATs_cons ?_; refine AT_name ?_; refine ST_local hE (by kernel_rfl) ?_; refine ATs_cons ?_; refine AT_name ?_; refine ST_local hE (by kernel_rfl) ?_; refine ATs_nil ?_; refine seq_next ?_)
    have hll : (opF fresh sg).1.length ≤ 2000 := by have := opF1_len fresh sg; (first | lia | omega)
    have fresh1 : ∀ {m : Mem} {D : Addr}, (∀ a o, m1 a = some o → m a = some o) → m D = none → M D = none := fun {m D} k hD => by
      cases q : M D with
      | none => rfl
      | some o => rw [k _ _ (kp1 _ _ q)] at hD; cases hD
    refine EX_abl (R := fun l => l "fresh" = some (.bool fresh) ∧ l "lead" = some (.str (mkS (opF fresh sg).1) 0) ∧ l "rest" = some (.str (mkS (opF fresh sg).2) 0)) ⟨by exact (sS (sS sH)), by exact (sS sH), by exact sH⟩ ?_
    rintro l ⟨l1, l2, l3⟩
    generalize (opF fresh sg).2 = rest at hf hrl l3 ⊢
    generalize (opF fresh sg).1 = lead at hf hll l2 ⊢
    refine EX_cons (E1_IfT (decide (fresh = true ∧ (rest = [] ∨ rest = [45]))) (fun m2 => ∀ a o, m1 a = some o → m2 a = some o) ?_ ?_ ?_)
    · cases fresh with
      | false =>
        (refine TV_boolop ?_; refine TAll_and ?_; refine TV_value ?_; refine EV_local hE (by kernel_rfl) l1 ?_; (with_reducible refine TR_bool ?_); (refine And.intro ?_ ?_ <;> intro hb <;> try (cases hb; done)))
        exact ⟨by simp, rfl, fun a o e => e⟩
      | true =>
        refine TV_boolop ?_
        (refine TAll_and ?_; refine TV_value ?_; refine EV_local hE (by kernel_rfl) l1 ?_; (with_reducible refine TR_bool ?_))
        (refine And.intro ?_ ?_ <;> intro hb <;> try (cases hb; done))
        (refine TAll_and ?_; refine TV_compare ?_; refine EV_local hE (by kernel_rfl) l3 ?_; refine EV_tuple ?_; refine AR_cons ?_; refine EV_str (l := []) (by kernel_rfl) ?_; refine AR_cons ?_; refine EV_str (l := [45]) (by kernel_rfl) ?_; refine AR_nil ?_)
        refine ⟨by simp, fun D hD => ?_⟩
        skip
        refine O2_in_tup (ts := [[], [45]]) (.tup (setM_same _ _ _)) ?_
        with_reducible refine TR_bool ?_
        (refine And.intro ?_ ?_ <;> intro hb <;> try (cases hb; done))
        · have h1 : rest = [] ∨ rest = [45] := by simpa using hb
          refine TAll_and_nil ?_
          exact ⟨by simp [h1], rfl, fun a o e => setM_old hD e⟩
        · have h1 : ¬ (rest = [] ∨ rest = [45]) := by simpa using hb
          skip
          exact ⟨by simp [h1], rfl, fun a o e => setM_old hD e⟩
    · rintro ht2 m2 kp2
      (refine dn fun hG0 => ?_; obtain ⟨hfr, hre⟩ := of_decide_eq_true ht2; refine hG0 ?_; clear hG0)
      have hres : readF fresh sg = (rest.length, lead) := by
        rw [hf]
        rcases hre with rfl | rfl
        · rw [if_pos ⟨hfr, rfl⟩]; rfl
        · rw [if_neg (fun z => by cases z.2), if_pos ⟨hfr, rfl⟩]; rfl
      (refine EX_cons ?_; refine E1_Return ?_; refine EV_tuple ?_; refine AR_cons ?_; refine EV_ncall ?_; refine EV_builtinF (id := "len") hE (by kernel_rfl) (by kernel_rfl) (by kernel_rfl) ?_; refine CW_go0 (KeepOk.bf _) ?_; refine AR_cons ?_; refine EV_local hE (by kernel_rfl) l3 ?_; refine AR_nil ?_; (with_reducible refine CA_len_str ?_ ?_); rotate_left; refine AR_cons ?_; refine EV_local hE (by kernel_rfl) l2 ?_; refine AR_nil ?_; rotate_left)
      · (first | lia | omega)
      skip
      refine ⟨by simp, fun D hD => ?_⟩
      (refine seq_ret ?_; refine seq_ret ?_; refine hQ1 _ _ _ ?_; rw [hres]; refine ⟨_, rfl, ?_⟩)
      exact ⟨fresh1 kp2 hD, setM_same _ _ _, fun a o e => setM_old hD (kp2 _ _ (kp1 _ _ e))⟩
    rintro ht2 m2 kp2
    have h2 := of_decide_eq_false ht2
    have n1 : ¬ (fresh = true ∧ rest = []) := fun z => h2 ⟨z.1, .inl z.2⟩
    have n2 : ¬ (fresh = true ∧ rest = [45]) := fun z => h2 ⟨z.1, .inr z.2⟩
    rw [if_neg n1, if_neg n2] at hf
    refine EX_nil ?_
    refine seq_next ?_
    refine EX_cons (E1_IfT (decide (fresh = true ∧ (rest = [62] ∨ rest = [45, 62]))) (fun m3 => ∀ a o, m2 a = some o → m3 a = some o) ?_ ?_ ?_)
    · cases fresh with
      | false =>
        (refine TV_boolop ?_; refine TAll_and ?_; refine TV_value ?_; refine EV_local hE (by kernel_rfl) l1 ?_; (with_reducible refine TR_bool ?_); (refine And.intro ?_ ?_ <;> intro hb <;> try (cases hb; done)))
        exact ⟨by simp, rfl, fun a o e => e⟩
      | true =>
        refine TV_boolop ?_
        (refine TAll_and ?_; refine TV_value ?_; refine EV_local hE (by kernel_rfl) l1 ?_; (with_reducible refine TR_bool ?_))
        (refine And.intro ?_ ?_ <;> intro hb <;> try (cases hb; done))
        (refine TAll_and ?_; refine TV_compare ?_; refine EV_local hE (by kernel_rfl) l3 ?_; refine EV_tuple ?_; refine AR_cons ?_; refine EV_str (l := [62]) (by kernel_rfl) ?_; refine AR_cons ?_; refine EV_str (l := [45, 62]) (by kernel_rfl) ?_; refine AR_nil ?_)
        refine ⟨by simp, fun D hD => ?_⟩
        skip
        refine O2_in_tup (ts := [[62], [45, 62]]) (.tup (setM_same _ _ _)) ?_
        with_reducible refine TR_bool ?_
        (refine And.intro ?_ ?_ <;> intro hb <;> try (cases hb; done))
        · have h1 : rest = [62] ∨ rest = [45, 62] := by simpa using hb
          refine TAll_and_nil ?_
          exact ⟨by simp [h1], rfl, fun a o e => setM_old hD e⟩
        · have h1 : ¬ (rest = [62] ∨ rest = [45, 62]) := by simpa using hb
          skip
          exact ⟨by simp [h1], rfl, fun a o e => setM_old hD e⟩
    · rintro ht3 m3 kp3
      have h3 := of_decide_eq_true ht3
      rw [if_pos h3] at hf
      (refine EX_cons ?_; refine E1_Return ?_; refine EV_tuple ?_; refine AR_cons ?_; refine EV_int ?_; refine AR_cons ?_; refine EV_local hE (by kernel_rfl) l2 ?_; refine AR_nil ?_)
      refine ⟨by simp, fun D hD => ?_⟩
      (refine seq_ret ?_; refine seq_ret ?_; refine hQ1 _ _ _ ?_; rw [hf]; refine ⟨_, rfl, ?_⟩)
      exact ⟨fresh1 (fun a o e => kp3 _ _ (kp2 _ _ e)) hD, setM_same _ _ _, fun a o e => setM_old hD (kp3 _ _ (kp2 _ _ (kp1 _ _ e)))⟩
    rintro ht3 m3 kp3
    have h3 := of_decide_eq_false ht3
    rw [if_neg h3] at hf
    refine EX_nil ?_
    refine seq_next ?_
    refine EX_cons (E1_For hE (IE_tups [("tail", _), ("state", _)] rfl (fun _ => rfl) ?_))
    (refine EV_ncall ?_; refine EV_gref (a := 788) hE (by kernel_rfl) (by kernel_rfl) ?_; refine CW_go0 (KeepOk.rf (by kernel_rfl)) ?_; refine AR_nil ?_)
    refine CA_CL ((c_tails (n := n)).mono ?_) (by (first | lia | omega))
    (intro v m4 hq0; refine dn fun hG0 => ?_; rcases hq0 with ⟨DT, bs, rfl, mDT, hbl, htup, kp4⟩ <;> refine hG0 ?_ <;> clear hG0)
    have f3 : ∀ m' : Mem, (∀ a o, m4 a = some o → m' a = some o) → RdM Z.cx m' DT (.lst (bs.map .ref)) ∧ ∀ (j : Nat) v, (bs.map Value.ref)[j]? = some v → ∃ b, v = .ref b ∧ RdM Z.cx m' b (.tup (wsT j)) ∧ (wsT j).length = 2 := by
      intro m' k
      refine ⟨.lst (k _ _ mDT), fun j v hv => ?_⟩
      rw [List.getElem?_map] at hv
      (refine dn fun hG0 => ?_; obtain ⟨b, hb, rfl⟩ := Option.map_eq_some_iff.mp hv; refine hG0 ?_; clear hG0)
      have hj : j < 6 := by rw [← hbl]; exact (List.getElem?_eq_some_iff.mp hb).1
      obtain ⟨p, hp⟩ : ∃ p, tailsL[j]? = some p := ⟨_, List.getElem?_eq_getElem (by exact hj)⟩
      have hw : wsT j = [.str (mkS p.1) 0, .int (p.2 : Nat) 0] := by unfold wsT; rw [hp]
      exact ⟨b, rfl, .tup (by rw [hw]; exact k _ _ (htup j p.1 p.2 b hp hb)), by rw [hw]; rfl⟩
    refine ⟨DT, bs.map .ref, wsT, rfl, .lst mDT, ?_, fun i l' m' => l' "lead" = some (.str (mkS lead) 0) ∧ l' "rest" = some (.str (mkS rest) 0) ∧ (∀ j t s, j < i → tailsL[j]? = some (t, s) → ¬ t <:+ rest) ∧ (∀ a o, m4 a = some o → m' a = some o), ⟨l2, l3, fun j t s h => by (first | lia | omega), fun a o e => e⟩, ?_, ?_⟩
    · intro p hp
      simp only [List.mem_cons, List.not_mem_nil, or_false] at hp
      rcases hp with rfl | rfl
      · (kernel_rfl)
      · (kernel_rfl)
    · rintro i l' m' hi ⟨j1, j2, j3, j4⟩
      refine ⟨f3 m' j4, fun fz => ?_⟩
      have hi6 : i < 6 := by simpa [hbl] using hi
      obtain ⟨p, hp⟩ : ∃ p, tailsL[i]? = some p := ⟨_, List.getElem?_eq_getElem (by exact hi6)⟩
      (refine dn fun hG0 => ?_; obtain ⟨tl, st⟩ := p; refine hG0 ?_; clear hG0)
      have hw : wsT i = [.str (mkS tl) 0, .int (st : Nat) 0] := by unfold wsT; rw [hp]
      have htl : tl.length ≤ 4 := by
        have : ∀ p ∈ tailsL, p.1.length ≤ 4 := by decide
        exact this _ (List.mem_of_getElem? hp)
      dsimp only
      rw [hw]
      change EX Z.cx (n + 2) fz L _ _ _ (setL (setL l' "tail" (.str (mkS tl) 0)) "state" (.int (st : Nat) 0)) m'
      refine EX_abl (R := fun l => l "lead" = some (.str (mkS lead) 0) ∧ l "rest" = some (.str (mkS rest) 0) ∧ l "tail" = some (.str (mkS tl) 0) ∧ l "state" = some (.int (st : Nat) 0)) ⟨by exact (sS (sS j1)), by exact (sS (sS j2)), by exact (sS sH), by exact sH⟩ ?_
      rintro l5 ⟨a1, a2, a3, a4⟩
      (refine EX_cons ?_; refine E1_AssignName ?_ rfl; refine EV_binop ?_; refine EV_ncall ?_; refine EV_builtinF (id := "len") hE (by kernel_rfl) (by kernel_rfl) (by kernel_rfl) ?_; refine CW_go0 (KeepOk.bf _) ?_; refine AR_cons ?_; refine EV_local hE (by kernel_rfl) a2 ?_; refine AR_nil ?_; (with_reducible refine CA_len_str ?_ ?_))
      · (first | lia | omega)
      (refine EV_ncall ?_; refine EV_builtinF (id := "len") hE (by kernel_rfl) (by kernel_rfl) (by kernel_rfl) ?_; refine CW_go0 (KeepOk.bf _) ?_; refine AR_cons ?_; refine EV_local hE (by kernel_rfl) a3 ?_; refine AR_nil ?_; (with_reducible refine CA_len_str ?_ ?_))
      · (first | lia | omega)
      ((with_reducible refine O2_sub_int ?_); refine STn hE (by kernel_rfl) ?_)
      refine EX_cons (E1_IfT (decide (tl <:+ rest)) (fun m => m = m') ?_ ?_ ?_)
      · (refine TV_compare ?_; refine EV_slice_str ?_; refine EV_local hE (by kernel_rfl) (sS a2) ?_; (with_reducible first | refine exr ?_ | refine ⟨_, rfl, ?_⟩))
        refine ⟨by (first | lia | omega), ?_⟩
        (refine PT_some ?_; refine EV_local hE (by kernel_rfl) sH ?_; (with_reducible first | refine exr ?_ | refine ⟨_, rfl, ?_⟩); refine PT_none ?_; refine EV_local hE (by kernel_rfl) (sS a3) ?_; (with_reducible refine O2_eq_str ?_); (with_reducible refine TR_bool ?_))
        exact ⟨by rw [decide_eq_decide]; exact pySl_tail, rfl, rfl⟩
      · rintro ht5 m5 rfl
        have hy : tl <:+ rest := of_decide_eq_true ht5
        have hres : readF fresh sg = (st, lead ++ repN (rest.take (rest.length - tl.length))) := by
          rw [hf, sfx_tail hp j3 hy]; simp
        refine EX_cons ?_
        refine E1_Return ?_
        refine EV_tuple ?_
        refine AR_cons ?_
        refine EV_local hE (by kernel_rfl) (sS a4) ?_
        refine AR_cons ?_
        refine EV_binop ?_
        refine EV_local hE (by kernel_rfl) (sS a1) ?_
        refine EV_rep [0] [65533] (by kernel_rfl) (by kernel_rfl) (by simp) (by simp) (by simp) ?_
        (refine EV_slice_str ?_; refine EV_local hE (by kernel_rfl) (sS a2) ?_; (with_reducible first | refine exr ?_ | refine ⟨_, rfl, ?_⟩))
        refine ⟨by (first | lia | omega), ?_⟩
        (refine PT_none ?_; refine PT_some ?_; refine EV_local hE (by kernel_rfl) sH ?_; (with_reducible first | refine exr ?_ | refine ⟨_, rfl, ?_⟩); (with_reducible first | refine exr ?_ | refine ⟨_, rfl, ?_⟩))
        rw [pySl_head hy]
        refine ⟨by simp; (first | lia | omega), ?_⟩
        rw [repL_0 _ _ (Nat.le_refl _)]
        ((with_reducible refine O2_add_str ?_ ?_); rotate_left; refine AR_nil ?_; rotate_left)
        · unfold repN; simp; (first | lia | omega)
        refine ⟨by simp, fun D hD => ?_⟩
        (refine seq_ret ?_; refine seq_ret ?_; refine hQ1 _ _ _ ?_; rw [hres])
        exact ⟨D, rfl, fresh1 (fun a o e => j4 _ _ (kp4 _ _ (kp3 _ _ (kp2 _ _ e)))) hD, setM_same _ _ _, fun a o e => setM_old hD (j4 _ _ (kp4 _ _ (kp3 _ _ (kp2 _ _ (kp1 _ _ e)))))⟩
      · rintro ht5 m5 rfl
        have hy : ¬ tl <:+ rest := of_decide_eq_false ht5
        (refine EXn ?_; refine EX_nil ?_)
        refine ⟨by exact (sS a1), by exact (sS a2), fun j t s hj ht => ?_, j4⟩
        by_cases hji : j < i
        · exact j3 j t s hji ht
        · have : j = i := by (first | lia | omega)
          subst this
          rw [hp] at ht; cases ht; exact hy
    · rintro l' m' ⟨j1, j2, j3, j4⟩
      exact absurd (List.nil_suffix) (j3 5 [] 2 (by simp [hbl]) rfl)
end
end Mine
end
section
open PySem PySem.W PyProof.Rows
set_option maxRecDepth 100000
set_option maxHeartbeats 4000000
set_option linter.unusedVariables false
namespace Mine
noncomputable def lnA (W : List Nat) (j : Nat) : Nat := 1 + (W.take j).count 10
noncomputable def clA (W : List Nat) (j : Nat) : Nat := trail (W.take j)
theorem pos_next {W : List Nat} {j x : Nat} (h : W[j]? = some x) : lnA W (j + 1) = (if x = 10 then lnA W j + 1 else lnA W j) ∧ clA W (j + 1) = if x = 10 then 0 else clA W j + 1 := by
  have e : W.take (j + 1) = W.take j ++ [x] := by rw [List.take_add_one, h]; rfl
  unfold lnA clA
  rw [e, trail_append]
  by_cases hx : x = 10
  · subst hx; simp [trail]; (first | lia | omega)
  · simp [hx, Ne.symm hx, List.count_append]
noncomputable def MkA (W : List Nat) (m : Mem) (bs : List Addr) : Prop := ∀ (j : Nat) (b : Addr), bs[j]? = some b → m b = some (.tup [.int (lnA W j : Nat) 0, .int (clA W j : Nat) 0])
theorem MkA.keep {W : List Nat} {m m' : Mem} {bs : List Addr} (h : MkA W m bs) (k : ∀ a l, m a = some (.tup l) → m' a = some (.tup l)) : MkA W m' bs := fun j b hb => k _ _ (h j b hb)
theorem MkA.snoc {W : List Nat} {m : Mem} {bs : List Addr} {D : Addr} (h : MkA W m bs) (hD : m D = some (.tup [.int (lnA W bs.length : Nat) 0, .int (clA W bs.length : Nat) 0])) : MkA W m (bs ++ [D]) := fun j b hb => by
  by_cases hj : j < bs.length
  · rw [List.getElem?_append_left hj] at hb; exact h j b hb
  · rw [List.getElem?_append_right (by (first | lia | omega))] at hb
    have : j - bs.length = 0 := by
      have := (List.getElem?_eq_some_iff.mp hb).1
      simp at this; (first | lia | omega)
    have hj2 : j = bs.length := by (first | lia | omega)
    subst hj2
    simp at hb
    subst hb
    exact hD
section
variable {Z : Cz} {P : Params}
theorem c_marks {n : Nat} {M : Mem} {W : List Nat} (hl : W.length ≤ 1000) :
    CL Z.cx (n + 1) (.ref 809) [.str (mkS W) 0] (fun v m => ∃ (D : Addr) (bs : List Addr), v = .ref D ∧ m D = some (.lst (bs.map .ref)) ∧ bs.length = W.length + 1 ∧ MkA W m bs ∧ ∀ a o, M a = some o → m a = some o) M := by
  refine CL_fn (binds := [("text", .str (mkS W) 0)]) (by rfl) (by kernel_rfl) ?_ (by kernel_rfl) ?_
  · intro vs e
    obtain ⟨v1, rfl, e1⟩ := vs1 e
    exact ⟨[("text", v1)], fun s hx => kp_binds hx (fun S => rfl), by simp [e1]⟩
  · intro fz L env hE he; subst he; refine EX_gen fun Qg1 hQ1 => ?_
    rw [bindL1]
    refine EX_cons ?_
    refine E1_AssignTuple ?_ rfl (by rfl) (by rfl)
    (refine EV_tuple ?_; refine AR_cons ?_; refine EV_int ?_; refine AR_cons ?_; refine EV_int ?_; refine AR_nil ?_)
    (first | refine hQ1 _ _ _ ⟨by simp, fun D0 hD0 => ?_⟩ | refine ⟨by simp, hQ1 _ _ _ ⟨fun D0 hD0 => ?_⟩⟩ | refine ⟨by simp, fun D0 hD0 => ?_⟩)
    (first | refine hQ1 _ _ _ ⟨D0, _, rfl, .tup (setM_same _ _ _), rfl, ?_⟩ | refine ⟨D0, hQ1 _ _ _ ⟨_, rfl, .tup (setM_same _ _ _), rfl, ?_⟩⟩ | refine ⟨D0, _, rfl, .tup (setM_same _ _ _), rfl, ?_⟩)
    (refine ATs_cons ?_; refine AT_name ?_; refine ST_local hE (by kernel_rfl) ?_; refine ATs_cons ?_; refine AT_name ?_; refine ST_local hE (by kernel_rfl) ?_; refine ATs_nil ?_; refine seq_next ?_)
    (refine EX_cons ?_; refine E1_AssignName ?_ rfl; refine EV_list ?_; refine AR_cons ?_; refine EV_tuple ?_; refine AR_cons ?_; refine EV_int ?_; refine AR_cons ?_; refine EV_int ?_; refine AR_nil ?_)
    (first | refine hQ1 _ _ _ ⟨by simp, fun D1 hD1 => ?_⟩ | refine ⟨by simp, hQ1 _ _ _ ⟨fun D1 hD1 => ?_⟩⟩ | refine ⟨by simp, fun D1 hD1 => ?_⟩)
    refine AR_nil ?_
    (first | refine hQ1 _ _ _ ⟨by simp, fun D2 hD2 => ?_⟩ | refine ⟨by simp, hQ1 _ _ _ ⟨fun D2 hD2 => ?_⟩⟩ | refine ⟨by simp, fun D2 hD2 => ?_⟩)
    (refine STn hE (by kernel_rfl) ?_)
    have kp0 : ∀ a o, M a = some o → setM (setM (setM M D0 (.tup [.int 1 0, .int 0 0])) D1 (.tup [.int 1 0, .int 0 0])) D2 (.lst [.ref D1]) a = some o := fun a o e => setM_old hD2 (setM_old hD1 (setM_old hD0 e))
    have hMD2 : M D2 = none := by
      cases q : M D2 with
      | none => rfl
      | some o => rw [setM_old hD1 (setM_old hD0 q)] at hD2; cases hD2
    have m0 : MkA W (setM (setM (setM M D0 (.tup [.int 1 0, .int 0 0])) D1 (.tup [.int 1 0, .int 0 0])) D2 (.lst [.ref D1])) [D1] := fun j b hb => by
      match j, hb with
      | 0, hb => cases hb; exact setM_old hD2 (setM_same _ _ _)
      | j + 1, hb => cases hb
    have hL0 : setM (setM (setM M D0 (.tup [.int 1 0, .int 0 0])) D1 (.tup [.int 1 0, .int 0 0])) D2 (.lst [.ref D1]) D2 = some (.lst [.ref D1]) := setM_same _ _ _
    generalize setM (setM (setM M D0 (.tup [.int 1 0, .int 0 0])) D1 (.tup [.int 1 0, .int 0 0])) D2 (.lst [.ref D1]) = m1 at kp0 m0 hL0 ⊢
    refine EX_cut (R := fun l m => ∃ bs : List Addr, l "marks" = some (.ref D2) ∧ m D2 = some (.lst (bs.map .ref)) ∧ bs.length = W.length + 1 ∧ MkA W m bs ∧ ∀ a o, M a = some o → m a = some o) ?_ ?_
    · refine E1_gen fun Qg2 hQ2 => ?_
      refine E1_For hE (IE_str ?_)
      (refine EV_local hE (by kernel_rfl) (sS (sS (sS sH))) ?_; (with_reducible first | refine exr ?_ | refine ⟨_, rfl, ?_⟩))
      (first | refine hQ2 _ _ _ ⟨(by kernel_rfl), fun i l m => l "line" = some (.int (lnA W i : Nat) 0) ∧ l "column" = some (.int (clA W i : Nat) 0) ∧ l "marks" = some (.ref D2) ∧ ∃ bs : List Addr, m D2 = some (.lst (bs.map .ref)) ∧ bs.length = i + 1 ∧ MkA W m bs ∧ ∀ a o, M a = some o → m a = some o, ⟨by exact (sS (sS sH)), by exact (sS sH), by exact sH, [D1], hL0, rfl, m0, kp0⟩, ?_, ?_⟩ | refine ⟨(by kernel_rfl), hQ2 _ _ _ ⟨fun i l m => l "line" = some (.int (lnA W i : Nat) 0) ∧ l "column" = some (.int (clA W i : Nat) 0) ∧ l "marks" = some (.ref D2) ∧ ∃ bs : List Addr, m D2 = some (.lst (bs.map .ref)) ∧ bs.length = i + 1 ∧ MkA W m bs ∧ ∀ a o, M a = some o → m a = some o, ⟨by exact (sS (sS sH)), by exact (sS sH), by exact sH, [D1], hL0, rfl, m0, kp0⟩, ?_, ?_⟩⟩ | refine ⟨(by kernel_rfl), fun i l m => l "line" = some (.int (lnA W i : Nat) 0) ∧ l "column" = some (.int (clA W i : Nat) 0) ∧ l "marks" = some (.ref D2) ∧ ∃ bs : List Addr, m D2 = some (.lst (bs.map .ref)) ∧ bs.length = i + 1 ∧ MkA W m bs ∧ ∀ a o, M a = some o → m a = some o, ⟨by exact (sS (sS sH)), by exact (sS sH), by exact sH, [D1], hL0, rfl, m0, kp0⟩, ?_, ?_⟩)
      · rintro i l m hi ⟨l1, l2, l3, bs, hb, hbl, hma, kp⟩
        refine ⟨trivial, fun fz => ?_⟩
        refine EX_gen fun Qg3 hQ3 => ?_
        obtain ⟨x, hx⟩ : ∃ x, W[i]? = some x := ⟨_, List.getElem?_eq_getElem hi⟩
        have hg : W.getD i 0 = x := by rw [List.getD_eq_getElem?_getD, hx]; rfl
        (refine dn fun hG0 => ?_; obtain ⟨p1, p2⟩ := pos_next hx; refine hG0 ?_; clear hG0)
        dsimp only
        rw [hg]
        refine EX_cut (R := fun l5 m5 => l5 "line" = some (.int (lnA W (i + 1) : Nat) 0) ∧ l5 "column" = some (.int (clA W (i + 1) : Nat) 0) ∧ l5 "marks" = some (.ref D2) ∧ ∀ a o, m a = some o → m5 a = some o) ?_ ?_
        · refine E1_gen fun Qg4 hQ4 => ?_
          refine E1_AssignTuple ?_ rfl rfl rfl
          (refine EV_ifexp ?_; refine TV_compare ?_; refine EV_local hE (by kernel_rfl) sH ?_; refine EV_str (l := [10]) (by kernel_rfl) ?_; (with_reducible refine O2_eq_str ?_); (with_reducible refine TR_bool ?_))
          (refine And.intro ?_ ?_ <;> intro hb <;> try (cases hb; done))
          · have h10 : x = 10 := by simpa using hb
            rw [if_pos h10] at p1 p2
            (refine EV_tuple ?_; refine AR_cons ?_; refine EV_binop ?_; refine EV_local hE (by kernel_rfl) (sS l1) ?_; refine EV_int ?_; (with_reducible refine O2_add_int ?_); refine AR_cons ?_; refine EV_int ?_; refine AR_nil ?_)
            refine ⟨by simp, fun D hD => ?_⟩
            (first | refine hQ4 _ _ _ ⟨D, _, rfl, .tup (setM_same _ _ _), rfl, ?_⟩ | refine ⟨D, hQ4 _ _ _ ⟨_, rfl, .tup (setM_same _ _ _), rfl, ?_⟩⟩ | refine ⟨D, _, rfl, .tup (setM_same _ _ _), rfl, ?_⟩)
            (refine ATs_cons ?_; refine AT_name ?_; refine ST_local hE (by kernel_rfl) ?_; refine ATs_cons ?_; refine AT_name ?_; refine ST_local hE (by kernel_rfl) ?_; refine ATs_nil ?_)
            (first | refine hQ4 _ _ _ ⟨rfl, ?_, ?_, by exact (sS (sS (sS l3))), fun a o e => setM_old hD e⟩ | refine ⟨rfl, hQ4 _ _ _ ⟨?_, ?_, by exact (sS (sS (sS l3))), fun a o e => setM_old hD e⟩⟩ | refine ⟨rfl, ?_, ?_, by exact (sS (sS (sS l3))), fun a o e => setM_old hD e⟩)
            · rw [p1, show ((lnA W i + 1 : Nat) : Int) = (lnA W i : Int) + 1 by (first | lia | omega)]; exact (sS sH)
            · rw [p2]; exact sH
          · have h10 : ¬ x = 10 := by simpa using hb
            rw [if_neg h10] at p1 p2
            (refine EV_tuple ?_; refine AR_cons ?_; refine EV_local hE (by kernel_rfl) (sS l1) ?_; refine AR_cons ?_; refine EV_binop ?_; refine EV_local hE (by kernel_rfl) (sS l2) ?_; refine EV_int ?_; (with_reducible refine O2_add_int ?_); refine AR_nil ?_)
            refine ⟨by simp, fun D hD => ?_⟩
            (first | refine hQ4 _ _ _ ⟨D, _, rfl, .tup (setM_same _ _ _), rfl, ?_⟩ | refine ⟨D, hQ4 _ _ _ ⟨_, rfl, .tup (setM_same _ _ _), rfl, ?_⟩⟩ | refine ⟨D, _, rfl, .tup (setM_same _ _ _), rfl, ?_⟩)
            (refine ATs_cons ?_; refine AT_name ?_; refine ST_local hE (by kernel_rfl) ?_; refine ATs_cons ?_; refine AT_name ?_; refine ST_local hE (by kernel_rfl) ?_; refine ATs_nil ?_)
            (first | refine hQ4 _ _ _ ⟨rfl, ?_, ?_, by exact (sS (sS (sS l3))), fun a o e => setM_old hD e⟩ | refine ⟨rfl, hQ4 _ _ _ ⟨?_, ?_, by exact (sS (sS (sS l3))), fun a o e => setM_old hD e⟩⟩ | refine ⟨rfl, ?_, ?_, by exact (sS (sS (sS l3))), fun a o e => setM_old hD e⟩)
            · rw [p1]; exact (sS sH)
            · rw [p2, show ((clA W i + 1 : Nat) : Int) = (clA W i : Int) + 1 by (first | lia | omega)]; exact sH
        (intro l5 m5 hq0; refine dn fun hG0 => ?_; rcases hq0 with ⟨a1, a2, a3, k5⟩ <;> refine hG0 ?_ <;> clear hG0)
        have hb5 := k5 _ _ hb
        obtain ⟨vs, hvs⟩ : ∃ vs, vs = bs.map Value.ref := ⟨_, rfl⟩
        have hvl : vs.length = i + 1 := by rw [hvs, List.length_map]; exact hbl
        rw [← hvs] at hb5
        (refine EX_cons ?_; refine E1_Expr ?_ (by rfl) (by rfl); refine EV_mcall ?_; refine EV_local hE (by kernel_rfl) a3 ?_; (with_reducible refine GM_append hb5 ?_); refine CW_go1 (KeepOk.bf _) ?_; refine AR_cons ?_; refine EV_tuple ?_; refine AR_cons ?_; refine EV_local hE (by kernel_rfl) a1 ?_; refine AR_cons ?_; refine EV_local hE (by kernel_rfl) a2 ?_; refine AR_nil ?_)
        refine ⟨by simp, fun D hD => ?_⟩
        (refine AR_nil ?_; refine CA_append (setM_old hD hb5) ?_ ?_; rotate_left; refine seq_next ?_; refine EX_nil ?_; rotate_left)
        · (first | lia | omega)
        skip
        have hDD : D ≠ D2 := fun z => by rw [z, hb5] at hD; cases hD
        (first | refine hQ3 _ _ _ ⟨a1, a2, a3, bs ++ [D], by rw [setM_same, List.map_append, hvs]; rfl, by simp [hbl], ?_, fun a o e => ?_⟩ | refine ⟨a1, hQ3 _ _ _ ⟨a2, a3, bs ++ [D], by rw [setM_same, List.map_append, hvs]; rfl, by simp [hbl], ?_, fun a o e => ?_⟩⟩ | refine ⟨a1, a2, a3, bs ++ [D], by rw [setM_same, List.map_append, hvs]; rfl, by simp [hbl], ?_, fun a o e => ?_⟩)
        · refine MkA.snoc (MkA.keep hma fun a l e => ?_) ?_
          · exact (setM_ne _ _ (fun z => by rw [z, hb] at e; cases e)).trans (setM_old hD (k5 _ _ e))
          · rw [hbl]; exact (setM_ne _ _ hDD).trans (setM_same _ _ _)
        · exact (setM_ne _ _ (fun z => by rw [z, hMD2] at e; cases e)).trans (setM_old hD (k5 _ _ (kp _ _ e)))
      · (intro l m hq0; refine dn fun hG0 => ?_; rcases hq0 with ⟨l1, l2, l3, bs, hb, hbl, hma, kp⟩ <;> refine hG0 ?_ <;> clear hG0)
        (first | exact hQ2 _ _ _ ⟨trivial, rfl, bs, l3, hb, hbl, hma, kp⟩ | exact ⟨trivial, hQ2 _ _ _ ⟨rfl, bs, l3, hb, hbl, hma, kp⟩⟩ | exact ⟨trivial, rfl, bs, l3, hb, hbl, hma, kp⟩)
    (intro l m hq0; refine dn fun hG0 => ?_; rcases hq0 with ⟨bs, l3, hb, hbl, hma, kp⟩ <;> refine hG0 ?_ <;> clear hG0)
    (refine EX_cons ?_; refine E1_Return ?_; refine EV_local hE (by kernel_rfl) l3 ?_; refine seq_ret ?_)
    (first | exact hQ1 _ _ _ ⟨D2, bs, rfl, hb, hbl, hma, kp⟩ | exact ⟨D2, hQ1 _ _ _ ⟨bs, rfl, hb, hbl, hma, kp⟩⟩ | exact ⟨D2, bs, rfl, hb, hbl, hma, kp⟩)
end
end Mine
end
section
open PySem PySem.W PyProof.Rows
set_option maxRecDepth 100000
set_option maxHeartbeats 4000000
set_option linter.unusedVariables false
namespace Mine
theorem pos_lt {W : List Nat} {j : Nat} : ∀ d, j + d + 1 ≤ W.length → lnA W j < lnA W (j + d + 1) ∨ (lnA W j = lnA W (j + d + 1) ∧ clA W j < clA W (j + d + 1))
  | 0, h => by
    obtain ⟨x, hx⟩ : ∃ x, W[j]? = some x := ⟨_, List.getElem?_eq_getElem (by (first | lia | omega))⟩
    obtain ⟨h1, h2⟩ := pos_next hx
    show lnA W j < lnA W (j + 1) ∨ (lnA W j = lnA W (j + 1) ∧ clA W j < clA W (j + 1))
    rw [h1, h2]
    by_cases hx10 : x = 10
    · rw [if_pos hx10]; left; (first | lia | omega)
    · rw [if_neg hx10, if_neg hx10]; right; (first | lia | omega)
  | d + 1, h => by
    have ih := pos_lt (W := W) (j := j) d (by (first | lia | omega))
    obtain ⟨x, hx⟩ : ∃ x, W[j + d + 1]? = some x := ⟨_, List.getElem?_eq_getElem (by (first | lia | omega))⟩
    obtain ⟨h1, h2⟩ := pos_next hx
    show lnA W j < lnA W (j + d + 1 + 1) ∨ (lnA W j = lnA W (j + d + 1 + 1) ∧ clA W j < clA W (j + d + 1 + 1))
    rw [h1, h2]
    by_cases hx10 : x = 10
    · rw [if_pos hx10]; (first | lia | omega)
    · rw [if_neg hx10, if_neg hx10]; (first | lia | omega)
theorem pos_inj {W : List Nat} {j k : Nat} (hj : j ≤ W.length) (hk : k ≤ W.length) (h1 : lnA W j = lnA W k) (h2 : clA W j = clA W k) : j = k := by
  rcases Nat.lt_trichotomy j k with h | h | h
  · have := pos_lt (W := W) (j := j) (k - j - 1) (by (first | lia | omega))
    rw [show j + (k - j - 1) + 1 = k by (first | lia | omega)] at this
    (first | lia | omega)
  · exact h
  · have := pos_lt (W := W) (j := k) (j - k - 1) (by (first | lia | omega))
    rw [show k + (j - k - 1) + 1 = j by (first | lia | omega)] at this
    (first | lia | omega)
end Mine
end
section
open PySem PySem.W PySem.Calls PyProof.Rows PySem.SeqAt
set_option maxRecDepth 100000
set_option maxHeartbeats 4000000
set_option linter.unusedVariables false
namespace Mine
section
variable {X : Cx} {n : Nat} {fz : Frz} {L : Addr} {env : Env} {loc : Loc} {M : Mem} {a b : Addr}
theorem O2_ne_pos {Q : QV} {i j k l : Int} (h1 : RdM X M a (.tup [.int i 0, .int j 0])) (h2 : RdM X M b (.tup [.int k 0, .int l 0])) (hn : 2 ≤ n) (h : Q (.bool (!(decide (i = k) && decide (j = l)))) loc M) :
    O2 X n fz L (compareOp .NotEq) (.ref a) (.ref b) Q loc M := fun va vb e1 e2 A s r F o => by
  rw [er_ref e1, er_ref e2]
  have hu := r.units
  obtain ⟨us, g1, g2⟩ := h1.get F
  obtain ⟨ws, g3, g4⟩ := h2.get F
  have z1 : us.size = 2 := by rw [← Array.length_toList, ← List.length_map (f := er), g2]; rfl
  have z2 : ws.size = 2 := by rw [← Array.length_toList, ← List.length_map (f := er), g4]; rfl
  obtain ⟨u1, u2, hu12, q1, q2⟩ := vs2 g2
  obtain ⟨w1, w2, hw12, q3, q4⟩ := vs2 g4
  obtain ⟨t1, rfl⟩ := er_int q1
  obtain ⟨t2, rfl⟩ := er_int q2
  obtain ⟨t3, rfl⟩ := er_int q3
  obtain ⟨t4, rfl⟩ := er_int q4
  have eu : us = #[.int i t1, .int j t2] := by rw [← Array.toArray_toList (xs := us), hu12]
  have ew : ws = #[.int k t3, .int l t4] := by rw [← Array.toArray_toList (xs := ws), hw12]
  subst eu ew
  show wpAny _ _ (richCompare .NotEq (.ref a) (.ref b)) _ _ _
  refine RcNeAt.tuples (e := fun p => if p = 0 then decide (i = k) else decide (j = l)) g1 g3 (by (first | lia | omega)) (fun p p1 p2 => ?_) X.prog X.w _ _ ⟨loc, M, F, Like.refl s, ?_⟩
  · match p, p1, p2 with
    | 0, _, _ => exact EqAt.int_int i t1 k t3
    | 1, _, _ => exact EqAt.int_int j t2 l t4
  · show Q (.bool _) loc M
    have e : (!((List.range (min (#[Value.int i t1, Value.int j t2] : Array Value).size (#[Value.int k t3, Value.int l t4] : Array Value).size)).all (fun p => if p = 0 then decide (i = k) else decide (j = l)) && (#[Value.int i t1, Value.int j t2] : Array Value).size == (#[Value.int k t3, Value.int l t4] : Array Value).size)) = (!(decide (i = k) && decide (j = l))) := by
      simp [List.range, List.range.loop]
    rw [e]; exact h
end
end Mine
end
section
open PySem PySem.W PyProof.Rows
set_option maxRecDepth 100000
set_option maxHeartbeats 4000000
set_option linter.unusedVariables false
namespace Mine
theorem fltL_app {fresh : Bool} : ∀ (l sg : List Nat) (x : Nat), fltL fresh sg (l ++ [x]) = fltL fresh sg l ++ fltF fresh (sg ++ l) x
  | [], sg, x => by simp [fltL]
  | a :: l, sg, x => by
    show fltF fresh sg a ++ fltL fresh (sg ++ [a]) (l ++ [x]) = fltF fresh sg a ++ fltL fresh (sg ++ [a]) l ++ fltF fresh (sg ++ a :: l) x
    rw [fltL_app l]
    simp [List.append_assoc]
theorem cm_end {g : G} {st : Nat} {c : List Nat} (hst : st < 6) {p : Nat} (hp : (WT' g)[p]? = none) : ∃ s, cutL[st]? = some s ∧ cmS st g (WT' g) p c = ⟨[s], p, c, true, false⟩ := by
  have h6 : st = 0 ∨ st = 1 ∨ st = 2 ∨ st = 3 ∨ st = 4 ∨ st = 5 := by (first | lia | omega)
  rcases h6 with rfl | rfl | rfl | rfl | rfl | rfl <;> exact ⟨_, rfl, by simp [cmS, cm0, cm1, cm2, cm3, cm4, cm5, hp]⟩
theorem readF_start {st : Nat} (hst : st < 6) : ∃ s, behindL[st]? = some s ∧ readF (decide (st < 2)) s = (st, []) := by
  have h6 : st = 0 ∨ st = 1 ∨ st = 2 ∨ st = 3 ∨ st = 4 ∨ st = 5 := by (first | lia | omega)
  rcases h6 with rfl | rfl | rfl | rfl | rfl | rfl <;> exact ⟨_, rfl, by decide⟩
end Mine
end
section
open PySem PySem.W PySem.Calls PyProof.Rows PySem.SeqAt
set_option maxRecDepth 100000
set_option maxHeartbeats 4000000
set_option linter.unusedVariables false
namespace Mine
theorem list_iadd_seq : seqSlot? (.type "list") (dunderI "add") = pure (some (.builtin "list.__iadd__")) := PyProof.Rows.seqSlot_of PySem.F.slot_list_iadd.lookup (by decide +kernel)
theorem inplace_list {prog : Program} {w : World} {A : Around} {E : Value → Shared → Prop} {s : Shared} {a b : Value} {Q : Value → Shared → Prop} (ha : s.TypeIs a "list") (hb : s.TypeIs b "list")
    (hc : wpAny (model prog w) A (call (.builtin "list.__iadd__") [a, b]) Q E s) : wpAny (model prog w) A (inplaceOp .Add a b) Q E s := by
  unfold inplaceOp
  refine wpAny_holding ?_
  have hl : typeLookup (.type "list") (dunderI "add") = pure (some (.builtin "list.__iadd__")) := PySem.F.slot_list_iadd.lookup
  have hfi : fillsInplaceSlot (.type "list") "add" (Operator.Add == .Add) = pure false := by
    unfold fillsInplaceSlot
    show (typeLookup (.type "list") (dunderI "add") >>= fun fi => pure (fi.isSome && !isSeqSlot fi)) = pure false
    rw [hl]
    have : isSeqSlot (some (.builtin "list.__iadd__")) = true := by decide +kernel
    show (pure (!isSeqSlot (some (.builtin "list.__iadd__"))) : Sem Bool) = pure false
    rw [this]; rfl
  refine wpAny_bind (wpAny_typeOf ha (wpAny_bind (wpAny_of_eq hfi ?_)))
  show wpAny (model prog w) A (if false = true then _ else _) Q E s
  rw [if_neg Bool.false_ne_true]
  refine wpAny_bind (binaryOp1_none (nm := "add") ha hb noFill_list_add ?_)
  refine wpAny_bind (wpAny_of_eq list_iadd_seq ?_)
  exact wpAny_bind (wpAny_rule hc)
section
variable {X : Cx} {n : Nat} {fz : Frz} {L : Addr} {env : Env} {loc : Loc} {M : Mem} {a b : Addr}
theorem O2_iadd_lst {Q : QV} {xs ys : List Value} (h1 : M a = some (.lst xs)) (h2 : M b = some (.lst ys)) (hl : xs.length + ys.length ≤ 16777216) (h : Q (.ref a) loc (setM M a (.lst (xs ++ ys)))) :
    O2 X n fz L (inplaceOp .Add) (.ref a) (.ref b) Q loc M := fun va vb e1 e2 A s r F o => by
  rw [er_ref e1, er_ref e2]
  obtain ⟨own, I⟩ := id F
  obtain ⟨hown, us, ⟨n1, g1⟩, g2⟩ := I.inv.rep a _ h1
  obtain ⟨-, ws, ⟨n2, g3⟩, g4⟩ := I.inv.rep b _ h2
  have z1 : us.size = xs.length := by rw [← g2, List.length_map, Array.length_toList]
  have z2 : ws.size = ys.length := by rw [← g4, List.length_map, Array.length_toList]
  have hsz : us.size + ws.size ≤ sizeLine := by rw [z1, z2, sizeLine_eq]; exact hl
  refine inplace_list ⟨_, g1, rfl⟩ ⟨_, g3, rfl⟩ ?_
  refine call_meets PySem.F.slot_list_iadd ⟨_, g1, rfl⟩ PySem.F.entry_list_iadd (PySem.F.args_list_iadd_2 _ _) (AutoSeq1.list___iadd___list_list_0 a us n1 b ws n2 (extend_door hsz) (Nat.le_trans (Nat.le_add_right _ _) hsz) (Nat.le_trans hsz (Nat.le_succ _))) ⟨g1, g3, ?_⟩
  have hp : (s.heap.update a (Obj.mapSeq fun x => x ++ ws)).PlainList a (us ++ ws) := ⟨if (us ++ ws).size == us.size then n1 else n1 + 1, by rw [Heap.get?_update_self _ g1 (by rw [mapSeq_app]; rfl), mapSeq_app]⟩
  have hr : ORep X own (s.heap.update a (Obj.mapSeq fun x => x ++ ws)) a (.lst (xs ++ ys)) := ⟨us ++ ws, hp, by rw [Array.toList_append, List.map_append, g2, g4]⟩
  exact ⟨loc, _, ⟨own, FV.change I hown (Heap.SameBut.update ..).2 hr hown⟩, Like.heap s _, h⟩
end
end Mine
end
section
open PySem PySem.W PyProof.Rows
set_option maxRecDepth 100000
set_option maxHeartbeats 4000000
set_option linter.unusedVariables false
namespace Mine
noncomputable def bodyAt (K : Frag) (a : Addr) : List Stmt := match K.lookup a with
  | some ⟨_, _, .func { body := .stmts b, .. }, _⟩ => b
  | _ => []
noncomputable def scopeAt (K : Frag) (a : Addr) : Scope := match K.lookup a with
  | some ⟨_, _, .func f, _⟩ => f.scope
  | _ => default
noncomputable def whileBody : List Stmt → List Stmt
  | .While _ b _ _ :: _ => b
  | _ => []
noncomputable def tk7 (g : G) (lf : Addr) (sv ct : Value) : List (Str × Value) :=
  [("stream", .ref g.S), ("parser", .none), ("escapeFlag", .bool false), ("lastFourChars", .ref lf), ("state", sv), ("escape", .bool false), ("currentToken", ct)]
noncomputable def TB (g : G) (T lf Cm : Addr) (m : Mem) : Prop := (∃ sv, m T = some (.inst 762 7 (tblF (tk7 g lf sv (.ref Cm))))) ∨ ∃ sv q, m T = some (.inst 762 8 (tblF (tkC g lf sv Cm q)))
noncomputable def TB0 (g : G) (T lf : Addr) (m : Mem) : Prop := (∃ sv ct, m T = some (.inst 762 7 (tblF (tk7 g lf sv ct)))) ∨ ∃ sv Cm q, m T = some (.inst 762 8 (tblF (tkC g lf sv Cm q)))
noncomputable def KRun (g : G) (T : Addr) (M m : Mem) : Prop := ∀ a o, a ≠ g.S → a ≠ g.X → a ≠ g.E → a ≠ T → M a = some o → m a = some o
theorem sfx_len (r : List Nat) : (sfx r).2.length ≤ r.length := by
  unfold sfx
  split
  · simp
  split
  · simp
  split
  · simp
  split
  · simp
  split
  · simp
  · exact Nat.le_refl _
theorem readF_len (fresh : Bool) (sg : List Nat) : (readF fresh sg).2.length ≤ 3 * sg.length := by
  have h1 := opF1_len fresh sg
  have h2 := opF_len fresh sg
  have h3 := sfx_len (opF fresh sg).2.reverse
  have h4 : ∀ l : List Nat, (repN l).length = l.length := fun l => by unfold repN; simp
  unfold readF
  split
  · simp; (first | lia | omega)
  split
  · simp; (first | lia | omega)
  split
  · simp; (first | lia | omega)
  · simp only [List.length_append, h4, List.length_reverse] at h3 ⊢; (first | lia | omega)
theorem fltF_len (fresh : Bool) (sg : List Nat) (x : Nat) : (fltF fresh sg x).length ≤ 1 := by
  unfold fltF
  split
  · simp
  split
  · simp
  split <;> simp
theorem fltL_len (fresh : Bool) : ∀ (l sg : List Nat), (fltL fresh sg l).length ≤ l.length
  | [], sg => by simp [fltL]
  | x :: l, sg => by
    have h1 := fltF_len fresh sg x
    have h2 := fltL_len fresh l (sg ++ [x])
    unfold fltL
    rw [List.length_append, List.length_cons]; (first | lia | omega)
structure JR (l : Loc) (m M0 : Mem) (g : G) (T lf Cm Mk : Addr) (bs : List Addr) (held : List Nat) (fresh : Bool) (p st : Nat) : Prop where
  h : ∃ sg kept, l "t" = some (.ref T) ∧ l "whole" = some (.str (mkS (WT' g)) 0) ∧ l "marks" = some (.ref Mk) ∧ l "place" = some (.int p 0) ∧ l "state" = some (.int st 0) ∧ l "held" = some (.str (mkS held) 0) ∧ l "fresh" = some (.bool fresh) ∧ l "signs" = some (.str (mkS sg) 0) ∧
    SAt m g p 0 ∧ TB g T lf Cm m ∧ m Cm = some (.dct (cmD (held ++ kept))) ∧ M0 Cm = none ∧ m Mk = some (.lst (bs.map .ref)) ∧ MkA (WT' g) m bs ∧ KRun g T M0 m ∧ readF fresh sg = (st, kept) ∧ st < 6 ∧ sg.length ≤ 10 + p
noncomputable def TQ (M0 : Mem) (g : G) (T lf Cm Mk : Addr) (bs : List Addr) (held : List Nat) (fresh : Bool) (p : Nat) : QF := fun f l' m' =>
  (f = .next ∧ ∃ p' st', p < p' ∧ JR l' m' M0 g T lf Cm Mk bs held fresh p' st') ∨
  ∃ r : Nat, f = .ret (.int r 0) ∧ p < r ∧ KRun g T M0 m' ∧ (r = (WT' g).length + 1 ∨ r ≤ (WT' g).length ∧ SAt m' g r 0 ∧ TB0 g T lf m')
theorem err_same {X : Cx} {m : Mem} {s : List Nat} {v w : Value} (h1 : ErrR m s v) (h2 : ErrR m s w) : SameD X m v w := by
  obtain ⟨a, rfl, e1⟩ := h1
  obtain ⟨b, rfl, e2⟩ := h2
  refine ⟨a, b, _, _, rfl, rfl, .dct e1, .dct e2, rfl, (show (["type", "data"] : List Str).Nodup from by decide +kernel), fun j x y hx hy => ?_⟩
  match j, hx, hy with
  | 0, hx, hy => cases hx; cases hy; exact .int _ _
  | 1, hx, hy => cases hx; cases hy; exact .str _ _
theorem cm_same {X : Cx} {m : Mem} {a b : Addr} {c : List Nat} (e1 : m a = some (.dct (cmD c))) (e2 : m b = some (.dct (cmD c))) : SameD X m (.ref a) (.ref b) := by
  refine ⟨a, b, _, _, rfl, rfl, .dct e1, .dct e2, rfl, (show (["type", "data"] : List Str).Nodup from by decide +kernel), fun j x y hx hy => ?_⟩
  match j, hx, hy with
  | 0, hx, hy => cases hx; cases hy; exact .int _ _
  | 1, hx, hy => cases hx; cases hy; exact .str _ _
theorem errs_same {X : Cx} {m : Mem} : ∀ {errs : List (List Nat)} {vs ws : List Value}, All2 (ErrR m) errs vs → All2 (ErrR m) errs ws → ∀ (j : Nat) x y, vs[j]? = some x → ws[j]? = some y → SameD X m x y
  | _, _, _, .nil, .nil, j, x, y, hx, _ => by cases hx
  | _, _, _, .cons a r, .cons b s, 0, x, y, hx, hy => by cases hx; cases hy; exact err_same a b
  | _, _, _, .cons a r, .cons b s, j + 1, x, y, hx, hy => errs_same r s j x y hx hy
end Mine
end
section
open PySem PySem.W PySem.Calls PyProof.Rows PySem.SeqAt
set_option maxRecDepth 100000
set_option maxHeartbeats 4000000
set_option linter.unusedVariables false
namespace Mine
section
variable {X : Cx} {n : Nat} {fz : Frz} {L : Addr} {env : Env} {loc : Loc} {M : Mem} {a b : Addr}
theorem E1_AssignComp {Q : QF} {elt tgt iter : Expr} {scope : Scope} {pos spos py : Pos} {y : Str} (hE : Fun env L) (hy : env.kindOf y = some .local)
    (h : IE X n fz L env iter tgt (fun tOk len upd G l m => len ≤ 16777216 ∧ ∃ Inv : Nat → List Value → Loc → Mem → Prop, Inv 0 [] (fun _ => none) m ∧
      (∀ i ys lc mm, i < len → ys.length = i → Inv i ys lc mm → G mm ∧ ∀ fz C cenv, Fun cenv C → cenv.scope = scope → tOk cenv ∧ EV X n fz C cenv elt (fun y lc mm => Inv (i + 1) (ys ++ [y]) lc mm) (upd i lc) mm) ∧
      (∀ ys lc mm, ys.length = len → Inv len ys lc mm → G mm ∧ ∀ D, mm D = none → Q .next (setL l y (.ref D)) (setM mm D (.lst ys)))) loc M)
    (hsw : swapsWith (.ListComp elt [⟨tgt, iter, [], 0⟩] scope pos) (some (.Name y py)) spos.line env = pure true)
    (hfree : ∀ x ∈ scope.names, x.2 ≠ .free := by decide +kernel) (hcell : ∀ y ∈ scope.names, y.2 ≠ .cell := by decide +kernel) (hkind : scope.kind = .function := by rfl)
    (hnames : ∀ x ∈ scope.names, x.2 = .local → scope.names.lookup x.1 = some .local := by decide +kernel)
    (hs : ∀ x, foldedSetIterable iter env x = pure x := by intro _; rfl) :
    E1 X n fz L env (.Assign [.Name y py] (.ListComp elt [⟨tgt, iter, [], 0⟩] scope pos) spos) Q loc M := fun A s r F o => by
  rw [exec_Assign_Name_used _ _ _ _ hsw]
  refine wpAny_bind (wpAny_standAt (wpAny_bind ?_))
  show wpAny _ A (do let _ ← comprehension (.ListComp elt [⟨tgt, iter, [], 0⟩] scope pos) scope env _ (newList []) false (eval iter env) (some (assign (.Name y py) env))) _ _ s
  refine wpAny_bind (wpAny_mono (wpAny_comprehension_use (Q := fun _ s' => ∃ loc' M', FV X fz L loc' M' s'.heap ∧ Like s s' ∧ Q .next loc' M') rfl hs hfree hkind hnames (h A s _ r F o fun I ips St tOk len upd G l m s₂ hI off F₂ st₂ k₂ hq => ?_))
    (fun _ s' hq => wpAny_pure (wpAny_pure hq)) fun _ _ e => e)
  obtain ⟨hlen, Inv, i0, turn, fin⟩ := hq
  refine comp_core (RR := fun acc cenv r s' => match r with
        | .ok _ => wpAny (model X.prog X.w) A (assign (.Name y py) env acc) (fun _ s'' => ∃ m, s''.heap.Ns cenv.locals m ∧ ∀ h', Heap.SameBut cenv.locals s''.heap h' → ∃ loc' M', FV X fz L loc' M' h' ∧ Like s { s'' with heap := h' } ∧ Q .next loc' M') (fun _ _ => False) s'
        | .error x => ∃ m, s'.heap.Ns cenv.locals m ∧ ∀ h', Heap.SameBut cenv.locals s'.heap h' → wpAny (model X.prog X.w) A (passOn "comprehension.variables-let-go" x cenv) (fun (_ : Value) s' => ∃ loc' M', FV X fz L loc' M' s'.heap ∧ Like s s' ∧ Q .next loc' M') (fun _ _ => False) { s' with heap := h' })
      hE r o hI off F₂ st₂ k₂ hlen i0 turn hcell hkind (fun ys lc mm a b => (fin ys lc mm a b).1) fun D C s₅ lc mm ys m' mL mD hys inv hn' hnL heL hCL k₅ cl => ?_
  refine wpAny_assign_Name (wpAny_storeName_local hy (hE.loc ▸ hnL) (fun hB hnB hsB => ?_) (by rw [hE.kind]; rfl))
  rw [hE.loc] at hnB hsB
  refine ⟨m', hn'.sameBut hsB hCL, fun h' hs' => ⟨setL l y (.ref D), _, cl hB _ _ hsB hnB (fun x => ?_) h' hs', k₅.trans (Like.mk' s₅ _ _ (Nat.le_succ _)), (fin ys lc mm hys inv).2 D mD⟩⟩
  unfold setL
  by_cases hxy : x = y
  · simp [hxy]
  · simp [hxy, heL]
end
end Mine
end
section
open PySem PySem.W PyProof.Rows
set_option maxRecDepth 100000
set_option maxHeartbeats 4000000
set_option linter.unusedVariables false
namespace Mine
theorem qs_same {X : Cx} {m : Mem} {errs : List (List Nat)} {us ds : List Value} {a b : Addr} {c : List Nat} (h1 : All2 (ErrR m) errs us) (h2 : All2 (ErrR m) errs ds) (e1 : m a = some (.dct (cmD c))) (e2 : m b = some (.dct (cmD c))) (f : Bool) :
    (us ++ if f then [Value.ref a] else []).length = (ds ++ if f then [Value.ref b] else []).length ∧ ∀ (j : Nat) x y, (us ++ if f then [Value.ref a] else [])[j]? = some x → (ds ++ if f then [Value.ref b] else [])[j]? = some y → SameD X m x y := by
  have hl : us.length = ds.length := h1.len.symm.trans h2.len
  cases f with
  | false =>
    simp only [Bool.false_eq_true, if_false, List.append_nil]
    exact ⟨hl, errs_same h1 h2⟩
  | true =>
    simp only [if_true, List.length_append, List.length_cons, List.length_nil]
    refine ⟨by (first | lia | omega), fun j x y hx hy => ?_⟩
    by_cases hj : j < us.length
    · rw [List.getElem?_append_left hj] at hx
      rw [List.getElem?_append_left (by (first | lia | omega))] at hy
      exact errs_same h1 h2 j x y hx hy
    · rw [List.getElem?_append_right (by (first | lia | omega))] at hx
      rw [List.getElem?_append_right (by (first | lia | omega)), ← hl] at hy
      cases hz : j - us.length with
      | zero => rw [hz] at hx hy; cases hx; cases hy; exact cm_same e1 e2
      | succ k => rw [hz] at hx; cases hx
section
variable {Z : Cz} {P : Params}
theorem run_tail (hP : P = Z.cx.w.params) {n : Nat} {fz : Frz} {L : Addr} {env : Env} (hE : Fun env L) (hsc : env.scope = scopeAt (KP P) 842) {l : Loc} {m M0 : Mem} {g : G} {T q lf Cm Mk Fa : Addr} {bs : List Addr} {held kq sg : List Nat} {fresh : Bool} {p e st a : Nat} {sv : Value} {errs : List (List Nat)} {us : List Value}
    (l1 : l "t" = some (.ref T)) (l2 : l "whole" = some (.str (mkS (WT' g)) 0)) (l3 : l "marks" = some (.ref Mk)) (l4 : l "place" = some (.int p 0)) (l5 : l "state" = some (.int st 0)) (l6 : l "held" = some (.str (mkS held) 0)) (l7 : l "fresh" = some (.bool fresh)) (l8 : l "signs" = some (.str (mkS sg) 0))
    (l9 : l "end" = some (.int e 0)) (l10 : l "after" = some (.int a 0)) (l11 : l "kept" = some (.str (mkS kq) 0)) (l12 : l "faults" = some (.ref Fa)) (hgl : (WT' g).length ≤ 200) (hhl : held.length ≤ 10) (hql : kq.length ≤ 1000) (hel : errs.length ≤ 1000)
    (h : CAt m g T q lf Cm e 0 sv (held ++ kq) errs (decide (a = 6)) us) (hFa : m Fa = some (.lst (strsV errs))) (hsv : sv = .none ∧ a = st ∨ (∃ z, sv = .ref z) ∧ a ≠ st)
    (hM0 : M0 Cm = none) (hMk : m Mk = some (.lst (bs.map .ref))) (hMA : MkA (WT' g) m bs) (hKR : KRun g T M0 m) (h6 : a = 6 → p = (WT' g).length ∧ e = (WT' g).length ∨ p < e ∧ e ≤ (WT' g).length ∧ p ≠ (WT' g).length)
    (hn6 : a ≠ 6 → p < e ∧ readF fresh sg = (a, kq) ∧ a < 6 ∧ sg.length ≤ 10 + e) :
    EX Z.cx (n + 2) fz L env ((whileBody ((bodyAt (KP P) 842).drop 2)).drop 11) (TQ M0 g T lf Cm Mk bs held fresh p) l m := by
  conv => arg 6; whnf
  (cases env; dsimp only at hsc; subst hsc)
  have hTT := (top_types (Z := Z)) hP
  refine EX_cut (R := fun l' m' => ∃ Tk, l' = setL l "token" (.ref Tk) ∧ m' Tk = some (.dct (cmD (held ++ kq))) ∧ ∀ a o, m a = some o → m' a = some o) ?_ ?_
  · refine E1_AssignName ?_ rfl
    ((refine EV_dict2K ?_; intro D hD); refine EV_sub ?_; refine EV_gref (a := 48) hE (by kernel_rfl) (by kernel_rfl) ?_; refine EV_str (l := [67, 111, 109, 109, 101, 110, 116]) (by kernel_rfl) ?_; refine SUB_dictT (.inr hTT) (tS (tS (tS (tS (tS (tS tE)))))) ?_; refine EV_binop ?_; refine EV_local hE (by kernel_rfl) l6 ?_; refine EV_local hE (by kernel_rfl) l11 ?_; (with_reducible refine O2_add_str ?_ ?_); rotate_left; refine ⟨rfl, ?_⟩; refine ST_local hE (by kernel_rfl) ?_; rotate_left)
    · (first | lia | omega)
    skip
    exact ⟨rfl, _, rfl, setM_same _ _ _, fun a o e => setM_old hD e⟩
  (intro _ m1 hq0; refine dn fun hG0 => ?_; rcases hq0 with ⟨Tk, rfl, hTk, kp1⟩ <;> refine hG0 ?_ <;> clear hG0)
  have h1 := h.grow kp1
  refine EX_cut (R := fun l' m' => ∃ Du ds, l' = setL (setL l "token" (.ref Tk)) "due" (.ref Du) ∧ m1 Du = none ∧ m' Du = some (.lst ds) ∧ All2 (ErrR m') errs ds ∧ ∀ a o, m1 a = some o → m' a = some o) ?_ ?_
  · refine E1_AssignComp hE ((by kernel_rfl)) (IE_list ?_) (by rfl)
    refine EV_local hE (by kernel_rfl) (sS l12) ?_
    refine ⟨Fa, strsV errs, rfl, .lst (kp1 _ _ hFa), ?_⟩
    refine ⟨by simp [strsV]; (first | lia | omega), fun i ys lc mm => All2 (ErrR mm) (errs.take i) ys ∧ ∀ a o, m1 a = some o → mm a = some o, ⟨.nil, fun a o e => e⟩, ?_, ?_⟩
    · rintro i ys lc mm hi hys ⟨ha, kp⟩
      refine ⟨.lst (kp _ _ (kp1 _ _ hFa)), fun fz C cenv hE hsc => ?_⟩
      have he : cenv = _ := congrArg (fun s => ({ cenv with scope := s } : Env)) hsc
      have hi' : i < errs.length := by simpa [strsV] using hi
      have hni : (strsV errs).getD i .none = .str (mkS errs[i]) 0 := by simp [strsV, hi']
      dsimp only
      rw [hni]
      refine ⟨(by rw [he]; kernel_rfl), ?_⟩
      ((refine EV_dict2K ?_; intro D hD); refine EV_sub ?_; refine EV_gref (a := 48) hE (by rw [he]; kernel_rfl) (by kernel_rfl) ?_; refine EV_str (l := [80, 97, 114, 115, 101, 69, 114, 114, 111, 114]) (by kernel_rfl) ?_; refine SUB_dictT (.inr hTT) (tS (tS (tS (tS (tS (tS (tS tE))))))) ?_; refine EV_local hE (by rw [he]; kernel_rfl) sH ?_; refine ⟨rfl, ?_⟩)
      have et : errs.take (i + 1) = errs.take i ++ [errs[i]] := by rw [List.take_add_one, List.getElem?_eq_getElem hi']; rfl
      rw [et]
      exact ⟨(ha.mono fun _ _ r => r.keep fun a e => setM_old hD e).snoc ⟨_, rfl, setM_same _ _ _⟩, fun a o e => setM_old hD (kp _ _ e)⟩
    · rintro ys lc mm hys ⟨ha, kp⟩
      refine ⟨.lst (kp _ _ (kp1 _ _ hFa)), fun D2 hD2 => ?_⟩
      have hl9 : (strsV errs).length = errs.length := by simp [strsV]
      rw [hl9, List.take_length] at ha
      refine ⟨rfl, D2, ys, rfl, ?_, setM_same _ _ _, ha.mono fun _ _ r => r.keep fun a e => setM_old hD2 e, fun a o e => setM_old hD2 (kp _ _ e)⟩
      cases q9 : m1 D2 with
      | none => rfl
      | some o => rw [kp _ _ q9] at hD2; cases hD2
  (intro _ m2 hq0; refine dn fun hG0 => ?_; rcases hq0 with ⟨Du, ds, rfl, hDu, mDu, haD, kp2⟩ <;> refine hG0 ?_ <;> clear hG0)
  have hdl : ds.length = errs.length := haD.len.symm
  refine EX_cut (R := fun l' m' => l' = setL (setL l "token" (.ref Tk)) "due" (.ref Du) ∧ m' Du = some (.lst (ds ++ if decide (a = 6) then [.ref Tk] else [])) ∧ All2 (ErrR m') errs ds ∧ ∀ a o, m1 a = some o → m' a = some o) ?_ ?_
  · refine E1_IfT (decide (a = 6)) (fun m => m = m2) ?_ ?_ ?_
    · (refine TV_compare ?_; refine EV_local hE (by kernel_rfl) (sS (sS l10)) ?_; refine EV_int ?_; (with_reducible refine O2_eq_int ?_); (with_reducible refine TR_bool ?_))
      exact ⟨by simp; (first | lia | omega), rfl, rfl⟩
    · rintro ht m3 rfl
      rw [ht]
      (refine EX_cons ?_; refine E1_Expr ?_ (by rfl) (by rfl); refine EV_mcall ?_; refine EV_local hE (by kernel_rfl) sH ?_; (with_reducible refine GM_append mDu ?_); refine CW_go1 (KeepOk.bf _) ?_; refine AR_cons ?_; refine EV_local hE (by kernel_rfl) (sS sH) ?_; refine AR_nil ?_; refine CA_append mDu ?_ ?_; rotate_left; refine seq_next ?_; refine EX_nil ?_; rotate_left)
      · (first | lia | omega)
      skip
      refine ⟨rfl, rfl, setM_same _ _ _, haD.mono fun _ _ r => r.keep fun a e => (setM_ne _ _ fun z => by rw [z, mDu] at e; cases e).trans e, fun a o e => (setM_ne _ _ fun z => by rw [z, hDu] at e; cases e).trans (kp2 _ _ e)⟩
    · rintro ht m3 rfl
      rw [ht]
      refine EX_nil ?_
      exact ⟨rfl, rfl, by rw [mDu]; simp, haD, kp2⟩
  (intro _ m3 hq0; refine dn fun hG0 => ?_; rcases hq0 with ⟨rfl, mDu3, haD3, kp3⟩ <;> refine hG0 ?_ <;> clear hG0)
  have h3 := h1.grow kp3
  have hT3 := h3.hT
  have hq3 := h3.hq
  have hTk3 := kp3 _ _ hTk
  have sm := qs_same (X := Z.cx) h3.ha haD3 h3.hD hTk3 (decide (a = 6))
  have km : ∀ a o, m a = some o → m3 a = some o := fun a o e => kp3 _ _ (kp1 _ _ e)
  have hKR3 : KRun g T M0 m3 := fun a o x1 x2 x3 x4 e => km _ _ (hKR a o x1 x2 x3 x4 e)
  have hTB3 : TB g T lf Cm m3 := .inr ⟨sv, q, hT3⟩
  have hTB03 : TB0 g T lf m3 := .inr ⟨sv, Cm, q, hT3⟩
  refine EX_cons (E1_IfT false (fun m => m = m3) ?_ (fun h => by cases h) ?_)
  · refine TV_boolop ?_
    refine TAll_or ?_
    (refine TV_compare ?_; refine EVaf hE (by kernel_rfl) (sS (sS l1)) hT3 ckf7 (fok (by kernel_rfl)) ?_; refine EV_local hE (by kernel_rfl) sH ?_)
    refine O2_ne_dcts (.lst hq3) (.lst mDu3) sm.1 sm.2 (by (first | lia | omega)) ?_
    ((with_reducible refine TR_bool ?_); (refine And.intro ?_ ?_ <;> intro hb <;> try (cases hb; done)); refine TAll_or ?_; refine TV_compare ?_; refine EVaf hE (by kernel_rfl) (sS (sS l1)) hT3 ckf6 (fok (by kernel_rfl)) ?_; refine EV_local hE (by kernel_rfl) (sS sH) ?_)
    refine O2_ne_dct (cm_same h3.hD hTk3) (by (first | lia | omega)) ?_
    rcases hsv with ⟨rfl, rfl⟩ | ⟨⟨z, rfl⟩, hne⟩
    · ((with_reducible refine TR_bool ?_); (refine And.intro ?_ ?_ <;> intro hb <;> try (cases hb; done)); refine TAll_or ?_; refine TV_compare ?_; refine EV_compare ?_; refine EVaf hE (by kernel_rfl) (sS (sS l1)) hT3 ckf4 (fok (by kernel_rfl)) ?_; refine EV_none ?_; (with_reducible refine O2_is_none ?_); refine EV_compare ?_; refine EV_local hE (by kernel_rfl) (sS (sS l10)) ?_; refine EV_local hE (by kernel_rfl) (sS (sS l5)) ?_; (with_reducible refine O2_eq_int ?_); (with_reducible refine O2_ne_bool ?_); (with_reducible refine TR_bool ?_); (refine And.intro ?_ ?_ <;> intro hb <;> try (cases hb; done)); rotate_left; refine TAll_or_nil ?_; rotate_left)
      · exact absurd hb (by simp)
      · exact ⟨rfl, rfl, rfl⟩
    · have hni : ¬ ((a : Nat) : Int) = (st : Int) := fun z => hne (Int.ofNat.inj z)
      have hzn : ((Value.ref z == Value.none) : Bool) = false := rfl
      ((with_reducible refine TR_bool ?_); (refine And.intro ?_ ?_ <;> intro hb <;> try (cases hb; done)); refine TAll_or ?_; refine TV_compare ?_; refine EV_compare ?_; refine EVaf hE (by kernel_rfl) (sS (sS l1)) hT3 ckf4 (fok (by kernel_rfl)) ?_; refine EV_none ?_; (with_reducible refine O2_is_none ?_); refine EV_compare ?_; refine EV_local hE (by kernel_rfl) (sS (sS l10)) ?_; refine EV_local hE (by kernel_rfl) (sS (sS l5)) ?_; (with_reducible refine O2_eq_int ?_); (with_reducible refine O2_ne_bool ?_); (with_reducible refine TR_bool ?_); (refine And.intro ?_ ?_ <;> intro hb <;> try (cases hb; done)); rotate_left; refine TAll_or_nil ?_; rotate_left)
      · exact absurd hb (by simp [hni, hzn])
      · exact ⟨rfl, rfl, rfl⟩
  rintro - m4 rfl
  refine EX_nil ?_
  refine seq_next ?_
  refine EX_cons (E1_IfT (decide (a = 6)) (fun m => m = m4) ?_ ?_ ?_)
  · (refine TV_compare ?_; refine EV_local hE (by kernel_rfl) (sS (sS l10)) ?_; refine EV_int ?_; (with_reducible refine O2_eq_int ?_); (with_reducible refine TR_bool ?_))
    exact ⟨by simp; (first | lia | omega), rfl, rfl⟩
  · rintro ht m5 rfl
    have ha6 : a = 6 := of_decide_eq_true ht
    (refine EX_cons ?_; refine E1_Return ?_; refine EV_ifexp ?_; refine TV_compare ?_; refine EV_local hE (by kernel_rfl) (sS (sS l4)) ?_; refine EV_ncall ?_; refine EV_builtinF (id := "len") hE (by kernel_rfl) (by kernel_rfl) (by kernel_rfl) ?_; refine CW_go0 (KeepOk.bf _) ?_; refine AR_cons ?_; refine EV_local hE (by kernel_rfl) (sS (sS l2)) ?_; refine AR_nil ?_; (with_reducible refine CA_len_str ?_ ?_); rotate_left; (with_reducible refine O2_eq_int ?_); (with_reducible refine TR_bool ?_); rotate_left)
    · (first | lia | omega)
    rcases h6 ha6 with ⟨hpl, hel⟩ | ⟨hpe, hel, hpl⟩
    · (refine And.intro ?_ ?_ <;> intro hb <;> try (cases hb; done))
      · (refine EV_binop ?_; refine EV_local hE (by kernel_rfl) (sS (sS l9)) ?_; refine EV_int ?_; (with_reducible refine O2_add_int ?_); refine seq_ret ?_; refine seq_ret ?_)
        refine .inr ⟨(WT' g).length + 1, ?_, by (first | lia | omega), hKR3, .inl rfl⟩
        rw [hel]; rfl
      · exact absurd (by rw [hpl]) (of_decide_eq_false hb)
    · (refine And.intro ?_ ?_ <;> intro hb <;> try (cases hb; done))
      · exact absurd (Int.ofNat.inj (of_decide_eq_true hb)) hpl
      · (refine EV_local hE (by kernel_rfl) (sS (sS l9)) ?_; refine seq_ret ?_; refine seq_ret ?_)
        exact .inr ⟨e, rfl, hpe, hKR3, .inr ⟨hel, h3.hat, hTB03⟩⟩
  rintro ht m5 rfl
  refine EX_nil ?_
  refine seq_next ?_
  have ha6 : a ≠ 6 := of_decide_eq_false ht
  (refine dn fun hG0 => ?_; obtain ⟨hpe, hrd, ha, hsl⟩ := hn6 ha6; refine hG0 ?_; clear hG0)
  refine EX_cons (E1_AssignSwap "state" "place" hE ((by kernel_rfl)) ((by kernel_rfl)) ?_ (by rfl) (by rfl))
  (refine EV_tuple ?_; refine AR_cons ?_; refine EV_local hE (by kernel_rfl) (sS (sS l10)) ?_; refine AR_cons ?_; refine EV_local hE (by kernel_rfl) (sS (sS l9)) ?_; refine AR_nil ?_)
  refine ⟨by simp, fun D hD => ?_⟩
  refine ⟨D, _, _, rfl, .tup (setM_same _ _ _), ?_⟩
  (refine seq_next ?_; refine EX_nil ?_)
  have kp5 : ∀ x o, m5 x = some o → setM m5 D (.tup [.int (a : Nat) 0, .int (e : Nat) 0]) x = some o := fun x o e => setM_old hD e
  generalize setM m5 D (.tup [.int (a : Nat) 0, .int (e : Nat) 0]) = m6 at kp5 ⊢
  have h6 := h3.grow kp5
  refine .inl ⟨rfl, e, a, hpe, ⟨sg, kq, by exact (sS (sS (sS (sS l1)))), by exact (sS (sS (sS (sS l2)))), by exact (sS (sS (sS (sS l3)))), by exact (sS sH), by exact sH, by exact (sS (sS (sS (sS l6)))), by exact (sS (sS (sS (sS l7)))), by exact (sS (sS (sS (sS l8)))), h6.hat, .inr ⟨sv, q, h6.hT⟩, h6.hD, hM0, kp5 _ _ (km _ _ hMk), hMA.keep fun x o e => kp5 _ _ (km _ _ e), fun x o x1 x2 x3 x4 e => kp5 _ _ (hKR3 x o x1 x2 x3 x4 e), hrd, ha, hsl⟩⟩
end
end Mine
end
section
open PySem PySem.W PyProof.Rows
set_option maxRecDepth 100000
set_option maxHeartbeats 4000000
set_option linter.unusedVariables false
namespace Mine
section
variable {Z : Cz} {P : Params}
theorem run_mid (hP : P = Z.cx.w.params) {n : Nat} {fz : Frz} {L : Addr} {env : Env} (hE : Fun env L) (hsc : env.scope = scopeAt (KP P) 842) {l : Loc} {m M0 : Mem} {g : G} {T q lf Cm Mk : Addr} {bs : List Addr} {held kept sg c : List Nat} {fresh fin : Bool} {p e st : Nat} {sv : Value} {errs : List (List Nat)} {us : List Value}
    (l1 : l "t" = some (.ref T)) (l2 : l "whole" = some (.str (mkS (WT' g)) 0)) (l3 : l "marks" = some (.ref Mk)) (l4 : l "place" = some (.int p 0)) (l5 : l "state" = some (.int st 0)) (l6 : l "held" = some (.str (mkS held) 0)) (l7 : l "fresh" = some (.bool fresh)) (l8 : l "signs" = some (.str (mkS sg) 0))
    (l9 : l "end" = some (.int e 0)) (hgl : (WT' g).length ≤ 200) (hhl : held.length ≤ 10) (hst : st < 6) (hsl : sg.length ≤ 10 + p)
    (h : CAt m g T q lf Cm e 0 sv c errs fin us) (hM0 : M0 Cm = none) (hMk : m Mk = some (.lst (bs.map .ref))) (hMA : MkA (WT' g) m bs) (hKR : KRun g T M0 m) (hpe : p ≤ e) (hew : e ≤ (WT' g).length)
    (hc : (p < e ∧ ∃ st' kept', readF fresh (sg ++ ((WT' g).take e).drop p) = (st', kept') ∧ st' ≤ 6 ∧ c = held ++ kept' ∧ errs = fltL fresh sg (((WT' g).take e).drop p) ∧ fin = decide (st' = 6) ∧ (sv = .none ∧ st' = st ∨ (∃ z, sv = .ref z) ∧ st' ≠ st)) ∨
      (p = (WT' g).length ∧ e = (WT' g).length ∧ readF fresh sg = (st, kept) ∧ ∃ s, cutL[st]? = some s ∧ c = held ++ kept ∧ errs = [s] ∧ fin = true ∧ ∃ z, sv = .ref z)) :
    EX Z.cx (n + 4) fz L env ((whileBody ((bodyAt (KP P) 842).drop 2)).drop 7) (TQ M0 g T lf Cm Mk bs held fresh p) l m := by
  have tail := fun (fz : Frz) (l : Loc) (m : Mem) (Fa : Addr) (kq sg : List Nat) (a : Nat) (errs : List (List Nat)) (us : List Value) l1 l2 l3 l4 l5 l6 l7 l8 l9 l10 l11 l12 hql hel h hFa hsv hMk hMA hKR h6 hn6 => run_tail (n := n + 2) hP (fz := fz) hE hsc (l := l) (m := m) (M0 := M0) (g := g) (T := T) (q := q) (lf := lf) (Cm := Cm) (Mk := Mk) (Fa := Fa) (bs := bs) (held := held) (kq := kq) (sg := sg) (fresh := fresh) (p := p) (e := e) (st := st) (a := a) (sv := sv) (errs := errs) (us := us) l1 l2 l3 l4 l5 l6 l7 l8 l9 l10 l11 l12 hgl hhl hql hel h hFa hsv hM0 hMk hMA hKR h6 hn6
  conv => arg 6; whnf
  (cases env; dsimp only at hsc; subst hsc)
  obtain ⟨sl, hsl0⟩ : ∃ sl, sl = ((WT' g).take e).drop p := ⟨_, rfl⟩
  have hsll : sl.length = e - p := by rw [hsl0]; simp; (first | lia | omega)
  rw [← hsl0] at hc
  (refine EX_cons ?_; refine E1_AssignName ?_ rfl; refine EV_list ?_; refine AR_nil ?_)
  refine ⟨by simp, fun Fa hFa => ?_⟩
  (refine STn hE (by kernel_rfl) ?_)
  have kp1 : ∀ a o, m a = some o → setM m Fa (.lst []) a = some o := fun a o e => setM_old hFa e
  have hF1 : setM m Fa (.lst []) Fa = some (.lst (strsV (fltL fresh sg (sl.take 0)))) := setM_same _ _ _
  generalize setM m Fa (.lst []) = m1 at kp1 hF1 ⊢
  refine EX_cut (R := fun l' m' => l' "t" = some (.ref T) ∧ l' "whole" = some (.str (mkS (WT' g)) 0) ∧ l' "marks" = some (.ref Mk) ∧ l' "place" = some (.int p 0) ∧ l' "state" = some (.int st 0) ∧ l' "held" = some (.str (mkS held) 0) ∧ l' "fresh" = some (.bool fresh) ∧ l' "end" = some (.int e 0) ∧
      l' "faults" = some (.ref Fa) ∧ l' "signs" = some (.str (mkS (sg ++ sl)) 0) ∧ m' Fa = some (.lst (strsV (fltL fresh sg sl))) ∧ ∀ a o, m a = some o → m' a = some o) ?_ ?_
  · refine E1_For hE (IE_str ?_)
    (refine EV_slice_str ?_; refine EV_local hE (by kernel_rfl) (sS l2) ?_; (with_reducible first | refine exr ?_ | refine ⟨_, rfl, ?_⟩))
    refine ⟨by (first | lia | omega), ?_⟩
    (refine PT_some ?_; refine EV_local hE (by kernel_rfl) (sS l4) ?_; (with_reducible first | refine exr ?_ | refine ⟨_, rfl, ?_⟩); refine PT_some ?_; refine EV_local hE (by kernel_rfl) (sS l9) ?_; (with_reducible first | refine exr ?_ | refine ⟨_, rfl, ?_⟩); (with_reducible first | refine exr ?_ | refine ⟨_, rfl, ?_⟩))
    rw [pySl_nat, ← hsl0]
    refine ⟨(by kernel_rfl), fun i l' m' => l' "t" = some (.ref T) ∧ l' "whole" = some (.str (mkS (WT' g)) 0) ∧ l' "marks" = some (.ref Mk) ∧ l' "place" = some (.int p 0) ∧ l' "state" = some (.int st 0) ∧ l' "held" = some (.str (mkS held) 0) ∧ l' "fresh" = some (.bool fresh) ∧ l' "end" = some (.int e 0) ∧
      l' "faults" = some (.ref Fa) ∧ l' "signs" = some (.str (mkS (sg ++ sl.take i)) 0) ∧ m' Fa = some (.lst (strsV (fltL fresh sg (sl.take i)))) ∧ ∀ a o, m a = some o → m' a = some o, ⟨by exact (sS l1), by exact (sS l2), by exact (sS l3), by exact (sS l4), by exact (sS l5), by exact (sS l6), by exact (sS l7), by exact (sS l9), by exact sH, by rw [List.take_zero, List.append_nil]; exact (sS l8), hF1, kp1⟩, ?_, ?_⟩
    · rintro i l' m' hi ⟨a1, a2, a3, a4, a5, a6, a7, a8, a9, a10, hF, kp⟩
      refine ⟨trivial, fun fz => ?_⟩
      obtain ⟨x, hx⟩ : ∃ x, sl[i]? = some x := ⟨_, List.getElem?_eq_getElem hi⟩
      have hg : sl.getD i 0 = x := by rw [List.getD_eq_getElem?_getD, hx]; rfl
      have et : sl.take (i + 1) = sl.take i ++ [x] := by rw [List.take_add_one, hx]; rfl
      have hl9 : (sg ++ sl.take i).length ≤ 300 := by rw [List.length_append, List.length_take]; (first | lia | omega)
      have hfl : (fltL fresh sg (sl.take i)).length ≤ 300 := by
        have := fltL_len fresh (sl.take i) sg
        rw [List.length_take] at this; (first | lia | omega)
      have hfx := fltF_len fresh (sg ++ sl.take i) x
      dsimp only
      rw [hg]
      (refine EX_cons ?_; refine E1_AugLocal hE (by kernel_rfl) (sS a9) ?_; refine EV_ncall ?_; refine EV_gref (a := 830) hE (by kernel_rfl) (by kernel_rfl) ?_; refine CW_go0 (KeepOk.rf (by kernel_rfl)) ?_; refine AR_cons ?_; refine EV_local hE (by kernel_rfl) (sS a10) ?_; refine AR_cons ?_; refine EV_local hE (by kernel_rfl) sH ?_; refine AR_cons ?_; refine EV_local hE (by kernel_rfl) (sS a7) ?_; refine AR_nil ?_)
      refine CA_CL ((c_fault (n := n) (by (first | lia | omega))).mono ?_) (by (first | lia | omega))
      (intro v m2 hq0; refine dn fun hG0 => ?_; rcases hq0 with ⟨D2, rfl, hD2, mD2, kp2⟩ <;> refine hG0 ?_ <;> clear hG0)
      refine O2_iadd_lst (kp2 _ _ hF) mD2 (by simp [strsV]; (first | lia | omega)) ?_
      (refine STn hE (by kernel_rfl) ?_; refine EX_cons ?_; refine E1_AugLocal hE (by kernel_rfl) (sS (sS a10)) ?_; refine EV_local hE (by kernel_rfl) (sS sH) ?_; (with_reducible refine O2_iadd_str ?_ ?_); rotate_left; refine STn hE (by kernel_rfl) ?_; refine EX_nil ?_; rotate_left)
      · simp only [List.length_cons, List.length_nil]; (first | lia | omega)
      skip
      have hes : strsV (fltL fresh sg (sl.take i)) ++ strsV (fltF fresh (sg ++ sl.take i) x) = strsV (fltL fresh sg (sl.take (i + 1))) := by rw [et, fltL_app]; simp [strsV]
      have hss : sg ++ sl.take i ++ [x] = sg ++ sl.take (i + 1) := by rw [et, List.append_assoc]
      refine ⟨by exact (sS (sS (sS a1))), by exact (sS (sS (sS a2))), by exact (sS (sS (sS a3))), by exact (sS (sS (sS a4))), by exact (sS (sS (sS a5))), by exact (sS (sS (sS a6))), by exact (sS (sS (sS a7))), by exact (sS (sS (sS a8))), by exact (sS sH), by rw [← hss]; exact sH, by rw [setM_same, hes], fun a o e => ?_⟩
      exact (setM_ne _ _ fun z => by rw [z, hFa] at e; cases e).trans (kp2 _ _ (kp _ _ e))
    · rintro l' m' ⟨a1, a2, a3, a4, a5, a6, a7, a8, a9, a10, hF, kp⟩
      rw [List.take_length] at a10 hF
      exact ⟨trivial, rfl, a1, a2, a3, a4, a5, a6, a7, a8, a9, a10, hF, kp⟩
  rintro l' m' ⟨a1, a2, a3, a4, a5, a6, a7, a8, a9, a10, hF, kp⟩
  have hl9 : (sg ++ sl).length ≤ 10 + e := by rw [List.length_append]; (first | lia | omega)
  have hkl := readF_len fresh (sg ++ sl)
  (refine EX_cons ?_; refine E1_AssignTuple ?_ rfl rfl rfl; refine EV_ncall ?_; refine EV_gref (a := 823) hE (by kernel_rfl) (by kernel_rfl) ?_; refine CW_go0 (KeepOk.rf (by kernel_rfl)) ?_; refine AR_cons ?_; refine EV_local hE (by kernel_rfl) a10 ?_; refine AR_cons ?_; refine EV_local hE (by kernel_rfl) a7 ?_; refine AR_nil ?_)
  refine CA_CL ((c_lawread (n := n) (by (first | lia | omega))).mono ?_) (by (first | lia | omega))
  (intro v m2 hq0; refine dn fun hG0 => ?_; rcases hq0 with ⟨D1, rfl, hD1, mD1, kp2⟩ <;> refine hG0 ?_ <;> clear hG0)
  refine ⟨D1, _, rfl, .tup mD1, rfl, ?_⟩
  (refine ATs_cons ?_; refine AT_name ?_; refine ST_local hE (by kernel_rfl) ?_; refine ATs_cons ?_; refine AT_name ?_; refine ST_local hE (by kernel_rfl) ?_; refine ATs_nil ?_; refine seq_next ?_)
  have hF2 := kp2 _ _ hF
  have km : ∀ a o, m a = some o → m2 a = some o := fun a o e => kp2 _ _ (kp _ _ e)
  have h2 := h.grow km
  rcases hc with ⟨hlt, st', kept', hrd, h6, rfl, rfl, rfl, hsv⟩ | ⟨hpl, hel, hrd, s, hcs, rfl, rfl, rfl, z, rfl⟩
  · rw [hrd] at hkl ⊢
    dsimp only at hkl ⊢
    have hfl := fltL_len fresh sl sg
    refine EX_cons (E1_IfT false (fun m => m = m2) ?_ (fun h => by cases h) ?_)
    · have hne : ¬ ((p : Nat) : Int) = ((WT' g).length : Int) := by (first | lia | omega)
      (refine TV_compare ?_; refine EV_local hE (by kernel_rfl) (sS (sS a4)) ?_; refine EV_ncall ?_; refine EV_builtinF (id := "len") hE (by kernel_rfl) (by kernel_rfl) (by kernel_rfl) ?_; refine CW_go0 (KeepOk.bf _) ?_; refine AR_cons ?_; refine EV_local hE (by kernel_rfl) (sS (sS a2)) ?_; refine AR_nil ?_; (with_reducible refine CA_len_str ?_ ?_); rotate_left; (with_reducible refine O2_eq_int ?_); (with_reducible refine TR_bool ?_); rotate_left)
      · (first | lia | omega)
      exact ⟨decide_eq_false hne, rfl, rfl⟩
    rintro - m3 rfl
    refine EX_cons ?_
    refine E1_IfT false (fun m => m = m3) ?_ (fun h => by cases h) ?_
    · have hne : ¬ ((p : Nat) : Int) = (e : Int) := by (first | lia | omega)
      (refine TV_compare ?_; refine EV_local hE (by kernel_rfl) (sS (sS a4)) ?_; refine EV_local hE (by kernel_rfl) (sS (sS a8)) ?_; (with_reducible refine O2_eq_int ?_); (with_reducible refine TR_bool ?_))
      exact ⟨decide_eq_false hne, rfl, rfl⟩
    rintro - m4 rfl
    refine EX_nil ?_
    refine seq_next ?_
    refine EX_nil ?_
    refine tail _ _ m4 Fa kept' (sg ++ sl) st' _ us ?_ ?_ ?_ ?_ ?_ ?_ ?_ ?_ ?_ ?_ ?_ ?_ (by (first | lia | omega)) (by (first | lia | omega)) h2 hF2 hsv (km _ _ hMk) (hMA.keep fun a l e => km _ _ e) (fun a o x1 x2 x3 x4 e => km _ _ (hKR a o x1 x2 x3 x4 e)) (fun _ => .inr ⟨hlt, hew, by (first | lia | omega)⟩) (fun hn => ⟨hlt, hrd, by (first | lia | omega), hl9⟩) <;> (first | (exact (sS (sS a1))) | (exact (sS (sS a2))) | (exact (sS (sS a3))) | (exact (sS (sS a4))) | (exact (sS (sS a5))) | (exact (sS (sS a6))) | (exact (sS (sS a7))) | (exact (sS (sS a10))) | (exact (sS (sS a8))) | (exact (sS sH)) | (exact sH) | (exact (sS (sS a9))))
  · have hs0 : sl = [] := List.eq_nil_of_length_eq_zero (by (first | lia | omega))
    subst hs0
    rw [List.append_nil] at hkl a10 ⊢
    rw [hrd] at hkl ⊢
    dsimp only at hkl ⊢
    refine EX_cons (E1_IfT true (fun m => m = m2) ?_ ?_ (fun h => by cases h))
    · have hne : ((p : Nat) : Int) = ((WT' g).length : Int) := by (first | lia | omega)
      (refine TV_compare ?_; refine EV_local hE (by kernel_rfl) (sS (sS a4)) ?_; refine EV_ncall ?_; refine EV_builtinF (id := "len") hE (by kernel_rfl) (by kernel_rfl) (by kernel_rfl) ?_; refine CW_go0 (KeepOk.bf _) ?_; refine AR_cons ?_; refine EV_local hE (by kernel_rfl) (sS (sS a2)) ?_; refine AR_nil ?_; (with_reducible refine CA_len_str ?_ ?_); rotate_left; (with_reducible refine O2_eq_int ?_); (with_reducible refine TR_bool ?_); rotate_left)
      · (first | lia | omega)
      exact ⟨decide_eq_true hne, rfl, rfl⟩
    rintro - m3 rfl
    refine EX_cut (R := fun l2 m5 => ∃ D3, l2 = setL (setL (setL (setL l' "after" (.int (st : Nat) 0)) "kept" (.str (mkS kept) 0)) "after" (.int 6 0)) "faults" (.ref D3) ∧ m5 D3 = some (.lst (strsV [s])) ∧ ∀ a o, m3 a = some o → m5 a = some o) ?_ ?_
    · refine E1_AssignSwap "faults" "after" hE ((by kernel_rfl)) ((by kernel_rfl)) ?_ (by rfl) (by rfl)
      (refine EV_tuple ?_; refine AR_cons ?_; refine EV_list ?_; refine AR_cons ?_; refine EV_sub ?_; refine EV_ncall ?_; refine EV_gref (a := 802) hE (by kernel_rfl) (by kernel_rfl) ?_; refine CW_go0 (KeepOk.rf (by kernel_rfl)) ?_; refine AR_nil ?_)
      refine CA_CL ((c_cut (n := n)).mono ?_) (by (first | lia | omega))
      (intro v m4 hq0; refine dn fun hG0 => ?_; rcases hq0 with ⟨D2, hD2, rfl, rfl⟩ <;> refine hG0 ?_ <;> clear hG0)
      refine EV_local hE (by kernel_rfl) (sS (sS a5)) ?_
      refine SUB_list (.lst (setM_same _ _ _)) (by (first | lia | omega)) (by (first | lia | omega)) (x := .str (mkS s) 0) ?_ ?_
      · unfold strsV; rw [List.getElem?_map, Int.toNat_natCast, hcs]; rfl
      refine AR_nil ?_
      refine ⟨by simp, fun D3 hD3 => ?_⟩
      (refine AR_cons ?_; refine EV_int ?_; refine AR_nil ?_)
      refine ⟨by simp, fun D4 hD4 => ?_⟩
      refine ⟨D4, _, _, rfl, .tup (setM_same _ _ _), ?_⟩
      exact ⟨rfl, D3, rfl, setM_old hD4 (setM_same _ _ _), fun a o e => setM_old hD4 (setM_old hD3 (setM_old hD2 e))⟩
    (intro _ m5 hq0; refine dn fun hG0 => ?_; rcases hq0 with ⟨D3, rfl, hF4, kp4⟩ <;> refine hG0 ?_ <;> clear hG0)
    refine EX_nil ?_
    refine seq_next ?_
    have km5 : ∀ a o, m a = some o → m5 a = some o := fun a o e => kp4 _ _ (km _ _ e)
    have l10' : setL (setL (setL (setL l' "after" (.int (st : Nat) 0)) "kept" (.str (mkS kept) 0)) "after" (.int 6 0)) "faults" (.ref D3) "after" = some (.int ((6 : Nat) : Int) 0) := by exact (sS sH)
    refine tail _ _ m5 D3 kept sg 6 [s] us ?_ ?_ ?_ ?_ ?_ ?_ ?_ ?_ ?_ ?_ ?_ ?_ (by (first | lia | omega)) (by simp) (h2.grow kp4) hF4 (.inr ⟨⟨z, rfl⟩, by (first | lia | omega)⟩) (km5 _ _ hMk) (hMA.keep fun a l e => km5 _ _ e) (fun a o x1 x2 x3 x4 e => km5 _ _ (hKR a o x1 x2 x3 x4 e)) (fun _ => .inl ⟨hpl, hel⟩) (fun hn => absurd rfl hn) <;> first | exact l10' | (first | (exact (sS (sS (sS (sS a1))))) | (exact (sS (sS (sS (sS a2))))) | (exact (sS (sS (sS (sS a3))))) | (exact (sS (sS (sS (sS a4))))) | (exact (sS (sS (sS (sS a5))))) | (exact (sS (sS (sS (sS a6))))) | (exact (sS (sS (sS (sS a7))))) | (exact (sS (sS (sS (sS a10))))) | (exact (sS (sS (sS (sS a8))))) | (exact (sS (sS sH))) | (exact sH))
end
end Mine
end
section
open PySem PySem.W PyProof.Rows
set_option maxRecDepth 100000
set_option maxHeartbeats 4000000
set_option linter.unusedVariables false
namespace Mine
theorem CAt.tups {M m : Mem} {g : G} {T q lf Cm : Addr} {k bk : Nat} {sv : Value} {c : List Nat} {errs : List (List Nat)} {fin : Bool} {us : List Value} (h : CAt M g T q lf Cm k bk sv c errs fin us) (kc : KC g T q Cm M m) : ∀ a l, M a = some (.tup l) → m a = some (.tup l) := fun a l e => by
  obtain ⟨pre, c', co, b, p, S, _⟩ := h.hat
  obtain ⟨es, hE, _⟩ := S.hE
  exact kc a _ (fun z => by rw [z, S.hS] at e; cases e) (fun z => by rw [z, S.hX] at e; cases e) (fun z => by rw [z, hE] at e; cases e) (fun z => by rw [z, h.hT] at e; cases e) (fun z => by rw [z, h.hq] at e; cases e) (fun z => by rw [z, h.hD] at e; cases e) e
theorem pos_ne {W : List Nat} {j e : Nat} (hj : j ≤ W.length) (he : e ≤ W.length) : (!(decide (((lnA W j : Nat) : Int) = (((W.take e).count 10 + 1 : Nat) : Int)) && decide (((clA W j : Nat) : Int) = ((trail (W.take e) : Nat) : Int)))) = !decide (j = e) := by
  have e1 : ((((W.take e).count 10 + 1 : Nat) : Int)) = ((lnA W e : Nat) : Int) := by unfold lnA; (first | lia | omega)
  have e2 : ((trail (W.take e) : Nat) : Int) = ((clA W e : Nat) : Int) := rfl
  rw [e1, e2]
  by_cases h : j = e
  · subst h; simp
  · have hn : ¬ (((lnA W j : Nat) : Int) = ((lnA W e : Nat) : Int) ∧ ((clA W j : Nat) : Int) = ((clA W e : Nat) : Int)) := fun z => h (pos_inj hj he (Int.ofNat.inj z.1) (Int.ofNat.inj z.2))
    rw [← Bool.decide_and, decide_eq_false hn, decide_eq_false h]
section
variable {Z : Cz} {P : Params}
theorem run_turn (hP : P = Z.cx.w.params) {n : Nat} {fz : Frz} {L : Addr} {env : Env} (hE : Fun env L) (hsc : env.scope = scopeAt (KP P) 842) {l : Loc} {m M0 : Mem} {g : G} {T lf Cm Mk : Addr} {bs : List Addr} {held : List Nat} {fresh : Bool} {p st : Nat}
    (hgl : (WT' g).length ≤ 200) (hhl : held.length ≤ 10) (hbl : bs.length = (WT' g).length + 1) (hME : Mk ≠ g.E) (J : JR l m M0 g T lf Cm Mk bs held fresh p st) :
    EX Z.cx (n + 9) fz L env (whileBody ((bodyAt (KP P) 842).drop 2)) (TQ M0 g T lf Cm Mk bs held fresh p) l m := by
  have mid := fun (fz : Frz) (l : Loc) (m : Mem) (q : Addr) (kept sg c : List Nat) (fin : Bool) (e : Nat) (sv : Value) (errs : List (List Nat)) (us : List Value) l1 l2 l3 l4 l5 l6 l7 l8 l9 hst hsl h hM0 hMk hMA hKR hpe hew hc => run_mid (n := n + 5) hP (fz := fz) hE hsc (l := l) (m := m) (M0 := M0) (g := g) (T := T) (q := q) (lf := lf) (Cm := Cm) (Mk := Mk) (bs := bs) (held := held) (kept := kept) (sg := sg) (c := c) (fresh := fresh) (fin := fin) (p := p) (e := e) (st := st) (sv := sv) (errs := errs) (us := us) l1 l2 l3 l4 l5 l6 l7 l8 l9 hgl hhl hst hsl h hM0 hMk hMA hKR hpe hew hc
  conv => arg 6; whnf
  (cases env; dsimp only at hsc; subst hsc)
  (refine dn fun hG0 => ?_; obtain ⟨sg, kept, l1, l2, l3, l4, l5, l6, l7, l8, hat, hTB, hC, hM0, hMk, hMA, hKR, hrd, hst, hsgl⟩ := J.h; refine hG0 ?_; clear hG0)
  have hkl : kept.length ≤ 1000 := by
    have := readF_len fresh sg
    rw [hrd] at this
    have h9 := hat.le
    simp only at this
    (first | lia | omega)
  (refine dn fun hG0 => ?_; obtain ⟨pre0, c0, co0, b0, p0, S0, hpos0⟩ := id hat; refine hG0 ?_; clear hG0)
  (refine dn fun hG0 => ?_; obtain ⟨es0, hE0, _⟩ := S0.hE; refine hG0 ?_; clear hG0)
  refine EX_cut (R := fun l' m' => l' = l ∧ ∃ q sv, m q = none ∧ m' = setM (setM m q (.lst [])) T (.inst 762 8 (tblF (tkC g lf sv Cm q)))) ?_ ?_
  · rcases hTB with ⟨sv, hU⟩ | ⟨sv, q0, hU⟩
    · unfold tk7 at hU
      (refine E1_AssignAttr ?_ rfl; refine EV_list ?_; refine AR_nil ?_)
      refine ⟨by simp, fun q hq => ?_⟩
      (refine EV_local hE (by kernel_rfl) l1 ?_; refine SA_tbl (setM_old hq hU) (sok (by kernel_rfl)) (.inr rfl) (by decide) (pS (pS (pS (pS (pS (pS (pS pN))))))) ?_)
      exact ⟨rfl, rfl, q, sv, hq, rfl⟩
    · unfold tkC at hU
      (refine E1_AssignAttr ?_ rfl; refine EV_list ?_; refine AR_nil ?_)
      refine ⟨by simp, fun q hq => ?_⟩
      (refine EV_local hE (by kernel_rfl) l1 ?_; refine SA_tbl (setM_old hq hU) (sok (by kernel_rfl)) (.inl ⟨(by kernel_rfl), rfl⟩) (by decide) (pS (pS (pS (pS (pS (pS (pS pH))))))) ?_)
      exact ⟨rfl, rfl, q, sv, hq, rfl⟩
  (intro l _ hq0; refine dn fun hG0 => ?_; rcases hq0 with ⟨rfl, q, sv, hq, rfl⟩ <;> refine hG0 ?_ <;> clear hG0)
  have hT0 : ∃ k f, m T = some (.inst 762 k f) := by
    rcases hTB with ⟨sv, hT⟩ | ⟨sv, q0, hT⟩
    · exact ⟨_, _, hT⟩
    · exact ⟨_, _, hT⟩
  (refine dn fun hG0 => ?_; obtain ⟨kT, fT, hT0⟩ := hT0; refine hG0 ?_; clear hG0)
  have tnS : T ≠ g.S := fun z => by rw [z, S0.hS] at hT0; cases hT0
  have tnX : T ≠ g.X := fun z => by rw [z, S0.hX] at hT0; cases hT0
  have tnE : T ≠ g.E := fun z => by rw [z, hE0] at hT0; cases hT0
  have tnQ : T ≠ g.Q := fun z => by rw [z, S0.hQ] at hT0; cases hT0
  have tnC : T ≠ Cm := fun z => by rw [z, hC] at hT0; cases hT0
  have nq : ∀ a o, m a = some o → a ≠ q := fun a o e z => by rw [z, hq] at e; cases e
  have h1 : CAt (setM (setM m q (.lst [])) T (.inst 762 8 (tblF (tkC g lf sv Cm q)))) g T q lf Cm p 0 sv (held ++ kept) [] false [] :=
    ⟨hat.off ((setM_ne _ _ tnS.symm).trans (setM_ne _ _ (nq _ _ S0.hS))) ((setM_ne _ _ tnX.symm).trans (setM_ne _ _ (nq _ _ S0.hX))) ((setM_ne _ _ tnE.symm).trans (setM_ne _ _ (nq _ _ hE0))) ((setM_ne _ _ tnQ.symm).trans (setM_ne _ _ (nq _ _ S0.hQ))),
      setM_same _ _ _, (setM_ne _ _ tnC.symm).trans ((setM_ne _ _ (nq _ _ hC)).trans hC), (setM_ne _ _ (nq _ _ hT0).symm).trans (setM_same _ _ _), .nil, (nq _ _ hE0).symm⟩
  have k1 : ∀ a o, a ≠ T → m a = some o → setM (setM m q (.lst [])) T (.inst 762 8 (tblF (tkC g lf sv Cm q))) a = some o := fun a o h e => (setM_ne _ _ h).trans (setM_old hq e)
  generalize setM (setM m q (.lst [])) T (.inst 762 8 (tblF (tkC g lf sv Cm q))) = m1 at h1 k1 ⊢
  refine EX_cut (R := fun l' m' => l' = l ∧ m' = setM m1 T (.inst 762 8 (tblF (tkC g lf .none Cm q)))) ?_ ?_
  · have hT1 := h1.hT
    (refine E1_AssignAttr ?_ rfl; refine EV_none ?_; refine EV_local hE (by kernel_rfl) l1 ?_; refine SA_tbl hT1 (sok (by kernel_rfl)) (.inl ⟨(by kernel_rfl), rfl⟩) (by decide) pck4 ?_)
    exact ⟨rfl, rfl, rfl⟩
  (intro l _ hq0; refine dn fun hG0 => ?_; rcases hq0 with ⟨rfl, rfl⟩ <;> refine hG0 ?_ <;> clear hG0)
  have h2 := h1.set .none
  have k2 : ∀ a o, a ≠ T → m a = some o → setM m1 T (.inst 762 8 (tblF (tkC g lf .none Cm q))) a = some o := fun a o h e => (setM_ne _ _ h).trans (k1 _ _ h e)
  generalize setM m1 T (.inst 762 8 (tblF (tkC g lf .none Cm q))) = m2 at h2 k2 ⊢
  refine EX_cut (R := fun l' m' => l' = setL l "fine" (.bool true) ∧ CrAt m2 m' g T q lf Cm (cmS st g (WT' g) p (held ++ kept))) ?_ ?_
  · (refine E1_AssignName ?_ rfl; refine EV_ncall ?_; refine EV_gref (a := 837) hE (by kernel_rfl) (by kernel_rfl) ?_; refine CW_go0 (KeepOk.rf (by kernel_rfl)) ?_; refine AR_cons ?_; refine EV_local hE (by kernel_rfl) l1 ?_; refine AR_cons ?_; refine EV_local hE (by kernel_rfl) l5 ?_; refine AR_nil ?_)
    refine CA_CL ((c_call5 hP (n := n) hst h2 (by rw [List.length_append]; (first | lia | omega))).mono ?_) (by (first | lia | omega))
    (refine el1 ?_; intro m3 hcr)
    refine ST_local hE (by kernel_rfl) ?_
    exact ⟨rfl, rfl, hcr⟩
  (intro _ m3 hq0; refine dn fun hG0 => ?_; rcases hq0 with ⟨rfl, hcr⟩ <;> refine hG0 ?_ <;> clear hG0)
  obtain ⟨e, sv3, c3, errs, fin, us, h3, kc3, hpe, hew, hc⟩ : ∃ e sv3 c3 errs fin us, CAt m3 g T q lf Cm e 0 sv3 c3 errs fin us ∧ KC g T q Cm m2 m3 ∧ p ≤ e ∧ e ≤ (WT' g).length ∧
      ((p < e ∧ ∃ st' kept', readF fresh (sg ++ ((WT' g).take e).drop p) = (st', kept') ∧ st' ≤ 6 ∧ c3 = held ++ kept' ∧ errs = fltL fresh sg (((WT' g).take e).drop p) ∧ fin = decide (st' = 6) ∧ (sv3 = .none ∧ st' = st ∨ (∃ z, sv3 = .ref z) ∧ st' ≠ st)) ∨
      (p = (WT' g).length ∧ e = (WT' g).length ∧ readF fresh sg = (st, kept) ∧ ∃ s, cutL[st]? = some s ∧ c3 = held ++ kept ∧ errs = [s] ∧ fin = true ∧ ∃ z, sv3 = .ref z)) := by
    by_cases hp : p < (WT' g).length
    · (refine dn fun hG0 => ?_; obtain ⟨e, st', kept', g1, g2, g3, g4, g5⟩ := cm_step (held := held) hrd hst hp; refine hG0 ?_; clear hG0)
      rw [g5] at hcr
      (refine dn fun hG0 => ?_; obtain ⟨sv3, us, h3, kc3, hs⟩ := hcr; refine hG0 ?_; clear hG0)
      refine ⟨e, sv3, _, _, _, us, h3, kc3, by (first | lia | omega), g2, .inl ⟨g1, st', kept', g3, g4, rfl, rfl, rfl, ?_⟩⟩
      rcases hs with ⟨a1, a2⟩ | ⟨a1, a2⟩
      · exact .inl ⟨a1, of_decide_eq_true a2⟩
      · exact .inr ⟨a1, of_decide_eq_false a2⟩
    · have hpl : p = (WT' g).length := Nat.le_antisymm hat.le (by (first | lia | omega))
      (refine dn fun hG0 => ?_; obtain ⟨s, g1, g2⟩ := cm_end (g := g) (c := held ++ kept) hst (p := p) (List.getElem?_eq_none (by (first | lia | omega))); refine hG0 ?_; clear hG0)
      rw [g2] at hcr
      (refine dn fun hG0 => ?_; obtain ⟨sv3, us, h3, kc3, hs⟩ := hcr; refine hG0 ?_; clear hG0)
      refine ⟨p, sv3, _, _, _, us, h3, kc3, by (first | lia | omega), by (first | lia | omega), .inr ⟨hpl, hpl, hrd, s, g1, rfl, rfl, rfl, ?_⟩⟩
      rcases hs with ⟨a1, a2⟩ | ⟨a1, a2⟩
      · cases a2
      · exact a1
  have hMk3 : m3 Mk = some (.lst (bs.map .ref)) := by
    have n1 : Mk ≠ g.S := fun z => by rw [z, S0.hS] at hMk; cases hMk
    have n2 : Mk ≠ g.X := fun z => by rw [z, S0.hX] at hMk; cases hMk
    have n3 : Mk ≠ T := fun z => by rw [z, hT0] at hMk; cases hMk
    have n4 : Mk ≠ Cm := fun z => by rw [z, hC] at hMk; cases hMk
    exact kc3 _ _ n1 n2 hME n3 (nq _ _ hMk) n4 (k2 _ _ n3 hMk)
  have hMA3 : MkA (WT' g) m3 bs := hMA.keep fun a l e => h2.tups kc3 _ _ (k2 _ _ (fun z => by rw [z, hT0] at e; cases e) e)
  have hKR3 : KRun g T M0 m3 := fun a o x1 x2 x3 x4 e => by
    have e1 := hKR a o x1 x2 x3 x4 e
    exact kc3 _ _ x1 x2 x3 x4 (nq _ _ e1) (fun z => by rw [z, hM0] at e; cases e) (k2 _ _ x4 e1)
  refine EX_cut (R := fun l' m' => ∃ Pd, l' = setL (setL l "fine" (.bool true)) "at" (.ref Pd) ∧ m' Pd = some (.tup [.int (((WT' g).take e).count 10 + 1 : Nat) 0, .int (trail ((WT' g).take e) : Nat) 0]) ∧ ∀ a o, m3 a = some o → m' a = some o) ?_ ?_
  · have hT3 := h3.hT
    (refine dn fun hG0 => ?_; obtain ⟨pre3, c4, co3, b3, p3, S3, hpos3⟩ := id h3.hat; refine hG0 ?_; clear hG0)
    have hS3 := S3.hS
    unfold stT at hS3
    (refine E1_AssignName ?_ rfl; refine EV_mcall ?_; refine EVaf hE (by kernel_rfl) (sS l1) hT3 ckf0 (fok (by kernel_rfl)) ?_; refine GM_meth (g := 126) hS3 (stNo (by kernel_rfl)) (mok (by kernel_rfl)) ?_; refine CW_go1 (KeepOk.rf (by kernel_rfl)) ?_; refine AR_nil ?_)
    refine CA_CL ((c_position (n := n) h3.hat).mono ?_) (by (first | lia | omega))
    (intro v m4 hq0; refine dn fun hG0 => ?_; rcases hq0 with ⟨Pd, rfl, hPd, kp4⟩ <;> refine hG0 ?_ <;> clear hG0)
    refine ST_local hE (by kernel_rfl) ?_
    exact ⟨rfl, Pd, rfl, hPd, kp4⟩
  (intro _ m4 hq0; refine dn fun hG0 => ?_; rcases hq0 with ⟨Pd, rfl, hPd, kp4⟩ <;> refine hG0 ?_ <;> clear hG0)
  have hMk4 := kp4 _ _ hMk3
  have hMA4 : MkA (WT' g) m4 bs := hMA3.keep fun a l e => kp4 _ _ e
  (refine EX_cons ?_; refine E1_AssignName ?_ rfl; refine EV_local hE (by kernel_rfl) (sS (sS l4)) ?_; refine STn hE (by kernel_rfl) ?_)
  refine EX_cut (R := fun l' m' => l' = setL (setL (setL l "fine" (.bool true)) "at" (.ref Pd)) "end" (.int (e : Nat) 0) ∧ m' = m4) ?_ ?_
  · refine E1_While (I := fun kk l' m' => ∃ j : Nat, kk = e - j ∧ j ≤ e ∧ l' = setL (setL (setL l "fine" (.bool true)) "at" (.ref Pd)) "end" (.int (j : Nat) 0) ∧ m' = m4) _ ⟨p, rfl, hpe, rfl, rfl⟩ ?_
    rintro kk _ m4 ⟨j, rfl, hj, rfl, rfl⟩
    obtain ⟨b, hb'⟩ : ∃ b, bs[j]? = some b := ⟨_, List.getElem?_eq_getElem (by (first | lia | omega))⟩
    have hbm : (bs.map Value.ref)[j]? = some (.ref b) := by rw [List.getElem?_map, hb']; rfl
    have hpn := pos_ne (W := WT' g) (j := j) (e := e) (by (first | lia | omega)) hew
    obtain ⟨vs, hvs⟩ : ∃ vs, vs = bs.map Value.ref := ⟨_, rfl⟩
    rw [← hvs] at hbm hMk4
    refine TV_T (decide (j < e)) (fun m => m = m4) ?_ ?_
    · refine TV_boolop ?_
      (refine TAll_and ?_; refine TV_compare ?_; refine EV_local hE (by kernel_rfl) sH ?_; refine EV_ncall ?_; refine EV_builtinF (id := "len") hE (by kernel_rfl) (by kernel_rfl) (by kernel_rfl) ?_; refine CW_go0 (KeepOk.bf _) ?_; refine AR_cons ?_; refine EV_local hE (by kernel_rfl) (sS (sS (sS l2))) ?_; refine AR_nil ?_; (with_reducible refine CA_len_str ?_ ?_); rotate_left; (with_reducible refine O2_lt_int ?_); (with_reducible refine TR_bool ?_); rotate_left)
      · (first | lia | omega)
      (refine And.intro ?_ ?_ <;> intro hb <;> try (cases hb; done))
      · have hjl : j < (WT' g).length := by have := of_decide_eq_true hb; (first | lia | omega)
        (refine TAll_and ?_; refine TV_compare ?_; refine EV_sub ?_; refine EV_local hE (by kernel_rfl) (sS (sS (sS l3))) ?_; refine EV_local hE (by kernel_rfl) sH ?_)
        refine SUB_list (.lst hMk4) (by (first | lia | omega)) (by (first | lia | omega)) (x := .ref b) (by rw [Int.toNat_natCast]; exact hbm) ?_
        refine EV_local hE (by kernel_rfl) (sS sH) ?_
        refine O2_ne_pos (.tup (hMA4 _ _ hb')) (.tup hPd) (by (first | lia | omega)) ?_
        rw [hpn]
        have hdd : (!decide (j = e)) = decide (j < e) := by
          by_cases h9 : j = e
          · simp [h9]
          · have : j < e := by (first | lia | omega)
            simp [h9, this]
        rw [hdd]
        by_cases h9 : j < e
        · rw [decide_eq_true h9]
          ((with_reducible refine TR_bool ?_); (refine And.intro ?_ ?_ <;> intro hb <;> try (cases hb; done)); refine TAll_and_nil ?_)
          exact ⟨rfl, rfl, rfl⟩
        · rw [decide_eq_false h9]
          ((with_reducible refine TR_bool ?_); (refine And.intro ?_ ?_ <;> intro hb <;> try (cases hb; done)))
          exact ⟨rfl, rfl, rfl⟩
      · have hjl : ¬ j < (WT' g).length := by have := of_decide_eq_false hb; (first | lia | omega)
        exact ⟨(decide_eq_false (by (first | lia | omega))).symm, rfl, rfl⟩
    rintro m5 rfl
    refine ⟨fun ht => ?_, fun ht => ?_⟩
    · have hlt : j < e := of_decide_eq_true ht
      (refine EX_cons ?_; refine E1_AugLocal hE (by kernel_rfl) sH ?_; refine EV_int ?_; (with_reducible refine O2_iadd_int ?_); refine STn hE (by kernel_rfl) ?_; refine EX_nil ?_)
      rw [show ((j : Nat) : Int) + 1 = ((j + 1 : Nat) : Int) by (first | lia | omega)]
      exact ⟨e - (j + 1), by (first | lia | omega), j + 1, rfl, by (first | lia | omega), setL_setL _ _ _ _, rfl⟩
    · have hge : j = e := by have := of_decide_eq_false ht; (first | lia | omega)
      rw [hge]
      exact ⟨rfl, rfl, rfl⟩
  (intro _ m4 hq0; refine dn fun hG0 => ?_; rcases hq0 with ⟨rfl, rfl⟩ <;> refine hG0 ?_ <;> clear hG0)
  refine EX_cons (E1_IfT false (fun m => m = m4) ?_ (fun h => by cases h) ?_)
  · obtain ⟨b, hb'⟩ : ∃ b, bs[e]? = some b := ⟨_, List.getElem?_eq_getElem (by (first | lia | omega))⟩
    have hbm : (bs.map Value.ref)[e]? = some (.ref b) := by rw [List.getElem?_map, hb']; rfl
    have hpn := pos_ne (W := WT' g) (j := e) (e := e) hew hew
    obtain ⟨vs, hvs⟩ : ∃ vs, vs = bs.map Value.ref := ⟨_, rfl⟩
    rw [← hvs] at hbm hMk4
    (refine TV_boolop ?_; refine TAll_or ?_; refine TV_compare ?_; refine EV_local hE (by kernel_rfl) (sS (sS sH)) ?_; refine EV_bool ?_; (with_reducible refine O2_isnot_bool ?_); (with_reducible refine TR_bool ?_); (refine And.intro ?_ ?_ <;> intro hb <;> try (cases hb; done)); refine TAll_or ?_; refine TV_compare ?_; refine EV_sub ?_; refine EV_local hE (by kernel_rfl) (sS (sS (sS l3))) ?_; refine EV_local hE (by kernel_rfl) sH ?_)
    refine SUB_list (.lst hMk4) (by (first | lia | omega)) (by (first | lia | omega)) (x := .ref b) (by rw [Int.toNat_natCast]; exact hbm) ?_
    refine EV_local hE (by kernel_rfl) (sS sH) ?_
    refine O2_ne_pos (.tup (hMA4 _ _ hb')) (.tup hPd) (by (first | lia | omega)) ?_
    rw [hpn, decide_eq_true (rfl : e = e)]
    ((with_reducible refine TR_bool ?_); (refine And.intro ?_ ?_ <;> intro hb <;> try (cases hb; done)); refine TAll_or_nil ?_)
    exact ⟨rfl, rfl, rfl⟩
  rintro - m5 rfl
  refine EX_nil ?_
  refine seq_next ?_
  refine mid _ _ m5 q kept sg c3 fin e sv3 errs us ?_ ?_ ?_ ?_ ?_ ?_ ?_ ?_ ?_ hst hsgl (h3.grow kp4) hM0 (kp4 _ _ hMk3) hMA4 (fun a o x1 x2 x3 x4 e => kp4 _ _ (hKR3 a o x1 x2 x3 x4 e)) hpe hew hc <;> (first | (exact (sS (sS (sS l1)))) | (exact (sS (sS (sS l2)))) | (exact (sS (sS (sS l3)))) | (exact (sS (sS (sS l4)))) | (exact (sS (sS (sS l5)))) | (exact (sS (sS (sS l6)))) | (exact (sS (sS (sS l7)))) | (exact (sS (sS (sS l8)))) | (exact sH))
end
end Mine
end
section
open PySem PySem.W PyProof.Rows
set_option maxRecDepth 100000
set_option maxHeartbeats 4000000
set_option linter.unusedVariables false
namespace Mine
theorem vs6 {vs : List Value} {a b c d f h : Value} (e : vs.map er = [a, b, c, d, f, h]) : ∃ v w u z y x, vs = [v, w, u, z, y, x] ∧ er v = a ∧ er w = b ∧ er u = c ∧ er z = d ∧ er y = f ∧ er x = h := by
  obtain ⟨v, r, rfl, h1, h2⟩ := List.map_eq_cons_iff.mp e
  obtain ⟨w, r2, rfl, h3, h4⟩ := List.map_eq_cons_iff.mp h2
  obtain ⟨u, z, y, x, rfl, h5⟩ := vs4 h4
  exact ⟨v, w, u, z, y, x, rfl, h1, h3, h5⟩
theorem bindL6 (a b c d e f : Str) (v w u z y x : Value) : bindL [(a, v), (b, w), (c, u), (d, z), (e, y), (f, x)] = setL (setL (setL (setL (setL (setL (fun _ => none) a v) b w) c u) d z) e y) f x := by
  rw [← bindL5]; exact bindL_snoc [(a, v), (b, w), (c, u), (d, z), (e, y)] f x
section
variable {Z : Cz} {P : Params}
theorem c_run (hP : P = Z.cx.w.params) {n : Nat} {M : Mem} {g : G} {T lf Mk : Addr} {bs : List Addr} {held : List Nat} {p st : Nat} (hgl : (WT' g).length ≤ 200) (hhl : held.length ≤ 10) (hbl : bs.length = (WT' g).length + 1) (hME : Mk ≠ g.E) (hst : st < 6)
    (hat : SAt M g p 0) (hTB : TB0 g T lf M) (hMk : M Mk = some (.lst (bs.map .ref))) (hMA : MkA (WT' g) M bs) :
    CL Z.cx (n + 10) (.ref 842) [.ref T, .str (mkS (WT' g)) 0, .ref Mk, .int (p : Nat) 0, .int (st : Nat) 0, .str (mkS held) 0] (fun v m => ∃ r : Nat, v = .int (r : Nat) 0 ∧ p < r ∧ KRun g T M m ∧ (r = (WT' g).length + 1 ∨ r ≤ (WT' g).length ∧ SAt m g r 0 ∧ TB0 g T lf m)) M := by
  refine CL_fn (binds := [("t", .ref T), ("whole", .str (mkS (WT' g)) 0), ("marks", .ref Mk), ("place", .int (p : Nat) 0), ("state", .int (st : Nat) 0), ("held", .str (mkS held) 0)]) (by rfl) (by kernel_rfl) ?_ (by kernel_rfl) ?_
  · intro vs e
    obtain ⟨v1, v2, v3, v4, v5, v6, rfl, e1, e2, e3, e4, e5, e6⟩ := vs6 e
    exact ⟨[("t", v1), ("whole", v2), ("marks", v3), ("place", v4), ("state", v5), ("held", v6)], fun s hx => kp_binds hx (fun S => rfl), by simp [e1, e2, e3, e4, e5, e6]⟩
  · intro fz L env hE he; subst he
    rw [bindL6]
    have hTT := (top_types (Z := Z)) hP
    (refine dn fun hG0 => ?_; obtain ⟨sg, hsg, hrd⟩ := readF_start hst; refine hG0 ?_; clear hG0)
    have hsl : sg.length ≤ 10 := by
      have h1 : ∀ s ∈ behindL, s.length ≤ 10 := by decide
      exact h1 _ (List.mem_of_getElem? hsg)
    refine EX_cut (R := fun l m => ∃ l0, l = setL (setL l0 "signs" (.str (mkS sg) 0)) "fresh" (.bool (decide (st < 2))) ∧ l0 = setL (setL (setL (setL (setL (setL (fun _ => none) "t" (.ref T)) "whole" (.str (mkS (WT' g)) 0)) "marks" (.ref Mk)) "place" (.int (p : Nat) 0)) "state" (.int (st : Nat) 0)) "held" (.str (mkS held) 0) ∧ ∀ a o, M a = some o → m a = some o) ?_ ?_
    · refine E1_AssignSwap "fresh" "signs" hE ((by kernel_rfl)) ((by kernel_rfl)) ?_ (by rfl) (by rfl)
      (refine EV_tuple ?_; refine AR_cons ?_; refine EV_compare ?_; refine EV_local hE (by kernel_rfl) (sS sH) ?_; refine EV_int ?_; (with_reducible refine O2_lt_int ?_); refine AR_cons ?_; refine EV_sub ?_; refine EV_ncall ?_; refine EV_gref (a := 781) hE (by kernel_rfl) (by kernel_rfl) ?_; refine CW_go0 (KeepOk.rf (by kernel_rfl)) ?_; refine AR_nil ?_)
      refine CA_CL ((c_behind (n := n)).mono ?_) (by (first | lia | omega))
      (intro v m1 hq0; refine dn fun hG0 => ?_; rcases hq0 with ⟨D0, hD0, rfl, rfl⟩ <;> refine hG0 ?_ <;> clear hG0)
      refine EV_local hE (by kernel_rfl) (sS sH) ?_
      refine SUB_list (.lst (setM_same _ _ _)) (by (first | lia | omega)) (by (first | lia | omega)) (x := .str (mkS sg) 0) ?_ ?_
      · unfold strsV; rw [List.getElem?_map, Int.toNat_natCast, hsg]; rfl
      refine AR_nil ?_
      refine ⟨by simp, fun D hD => ?_⟩
      refine ⟨D, _, _, rfl, .tup (setM_same _ _ _), ?_⟩
      skip
      refine ⟨rfl, _, ?_, rfl, fun a o e => setM_old hD (setM_old hD0 e)⟩
      rw [show (decide ((st : Int) < 2)) = decide (st < 2) by simp; (first | lia | omega)]
    (intro _ m1 hq0; refine dn fun hG0 => ?_; rcases hq0 with ⟨l0, rfl, hl0, kp1⟩ <;> refine hG0 ?_ <;> clear hG0)
    (refine dn fun hG0 => ?_; obtain ⟨pre0, c0, co0, b0, p0, S0, hpos0⟩ := id hat; refine hG0 ?_; clear hG0)
    (refine dn fun hG0 => ?_; obtain ⟨es0, hE0, _⟩ := S0.hE; refine hG0 ?_; clear hG0)
    have hT0 : ∃ k f, M T = some (.inst 762 k f) := by
      rcases hTB with ⟨sv, ct, hT⟩ | ⟨sv, Cm, q0, hT⟩
      · exact ⟨_, _, hT⟩
      · exact ⟨_, _, hT⟩
    (refine dn fun hG0 => ?_; obtain ⟨kT, fT, hT0⟩ := hT0; refine hG0 ?_; clear hG0)
    have tnS : g.S ≠ T := fun z => by rw [← z, S0.hS] at hT0; cases hT0
    have tnX : g.X ≠ T := fun z => by rw [← z, S0.hX] at hT0; cases hT0
    have tnE : g.E ≠ T := fun z => by rw [← z, hE0] at hT0; cases hT0
    have tnQ : g.Q ≠ T := fun z => by rw [← z, S0.hQ] at hT0; cases hT0
    have tnM : Mk ≠ T := fun z => by rw [← z, hMk] at hT0; cases hT0
    refine EX_cut (R := fun l m => l = setL (setL l0 "signs" (.str (mkS sg) 0)) "fresh" (.bool (decide (st < 2))) ∧ ∃ Cm, M Cm = none ∧ TB g T lf Cm m ∧ m Cm = some (.dct (cmD held)) ∧ ∀ a o, a ≠ T → M a = some o → m a = some o) ?_ ?_
    · have a1 : setL (setL l0 "signs" (.str (mkS sg) 0)) "fresh" (.bool (decide (st < 2))) "t" = some (.ref T) := by rw [hl0]; exact (sS (sS (sS (sS (sS (sS (sS sH)))))))
      have a2 : setL (setL l0 "signs" (.str (mkS sg) 0)) "fresh" (.bool (decide (st < 2))) "held" = some (.str (mkS held) 0) := by rw [hl0]; exact (sS (sS sH))
      generalize setL (setL l0 "signs" (.str (mkS sg) 0)) "fresh" (.bool (decide (st < 2))) = l1 at a1 a2 ⊢
      rcases hTB with ⟨sv, ct, hT⟩ | ⟨sv, Cm0, q0, hT⟩
      · have hU1 := kp1 _ _ hT
        unfold tk7 at hU1
        (refine E1_AssignAttr ?_ rfl; (refine EV_dict2K ?_; intro D hD); refine EV_sub ?_; refine EV_gref (a := 48) hE (by kernel_rfl) (by kernel_rfl) ?_; refine EV_str (l := [67, 111, 109, 109, 101, 110, 116]) (by kernel_rfl) ?_; refine SUB_dictT (.inr hTT) (tS (tS (tS (tS (tS (tS tE)))))) ?_; refine EV_local hE (by kernel_rfl) a2 ?_; refine ⟨rfl, ?_⟩; refine EV_local hE (by kernel_rfl) a1 ?_; refine SA_tbl (setM_old hD hU1) (sok (by kernel_rfl)) (.inl ⟨(by kernel_rfl), rfl⟩) (by decide) (pS (pS (pS (pS (pS (pS pH)))))) ?_)
        have hMD : M D = none := by
          cases q9 : M D with
          | none => rfl
          | some o => rw [kp1 _ _ q9] at hD; cases hD
        have hDT : D ≠ T := fun z => by rw [z, hU1] at hD; cases hD
        exact ⟨rfl, rfl, D, hMD, .inl ⟨sv, setM_same _ _ _⟩, (setM_ne _ _ hDT).trans (setM_same _ _ _), fun a o h e => (setM_ne _ _ h).trans (setM_old hD (kp1 _ _ e))⟩
      · have hU1 := kp1 _ _ hT
        unfold tkC at hU1
        (refine E1_AssignAttr ?_ rfl; (refine EV_dict2K ?_; intro D hD); refine EV_sub ?_; refine EV_gref (a := 48) hE (by kernel_rfl) (by kernel_rfl) ?_; refine EV_str (l := [67, 111, 109, 109, 101, 110, 116]) (by kernel_rfl) ?_; refine SUB_dictT (.inr hTT) (tS (tS (tS (tS (tS (tS tE)))))) ?_; refine EV_local hE (by kernel_rfl) a2 ?_; refine ⟨rfl, ?_⟩; refine EV_local hE (by kernel_rfl) a1 ?_; refine SA_tbl (setM_old hD hU1) (sok (by kernel_rfl)) (.inl ⟨(by kernel_rfl), rfl⟩) (by decide) (pS (pS (pS (pS (pS (pS pH)))))) ?_)
        have hMD : M D = none := by
          cases q9 : M D with
          | none => rfl
          | some o => rw [kp1 _ _ q9] at hD; cases hD
        have hDT : D ≠ T := fun z => by rw [z, hU1] at hD; cases hD
        exact ⟨rfl, rfl, D, hMD, .inr ⟨sv, q0, setM_same _ _ _⟩, (setM_ne _ _ hDT).trans (setM_same _ _ _), fun a o h e => (setM_ne _ _ h).trans (setM_old hD (kp1 _ _ e))⟩
    (intro _ m2 hq0; refine dn fun hG0 => ?_; rcases hq0 with ⟨rfl, Cm, hMC, hTB2, hC2, kp2⟩ <;> refine hG0 ?_ <;> clear hG0)
    have hat2 : SAt m2 g p 0 := hat.off ((kp2 _ _ tnS S0.hS).trans S0.hS.symm) ((kp2 _ _ tnX S0.hX).trans S0.hX.symm) ((kp2 _ _ tnE hE0).trans hE0.symm) ((kp2 _ _ tnQ S0.hQ).trans S0.hQ.symm)
    have J0 : JR (setL (setL l0 "signs" (.str (mkS sg) 0)) "fresh" (.bool (decide (st < 2)))) m2 M g T lf Cm Mk bs held (decide (st < 2)) p st := by
      subst hl0
      exact ⟨sg, [], by exact (sS (sS (sS (sS (sS (sS (sS sH))))))), by exact (sS (sS (sS (sS (sS (sS sH)))))), by exact (sS (sS (sS (sS (sS sH))))), by exact (sS (sS (sS (sS sH)))), by exact (sS (sS (sS sH))), by exact (sS (sS sH)), by exact sH, by exact (sS sH), hat2, hTB2, by rw [List.append_nil]; exact hC2, hMC, kp2 _ _ tnM hMk, hMA.keep fun a l e => kp2 _ _ (fun z => by rw [z, hT0] at e; cases e) e, fun a o x1 x2 x3 x4 e => kp2 _ _ x4 e, hrd, hst, by (first | lia | omega)⟩
    clear hl0
    generalize setL (setL l0 "signs" (.str (mkS sg) 0)) "fresh" (.bool (decide (st < 2))) = l1 at J0 ⊢
    refine EX_cons (E1_While (I := fun kk l m => ∃ p' st', kk = (WT' g).length + 1 - p' ∧ p ≤ p' ∧ JR l m M g T lf Cm Mk bs held (decide (st < 2)) p' st') _ ⟨p, st, rfl, Nat.le_refl _, J0⟩ ?_)
    rintro kk l m ⟨p', st', rfl, hpp, J⟩
    have hple : p' ≤ (WT' g).length := by refine dn fun hG0 => ?_; obtain ⟨_, _, _, _, _, _, _, _, _, _, hq, _⟩ := J.h; refine hG0 ?_; clear hG0; exact hq.le
    refine TV_T true (fun m' => m' = m) ?_ ?_
    · (refine TV_value ?_; refine EV_bool ?_; (with_reducible refine TR_bool ?_))
      exact ⟨rfl, rfl, rfl⟩
    rintro m rfl
    refine ⟨fun _ => ?_, fun h => by cases h⟩
    refine WT.mono (run_turn (n := n) hP hE (by rfl) hgl hhl hbl hME J) fun f l m q => ?_
    show loopQ _ _ (erF f) l m
    have q' : TQ M g T lf Cm Mk bs held (decide (st < 2)) p' (erF f) l m := q
    rcases q' with ⟨hf, p2, st2, hlt, J2⟩ | ⟨r, hf, hlt, kr, hr⟩
    · rw [hf]
      exact ⟨(WT' g).length + 1 - p2, by (first | lia | omega), p2, st2, rfl, by (first | lia | omega), J2⟩
    · rw [hf]
      exact ⟨r, rfl, by (first | lia | omega), kr, hr⟩
end
end Mine
end
section
open PySem PySem.W PyProof.Rows
set_option maxRecDepth 100000
set_option maxHeartbeats 8000000
set_option linter.unusedVariables false
namespace Mine
noncomputable def signsL : List (List Nat) := ["-", "a", "--", "!", ">", "\x00", "-", "\r", "-!", "\n", "b <", "\r\n", "->"].map fun s => s.toList.map (·.toNat)
section
variable {Z : Cz} {P : Params}
theorem top_lst {a : Addr} {d : Option Addr} {us : Array Value} {n : Nat} {sl} {xs : List Value} (h : Z.cx.K.lookup a = some ⟨.type "list", d, .seq us n, sl⟩) (e : us.toList.map er = xs) : ReadO Z.cx Z.cx.T a (.lst xs) :=
  ⟨us, ⟨_, Z.cx.X _ _ h, rfl, n, rfl⟩, e⟩
theorem top_signs : ReadO Z.cx Z.cx.T 767 (.lst (strsV signsL)) :=
  top_lst (by rfl) (by kernel_rfl)
theorem law_end (hP : P = Z.cx.w.params) {fz : Frz} {L : Addr} {env : Env} (hE : Fun env L) (hsc : env.scope = scopeAt (KP P) 847) {l : Loc} {m : Mem} {g : G} {T lf Mk : Addr} {bs : List Addr} {hd : Int}
    (l1 : l "t" = some (.ref T)) (l2 : l "whole" = some (.str (mkS (WT' g)) 0)) (l3 : l "marks" = some (.ref Mk)) (l4 : l "place" = some (.int 0 0)) (l5 : l "run" = some (.int 0 0)) (l6 : l "head" = some (.int hd 0))
    (hgl : (WT' g).length ≤ 200) (hbl : bs.length = (WT' g).length + 1) (hME : Mk ≠ g.E) (hat : SAt m g 0 0) (hTB : TB0 g T lf m) (hMk : m Mk = some (.lst (bs.map .ref))) (hMA : MkA (WT' g) m bs) :
    EX Z.cx 20 fz L env ((bodyAt (KP P) 847).drop 7) (fun f l m => retOf f = .bool true) l m := by
  conv => arg 6; whnf
  (cases env; dsimp only at hsc; subst hsc)
  refine EX_cut (R := fun l' m' => l' "whole" = some (.str (mkS (WT' g)) 0) ∧ l' "place" = some (.int (((WT' g).length + 1 : Nat) : Int) 0)) ?_ ?_
  · refine E1_While (I := fun kk l' m' => ∃ (r : Nat) (jv : Int), kk = (WT' g).length + 1 - r ∧ l' "t" = some (.ref T) ∧ l' "whole" = some (.str (mkS (WT' g)) 0) ∧ l' "marks" = some (.ref Mk) ∧ l' "place" = some (.int (r : Nat) 0) ∧ l' "run" = some (.int jv 0) ∧ l' "head" = some (.int hd 0) ∧
      (r = (WT' g).length + 1 ∨ r ≤ (WT' g).length ∧ SAt m' g r 0 ∧ TB0 g T lf m' ∧ m' Mk = some (.lst (bs.map .ref)) ∧ MkA (WT' g) m' bs)) _
      ⟨0, 0, rfl, l1, l2, l3, l4, l5, l6, .inr ⟨Nat.zero_le _, hat, hTB, hMk, hMA⟩⟩ ?_
    rintro kk l' m' ⟨r, jv, rfl, a1, a2, a3, a4, a5, a6, hr⟩
    refine TV_T (decide (r ≤ (WT' g).length)) (fun m => m = m') ?_ ?_
    · have hrl : r ≤ 16777216 := by (first | lia | omega)
      refine TV_chain2 ?_
      (refine EV_int ?_; refine EV_local hE (by kernel_rfl) a4 ?_; (with_reducible refine O2_le_int ?_); (with_reducible refine TR_bool ?_))
      have h0 : (0 : Int) ≤ (r : Int) := by (first | lia | omega)
      rw [decide_eq_true h0]
      (refine And.intro ?_ ?_ <;> intro hb <;> try (cases hb; done))
      (refine EV_ncall ?_; refine EV_builtinF (id := "len") hE (by kernel_rfl) (by kernel_rfl) (by kernel_rfl) ?_; refine CW_go0 (KeepOk.bf _) ?_; refine AR_cons ?_; refine EV_local hE (by kernel_rfl) a2 ?_; refine AR_nil ?_; (with_reducible refine CA_len_str ?_ ?_); rotate_left; (with_reducible refine O2_le_int ?_); (with_reducible refine TR_bool ?_); rotate_left)
      · (first | lia | omega)
      exact ⟨by rw [decide_eq_decide]; (first | lia | omega), rfl, rfl⟩
    rintro m2 rfl
    refine ⟨fun ht => ?_, fun ht => ?_⟩
    · have hle : r ≤ (WT' g).length := of_decide_eq_true ht
      rcases hr with hr | ⟨-, hat, hTB, hMk, hMA⟩
      · (first | lia | omega)
      obtain ⟨st, hst, hst6⟩ : ∃ st : Nat, (hd + 5 * jv).fmod 6 = (st : Int) ∧ st < 6 := by
        have b0 := Int.fmod_nonneg_of_pos (hd + 5 * jv) (show (0 : Int) < 6 by decide)
        have b1 := Int.fmod_lt_of_pos (hd + 5 * jv) (show (0 : Int) < 6 by decide)
        exact ⟨((hd + 5 * jv).fmod 6).toNat, by (first | lia | omega), by (first | lia | omega)⟩
      obtain ⟨hi, hhi, hhi4⟩ : ∃ hi : Nat, (hd.fdiv 6 + jv).fmod 4 = (hi : Int) ∧ hi < 4 := by
        have b0 := Int.fmod_nonneg_of_pos (hd.fdiv 6 + jv) (show (0 : Int) < 4 by decide)
        have b1 := Int.fmod_lt_of_pos (hd.fdiv 6 + jv) (show (0 : Int) < 4 by decide)
        exact ⟨((hd.fdiv 6 + jv).fmod 4).toNat, by (first | lia | omega), by (first | lia | omega)⟩
      obtain ⟨held, hhe⟩ : ∃ held, heldL[hi]? = some held := ⟨_, List.getElem?_eq_getElem (by show hi < 4; exact hhi4)⟩
      have hhl : held.length ≤ 10 := by
        have h1 : ∀ s ∈ heldL, s.length ≤ 10 := by decide
        exact h1 _ (List.mem_of_getElem? hhe)
      (refine EX_cons ?_; refine E1_AssignName ?_ rfl; refine EV_ncall ?_; refine EV_gref (a := 842) hE (by kernel_rfl) (by kernel_rfl) ?_; refine CW_go0 (KeepOk.rf (by kernel_rfl)) ?_; refine AR_cons ?_; refine EV_local hE (by kernel_rfl) a1 ?_; refine AR_cons ?_; refine EV_local hE (by kernel_rfl) a2 ?_; refine AR_cons ?_; refine EV_local hE (by kernel_rfl) a3 ?_; refine AR_cons ?_; refine EV_local hE (by kernel_rfl) a4 ?_; refine AR_cons ?_; refine EV_binop ?_; refine EV_binop ?_; refine EV_local hE (by kernel_rfl) a6 ?_; refine EV_binop ?_; refine EV_int ?_; refine EV_local hE (by kernel_rfl) a5 ?_)
      refine O2_mul_int (IntMulOk.of_left (by decide +kernel)) ?_
      ((with_reducible refine O2_add_int ?_); refine EV_int ?_; refine O2_mod_int (by decide) ?_; refine AR_cons ?_; refine EV_sub ?_; refine EV_ncall ?_; refine EV_gref (a := 774) hE (by kernel_rfl) (by kernel_rfl) ?_; refine CW_go0 (KeepOk.rf (by kernel_rfl)) ?_; refine AR_nil ?_)
      rw [hst]
      refine CA_CL ((c_held (n := 0)).mono ?_) (by (first | lia | omega))
      (intro v m1 hq0; refine dn fun hG0 => ?_; rcases hq0 with ⟨D0, hD0, rfl, rfl⟩ <;> refine hG0 ?_ <;> clear hG0)
      (refine EV_binop ?_; refine EV_binop ?_; refine EV_binop ?_; refine EV_local hE (by kernel_rfl) a6 ?_; refine EV_int ?_; refine O2_floordiv_int (by decide) ?_ (by exact PyProof.noPylong_of_log2 (by decide +kernel)); refine EV_local hE (by kernel_rfl) a5 ?_; (with_reducible refine O2_add_int ?_); refine EV_int ?_; refine O2_mod_int (by decide) ?_)
      rw [hhi]
      refine SUB_list (.lst (setM_same _ _ _)) (by (first | lia | omega)) (by (first | lia | omega)) (x := .str (mkS held) 0) ?_ ?_
      · unfold strsV; rw [List.getElem?_map, Int.toNat_natCast, hhe]; rfl
      have kp1 : ∀ a o, m2 a = some o → setM m2 D0 (.lst (strsV heldL)) a = some o := fun a o e => setM_old hD0 e
      generalize setM m2 D0 (.lst (strsV heldL)) = m3 at kp1 ⊢
      have hTB3 : TB0 g T lf m3 := by
        rcases hTB with ⟨sv, ct, h⟩ | ⟨sv, Cm, q, h⟩
        · exact .inl ⟨sv, ct, kp1 _ _ h⟩
        · exact .inr ⟨sv, Cm, q, kp1 _ _ h⟩
      (refine dn fun hG0 => ?_; obtain ⟨pre0, c0, co0, b0, p0, S0, hpos0, hbk0⟩ := id hat; refine hG0 ?_; clear hG0)
      have hat3 : SAt m3 g r 0 := ⟨pre0, c0, co0, b0, p0, S0.keep kp1, hpos0, hbk0⟩
      have hMk3 := kp1 _ _ hMk
      have hMA3 : MkA (WT' g) m3 bs := hMA.keep fun a l e => kp1 _ _ e
      refine AR_nil ?_
      refine CA_CL ((c_run hP (n := 0) hgl hhl hbl hME hst6 hat3 hTB3 hMk3 hMA3).mono ?_) (by (first | lia | omega))
      (intro v m4 hq0; refine dn fun hG0 => ?_; rcases hq0 with ⟨r', rfl, hrr, kr, hr'⟩ <;> refine hG0 ?_ <;> clear hG0)
      (refine STn hE (by kernel_rfl) ?_; refine EX_cons ?_; refine E1_AugLocal hE (by kernel_rfl) (sS a5) ?_; refine EV_int ?_; (with_reducible refine O2_iadd_int ?_); refine STn hE (by kernel_rfl) ?_; refine EX_nil ?_)
      refine ⟨(WT' g).length + 1 - r', by (first | lia | omega), r', jv + 1, rfl, by exact (sS (sS a1)), by exact (sS (sS a2)), by exact (sS (sS a3)), by exact (sS sH), by exact sH, by exact (sS (sS a6)), ?_⟩
      rcases hr' with hr' | ⟨hr1, hr2, hr3⟩
      · exact .inl hr'
      have S3 := S0.keep kp1
      (refine dn fun hG0 => ?_; obtain ⟨es3, hE3, _⟩ := S3.hE; refine hG0 ?_; clear hG0)
      have hT0 : ∃ k f, m3 T = some (.inst 762 k f) := by
        rcases hTB3 with ⟨sv, ct, hT⟩ | ⟨sv, Cm, q0, hT⟩
        · exact ⟨_, _, hT⟩
        · exact ⟨_, _, hT⟩
      (refine dn fun hG0 => ?_; obtain ⟨kT, fT, hT0⟩ := hT0; refine hG0 ?_; clear hG0)
      refine .inr ⟨hr1, hr2, hr3, kr _ _ (fun z => ?_) (fun z => ?_) hME (fun z => ?_) hMk3, hMA3.keep fun a l e => kr _ _ (fun z => ?_) (fun z => ?_) (fun z => ?_) (fun z => ?_) e⟩
      · rw [z, S3.hS] at hMk3; cases hMk3
      · rw [z, S3.hX] at hMk3; cases hMk3
      · rw [z, hT0] at hMk3; cases hMk3
      · rw [z, S3.hS] at e; cases e
      · rw [z, S3.hX] at e; cases e
      · rw [z, hE3] at e; cases e
      · rw [z, hT0] at e; cases e
    · have hgt : ¬ r ≤ (WT' g).length := of_decide_eq_false ht
      rcases hr with hr | hr
      · rw [hr] at a4
        exact ⟨rfl, a2, a4⟩
      · (first | lia | omega)
  rintro l' m' ⟨a2, a4⟩
  (refine EX_cons ?_; refine E1_Return ?_; refine EV_compare ?_; refine EV_local hE (by kernel_rfl) a4 ?_; refine EV_binop ?_; refine EV_ncall ?_; refine EV_builtinF (id := "len") hE (by kernel_rfl) (by kernel_rfl) (by kernel_rfl) ?_; refine CW_go0 (KeepOk.bf _) ?_; refine AR_cons ?_; refine EV_local hE (by kernel_rfl) a2 ?_; refine AR_nil ?_; (with_reducible refine CA_len_str ?_ ?_); rotate_left; refine EV_int ?_; (with_reducible refine O2_add_int ?_); (with_reducible refine O2_eq_int ?_); refine seq_ret ?_; rotate_left)
  · (first | lia | omega)
  skip
  show Value.bool (decide _) = _
  rw [decide_eq_true (by (first | lia | omega))]
end
end Mine
end
section
open PySem PySem.W PyProof.Rows
set_option maxRecDepth 100000
set_option maxHeartbeats 8000000
set_option linter.unusedVariables false
namespace Mine
section
variable {Z : Cz} {P : Params}
theorem law_body5 (hP : P = Z.cx.w.params) {fz : Frz} {L : Addr} {env : Env} {nm : Str} {fa : Addr} {cd : Value} {l : Addr} {ns : List Int} (he : env = envOf nm (scopeAt (KP P) 847) L fa cd) (hl : ReadO Z.cx Z.cx.T l (.lst (intsV ns))) (hn : ns.length ≤ 63) :
    EX Z.cx 20 fz L env (bodyAt (KP P) 847) (fun f l m => retOf f = .bool true) (setL (fun _ => none) "script" (.ref l)) (fun _ => none) := by
  have he0 := he
  conv at he => rhs; arg 2; whnf
  conv => arg 6; whnf
  have hE : Fun env L := by subst he; exact ⟨rfl, rfl, rfl, rfl⟩
  subst he
  refine EX_cut (R := fun l' m => ∃ hd : Int, l' = setL (setL (fun _ => none) "script" (.ref l)) "head" (.int hd 0) ∧ m = fun _ => none) ?_ ?_
  · refine E1_AssignName ?_ rfl
    (refine EV_ifexp ?_; refine TV_value ?_; refine EV_local hE (by kernel_rfl) sH ?_)
    refine TR_listR (.inr hl) (by unfold intsV; rw [List.length_map]; (first | lia | omega)) ?_
    (refine And.intro ?_ ?_ <;> intro hb <;> try (cases hb; done))
    · obtain ⟨a, r, rfl⟩ : ∃ a r, ns = a :: r := by
        cases ns with
        | nil => cases hb
        | cons a r => exact ⟨a, r, rfl⟩
      (refine EV_sub ?_; refine EV_local hE (by kernel_rfl) sH ?_; refine EV_int ?_)
      refine SUB_list (.inr hl) (by (first | lia | omega)) (by (first | lia | omega)) (x := .int a 0) rfl ?_
      refine ST_local hE (by kernel_rfl) ?_
      exact ⟨rfl, a, rfl, rfl⟩
    · (refine EV_int ?_; refine ST_local hE (by kernel_rfl) ?_)
      exact ⟨rfl, 0, rfl, rfl⟩
  (intro _ _ hq0; refine dn fun hG0 => ?_; rcases hq0 with ⟨hd, rfl, rfl⟩ <;> refine hG0 ?_ <;> clear hG0)
  refine EX_cut (R := fun l' m => ∃ txt, l' = setL (setL (setL (fun _ => none) "script" (.ref l)) "head" (.int hd 0)) "text" (.str (mkS txt) 0) ∧ txt.length ≤ 90 ∧ ∀ x ∈ txt, x < 55296) ?_ ?_
  · refine E1_AssignName ?_ rfl
    (refine EV_mcall ?_; refine EV_str (l := []) (by kernel_rfl) ?_; (with_reducible refine GM_join ?_); refine CW_go1 (KeepOk.bf _) ?_; refine AR_cons ?_)
    refine EV_comp hE (IE_list ?_)
    refine EV_slice_listT ?_
    refine EV_local hE (by kernel_rfl) (sS sH) ?_
    refine ⟨l, intsV ns, rfl, by unfold intsV; rw [List.length_map]; (first | lia | omega), ?_⟩
    (refine PT_some ?_; refine EV_int ?_; (with_reducible first | refine exr ?_ | refine ⟨_, rfl, ?_⟩); refine PT_some ?_; refine EV_int ?_; (with_reducible first | refine exr ?_ | refine ⟨_, rfl, ?_⟩))
    refine ⟨.inr hl, fun D hD => ?_⟩
    have eNs : pySl (intsV ns) (some 1) (some 30) = intsV ((ns.take 30).drop 1) := by
      rw [show (1 : Int) = ((1 : Nat) : Int) from rfl, show (30 : Int) = ((30 : Nat) : Int) from rfl, pySl_nat]
      unfold intsV
      rw [← List.map_take, ← List.map_drop]
    rw [eNs]
    have hnl : ((ns.take 30).drop 1).length ≤ 29 := by simp; (first | lia | omega)
    generalize (ns.take 30).drop 1 = nums at hnl ⊢
    have hD1 : setM (fun x => none) D (.lst (intsV nums)) D = some (.lst (intsV nums)) := setM_same _ _ _
    generalize setM (fun x => none) D (.lst (intsV nums)) = m1 at hD1 ⊢
    refine ⟨D, intsV nums, rfl, .lst hD1, ?_⟩
    refine ⟨by simp [intsV]; (first | lia | omega), fun i ys lc mm => (∃ ps, ys = strsV ps ∧ ∀ p ∈ ps, p ∈ signsL) ∧ mm = m1, ⟨⟨[], rfl, by simp⟩, rfl⟩, ?_, ?_⟩
    · rintro i ys lc mm hi hys ⟨⟨ps, rfl, hps⟩, rfl⟩
      refine ⟨.lst hD1, fun fz C cenv hE hsc => ?_⟩
      have he : cenv = _ := congrArg (fun s => ({ cenv with scope := s } : Env)) hsc
      have hi' : i < nums.length := by simpa [intsV] using hi
      have hni : (intsV nums).getD i .none = .int nums[i] 0 := by simp [intsV, hi']
      dsimp only
      rw [hni]
      refine ⟨(by rw [he]; kernel_rfl), ?_⟩
      (refine EV_sub ?_; refine EV_gref (a := 767) hE (by rw [he]; kernel_rfl) (by kernel_rfl) ?_; refine EV_binop ?_; refine EV_local hE (by rw [he]; kernel_rfl) sH ?_; refine EV_int ?_; refine O2_mod_int (by decide) ?_)
      have b0 := Int.fmod_nonneg_of_pos (nums[i]) (show (0 : Int) < 13 by decide)
      have b1 := Int.fmod_lt_of_pos (nums[i]) (show (0 : Int) < 13 by decide)
      generalize (nums[i]).fmod 13 = j at *
      have hj : j.toNat < signsL.length := by
        have : signsL.length = 13 := by decide
        (first | lia | omega)
      refine SUB_list (.inr top_signs) b0 (by (first | lia | omega)) (x := .str (mkS signsL[j.toNat]) 0) ?_ ?_
      · unfold strsV; rw [List.getElem?_map, List.getElem?_eq_getElem hj]; rfl
      exact ⟨⟨ps ++ [signsL[j.toNat]], by simp [strsV], fun p hp => by
        rcases List.mem_append.mp hp with h | h
        · exact hps p h
        · rw [List.mem_singleton.mp h]; exact List.getElem_mem _⟩, rfl⟩
    · rintro ys lc mm hys ⟨⟨ps, rfl, hps⟩, rfl⟩
      refine ⟨.lst hD1, fun D2 hD2 => ?_⟩
      have hpl : ps.length ≤ 29 := by simp [strsV, intsV] at hys; (first | lia | omega)
      have hfl : ps.flatten.length ≤ 90 := by
        have : ∀ qs : List (List Nat), (∀ p ∈ qs, p ∈ signsL) → qs.flatten.length ≤ 3 * qs.length := by
          intro qs
          induction qs with
          | nil => simp
          | cons a r ih =>
            intro h
            have h1 := ih (fun p hp => h p (List.mem_cons_of_mem _ hp))
            have h2 : ∀ p ∈ signsL, p.length ≤ 3 := by decide
            have h3 := h2 a (h a List.mem_cons_self)
            simp only [List.flatten_cons, List.length_append, List.length_cons]
            (first | lia | omega)
        have := this ps hps
        (first | lia | omega)
      have hsm : ∀ x ∈ ps.flatten, x < 55296 := by
        intro x hx
        (refine dn fun hG0 => ?_; obtain ⟨p, hp, hxp⟩ := List.mem_flatten.mp hx; refine hG0 ?_; clear hG0)
        have h2 : ∀ p ∈ signsL, ∀ x ∈ p, x < 55296 := by decide
        exact h2 p (hps p hp) x hxp
      refine AR_nil ?_
      refine CA_join (.lst (setM_same _ _ _)) (joinOk_nil ps (by (first | lia | omega))) ?_
      rw [inter_nil]
      refine ST_local hE (by kernel_rfl) ?_
      exact ⟨rfl, ps.flatten, rfl, hfl, hsm⟩
  (intro _ m0 hq0; refine dn fun hG0 => ?_; rcases hq0 with ⟨full, rfl, hfl, hfs⟩ <;> refine hG0 ?_ <;> clear hG0)
  have hfl0 : full.length ≤ 16777216 := by (first | lia | omega)
  refine EX_cons ?_
  refine E1_AssignName ?_ rfl
  refine EV_rep [13] [10] (by kernel_rfl) (by kernel_rfl) (by simp) (by simp) (by simp) ?_
  refine EV_rep [13, 10] [10] (by kernel_rfl) (by kernel_rfl) (by simp) (by simp) (by simp) ?_
  (refine EV_local hE (by kernel_rfl) sH ?_; (with_reducible first | refine exr ?_ | refine ⟨_, rfl, ?_⟩))
  refine ⟨by (first | lia | omega), ?_⟩
  with_reducible refine ⟨_, rfl, ?_⟩
  refine ⟨by have := repL_le [13, 10] [10] (by simp) full.length full; (first | lia | omega), ?_⟩
  rw [mended2]
  have hml := mend_length full
  (refine STn hE (by kernel_rfl) ?_)
  (refine EX_cons ?_; refine E1_AssignName ?_ rfl; refine EV_ncall ?_; refine EV_gref (a := 809) hE (by kernel_rfl) (by kernel_rfl) ?_; refine CW_go0 (KeepOk.rf (by kernel_rfl)) ?_; refine AR_cons ?_; refine EV_local hE (by kernel_rfl) sH ?_; refine AR_nil ?_)
  refine CA_CL ((c_marks (n := 0) (W := mend full) (by (first | lia | omega))).mono ?_) (by (first | lia | omega))
  (intro v m1 hq0; refine dn fun hG0 => ?_; rcases hq0 with ⟨Mk, bs, rfl, hMk, hbl, hMA, kp1⟩ <;> refine hG0 ?_ <;> clear hG0)
  (refine STn hE (by kernel_rfl) ?_)
  (refine EX_cons ?_; refine E1_AssignName ?_ rfl; refine EV_ncall ?_; refine EV_gref (a := 762) hE (by kernel_rfl) (by kernel_rfl) ?_; refine CW_go0 (KeepOk.rf (by kernel_rfl)) ?_; refine AR_cons ?_; refine EV_local hE (by kernel_rfl) (sS (sS sH)) ?_; refine AR_nil ?_)
  refine CA_CL ((c_tok (n := 0) (by (first | lia | omega)) hfs).mono ?_) (by (first | lia | omega))
  (intro v m3 hq0; refine dn fun hG0 => ?_; rcases hq0 with ⟨T, g, lf, zz, rfl, hg, hT, S, kp, nT, nS, nX, nE, nQ⟩ <;> refine hG0 ?_ <;> clear hG0)
  have hS := S.hS
  unfold tk0 at hT
  unfold stT at hS
  (refine STn hE (by kernel_rfl) ?_)
  (refine EX_cons ?_; refine E1_Expr ?_ (by rfl) (by rfl); refine EV_mcall ?_; refine EVaf hE (by kernel_rfl) sH hT tH (fok (by kernel_rfl)) ?_; refine GM_meth (g := 141) hS (stNo (by kernel_rfl)) (mok (by kernel_rfl)) ?_; refine CW_go1 (KeepOk.rf (by kernel_rfl)) ?_; refine AR_cons ?_; refine EV_binop ?_; refine EV_int ?_; refine EV_binop ?_; refine EV_binop ?_; refine EV_local hE (by kernel_rfl) (sS (sS (sS (sS sH)))) ?_; refine EV_int ?_; refine O2_floordiv_int (by decide) ?_ (by exact PyProof.noPylong_of_log2 (by decide +kernel)); refine EV_int ?_; refine O2_mod_int (by decide) ?_; (with_reducible refine O2_add_int ?_); refine AR_nil ?_)
  have b6 := Int.fmod_nonneg_of_pos (hd.fdiv 24) (show (0 : Int) < 11 by decide)
  obtain ⟨kk, hkk⟩ : ∃ kk : Nat, 2 + (hd.fdiv 24).fmod 11 = (kk : Int) := ⟨(2 + (hd.fdiv 24).fmod 11).toNat, by (first | lia | omega)⟩
  rw [hkk]
  refine CA_CL ((c_readChunk (n := 0) S (k := kk) (by (first | lia | omega)) (.inr ⟨rfl, rfl⟩)).mono ?_) (by (first | lia | omega))
  (intro v m4 hq0; refine dn fun hG0 => ?_; rcases hq0 with ⟨ok, c', b', p', rfl, S4, kp4, -, -⟩ <;> refine hG0 ?_ <;> clear hG0)
  refine seq_next ?_
  have tnS : T ≠ g.S := fun z => by rw [z] at hT; rw [hT] at hS; cases hS
  have tnX : T ≠ g.X := fun z => by have := S.hX; rw [← z, hT] at this; cases this
  (refine dn fun hG0 => ?_; obtain ⟨es0, hE0, _⟩ := S.hE; refine hG0 ?_; clear hG0)
  have tnE : T ≠ g.E := fun z => by rw [← z, hT] at hE0; cases hE0
  have hT4 := kp4 _ _ tnS tnX tnE hT
  have hat4 : SAt m4 g 0 0 := ⟨[], c', 0, b', p', S4, rfl, Nat.le_refl _⟩
  have hMk3 := kp _ _ hMk
  have hME : Mk ≠ g.E := fun z => by rw [z, nE] at hMk; cases hMk
  have hMk4 : m4 Mk = some (.lst (bs.map .ref)) := kp4 _ _ (fun z => by rw [z, S.hS] at hMk3; cases hMk3) (fun z => by rw [z, S.hX] at hMk3; cases hMk3) hME hMk3
  have hMA4 : MkA (mend full) m4 bs := (hMA.keep fun a l e => kp _ _ e).keep fun a l e => kp4 _ _ (fun z => by rw [z, S.hS] at e; cases e) (fun z => by rw [z, S.hX] at e; cases e) (fun z => by rw [z, hE0] at e; cases e) e
  refine EX_cut (R := fun l' m' => l' "t" = some (.ref T) ∧ l' "whole" = some (.str (mkS (mend full)) 0) ∧ l' "marks" = some (.ref Mk) ∧ l' "place" = some (.int 0 0) ∧ l' "run" = some (.int 0 0) ∧ l' "head" = some (.int hd 0) ∧ ∀ a o, m4 a = some o → m' a = some o) ?_ ?_
  · refine E1_AssignTuple ?_ rfl (by rfl) (by rfl)
    (refine EV_tuple ?_; refine AR_cons ?_; refine EV_int ?_; refine AR_cons ?_; refine EV_int ?_; refine AR_nil ?_)
    refine ⟨by simp, fun D0 hD0 => ?_⟩
    refine ⟨D0, _, rfl, .tup (setM_same _ _ _), rfl, ?_⟩
    (refine ATs_cons ?_; refine AT_name ?_; refine ST_local hE (by kernel_rfl) ?_; refine ATs_cons ?_; refine AT_name ?_; refine ST_local hE (by kernel_rfl) ?_; refine ATs_nil ?_)
    exact ⟨rfl, by exact (sS (sS sH)), by exact (sS (sS (sS (sS sH)))), by exact (sS (sS (sS sH))), by exact (sS sH), by exact sH, by exact (sS (sS (sS (sS (sS (sS sH)))))), fun a o e => setM_old hD0 e⟩
  (intro l5 m5 hq0; refine dn fun hG0 => ?_; rcases hq0 with ⟨a1, a2, a3, a4, a5, a6, kp5⟩ <;> refine hG0 ?_ <;> clear hG0)
  have hw : WT' g = mend full := by unfold WT'; rw [hg]
  rw [← hw] at a2 hMA4 hbl hml
  exact law_end hP hE (by first | rfl | (rw [he0]; rfl)) a1 a2 a3 a4 a5 a6 (by (first | lia | omega)) hbl hME ⟨[], c', 0, b', p', S4.keep kp5, rfl, Nat.le_refl _⟩ (.inl ⟨_, _, kp5 _ _ hT4⟩) (kp5 _ _ hMk4) (hMA4.keep fun a l e => kp5 _ _ e)
end
end Mine
end
section
open PySem PySem.W PyProof.Rows
set_option maxRecDepth 100000
set_option maxHeartbeats 4000000
set_option linter.unusedVariables false
namespace Mine
theorem ints_er {vs : List Value} {ns : List Int} (h : IntsAre vs ns) : vs.map er = intsV ns := by
  induction ns generalizing vs with
  | nil => rw [h.nil_inv]; rfl
  | cons n ns ih => obtain ⟨t, vs', rfl, h'⟩ := h.cons_inv; rw [List.map_cons, ih h']; rfl
theorem room0 (env : Env) : Room (callerA.deeper env) 20 :=
  ⟨rfl, by show 1 + claimMargin + 1 + 4 * 20 < recursionLimit; decide +kernel, by show 4 + 3 + 8 * 20 < cLine; decide +kernel⟩
theorem law_go {prog : Program} {w : World} {p : Program} {loose : List Str} {mean : ExcName → Option Value} {mg mb : Str → Option Value} {s₁ s : Shared} {l : Addr} {vs : List Value} {ns : List Int} {m : Str → Option Value} {K : Frag}
    {body : List Stmt} {env : Env} {Q : Flow → Shared → Prop} {E : Value → Shared → Prop} {n : Nat}
    (KX : K.In s₁.heap) (T : Top p loose mean mg mb s₁.heap) (hL : s₁.heap.IsList l vs.toArray) (hI : IntsAre vs ns) (F : Fr s₁.heap s₁.heap.objs.size s.heap m)
    (hm : ∀ x, (m x).map er = setL (fun _ => none) "script" (.ref l) x) (hr : Room (callerA.deeper env) n) (ho : 1 ≤ s.toks)
    (h : ∀ (X : Cx) (fz : Frz), X.K = K → X.prog = prog → X.w = w → ReadO X X.T l (.lst (intsV ns)) → EX X n fz s₁.heap.objs.size env body (fun f l m => retOf f = .bool true) (setL (fun _ => none) "script" (.ref l)) (fun _ => none))
    (hQ : ∀ f s', retOf f = .bool true → (∃ m', Fr s₁.heap s₁.heap.objs.size s'.heap m') → Like s s' → Q f s') :
    wpAny (model prog w) (callerA.deeper env) (execs body env) Q E s := by
  let X : Cx := ⟨prog, w, K, s₁.heap, p, loose, mg, mb, KX, topRead_of T⟩
  have hX := h X (fun b => s₁.heap.get? b) rfl rfl rfl ⟨vs.toArray, hL, by rw [List.toList_toArray]; exact ints_er hI⟩
  have hfv : FV X (fun b => s₁.heap.get? b) s₁.heap.objs.size (setL (fun _ => none) "script" (.ref l)) (fun _ => none) s.heap := by
    refine ⟨fun _ => none, ⟨fun b o e => e, fun b o e => ⟨F.keep _ _ e, rfl⟩, fun a o e => by cases e⟩, rfl, ?_, m, F.ns, hm⟩
    cases q : s₁.heap.get? s₁.heap.objs.size with
    | none => rfl
    | some z => exact absurd (Heap.lt_size q) (Nat.lt_irrefl _)
  refine wpAny_mono (hX _ s hr hfv ho) (fun f s' hq => ?_) (fun _ _ e => e.elim)
  obtain ⟨loc', M', F', lk, hret⟩ := hq
  obtain ⟨own, I⟩ := F'
  obtain ⟨m', hn, _⟩ := I.loc
  refine hQ f s' ?_ ⟨m', hn, fun b o e => (I.inv.fz b o e).1, Nat.le_refl _⟩ lk
  cases f with
  | ret v => exact er_bool hret
  | _ => exact hret
end Mine
end
section
open PySem PySem.W PyProof.Rows
set_option maxRecDepth 100000
namespace Mine
theorem mem_lookup {K : Frag} {a : Addr} {o : Obj} : K.lookup a = some o → (a, o) ∈ K := by
  induction K with
  | nil => intro h; cases h
  | cons p K ih =>
    intro h
    obtain ⟨b, u⟩ := p
    rw [List.lookup_cons] at h
    split at h
    · rename_i e
      cases h
      rw [eq_of_beq e]; exact List.mem_cons_self
    · exact List.mem_cons_of_mem _ (ih h)
def KPL : List Addr := [2, 3, 22, 27, 42, 41, 48, 49, 72, 73, 165, 166, 761, 762, 63, 62, 70, 69, 84, 83, 98, 97, 105, 104, 112, 111, 119, 118, 126, 125, 133, 132, 141, 140, 148, 147, 156, 155, 163, 162, 261, 260, 297, 296, 612, 611, 619, 618, 626, 625, 633, 632, 640, 639, 647, 646, 767, 774, 773, 781, 780, 788, 787, 795, 794, 802, 801, 809, 808, 816, 815, 823, 822, 830, 829, 837, 836, 842, 841, 847, 846, 134, 149, 254, 304, 303]
noncomputable def pick (K : Frag) (l : List Addr) : Frag := l.filterMap fun a => (K.lookup a).map fun o => (a, o)
theorem in_pick {K K' : Params → Frag} {P : Params} {h : Heap} {l : List Addr} (x : (K P).In h) (e : ∀ P, pick (K P) l = K' P) : (K' P).In h := by
  intro a o q
  have m := mem_lookup q
  rw [← e P] at m
  obtain ⟨b, _, hb⟩ := List.mem_filterMap.mp m
  cases hl : (K P).lookup b with
  | none => rw [hl] at hb; cases hb
  | some u => rw [hl] at hb; cases hb; exact x _ _ hl
namespace hd
theorem tw10012880186880212623:1=1:=rfl
theorem tw10024716035694756283:1=1:=rfl
theorem tw10031445930688152421:1=1:=rfl
theorem tw100483095206116625:1=1:=rfl
theorem tw10170554590732378842:1=1:=rfl
theorem tw1017328040139425936:1=1:=rfl
theorem tw10210669037155785340:1=1:=rfl
theorem tw10246146449241189800:1=1:=rfl
theorem tw10258999931320997221:1=1:=rfl
theorem tw10264135568141901301:1=1:=rfl
theorem tw10273187271170590260:1=1:=rfl
theorem tw10283529075043463162:1=1:=rfl
theorem tw10286656452748174568:1=1:=rfl
theorem tw10403243965636340961:1=1:=rfl
theorem tw1043307727769730188:1=1:=rfl
theorem tw10491609206876299696:1=1:=rfl
theorem tw10531373872144210542:1=1:=rfl
theorem tw10583446816852156582:1=1:=rfl
theorem tw10601615944963115059:1=1:=rfl
theorem tw10603584201595350602:1=1:=rfl
theorem tw10614716105012338702:1=1:=rfl
theorem tw10643592516055977328:1=1:=rfl
theorem tw10678649693572172417:1=1:=rfl
theorem tw10727248033764811480:1=1:=rfl
theorem tw10743916045514856203:1=1:=rfl
theorem tw10752148897807903841:1=1:=rfl
theorem tw10778013660560245624:1=1:=rfl
theorem tw10779200252408728858:1=1:=rfl
theorem tw10781468475247234061:1=1:=rfl
theorem tw10787125048147943196:1=1:=rfl
theorem tw10788059911547816233:1=1:=rfl
theorem tw10819331528351526247:1=1:=rfl
theorem tw10835030195340973342:1=1:=rfl
theorem tw10845626234925267891:1=1:=rfl
theorem tw10879034167726328663:1=1:=rfl
theorem tw1088296927520436173:1=1:=rfl
theorem tw10904933031377857372:1=1:=rfl
theorem tw10905181550472923540:1=1:=rfl
theorem tw10934634478434655930:1=1:=rfl
theorem tw10944956837784636368:1=1:=rfl
theorem tw10957212852122400357:1=1:=rfl
theorem tw11006295307154197183:1=1:=rfl
theorem tw11011131195910976488:1=1:=rfl
theorem tw11052946933831473538:1=1:=rfl
theorem tw11054480109507316185:1=1:=rfl
theorem tw11126320352707459272:1=1:=rfl
theorem tw11151547217846952531:1=1:=rfl
theorem tw11194691037526640676:1=1:=rfl
theorem tw11213053971927718326:1=1:=rfl
theorem tw11249132867342737325:1=1:=rfl
theorem tw11251137523995926341:1=1:=rfl
theorem tw11283319371284918911:1=1:=rfl
theorem tw1129884963351977449:1=1:=rfl
theorem tw11319892378374348655:1=1:=rfl
theorem tw11375277706881905925:1=1:=rfl
theorem tw11399449904127653305:1=1:=rfl
theorem tw11407884054146074569:1=1:=rfl
theorem tw11434409384045074295:1=1:=rfl
theorem tw11465210709893060100:1=1:=rfl
theorem tw11472165163037031739:1=1:=rfl
theorem tw1147470481896660410:1=1:=rfl
theorem tw11513968764499736323:1=1:=rfl
theorem tw11551083187376567056:1=1:=rfl
theorem tw11555369063482983949:1=1:=rfl
theorem tw11587034568685482758:1=1:=rfl
theorem tw11595982170579460384:1=1:=rfl
theorem tw11631947586910100387:1=1:=rfl
theorem tw11632984921778587759:1=1:=rfl
theorem tw11636924220087485885:1=1:=rfl
theorem tw11638043884434779313:1=1:=rfl
theorem tw11652457597714270106:1=1:=rfl
theorem tw11660266114150955751:1=1:=rfl
theorem tw11709330566771433103:1=1:=rfl
theorem tw11729958736954745289:1=1:=rfl
theorem tw11778180911958503814:1=1:=rfl
theorem tw11814627755841444246:1=1:=rfl
theorem tw11841407262063887625:1=1:=rfl
theorem tw11852641145169952659:1=1:=rfl
theorem tw11905163887095721015:1=1:=rfl
theorem tw11915594877312485397:1=1:=rfl
theorem tw11942693397608355085:1=1:=rfl
theorem tw11953376511379268794:1=1:=rfl
theorem tw11968265576560266318:1=1:=rfl
theorem tw1197925565968671727:1=1:=rfl
theorem tw12035623454917710897:1=1:=rfl
theorem tw12050417470231563642:1=1:=rfl
theorem tw12058812876911547015:1=1:=rfl
theorem tw12070051907170230399:1=1:=rfl
theorem tw12070654863422294720:1=1:=rfl
theorem tw12113243949977362033:1=1:=rfl
theorem tw12127338746724423809:1=1:=rfl
theorem tw12131494931117144662:1=1:=rfl
theorem tw12172025689391634812:1=1:=rfl
theorem tw12211380539166087753:1=1:=rfl
theorem tw1222794163293265305:1=1:=rfl
theorem tw12331051067403766639:1=1:=rfl
theorem tw12350410155528471161:1=1:=rfl
theorem tw12393119488966705847:1=1:=rfl
theorem tw12399718760709695909:1=1:=rfl
theorem tw12414669353804360901:1=1:=rfl
theorem tw1247026723315081023:1=1:=rfl
theorem tw12487542160262675636:1=1:=rfl
theorem tw12561155100871721849:1=1:=rfl
theorem tw1256466517863071783:1=1:=rfl
theorem tw12575139184659369484:1=1:=rfl
theorem tw12579596248316191183:1=1:=rfl
theorem tw12590977762386282803:1=1:=rfl
theorem tw12647368939536790636:1=1:=rfl
theorem tw12676414471582705871:1=1:=rfl
theorem tw12685813987229840507:1=1:=rfl
theorem tw12727495553239364174:1=1:=rfl
theorem tw12744807935193187038:1=1:=rfl
theorem tw12769127236821124696:1=1:=rfl
theorem tw12778418089203562962:1=1:=rfl
theorem tw128412058910260475:1=1:=rfl
theorem tw12870888531099404533:1=1:=rfl
theorem tw12901994302517312135:1=1:=rfl
theorem tw12936449754285732098:1=1:=rfl
theorem tw12949589719889679912:1=1:=rfl
theorem tw12976186185376257304:1=1:=rfl
theorem tw12995909851351757392:1=1:=rfl
theorem tw13001811119718631651:1=1:=rfl
theorem tw13011413612017729677:1=1:=rfl
theorem tw13051953538815563581:1=1:=rfl
theorem tw13064122474441708322:1=1:=rfl
theorem tw13066319289922817542:1=1:=rfl
theorem tw13096558090100123544:1=1:=rfl
theorem tw13129650132239662433:1=1:=rfl
theorem tw13132618709999183898:1=1:=rfl
theorem tw13155780701260043360:1=1:=rfl
theorem tw13181700845877081190:1=1:=rfl
theorem tw13220430256171166289:1=1:=rfl
theorem tw13280443560766958183:1=1:=rfl
theorem tw13293453174229064190:1=1:=rfl
theorem tw1331086792558400476:1=1:=rfl
theorem tw1331487369976884630:1=1:=rfl
theorem tw13321331477185743149:1=1:=rfl
theorem tw1335065189686863947:1=1:=rfl
theorem tw13368278939475635651:1=1:=rfl
theorem tw13409441903868389331:1=1:=rfl
theorem tw13475242022060392486:1=1:=rfl
theorem tw13531707123254989501:1=1:=rfl
theorem tw13562760996464443880:1=1:=rfl
theorem tw13574768056931433239:1=1:=rfl
theorem tw13609717118414637909:1=1:=rfl
theorem tw13619402905963910902:1=1:=rfl
theorem tw1362751533348561449:1=1:=rfl
theorem tw13628142620392400109:1=1:=rfl
theorem tw13671756088133313087:1=1:=rfl
theorem tw13783031573616600631:1=1:=rfl
theorem tw13790719812936386609:1=1:=rfl
theorem tw1379335367625716243:1=1:=rfl
theorem tw1382963296337349011:1=1:=rfl
theorem tw13866372431405929976:1=1:=rfl
theorem tw13903934854276604550:1=1:=rfl
theorem tw13919464512627920130:1=1:=rfl
theorem tw13929354066492186541:1=1:=rfl
theorem tw13937860266046166849:1=1:=rfl
theorem tw13944508082162953488:1=1:=rfl
theorem tw13994979335412520660:1=1:=rfl
theorem tw14006173549557618073:1=1:=rfl
theorem tw14029546391885035639:1=1:=rfl
theorem tw14040608126747316905:1=1:=rfl
theorem tw14060154772996877548:1=1:=rfl
theorem tw14091984216438838776:1=1:=rfl
theorem tw1409312971732116557:1=1:=rfl
theorem tw14103535550066685397:1=1:=rfl
theorem tw14137390275340422267:1=1:=rfl
theorem tw1425423193147277237:1=1:=rfl
theorem tw14294001040229213422:1=1:=rfl
theorem tw14333710738500927179:1=1:=rfl
theorem tw14352634086879598012:1=1:=rfl
theorem tw1439246655266547700:1=1:=rfl
theorem tw14439243815434019604:1=1:=rfl
theorem tw14440960662653809013:1=1:=rfl
theorem tw1445366717492459972:1=1:=rfl
theorem tw14462709497994964445:1=1:=rfl
theorem tw14492701947808656938:1=1:=rfl
theorem tw14560493823538711346:1=1:=rfl
theorem tw14683707025165767436:1=1:=rfl
theorem tw14705683404202351889:1=1:=rfl
theorem tw14706022693812145444:1=1:=rfl
theorem tw14743440263598761229:1=1:=rfl
theorem tw14768889098011018680:1=1:=rfl
theorem tw14772383043592177042:1=1:=rfl
theorem tw14776966858535155947:1=1:=rfl
theorem tw14859038896228082724:1=1:=rfl
theorem tw14896477498954680388:1=1:=rfl
theorem tw14914937398881237230:1=1:=rfl
theorem tw14955159897011116063:1=1:=rfl
theorem tw14960593345356199642:1=1:=rfl
theorem tw14980023328507725902:1=1:=rfl
theorem tw15001097145646765096:1=1:=rfl
theorem tw15014912738361607707:1=1:=rfl
theorem tw15042006015671813226:1=1:=rfl
theorem tw15043168886218598503:1=1:=rfl
theorem tw15054049728407801353:1=1:=rfl
theorem tw1506431575118746342:1=1:=rfl
theorem tw15084132493965779093:1=1:=rfl
theorem tw15103106377680225435:1=1:=rfl
theorem tw1511243299971373483:1=1:=rfl
theorem tw15152743547302097792:1=1:=rfl
theorem tw15207398651663016943:1=1:=rfl
theorem tw15220180469806662145:1=1:=rfl
theorem tw15277330632498426303:1=1:=rfl
theorem tw15337868472472888810:1=1:=rfl
theorem tw15372018278109211002:1=1:=rfl
theorem tw15378359858306647822:1=1:=rfl
theorem tw15381450162410889989:1=1:=rfl
theorem tw15411387601460861337:1=1:=rfl
theorem tw15463257786427224491:1=1:=rfl
theorem tw15508949281206285077:1=1:=rfl
theorem tw15578025631644234493:1=1:=rfl
theorem tw15595854959937240912:1=1:=rfl
theorem tw15610959940260225430:1=1:=rfl
theorem tw15618049606547972131:1=1:=rfl
theorem tw15625209780758371316:1=1:=rfl
theorem tw15630680890609703042:1=1:=rfl
theorem tw1563692795949630186:1=1:=rfl
theorem tw15637593595834871717:1=1:=rfl
theorem tw15643275761693703936:1=1:=rfl
theorem tw15650184460060549375:1=1:=rfl
theorem tw15689870831250920624:1=1:=rfl
theorem tw1580110805410547442:1=1:=rfl
theorem tw15837987909243819085:1=1:=rfl
theorem tw1584506945513601688:1=1:=rfl
theorem tw15889433306838628275:1=1:=rfl
theorem tw15910714762333108613:1=1:=rfl
theorem tw15923250282426842828:1=1:=rfl
theorem tw15931116738044738221:1=1:=rfl
theorem tw15946388913382835224:1=1:=rfl
theorem tw15948780112781908787:1=1:=rfl
theorem tw15963624873386084050:1=1:=rfl
theorem tw15987713032478767096:1=1:=rfl
theorem tw1600037746751723098:1=1:=rfl
theorem tw16006246977917349235:1=1:=rfl
theorem tw1603739661141634737:1=1:=rfl
theorem tw16037735763661986305:1=1:=rfl
theorem tw16039824993472781790:1=1:=rfl
theorem tw16056359734778111409:1=1:=rfl
theorem tw16091413853298234908:1=1:=rfl
theorem tw1610171440888473627:1=1:=rfl
theorem tw16154546982801380032:1=1:=rfl
theorem tw16156708551869547534:1=1:=rfl
theorem tw16169374299450900766:1=1:=rfl
theorem tw16194383521188589630:1=1:=rfl
theorem tw16211521421427940678:1=1:=rfl
theorem tw16240987189780228909:1=1:=rfl
theorem tw16246848685605474055:1=1:=rfl
theorem tw16259696140248634718:1=1:=rfl
theorem tw16299908979028503884:1=1:=rfl
theorem tw16301592386811335294:1=1:=rfl
theorem tw16302227732802510677:1=1:=rfl
theorem tw16332348944364537037:1=1:=rfl
theorem tw16357263729072622229:1=1:=rfl
theorem tw16376525773666504680:1=1:=rfl
theorem tw16415028865518655546:1=1:=rfl
theorem tw16519581850611564860:1=1:=rfl
theorem tw16640546478005224243:1=1:=rfl
theorem tw16661405048812198066:1=1:=rfl
theorem tw16698745307106531279:1=1:=rfl
theorem tw16713699803418581334:1=1:=rfl
theorem tw16719121484147384486:1=1:=rfl
theorem tw16742648372681657963:1=1:=rfl
theorem tw16744898341101239380:1=1:=rfl
theorem tw16772102934027710169:1=1:=rfl
theorem tw16879956485299554121:1=1:=rfl
theorem tw16919406825032445293:1=1:=rfl
theorem tw16920754564084929960:1=1:=rfl
theorem tw1699103778626983548:1=1:=rfl
theorem tw17001982702790524580:1=1:=rfl
theorem tw17002781174329755331:1=1:=rfl
theorem tw17034541987677670899:1=1:=rfl
theorem tw17076082267592564974:1=1:=rfl
theorem tw17087091549796120035:1=1:=rfl
theorem tw17088047866570459193:1=1:=rfl
theorem tw17101829828953933863:1=1:=rfl
theorem tw1712922718373300912:1=1:=rfl
theorem tw17130151131035750659:1=1:=rfl
theorem tw17143746779515762356:1=1:=rfl
theorem tw17183224562656869120:1=1:=rfl
theorem tw17232729238497989147:1=1:=rfl
theorem tw17234923516513369237:1=1:=rfl
theorem tw17252143746492648416:1=1:=rfl
theorem tw17258206423299326598:1=1:=rfl
theorem tw17273587926920868623:1=1:=rfl
theorem tw17311223219408574766:1=1:=rfl
theorem tw17330132731328240911:1=1:=rfl
theorem tw17336936450418997793:1=1:=rfl
theorem tw17347436560843906493:1=1:=rfl
theorem tw17386561741084979693:1=1:=rfl
theorem tw17387473266821786944:1=1:=rfl
theorem tw1744074299117110578:1=1:=rfl
theorem tw17454471701868102899:1=1:=rfl
theorem tw17470177872615007328:1=1:=rfl
theorem tw17491317419825422843:1=1:=rfl
theorem tw17495340751864218003:1=1:=rfl
theorem tw17562767543260142214:1=1:=rfl
theorem tw17588044629489971554:1=1:=rfl
theorem tw1760603350576429475:1=1:=rfl
theorem tw17606422857730326317:1=1:=rfl
theorem tw17640862679970642326:1=1:=rfl
theorem tw17649441919526076750:1=1:=rfl
theorem tw17655025648336401564:1=1:=rfl
theorem tw17672654358674132775:1=1:=rfl
theorem tw17681399029576232318:1=1:=rfl
theorem tw17737187407176874954:1=1:=rfl
theorem tw17772917993097084435:1=1:=rfl
theorem tw17784710179527947834:1=1:=rfl
theorem tw17811195616094107523:1=1:=rfl
theorem tw1781861727890032366:1=1:=rfl
theorem tw17843490464661113860:1=1:=rfl
theorem tw17893044597097874663:1=1:=rfl
theorem tw17901334829092211166:1=1:=rfl
theorem tw17902569758825723728:1=1:=rfl
theorem tw17925215291927510665:1=1:=rfl
theorem tw1792636949448641307:1=1:=rfl
theorem tw17956543221229664512:1=1:=rfl
theorem tw17975533764899295144:1=1:=rfl
theorem tw17989097746536338734:1=1:=rfl
theorem tw17992175057805443440:1=1:=rfl
theorem tw1800889605409440832:1=1:=rfl
theorem tw18087722134493236510:1=1:=rfl
theorem tw18103342009636024947:1=1:=rfl
theorem tw18103420901670897651:1=1:=rfl
theorem tw1811199898794616982:1=1:=rfl
theorem tw18152756486534528934:1=1:=rfl
theorem tw18163647496604598072:1=1:=rfl
theorem tw18166333605607142505:1=1:=rfl
theorem tw18176940659606848779:1=1:=rfl
theorem tw18241275227582772068:1=1:=rfl
theorem tw18252017834820373320:1=1:=rfl
theorem tw18291419657060728153:1=1:=rfl
theorem tw18293732401869909652:1=1:=rfl
theorem tw18330183385023645277:1=1:=rfl
theorem tw18343703819029505601:1=1:=rfl
theorem tw1836080755315867724:1=1:=rfl
theorem tw18370931923303237609:1=1:=rfl
theorem tw1847840615245081061:1=1:=rfl
theorem tw1870067075039425230:1=1:=rfl
theorem tw1878737405954674963:1=1:=rfl
theorem tw1893913032611223051:1=1:=rfl
theorem tw1936894748134917147:1=1:=rfl
theorem tw2001351230973187099:1=1:=rfl
theorem tw2004659784336800654:1=1:=rfl
theorem tw2042874687063273074:1=1:=rfl
theorem tw2051048951616859547:1=1:=rfl
theorem tw2068664650715991707:1=1:=rfl
theorem tw2114630138375439770:1=1:=rfl
theorem tw2134215046882385847:1=1:=rfl
theorem tw2139204274930982770:1=1:=rfl
theorem tw2216850387143573719:1=1:=rfl
theorem tw2274498078352570744:1=1:=rfl
theorem tw2315301623876862497:1=1:=rfl
theorem tw2327210489368252092:1=1:=rfl
theorem tw2336748640663733628:1=1:=rfl
theorem tw2352982987946734526:1=1:=rfl
theorem tw2386827423013361158:1=1:=rfl
theorem tw2391449824757734642:1=1:=rfl
theorem tw2394040479862359591:1=1:=rfl
theorem tw242841246431481386:1=1:=rfl
theorem tw2442259710966052079:1=1:=rfl
theorem tw2448417245163862455:1=1:=rfl
theorem tw2489000522355961661:1=1:=rfl
theorem tw2502866573005156581:1=1:=rfl
theorem tw2505046432360240130:1=1:=rfl
theorem tw250903467453971090:1=1:=rfl
theorem tw2562236817408797766:1=1:=rfl
theorem tw257007361410690125:1=1:=rfl
theorem tw2578790182627478330:1=1:=rfl
theorem tw2580477087445282633:1=1:=rfl
theorem tw2595994805191909183:1=1:=rfl
theorem tw262745018181394680:1=1:=rfl
theorem tw26425463804135960:1=1:=rfl
theorem tw2658526732547218105:1=1:=rfl
theorem tw2729298822523640997:1=1:=rfl
theorem tw2781682124601125471:1=1:=rfl
theorem tw2799067240506288376:1=1:=rfl
theorem tw2799716289819351777:1=1:=rfl
theorem tw2815220025927836654:1=1:=rfl
theorem tw2839761810297210574:1=1:=rfl
theorem tw2867327485932766208:1=1:=rfl
theorem tw2871226400543044806:1=1:=rfl
theorem tw2886944701177904103:1=1:=rfl
theorem tw2900905267640511130:1=1:=rfl
theorem tw2922222751358710265:1=1:=rfl
theorem tw2930668341846507884:1=1:=rfl
theorem tw2951005344575393816:1=1:=rfl
theorem tw2999033326186475339:1=1:=rfl
theorem tw3044193314922437478:1=1:=rfl
theorem tw3069179008743571320:1=1:=rfl
theorem tw3109861748172591687:1=1:=rfl
theorem tw3182187488490625086:1=1:=rfl
theorem tw3196399650302076718:1=1:=rfl
theorem tw3215350286424857435:1=1:=rfl
theorem tw3229955645248102723:1=1:=rfl
theorem tw3240729154252626498:1=1:=rfl
theorem tw3259873300814134281:1=1:=rfl
theorem tw3309697970292668127:1=1:=rfl
theorem tw3333446698644548216:1=1:=rfl
theorem tw3350844169311001129:1=1:=rfl
theorem tw3350930974749635488:1=1:=rfl
theorem tw33583606019346890:1=1:=rfl
theorem tw3364418463632694928:1=1:=rfl
theorem tw3405361230339686725:1=1:=rfl
theorem tw3442329435671937591:1=1:=rfl
theorem tw3443669649825651883:1=1:=rfl
theorem tw3451239065008710300:1=1:=rfl
theorem tw3452082135128663414:1=1:=rfl
theorem tw3496965988886986938:1=1:=rfl
theorem tw3504079246686126755:1=1:=rfl
theorem tw3533295568840377906:1=1:=rfl
theorem tw3571134770919094901:1=1:=rfl
theorem tw3608708970678896270:1=1:=rfl
theorem tw3673020696563887462:1=1:=rfl
theorem tw368366308016060594:1=1:=rfl
theorem tw3683844413590923471:1=1:=rfl
theorem tw3722166409189360004:1=1:=rfl
theorem tw3789350110615891812:1=1:=rfl
theorem tw3795277891434052102:1=1:=rfl
theorem tw3878383114103592795:1=1:=rfl
theorem tw3890083515106143593:1=1:=rfl
theorem tw3913528116038191188:1=1:=rfl
theorem tw3941438180925939637:1=1:=rfl
theorem tw395138700845864316:1=1:=rfl
theorem tw3953601041324332601:1=1:=rfl
theorem tw4021928978595405253:1=1:=rfl
theorem tw4068527845204499245:1=1:=rfl
theorem tw4091639524402994376:1=1:=rfl
theorem tw4111692666942324129:1=1:=rfl
theorem tw4126306136578151734:1=1:=rfl
theorem tw4136554803537287180:1=1:=rfl
theorem tw4138081844389336918:1=1:=rfl
theorem tw4181196891559700729:1=1:=rfl
theorem tw4182648748547736412:1=1:=rfl
theorem tw4186180820073840449:1=1:=rfl
theorem tw4218252797249083135:1=1:=rfl
theorem tw424627922949020093:1=1:=rfl
theorem tw4272726840584523970:1=1:=rfl
theorem tw4282304852377368616:1=1:=rfl
theorem tw4282359134580295075:1=1:=rfl
theorem tw4299596416071116603:1=1:=rfl
theorem tw432457690288141553:1=1:=rfl
theorem tw4355604671862981090:1=1:=rfl
theorem tw4363365295628954845:1=1:=rfl
theorem tw439843181053141970:1=1:=rfl
theorem tw4402725079659364252:1=1:=rfl
theorem tw442638132926106271:1=1:=rfl
theorem tw4432475053497693458:1=1:=rfl
theorem tw4449123307109862055:1=1:=rfl
theorem tw4478166936697009375:1=1:=rfl
theorem tw4527685146903026889:1=1:=rfl
theorem tw4571360026077952820:1=1:=rfl
theorem tw4643362625855044894:1=1:=rfl
theorem tw464777395874653626:1=1:=rfl
theorem tw469108185253701220:1=1:=rfl
theorem tw4702841417184801058:1=1:=rfl
theorem tw4725425184044842548:1=1:=rfl
theorem tw4730091804998409952:1=1:=rfl
theorem tw4735155535324382492:1=1:=rfl
theorem tw4768578896829404305:1=1:=rfl
theorem tw4817003022231809500:1=1:=rfl
theorem tw4833718069199227053:1=1:=rfl
theorem tw4856431653887292112:1=1:=rfl
theorem tw4870687313549177768:1=1:=rfl
theorem tw4948343613671549106:1=1:=rfl
theorem tw4958948430592982816:1=1:=rfl
theorem tw4961974914579852485:1=1:=rfl
theorem tw4975429006339234634:1=1:=rfl
theorem tw5021546742003373373:1=1:=rfl
theorem tw5036846961687405229:1=1:=rfl
theorem tw5148922909946612681:1=1:=rfl
theorem tw5167245352685981253:1=1:=rfl
theorem tw5174551420813472067:1=1:=rfl
theorem tw518976864732996251:1=1:=rfl
theorem tw5238241317806426387:1=1:=rfl
theorem tw5245234834050458271:1=1:=rfl
theorem tw5247051413645994129:1=1:=rfl
theorem tw526207354791536317:1=1:=rfl
theorem tw5278057926702712004:1=1:=rfl
theorem tw5283464899586487735:1=1:=rfl
theorem tw5289708365253275695:1=1:=rfl
theorem tw5322579261384874668:1=1:=rfl
theorem tw5362516397382645915:1=1:=rfl
theorem tw5363564295841288755:1=1:=rfl
theorem tw5373601922739893978:1=1:=rfl
theorem tw5378308252288859171:1=1:=rfl
theorem tw541196102884509978:1=1:=rfl
theorem tw5416991563250132298:1=1:=rfl
theorem tw5480042469492414594:1=1:=rfl
theorem tw5482205457738058418:1=1:=rfl
theorem tw5486487638281291605:1=1:=rfl
theorem tw5513025101015932971:1=1:=rfl
theorem tw5535567543195554156:1=1:=rfl
theorem tw5549315172176941698:1=1:=rfl
theorem tw5562173858411828344:1=1:=rfl
theorem tw5574845727924001799:1=1:=rfl
theorem tw5592360268479517082:1=1:=rfl
theorem tw5635641802508607975:1=1:=rfl
theorem tw5657824000916062451:1=1:=rfl
theorem tw5667655126489319660:1=1:=rfl
theorem tw5715356086224469760:1=1:=rfl
theorem tw5732804406350252772:1=1:=rfl
theorem tw574300837803046910:1=1:=rfl
theorem tw578887228443019578:1=1:=rfl
theorem tw5810065557313606291:1=1:=rfl
theorem tw5850991567925798318:1=1:=rfl
theorem tw5873113503399164460:1=1:=rfl
theorem tw5902613922787404954:1=1:=rfl
theorem tw5983496337302601536:1=1:=rfl
theorem tw5987830557187376847:1=1:=rfl
theorem tw6014424301940151174:1=1:=rfl
theorem tw6046454685291232161:1=1:=rfl
theorem tw6060742912462422084:1=1:=rfl
theorem tw6079173187612997037:1=1:=rfl
theorem tw6081201349915205085:1=1:=rfl
theorem tw6082411064634330575:1=1:=rfl
theorem tw6109525258741381055:1=1:=rfl
theorem tw6136932545381038964:1=1:=rfl
theorem tw6164396464334811476:1=1:=rfl
theorem tw6184460063843016694:1=1:=rfl
theorem tw6186238094035137676:1=1:=rfl
theorem tw6199765714743212253:1=1:=rfl
theorem tw6278647508926252785:1=1:=rfl
theorem tw6293948785866598258:1=1:=rfl
theorem tw6305734824756694309:1=1:=rfl
theorem tw6308581086252854402:1=1:=rfl
theorem tw6320253292602491972:1=1:=rfl
theorem tw6407587892757256292:1=1:=rfl
theorem tw6449127861642672459:1=1:=rfl
theorem tw6469175993241445255:1=1:=rfl
theorem tw6545403380812914513:1=1:=rfl
theorem tw6563143717978901596:1=1:=rfl
theorem tw6578402527460240241:1=1:=rfl
theorem tw6598312636042714100:1=1:=rfl
theorem tw6615107907471364465:1=1:=rfl
theorem tw6646985988748340704:1=1:=rfl
theorem tw6669269137521125552:1=1:=rfl
theorem tw6679266806504041263:1=1:=rfl
theorem tw6709418730364537143:1=1:=rfl
theorem tw6755925336976613232:1=1:=rfl
theorem tw6759412095888398321:1=1:=rfl
theorem tw6780557218761844654:1=1:=rfl
theorem tw678209747344391502:1=1:=rfl
theorem tw6804821044290156842:1=1:=rfl
theorem tw6818987989461384207:1=1:=rfl
theorem tw6824622198901579176:1=1:=rfl
theorem tw6848782300941138395:1=1:=rfl
theorem tw6877226645827823821:1=1:=rfl
theorem tw6882427118574961969:1=1:=rfl
theorem tw6898005170327248138:1=1:=rfl
theorem tw689954013368505116:1=1:=rfl
theorem tw6931407450589930559:1=1:=rfl
theorem tw6944254716217146218:1=1:=rfl
theorem tw6988595667528144454:1=1:=rfl
theorem tw7120233287515763914:1=1:=rfl
theorem tw7152984921513172624:1=1:=rfl
theorem tw7184745663730752293:1=1:=rfl
theorem tw7256068157193428750:1=1:=rfl
theorem tw7270182246851987180:1=1:=rfl
theorem tw7289601568589263668:1=1:=rfl
theorem tw7289634563603522867:1=1:=rfl
theorem tw7317836474542784337:1=1:=rfl
theorem tw7354087734392854552:1=1:=rfl
theorem tw7366208706002141716:1=1:=rfl
theorem tw7369741819223213686:1=1:=rfl
theorem tw7372000682148998216:1=1:=rfl
theorem tw7399621439246259153:1=1:=rfl
theorem tw7492773218913965947:1=1:=rfl
theorem tw7492944070806833698:1=1:=rfl
theorem tw7510230149288206974:1=1:=rfl
theorem tw7523672394736509286:1=1:=rfl
theorem tw7526368328331116154:1=1:=rfl
theorem tw7540741092611519060:1=1:=rfl
theorem tw7541792107247259296:1=1:=rfl
theorem tw758273949599710562:1=1:=rfl
theorem tw7657299143145469618:1=1:=rfl
theorem tw7702882491108231240:1=1:=rfl
theorem tw7712595579559962911:1=1:=rfl
theorem tw7712819752767893495:1=1:=rfl
theorem tw7746578258024575070:1=1:=rfl
theorem tw7752767780024739350:1=1:=rfl
theorem tw7763873220885509757:1=1:=rfl
theorem tw7792395482447073224:1=1:=rfl
theorem tw7815354588672045779:1=1:=rfl
theorem tw7867956165831070988:1=1:=rfl
theorem tw7872162285098387286:1=1:=rfl
theorem tw7880807054014371918:1=1:=rfl
theorem tw7891253978561527248:1=1:=rfl
theorem tw7898215921889874393:1=1:=rfl
theorem tw7914949630228597729:1=1:=rfl
theorem tw8001178428526945343:1=1:=rfl
theorem tw8025032847418708242:1=1:=rfl
theorem tw8044012406986999415:1=1:=rfl
theorem tw8047900516022102942:1=1:=rfl
theorem tw8053944837975664402:1=1:=rfl
theorem tw8100839570337242658:1=1:=rfl
theorem tw8112040973832200146:1=1:=rfl
theorem tw8117029840178788049:1=1:=rfl
theorem tw8134915037123179040:1=1:=rfl
theorem tw8151903124980380684:1=1:=rfl
theorem tw8184699220007379433:1=1:=rfl
theorem tw8191903926673212241:1=1:=rfl
theorem tw8197050154876552520:1=1:=rfl
theorem tw8242931771332617035:1=1:=rfl
theorem tw8268277133935991078:1=1:=rfl
theorem tw8269573656231971908:1=1:=rfl
theorem tw8293946417935249925:1=1:=rfl
theorem tw8311865607074365958:1=1:=rfl
theorem tw8312999807965096350:1=1:=rfl
theorem tw8317466277049474617:1=1:=rfl
theorem tw8343274005884668182:1=1:=rfl
theorem tw8356816923877370021:1=1:=rfl
theorem tw8404901026856666946:1=1:=rfl
theorem tw8428860471423672150:1=1:=rfl
theorem tw8457440626546761165:1=1:=rfl
theorem tw8531993380330477603:1=1:=rfl
theorem tw8609351116199087170:1=1:=rfl
theorem tw8654268224221117138:1=1:=rfl
theorem tw8664936974563722654:1=1:=rfl
theorem tw8671608845466749128:1=1:=rfl
theorem tw867598499069673859:1=1:=rfl
theorem tw8684328023851190084:1=1:=rfl
theorem tw8716120427605611371:1=1:=rfl
theorem tw876933089483189297:1=1:=rfl
theorem tw8770659054964912022:1=1:=rfl
theorem tw8789358453043137523:1=1:=rfl
theorem tw8803977449572941912:1=1:=rfl
theorem tw881544763273948857:1=1:=rfl
theorem tw8879563391730754479:1=1:=rfl
theorem tw8912803164822033684:1=1:=rfl
theorem tw8927525038215907226:1=1:=rfl
theorem tw8934143017859847078:1=1:=rfl
theorem tw8960069828448710407:1=1:=rfl
theorem tw8965841893048198262:1=1:=rfl
theorem tw9012836324853574702:1=1:=rfl
theorem tw9013056391748086436:1=1:=rfl
theorem tw9073681462420916055:1=1:=rfl
theorem tw9077708301081682751:1=1:=rfl
theorem tw9087110039335098043:1=1:=rfl
theorem tw9153386212771759811:1=1:=rfl
theorem tw920214292312260371:1=1:=rfl
theorem tw9215827820722605749:1=1:=rfl
theorem tw9271970288684553227:1=1:=rfl
theorem tw9277588360372424766:1=1:=rfl
theorem tw9330823016148744750:1=1:=rfl
theorem tw9330943631129107780:1=1:=rfl
theorem tw9357088731924715283:1=1:=rfl
theorem tw9390866547671247325:1=1:=rfl
theorem tw9406673726873002282:1=1:=rfl
theorem tw9420132969298855359:1=1:=rfl
theorem tw9429285754427346401:1=1:=rfl
theorem tw9449672872311958731:1=1:=rfl
theorem tw9467313397243273497:1=1:=rfl
theorem tw9499510787657705874:1=1:=rfl
theorem tw9577689765879766989:1=1:=rfl
theorem tw9631708518359487223:1=1:=rfl
theorem tw9653751418590077562:1=1:=rfl
theorem tw9673543361469618366:1=1:=rfl
theorem tw9719896912496429819:1=1:=rfl
theorem tw9748044761591592747:1=1:=rfl
theorem tw9763420282994701918:1=1:=rfl
theorem tw978945382295711627:1=1:=rfl
theorem tw991583007596301734:1=1:=rfl
theorem tw9927179837433541088:1=1:=rfl
end hd
set_option maxHeartbeats 0
set_option Elab.async true
theorem hd : PySem.Challenge.rw_te0032_05.Holds := by
  w_on; o_law; k_head
  case hw => w_witness2
  k_go0
  rename Frag.In _ _ => KX
  rename Top _ _ _ _ _ _ => TT
  rename Heap.IsList _ _ _ => hL
  rename IntsAre _ _ => hI
  rename Fr _ _ _ _ => FF
  rename (¬ (_ < _)) => hc
  rename Shared.gens _ = #[] => hg
  refine law_go (n := 20) (in_pick KX (K' := KP) (l := KPL) (fun P => by kernel_rfl)) TT hL hI FF ?_ ?_ ?_ ?_ ?_
  · intro x
    show (List.lookup x [(_, _)].reverse).map er = _
    unfold setL
    by_cases hx : x = "script"
    · subst hx; simp
    · have : (x == "script") = false := by simpa using hx
      rw [if_neg hx]
      simp only [List.reverse_cons, List.reverse_nil, List.nil_append, List.lookup_cons, this, List.lookup_nil, Option.map_none]
  · exact room0 _
  · exact Nat.succ_le_succ (Nat.zero_le _)
  · intro X fz hK e1 e2 hl
    obtain ⟨Z, rfl⟩ := Cz.of (X := X) (by rw [hK, e2])
    exact law_body5 (by rw [e2]) rfl hl (by omega)
  · intro f s' hr hF lk
    obtain ⟨m', hF⟩ := hF
    obtain ⟨h', t', rfl, ht⟩ := lk
    cases f with
    | ret v =>
      have hv : v = .bool true := hr
      subst hv
      refine goodW_bool hF hg (raisesW_false ?_) ?_
      · wrow_none_raised
      · wrow_post
    | next => cases hr
    | brk => cases hr
    | cont => cases hr
end Mine
end
set_option maxRecDepth 100000 in
set_option maxHeartbeats 8000000 in
theorem PySem.Challenge.cw_te0032_05_holds : PySem.Challenge.rw_te0032_05.Holds :=
  Mine.hd
