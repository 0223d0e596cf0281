import PyProof.Rows.All
import Wide.All
import OpenK.AllK
import Wide.FinOn
import Open.Tops
import PyProof.IsiBase
import PyProof.IsiH_dict
import PySem.Challenge.RW_wv0062_01
noncomputable section
set_option Elab.async false
set_option linter.all false
local macro_rules | `(tactic| walk_at $s:str) => `(tactic| k_extra $(Lean.Syntax.mkStrLit ("mine " ++ s.getString)))
local macro_rules | `(tactic| cell_enter) => `(tactic| k_extra "mine cell_enter")
local macro_rules | `(tactic| k_enter) => `(tactic| k_extra "mine k_enter")
local macro_rules | `(tactic| k_all) => `(tactic| k_extra "mine k_all")
local macro_rules | `(tactic| k_ne) => `(tactic| k_extra "mine k_ne")
section
namespace Mine
theorem ex2 {α0 α1 : Type} {P : α0 → α1 → Prop} {G : Prop} (h : ∃ x0 x1, P x0 x1) (k : ∀ x0 x1, P x0 x1 → G) : G := h.elim fun x0 h => h.elim fun x1 h => k x0 x1 h
theorem ix2 {α0 α1 : Type} {P : α0 → α1 → Prop} (x0 : α0) (x1 : α1) (h : P x0 x1) : ∃ x0 x1, P x0 x1 := ⟨x0, x1, h⟩
theorem ex3 {α0 α1 α2 : Type} {P : α0 → α1 → α2 → Prop} {G : Prop} (h : ∃ x0 x1 x2, P x0 x1 x2) (k : ∀ x0 x1 x2, P x0 x1 x2 → G) : G := h.elim fun x0 h => h.elim fun x1 h => h.elim fun x2 h => k x0 x1 x2 h
theorem ix3 {α0 α1 α2 : Type} {P : α0 → α1 → α2 → Prop} (x0 : α0) (x1 : α1) (x2 : α2) (h : P x0 x1 x2) : ∃ x0 x1 x2, P x0 x1 x2 := ⟨x0, x1, x2, h⟩
theorem ex4 {α0 α1 α2 α3 : Type} {P : α0 → α1 → α2 → α3 → Prop} {G : Prop} (h : ∃ x0 x1 x2 x3, P x0 x1 x2 x3) (k : ∀ x0 x1 x2 x3, P x0 x1 x2 x3 → G) : G := h.elim fun x0 h => h.elim fun x1 h => h.elim fun x2 h => h.elim fun x3 h => k x0 x1 x2 x3 h
theorem ix4 {α0 α1 α2 α3 : Type} {P : α0 → α1 → α2 → α3 → Prop} (x0 : α0) (x1 : α1) (x2 : α2) (x3 : α3) (h : P x0 x1 x2 x3) : ∃ x0 x1 x2 x3, P x0 x1 x2 x3 := ⟨x0, x1, x2, x3, h⟩
theorem ex5 {α0 α1 α2 α3 α4 : Type} {P : α0 → α1 → α2 → α3 → α4 → Prop} {G : Prop} (h : ∃ x0 x1 x2 x3 x4, P x0 x1 x2 x3 x4) (k : ∀ x0 x1 x2 x3 x4, P x0 x1 x2 x3 x4 → G) : G := h.elim fun x0 h => h.elim fun x1 h => h.elim fun x2 h => h.elim fun x3 h => h.elim fun x4 h => k x0 x1 x2 x3 x4 h
theorem ix5 {α0 α1 α2 α3 α4 : Type} {P : α0 → α1 → α2 → α3 → α4 → Prop} (x0 : α0) (x1 : α1) (x2 : α2) (x3 : α3) (x4 : α4) (h : P x0 x1 x2 x3 x4) : ∃ x0 x1 x2 x3 x4, P x0 x1 x2 x3 x4 := ⟨x0, x1, x2, x3, x4, h⟩
theorem ex6 {α0 α1 α2 α3 α4 α5 : Type} {P : α0 → α1 → α2 → α3 → α4 → α5 → Prop} {G : Prop} (h : ∃ x0 x1 x2 x3 x4 x5, P x0 x1 x2 x3 x4 x5) (k : ∀ x0 x1 x2 x3 x4 x5, P x0 x1 x2 x3 x4 x5 → G) : G := h.elim fun x0 h => h.elim fun x1 h => h.elim fun x2 h => h.elim fun x3 h => h.elim fun x4 h => h.elim fun x5 h => k x0 x1 x2 x3 x4 x5 h
theorem ix6 {α0 α1 α2 α3 α4 α5 : Type} {P : α0 → α1 → α2 → α3 → α4 → α5 → Prop} (x0 : α0) (x1 : α1) (x2 : α2) (x3 : α3) (x4 : α4) (x5 : α5) (h : P x0 x1 x2 x3 x4 x5) : ∃ x0 x1 x2 x3 x4 x5, P x0 x1 x2 x3 x4 x5 := ⟨x0, x1, x2, x3, x4, x5, h⟩
theorem an2 {a0 a1 a2 G : Prop} (h : a0 ∧ a1 ∧ a2) (k : a0 → a1 → a2 → G) : G := k h.1 h.2.1 h.2.2
theorem ia2 {a0 a1 a2 : Prop} (h0 : a0) (h1 : a1) (h2 : a2) : a0 ∧ a1 ∧ a2 := ⟨h0, h1, h2⟩
theorem an3 {a0 a1 a2 a3 G : Prop} (h : a0 ∧ a1 ∧ a2 ∧ a3) (k : a0 → a1 → a2 → a3 → G) : G := k h.1 h.2.1 h.2.2.1 h.2.2.2
theorem ia3 {a0 a1 a2 a3 : Prop} (h0 : a0) (h1 : a1) (h2 : a2) (h3 : a3) : a0 ∧ a1 ∧ a2 ∧ a3 := ⟨h0, h1, h2, h3⟩
theorem an4 {a0 a1 a2 a3 a4 G : Prop} (h : a0 ∧ a1 ∧ a2 ∧ a3 ∧ a4) (k : a0 → a1 → a2 → a3 → a4 → G) : G := k h.1 h.2.1 h.2.2.1 h.2.2.2.1 h.2.2.2.2
theorem ia4 {a0 a1 a2 a3 a4 : Prop} (h0 : a0) (h1 : a1) (h2 : a2) (h3 : a3) (h4 : a4) : a0 ∧ a1 ∧ a2 ∧ a3 ∧ a4 := ⟨h0, h1, h2, h3, h4⟩
theorem an5 {a0 a1 a2 a3 a4 a5 G : Prop} (h : a0 ∧ a1 ∧ a2 ∧ a3 ∧ a4 ∧ a5) (k : a0 → a1 → a2 → a3 → a4 → a5 → G) : G := k h.1 h.2.1 h.2.2.1 h.2.2.2.1 h.2.2.2.2.1 h.2.2.2.2.2
theorem ia5 {a0 a1 a2 a3 a4 a5 : Prop} (h0 : a0) (h1 : a1) (h2 : a2) (h3 : a3) (h4 : a4) (h5 : a5) : a0 ∧ a1 ∧ a2 ∧ a3 ∧ a4 ∧ a5 := ⟨h0, h1, h2, h3, h4, h5⟩
theorem an6 {a0 a1 a2 a3 a4 a5 a6 G : Prop} (h : a0 ∧ a1 ∧ a2 ∧ a3 ∧ a4 ∧ a5 ∧ a6) (k : a0 → a1 → a2 → a3 → a4 → a5 → a6 → G) : G := k h.1 h.2.1 h.2.2.1 h.2.2.2.1 h.2.2.2.2.1 h.2.2.2.2.2.1 h.2.2.2.2.2.2
theorem ia6 {a0 a1 a2 a3 a4 a5 a6 : Prop} (h0 : a0) (h1 : a1) (h2 : a2) (h3 : a3) (h4 : a4) (h5 : a5) (h6 : a6) : a0 ∧ a1 ∧ a2 ∧ a3 ∧ a4 ∧ a5 ∧ a6 := ⟨h0, h1, h2, h3, h4, h5, h6⟩
theorem an7 {a0 a1 a2 a3 a4 a5 a6 a7 G : Prop} (h : a0 ∧ a1 ∧ a2 ∧ a3 ∧ a4 ∧ a5 ∧ a6 ∧ a7) (k : a0 → a1 → a2 → a3 → a4 → a5 → a6 → a7 → G) : G := k h.1 h.2.1 h.2.2.1 h.2.2.2.1 h.2.2.2.2.1 h.2.2.2.2.2.1 h.2.2.2.2.2.2.1 h.2.2.2.2.2.2.2
theorem ia7 {a0 a1 a2 a3 a4 a5 a6 a7 : Prop} (h0 : a0) (h1 : a1) (h2 : a2) (h3 : a3) (h4 : a4) (h5 : a5) (h6 : a6) (h7 : a7) : a0 ∧ a1 ∧ a2 ∧ a3 ∧ a4 ∧ a5 ∧ a6 ∧ a7 := ⟨h0, h1, h2, h3, h4, h5, h6, h7⟩
theorem an8 {a0 a1 a2 a3 a4 a5 a6 a7 a8 G : Prop} (h : a0 ∧ a1 ∧ a2 ∧ a3 ∧ a4 ∧ a5 ∧ a6 ∧ a7 ∧ a8) (k : a0 → a1 → a2 → a3 → a4 → a5 → a6 → a7 → a8 → G) : G := k h.1 h.2.1 h.2.2.1 h.2.2.2.1 h.2.2.2.2.1 h.2.2.2.2.2.1 h.2.2.2.2.2.2.1 h.2.2.2.2.2.2.2.1 h.2.2.2.2.2.2.2.2
theorem ia8 {a0 a1 a2 a3 a4 a5 a6 a7 a8 : Prop} (h0 : a0) (h1 : a1) (h2 : a2) (h3 : a3) (h4 : a4) (h5 : a5) (h6 : a6) (h7 : a7) (h8 : a8) : a0 ∧ a1 ∧ a2 ∧ a3 ∧ a4 ∧ a5 ∧ a6 ∧ a7 ∧ a8 := ⟨h0, h1, h2, h3, h4, h5, h6, h7, h8⟩
theorem sbn {α : Type} {m : List α} : ∀ p ∈ ([] : List α), p ∈ m := fun _ h => nomatch h
theorem sbr {α : Type} {m : List α} : ∀ p ∈ m, p ∈ m := fun _ h => h
theorem sbl {α : Type} {l m : List α} : ∀ p ∈ l, p ∈ l ++ m := fun _ h => List.mem_append_left _ h
theorem sbq {α : Type} {l m : List α} : ∀ p ∈ m, p ∈ l ++ m := fun _ h => List.mem_append_right _ h
theorem sbc {α : Type} {a : α} {l m : List α} (h : a ∈ m) (k : ∀ p ∈ l, p ∈ m) : ∀ p ∈ a :: l, p ∈ m := List.forall_mem_cons.mpr ⟨h, k⟩
theorem sba {α : Type} {l r m : List α} (h : ∀ p ∈ l, p ∈ m) (k : ∀ p ∈ r, p ∈ m) : ∀ p ∈ l ++ r, p ∈ m := fun p z => (List.mem_append.mp z).elim (h p) (k p)
theorem sbt {α : Type} {a : α} {l m : List α} (k : ∀ p ∈ l, p ∈ m) : ∀ p ∈ l, p ∈ a :: m := fun p h => .tail _ (k p h)
theorem sbp {α : Type} {b l m : List α} (k : ∀ p ∈ l, p ∈ m) : ∀ p ∈ l, p ∈ b ++ m := fun p h => List.mem_append_right _ (k p h)
theorem mmh {α : Type} {a : α} {l : List α} : a ∈ a :: l := .head _
theorem mmt {α : Type} {a b : α} {l : List α} (h : a ∈ l) : a ∈ b :: l := .tail _ h
theorem mmr {α : Type} {a : α} {b l : List α} (h : a ∈ l) : a ∈ b ++ l := List.mem_append_right _ h
theorem lnC {α : Type} {n : Nat} {Q : List α → Prop} (k : ∀ a, ∀ t, t.length = n → Q (a :: t)) : ∀ l, l.length = n + 1 → Q l
 | a :: t, h => k a t (Nat.succ.inj h)
theorem ln0 {α : Type} {Q : List α → Prop} (k : Q []) : ∀ l, l.length = 0 → Q l
 | [], _ => k
theorem lsix {l : List Int} (h : l.length = 6) : ∃ a b c d e f, l = [a, b, c, d, e, f] := by
 revert l; exact @lnC _ _ _ fun a => lnC fun b => lnC fun c => lnC fun d => lnC fun e => lnC fun f => ln0 (ix6 a b c d e f rfl)
end Mine
end
section
open PySem PySem.W PyProof.Rows PySem.Calls PySem.Spec
namespace Mine
theorem hdG {G : Prop} (k : ∀ X : Prop, (G → X) → X) : G := k G id
theorem cj0 {p q : Prop} (h : p ∧ q) : p := h.1
theorem cj1 {a0 p q : Prop} (h : a0 ∧ p ∧ q) : p := h.2.1
theorem cj2 {a0 a1 p q : Prop} (h : a0 ∧ a1 ∧ p ∧ q) : p := h.2.2.1
theorem cj3 {a0 a1 a2 p q : Prop} (h : a0 ∧ a1 ∧ a2 ∧ p ∧ q) : p := h.2.2.2.1
theorem cj4 {a0 a1 a2 a3 p q : Prop} (h : a0 ∧ a1 ∧ a2 ∧ a3 ∧ p ∧ q) : p := h.2.2.2.2.1
theorem cj5 {a0 a1 a2 a3 a4 p q : Prop} (h : a0 ∧ a1 ∧ a2 ∧ a3 ∧ a4 ∧ p ∧ q) : p := h.2.2.2.2.2.1
theorem cj6 {a0 a1 a2 a3 a4 a5 p q : Prop} (h : a0 ∧ a1 ∧ a2 ∧ a3 ∧ a4 ∧ a5 ∧ p ∧ q) : p := h.2.2.2.2.2.2.1
theorem cj7 {a0 a1 a2 a3 a4 a5 a6 p q : Prop} (h : a0 ∧ a1 ∧ a2 ∧ a3 ∧ a4 ∧ a5 ∧ a6 ∧ p ∧ q) : p := h.2.2.2.2.2.2.2.1
theorem cj8 {a0 a1 a2 a3 a4 a5 a6 a7 p q : Prop} (h : a0 ∧ a1 ∧ a2 ∧ a3 ∧ a4 ∧ a5 ∧ a6 ∧ a7 ∧ p ∧ q) : p := h.2.2.2.2.2.2.2.2.1
theorem cj9 {a0 a1 a2 a3 a4 a5 a6 a7 a8 p q : Prop} (h : a0 ∧ a1 ∧ a2 ∧ a3 ∧ a4 ∧ a5 ∧ a6 ∧ a7 ∧ a8 ∧ p ∧ q) : p := h.2.2.2.2.2.2.2.2.2.1
theorem cj10 {a0 a1 a2 a3 a4 a5 a6 a7 a8 a9 p q : Prop} (h : a0 ∧ a1 ∧ a2 ∧ a3 ∧ a4 ∧ a5 ∧ a6 ∧ a7 ∧ a8 ∧ a9 ∧ p ∧ q) : p := h.2.2.2.2.2.2.2.2.2.2.1
theorem cj11 {a0 a1 a2 a3 a4 a5 a6 a7 a8 a9 a10 p q : Prop} (h : a0 ∧ a1 ∧ a2 ∧ a3 ∧ a4 ∧ a5 ∧ a6 ∧ a7 ∧ a8 ∧ a9 ∧ a10 ∧ p ∧ q) : p := h.2.2.2.2.2.2.2.2.2.2.2.1
theorem cj12 {a0 a1 a2 a3 a4 a5 a6 a7 a8 a9 a10 a11 p q : Prop} (h : a0 ∧ a1 ∧ a2 ∧ a3 ∧ a4 ∧ a5 ∧ a6 ∧ a7 ∧ a8 ∧ a9 ∧ a10 ∧ a11 ∧ p ∧ q) : p := h.2.2.2.2.2.2.2.2.2.2.2.2.1
theorem cj13 {a0 a1 a2 a3 a4 a5 a6 a7 a8 a9 a10 a11 a12 p q : Prop} (h : a0 ∧ a1 ∧ a2 ∧ a3 ∧ a4 ∧ a5 ∧ a6 ∧ a7 ∧ a8 ∧ a9 ∧ a10 ∧ a11 ∧ a12 ∧ p ∧ q) : p := h.2.2.2.2.2.2.2.2.2.2.2.2.2.1
theorem cj14 {a0 a1 a2 a3 a4 a5 a6 a7 a8 a9 a10 a11 a12 a13 p q : Prop} (h : a0 ∧ a1 ∧ a2 ∧ a3 ∧ a4 ∧ a5 ∧ a6 ∧ a7 ∧ a8 ∧ a9 ∧ a10 ∧ a11 ∧ a12 ∧ a13 ∧ p ∧ q) : p := h.2.2.2.2.2.2.2.2.2.2.2.2.2.2.1
theorem cj15 {a0 a1 a2 a3 a4 a5 a6 a7 a8 a9 a10 a11 a12 a13 a14 p q : Prop} (h : a0 ∧ a1 ∧ a2 ∧ a3 ∧ a4 ∧ a5 ∧ a6 ∧ a7 ∧ a8 ∧ a9 ∧ a10 ∧ a11 ∧ a12 ∧ a13 ∧ a14 ∧ p ∧ q) : p := h.2.2.2.2.2.2.2.2.2.2.2.2.2.2.2.1
theorem dk1 {a0 p : Prop} (h : a0 ∧ p) : p := h.2
theorem dk2 {a0 a1 p : Prop} (h : a0 ∧ a1 ∧ p) : p := h.2.2
theorem dk3 {a0 a1 a2 p : Prop} (h : a0 ∧ a1 ∧ a2 ∧ p) : p := h.2.2.2
theorem dk4 {a0 a1 a2 a3 p : Prop} (h : a0 ∧ a1 ∧ a2 ∧ a3 ∧ p) : p := h.2.2.2.2
theorem dk5 {a0 a1 a2 a3 a4 p : Prop} (h : a0 ∧ a1 ∧ a2 ∧ a3 ∧ a4 ∧ p) : p := h.2.2.2.2.2
theorem dk6 {a0 a1 a2 a3 a4 a5 p : Prop} (h : a0 ∧ a1 ∧ a2 ∧ a3 ∧ a4 ∧ a5 ∧ p) : p := h.2.2.2.2.2.2
theorem dk7 {a0 a1 a2 a3 a4 a5 a6 p : Prop} (h : a0 ∧ a1 ∧ a2 ∧ a3 ∧ a4 ∧ a5 ∧ a6 ∧ p) : p := h.2.2.2.2.2.2.2
theorem dk8 {a0 a1 a2 a3 a4 a5 a6 a7 p : Prop} (h : a0 ∧ a1 ∧ a2 ∧ a3 ∧ a4 ∧ a5 ∧ a6 ∧ a7 ∧ p) : p := h.2.2.2.2.2.2.2.2
theorem dk9 {a0 a1 a2 a3 a4 a5 a6 a7 a8 p : Prop} (h : a0 ∧ a1 ∧ a2 ∧ a3 ∧ a4 ∧ a5 ∧ a6 ∧ a7 ∧ a8 ∧ p) : p := h.2.2.2.2.2.2.2.2.2
theorem dk10 {a0 a1 a2 a3 a4 a5 a6 a7 a8 a9 p : Prop} (h : a0 ∧ a1 ∧ a2 ∧ a3 ∧ a4 ∧ a5 ∧ a6 ∧ a7 ∧ a8 ∧ a9 ∧ p) : p := h.2.2.2.2.2.2.2.2.2.2
theorem dk11 {a0 a1 a2 a3 a4 a5 a6 a7 a8 a9 a10 p : Prop} (h : a0 ∧ a1 ∧ a2 ∧ a3 ∧ a4 ∧ a5 ∧ a6 ∧ a7 ∧ a8 ∧ a9 ∧ a10 ∧ p) : p := h.2.2.2.2.2.2.2.2.2.2.2
theorem dk12 {a0 a1 a2 a3 a4 a5 a6 a7 a8 a9 a10 a11 p : Prop} (h : a0 ∧ a1 ∧ a2 ∧ a3 ∧ a4 ∧ a5 ∧ a6 ∧ a7 ∧ a8 ∧ a9 ∧ a10 ∧ a11 ∧ p) : p := h.2.2.2.2.2.2.2.2.2.2.2.2
theorem dk13 {a0 a1 a2 a3 a4 a5 a6 a7 a8 a9 a10 a11 a12 p : Prop} (h : a0 ∧ a1 ∧ a2 ∧ a3 ∧ a4 ∧ a5 ∧ a6 ∧ a7 ∧ a8 ∧ a9 ∧ a10 ∧ a11 ∧ a12 ∧ p) : p := h.2.2.2.2.2.2.2.2.2.2.2.2.2
theorem dk14 {a0 a1 a2 a3 a4 a5 a6 a7 a8 a9 a10 a11 a12 a13 p : Prop} (h : a0 ∧ a1 ∧ a2 ∧ a3 ∧ a4 ∧ a5 ∧ a6 ∧ a7 ∧ a8 ∧ a9 ∧ a10 ∧ a11 ∧ a12 ∧ a13 ∧ p) : p := h.2.2.2.2.2.2.2.2.2.2.2.2.2.2
theorem dk15 {a0 a1 a2 a3 a4 a5 a6 a7 a8 a9 a10 a11 a12 a13 a14 p : Prop} (h : a0 ∧ a1 ∧ a2 ∧ a3 ∧ a4 ∧ a5 ∧ a6 ∧ a7 ∧ a8 ∧ a9 ∧ a10 ∧ a11 ∧ a12 ∧ a13 ∧ a14 ∧ p) : p := h.2.2.2.2.2.2.2.2.2.2.2.2.2.2.2
end Mine
end
section
open PySem PySem.W PyProof.Rows PySem.Calls PySem.Spec
set_option genInjectivity false
set_option genSizeOf false
namespace Mine
structure Bag where
 prog : Nat → Program
 w : Nat → World
 nat : Nat → Nat
 addr : Nat → Addr
 tok : Nat → Tok
 int : Nat → Int
 u64 : Nat → UInt64
 bool : Nat → Bool
 prop : Nat → Prop
 val : Nat → Value
 obj : Nat → Obj
 str : Nat → Str
 heap : Nat → Heap
 fr : Nat → Str → Option Value
 env : Nat → Env
 scope : Nat → Scope
 pos : Nat → Pos
 expr : Nat → PySem.Expr
 exprs : Nat → List PySem.Expr
 stmts : Nat → List Stmt
 arr : Nat → Array Value
 il : Nat → List Int
 vl : Nat → List Value
 al : Nat → List Addr
 kvs : Nat → List (Int × Value)
 iis : Nat → List (Int × Int)
 iil : Nat → List (Int × List Int)
 ao : Nat → Addr × Obj
 led : Nat → List (Addr × Obj)
 ledF : Nat → Obj → List (Addr × Obj)
 cl : Nat → List (Str × Addr)
 gd : Nat → Option (List Code)
 outer : Nat → List Env
 A : Nat → Around
 s : Nat → Shared
 qv : Nat → Value → Shared → Prop
 qf : Nat → Flow → Shared → Prop
 qu : Nat → Unit → Shared → Prop
 qr : Nat → Result → Shared → Prop
 nv : Nat → Nat → Value → Prop
 nh : Nat → Nat → Heap → Prop
 gens : Nat → Array GenState
 an : Nat → Nat → Addr
 nn : Nat → Nat → Nat
 ent : Nat → DictEntry
 frr : Nat → (Str → Option Value) → Str → Option Value
noncomputable def bag0 : Bag := ⟨fun _ => (default : Program), fun _ => (aWorld 1 : World), fun _ => (0 : Nat), fun _ => (0 : Addr), fun _ => (0 : Tok), fun _ => (0 : Int), fun _ => (0 : UInt64), fun _ => (true : Bool), fun _ => (True : Prop), fun _ => (.none : Value), fun _ => (default : Obj), fun _ => (default : Str), fun _ => (default : Heap), fun _ => (fun _ => none : Str → Option Value), fun _ => (default : Env), fun _ => (default : Scope), fun _ => (default : Pos), fun _ => (default : PySem.Expr), fun _ => ([] : List PySem.Expr), fun _ => ([] : List Stmt), fun _ => (#[] : Array Value), fun _ => ([] : List Int), fun _ => ([] : List Value), fun _ => ([] : List Addr), fun _ => ([] : List (Int × Value)), fun _ => ([] : List (Int × Int)), fun _ => ([] : List (Int × List Int)), fun _ => ((0, default) : Addr × Obj), fun _ => ([] : List (Addr × Obj)), fun _ => (fun _ => [] : Obj → List (Addr × Obj)), fun _ => ([] : List (Str × Addr)), fun _ => (none : Option (List Code)), fun _ => ([] : List Env), fun _ => ({} : Around), fun _ => ({} : Shared), fun _ => (fun _ _ => True : Value → Shared → Prop), fun _ => (fun _ _ => True : Flow → Shared → Prop), fun _ => (fun _ _ => True : Unit → Shared → Prop), fun _ => (fun _ _ => True : Result → Shared → Prop), fun _ => (fun _ _ => True : Nat → Value → Prop), fun _ => (fun _ _ => True : Nat → Heap → Prop), fun _ => (#[] : Array GenState), fun _ => (fun _ => 0 : Nat → Addr), fun _ => (fun _ => 0 : Nat → Nat), fun _ => (⟨0, .none, .none⟩ : DictEntry), fun _ => (fun _ _ => none : (Str → Option Value) → Str → Option Value)⟩
@[irreducible] def bagOf (P : Bag → Prop) : Bag := @Classical.epsilon Bag ⟨bag0⟩ fun c => ¬ P c
theorem bag_all {P : Bag → Prop} (h : P (bagOf P)) (c : Bag) : P c := Classical.byContradiction fun n => by
 have z := @Classical.epsilon_spec Bag (fun c => ¬ P c) ⟨c, n⟩
 unfold bagOf at h
 exact z h
noncomputable def nth {α : Type} (l : List α) (d : Nat → α) (i : Nat) : α := match l.drop i with
 | x :: _ => x
 | [] => d i
end Mine
namespace Mine
theorem bag4 {R : Heap → Addr → Heap → Nat → Prop} (P : Bag → Prop) (e : P = fun c => R (c.heap 0) (c.addr 0) (c.heap 1) (c.nat 0)) (h : P (bagOf P)) : ∀ g L h₁ tk, R g L h₁ tk := by
 subst e
 intro g L h₁ tk
 exact bag_all (P := fun c => R (c.heap 0) (c.addr 0) (c.heap 1) (c.nat 0)) h { bag0 with heap := nth [g, h₁] bag0.heap, addr := fun _ => L, nat := fun _ => tk }
theorem bagLaw {R : World → Shared → Shared → (Str → Option Value) → (Str → Option Value) → Addr → Obj → Value → Value → Value → List Int → List Addr → List Addr → Addr → List Value → List Addr → Heap → Nat → Obj → Obj → ((Str → Option Value) → Str → Option Value) → Prop} (P : Bag → Prop)
  (e : P = fun c => R (c.w 0) (c.s 0) (c.s 1) (c.fr 0) (c.fr 1) (c.addr 0) (c.obj 0) (c.val 0) (c.val 1) (c.val 2) (c.il 0) (c.al 0) (c.al 1) (c.addr 1) (c.vl 0) (c.al 2) (c.heap 0) (c.nat 0) (c.obj 1) (c.obj 2) (c.frr 0)) (h : P (bagOf P)) :
  ∀ a1 a2 a3 a4 a5 a6 a7 a8 a9 b1 b2 b3 b4 b5 b6 b7 b8 b9 c1 c2 c3, R a1 a2 a3 a4 a5 a6 a7 a8 a9 b1 b2 b3 b4 b5 b6 b7 b8 b9 c1 c2 c3 := by
 subst e
 intro a1 a2 a3 a4 a5 a6 a7 a8 a9 b1 b2 b3 b4 b5 b6 b7 b8 b9 c1 c2 c3
 exact bag_all (P := fun c => R (c.w 0) (c.s 0) (c.s 1) (c.fr 0) (c.fr 1) (c.addr 0) (c.obj 0) (c.val 0) (c.val 1) (c.val 2) (c.il 0) (c.al 0) (c.al 1) (c.addr 1) (c.vl 0) (c.al 2) (c.heap 0) (c.nat 0) (c.obj 1) (c.obj 2) (c.frr 0)) h
  { bag0 with w := fun _ => a1, s := nth [a2, a3] bag0.s, fr := nth [a4, a5] bag0.fr, addr := nth [a6, b5] bag0.addr, obj := nth [a7, c1, c2] bag0.obj, val := nth [a8, a9, b1] bag0.val, il := fun _ => b2, al := nth [b3, b4, b7] bag0.al, vl := fun _ => b6, heap := fun _ => b8, nat := fun _ => b9, frr := fun _ => c3 }
end Mine
end
section
open PySem PySem.W
set_option maxRecDepth 100000
namespace Mine
set_option Elab.async false
set_option maxHeartbeats 0
noncomputable def anyFast (as : Array Nat) (p : Nat → Bool) (s t : Nat) : Bool := cond (Nat.beq s 0 && Nat.beq t as.size) (R.anyR as.toList p) (Array.any as p s t)
theorem anyFast_eq : @Array.any Nat = anyFast := by
 funext as p s t
 unfold anyFast
 cases h : (Nat.beq s 0 && Nat.beq t as.size) with
 | false => rfl
 | true =>
  obtain ⟨h1, h2⟩ := Bool.and_eq_true_iff.mp h
  have h1 := Nat.eq_of_beq_eq_true h1
  have h2 := Nat.eq_of_beq_eq_true h2
  subst h1 h2
  show _ = R.anyR as.toList p
  rw [← Array.any_toList, R.anyR_eq]
noncomputable def rhsOf {α : Type} {a b : α} (_ : a = b) : α := b
noncomputable def tnewT := (show PySem.W.Fast.tw4202317264376624991 = _ from by
 delta PySem.W.Fast.tw4202317264376624991
 rw [anyFast_eq])
noncomputable def tnew : Builtin := rhsOf tnewT
theorem tnew_eq : Builtin.«type.__new__» = tnew := PySem.W.Fast.te4202317264376624991.trans tnewT
noncomputable def tab (id : String) : Option Builtin := @ite _ (id = "type.__new__") (instDecidableEqString id "type.__new__") (some tnew) (treeTable id)
theorem tab_eq : treeTable = tab := by
 funext id
 unfold tab
 by_cases h : id = "type.__new__"
 ·rw [if_pos h, h]
  have : treeTable "type.__new__" = some Builtin.«type.__new__» := by kernel_rfl!
  rw [this, tnew_eq]
 ·rw [if_neg h]
noncomputable def Ph (p : Program) (i : Nat) (f : Nat → Str) (q : Program) (l : List Str) : Prop := True
theorem ph_all {f : Nat → Str} {F : Str → Program} {s : Str} {i : Nat} {q : Program} {l : List Str} (h : Ph (F (f i)) (i+1) f q l) : ∀ x, s = x → Ph (F x) i f q (s :: l) := fun _ _ => trivial
theorem ph_go {f : Nat → Str} {i : Nat} {p q a : Program} {l b : List Str} (_ : Ph p i f q l) (_ : q = a) (_ : l = b) : Ph p i f a b := trivial
theorem ph_end {f : Nat → Str} {i : Nat} {p : Program} : Ph p i f p [] := trivial
noncomputable def pwBL (f : Nat → Str) : Program × List Str := by
 have h0 : ∀ p : Prop, p → True := fun _ _ => trivial
 specialize h0 (Ph PySem.Challenge.pw_wv0062_01 0 f ?aa ?zz) (by
  apply ph_go
  delta PySem.Challenge.pw_wv0062_01
  iterate 241 (with_reducible generalize hx : Str.ofString _ = x; revert x; apply ph_all)
  exact ph_end
  exact rfl
  exact rfl)
 exact (?aa, ?zz)
noncomputable def nthS (l : List Str) : Nat → Str := List.rec (motive := fun _ => Nat → Str) (fun _ => default) (fun a _ ih i => Nat.rec (motive := fun _ => Str) a (fun j _ => ih j) i) l
noncomputable def nmL : List Str := (pwBL fun _ => default).2
noncomputable def st0 : List Str := by
 have h0 : ∀ p : Prop, p → True := fun _ _ => trivial
 specialize h0 (nmL.drop 0 = ?a0 :: ?a1 :: ?a2 :: ?a3 :: ?a4 :: ?a5 :: ?a6 :: ?r) rfl
 exact [?a0, ?a1, ?a2, ?a3, ?a4, ?a5, ?a6]
noncomputable def st1 : List Str := by
 have h0 : ∀ p : Prop, p → True := fun _ _ => trivial
 specialize h0 (nmL.drop 7 = ?a0 :: ?a1 :: ?a2 :: ?a3 :: ?a4 :: ?a5 :: ?a6 :: ?r) rfl
 exact [?a0, ?a1, ?a2, ?a3, ?a4, ?a5, ?a6]
noncomputable def st2 : List Str := by
 have h0 : ∀ p : Prop, p → True := fun _ _ => trivial
 specialize h0 (nmL.drop 14 = ?a0 :: ?a1 :: ?a2 :: ?a3 :: ?a4 :: ?a5 :: ?a6 :: ?r) rfl
 exact [?a0, ?a1, ?a2, ?a3, ?a4, ?a5, ?a6]
noncomputable def st3 : List Str := by
 have h0 : ∀ p : Prop, p → True := fun _ _ => trivial
 specialize h0 (nmL.drop 21 = ?a0 :: ?a1 :: ?a2 :: ?a3 :: ?a4 :: ?a5 :: ?a6 :: ?r) rfl
 exact [?a0, ?a1, ?a2, ?a3, ?a4, ?a5, ?a6]
noncomputable def st4 : List Str := by
 have h0 : ∀ p : Prop, p → True := fun _ _ => trivial
 specialize h0 (nmL.drop 28 = ?a0 :: ?a1 :: ?a2 :: ?a3 :: ?a4 :: ?a5 :: ?a6 :: ?r) rfl
 exact [?a0, ?a1, ?a2, ?a3, ?a4, ?a5, ?a6]
noncomputable def st5 : List Str := by
 have h0 : ∀ p : Prop, p → True := fun _ _ => trivial
 specialize h0 (nmL.drop 35 = ?a0 :: ?a1 :: ?r) rfl
 exact [?a0, ?a1]
noncomputable def sd6 : List Str := by
 have h0 : ∀ p : Prop, p → True := fun _ _ => trivial
 specialize h0 (nmL.drop 37 = ?a0 :: ?r) rfl
 exact [?a0]
noncomputable def st7 : List Str := by
 have h0 : ∀ p : Prop, p → True := fun _ _ => trivial
 specialize h0 (nmL.drop 38 = ?a0 :: ?a1 :: ?a2 :: ?a3 :: ?a4 :: ?a5 :: ?a6 :: ?r) rfl
 exact [?a0, ?a1, ?a2, ?a3, ?a4, ?a5, ?a6]
noncomputable def sd8 : List Str := by
 have h0 : ∀ p : Prop, p → True := fun _ _ => trivial
 specialize h0 (nmL.drop 45 = ?a0 :: ?r) rfl
 exact [?a0]
noncomputable def st9 : List Str := by
 have h0 : ∀ p : Prop, p → True := fun _ _ => trivial
 specialize h0 (nmL.drop 46 = ?a0 :: ?a1 :: ?a2 :: ?a3 :: ?a4 :: ?a5 :: ?a6 :: ?r) rfl
 exact [?a0, ?a1, ?a2, ?a3, ?a4, ?a5, ?a6]
noncomputable def st10 : List Str := by
 have h0 : ∀ p : Prop, p → True := fun _ _ => trivial
 specialize h0 (nmL.drop 53 = ?a0 :: ?r) rfl
 exact [?a0]
noncomputable def sd11 : List Str := by
 have h0 : ∀ p : Prop, p → True := fun _ _ => trivial
 specialize h0 (nmL.drop 54 = ?a0 :: ?r) rfl
 exact [?a0]
noncomputable def st12 : List Str := by
 have h0 : ∀ p : Prop, p → True := fun _ _ => trivial
 specialize h0 (nmL.drop 55 = ?a0 :: ?a1 :: ?a2 :: ?r) rfl
 exact [?a0, ?a1, ?a2]
noncomputable def sd13 : List Str := by
 have h0 : ∀ p : Prop, p → True := fun _ _ => trivial
 specialize h0 (nmL.drop 58 = ?a0 :: ?r) rfl
 exact [?a0]
noncomputable def st14 : List Str := by
 have h0 : ∀ p : Prop, p → True := fun _ _ => trivial
 specialize h0 (nmL.drop 59 = ?a0 :: ?a1 :: ?a2 :: ?a3 :: ?a4 :: ?a5 :: ?a6 :: ?r) rfl
 exact [?a0, ?a1, ?a2, ?a3, ?a4, ?a5, ?a6]
noncomputable def st15 : List Str := by
 have h0 : ∀ p : Prop, p → True := fun _ _ => trivial
 specialize h0 (nmL.drop 66 = ?a0 :: ?r) rfl
 exact [?a0]
noncomputable def st16 : List Str := by
 have h0 : ∀ p : Prop, p → True := fun _ _ => trivial
 specialize h0 (nmL.drop 67 = ?a0 :: ?r) rfl
 exact [?a0]
noncomputable def st17 : List Str := by
 have h0 : ∀ p : Prop, p → True := fun _ _ => trivial
 specialize h0 (nmL.drop 68 = ?a0 :: ?a1 :: ?a2 :: ?r) rfl
 exact [?a0, ?a1, ?a2]
noncomputable def sd18 : List Str := by
 have h0 : ∀ p : Prop, p → True := fun _ _ => trivial
 specialize h0 (nmL.drop 71 = ?a0 :: ?r) rfl
 exact [?a0]
noncomputable def st19 : List Str := by
 have h0 : ∀ p : Prop, p → True := fun _ _ => trivial
 specialize h0 (nmL.drop 72 = ?a0 :: ?r) rfl
 exact [?a0]
noncomputable def sd20 : List Str := by
 have h0 : ∀ p : Prop, p → True := fun _ _ => trivial
 specialize h0 (nmL.drop 73 = ?a0 :: ?r) rfl
 exact [?a0]
noncomputable def st21 : List Str := by
 have h0 : ∀ p : Prop, p → True := fun _ _ => trivial
 specialize h0 (nmL.drop 74 = ?a0 :: ?a1 :: ?r) rfl
 exact [?a0, ?a1]
noncomputable def sd22 : List Str := by
 have h0 : ∀ p : Prop, p → True := fun _ _ => trivial
 specialize h0 (nmL.drop 76 = ?a0 :: ?r) rfl
 exact [?a0]
noncomputable def st23 : List Str := by
 have h0 : ∀ p : Prop, p → True := fun _ _ => trivial
 specialize h0 (nmL.drop 77 = ?a0 :: ?a1 :: ?r) rfl
 exact [?a0, ?a1]
noncomputable def sd24 : List Str := by
 have h0 : ∀ p : Prop, p → True := fun _ _ => trivial
 specialize h0 (nmL.drop 79 = ?a0 :: ?r) rfl
 exact [?a0]
noncomputable def st25 : List Str := by
 have h0 : ∀ p : Prop, p → True := fun _ _ => trivial
 specialize h0 (nmL.drop 80 = ?a0 :: ?a1 :: ?a2 :: ?a3 :: ?a4 :: ?a5 :: ?a6 :: ?r) rfl
 exact [?a0, ?a1, ?a2, ?a3, ?a4, ?a5, ?a6]
noncomputable def st26 : List Str := by
 have h0 : ∀ p : Prop, p → True := fun _ _ => trivial
 specialize h0 (nmL.drop 87 = ?a0 :: ?a1 :: ?a2 :: ?a3 :: ?a4 :: ?a5 :: ?a6 :: ?r) rfl
 exact [?a0, ?a1, ?a2, ?a3, ?a4, ?a5, ?a6]
noncomputable def st27 : List Str := by
 have h0 : ∀ p : Prop, p → True := fun _ _ => trivial
 specialize h0 (nmL.drop 94 = ?a0 :: ?a1 :: ?a2 :: ?a3 :: ?a4 :: ?a5 :: ?a6 :: ?r) rfl
 exact [?a0, ?a1, ?a2, ?a3, ?a4, ?a5, ?a6]
noncomputable def st28 : List Str := by
 have h0 : ∀ p : Prop, p → True := fun _ _ => trivial
 specialize h0 (nmL.drop 101 = ?a0 :: ?a1 :: ?a2 :: ?a3 :: ?a4 :: ?r) rfl
 exact [?a0, ?a1, ?a2, ?a3, ?a4]
noncomputable def sd29 : List Str := by
 have h0 : ∀ p : Prop, p → True := fun _ _ => trivial
 specialize h0 (nmL.drop 106 = ?a0 :: ?r) rfl
 exact [?a0]
noncomputable def st30 : List Str := by
 have h0 : ∀ p : Prop, p → True := fun _ _ => trivial
 specialize h0 (nmL.drop 107 = ?a0 :: ?a1 :: ?a2 :: ?a3 :: ?a4 :: ?a5 :: ?a6 :: ?r) rfl
 exact [?a0, ?a1, ?a2, ?a3, ?a4, ?a5, ?a6]
noncomputable def st31 : List Str := by
 have h0 : ∀ p : Prop, p → True := fun _ _ => trivial
 specialize h0 (nmL.drop 114 = ?a0 :: ?a1 :: ?a2 :: ?a3 :: ?a4 :: ?a5 :: ?r) rfl
 exact [?a0, ?a1, ?a2, ?a3, ?a4, ?a5]
noncomputable def sd32 : List Str := by
 have h0 : ∀ p : Prop, p → True := fun _ _ => trivial
 specialize h0 (nmL.drop 120 = ?a0 :: ?r) rfl
 exact [?a0]
noncomputable def st33 : List Str := by
 have h0 : ∀ p : Prop, p → True := fun _ _ => trivial
 specialize h0 (nmL.drop 121 = ?a0 :: ?a1 :: ?a2 :: ?a3 :: ?a4 :: ?a5 :: ?a6 :: ?r) rfl
 exact [?a0, ?a1, ?a2, ?a3, ?a4, ?a5, ?a6]
noncomputable def st34 : List Str := by
 have h0 : ∀ p : Prop, p → True := fun _ _ => trivial
 specialize h0 (nmL.drop 128 = ?a0 :: ?a1 :: ?a2 :: ?a3 :: ?a4 :: ?a5 :: ?a6 :: ?r) rfl
 exact [?a0, ?a1, ?a2, ?a3, ?a4, ?a5, ?a6]
noncomputable def st35 : List Str := by
 have h0 : ∀ p : Prop, p → True := fun _ _ => trivial
 specialize h0 (nmL.drop 135 = ?a0 :: ?r) rfl
 exact [?a0]
noncomputable def sd36 : List Str := by
 have h0 : ∀ p : Prop, p → True := fun _ _ => trivial
 specialize h0 (nmL.drop 136 = ?a0 :: ?r) rfl
 exact [?a0]
noncomputable def st37 : List Str := by
 have h0 : ∀ p : Prop, p → True := fun _ _ => trivial
 specialize h0 (nmL.drop 137 = ?a0 :: ?a1 :: ?a2 :: ?a3 :: ?r) rfl
 exact [?a0, ?a1, ?a2, ?a3]
noncomputable def sd38 : List Str := by
 have h0 : ∀ p : Prop, p → True := fun _ _ => trivial
 specialize h0 (nmL.drop 141 = ?a0 :: ?r) rfl
 exact [?a0]
noncomputable def st39 : List Str := by
 have h0 : ∀ p : Prop, p → True := fun _ _ => trivial
 specialize h0 (nmL.drop 142 = ?a0 :: ?a1 :: ?a2 :: ?a3 :: ?r) rfl
 exact [?a0, ?a1, ?a2, ?a3]
noncomputable def sd40 : List Str := by
 have h0 : ∀ p : Prop, p → True := fun _ _ => trivial
 specialize h0 (nmL.drop 146 = ?a0 :: ?r) rfl
 exact [?a0]
noncomputable def st41 : List Str := by
 have h0 : ∀ p : Prop, p → True := fun _ _ => trivial
 specialize h0 (nmL.drop 147 = ?a0 :: ?a1 :: ?a2 :: ?a3 :: ?a4 :: ?a5 :: ?a6 :: ?r) rfl
 exact [?a0, ?a1, ?a2, ?a3, ?a4, ?a5, ?a6]
noncomputable def st42 : List Str := by
 have h0 : ∀ p : Prop, p → True := fun _ _ => trivial
 specialize h0 (nmL.drop 154 = ?a0 :: ?a1 :: ?a2 :: ?a3 :: ?a4 :: ?a5 :: ?a6 :: ?r) rfl
 exact [?a0, ?a1, ?a2, ?a3, ?a4, ?a5, ?a6]
noncomputable def st43 : List Str := by
 have h0 : ∀ p : Prop, p → True := fun _ _ => trivial
 specialize h0 (nmL.drop 161 = ?a0 :: ?a1 :: ?a2 :: ?a3 :: ?a4 :: ?r) rfl
 exact [?a0, ?a1, ?a2, ?a3, ?a4]
noncomputable def sd44 : List Str := by
 have h0 : ∀ p : Prop, p → True := fun _ _ => trivial
 specialize h0 (nmL.drop 166 = ?a0 :: ?r) rfl
 exact [?a0]
noncomputable def st45 : List Str := by
 have h0 : ∀ p : Prop, p → True := fun _ _ => trivial
 specialize h0 (nmL.drop 167 = ?a0 :: ?a1 :: ?a2 :: ?a3 :: ?a4 :: ?a5 :: ?a6 :: ?r) rfl
 exact [?a0, ?a1, ?a2, ?a3, ?a4, ?a5, ?a6]
noncomputable def sd46 : List Str := by
 have h0 : ∀ p : Prop, p → True := fun _ _ => trivial
 specialize h0 (nmL.drop 174 = ?a0 :: ?r) rfl
 exact [?a0]
noncomputable def st47 : List Str := by
 have h0 : ∀ p : Prop, p → True := fun _ _ => trivial
 specialize h0 (nmL.drop 175 = ?a0 :: ?a1 :: ?a2 :: ?a3 :: ?a4 :: ?a5 :: ?a6 :: ?r) rfl
 exact [?a0, ?a1, ?a2, ?a3, ?a4, ?a5, ?a6]
noncomputable def st48 : List Str := by
 have h0 : ∀ p : Prop, p → True := fun _ _ => trivial
 specialize h0 (nmL.drop 182 = ?a0 :: ?a1 :: ?a2 :: ?a3 :: ?a4 :: ?a5 :: ?a6 :: ?r) rfl
 exact [?a0, ?a1, ?a2, ?a3, ?a4, ?a5, ?a6]
noncomputable def st49 : List Str := by
 have h0 : ∀ p : Prop, p → True := fun _ _ => trivial
 specialize h0 (nmL.drop 189 = ?a0 :: ?a1 :: ?a2 :: ?a3 :: ?a4 :: ?a5 :: ?a6 :: ?r) rfl
 exact [?a0, ?a1, ?a2, ?a3, ?a4, ?a5, ?a6]
noncomputable def st50 : List Str := by
 have h0 : ∀ p : Prop, p → True := fun _ _ => trivial
 specialize h0 (nmL.drop 196 = ?a0 :: ?a1 :: ?a2 :: ?a3 :: ?a4 :: ?a5 :: ?a6 :: ?r) rfl
 exact [?a0, ?a1, ?a2, ?a3, ?a4, ?a5, ?a6]
noncomputable def st51 : List Str := by
 have h0 : ∀ p : Prop, p → True := fun _ _ => trivial
 specialize h0 (nmL.drop 203 = ?a0 :: ?a1 :: ?a2 :: ?a3 :: ?a4 :: ?a5 :: ?a6 :: ?r) rfl
 exact [?a0, ?a1, ?a2, ?a3, ?a4, ?a5, ?a6]
noncomputable def st52 : List Str := by
 have h0 : ∀ p : Prop, p → True := fun _ _ => trivial
 specialize h0 (nmL.drop 210 = ?a0 :: ?a1 :: ?a2 :: ?a3 :: ?a4 :: ?a5 :: ?a6 :: ?r) rfl
 exact [?a0, ?a1, ?a2, ?a3, ?a4, ?a5, ?a6]
noncomputable def st53 : List Str := by
 have h0 : ∀ p : Prop, p → True := fun _ _ => trivial
 specialize h0 (nmL.drop 217 = ?a0 :: ?a1 :: ?a2 :: ?a3 :: ?a4 :: ?a5 :: ?a6 :: ?r) rfl
 exact [?a0, ?a1, ?a2, ?a3, ?a4, ?a5, ?a6]
noncomputable def st54 : List Str := by
 have h0 : ∀ p : Prop, p → True := fun _ _ => trivial
 specialize h0 (nmL.drop 224 = ?a0 :: ?a1 :: ?a2 :: ?a3 :: ?a4 :: ?a5 :: ?a6 :: ?r) rfl
 exact [?a0, ?a1, ?a2, ?a3, ?a4, ?a5, ?a6]
noncomputable def st55 : List Str := by
 have h0 : ∀ p : Prop, p → True := fun _ _ => trivial
 specialize h0 (nmL.drop 231 = ?a0 :: ?a1 :: ?a2 :: ?a3 :: ?a4 :: ?a5 :: ?a6 :: ?r) rfl
 exact [?a0, ?a1, ?a2, ?a3, ?a4, ?a5, ?a6]
noncomputable def st56 : List Str := by
 have h0 : ∀ p : Prop, p → True := fun _ _ => trivial
 specialize h0 (nmL.drop 238 = ?a0 :: ?a1 :: ?a2 :: ?r) rfl
 exact [?a0, ?a1, ?a2]
theorem dumS0 : (@Prod.snd (List Str × List Str × List Str × List Str × List Str × List Str) Bool (((st0, st1, st2, st3, st4, st5) : List Str × List Str × List Str × List Str × List Str × List Str), true)) = true := by k_qdec
theorem dumS1 : (@Prod.snd (List Str × List Str × List Str × List Str × List Str × List Str) Bool (((st7, st9, st10, st12, st14, st15) : List Str × List Str × List Str × List Str × List Str × List Str), true)) = true := by k_qdec
theorem dumS2 : (@Prod.snd (List Str × List Str × List Str × List Str × List Str × List Str) Bool (((st16, st17, st19, st21, st23, st25) : List Str × List Str × List Str × List Str × List Str × List Str), true)) = true := by k_qdec
theorem dumS3 : (@Prod.snd (List Str × List Str × List Str × List Str × List Str × List Str) Bool (((st26, st27, st28, st30, st31, st33) : List Str × List Str × List Str × List Str × List Str × List Str), true)) = true := by k_qdec
theorem dumS4 : (@Prod.snd (List Str × List Str × List Str × List Str × List Str × List Str) Bool (((st34, st35, st37, st39, st41, st42) : List Str × List Str × List Str × List Str × List Str × List Str), true)) = true := by k_qdec
theorem dumS5 : (@Prod.snd (List Str × List Str × List Str × List Str × List Str × List Str) Bool (((st43, st45, st47, st48, st49, st50) : List Str × List Str × List Str × List Str × List Str × List Str), true)) = true := by k_qdec
theorem dumS6 : (@Prod.snd (List Str × List Str × List Str × List Str × List Str × List Str) Bool (((st51, st52, st53, st54, st55, st56) : List Str × List Str × List Str × List Str × List Str × List Str), true)) = true := by k_qdec
theorem app_cg {a b c d : List Str} (h : a = b) (k : c = d) : a ++ c = b ++ d := by rw [h, k]
noncomputable def nmQ : List Str := PySem.W.Fast.tw7240301041371478685 ++ (PySem.W.Fast.tw789496646480088055 ++ (PySem.W.Fast.tw7098430227860910225 ++ (PySem.W.Fast.tw4311027392717211216 ++ (PySem.W.Fast.tw16239908176988199572 ++ (PySem.W.Fast.tw12253424078530308303 ++ (sd6 ++ (PySem.W.Fast.tw16980339996608838209 ++ (sd8 ++ (PySem.W.Fast.tw416397096475010979 ++ (PySem.W.Fast.tw2078614453391903432 ++ (sd11 ++ (PySem.W.Fast.tw2049946138219417655 ++ (sd13 ++ (PySem.W.Fast.tw15011528285064701035 ++ (PySem.W.Fast.tw6599119936985314716 ++ (PySem.W.Fast.tw15873504937264815801 ++ (PySem.W.Fast.tw6061208869254707968 ++ (sd18 ++ (PySem.W.Fast.tw10737909359147360775 ++ (sd20 ++ (PySem.W.Fast.tw1907157687116696016 ++ (sd22 ++ (PySem.W.Fast.tw5626262924329038539 ++ (sd24 ++ (PySem.W.Fast.tw4844655192941003695 ++ (PySem.W.Fast.tw6183551512144038020 ++ (PySem.W.Fast.tw9245693889144939377 ++ (PySem.W.Fast.tw2782832369588942813 ++ (sd29 ++ (PySem.W.Fast.tw13882159969643600634 ++ (PySem.W.Fast.tw12065925908956356747 ++ (sd32 ++ (PySem.W.Fast.tw6757977136575854033 ++ (PySem.W.Fast.tw3394160683231836654 ++ (PySem.W.Fast.tw11543347474250821216 ++ (sd36 ++ (PySem.W.Fast.tw14752978181828129342 ++ (sd38 ++ (PySem.W.Fast.tw1239657978298473742 ++ (sd40 ++ (PySem.W.Fast.tw13154410178369794250 ++ (PySem.W.Fast.tw14087427124445129562 ++ (PySem.W.Fast.tw12211372217686004304 ++ (sd44 ++ (PySem.W.Fast.tw12430550909055144636 ++ (sd46 ++ (PySem.W.Fast.tw13114977260107808909 ++ (PySem.W.Fast.tw9137385064045434352 ++ (PySem.W.Fast.tw9130029458089388872 ++ (PySem.W.Fast.tw6190133823831213477 ++ (PySem.W.Fast.tw15612584474439618179 ++ (PySem.W.Fast.tw18181671724510317989 ++ (PySem.W.Fast.tw11632871894363251562 ++ (PySem.W.Fast.tw1627532000151850543 ++ (PySem.W.Fast.tw5805875104550420596 ++ (PySem.W.Fast.tw8485453581923031199 ++ []))))))))))))))))))))))))))))))))))))))))))))))))))))))))
noncomputable def pwQ : Program := (pwBL (nthS nmQ)).1
theorem pwQ_eq : PySem.Challenge.pw_wv0062_01 = pwQ :=
 (show PySem.Challenge.pw_wv0062_01 = (pwBL (nthS nmL)).1 from by kernel_rfl!).trans (congrArg (fun l => (pwBL (nthS l)).1) ((show nmL = st0 ++ (st1 ++ (st2 ++ (st3 ++ (st4 ++ (st5 ++ (sd6 ++ (st7 ++ (sd8 ++ (st9 ++ (st10 ++ (sd11 ++ (st12 ++ (sd13 ++ (st14 ++ (st15 ++ (st16 ++ (st17 ++ (sd18 ++ (st19 ++ (sd20 ++ (st21 ++ (sd22 ++ (st23 ++ (sd24 ++ (st25 ++ (st26 ++ (st27 ++ (st28 ++ (sd29 ++ (st30 ++ (st31 ++ (sd32 ++ (st33 ++ (st34 ++ (st35 ++ (sd36 ++ (st37 ++ (sd38 ++ (st39 ++ (sd40 ++ (st41 ++ (st42 ++ (st43 ++ (sd44 ++ (st45 ++ (sd46 ++ (st47 ++ (st48 ++ (st49 ++ (st50 ++ (st51 ++ (st52 ++ (st53 ++ (st54 ++ (st55 ++ (st56 ++ [])))))))))))))))))))))))))))))))))))))))))))))))))))))))) from by kernel_rfl!).trans (app_cg PySem.W.Fast.te7240301041371478685 (app_cg PySem.W.Fast.te789496646480088055 (app_cg PySem.W.Fast.te7098430227860910225 (app_cg PySem.W.Fast.te4311027392717211216 (app_cg PySem.W.Fast.te16239908176988199572 (app_cg PySem.W.Fast.te12253424078530308303 (app_cg rfl (app_cg PySem.W.Fast.te16980339996608838209 (app_cg rfl (app_cg PySem.W.Fast.te416397096475010979 (app_cg PySem.W.Fast.te2078614453391903432 (app_cg rfl (app_cg PySem.W.Fast.te2049946138219417655 (app_cg rfl (app_cg PySem.W.Fast.te15011528285064701035 (app_cg PySem.W.Fast.te6599119936985314716 (app_cg PySem.W.Fast.te15873504937264815801 (app_cg PySem.W.Fast.te6061208869254707968 (app_cg rfl (app_cg PySem.W.Fast.te10737909359147360775 (app_cg rfl (app_cg PySem.W.Fast.te1907157687116696016 (app_cg rfl (app_cg PySem.W.Fast.te5626262924329038539 (app_cg rfl (app_cg PySem.W.Fast.te4844655192941003695 (app_cg PySem.W.Fast.te6183551512144038020 (app_cg PySem.W.Fast.te9245693889144939377 (app_cg PySem.W.Fast.te2782832369588942813 (app_cg rfl (app_cg PySem.W.Fast.te13882159969643600634 (app_cg PySem.W.Fast.te12065925908956356747 (app_cg rfl (app_cg PySem.W.Fast.te6757977136575854033 (app_cg PySem.W.Fast.te3394160683231836654 (app_cg PySem.W.Fast.te11543347474250821216 (app_cg rfl (app_cg PySem.W.Fast.te14752978181828129342 (app_cg rfl (app_cg PySem.W.Fast.te1239657978298473742 (app_cg rfl (app_cg PySem.W.Fast.te13154410178369794250 (app_cg PySem.W.Fast.te14087427124445129562 (app_cg PySem.W.Fast.te12211372217686004304 (app_cg rfl (app_cg PySem.W.Fast.te12430550909055144636 (app_cg rfl (app_cg PySem.W.Fast.te13114977260107808909 (app_cg PySem.W.Fast.te9137385064045434352 (app_cg PySem.W.Fast.te9130029458089388872 (app_cg PySem.W.Fast.te6190133823831213477 (app_cg PySem.W.Fast.te15612584474439618179 (app_cg PySem.W.Fast.te18181671724510317989 (app_cg PySem.W.Fast.te11632871894363251562 (app_cg PySem.W.Fast.te1627532000151850543 (app_cg PySem.W.Fast.te5805875104550420596 (app_cg PySem.W.Fast.te8485453581923031199 rfl)))))))))))))))))))))))))))))))))))))))))))))))))))))))))))
noncomputable def qv : Program := view PySem.Challenge.pw_wv0062_01 [0, 2, 3, 4, 5, 7, 9, 10, 11, 12, 14, 15, 17, 18, 19, 20, 21, 22, 23]
noncomputable def loose : List Str := [Str.ofString "_tuplegetter", Str.ofString "Match", Str.ofString "SequenceMatcher"]
noncomputable def nbLook (s : Shared) : Bool := s.heap.isNs cStatics && (s.heap.nsMap cStatics sharingNotToldKey).isNone
noncomputable def lookX (s : Shared) : Bool := (xlAt qv [] s && recOk (RowW.records PySem.Challenge.rw_wv0062_01.row.toRowW) s) && nbLook s
noncomputable def lhsS (w : World) := ((boot_heap w.params).isNs mainGlobals && (Array.mk [] : Array GenState).size == 0, (boot_heap w.params).objs.size, (boot_heap w.params).nsMap mainGlobals "__annotations__")
noncomputable def lhsA (w : World) (os : OsState) := (topRun tab PySem.Challenge.pw_wv0062_01 w 11 (some (.ref 6)) 2600 ⟨boot_heap w.params, Array.mk [], boot_drawn, boot_toks, os⟩ (topStub PySem.Challenge.pw_wv0062_01)).map fun s => ((staticsOk (importedModules PySem.Challenge.pw_wv0062_01.main.body) (boot_heap w.params) s.heap && namesBound PySem.Challenge.pw_wv0062_01 s.heap && gensDone s && laidKept (boot_heap w.params) s.heap), openSeen qv loose (importedModules PySem.Challenge.pw_wv0062_01.main.body) lookX true s)
noncomputable def rhsA := some (true, openGood qv loose)
noncomputable def lhsB (as : List Addr) (w : World) (os : OsState) := (topRun tab PySem.Challenge.pw_wv0062_01 w 11 (some (.ref 6)) 2600 ⟨boot_heap w.params, Array.mk [], boot_drawn, boot_toks, os⟩ (topStub PySem.Challenge.pw_wv0062_01)).map fun s => as.map s.heap.get?
noncomputable def lookP (p : Program) (s : Shared) : Bool := (xlAt (view p [0, 2, 3, 4, 5, 7, 9, 10, 11, 12, 14, 15, 17, 18, 19, 20, 21, 22, 23]) [] s && recOk [] s) && nbLook s
noncomputable def lhsAp (p : Program) (w : World) (os : OsState) := (topRun tab p w 11 (some (.ref 6)) 2600 ⟨boot_heap w.params, Array.mk [], boot_drawn, boot_toks, os⟩ (topStub p)).map fun s => ((staticsOk (importedModules p.main.body) (boot_heap w.params) s.heap && namesBound p s.heap && gensDone s && laidKept (boot_heap w.params) s.heap), openSeen (view p [0, 2, 3, 4, 5, 7, 9, 10, 11, 12, 14, 15, 17, 18, 19, 20, 21, 22, 23]) loose (importedModules p.main.body) (lookP p) true s)
noncomputable def rhsAp (p : Program) := some (true, openGood (view p [0, 2, 3, 4, 5, 7, 9, 10, 11, 12, 14, 15, 17, 18, 19, 20, 21, 22, 23]) loose)
noncomputable def lhsBp (p : Program) (as : List Addr) (w : World) (os : OsState) := (topRun tab p w 11 (some (.ref 6)) 2600 ⟨boot_heap w.params, Array.mk [], boot_drawn, boot_toks, os⟩ (topStub p)).map fun s => as.map s.heap.get?
theorem viaQ {α : Type} {F G : Program → α} {p q : Program} (e : p = q) (h : F q = G q) : F p = G p := by
 subst e
 exact h
noncomputable def saidF (p : Program) : Bool := by
 have h0 : ∀ p : Prop, p → True := fun _ _ => trivial
 specialize h0 (PySem.Challenge.rw_wv0062_01 = ⟨?zp, ?zn, ?za, ?zf, ?zm, ?zb, ?zw⟩) rfl
 exact OpenLaw.wellSaid ⟨p, ?zn, ?za, ?zf, ?zm, ?zb, ?zw⟩
theorem dum : (@Prod.snd ((World → _) × (Program → World → OsState → _) × (Program → _) × (Program → List Addr → World → OsState → _) × (Program → Bool)) Bool ((lhsS, lhsAp, rhsAp, lhsBp, saidF), true)) = true := by k_qdec
theorem sizeP (w : World) : lhsS w = (true, 11, some (.ref 6)) :=
 (congrFun PySem.W.Fast.te354020492566005374 w).trans (by kernel_rfl!)
theorem seenQ (w : World) (os : OsState) : lhsAp pwQ w os = rhsAp pwQ :=
 (congrFun (congrFun (congrFun PySem.W.Fast.te10062303026654850940 pwQ) w) os).trans ((show PySem.W.Fast.tw10062303026654850940 pwQ w os = PySem.W.Fast.tw8951393511775883341 pwQ from by kernel_rfl!).trans (congrFun PySem.W.Fast.te8951393511775883341 pwQ).symm)
theorem seenP (w : World) (os : OsState) : lhsA w os = rhsA :=
 (show lhsA w os = lhsAp PySem.Challenge.pw_wv0062_01 w os from by kernel_rfl!).trans ((viaQ (F := fun p => lhsAp p w os) (G := rhsAp) pwQ_eq (seenQ w os)).trans (show rhsAp PySem.Challenge.pw_wv0062_01 = rhsA from by kernel_rfl!))
theorem said : OpenLaw.wellSaid PySem.Challenge.rw_wv0062_01 = true :=
 (show OpenLaw.wellSaid PySem.Challenge.rw_wv0062_01 = saidF PySem.Challenge.pw_wv0062_01 from by kernel_rfl!).trans (viaQ (F := saidF) (G := fun _ => true) pwQ_eq ((congrFun PySem.W.Fast.te17042165093326287127 pwQ).trans (show PySem.W.Fast.tw17042165093326287127 pwQ = true from by kernel_rfl!)))
theorem noneBooked_of {s : Shared} (h : nbLook s = true) : NoneBooked s.heap := by
 obtain ⟨h1, h2⟩ := Bool.and_eq_true_iff.mp h
 exact ⟨_, Heap.Ns.of_isNs h1, Option.isNone_iff_eq_none.mp h2⟩
theorem NoneBooked.keeps {h h' : Heap} (x : NoneBooked h) (hk : ∀ b o, h.get? b = some o → h'.get? b = some o) : NoneBooked h' :=
 let ⟨mc, a, b⟩ := x; ⟨mc, a.keeps hk, b⟩
theorem ends_of {tb tb' : String → Option Builtin} (etb : tb = tb') {p : Program} {w : World} {N n : Nat} {ann : Option Value} {h : Heap} {gs : Array GenState} {d : Drawn} {k : Nat} {os : OsState} {s₁ : Shared}
  (e1 : fencedOpening tb p w N = some ⟨h, gs, d, k, os⟩) (z1 : (h.isNs mainGlobals && gs.size == 0) = true) (z2 : h.objs.size = n) (z3 : h.nsMap mainGlobals "__annotations__" = ann)
  (hT : topRun tb' p w n ann N ⟨h, gs, d, k, os⟩ (topStub p) = some s₁) (ok : (staticsOk (importedModules p.main.body) h s₁.heap && namesBound p s₁.heap && gensDone s₁ && laidKept h s₁.heap) = true) : openEnds tb p w N = some s₁ := by
 subst etb z2 z3
 unfold openEnds
 rw [e1, Option.bind_some]
 unfold topFrom
 dsimp only
 rw [z1]
 dsimp only
 rw [hT, Option.bind_some, ok]
theorem map_at {α β : Type} {o : Option α} {g : α → β} {s : α} {y : β} (h : o.map g = some y) (e : o = some s) : g s = y := by
 rw [e] at h
 exact Option.some.inj h
theorem left_of {α β : Type} {o : Option Shared} {s₁ : Shared} {f : Shared → α} {g : Shared → β} {x : α} {y : β} (e : o = some s₁) (a : f s₁ = x) (b : g s₁ = y) : o.map (fun s => (f s, g s)) = some (x, y) := by
 rw [e, ← a, ← b]
 rfl
theorem left {K : Params → Frag} {as : List Addr} (e : ∀ P, as = (K P).map (·.1)) (hB : ∀ w os, lhsB as w os = some ((K w.params).map (fun p => some p.2))) :
  LeftO PySem.Challenge.pw_wv0062_01 qv loose lookX (Hook.obs (kHook K as e)) (Hook.val (kHook K as e)) 2600 := fun w => by
 obtain ⟨⟨h, gs, d, k, os⟩, e1, e2⟩ := Option.map_eq_some_iff.mp (boot_open (p := PySem.Challenge.pw_wv0062_01) (N := 2600) (by kernel_rfl!) (by kernel_rfl!) (fun s => by rfl) w)
 obtain ⟨rfl, rfl, rfl, rfl⟩ : h = boot_heap w.params ∧ gs = Array.mk [] ∧ d = boot_drawn ∧ k = boot_toks := by simpa using e2
 obtain ⟨z1, z2, z3⟩ : _ ∧ _ ∧ _ := by simpa only [lhsS, Prod.mk.injEq] using sizeP w
 have hA := seenP w os
 have hb := hB w os
 unfold lhsA rhsA at hA
 unfold lhsB at hb
 obtain ⟨s₁, hT, hP⟩ := Option.map_eq_some_iff.mp hA
 obtain ⟨a1, a2⟩ := Prod.mk.inj hP
 exact left_of (ends_of tab_eq e1 z1 z2 z3 hT a1) a2 (map_at hb hT)
theorem both {A B C : Prop} (h : A → B → C) (k : A ∧ B) : C := h k.1 k.2
end Mine
set_option linter.all false
local macro_rules | `(tactic| o_head $_:term) => `(tactic| skip)
set_option maxHeartbeats 0
namespace Mine
noncomputable def asL : List Addr := [2, 3, 15, 17, 18, 20, 21, 29, 31, 32, 34, 35, 36, 37, 39, 40, 42, 43, 44, 46, 47, 49, 50, 51, 53, 54, 56, 57, 58, 59, 60, 61, 62, 65, 68, 73, 74, 75, 76, 78, 79, 81, 82, 83, 85, 86, 88, 89, 90, 91, 92, 93, 94, 96, 97, 99, 100, 101, 103, 104, 106, 107, 108, 110, 111, 113, 114, 115, 117, 118, 120, 121, 122, 123, 124, 126, 127, 129, 130, 132, 134, 135, 136, 139, 141, 142, 144, 145, 153, 154, 156, 157, 159, 160, 161, 163, 164, 166, 167, 168, 170, 171, 173, 174, 175, 177, 178, 180, 181, 182, 184, 185, 187, 188, 189, 190, 192, 193, 195, 196, 197, 199, 200, 202, 203, 204, 206, 207, 209, 210, 211, 212, 214, 215, 217, 218, 219, 221, 222, 224, 225, 226, 228, 229, 231, 232, 233, 235, 236, 238, 239, 240, 241, 242, 243, 244, 247, 249, 250, 252, 253, 254, 256, 257, 259, 260, 261, 263, 264, 266, 267, 268, 270, 271, 273, 274, 275, 277, 278, 280, 281, 282, 284, 285, 287, 288, 289, 291, 292, 294, 295, 296, 298, 299, 301, 302, 303, 305, 306, 308, 309, 310, 313, 314, 315, 317, 318, 320, 321, 322, 325, 326, 327, 329, 330, 332, 333, 334, 337, 338]
noncomputable def hdX : (T : Prop) ×' (T → PySem.Challenge.rw_wv0062_01.Holds) := by
 refine' ⟨_, fun hP => ?_⟩
 rotate_left
 w_on
 refine PySem.W.holds_law said fun _ => ?_
 k_head
 refine both (fun hB hc => holds_open (q := Mine.qv) (loose := Mine.loose) (Xt := Mine.lookX) (XP := fun mg h => XL Mine.qv [] mg h ∧ NoneBooked h) (Yf := Hook.obs (kHook hdX.heap_1 asL (fun _ => by kernel_rfl!))) (Ya := Hook.val (kHook hdX.heap_1 asL (fun _ => by kernel_rfl!))) (YP := Hook.says (kHook hdX.heap_1 asL (fun _ => by kernel_rfl!))) (N := 2600) (Mine.left _ hB) (Hook.of (kHook hdX.heap_1 asL (fun _ => by kernel_rfl!))) (Hook.keeps (kHook hdX.heap_1 asL (fun _ => by kernel_rfl!))) (fun s e => ⟨xl_of s (Bool.and_eq_true_iff.mp (Bool.and_eq_true_iff.mp e).1).1, Mine.noneBooked_of (Bool.and_eq_true_iff.mp e).2⟩) (fun mg h h' x hk => ⟨XL.keeps mg h h' x.1 hk, Mine.NoneBooked.keeps x.2 hk⟩) (by rfl) (by rfl) (by rfl) (fun s e => recFacts_of (Bool.and_eq_true_iff.mp (Bool.and_eq_true_iff.mp e).1).2) (by rfl) (by first | (clear hB hc; assumption) | decide +kernel) (by decide +kernel) ⟨rfl, rfl, rfl, rfl, rfl, by decide +kernel⟩ ?hw hc) ?hc
 case hw => w_witness2
 exact hP
set_option maxRecDepth 1000000
noncomputable def clsBody (p : Program) : List Stmt := match p.main.body with
 | _ :: _ :: _ :: _ :: _ :: .ClassDef _ _ _ b _ _ _ _ _ _ _ :: _ => b
 | _ => []
noncomputable def docOf (l : List Stmt) (d : Value) : Value := match l, d with
 | .Expr (.Constant (.str s) _ _) _ :: _, .str _ t => .str s t
 | _, d => d
noncomputable def fixF (s : Option Stmt) (o : Obj) : Obj := match s, o with
 | some (.FunctionDef nm ps b _ _ _ sc _ _ _), ⟨c, d, .func ⟨_, q, _, _, _, g, cl, df, kd, dc, pm, an, co, ct, bu⟩, sl⟩ => ⟨c, d, .func ⟨nm, q, ps, .stmts b, sc, g, cl, df, kd, docOf b dc, pm, an, co, ct, bu⟩, sl⟩
 | _, o => o
noncomputable def fixD (b : List Stmt) (o : Obj) : Obj := match o with
 | ⟨c, d, .dict es n, sl⟩ => ⟨c, d, .dict (match es.toList with
  | e0 :: e1 :: e2 :: r => e0 :: e1 :: ⟨e2.hash, e2.key, docOf b e2.val⟩ :: r
  | l => l).toArray n, sl⟩
 | o => o
noncomputable def fixAt (b : List Stmt) (p : Addr × Obj) : Addr × Obj := match Nat.beq p.1 241 with
 | true => (p.1, fixD b p.2)
 | false => match ([(160, 1), (167, 2), (174, 3), (181, 4), (188, 5), (196, 6), (203, 7), (210, 8), (218, 9), (225, 10), (232, 11), (239, 12)] : List (Nat × Nat)).lookup p.1 with
  | some i => (p.1, fixF b[i]? p.2)
  | none => p
noncomputable def fixK (b : List Stmt) (K : Frag) : Frag := K.map (fixAt b)
theorem fix1 (P : Params) : fixK (clsBody PySem.Challenge.pw_wv0062_01) (hdX.heap_1 P) = hdX.heap_1 P := by kernel_rfl!
theorem fix2 (w : World) (os : OsState) : PySem.W.Fast.tw14965526515509818464 pwQ asL w os = some ((fixK (clsBody pwQ) (hdX.heap_1 w.params)).map (fun p => some p.2)) := by kernel_rfl!
theorem hB (w : World) (os : OsState) : lhsB asL w os = some ((hdX.heap_1 w.params).map (fun p => some p.2)) :=
 (viaQ (F := fun p => lhsBp p asL w os) (G := fun p => some ((fixK (clsBody p) (hdX.heap_1 w.params)).map (fun p => some p.2))) pwQ_eq ((congrFun (congrFun (congrFun (congrFun PySem.W.Fast.te14965526515509818464 pwQ) _) w) os).trans (fix2 w os))).trans (congrArg (fun k : Frag => some (k.map (fun p => some p.2))) (fix1 w.params))
theorem half {A B C : Prop} (h : A ∧ B → C) (a : A) (b : B) : C := h ⟨a, b⟩
end Mine
end
section
open PySem PySem.W
set_option maxRecDepth 100000
namespace Mine
noncomputable def f8 : Nat → UInt64
 | 0 => 0
 | 1 => 0x3FC0000000000000
 | 2 => 0x3FD0000000000000
 | 3 => 0x3FD8000000000000
 | 4 => 0x3FE0000000000000
 | 5 => 0x3FE4000000000000
 | 6 => 0x3FE8000000000000
 | _ => 0
noncomputable def Yf (r g b : UInt64) : UInt64 := Float64.add (Float64.add (Float64.mul 4599075939470750515 r) (Float64.mul 4603489467105573601 g)) (Float64.mul 4592590756007337001 b)
noncomputable def If (r g b : UInt64) : UInt64 := Float64.sub (Float64.mul 4604840546993784750 (Float64.sub r (Yf r g b))) (Float64.mul 4598535507515466056 (Float64.sub b (Yf r g b)))
noncomputable def Qf (r g b : UInt64) : UInt64 := Float64.add (Float64.mul 4602318531202457272 (Float64.sub r (Yf r g b))) (Float64.mul 4601057523306793533 (Float64.sub b (Yf r g b)))
noncomputable def zOf (x : UInt64) (p : Int) : UInt64 := Float64.add (Float64.add (Float64.mul x (Float64.ofInt (2 * p))) (Float64.ofInt (2 ^ 41))) (Float64.ofInt 1)
noncomputable def wholeOf (x : UInt64) (p : Int) : Int := (Flt.toInt Float64.truncOf (zOf x p)).fdiv 2 - 2 ^ 40
noncomputable def calm (x : UInt64) (p : Int) : Bool := !Float64.isNaN (zOf x p) && !Float64.isInf (zOf x p)
noncomputable def chk (a b c : Nat) : Bool :=
 let y := Yf (f8 a) (f8 b) (f8 c)
 let i := If (f8 a) (f8 b) (f8 c)
 let q := Qf (f8 a) (f8 b) (f8 c)
 calm y 800 && decide (wholeOf y 800 = 30 * a + 59 * b + 11 * c) &&
 calm y 80000000000 && decide (wholeOf y 80000000000 = 1000000 * (3000 * a + 5900 * b + 1100 * c)) &&
 calm i 80000000000 && decide (wholeOf i 80000000000 = 1000000 * (5990 * a - 2773 * b - 3217 * c)) &&
 calm q 80000000000 && decide (wholeOf q 80000000000 = 1000000 * (2130 * a - 5251 * b + 3121 * c))
set_option maxHeartbeats 0
theorem chkAll : ((List.range 7).all fun a => (List.range 7).all fun b => (List.range 7).all fun c => decide (6 < a + b + c) || chk a b c) = true := by decide +kernel
end Mine
end
section
open PySem PySem.W PyProof.Rows PySem.Calls PySem.Spec
set_option Elab.async false
set_option maxRecDepth 100000
namespace Mine
noncomputable abbrev lstE (ys : List Value) : Obj := { cls := .type "list", data := .seq ys.toArray ys.length }
theorem lstE_snoc (ys : List Value) (y : Value) : ({ cls := .type "list", data := .seq (ys.toArray.push y) (ys.length + 1) } : Obj) = lstE (ys ++ [y]) := by
 rw [List.push_toArray]
 show _ = ({ cls := .type "list", data := .seq (ys ++ [y]).toArray (ys ++ [y]).length } : Obj)
 rw [List.length_append, List.length_singleton]
section
variable {prog : Program} {w : World} {A : Around} {E : Value → Shared → Prop} {s : Shared} {env : Env}
structure Two (prog : Program) (w : World) (A : Around) (elt : Expr) (x y : Str) (scope : Scope) (cl : List (Str × Addr)) (env : Env) (n : Nat) (Q : Value → Shared → Prop) (xv : Value) (s₁ : Shared) : Prop where
 ex : ∃ (R : Nat → Value → Prop) (I : Addr) (fp wr : List Addr) (Pt : Nat → Array Value → Prop) (St : Nat → Heap → Prop) (Mid : Nat → Addr → Heap → Prop) (H : Heap), xv = .ref I ∧ WalksT prog w A I fp wr n Pt St Mid ∧ St 0 s₁.heap ∧ (∀ b ∈ fp, b < s₁.heap.objs.size) ∧
  (∀ b o, H.get? b = some o → s₁.heap.get? b = some o ∧ b ∉ wr) ∧
  (∀ i vals C h tk m₂, i < n → Pt i vals → (∀ b o, H.get? b = some o → h.get? b = some o) → H.get? C = none → h.Ns C m₂ → (∀ v0 v1, vals = #[v0, v1] → m₂ x = some v0 ∧ m₂ y = some v1) →
   (∃ v0 v1, vals = #[v0, v1]) ∧ ∀ (Q' E' : Value → Shared → Prop), (∀ r h' tk', R i r → (∀ b o, h.get? b = some o → h'.get? b = some o) → Q' r { s₁ with heap := h', toks := tk' }) →
    wpAny (model prog w) A (eval elt (compEnvC scope cl C env)) Q' E' { s₁ with heap := h, toks := tk }) ∧
  (∀ D h tk rs, (∀ b o, H.get? b = some o → h.get? b = some o) → h.get? D = some (lstE rs) → H.get? D = none → rs.length = n → (∀ i r, rs[i]? = some r → R i r) → Q (.ref D) { s₁ with heap := h, toks := tk })
end
namespace E_comp_two
noncomputable def theP (zC : Bag) : Prop :=
 let prog := zC.prog 3; let w := zC.w 3; let A := zC.A 3; let E := zC.qv 3; let s := zC.s 3; let env := zC.env 3; let elt := zC.expr 3; let iter := zC.expr 4; let x := zC.str 3; let y := zC.str 4; let px := zC.pos 3; let py := zC.pos 4; let tp := zC.pos 5; let tk := zC.nat 3; let scope := zC.scope 3; let cl := zC.cl 3; let pos := zC.pos 6; let Q := zC.qv 4; let n := zC.nat 4;
 ∀ (hsz : n ≤ sizeLine) (hh : A.handled = none) (hclos : closureFor scope env = pure cl) (hcell : ∀ z ∈ scope.names, z.2 ≠ .cell) (hkind : scope.kind = .function) (hnames : ∀ z ∈ scope.names, z.2 = .local → scope.names.lookup z.1 = some .local) (hx : scope.names.lookup x = some .local) (hy : scope.names.lookup y = some .local) (hxy : x ≠ y) (h : wpAny (model prog w) A (eval iter env) (Two prog w A elt x y scope cl env n Q) E s) (hs : ∀ x, foldedSetIterable iter env x = pure x := by intro _; rfl), wpAny (model prog w) A (eval (.ListComp elt [⟨.Tuple [.Name x px, .Name y py] tk tp, iter, [], 0⟩] scope pos) env) Q E s
@[irreducible] def tB : Bag := bagOf theP
@[irreducible] def prog := tB.prog 3
@[irreducible] def w := tB.w 3
@[irreducible] def A := tB.A 3
@[irreducible] def E := tB.qv 3
@[irreducible] def s := tB.s 3
@[irreducible] def env := tB.env 3
@[irreducible] def elt := tB.expr 3
@[irreducible] def iter := tB.expr 4
@[irreducible] def x := tB.str 3
@[irreducible] def y := tB.str 4
@[irreducible] def px := tB.pos 3
@[irreducible] def py := tB.pos 4
@[irreducible] def tp := tB.pos 5
@[irreducible] def tk := tB.nat 3
@[irreducible] def scope := tB.scope 3
@[irreducible] def cl := tB.cl 3
@[irreducible] def pos := tB.pos 6
@[irreducible] def Q := tB.qv 4
@[irreducible] def n := tB.nat 4
theorem core (hsz : n ≤ sizeLine) (hh : A.handled = none) (hclos : closureFor scope env = pure cl) (hcell : ∀ z ∈ scope.names, z.2 ≠ .cell) (hkind : scope.kind = .function) (hnames : ∀ z ∈ scope.names, z.2 = .local → scope.names.lookup z.1 = some .local) (hx : scope.names.lookup x = some .local) (hy : scope.names.lookup y = some .local) (hxy : x ≠ y) (h : wpAny (model prog w) A (eval iter env) (Two prog w A elt x y scope cl env n Q) E s) (hs : ∀ x, foldedSetIterable iter env x = pure x := by intro _; rfl) : wpAny (model prog w) A (eval (.ListComp elt [⟨.Tuple [.Name x px, .Name y py] tk tp, iter, [], 0⟩] scope pos) env) Q E s := by
 rw [eval_ListComp]
 refine wpAny_comprehension_free (use := none) rfl hs hclos hkind hnames (wpAny_mono h (fun xv s₁ h₁ => ?_) fun _ _ e => e)
 refine hdG ?_; intro Xh hXh
 refine ex6 h₁.ex ?_
 rintro R I fp wr Pt St hZ
 refine ex2 hZ ?_
 clear hZ
 rintro Mid H hZ
 refine an6 hZ ?_
 clear hZ
 rintro rfl W hst hfp hH hE hQ
 refine hXh ?_; clear hXh
 refine W.self 0 _ _ _ hst ?_
 refine wpAny_newObj_type (wpAny_newFunctionEnv hcell (by intro y hy; simp at hy) (fun h₁ hns₁ hsb₁ => ?_) hkind)
 dsimp only at hns₁ hsb₁ ⊢
 have hD : (s₁.heap.push { cls := .type "list", dict := none, data := .seq ([] : List Value).toArray }).objs.size = s₁.heap.objs.size + 1 := Heap.size_push ..
 generalize hH2 : s₁.heap.push { cls := .type "list", dict := none, data := .seq ([] : List Value).toArray } = H2 at hns₁ hsb₁ hD ⊢
 generalize hC : H2.objs.size = C at hns₁ hsb₁ hD ⊢
 generalize hDD : s₁.heap.objs.size = D at hD hfp
 have old : ∀ b o, s₁.heap.get? b = some o → h₁.get? b = some o := fun b o e => by
  have hb : @LT.lt Nat _ b D := hDD ▸ Heap.lt_size e
  exact hsb₁.extBut b o (Nat.ne_of_lt (by grind : @LT.lt Nat _ b C)) (Heap.get?_push_of_some _ (hH2 ▸ Heap.get?_push_of_some _ e))
 have hDC : @Ne Nat D C := by grind
 have hacc : h₁.get? D = some (lstE []) := hsb₁.extBut _ _ hDC (Heap.get?_push_of_some _ (hH2 ▸ hDD ▸ Heap.get?_push_size _ rfl))
 have hHD : H.get? D = none := by
  cases e : H.get? D with
  | none => rfl
  | some o => exact absurd (Heap.lt_size (hH D o e).1) (by rw [hDD]; exact Nat.lt_irrefl _)
 have hHC : H.get? C = none := by
  cases e : H.get? C with
  | none => rfl
  | some o => exact absurd (Heap.lt_size (hH C o e).1) (by rw [hDD]; exact Nat.not_lt.mpr (by grind))
 have hDf : D ∉ fp := fun hm => Nat.lt_irrefl _ (hfp _ hm)
 have hCf : C ∉ fp := fun hm => absurd (hfp _ hm) (Nat.not_lt.mpr (by grind))
 have loop : ∀ s₃ : Shared, s₃ = { s₁ with heap := h₁, toks := s₁.toks + ([] : List (Str × Value)).length } →
   codeAny (model prog w) A (.compLoop (.ListComp elt [⟨.Tuple [.Name x px, .Name y py] tk tp, iter, [], 0⟩] scope pos) 0 (.ref I) (.ref D) (compEnvC scope cl C env)) (compPost (model prog w) A E none Q (.ref D) C) s₃ := by
  rintro s₃ rfl
  refine LCp.codeAny_compLoop_pair
   (fun k s' => ∃ h' tk i ys m', s' = { s₁ with heap := h', toks := tk } ∧ i ≤ n ∧ k = n + 1 - i ∧ ys.length = i ∧ St i h' ∧ h'.Ns C m' ∧ h'.get? D = some (lstE ys) ∧ (∀ b o, H.get? b = some o → h'.get? b = some o) ∧ (∀ j r, ys[j]? = some r → R j r)) ?_ (n + 1)
   (ix5 h₁ _ 0 [] _ (ia8 rfl (Nat.zero_le _) rfl rfl (W.frame _ _ _ hst fun b _ o e => old b o e) hns₁ hacc (fun b o e => old b o (hH b o e).1) (fun j r e => by simp at e)))
  rintro k s' hJz
  refine hdG ?_; intro Xh hXh
  refine ex5 hJz ?_
  try clear hJz
  rintro h' tk' i ys m' hZ
  refine an8 hZ ?_
  clear hZ
  rintro rfl hi rfl hyl hst' hn' hD' hk' hR
  refine hXh ?_; clear hXh
  by_cases hlt : i < n
  ·refine W.item i _ _ _ hlt hst' fun T vals h₂ tk₂ hP hT hTup hMid hk₂ => ?_
   have Tw := W.apart i T h₂ hMid
   refine hdG ?_; intro Xh hXh
   obtain ⟨oT, hZ⟩ := hTup
   refine an2 hZ ?_
   clear hZ
   rintro hTe hTc hZ
   obtain ⟨nT, hTd⟩ := hZ
   refine hXh ?_; clear hXh
   have hTC : T ≠ C := by
    refine hdG ?_; intro Xh hXh
    refine ex3 hn' ?_
    try clear hn'
    rintro oC _ _ hZ
    obtain ⟨hC', _⟩ := hZ
    refine hXh ?_; clear hXh
    exact Nat.ne_of_gt (Nat.lt_of_lt_of_le (Heap.lt_size hC') hT)
   have hTD : T ≠ D := by
    exact Nat.ne_of_gt (Nat.lt_of_lt_of_le (Heap.lt_size hD') hT)
   have hwf : ∀ b, b ∈ wr → b ∈ fp := W.sub
   have hCw : C ∉ wr := fun z => hCf (hwf _ z)
   have hDw : D ∉ wr := fun z => hDf (hwf _ z)
   refine W.go _ _ _ i T _ _ _ hMid fun h₃ hst₃ hk₃ => ?_
   have k3 : ∀ b o, b ∉ wr → h'.get? b = some o → h₃.get? b = some o := fun b o hb e => hk₃ b o hb (hk₂ b o hb e)
   have hT3 : IsTup h₃ T vals := (⟨oT, ia2 (hk₃ _ _ Tw hTe) hTc ⟨nT, hTd⟩⟩)
   have hn3 : h₃.Ns C m' := hn'.at' fun o e => k3 C o hCw e
   have H3 : ∀ b o, H.get? b = some o → h₃.get? b = some o := fun b o e => k3 b o (hH b o e).2 (hk' b o e)
   have two : ∃ v0 v1, vals = #[v0, v1] := by
    by_cases q : ∃ v0 v1, vals = #[v0, v1]
    ·exact q
    ·exact (hE i vals C h₃ tk₂ m' hlt hP H3 hHC hn3 (fun v0 v1 e => absurd (ix2 v0 v1 e) q)).1
   refine hdG ?_; intro Xh hXh
   refine ex2 two ?_
   try clear two
   rintro v0 v1 rfl
   refine hXh ?_; clear hXh
   refine assign_Tuple_tuple hh hT3 rfl rfl fun h₅ he => ?_
   have he' : ∀ b o, h₃.get? b = some o → h₅.get? b = some o := fun b o e => he b o (Nat.ne_of_lt (Heap.lt_size e)) e
   refine assignInOrder_cons (wpAny_assign_Name (wpAny_storeName_local (lookup_relabel_local hx) (hn3.at' fun o e => he' _ o e) (fun h₆ hn₆ hs₆ => ?_) (by simp [compEnvC, relabel, hkind])))
   refine assignInOrder_cons (wpAny_assign_Name (wpAny_storeName_local (lookup_relabel_local hy) hn₆ (fun h₇ hn₇ hs₇ => ?_) (by simp [compEnvC, relabel, hkind])))
   refine assignInOrder_nil ?_
   have k7 : ∀ b o, b ≠ C → h₃.get? b = some o → h₇.get? b = some o := fun b o hb e => hs₇.extBut b o hb (hs₆.extBut b o hb (he' b o e))
   have H7 : ∀ b o, H.get? b = some o → h₇.get? b = some o := fun b o e => k7 b o (fun z => by rw [z, hHC] at e; cases e) (H3 b o e)
   have hst₇ : St (i + 1) h₇ := W.frame _ _ _ hst₃ fun b hb o e => k7 b o (fun z => hCf (z ▸ hb)) e
   refine (hE i #[v0, v1] C h₇ _ _ hlt hP H7 hHC hn₇ (fun a b e => ?_)).2 _ _ fun r h₈ tk₈ hr hk₈ => ?_
   ·have := congrArg Array.toList e
    simp only [List.cons.injEq, and_true] at this
    obtain ⟨rfl, rfl⟩ := this
    exact ⟨by simp [hxy], by simp⟩
   ·have hD8 : h₈.get? D = some (lstE ys) := hk₈ _ _ (k7 D _ hDC (k3 D _ hDw hD'))
    refine append_at (hsz := by show ys.toArray.size ≤ sizeLine; rw [List.size_toArray, hyl]; exact Nat.le_trans hi hsz) hD8 fun h₉ hs₉ hD₉ => ?_
    refine (⟨n + 1 - (i + 1), ⟨by grind, ix5 h₉ tk₈ (i + 1) (ys ++ [r]) _ (ia8 rfl hlt rfl (by rw [List.length_append, List.length_singleton, hyl]) (W.frame _ _ _ (W.frame _ _ _ hst₇ fun b _ o e => hk₈ b o e) fun b hb o e => hs₉.extBut b o (fun q => hDf (q ▸ hb)) e) (hn₇.at' fun o e => hs₉.extBut _ o (Ne.symm hDC) (hk₈ _ o e)) (hD₉.trans (congrArg some (lstE_snoc ys r))) (fun b o e => hs₉.extBut b o (fun z => by rw [z, hHD] at e; cases e) (hk₈ b o (H7 b o e))) (fun j r' e => ?_))⟩⟩)
    by_cases hj : j < ys.length
    ·rw [List.getElem?_append_left hj] at e; exact hR j r' e
    ·rw [List.getElem?_append_right (by grind)] at e
     have : j - ys.length = 0 := by
      have := (List.getElem?_eq_some_iff.mp e).1
      simp at this; grind
     rw [this] at e
     cases e
     have : j = i := by grind
     subst this
     exact hr
  ·obtain rfl : i = n := Nat.le_antisymm hi (Nat.not_lt.mp hlt)
   refine W.done _ _ _ hst' fun h₂ tk₂ hk₂ => ?_
   have hCw : C ∉ wr := fun z => hCf (W.sub _ z)
   have hDw : D ∉ wr := fun z => hDf (W.sub _ z)
   refine ⟨m', hn'.at' fun o e => hk₂ C o hCw e, fun h'' hs'' => ?_⟩
   refine hQ D h'' _ ys (fun b o e => ?_) (hs''.extBut _ _ hDC (hk₂ D _ hDw hD')) hHD hyl hR
   exact hs''.extBut b o (fun z => by rw [z, hHC] at e; cases e) (hk₂ b o (hH b o e).2 (hk' b o e))
 exact codeAny_compStart_list (loop _ rfl) (W.self 0 _ _ _ (W.frame _ _ _ hst fun b _ o e => old b o e) (loop _ rfl))
end E_comp_two
section
variable {prog : Program} {w : World} {A : Around} {E : Value → Shared → Prop} {s : Shared} {env : Env}
theorem comp_two {elt iter : Expr} {x y : Str} {px py tp : Pos} {tk} {scope : Scope} {cl : List (Str × Addr)} {pos : Pos} {Q : Value → Shared → Prop} {n : Nat} (hsz : n ≤ sizeLine) (hh : A.handled = none) (hclos : closureFor scope env = pure cl) (hcell : ∀ z ∈ scope.names, z.2 ≠ .cell) (hkind : scope.kind = .function) (hnames : ∀ z ∈ scope.names, z.2 = .local → scope.names.lookup z.1 = some .local) (hx : scope.names.lookup x = some .local) (hy : scope.names.lookup y = some .local) (hxy : x ≠ y) (h : wpAny (model prog w) A (eval iter env) (Two prog w A elt x y scope cl env n Q) E s) (hs : ∀ x, foldedSetIterable iter env x = pure x := by intro _; rfl) : wpAny (model prog w) A (eval (.ListComp elt [⟨.Tuple [.Name x px, .Name y py] tk tp, iter, [], 0⟩] scope pos) env) Q E s := bag_all (P := E_comp_two.theP) (by with_unfolding_all exact @E_comp_two.core) { bag0 with A := nth [A, A, A, A] bag0.A, cl := nth [cl, cl, cl, cl] bag0.cl, env := nth [env, env, env, env] bag0.env, expr := nth [elt, elt, elt, elt, iter] bag0.expr, nat := nth [tk, tk, tk, tk, n] bag0.nat, pos := nth [px, px, px, px, py, tp, pos] bag0.pos, prog := nth [prog, prog, prog, prog] bag0.prog, qv := nth [E, E, E, E, Q] bag0.qv, s := nth [s, s, s, s] bag0.s, scope := nth [scope, scope, scope, scope] bag0.scope, str := nth [x, x, x, x, y] bag0.str, w := nth [w, w, w, w] bag0.w } hsz hh hclos hcell hkind hnames hx hy hxy h hs
end
end Mine
end
section
theorem Mine.clearContr : True := by
 k_with_none
 trivial
open PySem PySem.W PyProof.Rows PySem.Calls
set_option Elab.async false
set_option maxRecDepth 100000
namespace Mine
inductive NV : Value → UInt64 → Prop
 | i (t : Tok) : NV (.int 0 t) 0
 | f (b : UInt64) (t : Tok) : NV (.float b t) b
theorem of0 : Float64.ofInt 0 = 0 := by decide +kernel
section
variable {prog : Program} {w : World} {A : Around} {E : Value → Shared → Prop} {s : Shared} {Q : Value → Shared → Prop} {v u : Value} {a b c : UInt64} {t : Tok}
theorem nv_mul (hv : NV v b) (h : Q (.float (Float64.mul a b) s.toks) { s with toks := s.toks + 1 }) : wpAny (model prog w) A (binaryOp .Mult (.float a t) v) Q E s := by
 cases hv with
 | i t' => exact mul_fi_fits (by decide) (by rw [of0]; exact h)
 | f b t' => exact mul_float h
theorem nv_subR (hv : NV v b) (h : Q (.float (Float64.sub b a) s.toks) { s with toks := s.toks + 1 }) : wpAny (model prog w) A (binaryOp .Sub v (.float a t)) Q E s := by
 cases hv with
 | i t' => exact sub_if_fits (by decide) (by rw [of0]; exact h)
 | f b t' => exact sub_float h
theorem nv_add (hv : NV v b) (hu : NV u c) (h : ∀ r, NV r (Float64.add b c) → Q r { s with toks := s.toks + 1 }) : wpAny (model prog w) A (binaryOp .Add v u) Q E s := by
 cases hv with
 | i t' => cases hu with
  | i t2 => exact add_int (h _ (by rw [show Float64.add 0 0 = 0 by decide +kernel]; exact .i _))
  | f c t2 => exact add_if_fits (by decide) (by rw [of0]; exact h _ (.f _ _))
 | f b t' => cases hu with
  | i t2 => exact add_fi_fits (by decide) (by rw [of0]; exact h _ (.f _ _))
  | f c t2 => exact add_float (h _ (.f _ _))
theorem nv_sub (hv : NV v b) (hu : NV u c) (h : ∀ r, NV r (Float64.sub b c) → Q r { s with toks := s.toks + 1 }) : wpAny (model prog w) A (binaryOp .Sub v u) Q E s := by
 cases hv with
 | i t' => cases hu with
  | i t2 => exact PyProof.Rows.sub_int (h _ (by rw [show Float64.sub 0 0 = 0 by decide +kernel]; exact .i _))
  | f c t2 => exact sub_if_fits (by decide) (by rw [of0]; exact h _ (.f _ _))
 | f b t' => cases hu with
  | i t2 => exact sub_fi_fits (by decide) (by rw [of0]; exact h _ (.f _ _))
  | f c t2 => exact sub_float (h _ (.f _ _))
end
theorem rowsContra : True := by
 k_with_none
 (k_with "mine lt" => with_reducible first | assumption | exact cj0 ‹_› | exact cj1 ‹_› | exact cj2 ‹_› | exact cj3 ‹_› | exact cj4 ‹_› | exact cj5 ‹_› | exact cj6 ‹_› | exact cj7 ‹_› | exact cj8 ‹_› | exact cj9 ‹_› | exact cj10 ‹_› | exact cj11 ‹_› | exact cj12 ‹_› | exact cj13 ‹_› | exact cj14 ‹_› | exact cj15 ‹_› | exact dk1 ‹_› | exact dk2 ‹_› | exact dk3 ‹_› | exact dk4 ‹_› | exact dk5 ‹_› | exact dk6 ‹_› | exact dk7 ‹_› | exact dk8 ‹_› | exact dk9 ‹_› | exact dk10 ‹_› | exact dk11 ‹_› | exact dk12 ‹_› | exact dk13 ‹_› | exact dk14 ‹_› | exact dk15 ‹_›)
 (k_with "mine k_ne" => (refine neN ?_; (try dsimp only); first | with_reducible assumption | exact Ne.symm (by with_reducible assumption) | exact Nat.ne_of_lt (by k_extra "mine lt") | exact Nat.ne_of_gt (by k_extra "mine lt") | grind))
 (k_with "mine binaryOp Mult float" => (with_reducible refine nv_mul (by assumption) ?_))
 (k_with "mine binaryOp Sub" => (with_reducible refine nv_subR (by assumption) ?_))
 (k_with "mine binaryOp Sub" => (with_reducible refine nv_sub (by assumption) (by assumption) ?_; intro rvxq rnxq))
 (k_with "mine binaryOp Add" => (with_reducible refine nv_add (by assumption) (by assumption) ?_; intro rvxq rnxq))
 trivial
theorem code_defR {prog : Program} {w : World} {A A₀ : Around} {s : Shared} {env : Env} {outer : List Env} {base h₀ : Heap} {L : Addr} {m : Str → Option Value} {news : List (Addr × Obj)} {K : Frag} {p : Program} {lo : List Str} {mg mb : Str → Option Value} {R : Result → Shared → Prop} {name qual : Str} {params : Arguments} {body : List Stmt} {scope : Scope} {dV kV doc pm cdv ct oc : Value} {an od : Option Addr} {osl : Array (Option Value)} {f : Addr} {args : Args} {binds : List (Str × Value)}
  (hA : A.frames = some (env :: outer)) (hf : env.frame = some L) (hke : env.scope.kind = .function) (B : Below A₀ base outer h₀) (F : Fr h₀ L s.heap m) (X₀ : K.In h₀) (N : News h₀ L s.heap news) (T : TopRead p lo mg mb h₀)
  (ho : K.lookup f = some ⟨oc, od, .func (fnOf name qual params body scope dV kV doc pm an cdv ct), osl⟩) (hcd : codeIn K cdv qual = true) (hroom : A.depth < recursionLimit)
  (hbind : BindsTo s (fnOf name qual params body scope dV kV doc pm an cdv ct) args binds) (hloc : ∀ y ∈ binds, scope.names.lookup y.1 = some .local)
  (h : ∀ g L' h₁ tk, Fr h₀ L g m → Fr g L' h₁ (fun y => binds.reverse.lookup y) → News g L' h₁ news → Below A base (env :: outer) g → K.In g → TopRead p lo mg mb g → GSub s.heap g (news.map (·.1)) →
   wpAny (model prog w) (A.deeper (envOf qual scope L' f cdv)) (execs body (envOf qual scope L' f cdv))
    (fun fl s' => LeaveK h₀ L m g R (match fl with | .ret v => v | _ => .none) s')
    (fun e s' => wpAny (model prog w) (A.deeper (envOf qual scope L' f cdv)) («leaving» (envOf qual scope L' f cdv) e) (fun _ s'' => R (.error e) s'') (fun e' s'' => R (.error e') s'') s')
    { s with heap := h₁, toks := tk })
  (hco : scope.isCoroutine = false) (hgen : scope.isGenerator = false) (hk : scope.kind = .function)
  (hcell : ∀ x ∈ scope.names, x.2 ≠ .cell) : codeAny (model prog w) A (.call (.ref f) args) R s := by
 refine hdG ?_; intro Xh hXh
 refine an3 (groundX (R := R) B F N hA hf hke) ?_
 rintro FG BG st lv
 refine hXh ?_; clear hXh
 refine codeAny_call_def (fd := fnX name qual params body scope [] dV kV doc pm an cdv ct) (body := body) (binds := binds) hroom ((X₀.keeps F.keep) _ _ ho) rfl (T.nolimit.keeps F.keep) (codeRec_of (X₀.keeps F.keep) hcd) rfl hbind hcell hloc (fun h₁ hns hk₁ => ?_) hco hgen hk
 exact wpAny_mono (h _ s.heap.objs.size h₁ _ FG ⟨hns, fun b o e => hk₁ b o (of_hideAll _ e), Nat.le_of_eq (hideAll_size _ _)⟩
  (fun p hp => (ia2 (hk₁ _ _ (N p hp).1) (Nat.ne_of_lt (Heap.lt_size (N p hp).1)) (hideAll_none _ (List.mem_map_of_mem hp)))) BG (X₀.keeps st) (T.keeps st) (fun b o e n => hideAll_get _ e n)) (fun fl s' hl => lv _ _ hl) fun _ _ y => y
noncomputable def FunA (k : Nat) (w : World) (mg mb : Str → Option Value) (f : Addr) (vs : List Value) (led : List (Addr × Obj)) (P : Value → List (Addr × Obj) → Prop) : Prop :=
 ∀ (dp un : Nat) (gd : Option (List Code)) (cn : Str) (cs : Scope) (a : Addr) (ccd : Value) (cl : List (Str × Addr)) (outer : List Env) (A₀ : Around) (base h₀ : Heap) (L : Addr) (m : Str → Option Value) (s : Shared) (Q E : Value → Shared → Prop),
  Below A₀ base outer h₀ → Fr h₀ L s.heap m → (Mine.hdX.heap_1 w.params).In h₀ → News h₀ L s.heap led → TopRead qv (looseW qv loose) mg mb h₀ → cs.kind = .function →
  dp + k < recursionLimit → un + 16 * k < cLine →
  (∀ (r : Value) (tl : List (Addr × Obj)) (h' : Heap) (tk' : Nat), (∀ b o, s.heap.get? b = some o → h'.get? b = some o) → (∀ p ∈ tl, h'.get? p.1 = some p.2 ∧ s.heap.get? p.1 = none) → P r tl → Q r { s with heap := h', toks := tk' }) →
   wpAny (model PySem.Challenge.rw_wv0062_01.row.prog w) (ktrTop dp un gd cn cs L a ccd cl outer) (call (.ref f) vs) Q E s
noncomputable def FunAb (c : Bag) (k : Nat) (w : World) (mg mb : Str → Option Value) (f : Addr) (vs : List Value) (led : List (Addr × Obj)) (P : Value → List (Addr × Obj) → Prop) : Prop :=
  Below (c.A 0) (c.heap 0) (c.outer 0) (c.heap 1) → Fr (c.heap 1) (c.addr 1) (c.s 0).heap (c.fr 0) → (Mine.hdX.heap_1 w.params).In (c.heap 1) → News (c.heap 1) (c.addr 1) (c.s 0).heap led → TopRead qv (looseW qv loose) mg mb (c.heap 1) → (c.scope 0).kind = .function →
  (c.nat 0) + k < recursionLimit → (c.nat 1) + 16 * k < cLine →
  (∀ (r : Value) (tl : List (Addr × Obj)) (h' : Heap) (tk' : Nat), (∀ b o, (c.s 0).heap.get? b = some o → h'.get? b = some o) → (∀ p ∈ tl, h'.get? p.1 = some p.2 ∧ (c.s 0).heap.get? p.1 = none) → P r tl → (c.qv 0) r { (c.s 0) with heap := h', toks := tk' }) →
   wpAny (model PySem.Challenge.rw_wv0062_01.row.prog w) (ktrTop (c.nat 0) (c.nat 1) (c.gd 0) (c.str 0) (c.scope 0) (c.addr 1) (c.addr 0) (c.val 0) (c.cl 0) (c.outer 0)) (call (.ref f) vs) (c.qv 0) (c.qv 1) (c.s 0)
theorem funA_end {s h' g : Heap} {L' : Addr} {m' : Str → Option Value} {led tl : List (Addr × Obj)} (GS : GSub s g (led.map (·.1))) (F' : Fr g L' h' m') (N' : News g L' h' (tl ++ led)) (hs : ∀ p ∈ led, s.get? p.1 = some p.2) (hl : ∀ p ∈ tl, ∀ q ∈ led, q.1 ≠ p.1) :
  (∀ b o, s.get? b = some o → h'.get? b = some o) ∧ (∀ p ∈ tl, h'.get? p.1 = some p.2 ∧ s.get? p.1 = none) := by
 refine ⟨fun b o e => ?_, fun p hp => ⟨(N' p (List.mem_append_left _ hp)).1, ?_⟩⟩
 ·by_cases hb : b ∈ led.map (·.1)
  ·obtain ⟨q, hq, rfl⟩ := List.mem_map.mp hb
   have h1 := hs q hq
   rw [e] at h1
   rw [Option.some.inj h1]
   exact (N' q (List.mem_append_right _ hq)).1
  ·exact F'.keep b o (GS b o e hb)
 ·have h1 := (N' p (List.mem_append_left _ hp)).2.2
  cases e : s.get? p.1 with
  | none => rfl
  | some o =>
   by_cases hb : p.1 ∈ led.map (·.1)
   ·obtain ⟨q, hq, hq1⟩ := List.mem_map.mp hb
    exact absurd hq1 (hl p hp q hq)
   ·rw [GS p.1 o e hb] at h1; cases h1
theorem funA_use0 {k : Nat} {w : World} {mg mb : Str → Option Value} {f : Addr} {vs : List Value} {led : List (Addr × Obj)} {P : Value → List (Addr × Obj) → Prop} (C : FunA k w mg mb f vs led P) {news : List (Addr × Obj)} {dp un : Nat} {gd : Option (List Code)} {cn : Str} {cs : Scope} {a : Addr} {ccd : Value} {cl : List (Str × Addr)} {outer : List Env} {A₀ : Around} {base h₀ : Heap} {L : Addr} {m : Str → Option Value} {s : Shared} {Q E : Value → Shared → Prop}
  (B : Below A₀ base outer h₀) (F : Fr h₀ L s.heap m) (X : (Mine.hdX.heap_1 w.params).In h₀) (N : News h₀ L s.heap news) (T : TopRead qv (looseW qv loose) mg mb h₀) (hk : cs.kind = .function) (hd : dp + k < recursionLimit) (hu : un + 16 * k < cLine) (hl : ∀ p ∈ led, p ∈ news)
  (ret : ∀ (r : Value) (tl : List (Addr × Obj)) (h' : Heap) (tk' : Nat), Fr h₀ L h' m → News h₀ L h' (tl ++ news) → (∀ b o, s.heap.get? b = some o → h'.get? b = some o) → (∀ p ∈ tl, ∀ q ∈ news, @Ne Nat q.1 p.1) → P r tl → Q r { s with heap := h', toks := tk' }) :
  wpAny (model PySem.Challenge.rw_wv0062_01.row.prog w) (ktrTop dp un gd cn cs L a ccd cl outer) (call (.ref f) vs) Q E s := by
 refine C _ _ _ _ _ _ _ _ _ _ _ _ _ _ _ _ _ B F X (fun p hp => N p (hl p hp)) T hk hd hu fun r tl h' tk' keep fr hP => ?_
 refine hdG ?_; intro Xh hXh
 refine ex3 F.ns ?_
 rintro oL _ _ hZ
 obtain ⟨hL, _⟩ := hZ
 refine hXh ?_; clear hXh
 refine ret r tl h' tk' (F.keeps keep) (fun p hp => ?_) keep (fun p hp q hq e => ?_) hP
 ·rcases List.mem_append.mp hp with hp | hp
  ·have z := fr p hp
   refine (ia2 z.1 (fun e => ?_) ?_)
   ·rw [e, hL] at z; cases z.2
   ·cases e : h₀.get? p.1 with
    | none => rfl
    | some o => rw [F.keep _ _ e] at z; cases z.2
  ·exact ⟨keep _ _ (N p hp).1, (N p hp).2⟩
 ·have z := (fr p hp).2
  have e' : q.1 = p.1 := e
  rw [← e', (N q hq).1] at z
  cases z
theorem funA_use {k : Nat} {w : World} {mg mb : Str → Option Value} {f : Addr} {vs : List Value} {led : List (Addr × Obj)} {P : Value → List (Addr × Obj) → Prop} (C : FunA k w mg mb f vs led P) {news : List (Addr × Obj)} {dp un : Nat} {gd : Option (List Code)} {cn : Str} {cs : Scope} {a : Addr} {ccd : Value} {cl : List (Str × Addr)} {outer : List Env} {A₀ : Around} {base h₀ : Heap} {L : Addr} {m : Str → Option Value} {hs : Heap} {gs : Array GenState} {dr : Drawn} {tk : Nat} {os : OsState} {Q E : Value → Shared → Prop}
  (B : Below A₀ base outer h₀) (F : Fr h₀ L hs m) (X : (Mine.hdX.heap_1 w.params).In h₀) (N : News h₀ L hs news) (T : TopRead qv (looseW qv loose) mg mb h₀) (hk : cs.kind = .function) (hd : dp + k < recursionLimit) (hu : un + 16 * k < cLine) (hl : ∀ p ∈ led, p ∈ news)
  (ret : ∀ (r : Value) (tl : List (Addr × Obj)) (h' : Heap) (tk' : Nat), Fr h₀ L h' m → News h₀ L h' (tl ++ news) → (∀ b o, hs.get? b = some o → h'.get? b = some o) → (∀ p ∈ tl, ∀ q ∈ news, @Ne Nat q.1 p.1) → P r tl → Q r ⟨h', gs, dr, tk', os⟩) :
  wpAny (model PySem.Challenge.rw_wv0062_01.row.prog w) (ktrTop dp un gd cn cs L a ccd cl outer) (call (.ref f) vs) Q E ⟨hs, gs, dr, tk, os⟩ :=
 funA_use0 (s := ⟨hs, gs, dr, tk, os⟩) C B F X N T hk hd hu hl ret
theorem funA_ret {P : Value → List (Addr × Obj) → Prop} {s : Shared} {Q : Value → Shared → Prop} {r : Value} {h' g h₁ : Heap} {L' L₁ : Addr} {m' : Str → Option Value} {tk' : Nat} {led all : List (Addr × Obj)}
  (hret : ∀ (r : Value) (tl : List (Addr × Obj)) (h' : Heap) (tk' : Nat), (∀ b o, s.heap.get? b = some o → h'.get? b = some o) → (∀ p ∈ tl, h'.get? p.1 = some p.2 ∧ s.heap.get? p.1 = none) → P r tl → Q r { s with heap := h', toks := tk' })
  (N₁ : News h₁ L₁ s.heap led) (GS : GSub s.heap g (led.map (·.1))) (F' : Fr g L' h' m') (N' : News g L' h' all) (hled : ∀ p ∈ led, p ∈ all)
  (hP : ∀ tl, (∀ p ∈ all, p.1 ∉ led.map (·.1) → p ∈ tl) → P r tl) : Q r { s with heap := h', toks := tk' } := by
 have z := funA_end (led := led) (tl := all.filter fun p => decide (p.1 ∉ led.map (·.1))) GS F' (fun p hp => by
   rcases List.mem_append.mp hp with hp | hp
   ·exact N' p (List.mem_filter.mp hp).1
   ·exact N' p (hled p hp)) (fun p hp => (N₁ p hp).1) (fun p hp q hq e => by
   have h1 := of_decide_eq_true (List.mem_filter.mp hp).2
   exact h1 (e ▸ List.mem_map.mpr ⟨q, hq, rfl⟩))
 exact hret r _ h' tk' z.1 z.2 (hP _ fun p hp h1 => List.mem_filter.mpr ⟨hp, decide_eq_true h1⟩)
theorem rowsContrb : True := by
 (k_with "mine cell_enter" => (refine' code_defR (by exact rfl) (by exact rfl) (by assumption) (by k_asm) (by k_asm) (by k_asm) (by k_asm) (by k_asm) (by k_is) (by k_is) (by ktr_room) (by exact BindsTo.of_eq rfl) (by exact locs rfl) ?_ (by exact rfl) (by exact rfl) (by exact rfl) (by decide); k_whole; intro g'xq L'xq h'xq tkEq FG'xq F'xq N'xq B'xq X'xq T'xq GS'xq; (try dsimp only); (try k_lift B'xq); (try k_fold)))
 trivial
theorem fun0 {s h' g : Heap} {L' : Addr} {m' : Str → Option Value} (GS : GSub s g (([] : List (Addr × Obj)).map (·.1))) (F' : Fr g L' h' m') : ∀ b o, s.get? b = some o → h'.get? b = some o := fun b o e => F'.keep b o (GS b o e (by simp))
theorem nil0 {s h' : Heap} : ∀ p ∈ ([] : List (Addr × Obj)), h'.get? p.1 = some p.2 ∧ s.get? p.1 = none := fun _ h => nomatch h
set_option maxHeartbeats 4000000 in
theorem add_nv (w : World) (mg mb) (v u : Value) (b c : UInt64) (hv : NV v b) (hu : NV u c) : FunA 2 w mg mb 260 [v, u] [] (fun r tl => tl = [] ∧ NV r (Float64.add b c)) := by
 w_on
 unfold FunA
 k_fill
 intros
 rename_i hret
 refine wpAny_call ?_
 k_dflt cell_enter
 k_steps
 all_goals exact hret _ [] _ _ (fun0 (by assumption) (by assumption)) nil0 ⟨rfl, by assumption⟩
theorem fun1 {s h' g : Heap} {L' : Addr} {m' : Str → Option Value} {D : Addr} {o : Obj} (GS : GSub s g (([] : List (Addr × Obj)).map (·.1))) (F' : Fr g L' h' m') (N' : News g L' h' [(D, o)]) : (∀ b o, s.get? b = some o → h'.get? b = some o) ∧ (∀ p ∈ [(D, o)], h'.get? p.1 = some p.2 ∧ s.get? p.1 = none) :=
 funA_end (led := []) (tl := [(D, o)]) GS F' N' (fun _ h => nomatch h) (fun _ _ _ h => nomatch h)
set_option maxHeartbeats 4000000 in
theorem sub_nv (w : World) (mg mb) {v u : Value} {b c : UInt64} (hv : NV v b) (hu : NV u c) : FunA 2 w mg mb 274 [v, u] [] (fun r tl => tl = [] ∧ NV r (Float64.sub b c)) := by
 w_on
 unfold FunA
 k_fill
 intros
 rename_i hret
 refine wpAny_call ?_
 k_dflt cell_enter
 k_steps
 all_goals exact hret _ [] _ _ (fun0 (by assumption) (by assumption)) nil0 ⟨rfl, by assumption⟩
set_option maxHeartbeats 4000000 in
theorem div_18 (w : World) (mg mb) (t u : Tok) : FunA 2 w mg mb 281 [.int 1 t, .int 8 u] [] (fun r tl => tl = [] ∧ NV r (f8 1)) := by
 w_on
 unfold FunA
 k_fill
 intros
 rename_i hret
 refine wpAny_call ?_
 k_dflt cell_enter
 k_steps
 all_goals exact hret _ [] _ _ (fun0 (by assumption) (by assumption)) nil0 ⟨rfl, by rw [show Float64.ofFrac (decide ((1:Int) < 0) != decide ((8:Int) < 0)) (Int.natAbs 1) (Int.natAbs 8) = f8 1 by decide +kernel]; exact .f _ _⟩
set_option maxHeartbeats 4000000 in
theorem neg_i (w : World) (mg mb) (x : Int) (t : Tok) : FunA 2 w mg mb 267 [.int x t] [] (fun r tl => tl = [] ∧ ∃ t, r = .int (-x) t) := by
 w_on
 unfold FunA
 k_fill
 intros
 rename_i hret
 refine wpAny_call ?_
 k_dflt cell_enter
 k_steps
 all_goals exact hret _ [] _ _ (fun0 (by assumption) (by assumption)) nil0 ⟨rfl, _, rfl⟩
set_option maxHeartbeats 4000000 in
theorem sub_i (w : World) (mg mb) (x y : Int) (t u : Tok) : FunA 2 w mg mb 274 [.int x t, .int y u] [] (fun r tl => tl = [] ∧ ∃ t, r = .int (x - y) t) := by
 w_on
 unfold FunA
 k_fill
 intros
 rename_i hret
 refine wpAny_call ?_
 k_dflt cell_enter
 k_steps
 all_goals exact hret _ [] _ _ (fun0 (by assumption) (by assumption)) nil0 ⟨rfl, _, rfl⟩
set_option maxHeartbeats 4000000 in
theorem yiq (w : World) (mg mb) {v1 v2 v3 : Value} {r g b : UInt64} (h1 : NV v1 r) (h2 : NV v2 g) (h3 : NV v3 b) : FunA 2 w mg mb 253 [v1, v2, v3] [] (fun v tl => ∃ D t1 t2 t3, v = .ref D ∧ tl = [(D, { cls := .type "tuple", data := .seq #[.float (Yf r g b) t1, .float (If r g b) t2, .float (Qf r g b) t3] })]) := by
 w_on
 unfold FunA
 k_fill
 intros
 rename_i hret
 refine wpAny_call ?_
 k_dflt cell_enter
 k_steps
 all_goals
  have e9 := fun1 (by assumption) (by assumption) (by assumption)
  exact hret _ _ _ _ e9.1 e9.2 (ix4 _ _ _ _ ⟨rfl, rfl⟩)
set_option maxHeartbeats 4000000 in
theorem whole (w : World) (mg mb) {x : UInt64} {p : Int} {tx tp : Tok} (hp : p = 800 ∨ p = 80000000000) (hc : calm x p = true) : FunA 2 w mg mb 321 [.float x tx, .int p tp] [] (fun r tl => tl = [] ∧ ∃ t, r = .int (wholeOf x p) t) := by
 w_on
 unfold calm zOf at hc
 simp only [Bool.and_eq_true, Bool.not_eq_true'] at hc
 obtain ⟨hN, hI⟩ := hc
 rcases hp with rfl | rfl
 all_goals
  unfold FunA
  k_fill
  intros
  rename_i hret
  refine wpAny_call ?_
  k_dflt cell_enter
  k_steps
  all_goals first
   | exact hret _ [] _ _ (fun0 (by assumption) (by assumption)) nil0 ⟨rfl, _, rfl⟩
   | (exfalso; simp_all; done)
noncomputable def NC (k : Nat) (v : Value) (n : Nat) : Prop := NV v (f8 n) ∧ n ≤ k
theorem f8_step {k n d : Nat} (hn : n ≤ k) (hk : k < 6) (hd : d ≤ 1) : Float64.add (f8 n) (f8 d) = f8 (n + d) := by
 have h : ∀ a, a < 6 → Float64.add (f8 a) (f8 1) = f8 (a + 1) ∧ Float64.add (f8 a) (f8 0) = f8 a := by decide +kernel
 have hn6 : n < 6 := by grind
 rcases (show d = 0 ∨ d = 1 by grind) with rfl | rfl
 ·exact (h n hn6).2
 ·exact (h n hn6).1
theorem funA_mono {k : Nat} {w : World} {mg mb : Str → Option Value} {f : Addr} {vs : List Value} {led : List (Addr × Obj)} {P P' : Value → List (Addr × Obj) → Prop} (C : FunA k w mg mb f vs led P) (h : ∀ v tl, P v tl → P' v tl) : FunA k w mg mb f vs led P' :=
 fun _ _ _ _ _ _ _ _ _ _ _ _ _ _ _ _ _ B F X N T hk hd hu ret => C _ _ _ _ _ _ _ _ _ _ _ _ _ _ _ _ _ B F X N T hk hd hu fun r tl h' tk' k fr p => ret r tl h' tk' k fr (h _ _ p)
theorem add_nc (w : World) (mg mb) {v u : Value} {k n d : Nat} (hv : NC k v n) (hu : NC 1 u d) (hk : k < 6) : FunA 2 w mg mb 260 [v, u] [] (fun r tl => tl = [] ∧ NC (k + 1) r (n + d)) :=
 funA_mono (add_nv w mg mb v u _ _ hv.1 hu.1) fun r tl ⟨e, hr⟩ => (ia2 e (by rw [← f8_step hv.2 hk hu.2]; exact hr) (by have := hv.2; have := hu.2; grind))
theorem f8_less {a b : Nat} (h : b ≤ a) (ha : a ≤ 6) : Float64.sub (f8 a) (f8 b) = f8 (a - b) := by
 have q : ∀ a, a < 7 → ∀ b, b < 7 → b ≤ a → Float64.sub (f8 a) (f8 b) = f8 (a - b) := by decide +kernel
 exact q a (by grind) b (by grind) h
theorem sub_nc (w : World) (mg mb) {v u : Value} {k k' n d : Nat} (hv : NC k v n) (hu : NC k' u d) (hk : k ≤ 6) (hle : d ≤ n) : FunA 2 w mg mb 274 [v, u] [] (fun r tl => tl = [] ∧ NC 6 r (n - d)) :=
 funA_mono (sub_nv w mg mb hv.1 hu.1) fun r tl ⟨e, hr⟩ => (ia2 e (by rw [← f8_less hle (by have := hv.2; grind)]; exact hr) (by have := hv.2; grind))
end Mine
end
section
open PySem PySem.W PyProof.Rows PySem.Calls PySem.Spec
set_option Elab.async false
set_option maxRecDepth 100000
namespace Mine
section
variable {prog : Program} {w : World} {A : Around} {E : Value → Shared → Prop} {s : Shared} {env : Env} {h₀ : Heap} {L : Addr} {m : Str → Option Value} {news : List (Addr × Obj)}
end
section
variable {prog : Program} {w : World} {A : Around} {E : Value → Shared → Prop} {s : Shared} {env : Env} {h₀ : Heap} {L : Addr} {m : Str → Option Value} {news : List (Addr × Obj)}
theorem two_zip {elt : Expr} {x y : Str} {scope : Scope} {cl : List (Str × Addr)} {l1 l2 : Addr} {xs ys : Array Value} {n : Nat} {R : Nat → Value → Prop} {Q : Value → Shared → Prop} (F : Fr h₀ L s.heap m) (N : News h₀ L s.heap news) (hl1 : s.heap.IsList l1 xs) (hl2 : s.heap.IsList l2 ys) (hh : A.handled = none) (hn : min xs.size ys.size = n) (hE : ∀ i v0 v1 C oC h tk m₂ (Q' E' : Value → Shared → Prop), xs[i]? = some v0 → ys[i]? = some v1 → LCg.NsObj oC m₂ → m₂ x = some v0 → m₂ y = some v1 → Fr h₀ L h m → News h₀ L h ((C, oC) :: news) → (∀ p ∈ news, @Ne Nat p.1 C) →
   (∀ r h' tk', R i r → (∀ b o, h.get? b = some o → h'.get? b = some o) → Q' r { s with heap := h', toks := tk' }) → wpAny (model prog w) A (eval elt (compEnvC scope cl C env)) Q' E' { s with heap := h, toks := tk }) (hQ : ∀ D h tk rs, Fr h₀ L h m → News h₀ L h ((D, lstE rs) :: news) → (∀ p ∈ news, @Ne Nat p.1 D) → (∀ b o, s.heap.get? b = some o → h.get? b = some o) → rs.length = n → (∀ i r, rs[i]? = some r → R i r) → Q (.ref D) { s with heap := h, toks := tk }) : wpAny (model prog w) A (call (.type "zip") [.ref l1, .ref l2]) (Two prog w A elt x y scope cl env n Q) E s := by
 have fresh : ∀ {C : Addr}, s.heap.get? C = none → C ≠ L ∧ h₀.get? C = none ∧ ∀ p ∈ news, @Ne Nat p.1 C := fun {C} e => by
  refine hdG ?_; intro Xh hXh
  refine ex3 F.ns ?_
  rintro oL _ _ hZ
  obtain ⟨hL, _⟩ := hZ
  refine hXh ?_; clear hXh
  refine (ia2 (fun q => ?_) ?_ (fun p hp q => ?_))
  ·rw [q, hL] at e; cases e
  ·cases e' : h₀.get? C with
   | none => rfl
   | some o => rw [F.keep _ _ e'] at e; cases e
  ·have q' : p.1 = C := q
   rw [← q', (N p hp).1] at e; cases e
 refine zip_rows F hl1 hl2 fun h' z TI TO i1 i2 D st F' keep z1 z2 z3 z4 _ => ⟨R, z, [z, TI, TO, i1, i2, l1, l2], [z, TO, i1, i2], _, _, _, s.heap, rfl, hn ▸ WalksT.zip2 hh z TI TO i1 i2 l1 l2 D xs ys, st, ?_, ?_, ?_, ?_⟩
 ·refine an6 st ?_
  try clear st
  rintro a b ⟨_, _, c⟩ ⟨_, d, _⟩ ⟨_, e, _⟩ ⟨_, f, _⟩ ⟨_, g, _⟩
  intro q hq
  simp only [List.mem_cons, List.not_mem_nil, or_false] at hq
  rcases hq with rfl | rfl | rfl | rfl | rfl | rfl | rfl
  ·exact Heap.lt_size a
  ·exact Heap.lt_size b
  ·exact Heap.lt_size c
  ·exact Heap.lt_size d
  ·exact Heap.lt_size e
  ·exact Heap.lt_size f
  ·exact Heap.lt_size g
 ·intro b o e
  refine ⟨keep b o e, fun hb => ?_⟩
  have lt := Heap.lt_size e
  simp only [List.mem_cons, List.not_mem_nil, or_false] at hb
  rcases hb with rfl | rfl | rfl | rfl
  ·exact absurd lt (Nat.not_lt.mpr z1)
  ·exact absurd lt (Nat.not_lt.mpr z2)
  ·exact absurd lt (Nat.not_lt.mpr z3)
  ·exact absurd lt (Nat.not_lt.mpr z4)
 ·rintro i vals C h tk m₂ hi hJz
  refine hdG ?_; intro Xh hXh
  refine ex2 hJz ?_
  try clear hJz
  rintro v0 v1 hZ
  refine an2 hZ ?_
  clear hZ
  rintro e0 e1 rfl
  refine hXh ?_; clear hXh
  rintro hk hC hns hv
  refine ⟨(ix2 v0 v1 rfl), fun Q' E' ret => ?_⟩
  refine hdG ?_; intro Xh hXh
  obtain ⟨oC, eC, nC⟩ := LCg.ns_obj hns
  refine an2 (fresh hC) ?_
  rintro f1 f2 f3
  obtain ⟨m0, m1⟩ := hv v0 v1 rfl
  refine hXh ?_; clear hXh
  refine hE i v0 v1 C oC h tk m₂ Q' E' e0 e1 nC m0 m1 (F.keeps hk) (fun p hp => ?_) f3 ret
  rcases List.mem_cons.mp hp with rfl | hp
  ·exact (ia2 eC f1 f2)
  ·exact ⟨hk _ _ (N p hp).1, (N p hp).2⟩
 ·intro D h tk rs hk hD hH hl hR
  refine hdG ?_; intro Xh hXh
  refine an2 (fresh hH) ?_
  rintro f1 f2 f3
  refine hXh ?_; clear hXh
  refine hQ D h tk rs (F.keeps hk) (fun p hp => ?_) f3 hk hl hR
  rcases List.mem_cons.mp hp with rfl | hp
  ·exact (ia2 hD f1 f2)
  ·exact ⟨hk _ _ (N p hp).1, (N p hp).2⟩
noncomputable def pick {α : Type} (a b c : α) : Nat → α
 | 0 => a
 | 1 => b
 | _ => c
theorem three {P : Value → Nat → Prop} {x y z : Value} {a b c : Nat} (h0 : P x a) (h1 : P y b) (h2 : P z c) : ∀ i v, (#[x, y, z] : Array Value)[i]? = some v → P v (pick a b c i) := by
 intro i v e
 match i with
 | 0 => cases e; exact h0
 | 1 => cases e; exact h1
 | 2 => cases e; exact h2
 | n + 3 => simp at e
theorem len3 {rs : List Value} (h : rs.length = 3) : ∃ a b c, rs = [a, b, c] := by
 revert rs; exact @lnC _ _ _ fun a => lnC fun b => lnC fun c => ln0 (ix3 a b c rfl)
theorem off1_of {D : Addr} : ∀ {l : List (Addr × Obj)}, (∀ p ∈ l, @Ne Nat p.1 D) → LCg.Off1 D l
 | [], _ => trivial
 | _ :: _, h => ⟨h _ List.mem_cons_self, off1_of fun p hp => h p (List.mem_cons_of_mem _ hp)⟩
theorem zip_three {elt : Expr} {x y : Str} {scope : Scope} {cl : List (Str × Addr)} {l1 l2 : Addr} {x0 x1 x2 y0 y1 y2 : Value} {a0 a1 a2 b0 b1 b2 : Nat} {Q : Value → Shared → Prop} {P1 P2 : Value → Nat → Prop} (P3 : Value → Nat → Nat → Prop)
  (F : Fr h₀ L s.heap m) (N : News h₀ L s.heap news) (hl1 : s.heap.IsList l1 #[x0, x1, x2]) (hl2 : s.heap.IsList l2 #[y0, y1, y2]) (hh : A.handled = none)
  (p0 : P1 x0 a0) (p1 : P1 x1 a1) (p2 : P1 x2 a2) (q0 : P2 y0 b0) (q1 : P2 y1 b1) (q2 : P2 y2 b2)
  (hE : ∀ v0 v1 a b C oC h tk m₂ (Q' E' : Value → Shared → Prop), P1 v0 a → P2 v1 b → ((a = a0 ∧ b = b0) ∨ (a = a1 ∧ b = b1) ∨ (a = a2 ∧ b = b2)) → LCg.NsObj oC m₂ → m₂ x = some v0 → m₂ y = some v1 → Fr h₀ L h m → News h₀ L h ((C, oC) :: news) → LCg.Off1 C news →
   (∀ r h' tk', P3 r a b → (∀ b o, h.get? b = some o → h'.get? b = some o) → Q' r { s with heap := h', toks := tk' }) → wpAny (model prog w) A (eval elt (compEnvC scope cl C env)) Q' E' { s with heap := h, toks := tk })
  (hQ : ∀ D h tk r0 r1 r2, Fr h₀ L h m → News h₀ L h ((D, listOf #[r0, r1, r2] 3) :: news) → LCg.Off1 D news → (∀ b o, s.heap.get? b = some o → h.get? b = some o) → P3 r0 a0 b0 → P3 r1 a1 b1 → P3 r2 a2 b2 → Q (.ref D) { s with heap := h, toks := tk }) :
  wpAny (model prog w) A (call (.type "zip") [.ref l1, .ref l2]) (Two prog w A elt x y scope cl env 3 Q) E s := by
 refine two_zip (R := fun i r => P3 r (pick a0 a1 a2 i) (pick b0 b1 b2 i)) F N hl1 hl2 hh rfl (fun i v0 v1 C oC h tk m₂ Q' E' e0 e1 nC m0 m1 F' N' ne ret => ?_) fun D h tk rs F' N' ne keep hl hR => ?_
 ·refine hE v0 v1 _ _ C oC h tk m₂ Q' E' (three p0 p1 p2 i v0 e0) (three q0 q1 q2 i v1 e1) ?_ nC m0 m1 F' N' (off1_of ne) ret
  match i with
  | 0 => exact .inl ⟨rfl, rfl⟩
  | 1 => exact .inr (.inl ⟨rfl, rfl⟩)
  | n + 2 => exact .inr (.inr ⟨rfl, rfl⟩)
 ·refine ex3 (len3 hl) ?_
  rintro r0 r1 r2 rfl
  exact hQ D h tk r0 r1 r2 F' N' (off1_of ne) keep (hR 0 r0 rfl) (hR 1 r1 rfl) (hR 2 r2 rfl)
end
end Mine
end
section
open PySem PySem.W PyProof.Rows PySem.Calls PySem.Spec
set_option Elab.async false
set_option maxRecDepth 100000
namespace Mine
section
variable {prog : Program} {w : World} {A : Around} {E : Value → Shared → Prop} {s : Shared}
theorem nextOf_tup {it t : Addr} {i : Nat} {xs : Array Value} {x : Value} {Q : Value → Shared → Prop} (I : s.heap.IsTupleIter it t i) (T : s.heap.IsTuple t xs) (hx : xs[i]? = some x)
  (k : ∀ h', h'.IsTupleIter it t (i + 1) → Heap.SameBut it s.heap h' → Q x { s with heap := h' }) : wpAny (model prog w) A (Builtin.SmallTypes.nextOf (.ref it)) Q E s := by
 refine hdG ?_; intro Xh hXh
 obtain ⟨o, hZ⟩ := id I
 refine an2 hZ ?_
 clear hZ
 rintro ho hc hd
 obtain ⟨ot, hZ⟩ := T
 refine an2 hZ ?_
 clear hZ
 rintro hot _ hZ
 obtain ⟨nt, hdt⟩ := hZ
 refine hXh ?_; clear hXh
 have hset : ∀ h', h' = s.heap.update it (Obj.mapFields fun vs => vs.setIfInBounds 1 (rawInt ((i : Int) + 1))) → h'.IsTupleIter it t (i + 1) := by
  rintro h' rfl
  refine (⟨_, ia2 (Heap.get?_update_self _ ho (Obj.isFreed_of_fields (Obj.data_mapFields hd _))) ((Obj.cls_mapFields ..).trans hc) ?_⟩)
  rw [Obj.data_mapFields hd]; simp [rawInt]
 unfold Builtin.SmallTypes.nextOf
 refine wpAny_bind (wpAny_callSpecial?_slot (name := Str.ofString "__next__") I.typeIs F.slot_tuple_iterator_next (wpAny_call_entry F.slot_tuple_iterator_next I.typeIs F.entry_tuple_iterator_next ?_ (F.args_tuple_iterator_next_1 _)))
 show wpAny _ _ (field (.ref it) 0 >>= _) _ _ s
 refine wpAny_bind (wpAny_field ho hd (x := .ref t) rfl ?_)
 show wpAny _ _ (if (Value.ref t == Value.none) = true then _ else _) _ _ s
 rw [if_neg (show ¬ ((Value.ref t == Value.none) = true) from Bool.false_ne_true)]
 show wpAny _ _ (field (.ref it) 1 >>= _) _ _ s
 refine wpAny_bind (wpAny_field ho hd (x := .int i 0) rfl ?_)
 show wpAny _ _ (seqItems? (.ref t) >>= _) _ _ s
 refine wpAny_bind (wpAny_seqItems hot hdt ?_)
 simp only [Int.toNat_natCast, hx]
 exact wpAny_bind (wpAny_setField ho hd (by simp) (wpAny_pure ⟨x, rfl, wpAny_pure (k _ (hset _ rfl) (Heap.SameBut.update ..))⟩))
theorem nextOf_tupEnd {it t : Addr} {i : Nat} {xs : Array Value} {Q : Value → Shared → Prop} (hh : A.handled = none) (I : s.heap.IsTupleIter it t i) (T : s.heap.IsTuple t xs) (hx : xs[i]? = none)
  (k : ∀ h' e, Heap.ExtBut it s.heap h' → (∃ o, h'.get? e = some o ∧ o.cls = .type "StopIteration") → E (.ref e) { s with heap := h' }) : wpAny (model prog w) A (Builtin.SmallTypes.nextOf (.ref it)) Q E s := by
 refine hdG ?_; intro Xh hXh
 obtain ⟨o, hZ⟩ := id I
 refine an2 hZ ?_
 clear hZ
 rintro ho hc hd
 obtain ⟨ot, hZ⟩ := T
 refine an2 hZ ?_
 clear hZ
 rintro hot _ hZ
 obtain ⟨nt, hdt⟩ := hZ
 refine hXh ?_; clear hXh
 unfold Builtin.SmallTypes.nextOf
 refine wpAny_bind (wpAny_callSpecial?_slot (name := Str.ofString "__next__") I.typeIs F.slot_tuple_iterator_next (wpAny_call_entry F.slot_tuple_iterator_next I.typeIs F.entry_tuple_iterator_next ?_ (F.args_tuple_iterator_next_1 _)))
 show wpAny _ _ (field (.ref it) 0 >>= _) _ _ s
 refine wpAny_bind (wpAny_field ho hd (x := .ref t) rfl ?_)
 show wpAny _ _ (if (Value.ref t == Value.none) = true then _ else _) _ _ s
 rw [if_neg (show ¬ ((Value.ref t == Value.none) = true) from Bool.false_ne_true)]
 show wpAny _ _ (field (.ref it) 1 >>= _) _ _ s
 refine wpAny_bind (wpAny_field ho hd (x := .int i 0) rfl ?_)
 show wpAny _ _ (seqItems? (.ref t) >>= _) _ _ s
 refine wpAny_bind (wpAny_seqItems hot hdt ?_)
 simp only [Int.toNat_natCast, hx]
 refine wpAny_bind (wpAny_rule (wpAny_bind (wpAny_setField ho hd (by simp) ?_)))
 show wpAny _ _ (newExc (.type "StopIteration") [] >>= _) _ _ _
 refine wpAny_bind ?_
 simp only [newExc, newTuple]
 refine wpAny_bind (wpAny_newObj_type ?_ (by size_fits))
 refine wpAny_bind (m := firstArgMember _ _) (wpAny_of_eq (a := Value.none) (by first | rfl | (simp only [firstArgMember]; rfl)) ?_)
 refine wpAny_newObj_type ?_ (by size_fits)
 simp only [raiseNew]
 refine wpAny_bind (wpAny_handled ?_)
 first | rw [show A.in1.handled = none from hh] | rw [hh]
 refine wpAny_bind (wpAny_pure (wpAny_throw ?_))
 exact k _ _ (((Heap.SameBut.update ..).extBut.push _).push _) ⟨_, Heap.get?_push_size _ rfl, rfl⟩
end
theorem drawsTup {prog : Program} {w : World} {A : Around} (hh : A.handled = none) (it t : Addr) (hne : t ≠ it) (xs : Array Value) :
  Draws prog w A it [it, t] xs.size (fun i v => xs[i]? = some v) (fun i h => h.IsTupleIter it t i ∧ h.IsTuple t xs) where
 live := fun _ _ st => let ⟨o, ho, _⟩ := st.1; ⟨o, ho⟩
 frame := fun _ _ _ st k => ⟨let ⟨o, ho, r⟩ := st.1; ⟨o, k it (by simp) o ho, r⟩, let ⟨o, ho, r⟩ := st.2; ⟨o, k t (by simp) o ho, r⟩⟩
 item := fun i s Q E hi st k => nextOf_tup st.1 st.2 (x := xs[i]) (by simp [hi]) fun h' I' B => k _ h' s.toks (by simp [hi]) ⟨I', st.2.extBut B.extBut hne⟩ B
 done := fun s Q E st k => nextOf_tupEnd hh st.1 st.2 (by simp) k
noncomputable def Sq (b : Bool) (h : Heap) (a : Addr) (xs : Array Value) : Prop := match b with | true => h.IsList a xs | false => h.IsTuple a xs
noncomputable def SqIt (b : Bool) (h : Heap) (it a : Addr) (i : Nat) : Prop := match b with | true => h.IsListIter it a i | false => h.IsTupleIter it a i
noncomputable def sqIter : Bool → String | true => "list_iterator" | false => "tuple_iterator"
theorem Sq.lt {b : Bool} {h : Heap} {a : Addr} {xs : Array Value} (x : Sq b h a xs) : a < h.objs.size := by
 cases b <;> exact let ⟨_, e, _⟩ := x; Heap.lt_size e
theorem Sq.at {b : Bool} {h h' : Heap} {a : Addr} {xs : Array Value} (x : Sq b h a xs) (k : ∀ o, h.get? a = some o → h'.get? a = some o) : Sq b h' a xs := by
 cases b <;> exact let ⟨o, e, r⟩ := x; ⟨o, k o e, r⟩
theorem SqIt.at {b : Bool} {h h' : Heap} {it a : Addr} {i : Nat} (x : SqIt b h it a i) (k : ∀ o, h.get? it = some o → h'.get? it = some o) : SqIt b h' it a i := by
 cases b <;> exact let ⟨o, e, r⟩ := x; ⟨o, k o e, r⟩
theorem SqIt.new (b : Bool) (h : Heap) (a : Addr) : SqIt b (h.push { cls := .type (sqIter b), data := .fields #[.ref a, .int 0 0] }) h.objs.size a 0 := by
 cases b <;> exact (⟨_, ia2 (Heap.get?_push_size _ rfl) rfl rfl⟩)
theorem sqDraws {prog : Program} {w : World} {A : Around} (hh : A.handled = none) (b : Bool) (it t : Addr) (hne : t ≠ it) (xs : Array Value) :
  Draws prog w A it [it, t] xs.size (fun i v => xs[i]? = some v) (fun i h => SqIt b h it t i ∧ Sq b h t xs) := by
 cases b
 ·exact drawsTup hh it t hne xs
 ·exact Draws.list hh it t hne xs
theorem sq_iter {prog : Program} {w : World} {A : Around} {E : Value → Shared → Prop} {s : Shared} {b : Bool} {a : Addr} {xs : Array Value} {Q : Value → Shared → Prop} (x : Sq b s.heap a xs)
  (k : Q (.ref s.heap.objs.size) { s with heap := s.heap.push { cls := .type (sqIter b), data := .fields #[.ref a, .int 0 0] } }) : wpAny (model prog w) A (pyIter (.ref a)) Q E s := by
 cases b
 ·exact wpAny_pyIter_tuple x k
 ·exact wpAny_pyIter_list x k
structure Zap (z TI TO i1 i2 : Addr) (f1 f2 : List Addr) : Prop where
 d : [z, TI, TO, i1, i2].Nodup
 m1 : i1 ∈ f1
 m2 : i2 ∈ f2
 o1 : z ∉ f1 ∧ TO ∉ f1 ∧ i2 ∉ f1
 o2 : z ∉ f2 ∧ TO ∉ f2 ∧ i1 ∉ f2
section
variable {prog : Program} {w : World} {A : Around} {E : Value → Shared → Prop} {s : Shared} {z TI TO i1 i2 : Addr} {f1 f2 : List Addr} {n1 n2 : Nat} {P1 P2 : Nat → Value → Prop} {S1 S2 : Nat → Heap → Prop}
structure ZAt (h : Heap) (z TI TO i1 i2 : Addr) (f0 : Value) : Prop where
 z : IsZip h z TI TO f0
 i : IsPair h TI (.ref i1) (.ref i2)
 o : ∃ a b, IsPair h TO a b
end
namespace E_zip_item
noncomputable def theP (zC : Bag) : Prop :=
 let prog := zC.prog 3; let w := zC.w 3; let A := zC.A 3; let E := zC.qv 3; let s := zC.s 3; let z := zC.addr 3; let TI := zC.addr 4; let TO := zC.addr 5; let i1 := zC.addr 6; let i2 := zC.addr 7; let f1 := zC.al 3; let f2 := zC.al 4; let n1 := zC.nat 3; let n2 := zC.nat 4; let P1 := zC.nv 3; let P2 := zC.nv 4; let S1 := zC.nh 3; let S2 := zC.nh 4; let k := zC.nat 5; let Q := zC.qv 4;
 ∀ (Z : Zap z TI TO i1 i2 f1 f2) (D1 : Draws prog w A i1 f1 n1 P1 S1) (D2 : Draws prog w A i2 f2 n2 P2 S2) (hz : ZAt s.heap z TI TO i1 i2 .none) (h1 : S1 k s.heap) (h2 : S2 k s.heap) (l1 : k < n1) (l2 : k < n2) (q : ∀ h' tk x y, P1 k x → P2 k y → ZAt h' z TI TO i1 i2 (rawInt s.heap.objs.size) → S1 (k + 1) h' → S2 (k + 1) h' → IsPair h' s.heap.objs.size x y → (∀ c o, c ≠ z → c ≠ TO → c ≠ i1 → c ≠ i2 → s.heap.get? c = some o → h'.get? c = some o) → Q (.ref s.heap.objs.size) { s with heap := h', toks := tk }), wpAny (model prog w) A (Builtin.«zip.__next__» ⟨[.ref z], []⟩) (fun fin s' => ∃ v, fin = .done (.ret v) ∧ Q v s') E s
@[irreducible] def tB : Bag := bagOf theP
@[irreducible] def prog := tB.prog 3
@[irreducible] def w := tB.w 3
@[irreducible] def A := tB.A 3
@[irreducible] def E := tB.qv 3
@[irreducible] def s := tB.s 3
@[irreducible] def z := tB.addr 3
@[irreducible] def TI := tB.addr 4
@[irreducible] def TO := tB.addr 5
@[irreducible] def i1 := tB.addr 6
@[irreducible] def i2 := tB.addr 7
@[irreducible] def f1 := tB.al 3
@[irreducible] def f2 := tB.al 4
@[irreducible] def n1 := tB.nat 3
@[irreducible] def n2 := tB.nat 4
@[irreducible] def P1 := tB.nv 3
@[irreducible] def P2 := tB.nv 4
@[irreducible] def S1 := tB.nh 3
@[irreducible] def S2 := tB.nh 4
@[irreducible] def k := tB.nat 5
@[irreducible] def Q := tB.qv 4
theorem core (Z : Zap z TI TO i1 i2 f1 f2) (D1 : Draws prog w A i1 f1 n1 P1 S1) (D2 : Draws prog w A i2 f2 n2 P2 S2) (hz : ZAt s.heap z TI TO i1 i2 .none) (h1 : S1 k s.heap) (h2 : S2 k s.heap) (l1 : k < n1) (l2 : k < n2) (q : ∀ h' tk x y, P1 k x → P2 k y → ZAt h' z TI TO i1 i2 (rawInt s.heap.objs.size) → S1 (k + 1) h' → S2 (k + 1) h' → IsPair h' s.heap.objs.size x y → (∀ c o, c ≠ z → c ≠ TO → c ≠ i1 → c ≠ i2 → s.heap.get? c = some o → h'.get? c = some o) → Q (.ref s.heap.objs.size) { s with heap := h', toks := tk }) : wpAny (model prog w) A (Builtin.«zip.__next__» ⟨[.ref z], []⟩) (fun fin s' => ∃ v, fin = .done (.ret v) ∧ Q v s') E s := by
 refine hdG ?_; intro Xh hXh
 obtain ⟨hz, hi, a, b, ho⟩ := hz
 have nd := Z.d
 simp only [List.nodup_cons, List.mem_cons, List.not_mem_nil, or_false, not_or, List.nodup_nil, and_true] at nd
 refine an4 nd ?_
 try clear nd
 rintro ⟨dzI, dzO, dz1, dz2⟩ ⟨dIO, dI1, dI2⟩ ⟨dO1, dO2⟩ d12 _
 refine hXh ?_; clear hXh
 show wpAny _ _ (field (.ref z) 2 >>= _) _ _ _
 refine wpAny_bind (wpAny_field hz rfl (x := .bool false) rfl ?_)
 show wpAny _ _ (field (.ref z) 3 >>= _) _ _ _
 refine wpAny_bind (wpAny_field hz rfl (x := .ref TI) rfl (wpAny_bind (wpAny_seqItems hi rfl ?_)))
 show wpAny _ _ (Builtin.SmallTypes.ownedTupleIsFree (.ref z) >>= _) _ _ _
 refine wpAny_bind ?_
 unfold Builtin.SmallTypes.ownedTupleIsFree
 refine wpAny_bind (wpAny_field hz rfl (x := .none) rfl (wpAny_pure ?_))
 simp only [if_true]
 refine wpAny_bind (wpAny_rule (wpAny_bind (wpAny_field hz rfl (x := .ref TO) rfl (wpAny_bind (wpAny_setField_rec hz (by simp) fun ha za ba => ?_)))))
 replace za : IsZip ha z TI TO .ellipsis := za
 refine wpAny_bind ?_
 simp only [List.zipIdx_cons, List.zipIdx_nil, List.forIn_cons, List.forIn_nil]
 refine wpAny_bind (wpAny_bind (wpAny_onRaise ?_))
 show wpAny _ _ (Builtin.SmallTypes.nextOf (.ref i1) >>= _) _ _ _
 refine wpAny_bind (D1.item k _ _ _ l1 (D1.frame _ _ _ h1 fun c hc o e => ba.extBut c o (fun q => Z.o1.1 (q ▸ hc)) e) fun x hb tb px sb bb => wpAny_pure ?_)
 replace bb : Heap.SameBut i1 ha hb := bb
 have ob : IsPair hb TO a b := bb.extBut _ _ dO1 (ba.extBut _ _ (Ne.symm dzO) ho)
 refine wpAny_bind (wpAny_seqItems ob rfl (wpAny_bind (wpAny_updateSeq_pair ob fun hc oc bc => wpAny_bind (wpAny_letGo (wpAny_pure ?_)))))
 replace oc : IsPair hc TO x b := oc
 replace bc : Heap.SameBut TO hb hc := bc
 have old : ∀ c o, c ≠ z → c ≠ TO → c ≠ i1 → s.heap.get? c = some o → hc.get? c = some o := fun c o n1 n2 n3 e => bc.extBut _ _ n2 (bb.extBut _ _ n3 (ba.extBut _ _ n1 e))
 have sc : S1 (k + 1) hc := D1.frame _ _ _ sb fun c m o e => bc.extBut c o (fun q => Z.o1.2.1 (q ▸ m)) e
 have s2 : S2 k hc := D2.frame _ _ _ h2 fun c m o e => old c o (fun q => Z.o2.1 (q ▸ m)) (fun q => Z.o2.2.1 (q ▸ m)) (fun q => Z.o2.2.2 (q ▸ m)) e
 refine wpAny_bind (wpAny_bind (wpAny_onRaise ?_))
 show wpAny _ _ (Builtin.SmallTypes.nextOf (.ref i2) >>= _) _ _ _
 refine wpAny_bind (D2.item k _ _ _ l2 s2 fun y hd td py sd bd => wpAny_pure ?_)
 replace bd : Heap.SameBut i2 hc hd := bd
 have od : IsPair hd TO x b := bd.extBut _ _ dO2 oc
 refine wpAny_bind (wpAny_seqItems od rfl (wpAny_bind (wpAny_updateSeq_pair od fun he oe be => wpAny_bind (wpAny_letGo (wpAny_pure (wpAny_pure ?_))))))
 replace oe : IsPair he TO x y := oe
 replace be : Heap.SameBut TO hd he := be
 refine wpAny_bind (wpAny_seqItems oe rfl (wpAny_bind (wpAny_newTuple ?_)))
 have z0 : he.objs.size = s.heap.objs.size := by rw [be.1, bd.1, bc.1, bb.1, ba.1]
 have ze : IsZip he z TI TO .ellipsis := be.extBut _ _ dzO (bd.extBut _ _ dz2 (bc.extBut _ _ dzO (bb.extBut _ _ dz1 za)))
 have ke : ∀ c o, c ≠ z → c ≠ TO → c ≠ i1 → c ≠ i2 → s.heap.get? c = some o → he.get? c = some o := fun c o c1 c2 c3 c4 e => be.extBut _ _ c2 (bd.extBut _ _ c4 (old c o c1 c2 c3 e))
 have e1 : S1 (k + 1) he := D1.frame _ _ _ sc fun c m o e => be.extBut c o (fun q => Z.o1.2.1 (q ▸ m)) (bd.extBut c o (fun q => Z.o1.2.2 (q ▸ m)) e)
 have e2 : S2 (k + 1) he := D2.frame _ _ _ sd fun c m o e => be.extBut c o (fun q => Z.o2.2.1 (q ▸ m)) e
 have lz : z < he.objs.size := Heap.lt_size ze
 show wpAny _ _ (Builtin.SmallTypes.ownedTupleHandOut (.ref z) (.ref he.objs.size) >>= _) _ _ _
 refine wpAny_bind ?_
 unfold Builtin.SmallTypes.ownedTupleHandOut
 have zf : IsZip (he.push { cls := .type "tuple", data := .seq #[x, y] }) z TI TO .ellipsis := Heap.get?_push_of_some _ ze
 refine wpAny_bind (wpAny_setField_rec zf (by simp) fun hg zg bg => ?_)
 replace zg : IsZip hg z TI TO (rawInt he.objs.size) := zg
 refine wpAny_setField_rec zg (by simp) fun hk zk bk => ?_
 replace zk : IsZip hk z TI TO (rawInt he.objs.size) := zk
 have up : ∀ c o, c ≠ z → he.get? c = some o → hk.get? c = some o := fun c o c1 e => bk.extBut _ _ c1 (bg.extBut _ _ c1 (Heap.get?_push_of_some _ e))
 have new : IsPair hk he.objs.size x y := bk.extBut _ _ (Nat.ne_of_gt lz) (bg.extBut _ _ (Nat.ne_of_gt lz) (Heap.get?_push_size _ rfl))
 rw [z0] at zk new
 refine wpAny_pure ⟨_, rfl, ?_⟩
 show Q (.ref he.objs.size) _
 rw [z0]
 exact q hk td x y px py ⟨zk, up _ _ (Ne.symm dzI) (ke _ _ (Ne.symm dzI) dIO dI1 dI2 hi), _, _, up _ _ (Ne.symm dzO) oe⟩ (D1.frame _ _ _ e1 fun c m o e => up c o (fun q => Z.o1.1 (q ▸ m)) e) (D2.frame _ _ _ e2 fun c m o e => up c o (fun q => Z.o2.1 (q ▸ m)) e) new
  fun c o c1 c2 c3 c4 e => up c o c1 (ke c o c1 c2 c3 c4 e)
end E_zip_item
section
variable {prog : Program} {w : World} {A : Around} {E : Value → Shared → Prop} {s : Shared} {z TI TO i1 i2 : Addr} {f1 f2 : List Addr} {n1 n2 : Nat} {P1 P2 : Nat → Value → Prop} {S1 S2 : Nat → Heap → Prop}
theorem zip_item (Z : Zap z TI TO i1 i2 f1 f2) (D1 : Draws prog w A i1 f1 n1 P1 S1) (D2 : Draws prog w A i2 f2 n2 P2 S2) {k : Nat} {Q : Value → Shared → Prop} (hz : ZAt s.heap z TI TO i1 i2 .none) (h1 : S1 k s.heap) (h2 : S2 k s.heap) (l1 : k < n1) (l2 : k < n2) (q : ∀ h' tk x y, P1 k x → P2 k y → ZAt h' z TI TO i1 i2 (rawInt s.heap.objs.size) → S1 (k + 1) h' → S2 (k + 1) h' → IsPair h' s.heap.objs.size x y → (∀ c o, c ≠ z → c ≠ TO → c ≠ i1 → c ≠ i2 → s.heap.get? c = some o → h'.get? c = some o) → Q (.ref s.heap.objs.size) { s with heap := h', toks := tk }) : wpAny (model prog w) A (Builtin.«zip.__next__» ⟨[.ref z], []⟩) (fun fin s' => ∃ v, fin = .done (.ret v) ∧ Q v s') E s := bag_all (P := E_zip_item.theP) (by with_unfolding_all exact @E_zip_item.core) { bag0 with A := nth [A, A, A, A] bag0.A, addr := nth [z, z, z, z, TI, TO, i1, i2] bag0.addr, al := nth [f1, f1, f1, f1, f2] bag0.al, nat := nth [n1, n1, n1, n1, n2, k] bag0.nat, nh := nth [S1, S1, S1, S1, S2] bag0.nh, nv := nth [P1, P1, P1, P1, P2] bag0.nv, prog := nth [prog, prog, prog, prog] bag0.prog, qv := nth [E, E, E, E, Q] bag0.qv, s := nth [s, s, s, s] bag0.s, w := nth [w, w, w, w] bag0.w } Z D1 D2 hz h1 h2 l1 l2 q
end
namespace E_zip_stop
noncomputable def theP (zC : Bag) : Prop :=
 let prog := zC.prog 3; let w := zC.w 3; let A := zC.A 3; let E := zC.qv 3; let s := zC.s 3; let z := zC.addr 3; let TI := zC.addr 4; let TO := zC.addr 5; let i1 := zC.addr 6; let i2 := zC.addr 7; let f1 := zC.al 3; let f2 := zC.al 4; let n1 := zC.nat 3; let n2 := zC.nat 4; let P1 := zC.nv 3; let P2 := zC.nv 4; let S1 := zC.nh 3; let S2 := zC.nh 4;
 ∀ {Q : Fin → Shared → Prop} (Z : Zap z TI TO i1 i2 f1 f2) (D1 : Draws prog w A i1 f1 n1 P1 S1) (D2 : Draws prog w A i2 f2 n2 P2 S2) (hz : ZAt s.heap z TI TO i1 i2 .none) (h1 : S1 (min n1 n2) s.heap) (h2 : S2 (min n1 n2) s.heap) (k : ∀ h' tk e, (∀ c o, c ≠ z → c ≠ TO → c ≠ i1 → c ≠ i2 → s.heap.get? c = some o → h'.get? c = some o) → (∃ o, h'.get? e = some o ∧ o.cls = .type "StopIteration") → E (.ref e) { s with heap := h', toks := tk }), wpAny (model prog w) A (Builtin.«zip.__next__» ⟨[.ref z], []⟩) Q E s
@[irreducible] def tB : Bag := bagOf theP
@[irreducible] def prog := tB.prog 3
@[irreducible] def w := tB.w 3
@[irreducible] def A := tB.A 3
@[irreducible] def E := tB.qv 3
@[irreducible] def s := tB.s 3
@[irreducible] def z := tB.addr 3
@[irreducible] def TI := tB.addr 4
@[irreducible] def TO := tB.addr 5
@[irreducible] def i1 := tB.addr 6
@[irreducible] def i2 := tB.addr 7
@[irreducible] def f1 := tB.al 3
@[irreducible] def f2 := tB.al 4
@[irreducible] def n1 := tB.nat 3
@[irreducible] def n2 := tB.nat 4
@[irreducible] def P1 := tB.nv 3
@[irreducible] def P2 := tB.nv 4
@[irreducible] def S1 := tB.nh 3
@[irreducible] def S2 := tB.nh 4
theorem core {Q : Fin → Shared → Prop} (Z : Zap z TI TO i1 i2 f1 f2) (D1 : Draws prog w A i1 f1 n1 P1 S1) (D2 : Draws prog w A i2 f2 n2 P2 S2) (hz : ZAt s.heap z TI TO i1 i2 .none) (h1 : S1 (min n1 n2) s.heap) (h2 : S2 (min n1 n2) s.heap) (k : ∀ h' tk e, (∀ c o, c ≠ z → c ≠ TO → c ≠ i1 → c ≠ i2 → s.heap.get? c = some o → h'.get? c = some o) → (∃ o, h'.get? e = some o ∧ o.cls = .type "StopIteration") → E (.ref e) { s with heap := h', toks := tk }) : wpAny (model prog w) A (Builtin.«zip.__next__» ⟨[.ref z], []⟩) Q E s := by
 refine hdG ?_; intro Xh hXh
 obtain ⟨hz, hi, a, b, ho⟩ := hz
 have nd := Z.d
 simp only [List.nodup_cons, List.mem_cons, List.not_mem_nil, or_false, not_or, List.nodup_nil, and_true] at nd
 refine an4 nd ?_
 try clear nd
 rintro ⟨dzI, dzO, dz1, dz2⟩ ⟨dIO, dI1, dI2⟩ ⟨dO1, dO2⟩ d12 _
 refine hXh ?_; clear hXh
 show wpAny _ _ (field (.ref z) 2 >>= _) _ _ _
 refine wpAny_bind (wpAny_field hz rfl (x := .bool false) rfl ?_)
 show wpAny _ _ (field (.ref z) 3 >>= _) _ _ _
 refine wpAny_bind (wpAny_field hz rfl (x := .ref TI) rfl (wpAny_bind (wpAny_seqItems hi rfl ?_)))
 show wpAny _ _ (Builtin.SmallTypes.ownedTupleIsFree (.ref z) >>= _) _ _ _
 refine wpAny_bind ?_
 unfold Builtin.SmallTypes.ownedTupleIsFree
 refine wpAny_bind (wpAny_field hz rfl (x := .none) rfl (wpAny_pure ?_))
 simp only [if_true]
 refine wpAny_bind (wpAny_rule (wpAny_bind (wpAny_field hz rfl (x := .ref TO) rfl (wpAny_bind (wpAny_setField_rec hz (by simp) fun ha za ba => ?_)))))
 replace za : IsZip ha z TI TO .ellipsis := za
 have sa : S1 (min n1 n2) ha := D1.frame _ _ _ h1 fun c hc o e => ba.extBut c o (fun q => Z.o1.1 (q ▸ hc)) e
 refine wpAny_bind ?_
 simp only [List.zipIdx_cons, List.zipIdx_nil, List.forIn_cons, List.forIn_nil]
 refine wpAny_bind (wpAny_bind (wpAny_onRaise ?_))
 show wpAny _ _ (Builtin.SmallTypes.nextOf (.ref i1) >>= _) _ _ _
 rcases Nat.lt_or_ge (min n1 n2) n1 with lt | ge
 ·have e2 : min n1 n2 = n2 := by grind
  refine wpAny_bind (D1.item _ _ _ _ lt sa fun x hb tb px sb bb => wpAny_pure ?_)
  replace bb : Heap.SameBut i1 ha hb := bb
  have ob : IsPair hb TO a b := bb.extBut _ _ dO1 (ba.extBut _ _ (Ne.symm dzO) ho)
  refine wpAny_bind (wpAny_seqItems ob rfl (wpAny_bind (wpAny_updateSeq_pair ob fun hc oc bc => wpAny_bind (wpAny_letGo (wpAny_pure ?_)))))
  replace bc : Heap.SameBut TO hb hc := bc
  have old : ∀ c o, c ≠ z → c ≠ TO → c ≠ i1 → s.heap.get? c = some o → hc.get? c = some o := fun c o n1 n2 n3 e => bc.extBut _ _ n2 (bb.extBut _ _ n3 (ba.extBut _ _ n1 e))
  have s2 : S2 (min n1 n2) hc := D2.frame _ _ _ h2 fun c m o e => old c o (fun q => Z.o2.1 (q ▸ m)) (fun q => Z.o2.2.1 (q ▸ m)) (fun q => Z.o2.2.2 (q ▸ m)) e
  refine wpAny_bind (wpAny_bind (wpAny_onRaise ?_))
  show wpAny _ _ (Builtin.SmallTypes.nextOf (.ref i2) >>= _) _ _ _
  refine wpAny_bind (D2.done _ _ _ (by rw [e2] at s2; exact s2) fun hd e bd he => ?_)
  replace bd : Heap.ExtBut i2 hc hd := bd
  refine hdG ?_; intro Xh hXh
  obtain ⟨oe, hoe, hce⟩ := he
  refine hXh ?_; clear hXh
  have zd : IsZip hd z TI TO .ellipsis := bd _ _ dz2 (bc.extBut _ _ dzO (bb.extBut _ _ dz1 za))
  have hez : e ≠ z := fun q => by subst q; rw [zd] at hoe; cases hoe; simp at hce
  exact wpAny_setField_rec zd (by simp) fun hf _ bf => k hf _ e (fun c o c1 c2 c3 c4 x => bf.extBut _ _ c1 (bd _ _ c4 (old c o c1 c2 c3 x))) ⟨oe, bf.extBut _ _ hez hoe, hce⟩
 ·have e1 : min n1 n2 = n1 := by grind
  refine wpAny_bind (D1.done _ _ _ (by rw [e1] at sa; exact sa) fun hb e bb he => ?_)
  replace bb : Heap.ExtBut i1 ha hb := bb
  refine hdG ?_; intro Xh hXh
  obtain ⟨oe, hoe, hce⟩ := he
  refine hXh ?_; clear hXh
  have zb : IsZip hb z TI TO .ellipsis := bb _ _ dz1 za
  have hez : e ≠ z := fun q => by subst q; rw [zb] at hoe; cases hoe; simp at hce
  exact wpAny_setField_rec zb (by simp) fun hf _ bf => k hf _ e (fun c o c1 c2 c3 c4 x => bf.extBut _ _ c1 (bb _ _ c3 (ba.extBut _ _ c1 x))) ⟨oe, bf.extBut _ _ hez hoe, hce⟩
end E_zip_stop
section
variable {prog : Program} {w : World} {A : Around} {E : Value → Shared → Prop} {s : Shared} {z TI TO i1 i2 : Addr} {f1 f2 : List Addr} {n1 n2 : Nat} {P1 P2 : Nat → Value → Prop} {S1 S2 : Nat → Heap → Prop}
theorem zip_stop (Z : Zap z TI TO i1 i2 f1 f2) (D1 : Draws prog w A i1 f1 n1 P1 S1) (D2 : Draws prog w A i2 f2 n2 P2 S2) {Q : Fin → Shared → Prop} (hz : ZAt s.heap z TI TO i1 i2 .none) (h1 : S1 (min n1 n2) s.heap) (h2 : S2 (min n1 n2) s.heap) (k : ∀ h' tk e, (∀ c o, c ≠ z → c ≠ TO → c ≠ i1 → c ≠ i2 → s.heap.get? c = some o → h'.get? c = some o) → (∃ o, h'.get? e = some o ∧ o.cls = .type "StopIteration") → E (.ref e) { s with heap := h', toks := tk }) : wpAny (model prog w) A (Builtin.«zip.__next__» ⟨[.ref z], []⟩) Q E s := bag_all (P := E_zip_stop.theP) (by with_unfolding_all exact @E_zip_stop.core) { bag0 with A := nth [A, A, A, A] bag0.A, addr := nth [z, z, z, z, TI, TO, i1, i2] bag0.addr, al := nth [f1, f1, f1, f1, f2] bag0.al, nat := nth [n1, n1, n1, n1, n2] bag0.nat, nh := nth [S1, S1, S1, S1, S2] bag0.nh, nv := nth [P1, P1, P1, P1, P2] bag0.nv, prog := nth [prog, prog, prog, prog] bag0.prog, qv := nth [E, E, E, E] bag0.qv, s := nth [s, s, s, s] bag0.s, w := nth [w, w, w, w] bag0.w } Z D1 D2 hz h1 h2 k
theorem zipWalks (Z : Zap z TI TO i1 i2 f1 f2) (D1 : Draws prog w A.in1 i1 f1 n1 P1 S1) (D2 : Draws prog w A.in1 i2 f2 n2 P2 S2) :
  WalksT prog w A z (z :: TI :: TO :: (f1 ++ f2)) [z, TO, i1, i2] (min n1 n2) (fun i vals => ∃ x y, P1 i x ∧ P2 i y ∧ vals = #[x, y])
   (fun i h => ZAt h z TI TO i1 i2 .none ∧ S1 i h ∧ S2 i h)
   (fun i T h => ZAt h z TI TO i1 i2 (rawInt T) ∧ S1 (i + 1) h ∧ S2 (i + 1) h ∧ T ∉ [z, TO, i1, i2]) where
 sub := fun c hc => by
  simp only [List.mem_cons, List.not_mem_nil, or_false, List.mem_append] at hc ⊢
  rcases hc with rfl | rfl | rfl | rfl
  ·exact .inl rfl
  ·exact .inr (.inr (.inl rfl))
  ·exact .inr (.inr (.inr (.inl Z.m1)))
  ·exact .inr (.inr (.inr (.inr Z.m2)))
 frame := fun i h h' st k => by
  refine hdG ?_; intro Xh hXh
  refine an2 st ?_
  try clear st
  rintro ⟨a, b, x, y, c⟩ s1 s2
  refine hXh ?_; clear hXh
  exact (ia2 ⟨k _ (by simp) _ a, k _ (by simp) _ b, x, y, k _ (by simp) _ c⟩ (D1.frame _ _ _ s1 fun b m => k b (by simp [m])) (D2.frame _ _ _ s2 fun b m => k b (by simp [m])))
 item := fun i s Q E hi st k => by
  refine hdG ?_; intro Xh hXh
  refine an2 st ?_
  try clear st
  rintro hz s1 s2
  have hT : s.TypeIs (.ref z) "zip" := ⟨_, hz.z, rfl⟩
  refine ex2 hz.o ?_
  rintro a b ho
  refine hXh ?_; clear hXh
  have lt : ∀ {c o}, s.heap.get? c = some o → s.heap.objs.size ≠ c := fun e => Nat.ne_of_gt (Heap.lt_size e)
  unfold pyNext
  refine wpAny_bind (wpAny_attempt (wpAny_callSpecial?_slot (name := Str.ofString "__next__") hT F.slot_zip_next
   (wpAny_call_entry F.slot_zip_next hT F.entry_zip_next (zip_item Z D1 D2 hz s1 s2 (by grind) (by grind) fun h' tk x y px py zz a1 a2 np kk => wpAny_pure ?_) (F.args_zip_next_1 _))))
  refine k s.heap.objs.size #[x, y] h' tk (ix2 x y (ia2 px py rfl)) (Nat.le_refl _) (⟨_, ia2 np rfl ⟨_, rfl⟩⟩) (ia3 zz a1 a2 ?_) fun c o hc e => kk c o (fun q => hc (by simp [q])) (fun q => hc (by simp [q])) (fun q => hc (by simp [q])) (fun q => hc (by simp [q])) e
  intro hm
  simp only [List.mem_cons, List.not_mem_nil, or_false] at hm
  rcases hm with q | q | q | q
  ·exact lt hz.z q
  ·exact lt ho q
  ·obtain ⟨_, e⟩ := D1.live _ _ s1; exact lt e q
  ·obtain ⟨_, e⟩ := D2.live _ _ s2; exact lt e q
 go := fun elts k pos i T s Q E hm q => by
  refine hdG ?_; intro Xh hXh
  refine an3 hm ?_
  try clear hm
  rintro ⟨a, b, x, y, c⟩ s1 s2 _
  refine hXh ?_; clear hXh
  have nd := Z.d
  simp only [List.nodup_cons, List.mem_cons, List.not_mem_nil, or_false, not_or, List.nodup_nil, and_true] at nd
  exact wpAny_letOwnedTupleGo_zip a fun h' z' B => q h' (ia2 ⟨z', B.extBut _ _ (Ne.symm nd.1.1) b, x, y, B.extBut _ _ (Ne.symm nd.1.2.1) c⟩ (D1.frame _ _ _ s1 fun b m o e => B.extBut b o (fun q => Z.o1.1 (q ▸ m)) e) (D2.frame _ _ _ s2 fun b m o e => B.extBut b o (fun q => Z.o2.1 (q ▸ m)) e))
   fun c o hc e => B.extBut _ _ (fun x => hc (by simp [x])) e
 apart := fun i T h hm => hm.2.2.2
 done := fun s Q E st k => by
  refine hdG ?_; intro Xh hXh
  refine an2 st ?_
  try clear st
  rintro hz s1 s2
  refine hXh ?_; clear hXh
  have hT : s.TypeIs (.ref z) "zip" := ⟨_, hz.z, rfl⟩
  unfold pyNext
  refine wpAny_bind (wpAny_attempt (wpAny_callSpecial?_slot (name := Str.ofString "__next__") hT F.slot_zip_next
   (wpAny_call_entry F.slot_zip_next hT F.entry_zip_next (zip_stop Z D1 D2 hz s1 s2 fun h' tk e kk he => ?_) (F.args_zip_next_1 _))))
  refine hdG ?_; intro Xh hXh
  obtain ⟨o, ho, hc⟩ := he
  refine hXh ?_; clear hXh
  refine wpAny_bind (wpAny_isInstance (T := "StopIteration") (b := true) ⟨o, ho, hc⟩ isSubtype_stop ?_)
  exact wpAny_pure (k _ _ fun c o hc e => kk c o (fun q => hc (by simp [q])) (fun q => hc (by simp [q])) (fun q => hc (by simp [q])) (fun q => hc (by simp [q])) e)
 self := fun i s Q E st q => wpAny_pyIter_zip st.1.z q
end
end Mine
end
section
open PySem PySem.W PyProof.Rows PySem.Calls PySem.Spec
set_option Elab.async false
set_option maxRecDepth 100000
namespace Mine
noncomputable abbrev itO (b : Bool) (l : Addr) : Obj := { cls := .type (sqIter b), data := .fields #[.ref l, .int 0 0] }
noncomputable abbrev zG1 (b1 : Bool) (h : Heap) (l1 : Addr) : Heap := h.push (itO b1 l1)
noncomputable abbrev zG2 (b1 b2 : Bool) (h : Heap) (l1 l2 : Addr) : Heap := (zG1 b1 h l1).push (itO b2 l2)
noncomputable abbrev zG3 (b1 b2 : Bool) (h : Heap) (l1 l2 : Addr) : Heap := (zG2 b1 b2 h l1 l2).push { cls := .type "tuple", data := .seq #[.ref h.objs.size, .ref (zG1 b1 h l1).objs.size] }
noncomputable abbrev zG4 (b1 b2 : Bool) (h : Heap) (l1 l2 : Addr) : Heap := (zG3 b1 b2 h l1 l2).push { cls := .type "tuple", data := .seq #[.none, .none] }
noncomputable abbrev zG5 (b1 b2 : Bool) (h : Heap) (l1 l2 : Addr) : Heap := (zG4 b1 b2 h l1 l2).push { cls := .type "zip", data := .fields #[.none, .bool false, .bool false, .ref (zG2 b1 b2 h l1 l2).objs.size, .ref (zG3 b1 b2 h l1 l2).objs.size] }
namespace E_meets_zip
noncomputable def theP (zC : Bag) : Prop :=
 let b1 := zC.bool 3; let b2 := zC.bool 4; let l1 := zC.addr 3; let l2 := zC.addr 4; let xs := zC.arr 3; let ys := zC.arr 4;
 Meets (Builtin.«zip.__new__» ⟨[.type "zip", .ref l1, .ref l2], []⟩) (fun _ R s => Sq b1 s.heap l1 xs ∧ Sq b2 s.heap l2 ys ∧
   R (.ok (.ret (.ref (zG4 b1 b2 s.heap l1 l2).objs.size))) { s with heap := zG5 b1 b2 s.heap l1 l2 })
@[irreducible] def tB : Bag := bagOf theP
@[irreducible] def b1 := tB.bool 3
@[irreducible] def b2 := tB.bool 4
@[irreducible] def l1 := tB.addr 3
@[irreducible] def l2 := tB.addr 4
@[irreducible] def xs := tB.arr 3
@[irreducible] def ys := tB.arr 4
theorem core  : Meets (Builtin.«zip.__new__» ⟨[.type "zip", .ref l1, .ref l2], []⟩) (fun _ R s => Sq b1 s.heap l1 xs ∧ Sq b2 s.heap l2 ys ∧
   R (.ok (.ret (.ref (zG4 b1 b2 s.heap l1 l2).objs.size))) { s with heap := zG5 b1 b2 s.heap l1 l2 }) :=
 .of_wp fun prog w A R s h => by
  refine hdG ?_; intro Xh hXh
  obtain ⟨hp, g, d, tk, os⟩ := s; (refine an2 h ?_; try clear h; rintro x1 x2 h)
  refine hXh ?_; clear hXh
  have hsub := sub_zip
  have y1 : Sq b1 (Shared.heap ⟨hp, g, d, tk, os⟩) l1 xs := x1
  have y2 : Sq b2 (Shared.heap ⟨hp.push (itO b1 l1), g, d, tk, os⟩) l2 ys := Sq.at x2 fun o e => Heap.get?_push_of_some _ e
  wp_walk using sq_iter y1, sq_iter y2
  exact ⟨_, rfl, h⟩
end E_meets_zip
theorem meets_zip (b1 b2 : Bool) (l1 l2 : Addr) (xs ys : Array Value) : Meets (Builtin.«zip.__new__» ⟨[.type "zip", .ref l1, .ref l2], []⟩) (fun _ R s => Sq b1 s.heap l1 xs ∧ Sq b2 s.heap l2 ys ∧
   R (.ok (.ret (.ref (zG4 b1 b2 s.heap l1 l2).objs.size))) { s with heap := zG5 b1 b2 s.heap l1 l2 }) := bag_all (P := E_meets_zip.theP) (by with_unfolding_all exact @E_meets_zip.core) { bag0 with addr := nth [l1, l1, l1, l1, l2] bag0.addr, arr := nth [xs, xs, xs, xs, ys] bag0.arr, bool := nth [b1, b1, b1, b1, b2] bag0.bool } 
section
variable {prog : Program} {w : World} {A : Around} {E : Value → Shared → Prop} {s : Shared}
end
namespace E_call_zip
noncomputable def theP (zC : Bag) : Prop :=
 let prog := zC.prog 3; let w := zC.w 3; let A := zC.A 3; let E := zC.qv 3; let s := zC.s 3; let b1 := zC.bool 3; let b2 := zC.bool 4; let l1 := zC.addr 3; let l2 := zC.addr 4; let xs := zC.arr 3; let ys := zC.arr 4; let Q := zC.qv 4;
 ∀ (x1 : Sq b1 s.heap l1 xs) (x2 : Sq b2 s.heap l2 ys) (k : ∀ h' z TI TO i1 i2, Zap z TI TO i1 i2 [i1, l1] [i2, l2] → l1 ≠ i1 → l2 ≠ i2 → ZAt h' z TI TO i1 i2 .none → SqIt b1 h' i1 l1 0 → SqIt b2 h' i2 l2 0 → Sq b1 h' l1 xs → Sq b2 h' l2 ys →
   (∀ c ∈ [z, TI, TO, i1, i2], s.heap.objs.size ≤ c) → (∀ c o, s.heap.get? c = some o → h'.get? c = some o) → Q (.ref z) { s with heap := h' }), wpAny (model prog w) A (call (.type "zip") [.ref l1, .ref l2]) Q E s
@[irreducible] def tB : Bag := bagOf theP
@[irreducible] def prog := tB.prog 3
@[irreducible] def w := tB.w 3
@[irreducible] def A := tB.A 3
@[irreducible] def E := tB.qv 3
@[irreducible] def s := tB.s 3
@[irreducible] def b1 := tB.bool 3
@[irreducible] def b2 := tB.bool 4
@[irreducible] def l1 := tB.addr 3
@[irreducible] def l2 := tB.addr 4
@[irreducible] def xs := tB.arr 3
@[irreducible] def ys := tB.arr 4
@[irreducible] def Q := tB.qv 4
theorem core (x1 : Sq b1 s.heap l1 xs) (x2 : Sq b2 s.heap l2 ys) (k : ∀ h' z TI TO i1 i2, Zap z TI TO i1 i2 [i1, l1] [i2, l2] → l1 ≠ i1 → l2 ≠ i2 → ZAt h' z TI TO i1 i2 .none → SqIt b1 h' i1 l1 0 → SqIt b2 h' i2 l2 0 → Sq b1 h' l1 xs → Sq b2 h' l2 ys →
   (∀ c ∈ [z, TI, TO, i1, i2], s.heap.objs.size ≤ c) → (∀ c o, s.heap.get? c = some o → h'.get? c = some o) → Q (.ref z) { s with heap := h' }) : wpAny (model prog w) A (call (.type "zip") [.ref l1, .ref l2]) Q E s := by
 refine callType_new F.called_zip (by decide) (F.typeCall_zip_2 _ _) (F.newCall_zip_2 _ _) (fun obj => F.args_object_init_3 obj _ _) F.entry_zip_new (meets_zip b1 b2 l1 l2 xs ys) (ia2 x1 x2 ?_)
 have z1 : (zG1 b1 s.heap l1).objs.size = s.heap.objs.size + 1 := Heap.size_push ..
 have z2 : (zG2 b1 b2 s.heap l1 l2).objs.size = s.heap.objs.size + 2 := by rw [Heap.size_push, z1]
 have z3 : (zG3 b1 b2 s.heap l1 l2).objs.size = s.heap.objs.size + 3 := by rw [Heap.size_push, z2]
 have z4 : (zG4 b1 b2 s.heap l1 l2).objs.size = s.heap.objs.size + 4 := by rw [Heap.size_push, z3]
 have a1 : l1 < s.heap.objs.size := x1.lt
 have a2 : l2 < s.heap.objs.size := x2.lt
 have up : ∀ c o, s.heap.get? c = some o → (zG5 b1 b2 s.heap l1 l2).get? c = some o := fun c o x => Heap.get?_push_of_some _ (Heap.get?_push_of_some _ (Heap.get?_push_of_some _ (Heap.get?_push_of_some _ (Heap.get?_push_of_some _ x))))
 refine ⟨⟨_, Heap.get?_push_size _ rfl, rfl⟩, k _ (zG4 b1 b2 s.heap l1 l2).objs.size (zG2 b1 b2 s.heap l1 l2).objs.size (zG3 b1 b2 s.heap l1 l2).objs.size s.heap.objs.size (zG1 b1 s.heap l1).objs.size ?_ (Nat.ne_of_lt a1) ?_
  ⟨Heap.get?_push_size _ rfl, Heap.get?_push_of_some _ (Heap.get?_push_of_some _ (Heap.get?_push_size _ rfl)), _, _, Heap.get?_push_of_some _ (Heap.get?_push_size _ rfl)⟩ ?_ ?_ (x1.at fun o e => up _ o e) (x2.at fun o e => up _ o e) ?_ up⟩
 ·rw [z1, z2, z3, z4]
  generalize s.heap.objs.size = n at a1 a2
  have b1 : @LT.lt Nat _ l1 n := a1
  have b2 : @LT.lt Nat _ l2 n := a2
  refine ⟨?_, by simp, by simp, ?_, ?_⟩
  ·simp only [List.nodup_cons, List.mem_cons, List.not_mem_nil, or_false, not_or, List.nodup_nil, and_true]
   refine (ia4 (ia3 ?_ ?_ ?_ ?_) (ia2 ?_ ?_ ?_) ⟨?_, ?_⟩ ?_ id) <;> exact neN (by grind)
  ·simp only [List.mem_cons, List.not_mem_nil, or_false, not_or]
   refine (ia3 ⟨?_, ?_⟩ ⟨?_, ?_⟩ ?_ ?_) <;> exact neN (by grind)
  ·simp only [List.mem_cons, List.not_mem_nil, or_false, not_or]
   refine (ia3 ⟨?_, ?_⟩ ⟨?_, ?_⟩ ?_ ?_) <;> exact neN (by grind)
 ·rw [z1]; exact neN (by have : @LT.lt Nat _ l2 s.heap.objs.size := a2; grind)
 ·exact (SqIt.new b1 s.heap l1).at fun o e => Heap.get?_push_of_some _ (Heap.get?_push_of_some _ (Heap.get?_push_of_some _ (Heap.get?_push_of_some _ e)))
 ·exact (SqIt.new b2 (zG1 b1 s.heap l1) l2).at fun o e => Heap.get?_push_of_some _ (Heap.get?_push_of_some _ (Heap.get?_push_of_some _ e))
 ·intro c hc
  simp only [List.mem_cons, List.not_mem_nil, or_false] at hc
  rw [z1, z2, z3, z4] at hc
  rcases hc with rfl | rfl | rfl | rfl | rfl
  ·exact Nat.le_add_right _ 4
  ·exact Nat.le_add_right _ 2
  ·exact Nat.le_add_right _ 3
  ·exact Nat.le_refl _
  ·exact Nat.le_add_right _ 1
end E_call_zip
section
variable {prog : Program} {w : World} {A : Around} {E : Value → Shared → Prop} {s : Shared}
theorem call_zip {b1 b2 : Bool} {l1 l2 : Addr} {xs ys : Array Value} {Q : Value → Shared → Prop} (x1 : Sq b1 s.heap l1 xs) (x2 : Sq b2 s.heap l2 ys) (k : ∀ h' z TI TO i1 i2, Zap z TI TO i1 i2 [i1, l1] [i2, l2] → l1 ≠ i1 → l2 ≠ i2 → ZAt h' z TI TO i1 i2 .none → SqIt b1 h' i1 l1 0 → SqIt b2 h' i2 l2 0 → Sq b1 h' l1 xs → Sq b2 h' l2 ys →
   (∀ c ∈ [z, TI, TO, i1, i2], s.heap.objs.size ≤ c) → (∀ c o, s.heap.get? c = some o → h'.get? c = some o) → Q (.ref z) { s with heap := h' }) : wpAny (model prog w) A (call (.type "zip") [.ref l1, .ref l2]) Q E s := bag_all (P := E_call_zip.theP) (by with_unfolding_all exact @E_call_zip.core) { bag0 with A := nth [A, A, A, A] bag0.A, addr := nth [l1, l1, l1, l1, l2] bag0.addr, arr := nth [xs, xs, xs, xs, ys] bag0.arr, bool := nth [b1, b1, b1, b1, b2] bag0.bool, prog := nth [prog, prog, prog, prog] bag0.prog, qv := nth [E, E, E, E, Q] bag0.qv, s := nth [s, s, s, s] bag0.s, w := nth [w, w, w, w] bag0.w } x1 x2 k
end
section
variable {prog : Program} {w : World} {A : Around} {E : Value → Shared → Prop} {s : Shared}
end
end Mine
end
section
open PySem PySem.W PyProof.Rows PySem.Calls PySem.Spec
set_option Elab.async false
set_option maxRecDepth 100000
namespace Mine
noncomputable abbrev parts (ps : Array Value) : Obj := { cls := .none, data := .fields ps }
noncomputable def Bm (h : Heap) : Prop := ∃ mg bm ob, BMod h mainGlobals mg bm ob
theorem Bm.keeps {h h' : Heap} (x : Bm h) (k : ∀ b o, h.get? b = some o → h'.get? b = some o) : Bm h' := let ⟨_, _, _, x⟩ := x; (ix3 _ _ _ (x.keeps k))
noncomputable def CodeAt (h : Heap) (c P : Addr) : Prop := ∃ o vs file tf flags tg inF text tt, h.get? c = some o ∧ o.cls = .type "code" ∧ o.data = .fields vs ∧ vs[11]? = some (.ref P) ∧ vs.getD 11 .none = .ref P ∧ vs.getD 18 .none = .str file tf ∧
  vs.getD 7 .none = .int flags tg ∧ vs.getD 9 .none = .bool inF ∧ vs.getD 10 .none = .int text tt
theorem CodeAt.keeps {h h' : Heap} {c P : Addr} (x : CodeAt h c P) (k : ∀ b o, h.get? b = some o → h'.get? b = some o) : CodeAt h' c P := let ⟨o, vs, a, b, d, e, f, g, i, r, y⟩ := x; (ix6 o vs a b d e (ix3 f g i ⟨k _ _ r, y⟩))
theorem CodeAt.both {h : Heap} {c P : Addr} {ps : Array Value} (x : CodeAt h c P) (hp : h.get? P = some (parts ps)) (t : TriplesOk ps.toList) : h.IsCode c P ps ∧ h.TableAt c P ps := by
 refine hdG ?_; intro Xh hXh
 refine ex6 x ?_
 try clear x
 rintro o vs a b d e hZ
 refine ex3 hZ ?_
 clear hZ
 rintro f g i hZ
 refine an8 hZ ?_
 clear hZ
 rintro r1 r2 r3 r4 r5 r6 r7 r8 r9
 refine hXh ?_; clear hXh
 have ne : c ≠ P := fun q => by subst q; rw [r1] at hp; cases hp; cases r2
 exact (ia2 (ix6 o vs a b d e (ix4 f g i _ (ia8 r1 r3 r5 r6 r7 r8 r9 hp (ia2 rfl t ne)))) (ix2 o vs (ia3 r1 r2 r3 r4)) hp)
noncomputable def GnAt (prog : Program) (w : World) (A : Around) (h₀ : Heap) (L : Addr) (news : List (Addr × Obj)) (a : Addr) (n : Nat) (R : Nat → Value → Prop) (s : Shared) : Prop :=
 ∃ fp wr g St, WalksS prog w A.in4 a fp wr (GenOnlyQ g) n R St ∧ St 0 s ∧ (∀ i s', St i s' → s'.TypeIs (.ref a) "generator") ∧ a ∈ fp ∧ (∀ b ∈ fp, b < s.heap.objs.size) ∧ L ∉ wr ∧ (∀ b ∈ wr, h₀.get? b = none) ∧ ∀ p ∈ news, p.1 ∉ wr
theorem passing_all (n : Nat) : passing (fun _ => true) n 0 = List.range n := by unfold passing; simp
section
variable {prog : Program} {w : World} {A : Around} {E : Value → Shared → Prop} {s : Shared} {h₀ : Heap} {L : Addr} {m : Str → Option Value}
noncomputable def GenT (prog : Program) (w : World) (A : Around) (h₀ : Heap) (L : Addr) (m : Str → Option Value) (elt : Expr) (xa xb : Str) (scope : Scope) (cl : List (Str × Addr)) (env : Env) (pos : Pos) (c P : Addr) (Q : Value → Shared → Prop) (xv : Value) (s₁ : Shared) : Prop :=
 ∃ (I : Addr) (fp wr : List Addr) (n : Nat) (Pt : Nat → Array Value → Prop) (St : Nat → Heap → Prop) (Mid : Nat → Addr → Heap → Prop) (R : Nat → Value → Prop) (ps : Array Value) (news : List (Addr × Obj)) (g : Obj → List (Addr × Obj)),
  xv = .ref I ∧ (∀ A' : Around, A'.handled = none → WalksT prog w A' I fp wr n Pt St Mid) ∧ (∀ i vals, Pt i vals → ∃ va vb, vals = #[va, vb]) ∧ St 0 s₁.heap ∧ (∀ b ∈ fp, b < s₁.heap.objs.size) ∧ P ∉ fp ∧ Fr h₀ L s₁.heap m ∧ News h₀ L s₁.heap news ∧
  (∀ b ∈ wr, b ≠ L ∧ h₀.get? b = none ∧ ∀ p ∈ news, p.1 ≠ b) ∧ h₀.NoLimit ∧ Bm h₀ ∧ CodeAt h₀ c P ∧ UpdF P (parts ps) news g ∧ TriplesOk ps.toList ∧ AllBare s₁.gens ∧
  (∀ (A' : Around) (E' : Value → Shared → Prop) (C : Addr) (code : Value) i va vb (t : Shared) m₂, A'.handled = none → Pt i #[va, vb] → t.heap.Ns C m₂ → m₂ xa = some va → m₂ xb = some vb → wpAny (model prog w) A' (eval elt (genEnv scope cl C code builtinsNs env)) (fun y s₃ => R i y ∧ Keeps t s₃) E' t) ∧
  (∀ a h₅ tk gs ps', Fr h₀ L h₅ m → News h₀ L h₅ (g (parts ps')) → TriplesOk ps'.toList → (∃ more, ps' = ps ++ more) → AllBare gs → GnAt prog w A h₀ L (g (parts ps')) a n R { s₁ with heap := h₅, toks := tk, gens := gs } → (∀ b o, b ≠ P → s₁.heap.get? b = some o → h₅.get? b = some o) →
   Q (.ref a) { s₁ with heap := h₅, toks := tk, gens := gs })
end
namespace E_gen_pairs
noncomputable def theP (zC : Bag) : Prop :=
 let prog := zC.prog 3; let w := zC.w 3; let A := zC.A 3; let E := zC.qv 3; let s := zC.s 3; let h₀ := zC.heap 3; let L := zC.addr 3; let m := zC.fr 3; let env := zC.env 3; let elt := zC.expr 3; let iter := zC.expr 4; let xa := zC.str 3; let xb := zC.str 4; let pa := zC.pos 3; let pb := zC.pos 4; let pt := zC.pos 5; let kt := zC.nat 3; let scope := zC.scope 3; let cl := zC.cl 3; let pos := zC.pos 6; let c := zC.addr 4; let P := zC.addr 5; let Q := zC.qv 4;
 ∀ (_F : Fr h₀ L s.heap m) (hcode : env.code = .ref c) (hgl : env.globals = mainGlobals) (hh : A.handled = none) (hco : scope.isCoroutine = false) (hclos : closureFor scope env = pure cl) (hcell : ∀ y ∈ scope.names, y.2 ≠ .cell) (h0 : scope.names.lookup (".0" : Str) = some NameKind.local) (hxa : scope.names.lookup xa = some .local) (hxb : scope.names.lookup xb = some .local) (hab : xa ≠ xb) (hkind : scope.kind = .function) (hroom : A.depth < recursionLimit) (h : wpAny (model prog w) A (eval iter env) (GenT prog w A h₀ L m elt xa xb scope cl env pos c P Q) E s) (hs : ∀ x, genFold iter env x = pure x), wpAny (model prog w) A (eval (.GeneratorExp elt [⟨.Tuple [.Name xa pa, .Name xb pb] kt pt, iter, [], 0⟩] scope pos) env) Q E s
@[irreducible] def tB : Bag := bagOf theP
@[irreducible] def prog := tB.prog 3
@[irreducible] def w := tB.w 3
@[irreducible] def A := tB.A 3
@[irreducible] def E := tB.qv 3
@[irreducible] def s := tB.s 3
@[irreducible] def h₀ := tB.heap 3
@[irreducible] def L := tB.addr 3
@[irreducible] def m := tB.fr 3
@[irreducible] def env := tB.env 3
@[irreducible] def elt := tB.expr 3
@[irreducible] def iter := tB.expr 4
@[irreducible] def xa := tB.str 3
@[irreducible] def xb := tB.str 4
@[irreducible] def pa := tB.pos 3
@[irreducible] def pb := tB.pos 4
@[irreducible] def pt := tB.pos 5
@[irreducible] def kt := tB.nat 3
@[irreducible] def scope := tB.scope 3
@[irreducible] def cl := tB.cl 3
@[irreducible] def pos := tB.pos 6
@[irreducible] def c := tB.addr 4
@[irreducible] def P := tB.addr 5
@[irreducible] def Q := tB.qv 4
theorem core (_F : Fr h₀ L s.heap m) (hcode : env.code = .ref c) (hgl : env.globals = mainGlobals) (hh : A.handled = none) (hco : scope.isCoroutine = false) (hclos : closureFor scope env = pure cl) (hcell : ∀ y ∈ scope.names, y.2 ≠ .cell) (h0 : scope.names.lookup (".0" : Str) = some NameKind.local) (hxa : scope.names.lookup xa = some .local) (hxb : scope.names.lookup xb = some .local) (hab : xa ≠ xb) (hkind : scope.kind = .function) (hroom : A.depth < recursionLimit) (h : wpAny (model prog w) A (eval iter env) (GenT prog w A h₀ L m elt xa xb scope cl env pos c P Q) E s) (hs : ∀ x, genFold iter env x = pure x) : wpAny (model prog w) A (eval (.GeneratorExp elt [⟨.Tuple [.Name xa pa, .Name xb pb] kt pt, iter, [], 0⟩] scope pos) env) Q E s := by
 refine wpAny_GeneratorExp_walksQTD hh hco hclos hcell h0 hxa hxb hab hkind hroom (wpAny_mono h (fun xv s₁ h₁ => ?_) fun _ _ e => e) hs
 refine hdG ?_; intro Xh hXh
 refine ex6 h₁ ?_
 try clear h₁
 rintro I fp wr n Pt St hZ
 refine ex5 hZ ?_
 clear hZ
 rintro Mid R ps news g hZ
 refine an8 hZ ?_
 clear hZ
 rintro rfl W h2 hst hfp hPf F N hZ
 refine an8 hZ ?_
 clear hZ
 rintro hoff hlim hbm hc U htr G helt hQ
 refine ex2 U.split ?_
 rintro pre post hZ
 refine an3 hZ ?_
 clear hZ
 rintro rfl hg ua ub
 refine hXh ?_; clear hXh
 have hP := N (P, parts ps) (List.mem_append_right _ (.head _))
 have lim : s₁.heap.NoLimit := hlim.keeps F.keep
 have hcw : cStatics ∉ wr := fun hm => by
  refine hdG ?_; intro Xh hXh
  obtain ⟨_, ⟨o, _, _, ho, _⟩, _⟩ := hlim
  refine hXh ?_; clear hXh
  have := (hoff _ hm).2.1
  rw [this] at ho; cases ho
 have fin : ∀ (code : Value) h₃ tk₃ ps', Heap.ExtBut P s₁.heap h₃ → s₁.heap.objs.size ≤ h₃.objs.size → h₃.get? P = some (parts ps') → TriplesOk ps'.toList → (∃ more, ps' = ps ++ more) →
   wpAny (model prog w) A (builtinsFor env.globals env.builtins) (fun bi s₄ =>
    ∃ I' fp wr n₀ Pt St₀ Mid pz F, Value.ref I = .ref I' ∧ (∀ A' : Around, A'.handled = none → WalksU prog w A' I' fp wr n₀ Pt St₀ Mid) ∧ (∀ i vals, Pt i vals → ∃ va vb, vals = #[va, vb]) ∧ St₀ 0 s₄.heap ∧ (∀ b ∈ fp, b < s₄.heap.objs.size) ∧ s₄.heap.NoLimit ∧ cStatics ∉ wr ∧
     (∀ href : Heap, (∀ b o, s₄.heap.get? b = some o → href.get? b = some o) →
      QuietGenTD prog w (genEnv scope cl s₄.heap.objs.size code bi env) xa xb [] elt (List.range s₄.heap.objs.size) wr Pt pz F href (A.depth + 1) (A.units + 8)) ∧
     (∀ a h₅ tk gs, gs.bare = true → s₄.heap.objs.size < a → h₅.objs.size = a + 1 → (∀ b o, s₄.heap.get? b = some o → h₅.get? b = some o) →
      WalksS prog w A.in4 a (a :: s₄.heap.objs.size :: List.range s₄.heap.objs.size) (s₄.heap.objs.size :: wr) (GenOnlyQ s₄.gens.size) (passing pz n₀ 0).length
       (fun j y => ∃ i, (passing pz n₀ 0)[j]? = some i ∧ F i y) (GenAt prog w A.in4 a s₄.gens.size s₄.heap.objs.size (List.range s₄.heap.objs.size) wr pz n₀ F) →
      GenAt prog w A.in4 a s₄.gens.size s₄.heap.objs.size (List.range s₄.heap.objs.size) wr pz n₀ F 0 { s₄ with gens := s₄.gens.push gs, toks := tk, heap := h₅ } →
      Q (.ref a) { s₄ with gens := s₄.gens.push gs, toks := tk, heap := h₅ })) E { s₁ with heap := h₃, toks := tk₃ } := by
  intro code h₃ tk₃ ps' hx hsz hp3 tr3 more
  have nP : h₀.get? P = none := hP.2.2
  have k3 : ∀ b o, b ≠ P → s₁.heap.get? b = some o → h₃.get? b = some o := fun b o ne e => hx b o ne e
  have kb : ∀ b o, h₀.get? b = some o → h₃.get? b = some o := fun b o e => k3 b o (fun q => by rw [q, nP] at e; cases e) (F.keep b o e)
  have F3 : Fr h₀ L h₃ m := ⟨F.ns.at' fun o e => k3 L o (Ne.symm hP.2.1) e, kb, F.above⟩
  have N3 : News h₀ L h₃ (pre ++ (P, parts ps') :: post) := fun p hp => by
   rcases List.mem_append.mp hp with hp | hp
   ·have z := N p (List.mem_append_left _ hp)
    exact ⟨k3 _ _ (ua p hp) z.1, z.2⟩
   ·rcases List.mem_cons.mp hp with rfl | hp
    ·exact ⟨hp3, hP.2⟩
    ·have z := N p (List.mem_append_right _ (.tail _ hp))
     exact ⟨k3 _ _ (ub p hp) z.1, z.2⟩
  refine hdG ?_; intro Xh hXh
  refine ex3 (hbm.keeps kb) ?_
  rintro mg bm ob M
  refine hXh ?_; clear hXh
  refine wpAny_builtinsFor (by rw [hgl]; exact M.ns) M.name M.ne M.obj M.cls M.dict M.data ?_
  refine (ix6 I fp wr n Pt St (ix3 Mid (fun _ => true) R (ia8 rfl (fun A' hA => (W A' hA).toU) h2 ((W A hh).frame _ _ _ hst fun b hb o e => k3 b o (fun q => hPf (q ▸ hb)) e) (fun b hb => Nat.lt_of_lt_of_le (hfp b hb) hsz) (hlim.keeps kb) hcw (fun href hhref => ⟨?_, ?_⟩) (fun a h₅ tk gs hgb hag hsz5 hk5 WS hat => ?_))))
  ·intro A' E' i va vb t m₂ hA _ _ _ _ _ _ _
   simp only [List.forIn_nil]
   exact wpAny_pure (⟨rfl, ix2 t.heap t.toks ⟨rfl, fun _ _ e => e⟩⟩)
  ·exact fun A' E' i va vb t m₂ hA _ _ hP _ hn ha hb _ => helt A' E' _ code i va vb t m₂ hA hP hn ha hb
  ·rw [passing_all] at WS
   have cnt : (List.range n).length = n := List.length_range
   rw [cnt] at WS
   have WS' : WalksS prog w A.in4 a (a :: h₃.objs.size :: List.range h₃.objs.size) (h₃.objs.size :: wr) (GenOnlyQ s₁.gens.size) n R (GenAt prog w A.in4 a s₁.gens.size h₃.objs.size (List.range h₃.objs.size) wr (fun _ => true) n R) := by
    refine ⟨WS.sub, WS.grefl, WS.gtrans, WS.frame, fun i s Q E hi st k => WS.item i s Q E hi st fun x s' px => k x s' ?_, WS.done, WS.self⟩
    refine hdG ?_; intro Xh hXh
    obtain ⟨i', e1, e2⟩ := px
    refine hXh ?_; clear hXh
    rw [List.getElem?_range hi] at e1
    cases e1; exact e2
   refine hQ a h₅ tk _ ps' (F3.keeps hk5) (by rw [hg]; exact fun p hp => ⟨hk5 _ _ (N3 p hp).1, (N3 p hp).2⟩) tr3 more (G.push hgb) (ix4 _ _ _ _ (ia7 WS' hat (fun i s' st => st.1.typeIs) List.mem_cons_self ?_ ?_ ?_ ?_)) fun b o ne e => hk5 b o (k3 b o ne e)
   ·intro b hb
    show b < h₅.objs.size
    rw [hsz5]
    rcases List.mem_cons.mp hb with rfl | hb
    ·exact Nat.lt_succ_self _
    ·rcases List.mem_cons.mp hb with rfl | hb
     ·exact Nat.lt_succ_of_lt hag
     ·exact Nat.lt_succ_of_lt (Nat.lt_trans (List.mem_range.mp hb) hag)
   ·intro hb
    rcases List.mem_cons.mp hb with e | hb
    ·refine ex3 F3.ns ?_
     rintro o _ _ hZ
     obtain ⟨ho, _⟩ := hZ
     exact absurd (Heap.lt_size ho) (by rw [e]; exact Nat.lt_irrefl _)
    ·exact (hoff _ hb).1 rfl
   ·intro b hb
    rcases List.mem_cons.mp hb with rfl | hb
    ·cases e : h₀.get? h₃.objs.size with
     | none => rfl
     | some o => exact absurd (Heap.lt_size (kb _ _ e)) (Nat.lt_irrefl _)
    ·exact (hoff _ hb).2.1
   ·intro p hp hb
    rw [hg] at hp
    rcases List.mem_cons.mp hb with e | hb
    ·exact absurd (Heap.lt_size (N3 p hp).1) (by rw [e]; exact Nat.lt_irrefl _)
    ·rcases List.mem_append.mp hp with hp | hp
     ·exact (hoff _ hb).2.2 p (List.mem_append_left _ hp) rfl
     ·rcases List.mem_cons.mp hp with rfl | hp
      ·exact (hoff _ hb).2.2 _ (List.mem_append_right _ (.head _)) rfl
      ·exact (hoff _ hb).2.2 p (List.mem_append_right _ (.tail _ hp)) rfl
 have both := (hc.keeps F.keep).both hP.1 htr
 refine (W A hh).self 0 _ _ _ hst ⟨lim, ?_⟩
 cases q : codeAmong pos ps.toList with
 | some cv => exact wpAny_genexprCode_hit hcode both.1 q (fin cv s₁.heap s₁.toks ps (Heap.ExtBut.refl _ _) (Nat.le_refl _) hP.1 htr ⟨#[], by simp⟩)
 | none =>
  refine wpAny_genexprCodeX hcode both.1 both.2 q fun c' h' tk hx h3 h4 hco' _ htab _ => ?_
  refine hdG ?_; intro Xh hXh
  refine ex6 hco' ?_
  try clear hco'
  rintro _ _ _ _ _ _ hZ
  refine ex4 hZ ?_
  clear hZ
  rintro _ _ _ _ hZ
  refine an8 hZ ?_
  clear hZ
  rintro _ _ _ _ _ _ _ _ hZ
  refine an2 hZ ?_
  clear hZ
  rintro _ tr _
  refine hXh ?_; clear hXh
  exact fin (.ref c') h' tk _ hx (Nat.le_trans h3 (Nat.le_of_lt h4)) htab.2 tr ⟨_, rfl⟩
end E_gen_pairs
section
variable {prog : Program} {w : World} {A : Around} {E : Value → Shared → Prop} {s : Shared} {h₀ : Heap} {L : Addr} {m : Str → Option Value}
theorem gen_pairs {env : Env} {elt iter : Expr} {xa xb : Str} {pa pb pt : Pos} {kt : Nat} {scope : Scope} {cl : List (Str × Addr)} {pos : Pos} {c P : Addr} {Q : Value → Shared → Prop} (_F : Fr h₀ L s.heap m) (hcode : env.code = .ref c) (hgl : env.globals = mainGlobals) (hh : A.handled = none) (hco : scope.isCoroutine = false) (hclos : closureFor scope env = pure cl) (hcell : ∀ y ∈ scope.names, y.2 ≠ .cell) (h0 : scope.names.lookup (".0" : Str) = some NameKind.local) (hxa : scope.names.lookup xa = some .local) (hxb : scope.names.lookup xb = some .local) (hab : xa ≠ xb) (hkind : scope.kind = .function) (hroom : A.depth < recursionLimit) (h : wpAny (model prog w) A (eval iter env) (GenT prog w A h₀ L m elt xa xb scope cl env pos c P Q) E s) (hs : ∀ x, genFold iter env x = pure x) : wpAny (model prog w) A (eval (.GeneratorExp elt [⟨.Tuple [.Name xa pa, .Name xb pb] kt pt, iter, [], 0⟩] scope pos) env) Q E s := bag_all (P := E_gen_pairs.theP) (by with_unfolding_all exact @E_gen_pairs.core) { bag0 with A := nth [A, A, A, A] bag0.A, addr := nth [L, L, L, L, c, P] bag0.addr, cl := nth [cl, cl, cl, cl] bag0.cl, env := nth [env, env, env, env] bag0.env, expr := nth [elt, elt, elt, elt, iter] bag0.expr, fr := nth [m, m, m, m] bag0.fr, heap := nth [h₀, h₀, h₀, h₀] bag0.heap, nat := nth [kt, kt, kt, kt] bag0.nat, pos := nth [pa, pa, pa, pa, pb, pt, pos] bag0.pos, prog := nth [prog, prog, prog, prog] bag0.prog, qv := nth [E, E, E, E, Q] bag0.qv, s := nth [s, s, s, s] bag0.s, scope := nth [scope, scope, scope, scope] bag0.scope, str := nth [xa, xa, xa, xa, xb] bag0.str, w := nth [w, w, w, w] bag0.w } _F hcode hgl hh hco hclos hcell h0 hxa hxb hab hkind hroom h hs
theorem tuple_of_gen {news : List (Addr × Obj)} {a : Addr} {n : Nat} {R : Nat → Value → Prop} {Q : Value → Shared → Prop} (X : GnAt prog w A h₀ L news a n R s) (F : Fr h₀ L s.heap m) (N : News h₀ L s.heap news) (G : AllBare s.gens) (hn : n ≤ sizeLine)
  (k : ∀ D h' tk gs (ys : Array Value), Fr h₀ L h' m → News h₀ L h' ((D, { cls := .type "tuple", data := .seq ys }) :: news) → (∀ p ∈ news, p.1 < D) → AllBare gs → ys.size = n → (∀ j v, ys[j]? = some v → R j v) → Q (.ref D) { s with heap := h', toks := tk, gens := gs }) :
  wpAny (model prog w) A (call (.type "tuple") [.ref a]) Q E s := by
 refine hdG ?_; intro Xh hXh
 refine ex4 X ?_
 try clear X
 rintro fp wr g St hZ
 refine an7 hZ ?_
 clear hZ
 rintro W hst hT hI hfp hL hwr hoff
 refine hXh ?_; clear hXh
 refine call_tuple_gen (hsz := hn) W.in4_3 hT hst hfp hI fun s' acc hm hacc => ?_
 refine hdG ?_; intro Xh hXh
 obtain ⟨h', gs, dr, tk, os⟩ := s'
 obtain ⟨mh, mg, md, mo, _⟩ := hm
 have md : dr = s.drawn := md
 have mo : os = s.os := mo
 subst md mo
 refine hXh ?_; clear hXh
 have kb : ∀ b o, b ∉ wr → s.heap.get? b = some o → h'.get? b = some o := mh
 have F1 : Fr h₀ L h' m := ⟨F.ns.at' fun o e => kb L o hL e, fun b o e => kb b o (fun q => by rw [hwr b q] at e; cases e) (F.keep b o e), F.above⟩
 have N1 : News h₀ L h' news := fun p hp => ⟨kb _ _ (hoff p hp) (N p hp).1, (N p hp).2⟩
 exact k h'.objs.size _ tk gs acc (F1.push _) (N1.push F1 _) (fun p hp => Heap.lt_size (N1 p hp).1) (G.moved mg) hacc.1 hacc.2
end
end Mine
end
section
open PySem PySem.W PyProof.Rows PySem.Calls PySem.Spec
set_option Elab.async false
set_option maxRecDepth 100000
namespace Mine
theorem entry_items_iter : entryFor table "dict_itemiterator.__iter__" = some Builtin.«dict_keyiterator.__iter__» :=
 entryFor_alias (id' := "dict_keyiterator.__iter__") (by kernel_rfl) rfl (by decide +kernel) (by kernel_rfl)
section
variable {prog : Program} {w : World} {K : Type} [DecidableEq K] {knd : KeyKind prog w K} {A : Around}
theorem itemsWalks (hh : A.handled = none) (it d : Addr) (hne : d ≠ it) (kvs : List (K × Value)) (ep : Nat) :
  WalksT prog w A it [it, d] [it] kvs.length (fun i vals => ∃ k v key, kvs[i]? = some (k, v) ∧ knd.is k key = true ∧ vals = #[key, v])
   (fun i h => (∃ a b, IsItemIter h it d i kvs.length ep a b) ∧ h.DictAt knd d kvs ep)
   (fun i T h => (∃ a b, IsItemIterOut h it d (i + 1) kvs.length ep a b T) ∧ h.DictAt knd d kvs ep ∧ T ≠ it) where
 sub := fun b hb => by simp at hb; simp [hb]
 frame := fun i h h' st k => ⟨let ⟨a, b, x⟩ := st.1; (ix2 a b (k it (by simp) _ x)), st.2.at fun o e => k d (by simp) o e⟩
 item := fun i s Q E hi st q => by
  refine hdG ?_; intro Xh hXh
  obtain ⟨⟨a, b, x⟩, hm⟩ := st
  refine hXh ?_; clear hXh
  refine wpAny_pyNext_items_item x hm (k := kvs[i].1) (v := kvs[i].2) (by simp [hi]) fun key h' hk ho ht hz keep => ?_
  have lt : it < s.heap.objs.size := Heap.lt_size x
  exact q s.heap.objs.size #[key, kvs[i].2] h' s.toks (ix3 (kvs[i].1) (kvs[i].2) key (ia2 (by simp [hi]) hk rfl)) (Nat.le_refl _) (⟨_, ia2 ht rfl ⟨_, rfl⟩⟩)
   (ia2 (ix2 _ _ ho) (hm.at fun o e => keep d o hne e) (Nat.ne_of_gt lt)) fun c o hc e => keep c o (fun z => hc (by simp [z])) e
 go := fun elts k pos i T s Q E hm q => by
  refine hdG ?_; intro Xh hXh
  refine an2 hm ?_
  try clear hm
  rintro ⟨a, b, x⟩ hm _
  refine hXh ?_; clear hXh
  exact wpAny_letOwnedTupleGo_items x fun h' x' B => q h' ⟨(ix2 _ _ x'), hm.at fun o e => B.extBut d o hne e⟩ fun c o hc e => B.extBut c o (fun z => hc (by simp [z])) e
 apart := fun i T h hm hb => hm.2.2 (by simpa using hb)
 done := fun s Q E st q => by
  refine hdG ?_; intro Xh hXh
  obtain ⟨⟨a, b, x⟩, hm⟩ := st
  refine hXh ?_; clear hXh
  exact wpAny_pyNext_items_end hh x hm (by simp) fun h' B => q h' s.toks fun c o hc e => B c o (fun z => hc (by simp [z])) e
 self := fun i s Q E st q => by
  refine hdG ?_; intro Xh hXh
  obtain ⟨⟨a, b, x⟩, hm⟩ := st
  refine hXh ?_; clear hXh
  have hT : s.TypeIs (.ref it) "dict_itemiterator" := ⟨_, x, rfl⟩
  refine wpAny_pyIter_slot hT F.slot_dict_itemiterator_iter (wpAny_call_entry F.slot_dict_itemiterator_iter hT entry_items_iter ?_ (F.args_dict_itemiterator_iter_1 _))
  show wpAny _ _ (ret (.ref it)) _ _ s
  exact wpAny_pure (⟨_, ⟨rfl, ix2 ("dict_itemiterator") _ (ia2 hT F.slot_dict_itemiterator_next.lookup q)⟩⟩)
end
noncomputable def TurnEnd (h₀ : Heap) (L : Addr) (own : List (Addr × Obj)) (J : (Str → Option Value) → List (Addr × Obj) → Array GenState → Prop) (s₁ : Shared) (f : Flow) (s₂ : Shared) : Prop :=
 (f = .next ∨ f = .cont) ∧ ∃ h' tk m₂ news₂ gs, s₂ = { s₁ with heap := h', toks := tk, gens := gs } ∧ Fr h₀ L h' m₂ ∧ News h₀ L h' (own ++ news₂) ∧ (∀ p ∈ news₂, p.1 ∉ own.map (·.1)) ∧ J m₂ news₂ gs
section
variable {prog : Program} {w : World} {A : Around} {s : Shared} {env : Env} {h₀ : Heap}
theorem own_exists {h : Heap} {L : Addr} : ∀ {l : List Addr}, (∀ b ∈ l, (∃ o, h.get? b = some o) ∧ b ≠ L ∧ h₀.get? b = none) → ∃ own : List (Addr × Obj), own.map (·.1) = l ∧ News h₀ L h own
 | [], _ => ⟨[], rfl, News.nil⟩
 | b :: r, hb => by
  refine hdG ?_; intro Xh hXh
  obtain ⟨own, e, N⟩ := own_exists (l := r) fun c hc => hb c (.tail _ hc)
  refine an2 (hb b (.head _)) ?_
  rintro ⟨o, ho⟩ n1 n2
  refine hXh ?_; clear hXh
  refine ⟨(b, o) :: own, by simp [e], fun p hp => ?_⟩
  rcases List.mem_cons.mp hp with rfl | hp
  ·exact (ia2 ho n1 n2)
  ·exact N p hp
end
namespace E_for_pairs
noncomputable def theP (zC : Bag) : Prop :=
 let prog := zC.prog 3; let w := zC.w 3; let A := zC.A 3; let s := zC.s 3; let env := zC.env 3; let h₀ := zC.heap 3; let E := zC.qv 3; let Q := zC.qf 3; let xi := zC.str 3; let xc := zC.str 4; let pk := zC.pos 3; let pv := zC.pos 4; let pt := zC.pos 5; let pos := zC.pos 6; let x1 := zC.nat 3; let iter := zC.expr 3; let body := zC.stmts 3;
 ∀ (hh : A.handled = none) (hxi : env.kindOf xi = some .local) (hxc : env.kindOf xc = some .local) (hp : (env.scope.kind == .class || (env.scope.kind == .module && env.locals != env.globals)) = false) (h : wpAny (model prog w) A (eval iter env) (fun xv s₁ => wpAny (model prog w) A (pyIter xv) (fun it s₂ =>
   ∃ (I : Addr) (fp wr own₀ : List Addr) (n : Nat) (Pt : Nat → Array Value → Prop) (St : Nat → Heap → Prop) (Mid : Nat → Addr → Heap → Prop) (P2 : Nat → Value → Value → Prop) (m : Str → Option Value) (news : List (Addr × Obj))
    (J : Nat → (Str → Option Value) → List (Addr × Obj) → Array GenState → Prop),
    it = .ref I ∧ WalksT prog w A I fp wr n Pt St Mid ∧ (∀ i vals, Pt i vals → ∃ v0 v1, vals = #[v0, v1] ∧ P2 i v0 v1) ∧ (∀ b ∈ fp, b ∈ own₀ ∨ ∃ o, h₀.get? b = some o) ∧ (∀ b ∈ wr, b ∈ own₀) ∧ (∀ b ∈ own₀, b ≠ env.locals ∧ h₀.get? b = none) ∧
    (∀ i h, St i h → ∀ b ∈ own₀, ∃ o, h.get? b = some o) ∧ (∀ p ∈ news, p.1 ∉ own₀) ∧ St 0 s₂.heap ∧ Fr h₀ env.locals s₂.heap m ∧ News h₀ env.locals s₂.heap news ∧ J 0 m news s₂.gens ∧
    (∀ i v0 v1 m₁ news₁ s₁ own E', (∃ h tk gs, s₁ = { s₂ with heap := h, toks := tk, gens := gs }) → i < n → P2 i v0 v1 → J i m₁ news₁ s₁.gens → (∀ p ∈ news₁, p.1 ∉ own₀) → own.map (·.1) = own₀ →
     Fr h₀ env.locals s₁.heap (fun y => if y = xc then some v1 else if y = xi then some v0 else m₁ y) → News h₀ env.locals s₁.heap (own ++ news₁) →
     wpAny (model prog w) A (execs body env) (TurnEnd h₀ env.locals own (J (i + 1)) s₁) E' s₁) ∧
    (∀ h' tk gs m' news', Fr h₀ env.locals h' m' → News h₀ env.locals h' news' → (∀ p ∈ news', p.1 ∉ own₀) → J n m' news' gs → Q .next { s₂ with heap := h', toks := tk, gens := gs })) E s₁) E s) (hs : ∀ x, foldedSetIterable iter env x = pure x := by intro _; rfl), wpAny (model prog w) A (exec (.For (.Tuple [.Name xi pk, .Name xc pv] x1 pt) iter body [] pos) env) Q E s
@[irreducible] def tB : Bag := bagOf theP
@[irreducible] def prog := tB.prog 3
@[irreducible] def w := tB.w 3
@[irreducible] def A := tB.A 3
@[irreducible] def s := tB.s 3
@[irreducible] def env := tB.env 3
@[irreducible] def h₀ := tB.heap 3
@[irreducible] def E := tB.qv 3
@[irreducible] def Q := tB.qf 3
@[irreducible] def xi := tB.str 3
@[irreducible] def xc := tB.str 4
@[irreducible] def pk := tB.pos 3
@[irreducible] def pv := tB.pos 4
@[irreducible] def pt := tB.pos 5
@[irreducible] def pos := tB.pos 6
@[irreducible] def x1 := tB.nat 3
@[irreducible] def iter := tB.expr 3
@[irreducible] def body := tB.stmts 3
theorem core (hh : A.handled = none) (hxi : env.kindOf xi = some .local) (hxc : env.kindOf xc = some .local) (hp : (env.scope.kind == .class || (env.scope.kind == .module && env.locals != env.globals)) = false) (h : wpAny (model prog w) A (eval iter env) (fun xv s₁ => wpAny (model prog w) A (pyIter xv) (fun it s₂ =>
   ∃ (I : Addr) (fp wr own₀ : List Addr) (n : Nat) (Pt : Nat → Array Value → Prop) (St : Nat → Heap → Prop) (Mid : Nat → Addr → Heap → Prop) (P2 : Nat → Value → Value → Prop) (m : Str → Option Value) (news : List (Addr × Obj))
    (J : Nat → (Str → Option Value) → List (Addr × Obj) → Array GenState → Prop),
    it = .ref I ∧ WalksT prog w A I fp wr n Pt St Mid ∧ (∀ i vals, Pt i vals → ∃ v0 v1, vals = #[v0, v1] ∧ P2 i v0 v1) ∧ (∀ b ∈ fp, b ∈ own₀ ∨ ∃ o, h₀.get? b = some o) ∧ (∀ b ∈ wr, b ∈ own₀) ∧ (∀ b ∈ own₀, b ≠ env.locals ∧ h₀.get? b = none) ∧
    (∀ i h, St i h → ∀ b ∈ own₀, ∃ o, h.get? b = some o) ∧ (∀ p ∈ news, p.1 ∉ own₀) ∧ St 0 s₂.heap ∧ Fr h₀ env.locals s₂.heap m ∧ News h₀ env.locals s₂.heap news ∧ J 0 m news s₂.gens ∧
    (∀ i v0 v1 m₁ news₁ s₁ own E', (∃ h tk gs, s₁ = { s₂ with heap := h, toks := tk, gens := gs }) → i < n → P2 i v0 v1 → J i m₁ news₁ s₁.gens → (∀ p ∈ news₁, p.1 ∉ own₀) → own.map (·.1) = own₀ →
     Fr h₀ env.locals s₁.heap (fun y => if y = xc then some v1 else if y = xi then some v0 else m₁ y) → News h₀ env.locals s₁.heap (own ++ news₁) →
     wpAny (model prog w) A (execs body env) (TurnEnd h₀ env.locals own (J (i + 1)) s₁) E' s₁) ∧
    (∀ h' tk gs m' news', Fr h₀ env.locals h' m' → News h₀ env.locals h' news' → (∀ p ∈ news', p.1 ∉ own₀) → J n m' news' gs → Q .next { s₂ with heap := h', toks := tk, gens := gs })) E s₁) E s) (hs : ∀ x, foldedSetIterable iter env x = pure x := by intro _; rfl) : wpAny (model prog w) A (exec (.For (.Tuple [.Name xi pk, .Name xc pv] x1 pt) iter body [] pos) env) Q E s := by
 refine wpAny_For (wpAny_mono h (fun xv s₁ h₁ => wpAny_mono h₁ (fun it s₂ h₂ => ?_) fun _ _ e => e) fun _ _ e => e) hs
 refine hdG ?_; intro Xh hXh
 refine ex6 h₂ ?_
 try clear h₂
 rintro I fp wr own₀ n Pt hZ
 refine ex6 hZ ?_
 clear hZ
 rintro St Mid P2 m news J hZ
 refine an8 hZ ?_
 clear hZ
 rintro rfl W h2 hfp hwr hown hlive hoff hZ
 refine an5 hZ ?_
 clear hZ
 rintro hst F N h0 step hQ
 refine hXh ?_; clear hXh
 have hLf : ∀ b ∈ fp, b ≠ env.locals := fun b hb => by
  rcases hfp b hb with x | ⟨o, x⟩
  ·exact (hown b x).1
  ·exact fun q => absurd (Nat.lt_of_lt_of_le (Heap.lt_size x) F.above) (by rw [q]; exact Nat.lt_irrefl _)
 have old : ∀ b o, h₀.get? b = some o → b ∉ wr := fun b o e hb => by rw [(hown b (hwr b hb)).2] at e; cases e
 refine codeAny_forLoop_any
  (fun k s' => ∃ h' tk gs m' news' i, s' = { s₂ with heap := h', toks := tk, gens := gs } ∧ St i h' ∧ Fr h₀ env.locals h' m' ∧ News h₀ env.locals h' news' ∧ (∀ p ∈ news', p.1 ∉ own₀) ∧ J i m' news' gs ∧ i ≤ n ∧ k = n + 1 - i) ?_ (n + 1)
  (ix6 s₂.heap s₂.toks s₂.gens m news 0 (ia7 rfl hst F N hoff h0 (Nat.zero_le _) rfl))
 rintro k s' hJz
 refine hdG ?_; intro Xh hXh
 refine ex6 hJz ?_
 try clear hJz
 rintro H tk gs m' news' i hZ
 refine an7 hZ ?_
 clear hZ
 rintro rfl hst' F' N' hoff' hJ hi rfl
 refine hXh ?_; clear hXh
 have next : ∀ h₁ : Heap, (∀ b o, b ∉ wr → H.get? b = some o → h₁.get? b = some o) → Fr h₀ env.locals h₁ m' ∧ News h₀ env.locals h₁ news' := fun h₁ k₁ =>
  ⟨⟨F'.ns.at' fun o e => k₁ _ o (fun q => (hown _ (hwr _ q)).1 rfl) e, fun b o e => k₁ b o (old b o e) (F'.keep b o e), F'.above⟩, fun p hp => ⟨k₁ _ _ (fun q => hoff' p hp (hwr _ q)) (N' p hp).1, (N' p hp).2⟩⟩
 by_cases hlt : i < n
 ·refine W.item i _ _ _ hlt hst' fun T vals h₁ tk₁ hPt hTge hT hMid hk₁ => ?_
  refine hdG ?_; intro Xh hXh
  refine ex2 (h2 i vals hPt) ?_
  rintro v0 v1 hZ
  obtain ⟨rfl, hP2⟩ := hZ
  refine hXh ?_; clear hXh
  refine W.go _ x1 pt i T _ _ _ hMid fun h₂ hst₂ hk₂ => ?_
  have ht₂ : h₂.IsTuple T #[v0, v1] := hT.at fun o e => hk₂ T o (W.apart i T h₁ hMid) e
  refine wpAny_assign_Tuple hh ht₂ rfl rfl fun h₃ hx₃ => ?_
  replace hx₃ : Heap.ExtBut h₂.objs.size h₂ h₃ := hx₃
  have up₃ : ∀ b o, h₂.get? b = some o → h₃.get? b = some o := fun b o x => hx₃ b o (Nat.ne_of_lt (Heap.lt_size x)) x
  obtain ⟨F₃, N₃⟩ := next h₃ fun b o hb x => up₃ b o (hk₂ b o hb (hk₁ b o hb x))
  show wpAny _ A (do holding [v1] (assign (.Name xi pk) env v0); do holding [] (assign (.Name xc pv) env v1); pure ()) _ _ _
  refine wpAny_bind (wpAny_holding (wpAny_assign_Name (wpAny_storeName_local hxi F₃.ns (fun h₄ hn₄ hs₄ => ?_) hp)))
  replace hs₄ : Heap.SameBut env.locals h₃ h₄ := hs₄
  have F₄ := F₃.set hn₄ hs₄
  refine wpAny_bind (wpAny_holding (wpAny_assign_Name (wpAny_storeName_local hxc F₄.ns (fun h₅ hn₅ hs₅ => wpAny_pure ?_) hp)))
  replace hs₅ : Heap.SameBut env.locals h₄ h₅ := hs₅
  have F₅ := F₄.set hn₅ hs₅
  have N₅ : News h₀ env.locals h₅ news' := (N₃.set hs₄).set hs₅
  have hst₅ : St (i + 1) h₅ := W.frame _ _ _ hst₂ fun b hb o e => hs₅.extBut b o (hLf b hb) (hs₄.extBut b o (hLf b hb) (up₃ b o e))
  refine hdG ?_; intro Xh hXh
  obtain ⟨own, e₀, NO⟩ := own_exists (h₀ := h₀) (h := h₅) (L := env.locals) (l := own₀) fun b hb => ⟨hlive _ _ hst₅ b hb, hown b hb⟩
  refine hXh ?_; clear hXh
  refine wpAny_mono (step i v0 v1 m' news' _ own _ (ix3 _ _ _ rfl) hlt hP2 hJ hoff' e₀ F₅ (fun p hp => (List.mem_append.mp hp).elim (NO p) (N₅ p))) (fun f s₃ h₆ => ?_) fun _ _ e => e
  refine hdG ?_; intro Xh hXh
  obtain ⟨hf, hZ⟩ := h₆
  refine ex5 hZ ?_
  clear hZ
  rintro h₆' tk₆ m₂ news₂ gs₂ hZ
  refine an4 hZ ?_
  clear hZ
  rintro rfl F₆ N₆ hoff₆ hJ₆
  refine hXh ?_; clear hXh
  have back : ∃ k, k < n + 1 - i ∧ ∃ h' tk gs m' news' j, ({ s₂ with heap := h₆', toks := tk₆, gens := gs₂ } : Shared) = { s₂ with heap := h', toks := tk, gens := gs } ∧ St j h' ∧ Fr h₀ env.locals h' m' ∧ News h₀ env.locals h' news' ∧ (∀ p ∈ news', p.1 ∉ own₀) ∧ J j m' news' gs ∧ j ≤ n ∧ k = n + 1 - j := by
   refine (⟨n + 1 - (i + 1), ⟨by grind, ix6 h₆' tk₆ gs₂ m₂ news₂ (i + 1) (ia7 rfl (W.frame _ _ _ hst₅ fun b hb o e => ?_) F₆ (fun p hp => N₆ p (List.mem_append_right _ hp)) (e₀ ▸ hoff₆) hJ₆ hlt rfl)⟩⟩)
   rcases hfp b hb with x | ⟨o₀, x⟩
   ·rw [← e₀] at x
    refine hdG ?_; intro Xh hXh
    obtain ⟨p, hp, rfl⟩ := List.mem_map.mp x
    refine hXh ?_; clear hXh
    have z := (NO p hp).1
    rw [e] at z
    rw [Option.some.inj z]
    exact (N₆ p (List.mem_append_left _ hp)).1
   ·have z := F₅.keep b o₀ x
    rw [e] at z
    rw [Option.some.inj z]
    exact F₆.keep b o₀ x
  rcases hf with rfl | rfl
  ·exact back
  ·exact back
 ·have hin : i = n := by grind
  subst hin
  refine W.done _ _ _ hst' fun h₁ tk₁ hk₁ => wpAny_execs_nil ?_
  obtain ⟨F₁, N₁⟩ := next h₁ hk₁
  exact hQ h₁ tk₁ _ m' news' F₁ N₁ hoff' hJ
end E_for_pairs
section
variable {prog : Program} {w : World} {A : Around} {s : Shared} {env : Env} {h₀ : Heap}
theorem for_pairs {E : Value → Shared → Prop} {Q : Flow → Shared → Prop} {xi xc : Str} {pk pv pt pos : Pos} {x1 : Nat} {iter : Expr} {body : List Stmt} (hh : A.handled = none) (hxi : env.kindOf xi = some .local) (hxc : env.kindOf xc = some .local) (hp : (env.scope.kind == .class || (env.scope.kind == .module && env.locals != env.globals)) = false) (h : wpAny (model prog w) A (eval iter env) (fun xv s₁ => wpAny (model prog w) A (pyIter xv) (fun it s₂ =>
   ∃ (I : Addr) (fp wr own₀ : List Addr) (n : Nat) (Pt : Nat → Array Value → Prop) (St : Nat → Heap → Prop) (Mid : Nat → Addr → Heap → Prop) (P2 : Nat → Value → Value → Prop) (m : Str → Option Value) (news : List (Addr × Obj))
    (J : Nat → (Str → Option Value) → List (Addr × Obj) → Array GenState → Prop),
    it = .ref I ∧ WalksT prog w A I fp wr n Pt St Mid ∧ (∀ i vals, Pt i vals → ∃ v0 v1, vals = #[v0, v1] ∧ P2 i v0 v1) ∧ (∀ b ∈ fp, b ∈ own₀ ∨ ∃ o, h₀.get? b = some o) ∧ (∀ b ∈ wr, b ∈ own₀) ∧ (∀ b ∈ own₀, b ≠ env.locals ∧ h₀.get? b = none) ∧
    (∀ i h, St i h → ∀ b ∈ own₀, ∃ o, h.get? b = some o) ∧ (∀ p ∈ news, p.1 ∉ own₀) ∧ St 0 s₂.heap ∧ Fr h₀ env.locals s₂.heap m ∧ News h₀ env.locals s₂.heap news ∧ J 0 m news s₂.gens ∧
    (∀ i v0 v1 m₁ news₁ s₁ own E', (∃ h tk gs, s₁ = { s₂ with heap := h, toks := tk, gens := gs }) → i < n → P2 i v0 v1 → J i m₁ news₁ s₁.gens → (∀ p ∈ news₁, p.1 ∉ own₀) → own.map (·.1) = own₀ →
     Fr h₀ env.locals s₁.heap (fun y => if y = xc then some v1 else if y = xi then some v0 else m₁ y) → News h₀ env.locals s₁.heap (own ++ news₁) →
     wpAny (model prog w) A (execs body env) (TurnEnd h₀ env.locals own (J (i + 1)) s₁) E' s₁) ∧
    (∀ h' tk gs m' news', Fr h₀ env.locals h' m' → News h₀ env.locals h' news' → (∀ p ∈ news', p.1 ∉ own₀) → J n m' news' gs → Q .next { s₂ with heap := h', toks := tk, gens := gs })) E s₁) E s) (hs : ∀ x, foldedSetIterable iter env x = pure x := by intro _; rfl) : wpAny (model prog w) A (exec (.For (.Tuple [.Name xi pk, .Name xc pv] x1 pt) iter body [] pos) env) Q E s := bag_all (P := E_for_pairs.theP) (by with_unfolding_all exact @E_for_pairs.core) { bag0 with A := nth [A, A, A, A] bag0.A, env := nth [env, env, env, env] bag0.env, expr := nth [iter, iter, iter, iter] bag0.expr, heap := nth [h₀, h₀, h₀, h₀] bag0.heap, nat := nth [x1, x1, x1, x1] bag0.nat, pos := nth [pk, pk, pk, pk, pv, pt, pos] bag0.pos, prog := nth [prog, prog, prog, prog] bag0.prog, qf := nth [Q, Q, Q, Q] bag0.qf, qv := nth [E, E, E, E] bag0.qv, s := nth [s, s, s, s] bag0.s, stmts := nth [body, body, body, body] bag0.stmts, str := nth [xi, xi, xi, xi, xc] bag0.str, w := nth [w, w, w, w] bag0.w } hh hxi hxc hp h hs
end
namespace E_for_one
noncomputable def theP (zC : Bag) : Prop :=
 let prog := zC.prog 3; let w := zC.w 3; let A := zC.A 3; let s := zC.s 3; let env := zC.env 3; let h₀ := zC.heap 3; let E := zC.qv 3; let Q := zC.qf 3; let x := zC.str 3; let px := zC.pos 3; let pos := zC.pos 4; let iter := zC.expr 3; let body := zC.stmts 3;
 ∀ (hh : A.handled = none) (hx : env.kindOf x = some .local) (hp : (env.scope.kind == .class || (env.scope.kind == .module && env.locals != env.globals)) = false) (h : wpAny (model prog w) A (eval iter env) (fun xv s₁ => wpAny (model prog w) A (pyIter xv) (fun it s₂ =>
   ∃ (I : Addr) (fp wr own₀ : List Addr) (n : Nat) (P : Nat → Value → Prop) (St : Nat → Heap → Prop) (m : Str → Option Value) (news : List (Addr × Obj))
    (J : Nat → (Str → Option Value) → List (Addr × Obj) → Array GenState → Prop),
    it = .ref I ∧ Walks prog w A I fp wr n P St ∧ (∀ b ∈ fp, b ∈ own₀ ∨ ∃ o, h₀.get? b = some o) ∧ (∀ b ∈ wr, b ∈ own₀) ∧ (∀ b ∈ own₀, b ≠ env.locals ∧ h₀.get? b = none) ∧
    (∀ i h, St i h → ∀ b ∈ own₀, ∃ o, h.get? b = some o) ∧ (∀ p ∈ news, p.1 ∉ own₀) ∧ St 0 s₂.heap ∧ Fr h₀ env.locals s₂.heap m ∧ News h₀ env.locals s₂.heap news ∧ J 0 m news s₂.gens ∧
    (∀ i v m₁ news₁ s₁ own E', (∃ h tk gs, s₁ = { s₂ with heap := h, toks := tk, gens := gs }) → i < n → P i v → J i m₁ news₁ s₁.gens → (∀ p ∈ news₁, p.1 ∉ own₀) → own.map (·.1) = own₀ →
     Fr h₀ env.locals s₁.heap (fun y => if y = x then some v else m₁ y) → News h₀ env.locals s₁.heap (own ++ news₁) →
     wpAny (model prog w) A (execs body env) (TurnEnd h₀ env.locals own (J (i + 1)) s₁) E' s₁) ∧
    (∀ h' tk gs m' news', Fr h₀ env.locals h' m' → News h₀ env.locals h' news' → (∀ p ∈ news', p.1 ∉ own₀) → J n m' news' gs → Q .next { s₂ with heap := h', toks := tk, gens := gs })) E s₁) E s) (hs : ∀ x, foldedSetIterable iter env x = pure x := by intro _; rfl), wpAny (model prog w) A (exec (.For (.Name x px) iter body [] pos) env) Q E s
@[irreducible] def tB : Bag := bagOf theP
@[irreducible] def prog := tB.prog 3
@[irreducible] def w := tB.w 3
@[irreducible] def A := tB.A 3
@[irreducible] def s := tB.s 3
@[irreducible] def env := tB.env 3
@[irreducible] def h₀ := tB.heap 3
@[irreducible] def E := tB.qv 3
@[irreducible] def Q := tB.qf 3
@[irreducible] def x := tB.str 3
@[irreducible] def px := tB.pos 3
@[irreducible] def pos := tB.pos 4
@[irreducible] def iter := tB.expr 3
@[irreducible] def body := tB.stmts 3
theorem core (hh : A.handled = none) (hx : env.kindOf x = some .local) (hp : (env.scope.kind == .class || (env.scope.kind == .module && env.locals != env.globals)) = false) (h : wpAny (model prog w) A (eval iter env) (fun xv s₁ => wpAny (model prog w) A (pyIter xv) (fun it s₂ =>
   ∃ (I : Addr) (fp wr own₀ : List Addr) (n : Nat) (P : Nat → Value → Prop) (St : Nat → Heap → Prop) (m : Str → Option Value) (news : List (Addr × Obj))
    (J : Nat → (Str → Option Value) → List (Addr × Obj) → Array GenState → Prop),
    it = .ref I ∧ Walks prog w A I fp wr n P St ∧ (∀ b ∈ fp, b ∈ own₀ ∨ ∃ o, h₀.get? b = some o) ∧ (∀ b ∈ wr, b ∈ own₀) ∧ (∀ b ∈ own₀, b ≠ env.locals ∧ h₀.get? b = none) ∧
    (∀ i h, St i h → ∀ b ∈ own₀, ∃ o, h.get? b = some o) ∧ (∀ p ∈ news, p.1 ∉ own₀) ∧ St 0 s₂.heap ∧ Fr h₀ env.locals s₂.heap m ∧ News h₀ env.locals s₂.heap news ∧ J 0 m news s₂.gens ∧
    (∀ i v m₁ news₁ s₁ own E', (∃ h tk gs, s₁ = { s₂ with heap := h, toks := tk, gens := gs }) → i < n → P i v → J i m₁ news₁ s₁.gens → (∀ p ∈ news₁, p.1 ∉ own₀) → own.map (·.1) = own₀ →
     Fr h₀ env.locals s₁.heap (fun y => if y = x then some v else m₁ y) → News h₀ env.locals s₁.heap (own ++ news₁) →
     wpAny (model prog w) A (execs body env) (TurnEnd h₀ env.locals own (J (i + 1)) s₁) E' s₁) ∧
    (∀ h' tk gs m' news', Fr h₀ env.locals h' m' → News h₀ env.locals h' news' → (∀ p ∈ news', p.1 ∉ own₀) → J n m' news' gs → Q .next { s₂ with heap := h', toks := tk, gens := gs })) E s₁) E s) (hs : ∀ x, foldedSetIterable iter env x = pure x := by intro _; rfl) : wpAny (model prog w) A (exec (.For (.Name x px) iter body [] pos) env) Q E s := by
 refine wpAny_For (wpAny_mono h (fun xv s₁ h₁ => wpAny_mono h₁ (fun it s₂ h₂ => ?_) fun _ _ e => e) fun _ _ e => e) hs
 refine hdG ?_; intro Xh hXh
 refine ex6 h₂ ?_
 try clear h₂
 rintro I fp wr own₀ n P hZ
 refine ex4 hZ ?_
 clear hZ
 rintro St m news J hZ
 refine an8 hZ ?_
 clear hZ
 rintro rfl W hfp hwr hown hlive hoff hst hZ
 refine an4 hZ ?_
 clear hZ
 rintro F N h0 step hQ
 refine hXh ?_; clear hXh
 have hLf : ∀ b ∈ fp, b ≠ env.locals := fun b hb => by
  rcases hfp b hb with x | ⟨o, x⟩
  ·exact (hown b x).1
  ·exact fun q => absurd (Nat.lt_of_lt_of_le (Heap.lt_size x) F.above) (by rw [q]; exact Nat.lt_irrefl _)
 have old : ∀ b o, h₀.get? b = some o → b ∉ wr := fun b o e hb => by rw [(hown b (hwr b hb)).2] at e; cases e
 refine codeAny_forLoop
  (fun k s' => ∃ h' tk gs m' news' i, s' = { s₂ with heap := h', toks := tk, gens := gs } ∧ St i h' ∧ Fr h₀ env.locals h' m' ∧ News h₀ env.locals h' news' ∧ (∀ p ∈ news', p.1 ∉ own₀) ∧ J i m' news' gs ∧ i ≤ n ∧ k = n + 1 - i) ?_ (n + 1)
  (ix6 s₂.heap s₂.toks s₂.gens m news 0 (ia7 rfl hst F N hoff h0 (Nat.zero_le _) rfl))
 rintro k s' hJz
 refine hdG ?_; intro Xh hXh
 refine ex6 hJz ?_
 try clear hJz
 rintro H tk gs m' news' i hZ
 refine an7 hZ ?_
 clear hZ
 rintro rfl hst' F' N' hoff' hJ hi rfl
 refine hXh ?_; clear hXh
 have next : ∀ h₁ : Heap, (∀ b o, b ∉ wr → H.get? b = some o → h₁.get? b = some o) → Fr h₀ env.locals h₁ m' ∧ News h₀ env.locals h₁ news' := fun h₁ k₁ =>
  ⟨⟨F'.ns.at' fun o e => k₁ _ o (fun q => (hown _ (hwr _ q)).1 rfl) e, fun b o e => k₁ b o (old b o e) (F'.keep b o e), F'.above⟩, fun p hp => ⟨k₁ _ _ (fun q => hoff' p hp (hwr _ q)) (N' p hp).1, (N' p hp).2⟩⟩
 by_cases hlt : i < n
 ·refine W.item i _ _ _ hlt hst' fun v h₁ tk₁ hP hst₁ hk₁ => ?_
  obtain ⟨F₁, N₁⟩ := next h₁ hk₁
  refine wpAny_assign_Name (wpAny_storeName_local hx F₁.ns (fun h₅ hn₅ hs₅ => ?_) hp)
  replace hs₅ : Heap.SameBut env.locals h₁ h₅ := hs₅
  have F₅ := F₁.set hn₅ hs₅
  have N₅ : News h₀ env.locals h₅ news' := N₁.set hs₅
  have hst₅ : St (i + 1) h₅ := W.frame _ _ _ hst₁ fun b hb o e => hs₅.extBut b o (hLf b hb) e
  refine hdG ?_; intro Xh hXh
  obtain ⟨own, e₀, NO⟩ := own_exists (h₀ := h₀) (h := h₅) (L := env.locals) (l := own₀) fun b hb => ⟨hlive _ _ hst₅ b hb, hown b hb⟩
  refine hXh ?_; clear hXh
  refine wpAny_mono (step i v m' news' _ own _ (ix3 _ _ _ rfl) hlt hP hJ hoff' e₀ F₅ (fun p hp => (List.mem_append.mp hp).elim (NO p) (N₅ p))) (fun f s₃ h₆ => ?_) fun _ _ e => e
  refine hdG ?_; intro Xh hXh
  obtain ⟨hf, hZ⟩ := h₆
  refine ex5 hZ ?_
  clear hZ
  rintro h₆' tk₆ m₂ news₂ gs₂ hZ
  refine an4 hZ ?_
  clear hZ
  rintro rfl F₆ N₆ hoff₆ hJ₆
  refine hXh ?_; clear hXh
  have back : ∃ k, k < n + 1 - i ∧ ∃ h' tk gs m' news' j, ({ s₂ with heap := h₆', toks := tk₆, gens := gs₂ } : Shared) = { s₂ with heap := h', toks := tk, gens := gs } ∧ St j h' ∧ Fr h₀ env.locals h' m' ∧ News h₀ env.locals h' news' ∧ (∀ p ∈ news', p.1 ∉ own₀) ∧ J j m' news' gs ∧ j ≤ n ∧ k = n + 1 - j := by
   refine (⟨n + 1 - (i + 1), ⟨by grind, ix6 h₆' tk₆ gs₂ m₂ news₂ (i + 1) (ia7 rfl (W.frame _ _ _ hst₅ fun b hb o e => ?_) F₆ (fun p hp => N₆ p (List.mem_append_right _ hp)) (e₀ ▸ hoff₆) hJ₆ hlt rfl)⟩⟩)
   rcases hfp b hb with x | ⟨o₀, x⟩
   ·rw [← e₀] at x
    refine hdG ?_; intro Xh hXh
    obtain ⟨p, hp, rfl⟩ := List.mem_map.mp x
    refine hXh ?_; clear hXh
    have z := (NO p hp).1
    rw [e] at z
    rw [Option.some.inj z]
    exact (N₆ p (List.mem_append_left _ hp)).1
   ·have z := F₅.keep b o₀ x
    rw [e] at z
    rw [Option.some.inj z]
    exact F₆.keep b o₀ x
  rcases hf with rfl | rfl
  ·exact back
  ·exact back
 ·have hin : i = n := by grind
  subst hin
  refine W.done _ _ _ hst' fun h₁ tk₁ hk₁ => wpAny_execs_nil ?_
  obtain ⟨F₁, N₁⟩ := next h₁ hk₁
  exact hQ h₁ tk₁ _ m' news' F₁ N₁ hoff' hJ
end E_for_one
section
variable {prog : Program} {w : World} {A : Around} {s : Shared} {env : Env} {h₀ : Heap}
theorem for_one {E : Value → Shared → Prop} {Q : Flow → Shared → Prop} {x : Str} {px pos : Pos} {iter : Expr} {body : List Stmt} (hh : A.handled = none) (hx : env.kindOf x = some .local) (hp : (env.scope.kind == .class || (env.scope.kind == .module && env.locals != env.globals)) = false) (h : wpAny (model prog w) A (eval iter env) (fun xv s₁ => wpAny (model prog w) A (pyIter xv) (fun it s₂ =>
   ∃ (I : Addr) (fp wr own₀ : List Addr) (n : Nat) (P : Nat → Value → Prop) (St : Nat → Heap → Prop) (m : Str → Option Value) (news : List (Addr × Obj))
    (J : Nat → (Str → Option Value) → List (Addr × Obj) → Array GenState → Prop),
    it = .ref I ∧ Walks prog w A I fp wr n P St ∧ (∀ b ∈ fp, b ∈ own₀ ∨ ∃ o, h₀.get? b = some o) ∧ (∀ b ∈ wr, b ∈ own₀) ∧ (∀ b ∈ own₀, b ≠ env.locals ∧ h₀.get? b = none) ∧
    (∀ i h, St i h → ∀ b ∈ own₀, ∃ o, h.get? b = some o) ∧ (∀ p ∈ news, p.1 ∉ own₀) ∧ St 0 s₂.heap ∧ Fr h₀ env.locals s₂.heap m ∧ News h₀ env.locals s₂.heap news ∧ J 0 m news s₂.gens ∧
    (∀ i v m₁ news₁ s₁ own E', (∃ h tk gs, s₁ = { s₂ with heap := h, toks := tk, gens := gs }) → i < n → P i v → J i m₁ news₁ s₁.gens → (∀ p ∈ news₁, p.1 ∉ own₀) → own.map (·.1) = own₀ →
     Fr h₀ env.locals s₁.heap (fun y => if y = x then some v else m₁ y) → News h₀ env.locals s₁.heap (own ++ news₁) →
     wpAny (model prog w) A (execs body env) (TurnEnd h₀ env.locals own (J (i + 1)) s₁) E' s₁) ∧
    (∀ h' tk gs m' news', Fr h₀ env.locals h' m' → News h₀ env.locals h' news' → (∀ p ∈ news', p.1 ∉ own₀) → J n m' news' gs → Q .next { s₂ with heap := h', toks := tk, gens := gs })) E s₁) E s) (hs : ∀ x, foldedSetIterable iter env x = pure x := by intro _; rfl) : wpAny (model prog w) A (exec (.For (.Name x px) iter body [] pos) env) Q E s := bag_all (P := E_for_one.theP) (by with_unfolding_all exact @E_for_one.core) { bag0 with A := nth [A, A, A, A] bag0.A, env := nth [env, env, env, env] bag0.env, expr := nth [iter, iter, iter, iter] bag0.expr, heap := nth [h₀, h₀, h₀, h₀] bag0.heap, pos := nth [px, px, px, px, pos] bag0.pos, prog := nth [prog, prog, prog, prog] bag0.prog, qf := nth [Q, Q, Q, Q] bag0.qf, qv := nth [E, E, E, E] bag0.qv, s := nth [s, s, s, s] bag0.s, stmts := nth [body, body, body, body] bag0.stmts, str := nth [x, x, x, x] bag0.str, w := nth [w, w, w, w] bag0.w } hh hx hp h hs
end
end Mine
end
section
open PySem PySem.W PyProof.Rows PySem.Calls PySem.Spec
set_option Elab.async false
set_option maxRecDepth 100000
namespace Mine
section
variable {β γ : Type}
noncomputable def dLook (d : List (Int × β)) (k : Int) : Option β := (d.find? fun p => p.1 = k).map (·.2)
noncomputable def dPut (d : List (Int × β)) (k : Int) (v : β) : List (Int × β) := if d.any (fun p => p.1 = k) then d.map (fun p => if p.1 = k then (p.1, v) else p) else d ++ [(k, v)]
inductive Rep (V : Value → β → Prop) : List (Int × Value) → List (Int × β) → Prop
 | nil : Rep V [] []
 | cons {k : Int} {v : Value} {x : β} {r : List (Int × Value)} {s : List (Int × β)} : V v x → Rep V r s → Rep V ((k, v) :: r) ((k, x) :: s)
variable {V V' : Value → β → Prop} {kvs : List (Int × Value)} {d : List (Int × β)}
theorem Rep.mono (h : Rep V kvs d) (k : ∀ v x, V v x → V' v x) : Rep V' kvs d := by
 induction h with
 | nil => exact .nil
 | cons a _ ih => exact .cons (k _ _ a) ih
theorem Rep.length (h : Rep V kvs d) : kvs.length = d.length := by
 induction h with
 | nil => rfl
 | cons _ _ ih => simp [ih]
theorem Rep.keys (h : Rep V kvs d) : kvs.map (·.1) = d.map (·.1) := by
 induction h with
 | nil => rfl
 | cons _ _ ih => simp [ih]
theorem Rep.any (h : Rep V kvs d) (k : Int) : (kvs.any fun p => p.1 = k) = d.any fun p => p.1 = k := by
 induction h with
 | nil => rfl
 | cons _ _ ih => simp [ih]
theorem Rep.get (h : Rep V kvs d) {i : Nat} {k : Int} {v : Value} (e : kvs[i]? = some (k, v)) : ∃ x, d[i]? = some (k, x) ∧ V v x := by
 induction h generalizing i with
 | nil => simp at e
 | cons a _ ih =>
  cases i with
  | zero => simp at e; obtain ⟨rfl, rfl⟩ := e; exact ⟨_, rfl, a⟩
  | succ i => exact ih (by simpa using e)
theorem Rep.look (h : Rep V kvs d) (k : Int) : (valueAt kvs k = none ∧ dLook d k = none) ∨ ∃ v x, valueAt kvs k = some v ∧ dLook d k = some x ∧ V v x := by
 induction h with
 | nil => exact .inl ⟨rfl, rfl⟩
 | @cons j v x r s a _ ih =>
  by_cases e : j = k
  ·subst e; exact .inr (ix2 v x (ia2 (by simp [valueAt]) (by simp [dLook]) a))
  ·have e1 : valueAt ((j, v) :: r) k = valueAt r k := by simp [valueAt, e]
   have e2 : dLook ((j, x) :: s) k = dLook s k := by simp [dLook, e]
   rw [e1, e2]; exact ih
theorem Rep.append {kvs' : List (Int × Value)} {d' : List (Int × β)} (h : Rep V kvs d) (h' : Rep V kvs' d') : Rep V (kvs ++ kvs') (d ++ d') := by
 induction h with
 | nil => exact h'
 | cons a _ ih => exact .cons a ih
theorem Rep.put (h : Rep V kvs d) (k : Int) {v : Value} {x : β} (a : V v x) : Rep V (stored kvs k v) (dPut d k x) := by
 unfold stored dPut
 rw [h.any k]
 split
 ·rename_i q; clear q
  induction h with
  | nil => exact .nil
  | @cons j u y r s b _ ih =>
   simp only [List.map_cons]
   by_cases e : j = k
   ·simp only [e, if_true]; exact .cons a ih
   ·simp only [e, if_false]; exact .cons b ih
 ·exact h.append (.cons a .nil)
theorem dPut_length (d : List (Int × β)) (k : Int) (v : β) : (dPut d k v).length ≤ d.length + 1 := by
 unfold dPut; split
 ·simp
 ·simp
theorem dPut_keys (d : List (Int × β)) (k : Int) (v : β) : (dPut d k v).map (·.1) = if d.any (fun p => p.1 = k) then d.map (·.1) else d.map (·.1) ++ [k] := by
 unfold dPut
 split
 ·rw [List.map_map]; apply List.map_congr_left; intro p _; simp only [Function.comp]; split <;> rfl
 ·simp
theorem dPut_fresh {d : List (Int × β)} {k : Int} (h : k ∉ d.map (·.1)) (v : β) : dPut d k v = d ++ [(k, v)] := by
 unfold dPut
 rw [if_neg]
 simp only [List.any_eq_true, decide_eq_true_eq, not_exists, not_and]
 intro p hp e
 exact h (List.mem_map.mpr ⟨p, hp, e⟩)
noncomputable def dCopy (acc d : List (Int × β)) : List (Int × β) := d.foldl (fun acc p => dPut acc p.1 p.2) acc
theorem dCopy_nodup : ∀ (d acc : List (Int × β)), ((acc ++ d).map (·.1)).Nodup → dCopy acc d = acc ++ d
 | [], acc, _ => by simp [dCopy]
 | (k, v) :: r, acc, h => by
  have hk : k ∉ acc.map (·.1) := by
   intro q
   rw [List.map_append, List.nodup_append] at h
   exact h.2.2 k q k (by simp) rfl
  have := dCopy_nodup r (acc ++ [(k, v)]) (by simpa using h)
  show dCopy (dPut acc k v) r = _
  rw [dPut_fresh hk, this]; simp
noncomputable def dMeet (f : β → β → β) (acc : List (Int × β)) (p : Int × β) : List (Int × β) := dPut acc p.1 (match dLook acc p.1 with | some x => f p.2 x | none => p.2)
noncomputable def dMerge (f : β → β → β) (d e : List (Int × β)) : List (Int × β) := e.foldl (dMeet f) d
theorem foldl_take_succ {α σ : Type} (g : σ → α → σ) (z : σ) (l : List α) {i : Nat} {a : α} (h : l[i]? = some a) : (l.take (i + 1)).foldl g z = g ((l.take i).foldl g z) a := by
 rw [List.take_add_one, h]; simp
end
noncomputable abbrev tupO (vs : List Value) (n : Nat) : Obj := { cls := .type "tuple", data := .seq vs.toArray n }
noncomputable def TupV (l : List (Addr × Obj)) (v : Value) (q : List Int) : Prop := ∃ A vs n, v = .ref A ∧ (A, tupO vs n) ∈ l ∧ IntsAre vs q ∧ q.length = 4
theorem TupV.mono {l l' : List (Addr × Obj)} {v : Value} {q : List Int} (h : TupV l v q) (k : ∀ p ∈ l, p ∈ l') : TupV l' v q := let ⟨A, vs, n, e, m, i⟩ := h; (ix3 A vs n (ia2 e (k _ m) i))
noncomputable def IntV (v : Value) (i : Int) : Prop := ∃ t, v = .int i t
section
variable {prog : Program} {w : World} {A : Around} {s : Shared} {env : Env} {h₀ : Heap} {m : Str → Option Value} {news : List (Addr × Obj)}
theorem own_one {own : List (Addr × Obj)} {a : Addr} (h : own.map (·.1) = [a]) : ∃ oi, own = [(a, oi)] := by
 cases own with
 | nil => cases h
 | cons p r =>
  obtain ⟨b, oi⟩ := p
  rw [List.map_cons] at h
  have h1 := (List.cons.inj h).1
  have h2 := List.map_eq_nil_iff.mp (List.cons.inj h).2
  subst h2
  have h1 : b = a := h1
  subst h1
  exact ⟨oi, rfl⟩
theorem int_key {k : Int} {v : Value} (h : (intKind prog w).is k v = true) : ∃ t, v = .int k t := Value.isInt_shape h
theorem for_items {E : Value → Shared → Prop} {Q : Flow → Shared → Prop} {t xi xc : Str} {tp pk pv pt pos apos cpos : Pos} {x1 : Nat} {body : List Stmt} {d : Addr} {kvs : List (Int × Value)}
  (F : Fr h₀ env.locals s.heap m) (N : News h₀ env.locals s.heap news) (hm : m t = some (.ref d)) (hd : h₀.DictOf (intKind prog w) d kvs) (lo : (d == sysModules) = false)
  (J : Nat → (Str → Option Value) → List (Addr × Obj) → Array GenState → Prop) (h0 : J 0 m news s.gens)
  (step : ∀ i k v tk m₁ news₁ s₁ it oi E', (∃ h tk gs, s₁ = { s with heap := h, toks := tk, gens := gs }) → kvs[i]? = some (k, v) → J i m₁ news₁ s₁.gens → (∀ p ∈ news₁, @Ne Nat p.1 it) →
   Fr h₀ env.locals s₁.heap (fun y => if y = xc then some v else if y = xi then some (.int k tk) else m₁ y) → News h₀ env.locals s₁.heap ((it, oi) :: news₁) →
   wpAny (model prog w) A (execs body env) (TurnEnd h₀ env.locals [(it, oi)] (J (i + 1)) s₁) E' s₁)
  (done : ∀ h' tk gs m' news', Fr h₀ env.locals h' m' → News h₀ env.locals h' news' → J kvs.length m' news' gs → Q .next { s with heap := h', toks := tk, gens := gs })
  (hh : A.handled = none) (hxi : env.kindOf xi = some .local) (hxc : env.kindOf xc = some .local) (ht : env.kindOf t = some .local) (hkf : env.scope.kind = .function) (htd : (t == ("__debug__" : Str)) = false)
  (hp : (env.scope.kind == .class || (env.scope.kind == .module && env.locals != env.globals)) = false)
  (hbase : attributeBase (.Name t tp) "items" env (eval (.Name t tp) env) = eval (.Name t tp) env) (hline : (apos.endLine == cpos.line) = true)
  (hs : ∀ x, foldedSetIterable (.Call (.Attribute (.Name t tp) "items" apos) [] [] cpos) env x = pure x := by intro _; rfl) :
  wpAny (model prog w) A (exec (.For (.Tuple [.Name xi pk, .Name xc pv] x1 pt) (.Call (.Attribute (.Name t tp) "items" apos) [] [] cpos) body [] pos) env) Q E s := by
 have hds : s.heap.DictOf (intKind prog w) d kvs := hd.keep F.keep
 obtain ⟨ep, hat⟩ := hds.dictAt
 refine for_pairs (h₀ := h₀) hh hxi hxc hp (wpAny_Call_items lo hds hbase hline (fun Q' q => wpAny_Name (wpAny_loadName_local hkf ht F.ns hm q) htd) ?_) hs
 refine wpAny_pyIter_items (knd := intKind prog w) (d := d) (kvs := kvs) (ep := ep) (⟨_, ia2 (Heap.get?_push_size _ rfl) rfl rfl⟩) (hat.push _) ?_
 have F2 := (F.push { cls := .type "dict_items", data := .fields #[.ref d] }).push { cls := .type "dict_itemiterator", data := .fields #[.none, .bool false, .ref d, .int 0 0, .int kvs.length 0, .int ep 0, .none, .none] }
 generalize hH1 : s.heap.push { cls := .type "dict_items", data := .fields #[.ref d] } = H1 at F2 ⊢
 have hz : H1.objs.size = s.heap.objs.size + 1 := by rw [← hH1, Heap.size_push]
 have lt : d < s.heap.objs.size := hat.lt_size
 have hne : d ≠ H1.objs.size := by rw [hz]; exact Nat.ne_of_lt (Nat.lt_succ_of_lt lt)
 refine ex3 F.ns ?_
 rintro oL _ _ hZ
 obtain ⟨hL, _⟩ := hZ
 have up : ∀ b o, s.heap.get? b = some o → (H1.push { cls := .type "dict_itemiterator", data := .fields #[.none, .bool false, .ref d, .int 0 0, .int kvs.length 0, .int ep 0, .none, .none] }).get? b = some o := fun b o e => Heap.get?_push_of_some _ (by rw [← hH1]; exact Heap.get?_push_of_some _ e)
 have fresh : ∀ b o, s.heap.get? b = some o → b ≠ H1.objs.size := fun b o e => by rw [hz]; exact Nat.ne_of_lt (Nat.lt_succ_of_lt (Heap.lt_size e))
 refine (ix6 H1.objs.size [H1.objs.size, d] [H1.objs.size] [H1.objs.size] kvs.length _ (ix6 _ _ (fun i v0 v1 => ∃ k t, kvs[i]? = some (k, v1) ∧ v0 = .int k t) m news J (ia8 rfl (itemsWalks hh H1.objs.size d hne kvs ep) ?_ ?_ (fun b hb => hb) ?_ ?_ ?_ (ia5 ⟨(ix2 _ _ (Heap.get?_push_size _ rfl)), hat.at fun o e => up d o e⟩ F2 (fun p hp => ⟨up _ _ (N p hp).1, (N p hp).2⟩) h0 ?_ ?_))))
 ·rintro i vals ⟨k, v, key, e, hk, rfl⟩
  obtain ⟨t, rfl⟩ := int_key hk
  exact (ix2 _ _ ⟨rfl, ix2 k t ⟨e, rfl⟩⟩)
 ·intro b hb
  rcases List.mem_cons.mp hb with rfl | hb
  ·exact .inl (by simp)
  ·rw [List.mem_singleton.mp hb]
   refine ex3 hd ?_
   try clear hd
   rintro o _ _ hZ
   obtain ⟨e, _⟩ := hZ
   exact .inr ⟨o, e⟩
 ·intro b hb
  rw [List.mem_singleton.mp hb]
  refine ⟨fun e => fresh _ _ hL e.symm, ?_⟩
  cases e : h₀.get? H1.objs.size with
  | none => rfl
  | some o => exact absurd rfl (fresh _ _ (F.keep _ _ e))
 ·intro i h st b hb
  rw [List.mem_singleton.mp hb]
  obtain ⟨⟨_, _, x⟩, _⟩ := st
  exact ⟨_, x⟩
 ·intro p hp hb
  exact fresh _ _ (N p hp).1 (List.mem_singleton.mp hb)
 ·rintro i v0 v1 m₁ news₁ s₁ own E' ⟨h, tk, gs, rfl⟩ hi ⟨k, t, e, rfl⟩ hJ hoff ho F₁ N₁
  have one : ∃ oi, own = [(H1.objs.size, oi)] := own_one ho
  obtain ⟨oi, rfl⟩ := one
  exact step i k v1 t m₁ news₁ { s with heap := h, toks := tk, gens := gs } H1.objs.size oi E' (ix3 h tk gs rfl) e hJ (fun p hp q => hoff p hp (by simp only [List.mem_singleton]; exact q)) F₁ N₁
 ·intro h' tk gs m' news' F' N' _ hJ
  exact done h' tk gs m' news' F' N' hJ
end
end Mine
end
section
open PySem PySem.W PyProof.Rows PySem.Calls PySem.Spec
set_option Elab.async false
set_option maxRecDepth 100000
namespace Mine
noncomputable def StopHere (P : Prop) : Prop := P
theorem stopAt {P : Prop} (h : StopHere P) : P := h
noncomputable def FunM (k : Nat) (w : World) (mg mb : Str → Option Value) (f : Addr) (vs : List Value) (led : List (Addr × Obj)) (P : Value → List (Addr × Obj) → Prop) : Prop :=
 ∀ (dp un : Nat) (gd : Option (List Code)) (cn : Str) (cs : Scope) (a : Addr) (ccd : Value) (cl : List (Str × Addr)) (outer : List Env) (A₀ : Around) (base h₀ : Heap) (L : Addr) (m : Str → Option Value) (s : Shared) (ps : Array Value) (Q E : Value → Shared → Prop),
  Below A₀ base outer h₀ → Fr h₀ L s.heap m → (Mine.hdX.heap_1 w.params).In h₀ → News h₀ L s.heap ((283, parts ps) :: led) → TopRead qv (looseW qv loose) mg mb h₀ → Bm h₀ → TriplesOk ps.toList → AllBare s.gens → cs.kind = .function →
  dp + k < recursionLimit → un + 16 * k < cLine →
  (∀ (r : Value) (tl : List (Addr × Obj)) (ps' : Array Value) (h' : Heap) (tk' : Nat) (gs' : Array GenState), (∀ b o, b ≠ 283 → s.heap.get? b = some o → h'.get? b = some o) → (∀ p ∈ tl, h'.get? p.1 = some p.2 ∧ s.heap.get? p.1 = none) → h'.get? 283 = some (parts ps') → TriplesOk ps'.toList → AllBare gs' → P r tl →
   Q r { s with heap := h', toks := tk', gens := gs' }) →
   wpAny (model PySem.Challenge.rw_wv0062_01.row.prog w) (ktrTop dp un gd cn cs L a ccd cl outer) (call (.ref f) vs) Q E s
noncomputable def FunMb (c : Bag) (k : Nat) (w : World) (mg mb : Str → Option Value) (f : Addr) (vs : List Value) (led : List (Addr × Obj)) (P : Value → List (Addr × Obj) → Prop) : Prop :=
  Below (c.A 0) (c.heap 0) (c.outer 0) (c.heap 1) → Fr (c.heap 1) (c.addr 1) (c.s 0).heap (c.fr 0) → (Mine.hdX.heap_1 w.params).In (c.heap 1) → News (c.heap 1) (c.addr 1) (c.s 0).heap ((283, parts (c.arr 0)) :: led) → TopRead qv (looseW qv loose) mg mb (c.heap 1) → Bm (c.heap 1) → TriplesOk (c.arr 0).toList → AllBare (c.s 0).gens → (c.scope 0).kind = .function →
  (c.nat 0) + k < recursionLimit → (c.nat 1) + 16 * k < cLine →
  (∀ (r : Value) (tl : List (Addr × Obj)) (ps' : Array Value) (h' : Heap) (tk' : Nat) (gs' : Array GenState), (∀ b o, b ≠ 283 → (c.s 0).heap.get? b = some o → h'.get? b = some o) → (∀ p ∈ tl, h'.get? p.1 = some p.2 ∧ (c.s 0).heap.get? p.1 = none) → h'.get? 283 = some (parts ps') → TriplesOk ps'.toList → AllBare gs' → P r tl →
   (c.qv 0) r { (c.s 0) with heap := h', toks := tk', gens := gs' }) →
   wpAny (model PySem.Challenge.rw_wv0062_01.row.prog w) (ktrTop (c.nat 0) (c.nat 1) (c.gd 0) (c.str 0) (c.scope 0) (c.addr 1) (c.addr 0) (c.val 0) (c.cl 0) (c.outer 0)) (call (.ref f) vs) (c.qv 0) (c.qv 1) (c.s 0)
theorem funM_use0 {k : Nat} {w : World} {mg mb : Str → Option Value} {f : Addr} {vs : List Value} {led : List (Addr × Obj)} {P : Value → List (Addr × Obj) → Prop} (C : FunM k w mg mb f vs led P) {news : List (Addr × Obj)} {dp un : Nat} {gd : Option (List Code)} {cn : Str} {cs : Scope} {a : Addr} {ccd : Value} {cl : List (Str × Addr)} {outer : List Env} {A₀ : Around} {base h₀ : Heap} {L : Addr} {m : Str → Option Value} {s : Shared} {ps : Array Value} {g : Obj → List (Addr × Obj)} {Q E : Value → Shared → Prop}
  (B : Below A₀ base outer h₀) (F : Fr h₀ L s.heap m) (X : (Mine.hdX.heap_1 w.params).In h₀) (N : News h₀ L s.heap news) (T : TopRead qv (looseW qv loose) mg mb h₀) (M : Bm h₀) (U : UpdF 283 (parts ps) news g) (ht : TriplesOk ps.toList) (G : AllBare s.gens) (hk : cs.kind = .function) (hd : dp + k < recursionLimit) (hu : un + 16 * k < cLine) (hl : ∀ p ∈ led, p ∈ news)
  (ret : ∀ (r : Value) (tl : List (Addr × Obj)) (ps' : Array Value) (h' : Heap) (tk' : Nat) (gs' : Array GenState), Fr h₀ L h' m → News h₀ L h' (tl ++ g (parts ps')) → TriplesOk ps'.toList → AllBare gs' → (∀ p ∈ tl, ∀ q ∈ news, @Ne Nat q.1 p.1) → P r tl → Q r { s with heap := h', toks := tk', gens := gs' }) :
  wpAny (model PySem.Challenge.rw_wv0062_01.row.prog w) (ktrTop dp un gd cn cs L a ccd cl outer) (call (.ref f) vs) Q E s := by
 refine hdG ?_; intro Xh hXh
 refine ex2 U.split ?_
 rintro pre post hZ
 refine an3 hZ ?_
 clear hZ
 rintro rfl hg ua ub
 refine hXh ?_; clear hXh
 have hP := N (283, parts ps) (List.mem_append_right _ (.head _))
 refine C _ _ _ _ _ _ _ _ _ _ _ _ _ _ _ ps _ _ B F X (fun p hp => ?_) T M ht G hk hd hu fun r tl ps' h' tk' gs' keep fr h283 tr G' hP' => ?_
 ·rcases List.mem_cons.mp hp with rfl | hp
  ·exact hP
  ·exact N p (hl p hp)
 refine hdG ?_; intro Xh hXh
 refine ex3 F.ns ?_
 rintro oL e1 e2 hZ
 obtain ⟨hL, e3⟩ := hZ
 refine hXh ?_; clear hXh
 have n0 : h₀.get? 283 = none := hP.2.2
 have kb : ∀ b o, h₀.get? b = some o → h'.get? b = some o := fun b o e => keep b o (fun q => by rw [q, n0] at e; cases e) (F.keep b o e)
 have F' : Fr h₀ L h' m := ⟨(ix3 oL e1 e2 ⟨keep L oL (Ne.symm hP.2.1) hL, e3⟩), kb, F.above⟩
 refine ret r tl ps' h' tk' gs' F' (fun p hp => ?_) tr G' (fun p hp q hq e => ?_) hP'
 ·rcases List.mem_append.mp hp with hp | hp
  ·have z := fr p hp
   refine (ia2 z.1 (fun e => ?_) ?_)
   ·rw [e, hL] at z; cases z.2
   ·cases e : h₀.get? p.1 with
    | none => rfl
    | some o => rw [F.keep _ _ e] at z; cases z.2
  ·rw [hg] at hp
   rcases List.mem_append.mp hp with hp | hp
   ·have z := N p (List.mem_append_left _ hp)
    exact ⟨keep _ _ (ua p hp) z.1, z.2⟩
   ·rcases List.mem_cons.mp hp with rfl | hp
    ·exact ⟨h283, hP.2⟩
    ·have z := N p (List.mem_append_right _ (.tail _ hp))
     exact ⟨keep _ _ (ub p hp) z.1, z.2⟩
 ·have z := (fr p hp).2
  have e' : q.1 = p.1 := e
  rw [← e', (N q hq).1] at z
  cases z
theorem funM_use {k : Nat} {w : World} {mg mb : Str → Option Value} {f : Addr} {vs : List Value} {led : List (Addr × Obj)} {P : Value → List (Addr × Obj) → Prop} (C : FunM k w mg mb f vs led P) {news : List (Addr × Obj)} {dp un : Nat} {gd : Option (List Code)} {cn : Str} {cs : Scope} {a : Addr} {ccd : Value} {cl : List (Str × Addr)} {outer : List Env} {A₀ : Around} {base h₀ : Heap} {L : Addr} {m : Str → Option Value} {hs : Heap} {gs : Array GenState} {dr : Drawn} {tk : Nat} {os : OsState} {ps : Array Value} {g : Obj → List (Addr × Obj)} {Q E : Value → Shared → Prop}
  (B : Below A₀ base outer h₀) (F : Fr h₀ L hs m) (X : (Mine.hdX.heap_1 w.params).In h₀) (N : News h₀ L hs news) (T : TopRead qv (looseW qv loose) mg mb h₀) (M : Bm h₀) (U : UpdF 283 (parts ps) news g) (ht : TriplesOk ps.toList) (G : AllBare gs) (hk : cs.kind = .function) (hd : dp + k < recursionLimit) (hu : un + 16 * k < cLine) (hl : ∀ p ∈ led, p ∈ news)
  (ret : ∀ (r : Value) (tl : List (Addr × Obj)) (ps' : Array Value) (h' : Heap) (tk' : Nat) (gs' : Array GenState), Fr h₀ L h' m → News h₀ L h' (tl ++ g (parts ps')) → TriplesOk ps'.toList → AllBare gs' → (∀ p ∈ tl, ∀ q ∈ news, @Ne Nat q.1 p.1) → P r tl → Q r ⟨h', gs', dr, tk', os⟩) :
  wpAny (model PySem.Challenge.rw_wv0062_01.row.prog w) (ktrTop dp un gd cn cs L a ccd cl outer) (call (.ref f) vs) Q E ⟨hs, gs, dr, tk, os⟩ :=
 funM_use0 (s := ⟨hs, gs, dr, tk, os⟩) C B F X N T M U ht G hk hd hu hl ret
theorem funM_ret {P : Value → List (Addr × Obj) → Prop} {s : Shared} {Q : Value → Shared → Prop} {r : Value} {h' g : Heap} {L' : Addr} {m' : Str → Option Value} {tk' : Nat} {gs' : Array GenState} {ps' : Array Value} {all : List (Addr × Obj)}
  (hret : ∀ (r : Value) (tl : List (Addr × Obj)) (ps' : Array Value) (h' : Heap) (tk' : Nat) (gs' : Array GenState), (∀ b o, b ≠ 283 → s.heap.get? b = some o → h'.get? b = some o) → (∀ p ∈ tl, h'.get? p.1 = some p.2 ∧ s.heap.get? p.1 = none) → h'.get? 283 = some (parts ps') → TriplesOk ps'.toList → AllBare gs' → P r tl →
   Q r { s with heap := h', toks := tk', gens := gs' })
  (GS : GSub s.heap g [283]) (F' : Fr g L' h' m') (N' : News g L' h' all) (hps : (283, parts ps') ∈ all) (ht : TriplesOk ps'.toList) (G : AllBare gs')
  (hP : ∀ tl, (∀ p ∈ all, p.1 ≠ 283 → p ∈ tl) → P r tl) : Q r { s with heap := h', toks := tk', gens := gs' } := by
 refine hret r (all.filter fun p => decide (p.1 ≠ 283)) ps' h' tk' gs' (fun b o nb e => F'.keep b o (GS b o e (by simpa using nb))) (fun p hp => ?_) (N' _ hps).1 ht G (hP _ fun p hp h1 => List.mem_filter.mpr ⟨hp, decide_eq_true h1⟩)
 obtain ⟨h1, h2⟩ := List.mem_filter.mp hp
 have h2 := of_decide_eq_true h2
 refine ⟨(N' p h1).1, ?_⟩
 cases e : s.heap.get? p.1 with
 | none => rfl
 | some o => have := (N' p h1).2.2; rw [GS _ o e (by simpa using h2)] at this; cases this
end Mine
end
section
open PySem PySem.W PyProof.Rows PySem.Calls PySem.Spec
set_option Elab.async false
set_option maxRecDepth 100000
namespace Mine
section
variable {prog : Program} {w : World} {A : Around} {E : Value → Shared → Prop} {s : Shared} {h₀ : Heap} {L : Addr} {m : Str → Option Value} {news : List (Addr × Obj)}
theorem Fr_pin {h : Heap} {x : Str} {v : Value} (F : Fr h₀ L h m) (e : m x = some v) : Fr h₀ L h (fun y => if y = x then some v else m y) := by
 have : m = fun y => if y = x then some v else m y := by
  funext y
  by_cases h : y = x
  ·subst h; simp [e]
  ·simp [h]
 rw [← this]; exact F
theorem elt_add {cenv : Env} {xa xb : Str} {pa pb p : Pos} {a b : Int} {t1 t2 : Tok} {t : Shared} {m₂ : Str → Option Value} (hk : cenv.scope.kind = .function) (ka : cenv.kindOf xa = some .local) (kb : cenv.kindOf xb = some .local) (da : (xa == ("__debug__" : Str)) = false) (db : (xb == ("__debug__" : Str)) = false)
  (hn : t.heap.Ns cenv.locals m₂) (ha : m₂ xa = some (.int a t1)) (hb : m₂ xb = some (.int b t2)) : wpAny (model prog w) A (eval (.BinOp (.Name xa pa) .Add (.Name xb pb) p) cenv) (fun y s₃ => IntV y (a + b) ∧ Keeps t s₃) E t :=
 wpAny_BinOp (wpAny_Name (wpAny_loadName_local hk ka hn ha (wpAny_Name (wpAny_loadName_local hk kb hn hb (PyProof.Rows.add_int (⟨⟨_, rfl⟩, ix2 t.heap _ ⟨rfl, fun _ _ e => e⟩⟩))) db)) da)
theorem ints_get {vs : List Value} {ns : List Int} (h : IntsAre vs ns) {i : Nat} {v : Value} (e : vs.toArray[i]? = some v) : ∃ n t, ns[i]? = some n ∧ v = .int n t := by
 have e' : vs[i]? = some v := by simpa using e
 have hl : i < ns.length := by
  have := (List.getElem?_eq_some_iff.mp e').1
  rw [← h.length]; exact this
 obtain ⟨t, x⟩ := h.get i ns[i] (by simp [hl])
 rw [e'] at x
 exact (ix2 (ns[i]) t ⟨by simp [hl], Option.some.inj x⟩)
theorem gen_zip {env : Env} {elt : Expr} {xa xb : Str} {scope : Scope} {cl : List (Str × Addr)} {pos : Pos} {c P l1 l2 : Addr} {vs1 vs2 : List Value} {q1 q2 : List Int} {ps : Array Value} {g : Obj → List (Addr × Obj)} {Q : Value → Shared → Prop}
  (F : Fr h₀ L s.heap m) (N : News h₀ L s.heap news) (x1 : s.heap.IsTuple l1 vs1.toArray) (x2 : s.heap.IsTuple l2 vs2.toArray) (i1 : IntsAre vs1 q1) (i2 : IntsAre vs2 q2) (hl : q1.length = q2.length) (hlim : h₀.NoLimit) (hbm : Bm h₀) (hc : CodeAt h₀ c P) (U : UpdF P (parts ps) news g) (htr : TriplesOk ps.toList) (G : AllBare s.gens)
  (helt : ∀ (A' : Around) (E' : Value → Shared → Prop) (C : Addr) (code : Value) a b t1 t2 (t : Shared) m₂, t.heap.Ns C m₂ → m₂ xa = some (.int a t1) → m₂ xb = some (.int b t2) → wpAny (model prog w) A' (eval elt (genEnv scope cl C code builtinsNs env)) (fun y s₃ => IntV y (a + b) ∧ Keeps t s₃) E' t)
  (hQ : ∀ a h₅ tk gs ps', Fr h₀ L h₅ m → News h₀ L h₅ (g (parts ps')) → TriplesOk ps'.toList → AllBare gs → GnAt prog w A h₀ L (g (parts ps')) a (List.zipWith (· + ·) q1 q2).length (fun i y => ∃ n, (List.zipWith (· + ·) q1 q2)[i]? = some n ∧ IntV y n) { s with heap := h₅, toks := tk, gens := gs } →
   Q (.ref a) { s with heap := h₅, toks := tk, gens := gs }) :
  wpAny (model prog w) A (call (.type "zip") [.ref l1, .ref l2]) (GenT prog w A h₀ L m elt xa xb scope cl env pos c P Q) E s := by
 have hP : s.heap.get? P = some (parts ps) ∧ P ≠ L ∧ h₀.get? P = none := by
  refine ex2 U.split ?_
  rintro pre post hZ
  refine an3 hZ ?_
  clear hZ
  rintro rfl _ _ _
  exact N (P, parts ps) (List.mem_append_right _ (.head _))
 refine call_zip (b1 := false) (b2 := false) x1 x2 fun h' z TI TO j1 j2 Z n1 n2 za s1 s2 y1 y2 above keep => ?_
 have fresh : ∀ {C : Addr}, s.heap.objs.size ≤ C → C ≠ L ∧ h₀.get? C = none ∧ ∀ p ∈ news, p.1 ≠ C := fun {C} hC => by
  refine ex3 F.ns ?_
  rintro oL _ _ hZ
  obtain ⟨hL, _⟩ := hZ
  refine (ia2 (fun q => ?_) ?_ (fun p hp q => ?_))
  ·exact absurd (Heap.lt_size hL) (by rw [← q]; exact Nat.not_lt.mpr hC)
  ·cases e' : h₀.get? C with
   | none => rfl
   | some o => exact absurd (Heap.lt_size (F.keep _ _ e')) (Nat.not_lt.mpr hC)
  ·exact absurd (Heap.lt_size (N p hp).1) (by rw [q]; exact Nat.not_lt.mpr hC)
 have lz : (List.zipWith (· + ·) q1 q2).length = q1.length := by rw [List.length_zipWith, hl, Nat.min_self]
 have hmin : min vs1.toArray.size vs2.toArray.size = (List.zipWith (· + ·) q1 q2).length := by rw [lz, List.size_toArray, List.size_toArray, i1.length, i2.length, hl, Nat.min_self]
 have low : ∀ b ∈ [j1, l1] ++ [j2, l2], b < h'.objs.size ∧ P ≠ b := by
  intro b hb
  have cls : ∀ o, h'.get? b = some o → o.cls ≠ .none → b < h'.objs.size ∧ P ≠ b := fun o e hc => ⟨Heap.lt_size e, fun q => by rw [← q, keep _ _ hP.1] at e; cases e; exact hc rfl⟩
  simp only [List.cons_append, List.nil_append, List.mem_cons, List.not_mem_nil, or_false] at hb
  rcases hb with rfl | rfl | rfl | rfl
  ·obtain ⟨o, hZ⟩ := s1
   refine an2 hZ ?_
   clear hZ
   rintro e c _; exact cls o e (by rw [c]; intro q; cases q)
  ·obtain ⟨o, hZ⟩ := y1
   refine an2 hZ ?_
   clear hZ
   rintro e c _; exact cls o e (by rw [c]; intro q; cases q)
  ·obtain ⟨o, hZ⟩ := s2
   refine an2 hZ ?_
   clear hZ
   rintro e c _; exact cls o e (by rw [c]; intro q; cases q)
  ·obtain ⟨o, hZ⟩ := y2
   refine an2 hZ ?_
   clear hZ
   rintro e c _; exact cls o e (by rw [c]; intro q; cases q)
 have lowz : ∀ b ∈ [z, TI, TO], b < h'.objs.size ∧ P ≠ b := by
  intro b hb
  have cls : ∀ o, h'.get? b = some o → o.cls ≠ .none → b < h'.objs.size ∧ P ≠ b := fun o e hc => ⟨Heap.lt_size e, fun q => by rw [← q, keep _ _ hP.1] at e; cases e; exact hc rfl⟩
  obtain ⟨a, b', u, v, c⟩ := za
  simp only [List.mem_cons, List.not_mem_nil, or_false] at hb
  rcases hb with rfl | rfl | rfl
  ·exact cls _ a (by intro q; cases q)
  ·exact cls _ b' (by intro q; cases q)
  ·exact cls _ c (by intro q; cases q)
 have all : ∀ b ∈ z :: TI :: TO :: ([j1, l1] ++ [j2, l2]), b < h'.objs.size ∧ P ≠ b := fun b hb => by
  rcases List.mem_cons.mp hb with rfl | hb
  ·exact lowz _ (by simp)
  ·rcases List.mem_cons.mp hb with rfl | hb
   ·exact lowz _ (by simp)
   ·rcases List.mem_cons.mp hb with rfl | hb
    ·exact lowz _ (by simp)
    ·exact low b hb
 refine (ix6 z (z :: TI :: TO :: ([j1, l1] ++ [j2, l2])) [z, TO, j1, j2] _ _ _ (ix5 _ (fun i y => ∃ n, (List.zipWith (· + ·) q1 q2)[i]? = some n ∧ IntV y n) ps news g (ia8 rfl (fun A' hA => hmin ▸ zipWalks (A := A') Z (sqDraws (A := A'.in1) hA false j1 l1 n1 vs1.toArray) (sqDraws (A := A'.in1) hA false j2 l2 n2 vs2.toArray)) ?_ (ia2 za ⟨s1, y1⟩ ⟨s2, y2⟩) (fun b hb => (all b hb).1) (fun hb => (all P hb).2 rfl) (F.keeps keep) (fun p hp => ⟨keep _ _ (N p hp).1, (N p hp).2⟩) (ia8 ?_ hlim hbm hc U htr G ?_ ?_))))
 ·rintro i vals ⟨x, y, _, _, e⟩; exact (ix2 x y e)
 ·intro b hb
  refine fresh (above b ?_)
  simp only [List.mem_cons, List.not_mem_nil, or_false] at hb ⊢
  rcases hb with h | h | h | h <;> simp [h]
 ·rintro A' E' C code i va vb t m₂ hA ⟨x, y, e1, e2, e⟩ hn ha hb
  have e := congrArg Array.toList e
  simp only [List.cons.injEq, and_true] at e
  obtain ⟨rfl, rfl⟩ := e
  refine ex2 (ints_get i1 e1) ?_
  rintro a t1 hZ
  obtain ⟨g1, rfl⟩ := hZ
  refine ex2 (ints_get i2 e2) ?_
  rintro b t2 hZ
  obtain ⟨g2, rfl⟩ := hZ
  refine wpAny_mono (helt A' E' C code a b t1 t2 t m₂ hn ha hb) (fun y s₃ h => ⟨⟨a + b, ?_, h.1⟩, h.2⟩) fun _ _ e => e
  rw [List.getElem?_zipWith, g1, g2]
 ·exact fun a h₅ tk gs ps' F5 N5 tr _ G5 X5 _ => hQ a h₅ tk gs ps' F5 N5 tr G5 X5
theorem tuple_ints {a : Addr} {zs : List Int} {Q : Value → Shared → Prop} (X : GnAt prog w A h₀ L news a zs.length (fun i y => ∃ n, zs[i]? = some n ∧ IntV y n) s) (F : Fr h₀ L s.heap m) (N : News h₀ L s.heap news) (G : AllBare s.gens) (hn : zs.length ≤ sizeLine)
  (k : ∀ D h' tk gs vs, Fr h₀ L h' m → News h₀ L h' ((D, tupO vs 0) :: news) → (∀ p ∈ news, p.1 < D) → AllBare gs → IntsAre vs zs → Q (.ref D) { s with heap := h', toks := tk, gens := gs }) :
  wpAny (model prog w) A (call (.type "tuple") [.ref a]) Q E s := by
 refine tuple_of_gen X F N G hn fun D h' tk gs ys F' N' lt G' hl hR => ?_
 refine k D h' tk gs ys.toList F' (by simpa using N') lt G' (kdy_ints (by simpa using hl) fun j v e => ?_)
 obtain ⟨n, e1, t, e2⟩ := hR j v (by simpa using e)
 exact ⟨n, e1, t, e2⟩
theorem in_dict {d : Addr} {o : Obj} {kvs : List (Int × Value)} {k : Int} {t : Tok} {Q : Value → Shared → Prop} (N : News h₀ L s.heap news) (hp : (d, o) ∈ news) (hd : o.IsDictOf (intKind prog w) kvs) (lo : (d == sysModules) = false)
  (h1 : valueAt kvs k = none → Q (.bool false) { s with toks := s.toks + 1 }) (h2 : ∀ v, valueAt kvs k = some v → Q (.bool true) { s with toks := s.toks + 1 }) : wpAny (model prog w) A (compareOp .In (.int k t) (.ref d)) Q E s := by
 cases e : valueAt kvs k with
 | none => exact kda_in N hp hd lo (intKind_is _ _ _ _) false (by rw [e]; rfl) (h1 e)
 | some v => exact kda_in N hp hd lo (intKind_is _ _ _ _) true (by rw [e]; rfl) (h2 v e)
theorem TupV.heap {l : List (Addr × Obj)} {v : Value} {q : List Int} (h : TupV l v q) {hp : Heap} (k : ∀ p ∈ l, hp.get? p.1 = some p.2) : ∃ A vs, v = .ref A ∧ hp.IsTuple A vs.toArray ∧ IntsAre vs q ∧ q.length = 4 :=
 let ⟨A, vs, n, e, mm, i, j⟩ := h; (ix2 A vs (ia3 e (⟨_, ia2 (k _ mm) rfl ⟨n, rfl⟩⟩) i j))
theorem in_dictR {β : Type} {V : Value → β → Prop} {d : Addr} {o : Obj} {kvs : List (Int × Value)} {dd : List (Int × β)} {k : Int} {t : Tok} {Q : Value → Shared → Prop} (N : News h₀ L s.heap news) (hp : (d, o) ∈ news) (hd : o.IsDictOf (intKind prog w) kvs) (lo : (d == sysModules) = false) (hr : Rep V kvs dd)
  (h1 : dLook dd k = none → Q (.bool false) { s with toks := s.toks + 1 }) (h2 : ∀ v x, valueAt kvs k = some v → dLook dd k = some x → V v x → Q (.bool true) { s with toks := s.toks + 1 }) : wpAny (model prog w) A (compareOp .In (.int k t) (.ref d)) Q E s := by
 rcases hr.look k with ⟨_, e⟩ | ⟨v, x, e1, e2, hv⟩
 ·exact in_dict N hp hd lo (fun _ => h1 e) fun v' e' => by rename_i a; rw [a] at e'; cases e'
 ·exact in_dict N hp hd lo (fun q => by rw [e1] at q; cases q) fun v' e' => h2 v x e1 e2 hv
end
end Mine
end
section
open PySem PySem.W PyProof.Rows PySem.Calls PySem.Spec
set_option Elab.async false
set_option maxRecDepth 100000
namespace Mine
section
variable {prog : Program} {w : World} {A : Around} {s : Shared} {env : Env} {h₀ : Heap} {m : Str → Option Value} {news : List (Addr × Obj)}
noncomputable def LoopOne (prog : Program) (w : World) (A : Around) (h₀ : Heap) (env : Env) (x : Str) (body : List Stmt) (Q : Flow → Shared → Prop) (it : Value) (s₂ : Shared) : Prop :=
 ∃ (I : Addr) (fp wr own₀ : List Addr) (n : Nat) (P : Nat → Value → Prop) (St : Nat → Heap → Prop) (m : Str → Option Value) (news : List (Addr × Obj))
    (J : Nat → (Str → Option Value) → List (Addr × Obj) → Array GenState → Prop),
    it = .ref I ∧ Walks prog w A I fp wr n P St ∧ (∀ b ∈ fp, b ∈ own₀ ∨ ∃ o, h₀.get? b = some o) ∧ (∀ b ∈ wr, b ∈ own₀) ∧ (∀ b ∈ own₀, b ≠ env.locals ∧ h₀.get? b = none) ∧
    (∀ i h, St i h → ∀ b ∈ own₀, ∃ o, h.get? b = some o) ∧ (∀ p ∈ news, p.1 ∉ own₀) ∧ St 0 s₂.heap ∧ Fr h₀ env.locals s₂.heap m ∧ News h₀ env.locals s₂.heap news ∧ J 0 m news s₂.gens ∧
    (∀ i v m₁ news₁ s₁ own E', (∃ h tk gs, s₁ = { s₂ with heap := h, toks := tk, gens := gs }) → i < n → P i v → J i m₁ news₁ s₁.gens → (∀ p ∈ news₁, p.1 ∉ own₀) → own.map (·.1) = own₀ →
     Fr h₀ env.locals s₁.heap (fun y => if y = x then some v else m₁ y) → News h₀ env.locals s₁.heap (own ++ news₁) →
     wpAny (model prog w) A (execs body env) (TurnEnd h₀ env.locals own (J (i + 1)) s₁) E' s₁) ∧
    (∀ h' tk gs m' news', Fr h₀ env.locals h' m' → News h₀ env.locals h' news' → (∀ p ∈ news', p.1 ∉ own₀) → J n m' news' gs → Q .next { s₂ with heap := h', toks := tk, gens := gs })
theorem for1 {E : Value → Shared → Prop} {Q : Flow → Shared → Prop} {x : Str} {px pos : Pos} {iter : Expr} {body : List Stmt} (_F : Fr h₀ env.locals s.heap m) (hh : A.handled = none)
  (hx : env.kindOf x = some .local)
  (hp : (env.scope.kind == .class || (env.scope.kind == .module && env.locals != env.globals)) = false)
  (h : wpAny (model prog w) A (eval iter env) (fun xv s₁ => wpAny (model prog w) A (pyIter xv) (LoopOne prog w A h₀ env x body Q) E s₁) E s)
  (hs : ∀ x, foldedSetIterable iter env x = pure x := by intro _; rfl) :
  wpAny (model prog w) A (exec (.For (.Name x px) iter body [] pos) env) Q E s :=
 for_one (h₀ := h₀) hh hx hp h hs
end
section
variable {prog : Program} {w : World} {A : Around} {s : Shared} {env : Env} {h₀ : Heap} {m : Str → Option Value} {news : List (Addr × Obj)}
theorem loopOne_push {x : Str} {body : List Stmt} {Q : Flow → Shared → Prop} {o : Obj} {fp : List Addr} {n : Nat} {P : Nat → Value → Prop} {St : Nat → Heap → Prop} (F : Fr h₀ env.locals s.heap m) (N : News h₀ env.locals s.heap news) (W : Walks prog w A s.heap.objs.size fp [s.heap.objs.size] n P St) (hfp : ∀ b ∈ fp, b = s.heap.objs.size ∨ ∃ o, h₀.get? b = some o) (hlive : ∀ i h, St i h → ∃ o, h.get? s.heap.objs.size = some o) (hst : St 0 (s.heap.push o)) (J : Nat → (Str → Option Value) → List (Addr × Obj) → Array GenState → Prop) (h0 : J 0 m news s.gens) (step : ∀ i v m₁ news₁ h tk gs it oi E', i < n → P i v → J i m₁ news₁ gs → (∀ p ∈ news₁, @Ne Nat p.1 it) → Fr h₀ env.locals h (fun y => if y = x then some v else m₁ y) → News h₀ env.locals h ((it, oi) :: news₁) →
   wpAny (model prog w) A (execs body env) (TurnEnd h₀ env.locals [(it, oi)] (J (i + 1)) { s with heap := h, toks := tk, gens := gs }) E' { s with heap := h, toks := tk, gens := gs }) (done : ∀ h' tk gs m' news', Fr h₀ env.locals h' m' → News h₀ env.locals h' news' → J n m' news' gs → Q .next { s with heap := h', toks := tk, gens := gs }) : LoopOne prog w A h₀ env x body Q (.ref s.heap.objs.size) { s with heap := s.heap.push o } := by
 refine hdG ?_; intro Xh hXh
 refine ex3 F.ns ?_
 rintro oL _ _ hZ
 obtain ⟨hL, _⟩ := hZ
 refine hXh ?_; clear hXh
 have fresh : ∀ b o, s.heap.get? b = some o → b ≠ s.heap.objs.size := fun b o e => Nat.ne_of_lt (Heap.lt_size e)
 refine (ix6 s.heap.objs.size fp [s.heap.objs.size] [s.heap.objs.size] n P (ix4 St m news J (ia8 rfl W (fun b hb => ?_) (fun b hb => hb) (fun b hb => ?_) (fun i h st b hb => ?_) (fun p hp hb => ?_) hst (ia4 (F.push _) (fun p hp => ⟨Heap.get?_push_of_some _ (N p hp).1, (N p hp).2⟩) h0 ?_ ?_))))
 ·rcases hfp b hb with h | h
  ·exact .inl (by rw [h]; simp)
  ·exact .inr h
 ·rw [List.mem_singleton.mp hb]
  refine ⟨fun e => fresh _ _ hL e.symm, ?_⟩
  cases e : h₀.get? s.heap.objs.size with
  | none => rfl
  | some o => exact absurd rfl (fresh _ _ (F.keep _ _ e))
 ·rw [List.mem_singleton.mp hb]; exact hlive i h st
 ·exact fresh _ _ (N p hp).1 (List.mem_singleton.mp hb)
 ·rintro i v m₁ news₁ s₁ own E' hJz
  refine hdG ?_; intro Xh hXh
  refine ex3 hJz ?_
  try clear hJz
  rintro h tk gs rfl
  refine hXh ?_; clear hXh
  rintro hi hP hJ hoff ho F₁ N₁
  obtain ⟨oi, rfl⟩ := Mine.own_one ho
  exact step i v m₁ news₁ h tk gs _ oi E' hi hP hJ (fun p hp q => hoff p hp (by simp only [List.mem_singleton]; exact q)) F₁ N₁
 ·intro h' tk gs m' news' F' N' _ hJ
  exact done h' tk gs m' news' F' N' hJ
theorem iter_list {E : Value → Shared → Prop} {x : Str} {body : List Stmt} {Q : Flow → Shared → Prop} {l : Addr} {items : Array Value} (F : Fr h₀ env.locals s.heap m) (N : News h₀ env.locals s.heap news) (hl : h₀.IsList l items) (hh : A.handled = none)
  (J : Nat → (Str → Option Value) → List (Addr × Obj) → Array GenState → Prop) (h0 : J 0 m news s.gens)
  (step : ∀ i v m₁ news₁ h tk gs it oi E', i < items.size → items[i]? = some v → J i m₁ news₁ gs → (∀ p ∈ news₁, @Ne Nat p.1 it) → Fr h₀ env.locals h (fun y => if y = x then some v else m₁ y) → News h₀ env.locals h ((it, oi) :: news₁) →
   wpAny (model prog w) A (execs body env) (TurnEnd h₀ env.locals [(it, oi)] (J (i + 1)) { s with heap := h, toks := tk, gens := gs }) E' { s with heap := h, toks := tk, gens := gs })
  (done : ∀ h' tk gs m' news', Fr h₀ env.locals h' m' → News h₀ env.locals h' news' → J items.size m' news' gs → Q .next { s with heap := h', toks := tk, gens := gs }) :
  wpAny (model prog w) A (pyIter (.ref l)) (LoopOne prog w A h₀ env x body Q) E s := by
 have hls : s.heap.IsList l items := hl.at fun o e => F.keep l o e
 refine hdG ?_; intro Xh hXh
 obtain ⟨ol, hol, _⟩ := id hl
 refine hXh ?_; clear hXh
 have hne : l ≠ s.heap.objs.size := Nat.ne_of_lt (Heap.lt_size (F.keep _ _ hol))
 refine wpAny_pyIter_list hls ?_
 refine loopOne_push F N (Walks.list (prog := prog) (w := w) hh s.heap.objs.size l hne items) (fun b hb => ?_) (fun i h st => let ⟨o, e, _⟩ := st.1; ⟨o, e⟩) ⟨(⟨_, ia2 (Heap.get?_push_size _ rfl) rfl rfl⟩), hls.at fun o e => Heap.get?_push_of_some _ e⟩ J h0 step done
 rcases List.mem_cons.mp hb with rfl | hb
 ·exact .inl rfl
 ·exact .inr ⟨ol, (List.mem_singleton.mp hb) ▸ hol⟩
theorem iter_range {E : Value → Shared → Prop} {x : Str} {body : List Stmt} {Q : Flow → Shared → Prop} {r : Addr} {a b : Int} {t u v : Tok} {n : Nat} (F : Fr h₀ env.locals s.heap m) (N : News h₀ env.locals s.heap news) (hr : IsRange s.heap r a b 1 t u v) (hs : Builtin.Range.small a b 1 = true) (hn : Builtin.Range.rangeSize a b 1 = (n : Int)) (hh : A.handled = none)
  (J : Nat → (Str → Option Value) → List (Addr × Obj) → Array GenState → Prop) (h0 : J 0 m news s.gens)
  (step : ∀ i t' m₁ news₁ h tk gs it oi E', i < n → J i m₁ news₁ gs → (∀ p ∈ news₁, @Ne Nat p.1 it) → Fr h₀ env.locals h (fun y => if y = x then some (.int (a + (i : Int)) t') else m₁ y) → News h₀ env.locals h ((it, oi) :: news₁) →
   wpAny (model prog w) A (execs body env) (TurnEnd h₀ env.locals [(it, oi)] (J (i + 1)) { s with heap := h, toks := tk, gens := gs }) E' { s with heap := h, toks := tk, gens := gs })
  (done : ∀ h' tk gs m' news', Fr h₀ env.locals h' m' → News h₀ env.locals h' news' → J n m' news' gs → Q .next { s with heap := h', toks := tk, gens := gs }) :
  wpAny (model prog w) A (pyIter (.ref r)) (LoopOne prog w A h₀ env x body Q) E s := by
 refine wpAny_pyIter_range hr hs ?_
 refine loopOne_push F N (Walks.range (prog := prog) (w := w) hh s.heap.objs.size a 1 n) (fun b hb => .inl (List.mem_singleton.mp hb)) (fun i h st => ⟨_, st⟩) (by show IsRangeIter _ _ _ _ _; rw [hn]; simpa using Heap.get?_push_size _ rfl) J h0 (fun i v m₁ news₁ h tk gs it oi E' hi hP => ?_) done
 obtain ⟨t', rfl⟩ := hP
 intro hJ ho F' N'
 rw [show a + (i : Int) * 1 = a + (i : Int) by grind] at F'
 exact step i t' m₁ news₁ h tk gs it oi E' hi hJ ho F' N'
theorem for_list {E : Value → Shared → Prop} {Q : Flow → Shared → Prop} {t x : Str} {tp px pos : Pos} {body : List Stmt} {l : Addr} {items : Array Value}
  (F : Fr h₀ env.locals s.heap m) (N : News h₀ env.locals s.heap news) (hm : m t = some (.ref l)) (hl : h₀.IsList l items)
  (J : Nat → (Str → Option Value) → List (Addr × Obj) → Array GenState → Prop) (h0 : J 0 m news s.gens)
  (step : ∀ i v m₁ news₁ h tk gs it oi E', i < items.size → items[i]? = some v → J i m₁ news₁ gs → (∀ p ∈ news₁, @Ne Nat p.1 it) → Fr h₀ env.locals h (fun y => if y = x then some v else m₁ y) → News h₀ env.locals h ((it, oi) :: news₁) →
   wpAny (model prog w) A (execs body env) (TurnEnd h₀ env.locals [(it, oi)] (J (i + 1)) { s with heap := h, toks := tk, gens := gs }) E' { s with heap := h, toks := tk, gens := gs })
  (done : ∀ h' tk gs m' news', Fr h₀ env.locals h' m' → News h₀ env.locals h' news' → J items.size m' news' gs → Q .next { s with heap := h', toks := tk, gens := gs })
  (hh : A.handled = none) (hx : env.kindOf x = some .local) (ht : env.kindOf t = some .local) (hkf : env.scope.kind = .function) (htd : (t == ("__debug__" : Str)) = false)
  (hp : (env.scope.kind == .class || (env.scope.kind == .module && env.locals != env.globals)) = false)
  (hs : ∀ x, foldedSetIterable (.Name t tp) env x = pure x := by intro _; rfl) :
  wpAny (model prog w) A (exec (.For (.Name x px) (.Name t tp) body [] pos) env) Q E s :=
 for1 F hh hx hp (wpAny_Name (wpAny_loadName_local hkf ht F.ns hm (iter_list F N hl hh J h0 step done)) htd) hs
theorem for_values {E : Value → Shared → Prop} {Q : Flow → Shared → Prop} {t x : Str} {tp px pos apos cpos : Pos} {body : List Stmt} {d : Addr} {kvs : List (Int × Value)}
  (F : Fr h₀ env.locals s.heap m) (N : News h₀ env.locals s.heap news) (hm : m t = some (.ref d)) (hd : h₀.DictOf (intKind prog w) d kvs) (lo : (d == sysModules) = false)
  (J : Nat → (Str → Option Value) → List (Addr × Obj) → Array GenState → Prop) (h0 : J 0 m news s.gens)
  (step : ∀ i k v m₁ news₁ h tk gs it oi E', kvs[i]? = some (k, v) → J i m₁ news₁ gs → (∀ p ∈ news₁, @Ne Nat p.1 it) →
   Fr h₀ env.locals h (fun y => if y = x then some v else m₁ y) → News h₀ env.locals h ((it, oi) :: news₁) →
   wpAny (model prog w) A (execs body env) (TurnEnd h₀ env.locals [(it, oi)] (J (i + 1)) { s with heap := h, toks := tk, gens := gs }) E' { s with heap := h, toks := tk, gens := gs })
  (done : ∀ h' tk gs m' news', Fr h₀ env.locals h' m' → News h₀ env.locals h' news' → J kvs.length m' news' gs → Q .next { s with heap := h', toks := tk, gens := gs })
  (hh : A.handled = none) (hx : env.kindOf x = some .local) (ht : env.kindOf t = some .local) (hkf : env.scope.kind = .function) (htd : (t == ("__debug__" : Str)) = false)
  (hp : (env.scope.kind == .class || (env.scope.kind == .module && env.locals != env.globals)) = false)
  (hbase : attributeBase (.Name t tp) "values" env (eval (.Name t tp) env) = eval (.Name t tp) env) (hline : (apos.endLine == cpos.line) = true)
  (hs : ∀ x, foldedSetIterable (.Call (.Attribute (.Name t tp) "values" apos) [] [] cpos) env x = pure x := by intro _; rfl) :
  wpAny (model prog w) A (exec (.For (.Name x px) (.Call (.Attribute (.Name t tp) "values" apos) [] [] cpos) body [] pos) env) Q E s := by
 have hds : s.heap.DictOf (intKind prog w) d kvs := hd.keep F.keep
 obtain ⟨ep, hat⟩ := hds.dictAt
 refine for1 F hh hx hp ?_ hs
 refine wpAny_Call_method (T := "dict") (id := "dict.values") hbase rfl hline PySem.F.plainAttrs_dict PySem.F.slot_dict_values PySem.F.type_dict_values (wpAny_Name (wpAny_loadName_local hkf ht F.ns hm (ia2 hds.typeIs hds.mapOf.noDict ?_)) htd)
 show wpAny _ _ (callWith cpos (.builtin "dict.values") [.ref d] [] []) _ _ _
 refine method_meetsIn PySem.F.slot_dict_values PySem.F.entry_dict_values rfl (PySem.evalArgs_none (ia3 rfl hds.typeIs (PySem.F.args_dict_values_1 _) ⟨_, ⟨meets_dict_values (intKind prog w) d lo, ⟨⟨kvs, hds⟩, ?_⟩⟩⟩))
 have F1 := F.push { cls := .type "dict_values", data := .fields #[.ref d] }
 have N1 : News h₀ env.locals (s.heap.push { cls := .type "dict_values", data := .fields #[.ref d] }) news := fun p hp => ⟨Heap.get?_push_of_some _ (N p hp).1, (N p hp).2⟩
 have hat1 := hat.push { cls := .type "dict_values", data := .fields #[.ref d] }
 refine wpAny_pyIter_values (knd := intKind prog w) (d := d) (kvs := kvs) (ep := ep) (⟨_, ia2 (Heap.get?_push_size _ rfl) rfl rfl⟩) hat1 ?_
 generalize s.heap.push { cls := .type "dict_values", data := .fields #[.ref d] } = H at F1 N1 hat1 ⊢
 have hne : d ≠ H.objs.size := Nat.ne_of_lt hat1.lt_size
 refine loopOne_push (s := { s with heap := H }) F1 N1 (Walks.dictValues (prog := prog) (w := w) (knd := intKind prog w) hh H.objs.size d hne kvs ep) (fun b hb => ?_) (fun i h st => let ⟨o, e, _⟩ := st.1; ⟨o, e⟩) ⟨(⟨_, ia2 (Heap.get?_push_size _ rfl) rfl rfl⟩), hat1.push _⟩ J h0
  (fun i v m₁ news₁ h tk gs it oi E' hi hP => let ⟨k, e⟩ := hP; step i k v m₁ news₁ h tk gs it oi E' e) done
 rcases List.mem_cons.mp hb with rfl | hb
 ·exact .inl rfl
 ·refine ex3 hd ?_
  try clear hd
  rintro o _ _ hZ
  obtain ⟨e, _⟩ := hZ
  exact .inr ⟨o, (List.mem_singleton.mp hb) ▸ e⟩
end
end Mine
end
section
theorem Mine.clearA1 : True := by
 k_with_none
 trivial
open PySem PySem.W PyProof.Rows PySem.Calls PySem.Spec
set_option Elab.async false
set_option maxRecDepth 100000
namespace Mine
theorem rowsA1a : True := by
 k_with_none
 (k_with "mine lt" => with_reducible first | assumption | exact cj0 ‹_› | exact cj1 ‹_› | exact cj2 ‹_› | exact cj3 ‹_› | exact cj4 ‹_› | exact cj5 ‹_› | exact cj6 ‹_› | exact cj7 ‹_› | exact cj8 ‹_› | exact cj9 ‹_› | exact cj10 ‹_› | exact cj11 ‹_› | exact cj12 ‹_› | exact cj13 ‹_› | exact cj14 ‹_› | exact cj15 ‹_› | exact dk1 ‹_› | exact dk2 ‹_› | exact dk3 ‹_› | exact dk4 ‹_› | exact dk5 ‹_› | exact dk6 ‹_› | exact dk7 ‹_› | exact dk8 ‹_› | exact dk9 ‹_› | exact dk10 ‹_› | exact dk11 ‹_› | exact dk12 ‹_› | exact dk13 ‹_› | exact dk14 ‹_› | exact dk15 ‹_›)
 (k_with "mine k_ne" => (refine neN ?_; (try dsimp only); first | with_reducible assumption | exact Ne.symm (by with_reducible assumption) | exact Nat.ne_of_lt (by k_extra "mine lt") | exact Nat.ne_of_gt (by k_extra "mine lt") | grind))
 (k_with "mine cell_enter" => (refine' code_defR (by exact rfl) (by exact rfl) (by assumption) (by k_asm) (by k_asm) (by k_asm) (by k_asm) (by k_asm) (by k_is) (by k_is) (by ktr_room) (by exact BindsTo.of_eq rfl) (by exact locs rfl) ?_ (by exact rfl) (by exact rfl) (by exact rfl) (by decide); k_whole; intro g'xq L'xq h'xq tkEq FG'xq F'xq N'xq B'xq X'xq T'xq GS'xq; (have MB'xq := Bm.keeps (by assumption) (Fr.keep FG'xq)); (try dsimp only); (try k_lift B'xq); (try k_fold)))
 (k_with "mine exec For" => (refine stopAt ?_))
 (k_with "mine exec For Tuple" => (refine stopAt ?_))
 trivial
noncomputable def DictIn (w : World) {β : Type} (V : Value → β → Prop) (l : List (Addr × Obj)) (a : Addr) (d : List (Int × β)) : Prop :=
 ∃ o kvs, (a, o) ∈ l ∧ o.IsDictOf (intKind PySem.Challenge.rw_wv0062_01.row.prog w) kvs ∧ Rep V kvs d ∧ (a == sysModules) = false
theorem DictIn.mono {w : World} {β : Type} {V V' : Value → β → Prop} {l l' : List (Addr × Obj)} {a : Addr} {d : List (Int × β)} (h : DictIn w V l a d) (k : ∀ p ∈ l, p ∈ l') (kv : ∀ v x, V v x → V' v x) : DictIn w V' l' a d :=
 let ⟨o, kvs, m, i, r, lo⟩ := h; (ix2 o kvs (ia3 (k _ m) i (r.mono kv) lo))
theorem mem_of_base {h g : Heap} {led : List (Addr × Obj)} (k : ∀ p ∈ led, h.get? p.1 = some p.2) (off : ∀ p ∈ led, @Ne Nat p.1 283) {ps : Array Value} (GS : GSub h g (([(283, parts ps)] : List (Addr × Obj)).map (·.1))) : ∀ p ∈ led, g.get? p.1 = some p.2 :=
 fun p hp => GS _ _ (k p hp) (by simp only [List.map_cons, List.map_nil, List.mem_singleton]; exact off p hp)
theorem hoff2 {D it : Addr} {o1 o2 : Obj} (h1 : @Ne Nat D it) (h2 : @Ne Nat 283 it) : ∀ p ∈ ([(D, o1), (283, o2)] : List (Addr × Obj)), ¬ p.1 = it := by
 intro p hp
 rcases List.mem_cons.mp hp with rfl | hp
 ·exact h1
 ·rw [List.mem_singleton.mp hp]; exact h2
theorem dMeet_some {β : Type} {f : β → β → β} {acc : List (Int × β)} {k : Int} {x y : β} (h : dLook acc k = some y) : dMeet f acc (k, x) = dPut acc k (f x y) := by
 simp only [dMeet, h]
theorem ledger_turn {h₀ h : Heap} {L D' it D : Addr} {o9 oi o' P' : Obj} {tl : List (Addr × Obj)} (N : News h₀ L h ((D', o9) :: (it, oi) :: (D, o') :: (283, P') :: tl)) (lt : it < D' ∧ D < D' ∧ 283 < D' ∧ AllLt D' tl)
  (q1 : @Ne Nat D it) (q2 : @Ne Nat 283 it) (q3 : ∀ p ∈ tl, @Ne Nat p.1 it) (t1 : ∀ p ∈ tl, @Ne Nat p.1 D) (t2 : ∀ p ∈ tl, @Ne Nat p.1 283) :
  News h₀ L h ([(it, oi)] ++ ((D, o') :: (283, P') :: (D', o9) :: tl)) ∧ (∀ p ∈ ((D, o') :: (283, P') :: (D', o9) :: tl : List (Addr × Obj)), p.1 ∉ ([(it, oi)] : List (Addr × Obj)).map (·.1)) ∧ (∀ p ∈ ((D', o9) :: tl : List (Addr × Obj)), @Ne Nat p.1 D) ∧ (∀ p ∈ ((D', o9) :: tl : List (Addr × Obj)), @Ne Nat p.1 283) := by
 refine hdG ?_; intro Xh hXh
 refine an3 lt ?_
 try clear lt
 rintro u1 u2 u3 _
 refine hXh ?_; clear hXh
 have n1 : @Ne Nat D' it := Nat.ne_of_gt u1
 have n2 : @Ne Nat D' D := Nat.ne_of_gt u2
 have n3 : @Ne Nat D' 283 := Nat.ne_of_gt u3
 refine (ia3 (fun p hp => N p ?_) (fun p hp => ?_) (fun p hp => ?_) (fun p hp => ?_))
 ·revert p; (try dsimp only [List.cons_append, List.nil_append]); repeat' with_reducible first | exact sbn | exact sbr | exact sbl | exact sbq | refine sbc ?_ ?_ | refine sba ?_ ?_ | exact mmh | assumption | refine mmt ?_ | refine mmr ?_ | refine sbt ?_ | refine sbp ?_
 ·simp only [List.map_cons, List.map_nil, List.mem_singleton]
  rcases List.mem_cons.mp hp with rfl | hp
  ·exact q1
  ·rcases List.mem_cons.mp hp with rfl | hp
   ·exact q2
   ·rcases List.mem_cons.mp hp with rfl | hp
    ·exact n1
    ·exact q3 p hp
 ·rcases List.mem_cons.mp hp with rfl | hp
  ·exact n2
  ·exact t1 p hp
 ·rcases List.mem_cons.mp hp with rfl | hp
  ·exact n3
  ·exact t2 p hp
theorem rowsA1b : True := by
 (k_with "mine k_all" => (assumption))
 (k_with "mine setItem ref int" => (k_here; k_dflt (refine' kda_set (knd := PySem.intKind _ _) (by k_asm) (by k_asm) (by k_updF) (by k_asm) (intKind_is _ _ _ _) (by assumption) ?_); intro h'xq o'xq F'xq N'xq hd'xq; (try dsimp only at N'xq); (try k_sweep)))
 (k_with "mine compareOp In int ref" => (k_here; k_dflt (refine in_dictR (by k_asm) (by k_mem) (by k_asm) (by k_asm) (by assumption) ?_ ?_); rotate_left; (intro v9xq x9xq hv9xq hx9xq hV9xq; refine hdG ?_; intro Xh hXh; (refine ex2 (TupV.heap hV9xq (by assumption)) ?_; rintro A9xq vs9xq hZxq; refine an3 hZxq ?_; clear hZxq; rintro e9xq hA9xq hvs9xq hl9xq); subst e9xq; refine hXh ?_; clear hXh); rotate_right; intro hv9xq))
 (k_with "mine subscriptTail" => (k_here; k_dflt (refine' kda_item (knd := PySem.intKind _ _) (by k_asm) (by k_mem) (by k_asm) (intKind_is _ _ _ _) (by assumption) ?_ (by with_unfolding_all rfl) (by intro _; with_unfolding_all rfl))))
 (k_with "mine call type:tuple" => (k_here; k_dflt (refine' tuple_ints (by assumption) (by k_asm) (by k_asm) (by assumption) (by rw [sizeLine_eq, List.length_zipWith]; grind) ?_); intro D'xq h'xq tk'xq gs'xq vs'xq F'xq N'xq lt'xq G'xq hv'xq; (k_lt lt'xq)))
 (k_with "mine call builtin:isinstance" => (k_here; (with_reducible show wpAny _ _ (call _ [Value.ref _, Value.type _]) _ _ _); k_dflt (refine call_isinstance_yes (Tx := "tuple") (Heap.IsTuple.typeIs (by assumption)) PySem.F.isi_meta_tuple PySem.F.sub_tuple_tuple ?_)))
 (k_with "mine eval GeneratorExp" => (k_here; k_dflt (refine gen_pairs (c := 287) (P := 283) (by k_asm) (by rfl) (by rfl) (by rfl) (by rfl) (by with_unfolding_all rfl) (by decide) (by rfl) (by rfl) (by rfl) (by decide) (by rfl) (by ktr_room) ?_ (by intro _; rfl))))
 trivial
theorem codeAt287 {P : Params} {h : Heap} (X : (Mine.hdX.heap_1 P).In h) : CodeAt h 287 283 := by
 refine (ix6 _ _ _ _ _ _ (ix3 _ _ _ (ia8 (X 287 _ rfl) rfl rfl rfl rfl rfl rfl rfl rfl)))
theorem rowsA1c : True := by
 (k_with "mine call type:zip" => (k_here; k_dflt (refine' gen_zip (by k_asm) (by k_asm) (by assumption) (by assumption) (by assumption) (by assumption) (by grind) (by exact TopRead.nolimit (by k_asm)) (by assumption) (by exact codeAt287 (by assumption)) (by k_updF) (by assumption) (by assumption) (by exact fun Axq Exq Cxq codexq axq bxq t1xq t2xq txq m₂ hnxq haxq hbxq => elt_add (by rfl) (by rfl) (by rfl) (by decide) (by decide) hnxq haxq hbxq) ?_); intro a'xq h'xq tk'xq gs'xq ps'xq F'xq N'xq tr'xq G'xq X'xq; (try dsimp only at N'xq)))
 trivial
namespace E_addT
noncomputable def theP (zC : Bag) : Prop :=
 let w := zC.w 3; let mg := zC.fr 3; let mb := zC.fr 4; let t := zC.addr 3; let s := zC.addr 4; let d1 := zC.iil 3; let d2 := zC.iil 4; let led := zC.led 3;
 ∀ (h1 : DictIn w (TupV led) led t d1) (h2 : DictIn w (TupV led) led s d2) (off : ∀ p ∈ led, @Ne Nat p.1 283) (hz : d1.length + d2.length ≤ 1000), FunMb zC 4 w mg mb 288 [.ref t, .ref s] led (fun r tl => ∃ D, r = .ref D ∧ DictIn w (TupV (tl ++ led)) tl D (dMerge (List.zipWith (· + ·)) d1 d2))
@[irreducible] def tB : Bag := bagOf theP
@[irreducible] def w := tB.w 3
@[irreducible] def mg := tB.fr 3
@[irreducible] def mb := tB.fr 4
@[irreducible] def t := tB.addr 3
@[irreducible] def s := tB.addr 4
@[irreducible] def d1 := tB.iil 3
@[irreducible] def d2 := tB.iil 4
@[irreducible] def led := tB.led 3
noncomputable def coreT : Prop := ∀ (h1 : DictIn w (TupV led) led t d1) (h2 : DictIn w (TupV led) led s d2) (off : ∀ p ∈ led, @Ne Nat p.1 283) (hz : d1.length + d2.length ≤ 1000), FunMb tB 4 w mg mb 288 [.ref t, .ref s] led (fun r tl => ∃ D, r = .ref D ∧ DictIn w (TupV (tl ++ led)) tl D (dMerge (List.zipWith (· + ·)) d1 d2))
set_option maxHeartbeats 4000000 in
noncomputable def part1 : (P : Bag → Prop) ×' (P (bagOf P) → coreT) := by
 refine' ⟨_, fun hP => ?_⟩
 rotate_left
 unfold coreT
 intro h1 h2 off hz
 refine hdG ?_; intro Xh hXh
 refine ex2 h1 ?_
 try clear h1
 rintro o1 kvs1 hZ
 refine an3 hZ ?_
 clear hZ
 rintro m1 i1 r1 lo1
 refine ex2 h2 ?_
 try clear h2
 rintro o2 kvs2 hZ
 refine an3 hZ ?_
 clear hZ
 rintro m2 i2 r2 lo2
 refine hXh ?_; clear hXh
 w_on
 unfold FunMb
 k_fill
 intros
 rename_i hN hT hM hps hG hk hd hu hret
 have hN1 : News _ _ _ [(283, parts _)] := fun p hp => hN p (List.mem_cons.mpr (.inl (List.mem_singleton.mp hp)))
 rename_i z0z z1z z2z
 refine wpAny_call ?_
 k_dflt (refine' code_defR (by exact rfl) (by exact rfl) (by assumption) (by k_asm) (by k_asm) (by k_asm) (by k_asm) (by k_asm) (by k_is) (by k_is) (by ktr_room) (by exact BindsTo.of_eq rfl) (by exact locs rfl) ?_ (by exact rfl) (by exact rfl) (by exact rfl) (by decide); k_whole)
 intro g L1 h1 tk
 revert off hz m1 i1 r1 lo1 m2 i2 r2 lo2 z0z z1z z2z hN hT hM hps hG hk hd hu hret hN1
 revert Xh o1 kvs1 o2 kvs2
 revert g L1 h1 tk
 exact bag4 _ (by exact rfl) hP
@[irreducible] def theB1 : Bag := bagOf part1.1
set_option maxHeartbeats 4000000 in
theorem part2 : part1.1 theB1 := by
 delta part1
 dsimp only
 intro Xh o1 kvs1 o2 kvs2
 intro off hz m1 i1 r1 lo1 m2 i2 r2 lo2 z0z z1z z2z hN hT hM hps hG hk hd hu hret hN1 FG'xq F'xq N'xq B'xq X'xq T'xq GS'xq
 w_on
 k_fill
 (have MB'xq := Bm.keeps (by assumption) (Fr.keep FG'xq))
 (try dsimp only)
 (try k_lift B'xq)
 (try k_fold)
 rename GSub _ _ _ => GS
 have base := mem_of_base (fun p hp => (hN p (.tail _ hp)).1) off GS
 k_steps
 unfold StopHere
 rename Addr => D
 rename Fr _ _ _ _ => F9
 rename News _ _ _ _ => N9
 rename (D == sysModules) = false => loD
 rename Obj.IsDictOf (intKind _ _) _ [] => hD0
 rename @LT.lt Nat _ 283 D => hlD
 have z1 := r1.length
 have z2 := r2.length
 refine for_items F9 N9 rfl (Heap.dictOf_iff.mpr ⟨o1, base _ m1, i1⟩) lo1
  (fun i m' news' gs' => gs' = _ ∧ m' (Str.ofString "new_callers") = some (.ref D) ∧ m' (Str.ofString "source") = some (.ref s) ∧ ∃ o kvs, news' = [(D, o), (283, parts _)] ∧ o.IsDictOf (intKind _ _) kvs ∧ Rep (TupV led) kvs (dCopy [] (d1.take i)) ∧ kvs.length ≤ i)
  (ia3 rfl rfl rfl (ix2 _ _ (ia3 rfl hD0 .nil (Nat.le_refl _)))) ?_ ?_ (by rfl) (by rfl) (by rfl) (by rfl) (by rfl) (by decide) (by rfl) (by rfl) (by rfl)
 ·rintro i k v tk m₁ news₁ s₁ it oi E' hJz
  refine hdG ?_; intro Xh hXh
  refine ex3 hJz ?_
  try clear hJz
  rintro h tk' gs rfl
  refine hXh ?_; clear hXh
  rintro e hJz
  refine hdG ?_; intro Xh hXh
  refine an3 hJz ?_
  try clear hJz
  rintro hg e1 e2 hZ
  refine ex2 hZ ?_
  clear hZ
  rintro o kvs hZ
  refine an3 hZ ?_
  clear hZ
  rintro rfl hd9 hr hle
  refine hXh ?_; clear hXh
  rintro hoff F N
  refine hdG ?_; intro Xh hXh
  obtain ⟨x, ex, hx⟩ := r1.get e
  refine hXh ?_; clear hXh
  have F := Fr_pin (Fr_pin F (x := Str.ofString "source") e2) (x := Str.ofString "new_callers") e1
  have q1 := hoff _ (.head _)
  have q2 := hoff _ (.tail _ (.head _))
  dsimp only at q1 q2
  have hi : i < kvs1.length := (List.getElem?_eq_some_iff.mp e).1
  have hsz : kvs.length ≤ sizeLine := by rw [sizeLine_eq]; grind
  k_steps
  rename Fr _ _ _ _ => F2
  rename News _ _ _ _ => N2
  rename Obj.IsDictOf _ _ _ => hd2
  refine (⟨.inl rfl, ix5 _ _ _ [(D, _), (283, _)] _ (ia7 rfl F2 N2 ?_ hg rfl rfl (ix2 _ _ (ia3 rfl hd2 ?_ ?_)))⟩)
  ·intro p hp
   simp only [List.map_cons, List.map_nil, List.mem_singleton]
   exact hoff2 q1 q2 p hp
  ·rw [show dCopy [] (d1.take (i + 1)) = _ from foldl_take_succ _ _ _ ex]
   exact hr.put k hx
  ·exact Nat.le_trans (stored_length_le _ _ _) (by grind)
 ·rintro h' tk gs m' news' F N hJz
  refine hdG ?_; intro Xh hXh
  refine an3 hJz ?_
  try clear hJz
  rintro hg e1 e2 hZ
  refine ex2 hZ ?_
  clear hZ
  rintro o kvs hZ
  refine an3 hZ ?_
  clear hZ
  rintro rfl hd9 hr hle
  have hg : gs = _ := hg
  subst hg
  refine hXh ?_; clear hXh
  have F := Fr_pin (Fr_pin F (x := Str.ofString "source") e2) (x := Str.ofString "new_callers") e1
  have hnd : (d1.map (·.1)).Nodup := by
   rw [← r1.keys]
   refine hdG ?_; intro Xh hXh
   refine ex2 i1 ?_
   try clear i1
   rintro _ _ hZ
   refine an4 hZ ?_
   clear hZ
   rintro _ _ _ _ nd
   refine hXh ?_; clear hXh
   exact nd
  rw [z1, List.take_length, dCopy_nodup _ _ (by simpa using hnd), List.nil_append] at hr
  dsimp only
  k_steps
  unfold StopHere
  refine for_items F N rfl (Heap.dictOf_iff.mpr ⟨o2, base _ m2, i2⟩) lo2
   (fun i m' news' gs' => AllBare gs' ∧ m' (Str.ofString "new_callers") = some (.ref D) ∧ ∃ o kvs ps' tl, news' = (D, o) :: (283, parts ps') :: tl ∧ TriplesOk ps'.toList ∧ o.IsDictOf (intKind _ _) kvs ∧ Rep (TupV (tl ++ led)) kvs (dMerge (List.zipWith (· + ·)) d1 (d2.take i)) ∧ kvs.length ≤ d1.length + i ∧
    (∀ p ∈ tl, @Ne Nat p.1 D) ∧ (∀ p ∈ tl, @Ne Nat p.1 283))
   (ia2 hG rfl (ix4 _ _ _ [] (ia6 rfl hps hd9 hr (by grind) (fun _ h => nomatch h) (fun _ h => nomatch h)))) ?_ ?_ (by rfl) (by rfl) (by rfl) (by rfl) (by rfl) (by decide) (by rfl) (by rfl) (by rfl)
  ·rintro i k v tk m₁ news₁ s₁ it oi E' hJz
   refine hdG ?_; intro Xh hXh
   refine ex3 hJz ?_
   try clear hJz
   rintro h tk' gs rfl
   refine hXh ?_; clear hXh
   rintro e hJz
   refine hdG ?_; intro Xh hXh
   refine an2 hJz ?_
   try clear hJz
   rintro hg e1 hZ
   refine ex4 hZ ?_
   clear hZ
   rintro o kvs ps' tl hZ
   refine an6 hZ ?_
   clear hZ
   rintro rfl htr hd9 hr hle t1 t2
   refine hXh ?_; clear hXh
   rintro hoff F N
   refine hdG ?_; intro Xh hXh
   obtain ⟨x, ex, hx⟩ := r2.get e
   have F := Fr_pin F (x := Str.ofString "new_callers") e1
   have q1 := hoff _ (.head _)
   have q2 := hoff _ (.tail _ (.head _))
   have q3 : ∀ p ∈ tl, @Ne Nat p.1 it := fun p hp => hoff p (.tail _ (.tail _ hp))
   clear hoff
   dsimp only at q1 q2
   have hi : i < kvs2.length := (List.getElem?_eq_some_iff.mp e).1
   have hsz : kvs.length ≤ sizeLine := by rw [sizeLine_eq]; grind
   refine ex2 (hx.heap (fun p hp => F.keep _ _ (base p hp))) ?_
   rintro A vs hZ
   refine an3 hZ ?_
   clear hZ
   rintro rfl hA hvs hlx
   refine hXh ?_; clear hXh
   have hold : ∀ p ∈ tl ++ led, h.get? p.1 = some p.2 := fun p hp => (List.mem_append.mp hp).elim (fun q => (N p (.tail _ (.tail _ (.tail _ q)))).1) fun q => F.keep _ _ (base p q)
   have hstep : dMerge (List.zipWith (· + ·)) d1 (d2.take (i + 1)) = dMeet (List.zipWith (· + ·)) (dMerge (List.zipWith (· + ·)) d1 (d2.take i)) (k, x) := foldl_take_succ _ _ _ ex
   k_steps
   ·rename Fr _ _ _ _ => F2
    rename News _ _ _ _ => N2
    rename Obj.IsDictOf _ _ _ => hd2
    rename dLook (dMerge _ _ _) _ = none => hn9
    refine (⟨.inl rfl, ix5 _ _ _ ((D, _) :: (283, _) :: tl) _ (ia6 rfl F2 N2 ?_ hg rfl (ix4 _ _ ps' tl (ia6 rfl htr hd2 ?_ ?_ t1 t2)))⟩)
    ·intro p hp
     simp only [List.map_cons, List.map_nil, List.mem_singleton]
     rcases List.mem_cons.mp hp with rfl | hp
     ·exact q1
     ·rcases List.mem_cons.mp hp with rfl | hp
      ·exact q2
      ·exact q3 p hp
    ·rw [hstep]
     simp only [dMeet, hn9]
     exact hr.put k (hx.mono fun p hp => List.mem_append_right _ hp)
    ·exact Nat.le_trans (stored_length_le _ _ _) (by grind)
   ·rename Fr _ _ _ _ => F2
    rename News _ _ _ _ => N2
    rename Obj.IsDictOf _ _ _ => hd2
    rename dLook (dMerge _ _ _) _ = some _ => hn9
    rename AllBare _ => hg2
    rename TriplesOk _ => ht2
    rename IntsAre _ (List.zipWith _ _ _) => hv2
    have z := ledger_turn N2 (by assumption) q1 q2 q3 t1 t2
    refine (⟨.inl rfl, ix5 _ _ _ _ _ (ia6 rfl F2 z.1 z.2.1 hg2 rfl (ix4 _ _ _ _ (ia6 rfl ht2 hd2 ?_ ?_ z.2.2.1 z.2.2.2)))⟩)
    ·rw [hstep, dMeet_some hn9]
     refine Rep.put (hr.mono fun v y hv => hv.mono fun p hp => ?_) k (ix3 _ _ _ (ia3 rfl (List.mem_append_left _ (.head _)) hv2 (by rw [List.length_zipWith]; grind)))
     exact (List.mem_append.mp hp).elim (fun q => List.mem_append_left _ (.tail _ q)) fun q => List.mem_append_right _ q
    ·exact Nat.le_trans (stored_length_le _ _ _) (by grind)
  ·rintro h' tk gs m' news' F N hJz
   refine hdG ?_; intro Xh hXh
   refine an2 hJz ?_
   try clear hJz
   rintro hg e1 hZ
   refine ex4 hZ ?_
   clear hZ
   rintro o kvs ps' tl hZ
   refine an6 hZ ?_
   clear hZ
   rintro rfl htr hd9 hr hle t1 t2
   refine hXh ?_; clear hXh
   have F := Fr_pin F (x := Str.ofString "new_callers") e1
   dsimp only
   k_steps
   refine funM_ret hret GS F N (.tail _ (.head _)) htr hg fun tl' htl => (⟨D, ⟨rfl, ix2 o kvs (ia3 (htl _ (.head _) (by k_ne)) hd9 ?_ loD)⟩⟩)
   rw [z2, List.take_length] at hr
   exact hr.mono fun v x hv => hv.mono fun p hp => (List.mem_append.mp hp).elim (fun q => List.mem_append_left _ (htl _ (.tail _ (.tail _ q)) (t2 p q))) fun q => List.mem_append_right _ q
theorem core : coreT := part1.2 (by with_unfolding_all exact part2)
end E_addT
theorem addT (w : World) (mg mb) {t s : Addr} {d1 d2 : List (Int × List Int)} {led : List (Addr × Obj)} (h1 : DictIn w (TupV led) led t d1) (h2 : DictIn w (TupV led) led s d2) (off : ∀ p ∈ led, @Ne Nat p.1 283) (hz : d1.length + d2.length ≤ 1000) : FunM 4 w mg mb 288 [.ref t, .ref s] led (fun r tl => ∃ D, r = .ref D ∧ DictIn w (TupV (tl ++ led)) tl D (dMerge (List.zipWith (· + ·)) d1 d2)) := fun dpzz unzz gdzz cnzz cszz azz ccdzz clzz outerzz A₀zz basezz h₀zz Lzz mzz szz pszz Qzz Ezz => bag_all (P := E_addT.theP) (by with_unfolding_all exact @E_addT.core) { bag0 with A := nth [A₀zz, A₀zz, A₀zz] bag0.A, addr := nth [azz, Lzz, azz, t, s] bag0.addr, arr := nth [pszz, pszz, pszz] bag0.arr, cl := nth [clzz, clzz, clzz] bag0.cl, fr := nth [mzz, mzz, mzz, mg, mb] bag0.fr, gd := nth [gdzz, gdzz, gdzz] bag0.gd, heap := nth [basezz, h₀zz, basezz] bag0.heap, iil := nth [d1, d1, d1, d1, d2] bag0.iil, led := nth [led, led, led, led] bag0.led, nat := nth [dpzz, unzz, dpzz] bag0.nat, outer := nth [outerzz, outerzz, outerzz] bag0.outer, qv := nth [Qzz, Ezz, Qzz] bag0.qv, s := nth [szz, szz, szz] bag0.s, scope := nth [cszz, cszz, cszz] bag0.scope, str := nth [cnzz, cnzz, cnzz] bag0.str, val := nth [ccdzz, ccdzz, ccdzz] bag0.val, w := nth [w, w, w, w] bag0.w } h1 h2 off hz
end Mine
end
section
theorem Mine.clearA2 : True := by
 k_with_none
 trivial
open PySem PySem.W PyProof.Rows PySem.Calls PySem.Spec
set_option Elab.async false
set_option maxRecDepth 100000
namespace Mine
theorem news_none {h₀ h : Heap} {L : Addr} {led : List (Addr × Obj)} (_N : News h₀ L h led) : News h₀ L h [] := News.nil
theorem mem_of_base0 {h g : Heap} {led : List (Addr × Obj)} (k : ∀ p ∈ led, h.get? p.1 = some p.2) (GS : GSub h g (([] : List (Addr × Obj)).map (·.1))) : ∀ p ∈ led, g.get? p.1 = some p.2 :=
 fun p hp => GS _ _ (k p hp) (by simp)
theorem rowsA2a : True := by
 k_with_none
 (k_with "mine lt" => with_reducible first | assumption | exact cj0 ‹_› | exact cj1 ‹_› | exact cj2 ‹_› | exact cj3 ‹_› | exact cj4 ‹_› | exact cj5 ‹_› | exact cj6 ‹_› | exact cj7 ‹_› | exact cj8 ‹_› | exact cj9 ‹_› | exact cj10 ‹_› | exact cj11 ‹_› | exact cj12 ‹_› | exact cj13 ‹_› | exact cj14 ‹_› | exact cj15 ‹_› | exact dk1 ‹_› | exact dk2 ‹_› | exact dk3 ‹_› | exact dk4 ‹_› | exact dk5 ‹_› | exact dk6 ‹_› | exact dk7 ‹_› | exact dk8 ‹_› | exact dk9 ‹_› | exact dk10 ‹_› | exact dk11 ‹_› | exact dk12 ‹_› | exact dk13 ‹_› | exact dk14 ‹_› | exact dk15 ‹_›)
 (k_with "mine k_ne" => (refine neN ?_; (try dsimp only); first | with_reducible assumption | exact Ne.symm (by with_reducible assumption) | exact Nat.ne_of_lt (by k_extra "mine lt") | exact Nat.ne_of_gt (by k_extra "mine lt") | grind))
 (k_with "mine cell_enter" => (refine' code_defR (by exact rfl) (by exact rfl) (by assumption) (by k_asm) (by k_asm) (by k_asm) (by k_asm) (by k_asm) (by k_is) (by k_is) (by ktr_room) (by exact BindsTo.of_eq rfl) (by exact locs rfl) ?_ (by exact rfl) (by exact rfl) (by exact rfl) (by decide); k_whole; intro g'xq L'xq h'xq tkEq FG'xq F'xq N'xq B'xq X'xq T'xq GS'xq; (try dsimp only); (try k_lift B'xq); (try k_fold)))
 (k_with "mine exec For" => (refine stopAt ?_))
 (k_with "mine exec For Tuple" => (refine stopAt ?_))
 (k_with "mine k_all" => (assumption))
 (k_with "mine setItem ref int" => (k_here; k_dflt (refine' kda_set (knd := PySem.intKind _ _) (by k_asm) (by k_asm) (by k_updF) (by k_asm) (intKind_is _ _ _ _) (by assumption) ?_); intro h'xq o'xq F'xq N'xq hd'xq; (try dsimp only at N'xq); (try k_sweep)))
 (k_with "mine subscriptTail" => (k_here; k_dflt (refine' kda_item (knd := PySem.intKind _ _) (by k_asm) (by k_mem) (by k_asm) (intKind_is _ _ _ _) (by assumption) ?_ (by with_unfolding_all rfl) (by intro _; with_unfolding_all rfl))))
 (k_with "mine compareOp In int ref" => (k_here; k_dflt (refine in_dictR (by k_asm) (by k_mem) (by k_asm) (by k_asm) (by assumption) ?_ ?_); rotate_left; (intro v9xq x9xq hv9xq hx9xq hV9xq; refine hdG ?_; intro Xh hXh; obtain ⟨t9xq, e9xq⟩ := hV9xq; subst e9xq; refine hXh ?_; clear hXh); rotate_right; intro hv9xq))
 trivial
theorem get_dict {prog : Program} {w : World} {A : Around} {E : Value → Shared → Prop} {s : Shared} {h₀ : Heap} {L d : Addr} {news : List (Addr × Obj)} {o : Obj} {kvs : List (Int × Value)} {k : Int} {t : Tok} {v : Value} {Q : Value → Shared → Prop} (N : News h₀ L s.heap news) (hp : (d, o) ∈ news) (hd : o.IsDictOf (intKind prog w) kvs) (hl : valueAt kvs k = some v) (h : Q v { s with toks := s.toks + 1 }) :
  wpAny (model prog w) A (getItem (.ref d) (.int k t)) Q E s := wpAny_getItem_of (intKind_is _ _ _ _) (kda_dict N hp hd).mapOf hl h
theorem rowsA2b : True := by
 (k_with "mine getItem ref int" => (k_here; k_dflt (refine' get_dict (by k_asm) (by k_mem) (by k_asm) (by assumption) ?_)))
 trivial
namespace E_addI
noncomputable def theP (zC : Bag) : Prop :=
 let w := zC.w 3; let mg := zC.fr 3; let mb := zC.fr 4; let t := zC.addr 3; let s := zC.addr 4; let d1 := zC.iis 3; let d2 := zC.iis 4; let led := zC.led 3;
 ∀ (h1 : DictIn w IntV led t d1) (h2 : DictIn w IntV led s d2) (hz : d1.length + d2.length ≤ 1000), FunAb zC 4 w mg mb 288 [.ref t, .ref s] led (fun r tl => ∃ D, r = .ref D ∧ DictIn w IntV tl D (dMerge (fun a b => b + a) d1 d2))
@[irreducible] def tB : Bag := bagOf theP
@[irreducible] def w := tB.w 3
@[irreducible] def mg := tB.fr 3
@[irreducible] def mb := tB.fr 4
@[irreducible] def t := tB.addr 3
@[irreducible] def s := tB.addr 4
@[irreducible] def d1 := tB.iis 3
@[irreducible] def d2 := tB.iis 4
@[irreducible] def led := tB.led 3
noncomputable def coreT : Prop := ∀ (h1 : DictIn w IntV led t d1) (h2 : DictIn w IntV led s d2) (hz : d1.length + d2.length ≤ 1000), FunAb tB 4 w mg mb 288 [.ref t, .ref s] led (fun r tl => ∃ D, r = .ref D ∧ DictIn w IntV tl D (dMerge (fun a b => b + a) d1 d2))
set_option maxHeartbeats 4000000 in
noncomputable def part1 : (P : Bag → Prop) ×' (P (bagOf P) → coreT) := by
 refine' ⟨_, fun hP => ?_⟩
 rotate_left
 unfold coreT
 intro h1 h2 hz
 refine hdG ?_; intro Xh hXh
 refine ex2 h1 ?_
 try clear h1
 rintro o1 kvs1 hZ
 refine an3 hZ ?_
 clear hZ
 rintro m1 i1 r1 lo1
 refine ex2 h2 ?_
 try clear h2
 rintro o2 kvs2 hZ
 refine an3 hZ ?_
 clear hZ
 rintro m2 i2 r2 lo2
 refine hXh ?_; clear hXh
 w_on
 unfold FunAb
 k_fill
 intros
 rename_i hN hT hk hd hu hret
 have hN1 := news_none hN
 rename_i z0z z1z z2z
 refine wpAny_call ?_
 k_dflt (refine' code_defR (by exact rfl) (by exact rfl) (by assumption) (by k_asm) (by k_asm) (by k_asm) (by k_asm) (by k_asm) (by k_is) (by k_is) (by ktr_room) (by exact BindsTo.of_eq rfl) (by exact locs rfl) ?_ (by exact rfl) (by exact rfl) (by exact rfl) (by decide); k_whole)
 intro g L1 h1 tk
 revert hz m1 i1 r1 lo1 m2 i2 r2 lo2 z0z z1z z2z hN hT hk hd hu hret hN1
 revert Xh o1 kvs1 o2 kvs2
 revert g L1 h1 tk
 exact bag4 _ (by exact rfl) hP
@[irreducible] def theB1 : Bag := bagOf part1.1
set_option maxHeartbeats 4000000 in
theorem part2 : part1.1 theB1 := by
 delta part1
 dsimp only
 intro Xh o1 kvs1 o2 kvs2
 intro hz m1 i1 r1 lo1 m2 i2 r2 lo2 z0z z1z z2z hN hT hk hd hu hret hN1 FG'xq F'xq N'xq B'xq X'xq T'xq GS'xq
 w_on
 k_fill
 (try dsimp only)
 (try k_lift B'xq)
 (try k_fold)
 rename GSub _ _ _ => GS
 have base := mem_of_base0 (fun p hp => (hN p hp).1) GS
 k_steps
 unfold StopHere
 rename Addr => D
 rename Fr _ _ _ _ => F9
 rename News _ _ _ _ => N9
 rename (D == sysModules) = false => loD
 rename Obj.IsDictOf (intKind _ _) _ [] => hD0
 have z1 := r1.length
 have z2 := r2.length
 refine for_items F9 N9 rfl (Heap.dictOf_iff.mpr ⟨o1, base _ m1, i1⟩) lo1
  (fun i m' news' gs' => gs' = _ ∧ m' (Str.ofString "new_callers") = some (.ref D) ∧ m' (Str.ofString "source") = some (.ref s) ∧ ∃ o kvs, news' = [(D, o)] ∧ o.IsDictOf (intKind _ _) kvs ∧ Rep IntV kvs (dCopy [] (d1.take i)) ∧ kvs.length ≤ i)
  (ia3 rfl rfl rfl (ix2 _ _ (ia3 rfl hD0 .nil (Nat.le_refl _)))) ?_ ?_ (by rfl) (by rfl) (by rfl) (by rfl) (by rfl) (by decide) (by rfl) (by rfl) (by rfl)
 ·rintro i k v tk m₁ news₁ s₁ it oi E' hJz
  refine hdG ?_; intro Xh hXh
  refine ex3 hJz ?_
  try clear hJz
  rintro h tk' gs rfl
  refine hXh ?_; clear hXh
  rintro e hJz
  refine hdG ?_; intro Xh hXh
  refine an3 hJz ?_
  try clear hJz
  rintro hg e1 e2 hZ
  refine ex2 hZ ?_
  clear hZ
  rintro o kvs hZ
  refine an3 hZ ?_
  clear hZ
  rintro rfl hd9 hr hle
  refine hXh ?_; clear hXh
  rintro hoff F N
  refine hdG ?_; intro Xh hXh
  obtain ⟨x, ex, hx⟩ := r1.get e
  refine hXh ?_; clear hXh
  have F := Fr_pin (Fr_pin F (x := Str.ofString "source") e2) (x := Str.ofString "new_callers") e1
  have q1 := hoff _ (.head _)
  dsimp only at q1
  have hi : i < kvs1.length := (List.getElem?_eq_some_iff.mp e).1
  have hsz : kvs.length ≤ sizeLine := by rw [sizeLine_eq]; grind
  k_steps
  rename Fr _ _ _ _ => F2
  rename News _ _ _ _ => N2
  rename Obj.IsDictOf _ _ _ => hd2
  refine (⟨.inl rfl, ix5 _ _ _ [(D, _)] _ (ia7 rfl F2 N2 ?_ hg rfl rfl (ix2 _ _ (ia3 rfl hd2 ?_ ?_)))⟩)
  ·intro p hp
   rw [List.mem_singleton.mp hp]
   simpa using q1
  ·rw [show dCopy [] (d1.take (i + 1)) = _ from foldl_take_succ _ _ _ ex]
   exact hr.put k hx
  ·exact Nat.le_trans (stored_length_le _ _ _) (by grind)
 ·rintro h' tk gs m' news' F N hJz
  refine hdG ?_; intro Xh hXh
  refine an3 hJz ?_
  try clear hJz
  rintro hg e1 e2 hZ
  refine ex2 hZ ?_
  clear hZ
  rintro o kvs hZ
  refine an3 hZ ?_
  clear hZ
  rintro rfl hd9 hr hle
  have hg : gs = _ := hg
  subst hg
  refine hXh ?_; clear hXh
  have F := Fr_pin (Fr_pin F (x := Str.ofString "source") e2) (x := Str.ofString "new_callers") e1
  have hnd : (d1.map (·.1)).Nodup := by
   rw [← r1.keys]
   refine hdG ?_; intro Xh hXh
   refine ex2 i1 ?_
   try clear i1
   rintro _ _ hZ
   refine an4 hZ ?_
   clear hZ
   rintro _ _ _ _ nd
   refine hXh ?_; clear hXh
   exact nd
  rw [z1, List.take_length, dCopy_nodup _ _ (by simpa using hnd), List.nil_append] at hr
  dsimp only
  k_steps
  unfold StopHere
  refine for_items F N rfl (Heap.dictOf_iff.mpr ⟨o2, base _ m2, i2⟩) lo2
   (fun i m' news' gs' => gs' = _ ∧ m' (Str.ofString "new_callers") = some (.ref D) ∧ ∃ o kvs, news' = [(D, o)] ∧ o.IsDictOf (intKind _ _) kvs ∧ Rep IntV kvs (dMerge (fun a b => b + a) d1 (d2.take i)) ∧ kvs.length ≤ d1.length + i)
   (ia2 rfl rfl (ix2 _ _ (ia3 rfl hd9 hr (by grind)))) ?_ ?_ (by rfl) (by rfl) (by rfl) (by rfl) (by rfl) (by decide) (by rfl) (by rfl) (by rfl)
  ·rintro i k v tk m₁ news₁ s₁ it oi E' hJz
   refine hdG ?_; intro Xh hXh
   refine ex3 hJz ?_
   try clear hJz
   rintro h tk' gs rfl
   refine hXh ?_; clear hXh
   rintro e hJz
   refine hdG ?_; intro Xh hXh
   refine an2 hJz ?_
   try clear hJz
   rintro hg e1 hZ
   refine ex2 hZ ?_
   clear hZ
   rintro o kvs hZ
   refine an3 hZ ?_
   clear hZ
   rintro rfl hd9 hr hle
   refine hXh ?_; clear hXh
   rintro hoff F N
   refine hdG ?_; intro Xh hXh
   obtain ⟨x, ex, hx⟩ := r2.get e
   have F := Fr_pin F (x := Str.ofString "new_callers") e1
   have q1 := hoff _ (.head _)
   dsimp only at q1
   have hi : i < kvs2.length := (List.getElem?_eq_some_iff.mp e).1
   have hsz : kvs.length ≤ sizeLine := by rw [sizeLine_eq]; grind
   obtain ⟨tv, rfl⟩ := hx
   refine hXh ?_; clear hXh
   have hstep : dMerge (fun a b => b + a) d1 (d2.take (i + 1)) = dMeet (fun a b => b + a) (dMerge (fun a b => b + a) d1 (d2.take i)) (k, x) := foldl_take_succ _ _ _ ex
   k_steps
   ·rename Fr _ _ _ _ => F2
    rename News _ _ _ _ => N2
    rename Obj.IsDictOf _ _ _ => hd2
    rename dLook (dMerge _ _ _) _ = none => hn9
    refine (⟨.inl rfl, ix5 _ _ _ [(D, _)] _ (ia6 rfl F2 N2 ?_ hg rfl (ix2 _ _ (ia3 rfl hd2 ?_ ?_)))⟩)
    ·intro p hp
     rw [List.mem_singleton.mp hp]
     simpa using q1
    ·rw [hstep]
     simp only [dMeet, hn9]
     exact hr.put k ⟨_, rfl⟩
    ·exact Nat.le_trans (stored_length_le _ _ _) (by grind)
   ·rename Fr _ _ _ _ => F2
    rename News _ _ _ _ => N2
    rename Obj.IsDictOf _ _ _ => hd2
    rename dLook (dMerge _ _ _) _ = some _ => hn9
    refine (⟨.inl rfl, ix5 _ _ _ [(D, _)] _ (ia6 rfl F2 N2 ?_ hg rfl (ix2 _ _ (ia3 rfl hd2 ?_ ?_)))⟩)
    ·intro p hp
     rw [List.mem_singleton.mp hp]
     simpa using q1
    ·rw [hstep, dMeet_some hn9]
     exact hr.put k ⟨_, rfl⟩
    ·exact Nat.le_trans (stored_length_le _ _ _) (by grind)
  ·rintro h' tk gs m' news' F N hJz
   refine hdG ?_; intro Xh hXh
   refine an2 hJz ?_
   try clear hJz
   rintro hg e1 hZ
   refine ex2 hZ ?_
   clear hZ
   rintro o kvs hZ
   refine an3 hZ ?_
   clear hZ
   rintro rfl hd9 hr hle
   have hg : gs = _ := hg
   subst hg
   refine hXh ?_; clear hXh
   have F := Fr_pin F (x := Str.ofString "new_callers") e1
   dsimp only
   k_steps
   refine funA_ret hret hN1 GS F N (fun p hp => nomatch hp) fun tl' htl => (⟨D, ⟨rfl, ix2 o kvs (ia3 (htl _ (.head _) (by simp)) hd9 ?_ loD)⟩⟩)
   rw [z2, List.take_length] at hr
   exact hr
theorem core : coreT := part1.2 (by with_unfolding_all exact part2)
end E_addI
theorem addI (w : World) (mg mb) {t s : Addr} {d1 d2 : List (Int × Int)} {led : List (Addr × Obj)} (h1 : DictIn w IntV led t d1) (h2 : DictIn w IntV led s d2) (hz : d1.length + d2.length ≤ 1000) : FunA 4 w mg mb 288 [.ref t, .ref s] led (fun r tl => ∃ D, r = .ref D ∧ DictIn w IntV tl D (dMerge (fun a b => b + a) d1 d2)) := fun dpzz unzz gdzz cnzz cszz azz ccdzz clzz outerzz A₀zz basezz h₀zz Lzz mzz szz Qzz Ezz => bag_all (P := E_addI.theP) (by with_unfolding_all exact @E_addI.core) { bag0 with A := nth [A₀zz, A₀zz, A₀zz] bag0.A, addr := nth [azz, Lzz, azz, t, s] bag0.addr, cl := nth [clzz, clzz, clzz] bag0.cl, fr := nth [mzz, mzz, mzz, mg, mb] bag0.fr, gd := nth [gdzz, gdzz, gdzz] bag0.gd, heap := nth [basezz, h₀zz, basezz] bag0.heap, iis := nth [d1, d1, d1, d1, d2] bag0.iis, led := nth [led, led, led, led] bag0.led, nat := nth [dpzz, unzz, dpzz] bag0.nat, outer := nth [outerzz, outerzz, outerzz] bag0.outer, qv := nth [Qzz, Ezz, Qzz] bag0.qv, s := nth [szz, szz, szz] bag0.s, scope := nth [cszz, cszz, cszz] bag0.scope, str := nth [cnzz, cnzz, cnzz] bag0.str, val := nth [ccdzz, ccdzz, ccdzz] bag0.val, w := nth [w, w, w, w] bag0.w } h1 h2 hz
end Mine
end
section
theorem Mine.clearA3 : True := by
 k_with_none
 trivial
open PySem PySem.W PyProof.Rows PySem.Calls PySem.Spec
set_option Elab.async false
set_option maxRecDepth 100000
namespace Mine
theorem rowsA3a : True := by
 k_with_none
 (k_with "mine lt" => with_reducible first | assumption | exact cj0 ‹_› | exact cj1 ‹_› | exact cj2 ‹_› | exact cj3 ‹_› | exact cj4 ‹_› | exact cj5 ‹_› | exact cj6 ‹_› | exact cj7 ‹_› | exact cj8 ‹_› | exact cj9 ‹_› | exact cj10 ‹_› | exact cj11 ‹_› | exact cj12 ‹_› | exact cj13 ‹_› | exact cj14 ‹_› | exact cj15 ‹_› | exact dk1 ‹_› | exact dk2 ‹_› | exact dk3 ‹_› | exact dk4 ‹_› | exact dk5 ‹_› | exact dk6 ‹_› | exact dk7 ‹_› | exact dk8 ‹_› | exact dk9 ‹_› | exact dk10 ‹_› | exact dk11 ‹_› | exact dk12 ‹_› | exact dk13 ‹_› | exact dk14 ‹_› | exact dk15 ‹_›)
 (k_with "mine k_ne" => (refine neN ?_; (try dsimp only); first | with_reducible assumption | exact Ne.symm (by with_reducible assumption) | exact Nat.ne_of_lt (by k_extra "mine lt") | exact Nat.ne_of_gt (by k_extra "mine lt") | omega))
 (k_with "mine cell_enter" => (refine' code_defR (by exact rfl) (by exact rfl) (by assumption) (by k_asm) (by k_asm) (by k_asm) (by k_asm) (by k_asm) (by k_is) (by k_is) (by ktr_room) (by exact BindsTo.of_eq rfl) (by exact locs rfl) ?_ (by exact rfl) (by exact rfl) (by exact rfl) (by decide); k_whole; intro g'xq L'xq h'xq tkEq FG'xq F'xq N'xq B'xq X'xq T'xq GS'xq; (try dsimp only); (try k_lift B'xq); (try k_fold)))
 (k_with "mine exec For" => (refine stopAt ?_))
 (k_with "mine exec For Name Call cons nil" => (refine stopAt ?_))
 (k_with "mine exec For Name Name cons nil" => (refine stopAt ?_))
 (k_with "mine exec For Tuple" => (refine stopAt ?_))
 (k_with "mine k_all" => (assumption))
 (k_with "mine setItem ref int" => (k_here; k_dflt (refine' kda_set (knd := PySem.intKind _ _) (by k_asm) (by k_asm) (by k_updF) (by k_asm) (intKind_is _ _ _ _) (by assumption) ?_); intro h'xq o'xq F'xq N'xq hd'xq; (try dsimp only at N'xq); (try k_sweep)))
 (k_with "mine subscriptTail" => (k_here; k_dflt (refine' kda_item (knd := PySem.intKind _ _) (by k_asm) (by k_mem) (by k_asm) (intKind_is _ _ _ _) (by assumption) ?_ (by with_unfolding_all rfl) (by intro _; with_unfolding_all rfl))))
 (k_with "mine compareOp In int ref" => (k_here; k_dflt (refine in_dictR (by k_asm) (by k_mem) (by k_asm) (by k_asm) (by assumption) ?_ ?_); rotate_left; (intro v9xq x9xq hv9xq hx9xq hV9xq; refine hdG ?_; intro Xh hXh; obtain ⟨t9xq, e9xq⟩ := hV9xq; subst e9xq; refine hXh ?_; clear hXh); rotate_right; intro hv9xq))
 (k_with "mine getItem ref int" => (k_here; k_dflt (refine' get_dict (by k_asm) (by k_mem) (by k_asm) (by assumption) ?_)))
 trivial
namespace E_count
noncomputable def theP (zC : Bag) : Prop :=
 let w := zC.w 3; let mg := zC.fr 3; let mb := zC.fr 4; let t := zC.addr 3; let d := zC.iis 3; let led := zC.led 3;
 ∀ (h1 : DictIn w IntV led t d), FunAb zC 4 w mg mb 295 [.ref t] led (fun r tl => IntV r ((d.map (·.2)).sum))
@[irreducible] def tB : Bag := bagOf theP
@[irreducible] def w := tB.w 3
@[irreducible] def mg := tB.fr 3
@[irreducible] def mb := tB.fr 4
@[irreducible] def t := tB.addr 3
@[irreducible] def d := tB.iis 3
@[irreducible] def led := tB.led 3
set_option maxHeartbeats 4000000 in
theorem core (h1 : DictIn w IntV led t d) : FunAb tB 4 w mg mb 295 [.ref t] led (fun r tl => IntV r ((d.map (·.2)).sum)) := by
 refine hdG ?_; intro Xh hXh
 refine ex2 h1 ?_
 try clear h1
 rintro o1 kvs1 hZ
 refine an3 hZ ?_
 clear hZ
 rintro m1 i1 r1 lo1
 refine hXh ?_; clear hXh
 w_on
 unfold FunAb
 k_fill
 intros
 rename_i hN hT hk hd hu hret
 have hN1 := news_none hN
 refine wpAny_call ?_
 k_dflt cell_enter
 rename GSub _ _ _ => GS
 have base := mem_of_base0 (fun p hp => (hN p hp).1) GS
 k_steps
 unfold StopHere
 rename Fr _ _ _ _ => F9
 rename News _ _ _ _ => N9
 have z1 := r1.length
 refine for_values F9 N9 rfl (Heap.dictOf_iff.mpr ⟨o1, base _ m1, i1⟩) lo1
  (fun i m' news' gs' => gs' = _ ∧ news' = [] ∧ ∃ t, m' (Str.ofString "nc") = some (.int (((d.take i).map (·.2)).sum) t))
  (ia2 rfl rfl ⟨_, rfl⟩) ?_ ?_ (by rfl) (by rfl) (by rfl) (by rfl) (by decide) (by rfl) (by rfl) (by rfl)
 ·rintro i k v m₁ news₁ h tk' gs it oi E' e hJz
  refine hdG ?_; intro Xh hXh
  refine an2 hJz ?_
  try clear hJz
  rintro hg rfl hZ
  obtain ⟨t1, e1⟩ := hZ
  refine hXh ?_; clear hXh
  rintro hoff F N
  refine hdG ?_; intro Xh hXh
  obtain ⟨x, ex, tv, rfl⟩ := r1.get e
  refine hXh ?_; clear hXh
  have F := Fr_pin F (x := Str.ofString "nc") e1
  k_steps
  rename Fr _ _ _ _ => F2
  rename News _ _ _ _ => N2
  have hs : ((d.take (i + 1)).map (·.2)).sum = ((d.take i).map (·.2)).sum + x := by rw [List.take_add_one, ex]; simp
  refine (⟨.inl rfl, ix5 _ _ _ [] _ (ia6 rfl F2 N2 (fun _ h => nomatch h) hg rfl ?_)⟩)
  rw [hs]
  exact ⟨_, rfl⟩
 ·rintro h' tk gs m' news' F N hJz
  refine hdG ?_; intro Xh hXh
  refine an2 hJz ?_
  try clear hJz
  rintro hg rfl hZ
  obtain ⟨t1, e1⟩ := hZ
  have hg : gs = _ := hg
  subst hg
  refine hXh ?_; clear hXh
  have F := Fr_pin F (x := Str.ofString "nc") e1
  dsimp only
  k_steps
  refine funA_ret hret hN1 GS F N (fun p hp => nomatch hp) fun tl' htl => ?_
  rw [z1, List.take_length]
  exact ⟨_, rfl⟩
end E_count
theorem count (w : World) (mg mb) {t : Addr} {d : List (Int × Int)} {led : List (Addr × Obj)} (h1 : DictIn w IntV led t d) : FunA 4 w mg mb 295 [.ref t] led (fun r tl => IntV r ((d.map (·.2)).sum)) := fun dpzz unzz gdzz cnzz cszz azz ccdzz clzz outerzz A₀zz basezz h₀zz Lzz mzz szz Qzz Ezz => bag_all (P := E_count.theP) (by with_unfolding_all exact @E_count.core) { bag0 with A := nth [A₀zz, A₀zz, A₀zz] bag0.A, addr := nth [azz, Lzz, azz, t] bag0.addr, cl := nth [clzz, clzz, clzz] bag0.cl, fr := nth [mzz, mzz, mzz, mg, mb] bag0.fr, gd := nth [gdzz, gdzz, gdzz] bag0.gd, heap := nth [basezz, h₀zz, basezz] bag0.heap, iis := nth [d, d, d, d] bag0.iis, led := nth [led, led, led, led] bag0.led, nat := nth [dpzz, unzz, dpzz] bag0.nat, outer := nth [outerzz, outerzz, outerzz] bag0.outer, qv := nth [Qzz, Ezz, Qzz] bag0.qv, s := nth [szz, szz, szz] bag0.s, scope := nth [cszz, cszz, cszz] bag0.scope, str := nth [cnzz, cnzz, cnzz] bag0.str, val := nth [ccdzz, ccdzz, ccdzz] bag0.val, w := nth [w, w, w, w] bag0.w } h1
end Mine
end
section
theorem Mine.clearA4 : True := by
 k_with_none
 trivial
open PySem PySem.W PyProof.Rows PySem.Calls PySem.Spec
set_option Elab.async false
set_option maxRecDepth 100000
namespace Mine
theorem rowsA4a : True := by
 k_with_none
 (k_with "mine lt" => with_reducible first | assumption | exact cj0 ‹_› | exact cj1 ‹_› | exact cj2 ‹_› | exact cj3 ‹_› | exact cj4 ‹_› | exact cj5 ‹_› | exact cj6 ‹_› | exact cj7 ‹_› | exact cj8 ‹_› | exact cj9 ‹_› | exact cj10 ‹_› | exact cj11 ‹_› | exact cj12 ‹_› | exact cj13 ‹_› | exact cj14 ‹_› | exact cj15 ‹_› | exact dk1 ‹_› | exact dk2 ‹_› | exact dk3 ‹_› | exact dk4 ‹_› | exact dk5 ‹_› | exact dk6 ‹_› | exact dk7 ‹_› | exact dk8 ‹_› | exact dk9 ‹_› | exact dk10 ‹_› | exact dk11 ‹_› | exact dk12 ‹_› | exact dk13 ‹_› | exact dk14 ‹_› | exact dk15 ‹_›)
 (k_with "mine k_ne" => (refine neN ?_; (try dsimp only); first | with_reducible assumption | exact Ne.symm (by with_reducible assumption) | exact Nat.ne_of_lt (by k_extra "mine lt") | exact Nat.ne_of_gt (by k_extra "mine lt") | grind))
 (k_with "mine cell_enter" => (refine' code_defR (by exact rfl) (by exact rfl) (by assumption) (by k_asm) (by k_asm) (by k_asm) (by k_asm) (by k_asm) (by k_is) (by k_is) (by ktr_room) (by exact BindsTo.of_eq rfl) (by exact locs rfl) ?_ (by exact rfl) (by exact rfl) (by exact rfl) (by decide); k_whole; intro g'xq L'xq h'xq tkEq FG'xq F'xq N'xq B'xq X'xq T'xq GS'xq; (try dsimp only); (try k_lift B'xq); (try k_fold)))
 (k_with "mine exec For" => (refine stopAt ?_))
 (k_with "mine exec For Name Call cons nil" => (refine stopAt ?_))
 (k_with "mine exec For Name Name cons nil" => (refine stopAt ?_))
 (k_with "mine exec For Tuple" => (refine stopAt ?_))
 (k_with "mine k_all" => (assumption))
 (k_with "mine setItem ref int" => (k_here; k_dflt (refine' kda_set (knd := PySem.intKind _ _) (by k_asm) (by k_asm) (by k_updF) (by k_asm) (intKind_is _ _ _ _) (by assumption) ?_); intro h'xq o'xq F'xq N'xq hd'xq; (try dsimp only at N'xq); (try k_sweep)))
 (k_with "mine subscriptTail" => (k_here; k_dflt (refine' kda_item (knd := PySem.intKind _ _) (by k_asm) (by k_mem) (by k_asm) (intKind_is _ _ _ _) (by assumption) ?_ (by with_unfolding_all rfl) (by intro _; with_unfolding_all rfl))))
 trivial
noncomputable abbrev lstO (vs : List Value) (n : Nat) : Obj := { cls := .type "list", data := .seq vs.toArray n }
noncomputable def IntsIn (l : List (Addr × Obj)) (a : Addr) (ns : List Int) : Prop := ∃ vs n, (a, lstO vs n) ∈ l ∧ IntsAre vs ns
theorem IntsIn.heap {l : List (Addr × Obj)} {a : Addr} {ns : List Int} (h : IntsIn l a ns) {hp : Heap} (k : ∀ p ∈ l, hp.get? p.1 = some p.2) : ∃ vs, hp.IsList a vs.toArray ∧ IntsAre vs ns :=
 let ⟨vs, n, mm, i⟩ := h; ⟨vs, (⟨_, ia2 (k _ mm) rfl ⟨n, rfl⟩⟩), i⟩
theorem get2I {prog : Program} {w : World} {A : Around} {E : Value → Shared → Prop} {s : Shared} {h₀ : Heap} {L d : Addr} {news : List (Addr × Obj)} {o : Obj} {kvs : List (Int × Value)} {dd : List (Int × Int)} {k z : Int} {t u : Tok} {Q : Value → Shared → Prop} (N : News h₀ L s.heap news) (hp : (d, o) ∈ news) (hd : o.IsDictOf (intKind prog w) kvs) (lo : (d == sysModules) = false) (hr : Rep IntV kvs dd)
  (h : ∀ t', Q (.int ((dLook dd k).getD z) t') { s with toks := s.toks + 1 }) : wpAny (model prog w) A (call (.builtin "dict.get") [.ref d, .int k t, .int z u]) Q E s := by
 refine kdg_get2 N hp hd lo (intKind_is _ _ _ _) (valueAt kvs k) rfl ?_
 rcases hr.look k with ⟨e1, e2⟩ | ⟨v, x, e1, e2, t', rfl⟩
 ·have := h u; rw [e2] at this; rw [e1]; exact this
 ·have := h t'; rw [e2] at this; rw [e1]; exact this
theorem rowsA4b : True := by
 (k_with "mine call builtin:dict.get" => (k_here; k_dflt (refine' get2I (by k_asm) (by k_mem) (by k_asm) (by k_asm) (by assumption) ?_); intro t9xq))
 (k_with "mine getMethod ref" => (k_here; (with_reducible show wpAny _ _ (getMethod (Value.ref _) (Str.ofString "get") _) _ _ _); k_dflt (refine' kdg_method (knd := PySem.intKind _ _) (by k_asm) (by k_mem) (by k_asm) ?_)))
 trivial
noncomputable def dBump (z : Int) (d : List (Int × Int)) (k : Int) : List (Int × Int) := dPut d k ((dLook d k).getD 0 + z)
noncomputable def lessD (a b : List Int) : List (Int × Int) := b.foldl (dBump (-1)) (a.foldl (dBump 1) [])
namespace E_less
noncomputable def theP (zC : Bag) : Prop :=
 let w := zC.w 3; let mg := zC.fr 3; let mb := zC.fr 4; let a := zC.addr 3; let b := zC.addr 4; let p := zC.il 3; let q := zC.il 4; let led := zC.led 3;
 ∀ (h1 : IntsIn led a p) (h2 : IntsIn led b q) (hz : p.length + q.length ≤ 1000), FunAb zC 4 w mg mb 333 [.ref a, .ref b] led (fun r tl => ∃ D, r = .ref D ∧ DictIn w IntV tl D (lessD p q))
@[irreducible] def tB : Bag := bagOf theP
@[irreducible] def w := tB.w 3
@[irreducible] def mg := tB.fr 3
@[irreducible] def mb := tB.fr 4
@[irreducible] def a := tB.addr 3
@[irreducible] def b := tB.addr 4
@[irreducible] def p := tB.il 3
@[irreducible] def q := tB.il 4
@[irreducible] def led := tB.led 3
set_option maxHeartbeats 4000000 in
theorem core (h1 : IntsIn led a p) (h2 : IntsIn led b q) (hz : p.length + q.length ≤ 1000) : FunAb tB 4 w mg mb 333 [.ref a, .ref b] led (fun r tl => ∃ D, r = .ref D ∧ DictIn w IntV tl D (lessD p q)) := by
 w_on
 unfold FunAb
 k_fill
 intros
 rename_i hN hT hk hd hu hret
 have hN1 := news_none hN
 refine wpAny_call ?_
 k_dflt cell_enter
 rename GSub _ _ _ => GS
 have base := mem_of_base0 (fun p hp => (hN p hp).1) GS
 refine hdG ?_; intro Xh hXh
 obtain ⟨va, la, ia⟩ := h1.heap base
 obtain ⟨vb, lb, ib⟩ := h2.heap base
 refine hXh ?_; clear hXh
 have za := ia.length
 have zb := ib.length
 k_steps
 unfold StopHere
 rename Addr => D
 rename Fr _ _ _ _ => F9
 rename News _ _ _ _ => N9
 rename (D == sysModules) = false => loD
 rename Obj.IsDictOf (intKind _ _) _ [] => hD0
 refine for_list F9 N9 rfl la
  (fun i m' news' gs' => gs' = _ ∧ m' (Str.ofString "less") = some (.ref D) ∧ m' (Str.ofString "others") = some (.ref b) ∧ ∃ o kvs, news' = [(D, o)] ∧ o.IsDictOf (intKind _ _) kvs ∧ Rep IntV kvs ((p.take i).foldl (dBump 1) []) ∧ kvs.length ≤ i)
  (ia3 rfl rfl rfl (ix2 _ _ (ia3 rfl hD0 .nil (Nat.le_refl _)))) ?_ ?_ (by rfl) (by rfl) (by rfl) (by rfl) (by decide) (by rfl)
 ·rintro i v m₁ news₁ h tk' gs it oi E' hi e hJz
  refine hdG ?_; intro Xh hXh
  refine an3 hJz ?_
  try clear hJz
  rintro hg e1 e2 hZ
  refine ex2 hZ ?_
  clear hZ
  rintro o kvs hZ
  refine an3 hZ ?_
  clear hZ
  rintro rfl hd9 hr hle
  refine hXh ?_; clear hXh
  rintro hoff F N
  refine hdG ?_; intro Xh hXh
  refine ex2 (ints_get ia e) ?_
  rintro x t1 hZ
  obtain ⟨ex, rfl⟩ := hZ
  refine hXh ?_; clear hXh
  have F := Fr_pin (Fr_pin F (x := Str.ofString "others") e2) (x := Str.ofString "less") e1
  have q1 := hoff _ (.head _)
  dsimp only at q1
  rw [List.size_toArray] at hi
  have hsz : kvs.length ≤ sizeLine := by rw [sizeLine_eq]; grind
  k_steps
  rename Fr _ _ _ _ => F2
  rename News _ _ _ _ => N2
  rename Obj.IsDictOf _ _ _ => hd2
  refine (⟨.inl rfl, ix5 _ _ _ [(D, _)] _ (ia7 rfl F2 N2 ?_ hg rfl rfl (ix2 _ _ (ia3 rfl hd2 ?_ ?_)))⟩)
  ·intro p hp
   rw [List.mem_singleton.mp hp]
   simpa using q1
  ·rw [show (p.take (i + 1)).foldl (dBump 1) [] = _ from foldl_take_succ _ _ _ ex]
   exact hr.put x ⟨_, rfl⟩
  ·exact Nat.le_trans (stored_length_le _ _ _) (by grind)
 ·rintro h' tk gs m' news' F N hJz
  refine hdG ?_; intro Xh hXh
  refine an3 hJz ?_
  try clear hJz
  rintro hg e1 e2 hZ
  refine ex2 hZ ?_
  clear hZ
  rintro o kvs hZ
  refine an3 hZ ?_
  clear hZ
  rintro rfl hd9 hr hle
  have hg : gs = _ := hg
  subst hg
  refine hXh ?_; clear hXh
  have F := Fr_pin (Fr_pin F (x := Str.ofString "others") e2) (x := Str.ofString "less") e1
  rw [List.size_toArray] at hr hle
  rw [za, List.take_length] at hr
  dsimp only
  k_steps
  unfold StopHere
  refine for_list F N rfl lb
   (fun i m' news' gs' => gs' = _ ∧ m' (Str.ofString "less") = some (.ref D) ∧ ∃ o kvs, news' = [(D, o)] ∧ o.IsDictOf (intKind _ _) kvs ∧ Rep IntV kvs ((q.take i).foldl (dBump (-1)) (p.foldl (dBump 1) [])) ∧ kvs.length ≤ p.length + i)
   (ia2 rfl rfl (ix2 _ _ (ia3 rfl hd9 hr (by grind)))) ?_ ?_ (by rfl) (by rfl) (by rfl) (by rfl) (by decide) (by rfl)
  ·rintro i v m₁ news₁ h tk' gs it oi E' hi e hJz
   refine hdG ?_; intro Xh hXh
   refine an2 hJz ?_
   try clear hJz
   rintro hg e1 hZ
   refine ex2 hZ ?_
   clear hZ
   rintro o kvs hZ
   refine an3 hZ ?_
   clear hZ
   rintro rfl hd9 hr hle
   refine hXh ?_; clear hXh
   rintro hoff F N
   refine hdG ?_; intro Xh hXh
   refine ex2 (ints_get ib e) ?_
   rintro x t1 hZ
   obtain ⟨ex, rfl⟩ := hZ
   refine hXh ?_; clear hXh
   have F := Fr_pin F (x := Str.ofString "less") e1
   have q1 := hoff _ (.head _)
   dsimp only at q1
   rw [List.size_toArray] at hi
   have hsz : kvs.length ≤ sizeLine := by rw [sizeLine_eq]; grind
   k_steps
   rename Fr _ _ _ _ => F2
   rename News _ _ _ _ => N2
   rename Obj.IsDictOf _ _ _ => hd2
   refine (⟨.inl rfl, ix5 _ _ _ [(D, _)] _ (ia6 rfl F2 N2 ?_ hg rfl (ix2 _ _ (ia3 rfl hd2 ?_ ?_)))⟩)
   ·intro p hp
    rw [List.mem_singleton.mp hp]
    simpa using q1
   ·rw [show (q.take (i + 1)).foldl (dBump (-1)) (p.foldl (dBump 1) []) = _ from foldl_take_succ _ _ _ ex]
    exact hr.put x ⟨_, rfl⟩
   ·exact Nat.le_trans (stored_length_le _ _ _) (by grind)
  ·rintro h' tk gs m' news' F N hJz
   refine hdG ?_; intro Xh hXh
   refine an2 hJz ?_
   try clear hJz
   rintro hg e1 hZ
   refine ex2 hZ ?_
   clear hZ
   rintro o kvs hZ
   refine an3 hZ ?_
   clear hZ
   rintro rfl hd9 hr hle
   have hg : gs = _ := hg
   subst hg
   refine hXh ?_; clear hXh
   have F := Fr_pin F (x := Str.ofString "less") e1
   rw [List.size_toArray] at hr
   rw [zb, List.take_length] at hr
   dsimp only
   k_steps
   exact funA_ret hret hN1 GS F N (fun p hp => nomatch hp) fun tl' htl => (⟨D, ⟨rfl, ix2 o kvs (ia3 (htl _ (.head _) (by simp)) hd9 hr loD)⟩⟩)
end E_less
theorem less (w : World) (mg mb) {a b : Addr} {p q : List Int} {led : List (Addr × Obj)} (h1 : IntsIn led a p) (h2 : IntsIn led b q) (hz : p.length + q.length ≤ 1000) : FunA 4 w mg mb 333 [.ref a, .ref b] led (fun r tl => ∃ D, r = .ref D ∧ DictIn w IntV tl D (lessD p q)) := fun dpzz unzz gdzz cnzz cszz azz ccdzz clzz outerzz A₀zz basezz h₀zz Lzz mzz szz Qzz Ezz => bag_all (P := E_less.theP) (by with_unfolding_all exact @E_less.core) { bag0 with A := nth [A₀zz, A₀zz, A₀zz] bag0.A, addr := nth [azz, Lzz, azz, a, b] bag0.addr, cl := nth [clzz, clzz, clzz] bag0.cl, fr := nth [mzz, mzz, mzz, mg, mb] bag0.fr, gd := nth [gdzz, gdzz, gdzz] bag0.gd, heap := nth [basezz, h₀zz, basezz] bag0.heap, il := nth [p, p, p, p, q] bag0.il, led := nth [led, led, led, led] bag0.led, nat := nth [dpzz, unzz, dpzz] bag0.nat, outer := nth [outerzz, outerzz, outerzz] bag0.outer, qv := nth [Qzz, Ezz, Qzz] bag0.qv, s := nth [szz, szz, szz] bag0.s, scope := nth [cszz, cszz, cszz] bag0.scope, str := nth [cnzz, cnzz, cnzz] bag0.str, val := nth [ccdzz, ccdzz, ccdzz] bag0.val, w := nth [w, w, w, w] bag0.w } h1 h2 hz
end Mine
end
section
open PySem PySem.W PyProof.Rows PySem.Calls PySem.Spec
set_option Elab.async false
set_option maxRecDepth 100000
namespace Mine
section
variable {prog : Program} {w : World} {A : Around} {s : Shared} {env : Env} {h₀ : Heap} {m : Str → Option Value} {news : List (Addr × Obj)}
noncomputable def LoopPair (prog : Program) (w : World) (A : Around) (h₀ : Heap) (env : Env) (xi xc : Str) (body : List Stmt) (Q : Flow → Shared → Prop) (it : Value) (s₂ : Shared) : Prop :=
   ∃ (I : Addr) (fp wr own₀ : List Addr) (n : Nat) (Pt : Nat → Array Value → Prop) (St : Nat → Heap → Prop) (Mid : Nat → Addr → Heap → Prop) (P2 : Nat → Value → Value → Prop) (m : Str → Option Value) (news : List (Addr × Obj))
    (J : Nat → (Str → Option Value) → List (Addr × Obj) → Array GenState → Prop),
    it = .ref I ∧ WalksT prog w A I fp wr n Pt St Mid ∧ (∀ i vals, Pt i vals → ∃ v0 v1, vals = #[v0, v1] ∧ P2 i v0 v1) ∧ (∀ b ∈ fp, b ∈ own₀ ∨ ∃ o, h₀.get? b = some o) ∧ (∀ b ∈ wr, b ∈ own₀) ∧ (∀ b ∈ own₀, b ≠ env.locals ∧ h₀.get? b = none) ∧
    (∀ i h, St i h → ∀ b ∈ own₀, ∃ o, h.get? b = some o) ∧ (∀ p ∈ news, p.1 ∉ own₀) ∧ St 0 s₂.heap ∧ Fr h₀ env.locals s₂.heap m ∧ News h₀ env.locals s₂.heap news ∧ J 0 m news s₂.gens ∧
    (∀ i v0 v1 m₁ news₁ s₁ own E', (∃ h tk gs, s₁ = { s₂ with heap := h, toks := tk, gens := gs }) → i < n → P2 i v0 v1 → J i m₁ news₁ s₁.gens → (∀ p ∈ news₁, p.1 ∉ own₀) → own.map (·.1) = own₀ →
     Fr h₀ env.locals s₁.heap (fun y => if y = xc then some v1 else if y = xi then some v0 else m₁ y) → News h₀ env.locals s₁.heap (own ++ news₁) →
     wpAny (model prog w) A (execs body env) (TurnEnd h₀ env.locals own (J (i + 1)) s₁) E' s₁) ∧
    (∀ h' tk gs m' news', Fr h₀ env.locals h' m' → News h₀ env.locals h' news' → (∀ p ∈ news', p.1 ∉ own₀) → J n m' news' gs → Q .next { s₂ with heap := h', toks := tk, gens := gs })
theorem for2 {E : Value → Shared → Prop} {Q : Flow → Shared → Prop} {xi xc : Str} {pk pv pt pos : Pos} {x1 : Nat} {iter : Expr} {body : List Stmt} (_F : Fr h₀ env.locals s.heap m) (hh : A.handled = none)
  (hxi : env.kindOf xi = some .local) (hxc : env.kindOf xc = some .local)
  (hp : (env.scope.kind == .class || (env.scope.kind == .module && env.locals != env.globals)) = false)
  (h : wpAny (model prog w) A (eval iter env) (fun xv s₁ => wpAny (model prog w) A (pyIter xv) (LoopPair prog w A h₀ env xi xc body Q) E s₁) E s)
  (hs : ∀ x, foldedSetIterable iter env x = pure x := by intro _; rfl) :
  wpAny (model prog w) A (exec (.For (.Tuple [.Name xi pk, .Name xc pv] x1 pt) iter body [] pos) env) Q E s := for_pairs (h₀ := h₀) hh hxi hxc hp h hs
theorem own_two {own : List (Addr × Obj)} {a b : Addr} (h : own.map (·.1) = [a, b]) : ∃ oa ob, own = [(a, oa), (b, ob)] := by
 cases own with
 | nil => cases h
 | cons p r =>
  obtain ⟨c, oa⟩ := p
  rw [List.map_cons] at h
  obtain ⟨ob, rfl⟩ := Mine.own_one (List.cons.inj h).2
  have h1 : c = a := (List.cons.inj h).1
  subst h1
  exact (ix2 oa ob rfl)
theorem iter_enum {E : Value → Shared → Prop} {xi xc : Str} {body : List Stmt} {Q : Flow → Shared → Prop} {l : Addr} {items : Array Value} (F : Fr h₀ env.locals s.heap m) (N : News h₀ env.locals s.heap news) (hl : h₀.IsList l items) (hh : A.handled = none)
  (J : Nat → (Str → Option Value) → List (Addr × Obj) → Array GenState → Prop) (h0 : J 0 m news s.gens)
  (step : ∀ i v t m₁ news₁ h tk gs e it oe oi E', i < items.size → items[i]? = some v → J i m₁ news₁ gs → (∀ p ∈ news₁, @Ne Nat p.1 e ∧ @Ne Nat p.1 it) → @Ne Nat e it → Fr h₀ env.locals h (fun y => if y = xc then some v else if y = xi then some (.int i t) else m₁ y) → News h₀ env.locals h ((e, oe) :: (it, oi) :: news₁) →
   wpAny (model prog w) A (execs body env) (TurnEnd h₀ env.locals [(e, oe), (it, oi)] (J (i + 1)) { s with heap := h, toks := tk, gens := gs }) E' { s with heap := h, toks := tk, gens := gs })
  (done : ∀ h' tk gs m' news', Fr h₀ env.locals h' m' → News h₀ env.locals h' news' → J items.size m' news' gs → Q .next { s with heap := h', toks := tk, gens := gs }) :
  wpAny (model prog w) A (call (.type "enumerate") [.ref l]) (fun xv s₁ => wpAny (model prog w) A (pyIter xv) (LoopPair prog w A h₀ env xi xc body Q) E s₁) E s := by
 have hls : s.heap.IsList l items := hl.at fun o e => F.keep l o e
 refine call_enumerate_list hls fun h' he hit hz keep => wpAny_pyIter_enum he ?_
 obtain ⟨ol, hol, _⟩ := id hl
 refine ex3 F.ns ?_
 rintro oL _ _ hZ
 obtain ⟨hL, _⟩ := hZ
 have lt : l < s.heap.objs.size := Heap.lt_size (F.keep _ _ hol)
 have fresh : ∀ b o, s.heap.get? b = some o → b ≠ s.heap.objs.size ∧ b ≠ s.heap.objs.size + 1 := fun b o e => ⟨Nat.ne_of_lt (Heap.lt_size e), Nat.ne_of_lt (Nat.lt_succ_of_lt (Heap.lt_size e))⟩
 have n1 : s.heap.objs.size + 1 ≠ s.heap.objs.size := Nat.succ_ne_self _
 refine (ix6 (s.heap.objs.size + 1) [s.heap.objs.size + 1, s.heap.objs.size, l] [s.heap.objs.size + 1, s.heap.objs.size] [s.heap.objs.size + 1, s.heap.objs.size] items.size _ (ix6 _ _ (fun i v0 v1 => items[i]? = some v1 ∧ ∃ t, v0 = .int i t) m news J (ia8 rfl (WalksT.enumerate hh _ _ l n1 (Nat.ne_of_lt (Nat.lt_succ_of_lt lt)) (Nat.ne_of_lt lt) items) ?_ (fun b hb => ?_) (fun b hb => hb) (fun b hb => ?_) (fun i h st b hb => ?_) (fun p hp hb => ?_) (ia5 (ia2 ⟨_, he⟩ hit (hls.at fun o e => keep l o e)) (F.keeps keep) (fun p hp => ⟨keep _ _ (N p hp).1, (N p hp).2⟩) h0 ?_ ?_))))
 ·rintro i vals ⟨t, x, e, rfl⟩
  exact (ix2 _ _ (ia2 rfl e ⟨t, rfl⟩))
 ·simp only [List.mem_cons, List.not_mem_nil, or_false] at hb ⊢
  rcases hb with h | h | h
  ·exact .inl (.inl h)
  ·exact .inl (.inr h)
  ·exact .inr ⟨ol, h ▸ hol⟩
 ·have key : b ≠ env.locals ∧ s.heap.get? b = none := by
   simp only [List.mem_cons, List.not_mem_nil, or_false] at hb
   rcases hb with rfl | rfl
   ·exact ⟨fun e => (fresh _ _ hL).2 e.symm, by cases e : s.heap.get? (s.heap.objs.size + 1) with | none => rfl | some o => exact absurd rfl (fresh _ _ e).2⟩
   ·exact ⟨fun e => (fresh _ _ hL).1 e.symm, by cases e : s.heap.get? s.heap.objs.size with | none => rfl | some o => exact absurd rfl (fresh _ _ e).1⟩
  refine ⟨key.1, ?_⟩
  cases e : h₀.get? b with
  | none => rfl
  | some o => have := F.keep _ _ e; rw [key.2] at this; cases this
 ·simp only [List.mem_cons, List.not_mem_nil, or_false] at hb
  refine an2 st ?_
  try clear st
  rintro ⟨_, a⟩ ⟨_, b', _⟩ _
  rcases hb with rfl | rfl
  ·exact ⟨_, a⟩
  ·exact ⟨_, b'⟩
 ·simp only [List.mem_cons, List.not_mem_nil, or_false] at hb
  rcases hb with h | h
  ·exact (fresh _ _ (N p hp).1).2 h
  ·exact (fresh _ _ (N p hp).1).1 h
 ·rintro i v0 v1 m₁ news₁ s₁ own E' ⟨h, tk, gs, rfl⟩ hi ⟨e, t, rfl⟩ hJ hoff ho F₁ N₁
  refine ex2 (own_two ho) ?_
  rintro oe oi rfl
  exact step i v1 t m₁ news₁ h tk gs _ _ oe oi E' hi e hJ (fun p hp => ⟨fun q => hoff p hp (by simp only [List.mem_cons]; exact .inl q), fun q => hoff p hp (by simp only [List.mem_cons, List.not_mem_nil, or_false]; exact .inr q)⟩) n1 F₁ N₁
 ·intro h' tk gs m' news' F' N' _ hJ
  exact done h' tk gs m' news' F' N' hJ
end
noncomputable def FunU (k : Nat) (w : World) (mg mb : Str → Option Value) (f : Addr) (vs : List Value) (led : List (Addr × Obj)) (d : Addr) (o : Obj) (P : Value → Obj → List (Addr × Obj) → Prop) : Prop :=
 ∀ (dp un : Nat) (gd : Option (List Code)) (cn : Str) (cs : Scope) (a : Addr) (ccd : Value) (cl : List (Str × Addr)) (outer : List Env) (A₀ : Around) (base h₀ : Heap) (L : Addr) (m : Str → Option Value) (s : Shared) (Q E : Value → Shared → Prop),
  Below A₀ base outer h₀ → Fr h₀ L s.heap m → (Mine.hdX.heap_1 w.params).In h₀ → News h₀ L s.heap ((d, o) :: led) → TopRead qv (looseW qv loose) mg mb h₀ → cs.kind = .function →
  dp + k < recursionLimit → un + 16 * k < cLine →
  (∀ (r : Value) (o' : Obj) (tl : List (Addr × Obj)) (h' : Heap) (tk' : Nat), (∀ b o, b ≠ d → s.heap.get? b = some o → h'.get? b = some o) → h'.get? d = some o' → (∀ p ∈ tl, h'.get? p.1 = some p.2 ∧ s.heap.get? p.1 = none) → P r o' tl → Q r { s with heap := h', toks := tk' }) →
   wpAny (model PySem.Challenge.rw_wv0062_01.row.prog w) (ktrTop dp un gd cn cs L a ccd cl outer) (call (.ref f) vs) Q E s
noncomputable def FunUb (c : Bag) (k : Nat) (w : World) (mg mb : Str → Option Value) (f : Addr) (vs : List Value) (led : List (Addr × Obj)) (d : Addr) (o : Obj) (P : Value → Obj → List (Addr × Obj) → Prop) : Prop :=
  Below (c.A 0) (c.heap 0) (c.outer 0) (c.heap 1) → Fr (c.heap 1) (c.addr 1) (c.s 0).heap (c.fr 0) → (Mine.hdX.heap_1 w.params).In (c.heap 1) → News (c.heap 1) (c.addr 1) (c.s 0).heap ((d, o) :: led) → TopRead qv (looseW qv loose) mg mb (c.heap 1) → (c.scope 0).kind = .function →
  (c.nat 0) + k < recursionLimit → (c.nat 1) + 16 * k < cLine →
  (∀ (r : Value) (o' : Obj) (tl : List (Addr × Obj)) (h' : Heap) (tk' : Nat), (∀ b o, b ≠ d → (c.s 0).heap.get? b = some o → h'.get? b = some o) → h'.get? d = some o' → (∀ p ∈ tl, h'.get? p.1 = some p.2 ∧ (c.s 0).heap.get? p.1 = none) → P r o' tl → (c.qv 0) r { (c.s 0) with heap := h', toks := tk' }) →
   wpAny (model PySem.Challenge.rw_wv0062_01.row.prog w) (ktrTop (c.nat 0) (c.nat 1) (c.gd 0) (c.str 0) (c.scope 0) (c.addr 1) (c.addr 0) (c.val 0) (c.cl 0) (c.outer 0)) (call (.ref f) vs) (c.qv 0) (c.qv 1) (c.s 0)
theorem funU_use0 {k : Nat} {w : World} {mg mb : Str → Option Value} {f : Addr} {vs : List Value} {led : List (Addr × Obj)} {d : Addr} {o : Obj} {P : Value → Obj → List (Addr × Obj) → Prop} (C : FunU k w mg mb f vs led d o P) {news : List (Addr × Obj)} {dp un : Nat} {gd : Option (List Code)} {cn : Str} {cs : Scope} {a : Addr} {ccd : Value} {cl : List (Str × Addr)} {outer : List Env} {A₀ : Around} {base h₀ : Heap} {L : Addr} {m : Str → Option Value} {s : Shared} {g : Obj → List (Addr × Obj)} {Q E : Value → Shared → Prop}
  (B : Below A₀ base outer h₀) (F : Fr h₀ L s.heap m) (X : (Mine.hdX.heap_1 w.params).In h₀) (N : News h₀ L s.heap news) (T : TopRead qv (looseW qv loose) mg mb h₀) (U : UpdF d o news g) (hk : cs.kind = .function) (hd : dp + k < recursionLimit) (hu : un + 16 * k < cLine) (hl : ∀ p ∈ led, p ∈ news)
  (ret : ∀ (r : Value) (o' : Obj) (tl : List (Addr × Obj)) (h' : Heap) (tk' : Nat), Fr h₀ L h' m → News h₀ L h' (tl ++ g o') → (∀ p ∈ tl, ∀ q ∈ news, @Ne Nat q.1 p.1) → P r o' tl → Q r { s with heap := h', toks := tk' }) :
  wpAny (model PySem.Challenge.rw_wv0062_01.row.prog w) (ktrTop dp un gd cn cs L a ccd cl outer) (call (.ref f) vs) Q E s := by
 refine ex2 U.split ?_
 rintro pre post hZ
 refine an3 hZ ?_
 clear hZ
 rintro rfl hg ua ub
 have hP := N (d, o) (List.mem_append_right _ (.head _))
 refine C _ _ _ _ _ _ _ _ _ _ _ _ _ _ _ _ _ B F X (fun p hp => ?_) T hk hd hu fun r o' tl h' tk' keep hd' fr hP' => ?_
 ·rcases List.mem_cons.mp hp with rfl | hp
  ·exact hP
  ·exact N p (hl p hp)
 refine ex3 F.ns ?_
 rintro oL e1 e2 hZ
 obtain ⟨hL, e3⟩ := hZ
 have n0 : h₀.get? d = none := hP.2.2
 have kb : ∀ b o, h₀.get? b = some o → h'.get? b = some o := fun b o e => keep b o (fun q => by rw [q, n0] at e; cases e) (F.keep b o e)
 have F' : Fr h₀ L h' m := ⟨(ix3 oL e1 e2 ⟨keep L oL (Ne.symm hP.2.1) hL, e3⟩), kb, F.above⟩
 refine ret r o' tl h' tk' F' (fun p hp => ?_) (fun p hp q hq e => ?_) hP'
 ·rcases List.mem_append.mp hp with hp | hp
  ·have z := fr p hp
   refine (ia2 z.1 (fun e => ?_) ?_)
   ·rw [e, hL] at z; cases z.2
   ·cases e : h₀.get? p.1 with
    | none => rfl
    | some o => rw [F.keep _ _ e] at z; cases z.2
  ·rw [hg] at hp
   rcases List.mem_append.mp hp with hp | hp
   ·have z := N p (List.mem_append_left _ hp)
    exact ⟨keep _ _ (ua p hp) z.1, z.2⟩
   ·rcases List.mem_cons.mp hp with rfl | hp
    ·exact ⟨hd', hP.2⟩
    ·have z := N p (List.mem_append_right _ (.tail _ hp))
     exact ⟨keep _ _ (ub p hp) z.1, z.2⟩
 ·have z := (fr p hp).2
  have e' : q.1 = p.1 := e
  rw [← e', (N q hq).1] at z
  cases z
theorem funU_use {k : Nat} {w : World} {mg mb : Str → Option Value} {f : Addr} {vs : List Value} {led : List (Addr × Obj)} {d : Addr} {o : Obj} {P : Value → Obj → List (Addr × Obj) → Prop} (C : FunU k w mg mb f vs led d o P) {news : List (Addr × Obj)} {dp un : Nat} {gd : Option (List Code)} {cn : Str} {cs : Scope} {a : Addr} {ccd : Value} {cl : List (Str × Addr)} {outer : List Env} {A₀ : Around} {base h₀ : Heap} {L : Addr} {m : Str → Option Value} {hs : Heap} {gs : Array GenState} {dr : Drawn} {tk : Nat} {os : OsState} {g : Obj → List (Addr × Obj)} {Q E : Value → Shared → Prop}
  (B : Below A₀ base outer h₀) (F : Fr h₀ L hs m) (X : (Mine.hdX.heap_1 w.params).In h₀) (N : News h₀ L hs news) (T : TopRead qv (looseW qv loose) mg mb h₀) (U : UpdF d o news g) (hk : cs.kind = .function) (hd : dp + k < recursionLimit) (hu : un + 16 * k < cLine) (hl : ∀ p ∈ led, p ∈ news)
  (ret : ∀ (r : Value) (o' : Obj) (tl : List (Addr × Obj)) (h' : Heap) (tk' : Nat), Fr h₀ L h' m → News h₀ L h' (tl ++ g o') → (∀ p ∈ tl, ∀ q ∈ news, @Ne Nat q.1 p.1) → P r o' tl → Q r ⟨h', gs, dr, tk', os⟩) :
  wpAny (model PySem.Challenge.rw_wv0062_01.row.prog w) (ktrTop dp un gd cn cs L a ccd cl outer) (call (.ref f) vs) Q E ⟨hs, gs, dr, tk, os⟩ :=
 funU_use0 (s := ⟨hs, gs, dr, tk, os⟩) C B F X N T U hk hd hu hl ret
theorem funU_ret {d : Addr} {o' : Obj} {P : Value → Obj → List (Addr × Obj) → Prop} {s : Shared} {Q : Value → Shared → Prop} {r : Value} {h' g : Heap} {L' : Addr} {m' : Str → Option Value} {tk' : Nat} {en all : List (Addr × Obj)} {h₁ : Heap} {L₁ : Addr}
  (hret : ∀ (r : Value) (o' : Obj) (tl : List (Addr × Obj)) (h' : Heap) (tk' : Nat), (∀ b o, b ≠ d → s.heap.get? b = some o → h'.get? b = some o) → h'.get? d = some o' → (∀ p ∈ tl, h'.get? p.1 = some p.2 ∧ s.heap.get? p.1 = none) → P r o' tl → Q r { s with heap := h', toks := tk' })
  (N₁ : News h₁ L₁ s.heap en) (GS : GSub s.heap g (en.map (·.1))) (F' : Fr g L' h' m') (N' : News g L' h' all) (hd : (d, o') ∈ all) (hen : ∀ p ∈ en, p.1 = d ∨ p ∈ all)
  (hP : ∀ tl, (∀ p ∈ all, p.1 ∉ en.map (·.1) → p ∈ tl) → P r o' tl) : Q r { s with heap := h', toks := tk' } := by
 refine hret r o' (all.filter fun p => decide (p.1 ∉ en.map (·.1))) h' tk' (fun b ob nb e => ?_) (N' _ hd).1 (fun p hp => ?_) (hP _ fun p hp h1 => List.mem_filter.mpr ⟨hp, decide_eq_true h1⟩)
 ·by_cases hb : b ∈ en.map (·.1)
  ·obtain ⟨q, hq, rfl⟩ := List.mem_map.mp hb
   rcases hen q hq with h | h
   ·exact absurd h nb
   ·have h1 := (N₁ q hq).1
    rw [e] at h1
    rw [Option.some.inj h1]
    exact (N' q h).1
  ·exact F'.keep b ob (GS b ob e hb)
 ·obtain ⟨h1, h2⟩ := List.mem_filter.mp hp
  have h2 := of_decide_eq_true h2
  refine ⟨(N' p h1).1, ?_⟩
  cases e : s.heap.get? p.1 with
  | none => rfl
  | some o => have := (N' p h1).2.2; rw [GS _ o e h2] at this; cases this
end Mine
end
section
theorem Mine.clearS1 : True := by
 k_with_none
 trivial
open PySem PySem.W PyProof.Rows PySem.Calls PySem.Spec
set_option Elab.async false
set_option maxRecDepth 100000
namespace Mine
theorem rowsS1a : True := by
 k_with_none
 (k_with "mine lt" => with_reducible first | assumption | exact cj0 ‹_› | exact cj1 ‹_› | exact cj2 ‹_› | exact cj3 ‹_› | exact cj4 ‹_› | exact cj5 ‹_› | exact cj6 ‹_› | exact cj7 ‹_› | exact cj8 ‹_› | exact cj9 ‹_› | exact cj10 ‹_› | exact cj11 ‹_› | exact cj12 ‹_› | exact cj13 ‹_› | exact cj14 ‹_› | exact cj15 ‹_› | exact dk1 ‹_› | exact dk2 ‹_› | exact dk3 ‹_› | exact dk4 ‹_› | exact dk5 ‹_› | exact dk6 ‹_› | exact dk7 ‹_› | exact dk8 ‹_› | exact dk9 ‹_› | exact dk10 ‹_› | exact dk11 ‹_› | exact dk12 ‹_› | exact dk13 ‹_› | exact dk14 ‹_› | exact dk15 ‹_›)
 (k_with "mine k_ne" => (refine neN ?_; (try dsimp only); first | with_reducible assumption | exact Ne.symm (by with_reducible assumption) | exact Nat.ne_of_lt (by k_extra "mine lt") | exact Nat.ne_of_gt (by k_extra "mine lt") | grind))
 (k_with "mine cell_enter" => (refine' code_defR (by exact rfl) (by exact rfl) (by assumption) (by k_asm) (by k_asm) (by k_asm) (by k_asm) (by k_asm) (by k_is) (by k_is) (by ktr_room) (by exact BindsTo.of_eq rfl) (by exact locs rfl) ?_ (by exact rfl) (by exact rfl) (by exact rfl) (by decide); k_whole; intro g'xq L'xq h'xq tkEq FG'xq F'xq N'xq B'xq X'xq T'xq GS'xq; (try dsimp only); (try k_lift B'xq); (try k_fold)))
 (k_with "mine exec For" => (refine stopAt ?_))
 (k_with "mine exec For Name Call cons nil" => (refine stopAt ?_))
 (k_with "mine exec For Name Name cons nil" => (refine stopAt ?_))
 (k_with "mine exec For Tuple" => (refine stopAt ?_))
 (k_with "mine exec For Tuple Call" => (refine stopAt ?_))
 (k_with "mine call type:enumerate" => (refine stopAt ?_))
 (k_with "mine call builtin:dict.setdefault" => (refine stopAt ?_))
 (k_with "mine k_all" => (assumption))
 (k_with "mine setItem ref int" => (k_here; k_dflt (refine' kda_set (knd := PySem.intKind _ _) (by k_asm) (by k_asm) (by k_updF) (by k_asm) (intKind_is _ _ _ _) (by assumption) ?_); intro h'xq o'xq F'xq N'xq hd'xq; (try dsimp only at N'xq); (try k_sweep)))
 (k_with "mine subscriptTail" => (k_here; k_dflt (refine' kda_item (knd := PySem.intKind _ _) (by k_asm) (by k_mem) (by k_asm) (intKind_is _ _ _ _) (by assumption) ?_ (by with_unfolding_all rfl) (by intro _; with_unfolding_all rfl))))
 trivial
theorem news_two {h₀ h : Heap} {L : Addr} {x y : Addr × Obj} {led : List (Addr × Obj)} (N : News h₀ L h (x :: led)) (hy : y ∈ led) : News h₀ L h [x, y] := fun p hp => by
 rcases List.mem_cons.mp hp with rfl | hp
 ·exact N p (.head _)
 ·exact N p (.tail _ (List.mem_singleton.mp hp ▸ hy))
theorem news_ne {h₀ h : Heap} {L : Addr} {x y : Addr × Obj} (N : News h₀ L h [x, y]) (c : x.2.cls ≠ y.2.cls) : @Ne Nat x.1 y.1 := fun e => by
 have e : x.1 = y.1 := e
 have h1 := (N x (.head _)).1
 rw [e, (N y (.tail _ (.head _))).1] at h1
 exact c (by rw [Option.some.inj h1])
noncomputable abbrev ent (w : World) (nm : String) (t : Tok) (v : Value) : DictEntry := ⟨PyData.keyHash w.params (Str.ofString nm), .str (Str.ofString nm) t, v⟩
noncomputable abbrev md7 (w : World) (t0 t1 t2 t3 t4 t5 t6 : Tok) (a b fb : Value) : Obj := dictOf [ent w "isjunk" t0 .none, ent w "a" t1 a, ent w "b" t2 b, ent w "autojunk" t3 (.bool true), ent w "matching_blocks" t4 .none, ent w "opcodes" t5 .none, ent w "fullbcount" t6 fb] 7
noncomputable abbrev md10 (w : World) (t0 t1 t2 t3 t4 t5 t6 t7 t8 t9 : Tok) (a b fb j k l : Value) : Obj := dictOf [ent w "isjunk" t0 .none, ent w "a" t1 a, ent w "b" t2 b, ent w "autojunk" t3 (.bool true), ent w "matching_blocks" t4 .none, ent w "opcodes" t5 .none, ent w "fullbcount" t6 fb, ent w "b2j" t7 j, ent w "bjunk" t8 k, ent w "bpopular" t9 l] 10
theorem getm_setdefault {prog : Program} {w : World} {A : Around} {E : Value → Shared → Prop} {s : Shared} {h₀ : Heap} {L d : Addr} {news : List (Addr × Obj)} {o : Obj} {kvs : List (Int × Value)} {pl : Sem Bool} {Q : Value × List Value → Shared → Prop} (N : News h₀ L s.heap news) (hp : (d, o) ∈ news) (hd : o.IsDictOf (intKind prog w) kvs) (h : Q (.builtin "dict.setdefault", [.ref d]) s) :
  wpAny (model prog w) A (getMethod (.ref d) "setdefault" pl) Q E s :=
 have hD := kda_dict N hp hd
 getMethod_builtin hD.typeIs PySem.F.plainAttrs_dict PySem.F.slot_dict_setdefault PySem.F.type_dict_setdefault hD.mapOf.noDict h
theorem setdef {prog : Program} {w : World} {A : Around} {E : Value → Shared → Prop} {s : Shared} {h₀ : Heap} {L d : Addr} {m : Str → Option Value} {news : List (Addr × Obj)} {g : Obj → List (Addr × Obj)} {o : Obj} {kvs : List (Int × Value)} {k : Int} {t : Tok} {dflt : Value} {Q : Value → Shared → Prop}
  (F : Fr h₀ L s.heap m) (N : News h₀ L s.heap news) (U : UpdF d o news g) (hd : o.IsDictOf (intKind prog w) kvs) (lo : (d == sysModules) = false) (hz : kvs.length ≤ sizeLine)
  (h1 : ∀ v, valueAt kvs k = some v → Q v { s with toks := s.toks + 1 })
  (h2 : valueAt kvs k = none → ∀ h' o', Fr h₀ L h' m → News h₀ L h' (g o') → o'.IsDictOf (intKind prog w) (stored kvs k dflt) → Q dflt { s with heap := h', toks := s.toks + 1 }) :
  wpAny (model prog w) A (call (.builtin "dict.setdefault") [.ref d, .int k t, dflt]) Q E s := by
 refine hdG ?_; intro Xh hXh
 refine ex2 U.split ?_
 rintro pre post hZ
 refine an3 hZ ?_
 clear hZ
 rintro rfl hg a b
 refine hXh ?_; clear hXh
 have hm := N (d, o) (List.mem_append_right _ (.head _))
 have hD : s.heap.DictOf (intKind prog w) d kvs := Heap.dictOf_iff.mpr ⟨o, hm.1, hd⟩
 refine call_meetsIn PySem.F.slot_dict_setdefault hD.typeIs PySem.F.entry_dict_setdefault (PySem.F.args_dict_setdefault_3 _ _ _) (kt_meets_setdefault (intKind prog w) d (intKind_is _ _ _ _) lo dflt) (⟨kvs, ia3 hD hz h1 (fun hn h' hmm hs => ?_)⟩)
 refine hdG ?_; intro Xh hXh
 obtain ⟨o', ho', hd'⟩ := Heap.dictOf_iff.mp hmm
 refine hXh ?_; clear hXh
 exact h2 hn h' o' (F.change hs hm.2.1 hm.2.2) (hg o' ▸ N.setIn a b hs ho') hd'
theorem news_take3 {h₀ h : Heap} {L : Addr} {x y z : Addr × Obj} {tl : List (Addr × Obj)} (N : News h₀ L h (x :: y :: z :: tl)) : News h₀ L h [x, y, z] := fun p hp => N p (by
 revert p; (try dsimp only [List.cons_append, List.nil_append]); repeat' with_reducible first | exact sbn | exact sbr | exact sbl | exact sbq | refine sbc ?_ ?_ | refine sba ?_ ?_ | exact mmh | assumption | refine mmt ?_ | refine mmr ?_ | refine sbt ?_ | refine sbp ?_)
theorem valueAt_mem {kvs : List (Int × Value)} {k : Int} {v : Value} (h : valueAt kvs k = some v) : ∃ p ∈ kvs, p.2 = v := by
 unfold valueAt at h
 cases e : kvs.find? (fun kv => decide (kv.1 = k)) with
 | none => rw [e] at h; cases h
 | some p => rw [e] at h; exact ⟨p, List.mem_of_find?_eq_some e, Option.some.inj h⟩
theorem allLt_mem {d : Addr} : ∀ {l : List (Addr × Obj)}, AllLt d l → ∀ {p}, p ∈ l → @LT.lt Nat _ p.1 d
 | [], _, _, h => nomatch h
 | q :: r, x, p, h => by
  rcases List.mem_cons.mp h with rfl | h
  ·exact x.1
  ·exact allLt_mem x.2 h
theorem news_bring {h₀ h : Heap} {L : Addr} {x a b c d e f : Addr × Obj} {tl tl' : List (Addr × Obj)} (N : News h₀ L h (a :: b :: c :: d :: e :: f :: tl)) (k : ∀ p, p = x ∨ p ∈ tl' → p ∈ tl) : News h₀ L h (x :: a :: b :: c :: d :: e :: f :: tl') := fun p hp => N p (by
 simp only [List.mem_cons] at hp ⊢
 rcases hp with h | h | h | h | h | h | h | h
 ·simp [k p (.inl h)]
 ·simp [h]
 ·simp [h]
 ·simp [h]
 ·simp [h]
 ·simp [h]
 ·simp [h]
 ·simp [k p (.inr h)])
noncomputable def LV (i : Nat) (tl : List (Addr × Obj)) (v : Value) : Prop := ∃ A its n, v = .ref A ∧ (A, listOf its n) ∈ tl ∧ its.size ≤ i
theorem split_mem {A : Addr} {o : Obj} {tl : List (Addr × Obj)} (hm : (A, o) ∈ tl) (nd : (tl.map (·.1)).Nodup) : ∃ tl' : List (Addr × Obj), (∀ p, p ∈ tl ↔ p = (A, o) ∨ p ∈ tl') ∧ (∀ p ∈ tl', @Ne Nat p.1 A) ∧ (tl'.map (·.1)).Nodup := by
 refine hdG ?_; intro Xh hXh
 refine ex2 (List.append_of_mem hm) ?_
 rintro s t rfl
 simp only [List.map_append, List.map_cons] at nd
 rw [List.nodup_append, List.nodup_cons] at nd
 refine an2 nd ?_
 try clear nd
 rintro n1 ⟨n2, n3⟩ n4
 refine hXh ?_; clear hXh
 refine (⟨s ++ t, ia2 (fun p => ?_) (fun p hp e => ?_) ?_⟩)
 ·simp only [List.mem_append, List.mem_cons]
  constructor
  ·rintro (h | h | h)
   ·exact .inr (.inl h)
   ·exact .inl h
   ·exact .inr (.inr h)
  ·rintro (h | h | h)
   ·exact .inr (.inl h)
   ·exact .inl h
   ·exact .inr (.inr h)
 ·rcases List.mem_append.mp hp with hp | hp
  ·exact n4 p.1 (List.mem_map.mpr ⟨p, hp, rfl⟩) A (.head _) e
  ·exact n2 (List.mem_map.mpr ⟨p, hp, e⟩)
 ·rw [List.map_append, List.nodup_append]
  exact (ia2 n1 n3 (fun a ha b hb => n4 a ha b (.tail _ hb)))
theorem cls_ne {a b : String} (h : a ≠ b) : Value.type a ≠ Value.type b := fun e => h (Value.type.inj e)
theorem news_back {h₀ h : Heap} {L : Addr} {x y a b c d e : Addr × Obj} {tl : List (Addr × Obj)} (N : News h₀ L h (x :: y :: a :: b :: c :: d :: e :: tl)) : News h₀ L h ([a, b] ++ (c :: d :: e :: x :: y :: tl)) := fun p hp => N p (by
 revert p; (try dsimp only [List.cons_append, List.nil_append]); repeat' with_reducible first | exact sbn | exact sbr | exact sbl | exact sbq | refine sbc ?_ ?_ | refine sba ?_ ?_ | exact mmh | assumption | refine mmt ?_ | refine mmr ?_ | refine sbt ?_ | refine sbp ?_)
theorem news_back1 {h₀ h : Heap} {L : Addr} {x a b c d e : Addr × Obj} {tl : List (Addr × Obj)} (N : News h₀ L h (x :: a :: b :: c :: d :: e :: tl)) : News h₀ L h ([a, b] ++ (c :: d :: e :: x :: tl)) := fun p hp => N p (by
 revert p; (try dsimp only [List.cons_append, List.nil_append]); repeat' with_reducible first | exact sbn | exact sbr | exact sbl | exact sbq | refine sbc ?_ ?_ | refine sba ?_ ?_ | exact mmh | assumption | refine mmt ?_ | refine mmr ?_ | refine sbt ?_ | refine sbp ?_)
theorem off_two {a b : Addr} {oa ob : Obj} {l : List (Addr × Obj)} (h : ∀ p ∈ l, @Ne Nat p.1 a ∧ @Ne Nat p.1 b) : ∀ p ∈ l, p.1 ∉ ([(a, oa), (b, ob)] : List (Addr × Obj)).map (·.1) := fun p hp hm => by
 simp only [List.map_cons, List.map_nil, List.mem_cons, List.not_mem_nil, or_false] at hm
 rcases hm with e | e
 ·exact (h p hp).1 e
 ·exact (h p hp).2 e
theorem lv_next {i : Nat} {tl tl' : List (Addr × Obj)} {A l' : Addr} {its : Array Value} {n : Nat} {x v : Value} {o' : Obj} (iff : ∀ p, p ∈ tl ↔ p = (A, listOf its n) ∨ p ∈ tl') (hs : its.size ≤ i) (h : LV i tl v) : LV (i + 1) ((A, listOf (its.push x) (n + 1)) :: (l', o') :: tl') v := by
 refine hdG ?_; intro Xh hXh
 refine ex3 h ?_
 try clear h
 rintro A' its' n' hZ
 refine an2 hZ ?_
 clear hZ
 rintro e m z
 refine hXh ?_; clear hXh
 rcases (iff _).mp m with q | q
 ·cases q
  exact (ix3 A _ _ (ia2 e (.head _) (by rw [Array.size_push]; grind)))
 ·exact (ix3 A' its' n' (ia2 e (.tail _ (.tail _ q)) (by grind)))
theorem base_of {h₀ h g : Heap} {L : Addr} {x y : Addr × Obj} {l : Addr} {o : Obj} (N : News h₀ L h [x, y]) (GS : GSub h g (([x, y] : List (Addr × Obj)).map (·.1))) (hl : h.get? l = some o) (c1 : o.cls ≠ x.2.cls) (c2 : o.cls ≠ y.2.cls) : g.get? l = some o := by
 refine GS l o hl fun hm => ?_
 simp only [List.map_cons, List.map_nil, List.mem_cons, List.not_mem_nil, or_false] at hm
 rcases hm with e | e
 ·have h1 := (N x (.head _)).1
  rw [← e, hl] at h1
  exact c1 (by rw [Option.some.inj h1])
 ·have h1 := (N y (.tail _ (.head _))).1
  rw [← e, hl] at h1
  exact c2 (by rw [Option.some.inj h1])
theorem rowsS1b : True := by
 (k_with "mine getMethod ref" => (k_here; (with_reducible show wpAny _ _ (getMethod (Value.ref _) (Str.ofString "setdefault") _) _ _ _); k_dflt (refine' getm_setdefault (by k_asm) (by k_mem) (by k_asm) ?_)))
 trivial
namespace E_chain7
noncomputable def theP (zC : Bag) : Prop :=
 let w := zC.w 3; let mg := zC.fr 3; let mb := zC.fr 4; let M := zC.addr 3; let dM := zC.addr 4; let lb := zC.addr 5; let q := zC.il 3; let led := zC.led 3; let t0 := zC.tok 3; let t1 := zC.tok 4; let t2 := zC.tok 5; let t3 := zC.tok 6; let t4 := zC.tok 7; let t5 := zC.tok 8; let t6 := zC.tok 9; let av := zC.val 3;
 ∀ (hM : (M, instObj 242 dM) ∈ led) (hb : IntsIn led lb q) (hz : q.length ≤ 100), FunUb zC 4 w mg mb 188 [.ref M] led dM (md7 w t0 t1 t2 t3 t4 t5 t6 av (.ref lb) .none) (fun r o' tl => r = .none ∧ ∃ t7 t8 t9 j k l, o' = md10 w t0 t1 t2 t3 t4 t5 t6 t7 t8 t9 av (.ref lb) .none j k l)
@[irreducible] def tB : Bag := bagOf theP
@[irreducible] def w := tB.w 3
@[irreducible] def mg := tB.fr 3
@[irreducible] def mb := tB.fr 4
@[irreducible] def M := tB.addr 3
@[irreducible] def dM := tB.addr 4
@[irreducible] def lb := tB.addr 5
@[irreducible] def q := tB.il 3
@[irreducible] def led := tB.led 3
@[irreducible] def t0 := tB.tok 3
@[irreducible] def t1 := tB.tok 4
@[irreducible] def t2 := tB.tok 5
@[irreducible] def t3 := tB.tok 6
@[irreducible] def t4 := tB.tok 7
@[irreducible] def t5 := tB.tok 8
@[irreducible] def t6 := tB.tok 9
@[irreducible] def av := tB.val 3
noncomputable def coreT : Prop := ∀ (hM : (M, instObj 242 dM) ∈ led) (hb : IntsIn led lb q) (hz : q.length ≤ 100), FunUb tB 4 w mg mb 188 [.ref M] led dM (md7 w t0 t1 t2 t3 t4 t5 t6 av (.ref lb) .none) (fun r o' tl => r = .none ∧ ∃ t7 t8 t9 j k l, o' = md10 w t0 t1 t2 t3 t4 t5 t6 t7 t8 t9 av (.ref lb) .none j k l)
set_option maxHeartbeats 4000000 in
noncomputable def part1 : (P : Bag → Prop) ×' (P (bagOf P) → coreT) := by
 refine' ⟨_, fun hP => ?_⟩
 rotate_left
 unfold coreT
 intro hM hb hz
 w_on
 unfold FunUb
 k_fill
 intros
 rename_i hN hT hk hd hu hret
 have hN1 := news_two hN hM
 have hne : @Ne Nat dM M := news_ne hN1 (by intro e; cases e)
 refine hdG ?_; intro Xh hXh
 refine ex2 hb ?_
 try clear hb
 rintro vb nb hZ
 obtain ⟨mb', ib⟩ := hZ
 refine hXh ?_; clear hXh
 have hlb := (hN _ (.tail _ mb')).1
 rename_i z0z z1z z2z
 refine wpAny_call ?_
 k_dflt (refine' code_defR (by exact rfl) (by exact rfl) (by assumption) (by k_asm) (by k_asm) (by k_asm) (by k_asm) (by k_asm) (by k_is) (by k_is) (by ktr_room) (by exact BindsTo.of_eq rfl) (by exact locs rfl) ?_ (by exact rfl) (by exact rfl) (by exact rfl) (by decide); k_whole)
 intro g L1 h1 tk
 revert hM hz z0z z1z z2z hN hT hk hd hu hret hN1 hne mb' ib hlb
 revert Xh vb nb
 revert g L1 h1 tk
 exact bag4 _ (by exact rfl) hP
@[irreducible] def theB1 : Bag := bagOf part1.1
set_option maxHeartbeats 4000000 in
theorem part2 : part1.1 theB1 := by
 delta part1
 dsimp only
 intro Xh vb nb
 intro hM hz z0z z1z z2z hN hT hk hd hu hret hN1 hne mb' ib hlb FG'xq F'xq N'xq B'xq X'xq T'xq GS'xq
 w_on
 k_fill
 (try dsimp only)
 (try k_lift B'xq)
 (try k_fold)
 rename GSub _ _ _ => GS
 have base := base_of hN1 GS hlb (cls_ne (by decide)) (by intro e; cases e)
 have lb' : Heap.IsList _ lb vb.toArray := (⟨_, ia2 base rfl ⟨nb, rfl⟩⟩)
 have zb := ib.length
 k_steps
 unfold StopHere
 rename Addr => D
 rename Fr _ _ _ _ => F9
 rename (D == sysModules) = false => loD
 rename Obj.IsDictOf (intKind _ _) _ [] => hD0
 rename dM < D ∧ M < D => ltD
 obtain ⟨lt1, lt2⟩ := ltD
 refine for2 F9 (by rfl) (by rfl) (by rfl) (by rfl) ?_
 k_steps
 unfold StopHere
 rename News _ _ _ _ => N9
 refine iter_enum F9 N9 lb' (by rfl)
  (fun i m' news' gs' => gs' = _ ∧ m' (Str.ofString "self") = some (.ref M) ∧ m' (Str.ofString "b") = some (.ref lb) ∧ m' (Str.ofString "b2j") = some (.ref D) ∧ ∃ o kvs tl, news' = (D, o) :: (dM, _) :: (M, instObj 242 dM) :: tl ∧ o.IsDictOf (intKind _ _) kvs ∧ (∀ p ∈ kvs, LV i tl p.2) ∧ kvs.length ≤ i ∧ (∀ p ∈ tl, @Ne Nat p.1 dM) ∧ (∀ p ∈ tl, @Ne Nat p.1 D) ∧ (∀ p ∈ tl, @Ne Nat p.1 M) ∧ (tl.map (·.1)).Nodup)
  (ia4 rfl rfl rfl rfl (ix3 _ _ [] (ia7 rfl hD0 (fun _ h => by cases h) (Nat.le_refl _) (fun _ h => by cases h) (fun _ h => by cases h) (fun _ h => by cases h) List.nodup_nil))) ?_ ?_
 ·rintro i v t m₁ news₁ h tk gs e it oe oi E' hi ex hJz
  refine hdG ?_; intro Xh hXh
  refine an4 hJz ?_
  try clear hJz
  rintro hg e1 e2 e3 hZ
  refine ex3 hZ ?_
  clear hZ
  rintro o kvs tl hZ
  refine an7 hZ ?_
  clear hZ
  rintro rfl hd9 hv hle c1 c2 c3 nd
  refine hXh ?_; clear hXh
  rintro hoff hei F N
  refine hdG ?_; intro Xh hXh
  refine ex2 (ints_get ib ex) ?_
  rintro x tx hZ
  obtain ⟨ex', rfl⟩ := hZ
  rw [List.size_toArray] at hi
  have F := Fr_pin (Fr_pin (Fr_pin F (x := Str.ofString "b") e2) (x := Str.ofString "self") e1) (x := Str.ofString "b2j") e3
  obtain ⟨u1, u2⟩ := hoff _ (.head _)
  obtain ⟨u3, u4⟩ := hoff _ (.tail _ (.head _))
  obtain ⟨u5, u6⟩ := hoff _ (.tail _ (.tail _ (.head _)))
  refine hXh ?_; clear hXh
  have u7 : ∀ p ∈ tl, @Ne Nat p.1 e := fun p hp => (hoff p (.tail _ (.tail _ (.tail _ hp)))).1
  have u8 : ∀ p ∈ tl, @Ne Nat p.1 it := fun p hp => (hoff p (.tail _ (.tail _ (.tail _ hp)))).2
  clear hoff
  dsimp only at u1 u2 u3 u4 u5 u6
  have hsz : kvs.length ≤ sizeLine := by rw [sizeLine_eq]; grind
  k_steps
  unfold StopHere
  rename Fr _ _ _ _ => F2
  rename News _ _ _ _ => N2
  rename Addr => l'
  rename _ < l' ∧ _ => ltl
  refine hdG ?_; intro Xh hXh
  refine an5 ltl ?_
  try clear ltl
  rintro v1 v2 v3 v4 v5 v6
  refine hXh ?_; clear hXh
  refine setdef F2 N2 (by k_updF) hd9 loD hsz (fun v hv' => ?_) (fun hn h' o' F' N' hd' => ?_)
  ·obtain ⟨p0, hp0, rfl⟩ := valueAt_mem hv'
   refine hdG ?_; intro Xh hXh
   refine ex3 (hv p0 hp0) ?_
   rintro A its nA hZ
   refine an2 hZ ?_
   clear hZ
   rintro eA mA szA
   obtain ⟨tl', hZ⟩ := split_mem mA nd
   refine an2 hZ ?_
   clear hZ
   rintro iff neA nd'
   refine hXh ?_; clear hXh
   rw [eA]
   have hszA : its.size ≤ sizeLine := by rw [sizeLine_eq]; grind
   have w1 := u7 _ mA
   have w2 := u8 _ mA
   have w3 := c1 _ mA
   have w4 := c2 _ mA
   have w5 := c3 _ mA
   have w6 := allLt_mem v6 mA
   dsimp only at w1 w2 w3 w4 w5 w6
   have N3 := news_bring (x := (A, listOf its nA)) N2 (fun p hp => (iff p).mpr hp)
   clear N2
   dsimp only
   k_steps
   rename Fr _ _ _ _ => F4
   rename News _ _ _ _ => N4
   refine (⟨.inl rfl, ix5 _ _ _ _ _ (ia8 rfl F4 (news_back N4) ?_ hg rfl rfl rfl (ix3 o kvs (_ :: _ :: tl') (ia7 rfl hd9 ?_ (by grind) ?_ ?_ ?_ ?_)))⟩)
   ·refine fun p hp => off_two (List.forall_mem_cons.mpr ⟨⟨u1, u2⟩, List.forall_mem_cons.mpr ⟨⟨u3, u4⟩, List.forall_mem_cons.mpr ⟨⟨u5, u6⟩, List.forall_mem_cons.mpr ⟨⟨w1, w2⟩, List.forall_mem_cons.mpr ⟨⟨neN (Nat.ne_of_gt v1), neN (Nat.ne_of_gt v2)⟩, fun p hp => ⟨u7 p ((iff p).mpr (.inr hp)), u8 p ((iff p).mpr (.inr hp))⟩⟩⟩⟩⟩⟩) p hp
   ·exact fun p hp => lv_next iff szA (hv p hp)
   ·exact List.forall_mem_cons.mpr ⟨w3, List.forall_mem_cons.mpr ⟨neN (Nat.ne_of_gt v4), fun p hp => c1 p ((iff p).mpr (.inr hp))⟩⟩
   ·exact List.forall_mem_cons.mpr ⟨w4, List.forall_mem_cons.mpr ⟨neN (Nat.ne_of_gt v3), fun p hp => c2 p ((iff p).mpr (.inr hp))⟩⟩
   ·exact List.forall_mem_cons.mpr ⟨w5, List.forall_mem_cons.mpr ⟨neN (Nat.ne_of_gt v5), fun p hp => c3 p ((iff p).mpr (.inr hp))⟩⟩
   ·simp only [List.map_cons, List.nodup_cons, List.mem_cons, not_or]
    refine (ia2 ⟨neN (Nat.ne_of_lt w6), fun hm => ?_⟩ (fun hm => ?_) nd')
    ·obtain ⟨p, hp, e⟩ := List.mem_map.mp hm
     exact neA p hp e
    ·obtain ⟨p, hp, e⟩ := List.mem_map.mp hm
     have := allLt_mem v6 ((iff p).mpr (.inr hp))
     rw [e] at this
     exact Nat.lt_irrefl _ this
  ·dsimp only at N' ⊢
   k_steps
   rename Fr _ _ _ _ => F4
   rename News _ _ _ _ => N4
   refine (⟨.inl rfl, ix5 _ _ _ _ _ (ia8 rfl F4 (news_back1 N4) ?_ hg rfl rfl rfl (ix3 _ _ (_ :: tl) (ia7 rfl hd' ?_ (Nat.le_trans (stored_length_le _ _ _) (by grind)) ?_ ?_ ?_ ?_)))⟩)
   ·refine fun p hp => off_two (List.forall_mem_cons.mpr ⟨⟨u1, u2⟩, List.forall_mem_cons.mpr ⟨⟨u3, u4⟩, List.forall_mem_cons.mpr ⟨⟨u5, u6⟩, List.forall_mem_cons.mpr ⟨⟨neN (Nat.ne_of_gt v1), neN (Nat.ne_of_gt v2)⟩, fun p hp => ⟨u7 p hp, u8 p hp⟩⟩⟩⟩⟩) p hp
   ·intro p hp
    rw [stored_absent hn] at hp
    rcases List.mem_append.mp hp with hp | hp
    ·refine ex3 (hv p hp) ?_
     rintro A its nA hZ
     refine an2 hZ ?_
     clear hZ
     rintro eA mA szA
     exact (ix3 A its nA (ia2 eA (.tail _ mA) (by grind)))
    ·rw [List.mem_singleton.mp hp]
     exact (ix3 _ _ _ (ia2 rfl (.head _) (by simp)))
   ·exact List.forall_mem_cons.mpr ⟨neN (Nat.ne_of_gt v4), c1⟩
   ·exact List.forall_mem_cons.mpr ⟨neN (Nat.ne_of_gt v3), c2⟩
   ·exact List.forall_mem_cons.mpr ⟨neN (Nat.ne_of_gt v5), c3⟩
   ·simp only [List.map_cons, List.nodup_cons]
    refine ⟨fun hm => ?_, nd⟩
    refine hdG ?_; intro Xh hXh
    obtain ⟨p, hp, e⟩ := List.mem_map.mp hm
    refine hXh ?_; clear hXh
    have := allLt_mem v6 hp
    rw [e] at this
    exact Nat.lt_irrefl _ this
 ·rintro h' tk gs m' news' F N hJz
  refine hdG ?_; intro Xh hXh
  refine an4 hJz ?_
  try clear hJz
  rintro hg e1 e2 e3 hZ
  refine ex3 hZ ?_
  clear hZ
  rintro o kvs tl hZ
  refine an7 hZ ?_
  clear hZ
  rintro rfl hd9 hv hle c1 c2 c3 nd
  have hg : gs = _ := hg
  subst hg
  refine hXh ?_; clear hXh
  have F := Fr_pin (Fr_pin (Fr_pin F (x := Str.ofString "b") e2) (x := Str.ofString "self") e1) (x := Str.ofString "b2j") e3
  have N := news_take3 N
  dsimp only
  k_steps
  all_goals try (exfalso; grind)
  refine funU_ret hret hN1 GS (by assumption) (by assumption) (by k_mem) (fun p hp => ?_) fun tl htl => (⟨rfl, ix6 _ _ _ _ _ _ rfl⟩)
  rcases List.mem_cons.mp hp with rfl | hp
  ·exact .inl rfl
  ·rw [List.mem_singleton.mp hp]; exact .inr (by k_mem)
theorem core : coreT := part1.2 (by with_unfolding_all exact part2)
end E_chain7
theorem chain7 (w : World) (mg mb) {M dM lb : Addr} {q : List Int} {led : List (Addr × Obj)} (hM : (M, instObj 242 dM) ∈ led) (hb : IntsIn led lb q) (hz : q.length ≤ 100) (t0 t1 t2 t3 t4 t5 t6 : Tok) (av : Value) : FunU 4 w mg mb 188 [.ref M] led dM (md7 w t0 t1 t2 t3 t4 t5 t6 av (.ref lb) .none) (fun r o' tl => r = .none ∧ ∃ t7 t8 t9 j k l, o' = md10 w t0 t1 t2 t3 t4 t5 t6 t7 t8 t9 av (.ref lb) .none j k l) := fun dpzz unzz gdzz cnzz cszz azz ccdzz clzz outerzz A₀zz basezz h₀zz Lzz mzz szz Qzz Ezz => bag_all (P := E_chain7.theP) (by with_unfolding_all exact @E_chain7.core) { bag0 with A := nth [A₀zz, A₀zz, A₀zz] bag0.A, addr := nth [azz, Lzz, azz, M, dM, lb] bag0.addr, cl := nth [clzz, clzz, clzz] bag0.cl, fr := nth [mzz, mzz, mzz, mg, mb] bag0.fr, gd := nth [gdzz, gdzz, gdzz] bag0.gd, heap := nth [basezz, h₀zz, basezz] bag0.heap, il := nth [q, q, q, q] bag0.il, led := nth [led, led, led, led] bag0.led, nat := nth [dpzz, unzz, dpzz] bag0.nat, outer := nth [outerzz, outerzz, outerzz] bag0.outer, qv := nth [Qzz, Ezz, Qzz] bag0.qv, s := nth [szz, szz, szz] bag0.s, scope := nth [cszz, cszz, cszz] bag0.scope, str := nth [cnzz, cnzz, cnzz] bag0.str, tok := nth [t0, t0, t0, t0, t1, t2, t3, t4, t5, t6] bag0.tok, val := nth [ccdzz, ccdzz, ccdzz, av] bag0.val, w := nth [w, w, w, w] bag0.w } hM hb hz
end Mine
end
section
theorem Mine.clearS2 : True := by
 k_with_none
 trivial
open PySem PySem.W PyProof.Rows PySem.Calls PySem.Spec
set_option Elab.async false
set_option maxRecDepth 100000
namespace Mine
theorem rowsS2a : True := by
 k_with_none
 (k_with "mine lt" => with_reducible first | assumption | exact cj0 ‹_› | exact cj1 ‹_› | exact cj2 ‹_› | exact cj3 ‹_› | exact cj4 ‹_› | exact cj5 ‹_› | exact cj6 ‹_› | exact cj7 ‹_› | exact cj8 ‹_› | exact cj9 ‹_› | exact cj10 ‹_› | exact cj11 ‹_› | exact cj12 ‹_› | exact cj13 ‹_› | exact cj14 ‹_› | exact cj15 ‹_› | exact dk1 ‹_› | exact dk2 ‹_› | exact dk3 ‹_› | exact dk4 ‹_› | exact dk5 ‹_› | exact dk6 ‹_› | exact dk7 ‹_› | exact dk8 ‹_› | exact dk9 ‹_› | exact dk10 ‹_› | exact dk11 ‹_› | exact dk12 ‹_› | exact dk13 ‹_› | exact dk14 ‹_› | exact dk15 ‹_›)
 (k_with "mine k_ne" => (refine neN ?_; (try dsimp only); first | with_reducible assumption | exact Ne.symm (by with_reducible assumption) | exact Nat.ne_of_lt (by k_extra "mine lt") | exact Nat.ne_of_gt (by k_extra "mine lt") | grind))
 (k_with "mine cell_enter" => (refine' code_defR (by exact rfl) (by exact rfl) (by assumption) (by k_asm) (by k_asm) (by k_asm) (by k_asm) (by k_asm) (by k_is) (by k_is) (by ktr_room) (by exact BindsTo.of_eq rfl) (by exact locs rfl) ?_ (by exact rfl) (by exact rfl) (by exact rfl) (by decide); k_whole; intro g'xq L'xq h'xq tkEq FG'xq F'xq N'xq B'xq X'xq T'xq GS'xq; (try dsimp only); (try k_lift B'xq); (try k_fold)))
 (k_with "mine exec For" => (refine stopAt ?_))
 (k_with "mine exec For Name Call cons nil" => (refine stopAt ?_))
 (k_with "mine exec For Name Name cons nil" => (refine stopAt ?_))
 (k_with "mine exec For Tuple" => (refine stopAt ?_))
 (k_with "mine exec For Tuple Call" => (refine stopAt ?_))
 (k_with "mine call type:enumerate" => (refine stopAt ?_))
 (k_with "mine call builtin:dict.setdefault" => (refine stopAt ?_))
 (k_with "mine k_all" => (assumption))
 (k_with "mine setItem ref int" => (k_here; k_dflt (refine' kda_set (knd := PySem.intKind _ _) (by k_asm) (by k_asm) (by k_updF) (by k_asm) (intKind_is _ _ _ _) (by assumption) ?_); intro h'xq o'xq F'xq N'xq hd'xq; (try dsimp only at N'xq); (try k_sweep)))
 (k_with "mine subscriptTail" => (k_here; k_dflt (refine' kda_item (knd := PySem.intKind _ _) (by k_asm) (by k_mem) (by k_asm) (intKind_is _ _ _ _) (by assumption) ?_ (by with_unfolding_all rfl) (by intro _; with_unfolding_all rfl))))
 (k_with "mine getMethod ref" => (k_here; (with_reducible show wpAny _ _ (getMethod (Value.ref _) (Str.ofString "setdefault") _) _ _ _); k_dflt (refine' getm_setdefault (by k_asm) (by k_mem) (by k_asm) ?_)))
 trivial
namespace E_chain10
noncomputable def theP (zC : Bag) : Prop :=
 let w := zC.w 3; let mg := zC.fr 3; let mb := zC.fr 4; let M := zC.addr 3; let dM := zC.addr 4; let lb := zC.addr 5; let q := zC.il 3; let led := zC.led 3; let t0 := zC.tok 3; let t1 := zC.tok 4; let t2 := zC.tok 5; let t3 := zC.tok 6; let t4 := zC.tok 7; let t5 := zC.tok 8; let t6 := zC.tok 9; let t7 := zC.tok 10; let t8 := zC.tok 11; let t9 := zC.tok 12; let av := zC.val 3; let j0 := zC.val 4; let k0 := zC.val 5; let l0 := zC.val 6;
 ∀ (hM : (M, instObj 242 dM) ∈ led) (hb : IntsIn led lb q) (hz : q.length ≤ 100), FunUb zC 4 w mg mb 188 [.ref M] led dM (md10 w t0 t1 t2 t3 t4 t5 t6 t7 t8 t9 av (.ref lb) .none j0 k0 l0) (fun r o' tl => r = .none ∧ ∃ j k l, o' = md10 w t0 t1 t2 t3 t4 t5 t6 t7 t8 t9 av (.ref lb) .none j k l)
@[irreducible] def tB : Bag := bagOf theP
@[irreducible] def w := tB.w 3
@[irreducible] def mg := tB.fr 3
@[irreducible] def mb := tB.fr 4
@[irreducible] def M := tB.addr 3
@[irreducible] def dM := tB.addr 4
@[irreducible] def lb := tB.addr 5
@[irreducible] def q := tB.il 3
@[irreducible] def led := tB.led 3
@[irreducible] def t0 := tB.tok 3
@[irreducible] def t1 := tB.tok 4
@[irreducible] def t2 := tB.tok 5
@[irreducible] def t3 := tB.tok 6
@[irreducible] def t4 := tB.tok 7
@[irreducible] def t5 := tB.tok 8
@[irreducible] def t6 := tB.tok 9
@[irreducible] def t7 := tB.tok 10
@[irreducible] def t8 := tB.tok 11
@[irreducible] def t9 := tB.tok 12
@[irreducible] def av := tB.val 3
@[irreducible] def j0 := tB.val 4
@[irreducible] def k0 := tB.val 5
@[irreducible] def l0 := tB.val 6
noncomputable def coreT : Prop := ∀ (hM : (M, instObj 242 dM) ∈ led) (hb : IntsIn led lb q) (hz : q.length ≤ 100), FunUb tB 4 w mg mb 188 [.ref M] led dM (md10 w t0 t1 t2 t3 t4 t5 t6 t7 t8 t9 av (.ref lb) .none j0 k0 l0) (fun r o' tl => r = .none ∧ ∃ j k l, o' = md10 w t0 t1 t2 t3 t4 t5 t6 t7 t8 t9 av (.ref lb) .none j k l)
set_option maxHeartbeats 4000000 in
noncomputable def part1 : (P : Bag → Prop) ×' (P (bagOf P) → coreT) := by
 refine' ⟨_, fun hP => ?_⟩
 rotate_left
 unfold coreT
 intro hM hb hz
 w_on
 unfold FunUb
 k_fill
 intros
 rename_i hN hT hk hd hu hret
 have hN1 := news_two hN hM
 have hne : @Ne Nat dM M := news_ne hN1 (by intro e; cases e)
 refine hdG ?_; intro Xh hXh
 refine ex2 hb ?_
 try clear hb
 rintro vb nb hZ
 obtain ⟨mb', ib⟩ := hZ
 refine hXh ?_; clear hXh
 have hlb := (hN _ (.tail _ mb')).1
 rename_i z0z z1z z2z
 refine wpAny_call ?_
 k_dflt (refine' code_defR (by exact rfl) (by exact rfl) (by assumption) (by k_asm) (by k_asm) (by k_asm) (by k_asm) (by k_asm) (by k_is) (by k_is) (by ktr_room) (by exact BindsTo.of_eq rfl) (by exact locs rfl) ?_ (by exact rfl) (by exact rfl) (by exact rfl) (by decide); k_whole)
 intro g L1 h1 tk
 revert hM hz z0z z1z z2z hN hT hk hd hu hret hN1 hne mb' ib hlb
 revert Xh vb nb
 revert g L1 h1 tk
 exact bag4 _ (by exact rfl) hP
@[irreducible] def theB1 : Bag := bagOf part1.1
set_option maxHeartbeats 4000000 in
theorem part2 : part1.1 theB1 := by
 delta part1
 dsimp only
 intro Xh vb nb
 intro hM hz z0z z1z z2z hN hT hk hd hu hret hN1 hne mb' ib hlb FG'xq F'xq N'xq B'xq X'xq T'xq GS'xq
 w_on
 k_fill
 (try dsimp only)
 (try k_lift B'xq)
 (try k_fold)
 rename GSub _ _ _ => GS
 have base := base_of hN1 GS hlb (cls_ne (by decide)) (by intro e; cases e)
 have lb' : Heap.IsList _ lb vb.toArray := (⟨_, ia2 base rfl ⟨nb, rfl⟩⟩)
 have zb := ib.length
 k_steps
 unfold StopHere
 rename Addr => D
 rename Fr _ _ _ _ => F9
 rename (D == sysModules) = false => loD
 rename Obj.IsDictOf (intKind _ _) _ [] => hD0
 rename dM < D ∧ M < D => ltD
 obtain ⟨lt1, lt2⟩ := ltD
 refine for2 F9 (by rfl) (by rfl) (by rfl) (by rfl) ?_
 k_steps
 unfold StopHere
 rename News _ _ _ _ => N9
 refine iter_enum F9 N9 lb' (by rfl)
  (fun i m' news' gs' => gs' = _ ∧ m' (Str.ofString "self") = some (.ref M) ∧ m' (Str.ofString "b") = some (.ref lb) ∧ m' (Str.ofString "b2j") = some (.ref D) ∧ ∃ o kvs tl, news' = (D, o) :: (dM, _) :: (M, instObj 242 dM) :: tl ∧ o.IsDictOf (intKind _ _) kvs ∧ (∀ p ∈ kvs, LV i tl p.2) ∧ kvs.length ≤ i ∧ (∀ p ∈ tl, @Ne Nat p.1 dM) ∧ (∀ p ∈ tl, @Ne Nat p.1 D) ∧ (∀ p ∈ tl, @Ne Nat p.1 M) ∧ (tl.map (·.1)).Nodup)
  (ia4 rfl rfl rfl rfl (ix3 _ _ [] (ia7 rfl hD0 (fun _ h => by cases h) (Nat.le_refl _) (fun _ h => by cases h) (fun _ h => by cases h) (fun _ h => by cases h) List.nodup_nil))) ?_ ?_
 ·rintro i v t m₁ news₁ h tk gs e it oe oi E' hi ex hJz
  refine hdG ?_; intro Xh hXh
  refine an4 hJz ?_
  try clear hJz
  rintro hg e1 e2 e3 hZ
  refine ex3 hZ ?_
  clear hZ
  rintro o kvs tl hZ
  refine an7 hZ ?_
  clear hZ
  rintro rfl hd9 hv hle c1 c2 c3 nd
  refine hXh ?_; clear hXh
  rintro hoff hei F N
  refine hdG ?_; intro Xh hXh
  refine ex2 (ints_get ib ex) ?_
  rintro x tx hZ
  obtain ⟨ex', rfl⟩ := hZ
  rw [List.size_toArray] at hi
  have F := Fr_pin (Fr_pin (Fr_pin F (x := Str.ofString "b") e2) (x := Str.ofString "self") e1) (x := Str.ofString "b2j") e3
  obtain ⟨u1, u2⟩ := hoff _ (.head _)
  obtain ⟨u3, u4⟩ := hoff _ (.tail _ (.head _))
  obtain ⟨u5, u6⟩ := hoff _ (.tail _ (.tail _ (.head _)))
  refine hXh ?_; clear hXh
  have u7 : ∀ p ∈ tl, @Ne Nat p.1 e := fun p hp => (hoff p (.tail _ (.tail _ (.tail _ hp)))).1
  have u8 : ∀ p ∈ tl, @Ne Nat p.1 it := fun p hp => (hoff p (.tail _ (.tail _ (.tail _ hp)))).2
  clear hoff
  dsimp only at u1 u2 u3 u4 u5 u6
  have hsz : kvs.length ≤ sizeLine := by rw [sizeLine_eq]; grind
  k_steps
  unfold StopHere
  rename Fr _ _ _ _ => F2
  rename News _ _ _ _ => N2
  rename Addr => l'
  rename _ < l' ∧ _ => ltl
  refine hdG ?_; intro Xh hXh
  refine an5 ltl ?_
  try clear ltl
  rintro v1 v2 v3 v4 v5 v6
  refine hXh ?_; clear hXh
  refine setdef F2 N2 (by k_updF) hd9 loD hsz (fun v hv' => ?_) (fun hn h' o' F' N' hd' => ?_)
  ·obtain ⟨p0, hp0, rfl⟩ := valueAt_mem hv'
   refine hdG ?_; intro Xh hXh
   refine ex3 (hv p0 hp0) ?_
   rintro A its nA hZ
   refine an2 hZ ?_
   clear hZ
   rintro eA mA szA
   obtain ⟨tl', hZ⟩ := split_mem mA nd
   refine an2 hZ ?_
   clear hZ
   rintro iff neA nd'
   refine hXh ?_; clear hXh
   rw [eA]
   have hszA : its.size ≤ sizeLine := by rw [sizeLine_eq]; grind
   have w1 := u7 _ mA
   have w2 := u8 _ mA
   have w3 := c1 _ mA
   have w4 := c2 _ mA
   have w5 := c3 _ mA
   have w6 := allLt_mem v6 mA
   dsimp only at w1 w2 w3 w4 w5 w6
   have N3 := news_bring (x := (A, listOf its nA)) N2 (fun p hp => (iff p).mpr hp)
   clear N2
   dsimp only
   k_steps
   rename Fr _ _ _ _ => F4
   rename News _ _ _ _ => N4
   refine (⟨.inl rfl, ix5 _ _ _ _ _ (ia8 rfl F4 (news_back N4) ?_ hg rfl rfl rfl (ix3 o kvs (_ :: _ :: tl') (ia7 rfl hd9 ?_ (by grind) ?_ ?_ ?_ ?_)))⟩)
   ·refine fun p hp => off_two (List.forall_mem_cons.mpr ⟨⟨u1, u2⟩, List.forall_mem_cons.mpr ⟨⟨u3, u4⟩, List.forall_mem_cons.mpr ⟨⟨u5, u6⟩, List.forall_mem_cons.mpr ⟨⟨w1, w2⟩, List.forall_mem_cons.mpr ⟨⟨neN (Nat.ne_of_gt v1), neN (Nat.ne_of_gt v2)⟩, fun p hp => ⟨u7 p ((iff p).mpr (.inr hp)), u8 p ((iff p).mpr (.inr hp))⟩⟩⟩⟩⟩⟩) p hp
   ·exact fun p hp => lv_next iff szA (hv p hp)
   ·exact List.forall_mem_cons.mpr ⟨w3, List.forall_mem_cons.mpr ⟨neN (Nat.ne_of_gt v4), fun p hp => c1 p ((iff p).mpr (.inr hp))⟩⟩
   ·exact List.forall_mem_cons.mpr ⟨w4, List.forall_mem_cons.mpr ⟨neN (Nat.ne_of_gt v3), fun p hp => c2 p ((iff p).mpr (.inr hp))⟩⟩
   ·exact List.forall_mem_cons.mpr ⟨w5, List.forall_mem_cons.mpr ⟨neN (Nat.ne_of_gt v5), fun p hp => c3 p ((iff p).mpr (.inr hp))⟩⟩
   ·simp only [List.map_cons, List.nodup_cons, List.mem_cons, not_or]
    refine (ia2 ⟨neN (Nat.ne_of_lt w6), fun hm => ?_⟩ (fun hm => ?_) nd')
    ·obtain ⟨p, hp, e⟩ := List.mem_map.mp hm
     exact neA p hp e
    ·obtain ⟨p, hp, e⟩ := List.mem_map.mp hm
     have := allLt_mem v6 ((iff p).mpr (.inr hp))
     rw [e] at this
     exact Nat.lt_irrefl _ this
  ·dsimp only at N' ⊢
   k_steps
   rename Fr _ _ _ _ => F4
   rename News _ _ _ _ => N4
   refine (⟨.inl rfl, ix5 _ _ _ _ _ (ia8 rfl F4 (news_back1 N4) ?_ hg rfl rfl rfl (ix3 _ _ (_ :: tl) (ia7 rfl hd' ?_ (Nat.le_trans (stored_length_le _ _ _) (by grind)) ?_ ?_ ?_ ?_)))⟩)
   ·refine fun p hp => off_two (List.forall_mem_cons.mpr ⟨⟨u1, u2⟩, List.forall_mem_cons.mpr ⟨⟨u3, u4⟩, List.forall_mem_cons.mpr ⟨⟨u5, u6⟩, List.forall_mem_cons.mpr ⟨⟨neN (Nat.ne_of_gt v1), neN (Nat.ne_of_gt v2)⟩, fun p hp => ⟨u7 p hp, u8 p hp⟩⟩⟩⟩⟩) p hp
   ·intro p hp
    rw [stored_absent hn] at hp
    rcases List.mem_append.mp hp with hp | hp
    ·refine ex3 (hv p hp) ?_
     rintro A its nA hZ
     refine an2 hZ ?_
     clear hZ
     rintro eA mA szA
     exact (ix3 A its nA (ia2 eA (.tail _ mA) (by grind)))
    ·rw [List.mem_singleton.mp hp]
     exact (ix3 _ _ _ (ia2 rfl (.head _) (by simp)))
   ·exact List.forall_mem_cons.mpr ⟨neN (Nat.ne_of_gt v4), c1⟩
   ·exact List.forall_mem_cons.mpr ⟨neN (Nat.ne_of_gt v3), c2⟩
   ·exact List.forall_mem_cons.mpr ⟨neN (Nat.ne_of_gt v5), c3⟩
   ·simp only [List.map_cons, List.nodup_cons]
    refine ⟨fun hm => ?_, nd⟩
    refine hdG ?_; intro Xh hXh
    obtain ⟨p, hp, e⟩ := List.mem_map.mp hm
    refine hXh ?_; clear hXh
    have := allLt_mem v6 hp
    rw [e] at this
    exact Nat.lt_irrefl _ this
 ·rintro h' tk gs m' news' F N hJz
  refine hdG ?_; intro Xh hXh
  refine an4 hJz ?_
  try clear hJz
  rintro hg e1 e2 e3 hZ
  refine ex3 hZ ?_
  clear hZ
  rintro o kvs tl hZ
  refine an7 hZ ?_
  clear hZ
  rintro rfl hd9 hv hle c1 c2 c3 nd
  have hg : gs = _ := hg
  subst hg
  refine hXh ?_; clear hXh
  have F := Fr_pin (Fr_pin (Fr_pin F (x := Str.ofString "b") e2) (x := Str.ofString "self") e1) (x := Str.ofString "b2j") e3
  have N := news_take3 N
  dsimp only
  k_steps
  all_goals try (exfalso; grind)
  refine funU_ret hret hN1 GS (by assumption) (by assumption) (by k_mem) (fun p hp => ?_) fun tl htl => (⟨rfl, ix3 _ _ _ rfl⟩)
  rcases List.mem_cons.mp hp with rfl | hp
  ·exact .inl rfl
  ·rw [List.mem_singleton.mp hp]; exact .inr (by k_mem)
theorem core : coreT := part1.2 (by with_unfolding_all exact part2)
end E_chain10
theorem chain10 (w : World) (mg mb) {M dM lb : Addr} {q : List Int} {led : List (Addr × Obj)} (hM : (M, instObj 242 dM) ∈ led) (hb : IntsIn led lb q) (hz : q.length ≤ 100) (t0 t1 t2 t3 t4 t5 t6 t7 t8 t9 : Tok) (av j0 k0 l0 : Value) : FunU 4 w mg mb 188 [.ref M] led dM (md10 w t0 t1 t2 t3 t4 t5 t6 t7 t8 t9 av (.ref lb) .none j0 k0 l0) (fun r o' tl => r = .none ∧ ∃ j k l, o' = md10 w t0 t1 t2 t3 t4 t5 t6 t7 t8 t9 av (.ref lb) .none j k l) := fun dpzz unzz gdzz cnzz cszz azz ccdzz clzz outerzz A₀zz basezz h₀zz Lzz mzz szz Qzz Ezz => bag_all (P := E_chain10.theP) (by with_unfolding_all exact @E_chain10.core) { bag0 with A := nth [A₀zz, A₀zz, A₀zz] bag0.A, addr := nth [azz, Lzz, azz, M, dM, lb] bag0.addr, cl := nth [clzz, clzz, clzz] bag0.cl, fr := nth [mzz, mzz, mzz, mg, mb] bag0.fr, gd := nth [gdzz, gdzz, gdzz] bag0.gd, heap := nth [basezz, h₀zz, basezz] bag0.heap, il := nth [q, q, q, q] bag0.il, led := nth [led, led, led, led] bag0.led, nat := nth [dpzz, unzz, dpzz] bag0.nat, outer := nth [outerzz, outerzz, outerzz] bag0.outer, qv := nth [Qzz, Ezz, Qzz] bag0.qv, s := nth [szz, szz, szz] bag0.s, scope := nth [cszz, cszz, cszz] bag0.scope, str := nth [cnzz, cnzz, cnzz] bag0.str, tok := nth [t0, t0, t0, t0, t1, t2, t3, t4, t5, t6, t7, t8, t9] bag0.tok, val := nth [ccdzz, ccdzz, ccdzz, av, j0, k0, l0] bag0.val, w := nth [w, w, w, w] bag0.w } hM hb hz
end Mine
end
section
theorem Mine.clearS3 : True := by
 k_with_none
 trivial
open PySem PySem.W PyProof.Rows PySem.Calls PySem.Spec
set_option Elab.async false
set_option maxRecDepth 100000
namespace Mine
theorem rowsS3a : True := by
 k_with_none
 (k_with "mine lt" => with_reducible first | assumption | exact cj0 ‹_› | exact cj1 ‹_› | exact cj2 ‹_› | exact cj3 ‹_› | exact cj4 ‹_› | exact cj5 ‹_› | exact cj6 ‹_› | exact cj7 ‹_› | exact cj8 ‹_› | exact cj9 ‹_› | exact cj10 ‹_› | exact cj11 ‹_› | exact cj12 ‹_› | exact cj13 ‹_› | exact cj14 ‹_› | exact cj15 ‹_› | exact dk1 ‹_› | exact dk2 ‹_› | exact dk3 ‹_› | exact dk4 ‹_› | exact dk5 ‹_› | exact dk6 ‹_› | exact dk7 ‹_› | exact dk8 ‹_› | exact dk9 ‹_› | exact dk10 ‹_› | exact dk11 ‹_› | exact dk12 ‹_› | exact dk13 ‹_› | exact dk14 ‹_› | exact dk15 ‹_›)
 (k_with "mine k_ne" => (refine neN ?_; (try dsimp only); first | with_reducible assumption | exact Ne.symm (by with_reducible assumption) | exact Nat.ne_of_lt (by k_extra "mine lt") | exact Nat.ne_of_gt (by k_extra "mine lt") | grind))
 (k_with "mine cell_enter" => (refine' code_defR (by exact rfl) (by exact rfl) (by assumption) (by k_asm) (by k_asm) (by k_asm) (by k_asm) (by k_asm) (by k_is) (by k_is) (by ktr_room) (by exact BindsTo.of_eq rfl) (by exact locs rfl) ?_ (by exact rfl) (by exact rfl) (by exact rfl) (by decide); k_whole; intro g'xq L'xq h'xq tkEq FG'xq F'xq N'xq B'xq X'xq T'xq GS'xq; (try dsimp only); (try k_lift B'xq); (try k_fold)))
 (k_with "mine exec For" => (refine stopAt ?_))
 (k_with "mine exec For Name Call cons nil" => (refine stopAt ?_))
 (k_with "mine exec For Name Name cons nil" => (refine stopAt ?_))
 (k_with "mine exec For Tuple" => (refine stopAt ?_))
 (k_with "mine exec For Tuple Call" => (refine stopAt ?_))
 (k_with "mine call type:enumerate" => (refine stopAt ?_))
 (k_with "mine call builtin:dict.setdefault" => (refine stopAt ?_))
 (k_with "mine k_all" => (assumption))
 (k_with "mine setItem ref int" => (k_here; k_dflt (refine' kda_set (knd := PySem.intKind _ _) (by k_asm) (by k_asm) (by k_updF) (by k_asm) (intKind_is _ _ _ _) (by assumption) ?_); intro h'xq o'xq F'xq N'xq hd'xq; (try dsimp only at N'xq); (try k_sweep)))
 (k_with "mine subscriptTail" => (k_here; k_dflt (refine' kda_item (knd := PySem.intKind _ _) (by k_asm) (by k_mem) (by k_asm) (intKind_is _ _ _ _) (by assumption) ?_ (by with_unfolding_all rfl) (by intro _; with_unfolding_all rfl))))
 (k_with "mine getMethod ref" => (k_here; (with_reducible show wpAny _ _ (getMethod (Value.ref _) (Str.ofString "setdefault") _) _ _ _); k_dflt (refine' getm_setdefault (by k_asm) (by k_mem) (by k_asm) ?_)))
 trivial
theorem news_both {h₀ h : Heap} {L : Addr} {x y : Addr × Obj} {led : List (Addr × Obj)} (N : News h₀ L h led) (hx : x ∈ led) (hy : y ∈ led) : News h₀ L h [x, y] := fun p hp => by
 rcases List.mem_cons.mp hp with rfl | hp
 ·exact N p hx
 ·exact N p (List.mem_singleton.mp hp ▸ hy)
noncomputable def TokOk (t : Tok) : Prop := t ≠ 0
noncomputable def ratio (m n : Int) : UInt64 := Float64.div (Float64.mul 0x4000000000000000 (Float64.ofInt m)) (Float64.ofInt n)
set_option maxHeartbeats 4000000 in
theorem calcR (w : World) (mg mb) (m n : Int) (t u : Tok) (hm : 0 ≤ m ∧ m ≤ 100) (hn : 0 < n ∧ n ≤ 100) : FunA 2 w mg mb 145 [.int m t, .int n u] [] (fun r tl => tl = [] ∧ ∃ t, TokOk t ∧ r = .float (ratio m n) t) := by
 w_on
 unfold FunA
 k_fill
 intros
 rename_i hret
 refine wpAny_call ?_
 k_dflt cell_enter
 k_steps
 all_goals first
  | exact hret _ [] _ _ (fun0 (by assumption) (by assumption)) nil0 ⟨rfl, _, Nat.succ_ne_zero _, rfl⟩
  | (exfalso; grind)
theorem is_ref_ne {prog : Program} {w : World} {A : Around} {E : Value → Shared → Prop} {s : Shared} {h₀ : Heap} {L x y : Addr} {m : Str → Option Value} {ox oy : Obj} {Q : Value → Shared → Prop} (F : Fr h₀ L s.heap m) (hne : @Ne Nat x y) (hx : h₀.get? x = some ox) (hy : h₀.get? y = some oy) (hc : ox.cls = .type "list") (h : Q (.bool false) s) :
  wpAny (model prog w) A (compareOp .Is (.ref x) (.ref y)) Q E s :=
 wpAny_is_ref_other hne (F.keep _ _ hx) (F.keep _ _ hy) (by rw [hc]; exact cls_ne (by decide)) h
theorem rowsS3b : True := by
 (k_with "mine compareOp Is ref ref" => (k_here; k_dflt (refine' is_ref_ne (by k_asm) (by assumption) (by assumption) (by assumption) (by exact rfl) ?_)))
 (k_with "mine call ref" => (k_here; (with_reducible show wpAny _ _ (call (Value.ref 145) _) _ _ _); k_dflt (refine' funA_use (calcR _ _ _ _ _ _ _ (by constructor <;> (try split) <;> grind) (by constructor <;> grind)) (by k_asm) (by k_asm) (by k_asm) (by k_asm) (by k_asm) (by first | exact rfl | assumption) (by ktr_room) (by ktr_units) (by exact fun _ hxq => nomatch hxq) ?_); intro rvxq tl9xq h9xq tk9xq F9xq N9xq kp9xq ne9xq rnxq; refine hdG ?_; intro Xh hXh; obtain ⟨e9xq, t9xq, z9xq, rnxq⟩ := rnxq; subst e9xq; subst rnxq; refine hXh ?_; clear hXh; (try simp only [List.nil_append] at N9xq); (try clear ne9xq)))
 trivial
namespace E_set1
noncomputable def theP (zC : Bag) : Prop :=
 let w := zC.w 3; let mg := zC.fr 3; let mb := zC.fr 4; let M := zC.addr 3; let dM := zC.addr 4; let la := zC.addr 5; let lb := zC.addr 6; let lc := zC.addr 7; let p := zC.il 3; let p' := zC.il 4; let led := zC.led 3; let t0 := zC.tok 3; let t1 := zC.tok 4; let t2 := zC.tok 5; let t3 := zC.tok 6; let t4 := zC.tok 7; let t5 := zC.tok 8; let t6 := zC.tok 9; let t7 := zC.tok 10; let t8 := zC.tok 11; let t9 := zC.tok 12; let fb := zC.val 3; let j0 := zC.val 4; let k0 := zC.val 5; let l0 := zC.val 6;
 ∀ (ha : IntsIn led la p) (hc : IntsIn led lc p') (hM : (M, instObj 242 dM) ∈ led) (hne0 : @Ne Nat lc la), FunUb zC 4 w mg mb 174 [.ref M, .ref lc] led dM (md10 w t0 t1 t2 t3 t4 t5 t6 t7 t8 t9 (.ref la) (.ref lb) fb j0 k0 l0) (fun r o' tl => r = .none ∧ o' = md10 w t0 t1 t2 t3 t4 t5 t6 t7 t8 t9 (.ref lc) (.ref lb) fb j0 k0 l0)
@[irreducible] def tB : Bag := bagOf theP
@[irreducible] def w := tB.w 3
@[irreducible] def mg := tB.fr 3
@[irreducible] def mb := tB.fr 4
@[irreducible] def M := tB.addr 3
@[irreducible] def dM := tB.addr 4
@[irreducible] def la := tB.addr 5
@[irreducible] def lb := tB.addr 6
@[irreducible] def lc := tB.addr 7
@[irreducible] def p := tB.il 3
@[irreducible] def p' := tB.il 4
@[irreducible] def led := tB.led 3
@[irreducible] def t0 := tB.tok 3
@[irreducible] def t1 := tB.tok 4
@[irreducible] def t2 := tB.tok 5
@[irreducible] def t3 := tB.tok 6
@[irreducible] def t4 := tB.tok 7
@[irreducible] def t5 := tB.tok 8
@[irreducible] def t6 := tB.tok 9
@[irreducible] def t7 := tB.tok 10
@[irreducible] def t8 := tB.tok 11
@[irreducible] def t9 := tB.tok 12
@[irreducible] def fb := tB.val 3
@[irreducible] def j0 := tB.val 4
@[irreducible] def k0 := tB.val 5
@[irreducible] def l0 := tB.val 6
noncomputable def coreT : Prop := ∀ (ha : IntsIn led la p) (hc : IntsIn led lc p') (hM : (M, instObj 242 dM) ∈ led) (hne0 : @Ne Nat lc la), FunUb tB 4 w mg mb 174 [.ref M, .ref lc] led dM (md10 w t0 t1 t2 t3 t4 t5 t6 t7 t8 t9 (.ref la) (.ref lb) fb j0 k0 l0) (fun r o' tl => r = .none ∧ o' = md10 w t0 t1 t2 t3 t4 t5 t6 t7 t8 t9 (.ref lc) (.ref lb) fb j0 k0 l0)
set_option maxHeartbeats 4000000 in
noncomputable def part1 : (P : Bag → Prop) ×' (P (bagOf P) → coreT) := by
 refine' ⟨_, fun hP => ?_⟩
 rotate_left
 unfold coreT
 intro ha hc hM hne0
 w_on
 unfold FunUb
 k_fill
 intros
 rename_i hN hT hk hd hu hret
 have hN1 := news_two hN hM
 have hne : @Ne Nat dM M := news_ne hN1 (by intro e; cases e)
 refine hdG ?_; intro Xh hXh
 refine ex2 ha ?_
 try clear ha
 rintro va na hZ
 obtain ⟨ma, ia⟩ := hZ
 refine ex2 hc ?_
 try clear hc
 rintro vc nc hZ
 obtain ⟨mc, ic⟩ := hZ
 refine hXh ?_; clear hXh
 have hla := (hN _ (.tail _ ma)).1
 have hlc := (hN _ (.tail _ mc)).1
 rename_i z0z z1z z2z
 refine wpAny_call ?_
 k_dflt (refine' code_defR (by exact rfl) (by exact rfl) (by assumption) (by k_asm) (by k_asm) (by k_asm) (by k_asm) (by k_asm) (by k_is) (by k_is) (by ktr_room) (by exact BindsTo.of_eq rfl) (by exact locs rfl) ?_ (by exact rfl) (by exact rfl) (by exact rfl) (by decide); k_whole)
 intro g L1 h1 tk
 revert hM hne0 z0z z1z z2z hN hT hk hd hu hret hN1 hne ma ia mc ic hla hlc
 revert Xh va na vc nc
 revert g L1 h1 tk
 exact bag4 _ (by exact rfl) hP
@[irreducible] def theB1 : Bag := bagOf part1.1
set_option maxHeartbeats 4000000 in
theorem part2 : part1.1 theB1 := by
 delta part1
 dsimp only
 intro Xh va na vc nc
 intro hM hne0 z0z z1z z2z hN hT hk hd hu hret hN1 hne ma ia mc ic hla hlc FG'xq F'xq N'xq B'xq X'xq T'xq GS'xq
 w_on
 k_fill
 (try dsimp only)
 (try k_lift B'xq)
 (try k_fold)
 rename GSub _ _ _ => GS
 have la' := base_of hN1 GS hla (cls_ne (by decide)) (by intro e; cases e)
 have lc' := base_of hN1 GS hlc (cls_ne (by decide)) (by intro e; cases e)
 k_steps
 all_goals
  refine funU_ret hret hN1 GS (by assumption) (by assumption) (by k_mem) (fun p hp => ?_) fun tl htl => ⟨rfl, rfl⟩
  rcases List.mem_cons.mp hp with rfl | hp
  ·exact .inl rfl
  ·rw [List.mem_singleton.mp hp]; exact .inr (by k_mem)
theorem core : coreT := part1.2 (by with_unfolding_all exact part2)
end E_set1
theorem set1 (w : World) (mg mb) {M dM la lb lc : Addr} {p p' : List Int} {led : List (Addr × Obj)} (ha : IntsIn led la p) (hc : IntsIn led lc p') (hM : (M, instObj 242 dM) ∈ led) (hne0 : @Ne Nat lc la) (t0 t1 t2 t3 t4 t5 t6 t7 t8 t9 : Tok) (fb j0 k0 l0 : Value) : FunU 4 w mg mb 174 [.ref M, .ref lc] led dM (md10 w t0 t1 t2 t3 t4 t5 t6 t7 t8 t9 (.ref la) (.ref lb) fb j0 k0 l0) (fun r o' tl => r = .none ∧ o' = md10 w t0 t1 t2 t3 t4 t5 t6 t7 t8 t9 (.ref lc) (.ref lb) fb j0 k0 l0) := fun dpzz unzz gdzz cnzz cszz azz ccdzz clzz outerzz A₀zz basezz h₀zz Lzz mzz szz Qzz Ezz => bag_all (P := E_set1.theP) (by with_unfolding_all exact @E_set1.core) { bag0 with A := nth [A₀zz, A₀zz, A₀zz] bag0.A, addr := nth [azz, Lzz, azz, M, dM, la, lb, lc] bag0.addr, cl := nth [clzz, clzz, clzz] bag0.cl, fr := nth [mzz, mzz, mzz, mg, mb] bag0.fr, gd := nth [gdzz, gdzz, gdzz] bag0.gd, heap := nth [basezz, h₀zz, basezz] bag0.heap, il := nth [p, p, p, p, p'] bag0.il, led := nth [led, led, led, led] bag0.led, nat := nth [dpzz, unzz, dpzz] bag0.nat, outer := nth [outerzz, outerzz, outerzz] bag0.outer, qv := nth [Qzz, Ezz, Qzz] bag0.qv, s := nth [szz, szz, szz] bag0.s, scope := nth [cszz, cszz, cszz] bag0.scope, str := nth [cnzz, cnzz, cnzz] bag0.str, tok := nth [t0, t0, t0, t0, t1, t2, t3, t4, t5, t6, t7, t8, t9] bag0.tok, val := nth [ccdzz, ccdzz, ccdzz, fb, j0, k0, l0] bag0.val, w := nth [w, w, w, w] bag0.w } ha hc hM hne0
namespace E_real
noncomputable def theP (zC : Bag) : Prop :=
 let w := zC.w 3; let mg := zC.fr 3; let mb := zC.fr 4; let M := zC.addr 3; let dM := zC.addr 4; let la := zC.addr 5; let lb := zC.addr 6; let p := zC.il 3; let q := zC.il 4; let led := zC.led 3; let t0 := zC.tok 3; let t1 := zC.tok 4; let t2 := zC.tok 5; let t3 := zC.tok 6; let t4 := zC.tok 7; let t5 := zC.tok 8; let t6 := zC.tok 9; let t7 := zC.tok 10; let t8 := zC.tok 11; let t9 := zC.tok 12; let fb := zC.val 3; let j0 := zC.val 4; let k0 := zC.val 5; let l0 := zC.val 6;
 ∀ (hM : (M, instObj 242 dM) ∈ led) (hD : (dM, md10 w t0 t1 t2 t3 t4 t5 t6 t7 t8 t9 (.ref la) (.ref lb) fb j0 k0 l0) ∈ led) (ha : IntsIn led la p) (hb : IntsIn led lb q) (hz : 0 < p.length ∧ p.length ≤ 50 ∧ 0 < q.length ∧ q.length ≤ 50), FunAb zC 4 w mg mb 239 [.ref M] led (fun r tl => ∃ t, TokOk t ∧ r = .float (ratio (min (p.length : Int) q.length) (p.length + q.length)) t)
@[irreducible] def tB : Bag := bagOf theP
@[irreducible] def w := tB.w 3
@[irreducible] def mg := tB.fr 3
@[irreducible] def mb := tB.fr 4
@[irreducible] def M := tB.addr 3
@[irreducible] def dM := tB.addr 4
@[irreducible] def la := tB.addr 5
@[irreducible] def lb := tB.addr 6
@[irreducible] def p := tB.il 3
@[irreducible] def q := tB.il 4
@[irreducible] def led := tB.led 3
@[irreducible] def t0 := tB.tok 3
@[irreducible] def t1 := tB.tok 4
@[irreducible] def t2 := tB.tok 5
@[irreducible] def t3 := tB.tok 6
@[irreducible] def t4 := tB.tok 7
@[irreducible] def t5 := tB.tok 8
@[irreducible] def t6 := tB.tok 9
@[irreducible] def t7 := tB.tok 10
@[irreducible] def t8 := tB.tok 11
@[irreducible] def t9 := tB.tok 12
@[irreducible] def fb := tB.val 3
@[irreducible] def j0 := tB.val 4
@[irreducible] def k0 := tB.val 5
@[irreducible] def l0 := tB.val 6
noncomputable def coreT : Prop := ∀ (hM : (M, instObj 242 dM) ∈ led) (hD : (dM, md10 w t0 t1 t2 t3 t4 t5 t6 t7 t8 t9 (.ref la) (.ref lb) fb j0 k0 l0) ∈ led) (ha : IntsIn led la p) (hb : IntsIn led lb q) (hz : 0 < p.length ∧ p.length ≤ 50 ∧ 0 < q.length ∧ q.length ≤ 50), FunAb tB 4 w mg mb 239 [.ref M] led (fun r tl => ∃ t, TokOk t ∧ r = .float (ratio (min (p.length : Int) q.length) (p.length + q.length)) t)
set_option maxHeartbeats 4000000 in
noncomputable def part1 : (P : Bag → Prop) ×' (P (bagOf P) → coreT) := by
 refine' ⟨_, fun hP => ?_⟩
 rotate_left
 unfold coreT
 intro hM hD ha hb hz
 w_on
 unfold FunAb
 k_fill
 intros
 rename_i hN hT hk hd hu hret
 have hN1 := news_both hN hD hM
 have hne : @Ne Nat dM M := news_ne hN1 (by intro e; cases e)
 refine hdG ?_; intro Xh hXh
 refine ex2 ha ?_
 try clear ha
 rintro va na hZ
 obtain ⟨ma, ia⟩ := hZ
 refine ex2 hb ?_
 try clear hb
 rintro vb nb hZ
 obtain ⟨mb', ib⟩ := hZ
 refine hXh ?_; clear hXh
 have hla := (hN _ ma).1
 have hlb := (hN _ mb').1
 rename_i z0z z1z z2z
 refine wpAny_call ?_
 k_dflt (refine' code_defR (by exact rfl) (by exact rfl) (by assumption) (by k_asm) (by k_asm) (by k_asm) (by k_asm) (by k_asm) (by k_is) (by k_is) (by ktr_room) (by exact BindsTo.of_eq rfl) (by exact locs rfl) ?_ (by exact rfl) (by exact rfl) (by exact rfl) (by decide); k_whole)
 intro g L1 h1 tk
 revert hM hD hz z0z z1z z2z hN hT hk hd hu hret hN1 hne ma ia mb' ib hla hlb
 revert Xh va na vb nb
 revert g L1 h1 tk
 exact bag4 _ (by exact rfl) hP
@[irreducible] def theB1 : Bag := bagOf part1.1
set_option maxHeartbeats 4000000 in
theorem part2 : part1.1 theB1 := by
 delta part1
 dsimp only
 intro Xh va na vb nb
 intro hM hD hz z0z z1z z2z hN hT hk hd hu hret hN1 hne ma ia mb' ib hla hlb FG'xq F'xq N'xq B'xq X'xq T'xq GS'xq
 w_on
 k_fill
 (try dsimp only)
 (try k_lift B'xq)
 (try k_fold)
 rename GSub _ _ _ => GS
 have la' : Heap.IsList _ la va.toArray := (⟨_, ia2 (base_of hN1 GS hla (cls_ne (by decide)) (by intro e; cases e)) rfl ⟨na, rfl⟩⟩)
 have lb' : Heap.IsList _ lb vb.toArray := (⟨_, ia2 (base_of hN1 GS hlb (cls_ne (by decide)) (by intro e; cases e)) rfl ⟨nb, rfl⟩⟩)
 have za := ia.length
 have zb := ib.length
 k_steps
 all_goals
  refine funA_ret hret hN1 GS (by assumption) (by assumption) (fun p hp => ?_) fun tl htl => ?_
  ·rcases List.mem_cons.mp hp with rfl | hp
   ·k_mem
   ·rw [List.mem_singleton.mp hp]; k_mem
  ·rw [show min (p.length : Int) q.length = (if (q.length : Int) < p.length then (q.length : Int) else p.length) by split <;> grind]
   exact ⟨_, by assumption, rfl⟩
theorem core : coreT := part1.2 (by with_unfolding_all exact part2)
end E_real
theorem real (w : World) (mg mb) {M dM la lb : Addr} {p q : List Int} {led : List (Addr × Obj)} (t0 t1 t2 t3 t4 t5 t6 t7 t8 t9 : Tok) (fb j0 k0 l0 : Value) (hM : (M, instObj 242 dM) ∈ led) (hD : (dM, md10 w t0 t1 t2 t3 t4 t5 t6 t7 t8 t9 (.ref la) (.ref lb) fb j0 k0 l0) ∈ led) (ha : IntsIn led la p) (hb : IntsIn led lb q) (hz : 0 < p.length ∧ p.length ≤ 50 ∧ 0 < q.length ∧ q.length ≤ 50) : FunA 4 w mg mb 239 [.ref M] led (fun r tl => ∃ t, TokOk t ∧ r = .float (ratio (min (p.length : Int) q.length) (p.length + q.length)) t) := fun dpzz unzz gdzz cnzz cszz azz ccdzz clzz outerzz A₀zz basezz h₀zz Lzz mzz szz Qzz Ezz => bag_all (P := E_real.theP) (by with_unfolding_all exact @E_real.core) { bag0 with A := nth [A₀zz, A₀zz, A₀zz] bag0.A, addr := nth [azz, Lzz, azz, M, dM, la, lb] bag0.addr, cl := nth [clzz, clzz, clzz] bag0.cl, fr := nth [mzz, mzz, mzz, mg, mb] bag0.fr, gd := nth [gdzz, gdzz, gdzz] bag0.gd, heap := nth [basezz, h₀zz, basezz] bag0.heap, il := nth [p, p, p, p, q] bag0.il, led := nth [led, led, led, led] bag0.led, nat := nth [dpzz, unzz, dpzz] bag0.nat, outer := nth [outerzz, outerzz, outerzz] bag0.outer, qv := nth [Qzz, Ezz, Qzz] bag0.qv, s := nth [szz, szz, szz] bag0.s, scope := nth [cszz, cszz, cszz] bag0.scope, str := nth [cnzz, cnzz, cnzz] bag0.str, tok := nth [t0, t0, t0, t0, t1, t2, t3, t4, t5, t6, t7, t8, t9] bag0.tok, val := nth [ccdzz, ccdzz, ccdzz, fb, j0, k0, l0] bag0.val, w := nth [w, w, w, w] bag0.w } hM hD ha hb hz
end Mine
end
section
theorem Mine.clearS4 : True := by
 k_with_none
 trivial
open PySem PySem.W PyProof.Rows PySem.Calls PySem.Spec
set_option Elab.async false
set_option maxRecDepth 100000
namespace Mine
theorem rowsS4a : True := by
 k_with_none
 (k_with "mine lt" => with_reducible first | assumption | exact cj0 ‹_› | exact cj1 ‹_› | exact cj2 ‹_› | exact cj3 ‹_› | exact cj4 ‹_› | exact cj5 ‹_› | exact cj6 ‹_› | exact cj7 ‹_› | exact cj8 ‹_› | exact cj9 ‹_› | exact cj10 ‹_› | exact cj11 ‹_› | exact cj12 ‹_› | exact cj13 ‹_› | exact cj14 ‹_› | exact cj15 ‹_› | exact dk1 ‹_› | exact dk2 ‹_› | exact dk3 ‹_› | exact dk4 ‹_› | exact dk5 ‹_› | exact dk6 ‹_› | exact dk7 ‹_› | exact dk8 ‹_› | exact dk9 ‹_› | exact dk10 ‹_› | exact dk11 ‹_› | exact dk12 ‹_› | exact dk13 ‹_› | exact dk14 ‹_› | exact dk15 ‹_›)
 (k_with "mine k_ne" => (refine neN ?_; (try dsimp only); first | with_reducible assumption | exact Ne.symm (by with_reducible assumption) | exact Nat.ne_of_lt (by k_extra "mine lt") | exact Nat.ne_of_gt (by k_extra "mine lt") | grind))
 (k_with "mine cell_enter" => (refine' code_defR (by exact rfl) (by exact rfl) (by assumption) (by k_asm) (by k_asm) (by k_asm) (by k_asm) (by k_asm) (by k_is) (by k_is) (by ktr_room) (by exact BindsTo.of_eq rfl) (by exact locs rfl) ?_ (by exact rfl) (by exact rfl) (by exact rfl) (by decide); k_whole; intro g'xq L'xq h'xq tkEq FG'xq F'xq N'xq B'xq X'xq T'xq GS'xq; (try dsimp only); (try k_lift B'xq); (try k_fold)))
 (k_with "mine k_all" => (assumption))
 (k_with "mine setItem ref int" => (k_here; k_dflt (refine' kda_set (knd := PySem.intKind _ _) (by k_asm) (by k_asm) (by k_updF) (by k_asm) (intKind_is _ _ _ _) (by assumption) ?_); intro h'xq o'xq F'xq N'xq hd'xq; (try dsimp only at N'xq); (try k_sweep)))
 (k_with "mine subscriptTail" => (k_here; k_dflt (refine' kda_item (knd := PySem.intKind _ _) (by k_asm) (by k_mem) (by k_asm) (intKind_is _ _ _ _) (by assumption) ?_ (by with_unfolding_all rfl) (by intro _; with_unfolding_all rfl))))
 trivial
theorem is_ref_ne2 {prog : Program} {w : World} {A : Around} {E : Value → Shared → Prop} {s : Shared} {x y : Addr} {ox oy : Obj} {Q : Value → Shared → Prop} (hne : @Ne Nat x y) (hx : s.heap.get? x = some ox) (hy : s.heap.get? y = some oy) (hc : ox.cls ≠ .type "tuple") (h : Q (.bool false) s) :
  wpAny (model prog w) A (compareOp .Is (.ref x) (.ref y)) Q E s := wpAny_is_ref_other hne hx hy hc h
theorem rowsS4b : True := by
 (k_with "mine compareOp Is ref ref" => (k_here; k_dflt (refine' is_ref_ne2 (by assumption) (by first | exact News.get (by k_asm) (by k_mem) | exact Fr.keep (by k_asm) _ _ (by assumption)) (by first | exact News.get (by k_asm) (by k_mem) | exact Fr.keep (by k_asm) _ _ (by assumption)) (by exact cls_ne (by decide)) ?_)))
 (k_with "mine call ref" => (k_here; (with_reducible show wpAny _ _ (call (Value.ref 188) _) _ _ _); k_dflt (refine' funU_use (chain10 _ _ _ (led := [(_, _), (_, _)]) (List.Mem.head _) (ix2 _ _ ⟨List.Mem.tail _ (List.Mem.head _), (by assumption)⟩) (by assumption) _ _ _ _ _ _ _ _ _ _ _ _ _ _) (by k_asm) (by k_asm) (by k_asm) (by k_asm) (by k_asm) (by k_updF) (by first | exact rfl | assumption) (by ktr_room) (by ktr_units) (by exact List.forall_mem_cons.mpr ⟨by k_mem, List.forall_mem_cons.mpr ⟨by k_mem, fun _ hxq => nomatch hxq⟩⟩) ?_); intro rvxq o9xq tl9xq h9xq tk9xq F9xq N9xq ne9xq rnxq; refine hdG ?_; intro Xh hXh; (obtain ⟨e9xq, hZxq⟩ := rnxq; refine ex3 hZxq ?_; clear hZxq; rintro j9xq k9xq l9xq rnxq); subst e9xq; subst rnxq; refine hXh ?_; clear hXh; (replace N9xq := N9xq.right); (try dsimp only at N9xq); (try clear ne9xq)))
 trivial
theorem news_three {h₀ h : Heap} {L : Addr} {x y z : Addr × Obj} {led : List (Addr × Obj)} (N : News h₀ L h (x :: led)) (hy : y ∈ led) (hz : z ∈ led) : News h₀ L h [x, y, z] := fun p hp => by
 rcases List.mem_cons.mp hp with rfl | hp
 ·exact N p (.head _)
 ·rcases List.mem_cons.mp hp with rfl | hp
  ·exact N p (.tail _ hy)
  ·exact N p (.tail _ (List.mem_singleton.mp hp ▸ hz))
theorem ne_of_two {h₀ h : Heap} {L : Addr} {news : List (Addr × Obj)} {x y : Addr × Obj} (N : News h₀ L h news) (hx : x ∈ news) (hy : y ∈ news) (c : x.2.cls ≠ y.2.cls) : @Ne Nat x.1 y.1 := fun e => by
 have e : x.1 = y.1 := e
 have h1 := (N x hx).1
 rw [e, (N y hy).1] at h1
 exact c (by rw [Option.some.inj h1])
theorem base_of3 {h₀ h g : Heap} {L : Addr} {x y z : Addr × Obj} {l : Addr} {o : Obj} (N : News h₀ L h [x, y, z]) (GS : GSub h g (([x, y, z] : List (Addr × Obj)).map (·.1))) (hl : h.get? l = some o) (c1 : o.cls ≠ x.2.cls) (c2 : o.cls ≠ y.2.cls) (c3 : @Ne Nat l z.1) : g.get? l = some o := by
 refine GS l o hl fun hm => ?_
 simp only [List.map_cons, List.map_nil, List.mem_cons, List.not_mem_nil, or_false] at hm
 rcases hm with e | e | e
 ·have h1 := (N x (.head _)).1
  rw [← e, hl] at h1
  exact c1 (by rw [Option.some.inj h1])
 ·have h1 := (N y (.tail _ (.head _))).1
  rw [← e, hl] at h1
  exact c2 (by rw [Option.some.inj h1])
 ·exact c3 e
namespace E_set2
noncomputable def theP (zC : Bag) : Prop :=
 let w := zC.w 3; let mg := zC.fr 3; let mb := zC.fr 4; let M := zC.addr 3; let dM := zC.addr 4; let la := zC.addr 5; let lb := zC.addr 6; let lc := zC.addr 7; let p := zC.il 3; let p' := zC.il 4; let led := zC.led 3; let t0 := zC.tok 3; let t1 := zC.tok 4; let t2 := zC.tok 5; let t3 := zC.tok 6; let t4 := zC.tok 7; let t5 := zC.tok 8; let t6 := zC.tok 9; let t7 := zC.tok 10; let t8 := zC.tok 11; let t9 := zC.tok 12; let fb := zC.val 3; let j0 := zC.val 4; let k0 := zC.val 5; let l0 := zC.val 6;
 ∀ (hb : IntsIn led lb p) (hc : IntsIn led lc p') (hz : p'.length ≤ 100) (hM : (M, instObj 242 dM) ∈ led) (hne0 : @Ne Nat lc lb), FunUb zC 7 w mg mb 181 [.ref M, .ref lc] led dM (md10 w t0 t1 t2 t3 t4 t5 t6 t7 t8 t9 (.ref la) (.ref lb) fb j0 k0 l0) (fun r o' tl => r = .none ∧ ∃ j k l, o' = md10 w t0 t1 t2 t3 t4 t5 t6 t7 t8 t9 (.ref la) (.ref lc) .none j k l)
@[irreducible] def tB : Bag := bagOf theP
@[irreducible] def w := tB.w 3
@[irreducible] def mg := tB.fr 3
@[irreducible] def mb := tB.fr 4
@[irreducible] def M := tB.addr 3
@[irreducible] def dM := tB.addr 4
@[irreducible] def la := tB.addr 5
@[irreducible] def lb := tB.addr 6
@[irreducible] def lc := tB.addr 7
@[irreducible] def p := tB.il 3
@[irreducible] def p' := tB.il 4
@[irreducible] def led := tB.led 3
@[irreducible] def t0 := tB.tok 3
@[irreducible] def t1 := tB.tok 4
@[irreducible] def t2 := tB.tok 5
@[irreducible] def t3 := tB.tok 6
@[irreducible] def t4 := tB.tok 7
@[irreducible] def t5 := tB.tok 8
@[irreducible] def t6 := tB.tok 9
@[irreducible] def t7 := tB.tok 10
@[irreducible] def t8 := tB.tok 11
@[irreducible] def t9 := tB.tok 12
@[irreducible] def fb := tB.val 3
@[irreducible] def j0 := tB.val 4
@[irreducible] def k0 := tB.val 5
@[irreducible] def l0 := tB.val 6
set_option maxHeartbeats 4000000 in
theorem core (hb : IntsIn led lb p) (hc : IntsIn led lc p') (hz : p'.length ≤ 100) (hM : (M, instObj 242 dM) ∈ led) (hne0 : @Ne Nat lc lb) : FunUb tB 7 w mg mb 181 [.ref M, .ref lc] led dM (md10 w t0 t1 t2 t3 t4 t5 t6 t7 t8 t9 (.ref la) (.ref lb) fb j0 k0 l0) (fun r o' tl => r = .none ∧ ∃ j k l, o' = md10 w t0 t1 t2 t3 t4 t5 t6 t7 t8 t9 (.ref la) (.ref lc) .none j k l) := by
 w_on
 unfold FunUb
 k_fill
 intros
 rename_i hN hT hk hd hu hret
 refine hdG ?_; intro Xh hXh
 refine ex2 hb ?_
 try clear hb
 rintro vb nb hZ
 obtain ⟨mb', ib⟩ := hZ
 refine ex2 hc ?_
 try clear hc
 rintro vc nc hZ
 obtain ⟨mc, ic⟩ := hZ
 refine hXh ?_; clear hXh
 have hlb := (hN _ (.tail _ mb')).1
 have hN1 := news_three hN hM mc
 have hne : @Ne Nat dM M := ne_of_two hN1 (.head _) (.tail _ (.head _)) (by intro e; cases e)
 have hne1 : @Ne Nat dM lc := ne_of_two hN1 (.head _) (.tail _ (.tail _ (.head _))) (cls_ne (by decide))
 have hne2 : @Ne Nat M lc := ne_of_two hN1 (.tail _ (.head _)) (.tail _ (.tail _ (.head _))) (by intro e; cases e)
 refine wpAny_call ?_
 k_dflt cell_enter
 rename GSub _ _ _ => GS
 have lb' := base_of3 hN1 GS hlb (cls_ne (by decide)) (by intro e; cases e) (fun e => hne0 e.symm)
 k_steps
 all_goals
  refine funU_ret hret hN1 GS (by assumption) (by assumption) (by k_mem) (fun p hp => ?_) fun tl htl => (⟨rfl, ix3 _ _ _ rfl⟩)
  rcases List.mem_cons.mp hp with rfl | hp
  ·exact .inl rfl
  ·rcases List.mem_cons.mp hp with rfl | hp
   ·exact .inr (by k_mem)
   ·rw [List.mem_singleton.mp hp]; exact .inr (by k_mem)
end E_set2
theorem set2 (w : World) (mg mb) {M dM la lb lc : Addr} {p p' : List Int} {led : List (Addr × Obj)} (hb : IntsIn led lb p) (hc : IntsIn led lc p') (hz : p'.length ≤ 100) (hM : (M, instObj 242 dM) ∈ led) (hne0 : @Ne Nat lc lb) (t0 t1 t2 t3 t4 t5 t6 t7 t8 t9 : Tok) (fb j0 k0 l0 : Value) : FunU 7 w mg mb 181 [.ref M, .ref lc] led dM (md10 w t0 t1 t2 t3 t4 t5 t6 t7 t8 t9 (.ref la) (.ref lb) fb j0 k0 l0) (fun r o' tl => r = .none ∧ ∃ j k l, o' = md10 w t0 t1 t2 t3 t4 t5 t6 t7 t8 t9 (.ref la) (.ref lc) .none j k l) := fun dpzz unzz gdzz cnzz cszz azz ccdzz clzz outerzz A₀zz basezz h₀zz Lzz mzz szz Qzz Ezz => bag_all (P := E_set2.theP) (by with_unfolding_all exact @E_set2.core) { bag0 with A := nth [A₀zz, A₀zz, A₀zz] bag0.A, addr := nth [azz, Lzz, azz, M, dM, la, lb, lc] bag0.addr, cl := nth [clzz, clzz, clzz] bag0.cl, fr := nth [mzz, mzz, mzz, mg, mb] bag0.fr, gd := nth [gdzz, gdzz, gdzz] bag0.gd, heap := nth [basezz, h₀zz, basezz] bag0.heap, il := nth [p, p, p, p, p'] bag0.il, led := nth [led, led, led, led] bag0.led, nat := nth [dpzz, unzz, dpzz] bag0.nat, outer := nth [outerzz, outerzz, outerzz] bag0.outer, qv := nth [Qzz, Ezz, Qzz] bag0.qv, s := nth [szz, szz, szz] bag0.s, scope := nth [cszz, cszz, cszz] bag0.scope, str := nth [cnzz, cnzz, cnzz] bag0.str, tok := nth [t0, t0, t0, t0, t1, t2, t3, t4, t5, t6, t7, t8, t9] bag0.tok, val := nth [ccdzz, ccdzz, ccdzz, fb, j0, k0, l0] bag0.val, w := nth [w, w, w, w] bag0.w } hb hc hz hM hne0
theorem makeG {prog : Program} {w : World} {A : Around} {K : Frag} {C : Addr} {s : Shared} {h₀ : Heap} {L : Addr} {m : Str → Option Value} {news : List (Addr × Obj)} {R : Result → Shared → Prop} {rest : List Value} {kw : List (Str × Value)} {fI : Addr} (F : Fr h₀ L s.heap m) (N : News h₀ L s.heap news) (X : K.In h₀) (hm : makesIn K C = true)
  (hi : findIn K (.ref C) "__init__" = some (some (.ref fI))) (hf : isFn K (.ref fI) = true)
  (h : ∀ x dx h', Fr h₀ L h' m → News h₀ L h' ((x, instObj C dx) :: (dx, dictOf [] 0) :: news) → (∀ p ∈ news, p.1 < dx) → dx < x → (∀ b o, s.heap.get? b = some o → h'.get? b = some o) → s.heap.get? x = none → s.heap.get? dx = none →
   codeAny (model prog w) (A.under (.builtin "type.__call__" ⟨.ref C :: rest, kw⟩)) (.call (.ref fI) ⟨.ref x :: rest, kw⟩) (InitBack x R) { s with heap := h' }) :
  codeAny (model prog w) A (.call (.ref C) ⟨rest, kw⟩) R s := by
 refine hdG ?_; intro Xh hXh
 obtain ⟨hh, g, d, t, os⟩ := s
 refine hXh ?_; clear hXh
 have X' : K.In hh := X.keeps F.keep
 have none_of : ∀ b, hh.objs.size ≤ b → hh.get? b = none := fun b hb => by
  cases e : hh.get? b with
  | none => rfl
  | some o => exact absurd (Heap.lt_size e) (Nat.not_lt.mpr hb)
 refine make_core (makes_of X' hm) (looks_findIn X' hi) (fun self => bind_fn X' self (beq_iff_eq.mp hf)) (.inl rfl) (h _ hh.objs.size _ ((F.push _).push _) ?_ (fun p hp => Heap.lt_size (N p hp).1) (Nat.lt_succ_self _) (fun b o e => Heap.get?_push_of_some _ (Heap.get?_push_of_some _ e)) (none_of _ (Nat.le_succ _)) (none_of _ (Nat.le_refl _)))
 have := (N.push F emptyDict).push (F.push _) (instObj C hh.objs.size)
 rwa [Heap.size_push] at this
theorem gsub_make {h h' g : Heap} {x dx : Addr} {ox od : Obj} {en : List (Addr × Obj)} (keep : ∀ b o, h.get? b = some o → h'.get? b = some o) (hx : h.get? x = none) (hd : h.get? dx = none) (GS : GSub h' g (((x, ox) :: (dx, od) :: en).map (·.1))) : GSub h g (en.map (·.1)) := fun b o e nb => by
 refine GS b o (keep b o e) fun hm => ?_
 simp only [List.map_cons, List.mem_cons] at hm
 rcases hm with q | q | q
 ·rw [q, hx] at e; cases e
 ·rw [q, hd] at e; cases e
 ·exact nb q
theorem rowsS4c : True := by
 (k_with "mine k_enter" => (refine' code_defR (by exact rfl) (by exact rfl) (by first | exact rfl | assumption) (by k_asm) (by k_asm) (by k_asm) (by k_asm) (by k_asm) (by k_is) (by k_is) (by ktr_room) (by first | exact BindsTo.of_eq rfl | exact binds_K (by k_in) rfl (by k_is) rfl rfl rfl) (by exact locs rfl) ?_ (by exact rfl) (by exact rfl) (by exact rfl) (by decide); k_whole; intro g'xq L'xq h'xq tkEq FG'xq F'xq N'xq B'xq X'xq T'xq GS'xq; (try dsimp only); (try k_lift B'xq); (try k_fold)))
 trivial
theorem mem2 {a b : Addr × Obj} {l : List (Addr × Obj)} (ha : a ∈ l) (hb : b ∈ l) : ∀ p ∈ [a, b], p ∈ l := fun p hp => by
 rcases List.mem_cons.mp hp with rfl | hp
 ·exact ha
 ·rw [List.mem_singleton.mp hp]; exact hb
theorem rowsS4d : True := by
 (k_with "mine call ref" => ((with_reducible show wpAny _ _ (call (Value.ref 188) _) _ _ _); refine stopAt ?_))
 trivial
noncomputable def MAt (w : World) (l : List (Addr × Obj)) (M dM la lb : Addr) (fb : Value) : Prop := (M, instObj 242 dM) ∈ l ∧ ∃ t0 t1 t2 t3 t4 t5 t6 t7 t8 t9 j k n, (dM, md10 w t0 t1 t2 t3 t4 t5 t6 t7 t8 t9 (.ref la) (.ref lb) fb j k n) ∈ l
namespace E_ctor
noncomputable def theP (zC : Bag) : Prop :=
 let w := zC.w 3; let mg := zC.fr 3; let mb := zC.fr 4; let la := zC.addr 3; let lb := zC.addr 4; let p := zC.il 3; let q := zC.il 4; let led := zC.led 3;
 ∀ (ha : IntsIn led la p) (hb : IntsIn led lb q) (hz : q.length ≤ 100) (hne0 : @Ne Nat la lb), FunAb zC 12 w mg mb 242 [.none, .ref la, .ref lb] led (fun r tl => ∃ M dM, r = .ref M ∧ MAt w tl M dM la lb .none)
@[irreducible] def tB : Bag := bagOf theP
@[irreducible] def w := tB.w 3
@[irreducible] def mg := tB.fr 3
@[irreducible] def mb := tB.fr 4
@[irreducible] def la := tB.addr 3
@[irreducible] def lb := tB.addr 4
@[irreducible] def p := tB.il 3
@[irreducible] def q := tB.il 4
@[irreducible] def led := tB.led 3
set_option maxHeartbeats 4000000 in
theorem core (ha : IntsIn led la p) (hb : IntsIn led lb q) (hz : q.length ≤ 100) (hne0 : @Ne Nat la lb) : FunAb tB 12 w mg mb 242 [.none, .ref la, .ref lb] led (fun r tl => ∃ M dM, r = .ref M ∧ MAt w tl M dM la lb .none) := by
 w_on
 unfold FunAb
 k_fill
 intros
 rename_i hN hT hk hd hu hret
 refine hdG ?_; intro Xh hXh
 refine ex2 ha ?_
 try clear ha
 rintro va na hZ
 obtain ⟨ma, ia⟩ := hZ
 refine ex2 hb ?_
 try clear hb
 rintro vb nb hZ
 obtain ⟨mb', ib⟩ := hZ
 refine hXh ?_; clear hXh
 have hN1 := news_both hN ma mb'
 have hNx := hN1
 refine wpAny_call ?_
 refine makeG (C := 242) (fI := 160) (K := Mine.hdX.heap_1 w.params) (by assumption) hNx (by assumption) (by k_is) (by k_is) (by k_is) ?_
 intro x dx h1 F1 N1 l1 l2 keep hx hdx
 k_lt l1
 k_lt2 l2
 k_dflt k_enter
 rename GSub _ _ _ => GS
 have GS0 := gsub_make keep hx hdx GS
 k_steps
 unfold StopHere
 k_here
 (with_reducible show wpAny _ _ (call (Value.ref 188) _) _ _ _)
 k_dflt (refine' funU_use (chain7 _ _ _ (led := [(_, _), (_, _)]) (List.Mem.head _) (ix2 _ _ ⟨List.Mem.tail _ (List.Mem.head _), ?kict⟩) ?kzct _ _ _ _ _ _ _ _) ?k1ct ?k2ct ?k3ct ?k4ct ?k5ct ?kUct ?kKct ?kdct ?kwct (mem2 ?kact ?kbct) ?_; (case k1ct => k_asm); (case k2ct => k_asm); (case k3ct => k_asm); (case k4ct => k_asm); (case k5ct => k_asm); (case kact => k_mem); (case kUct => k_updF); (case kbct => k_mem); (case kict => assumption); (case kzct => assumption); (case kKct => first | exact rfl | assumption); (case kdct => ktr_room); (case kwct => ((try simp only [units_deeper, units_under_make]); ktr_units)))
 intro rv o9 tl9 h9 tk9 F9 N9 ne9 rn
 refine hdG ?_; intro Xh hXh
 obtain ⟨e9, hZ⟩ := rn
 refine ex6 hZ ?_
 clear hZ
 rintro t7 t8 t9 j9 k9 l9 rn
 subst e9
 subst rn
 refine hXh ?_; clear hXh
 (replace N9 := N9.right)
 (try dsimp only at N9)
 (try clear ne9)
 k_steps
 all_goals
  refine funA_ret hret hN1 GS0 (by assumption) (by assumption) (mem2 (by k_mem) (by k_mem)) fun tl htl => (ix2 x dx (ia2 rfl (htl _ (by k_mem) ?_) (ix6 _ _ _ _ _ _ (ix6 _ _ _ _ _ _ ⟨_, htl _ (by k_mem) ?_⟩))))
  all_goals
   simp only [List.map_cons, List.map_nil, List.mem_cons, List.not_mem_nil, or_false, not_or]
   constructor <;> k_ne
end E_ctor
theorem ctor (w : World) (mg mb) {la lb : Addr} {p q : List Int} {led : List (Addr × Obj)} (ha : IntsIn led la p) (hb : IntsIn led lb q) (hz : q.length ≤ 100) (hne0 : @Ne Nat la lb) : FunA 12 w mg mb 242 [.none, .ref la, .ref lb] led (fun r tl => ∃ M dM, r = .ref M ∧ MAt w tl M dM la lb .none) := fun dpzz unzz gdzz cnzz cszz azz ccdzz clzz outerzz A₀zz basezz h₀zz Lzz mzz szz Qzz Ezz => bag_all (P := E_ctor.theP) (by with_unfolding_all exact @E_ctor.core) { bag0 with A := nth [A₀zz, A₀zz, A₀zz] bag0.A, addr := nth [azz, Lzz, azz, la, lb] bag0.addr, cl := nth [clzz, clzz, clzz] bag0.cl, fr := nth [mzz, mzz, mzz, mg, mb] bag0.fr, gd := nth [gdzz, gdzz, gdzz] bag0.gd, heap := nth [basezz, h₀zz, basezz] bag0.heap, il := nth [p, p, p, p, q] bag0.il, led := nth [led, led, led, led] bag0.led, nat := nth [dpzz, unzz, dpzz] bag0.nat, outer := nth [outerzz, outerzz, outerzz] bag0.outer, qv := nth [Qzz, Ezz, Qzz] bag0.qv, s := nth [szz, szz, szz] bag0.s, scope := nth [cszz, cszz, cszz] bag0.scope, str := nth [cnzz, cnzz, cnzz] bag0.str, val := nth [ccdzz, ccdzz, ccdzz] bag0.val, w := nth [w, w, w, w] bag0.w } ha hb hz hne0
end Mine
end
section
open PySem PySem.W PyProof.Rows PySem.Calls PySem.Spec
set_option Elab.async false
set_option maxRecDepth 100000
namespace Mine
theorem typeOf_dc : typeOf (.builtin "dict.__contains__") = pure (.type "method_descriptor") := by show builtinType _ = _; rw [builtinType_eq_fast]; kernel_rfl
theorem slot_md_get : Slot "method_descriptor" "__get__" "method_descriptor.__get__" :=
 .of (owner := "method_descriptor") (n := "__get__") (by rw [typeLookup_type, builtinLookup_eq_fast]; kernel_rfl) (by decide +kernel) (by decide +kernel) (by decide +kernel)
  (by first | exact .inl (by decide +kernel) | exact .inr (by decide +kernel)) (by rw [isSubtype_type]; kernel_rfl)
theorem look_md_set : typeLookup (.type "method_descriptor") "__set__" = pure none := by rw [typeLookup_type, builtinLookup_eq_fast]; kernel_rfl
theorem look_md_delete : typeLookup (.type "method_descriptor") "__delete__" = pure none := by rw [typeLookup_type, builtinLookup_eq_fast]; kernel_rfl
theorem look_dc : typeLookup (.type "dict") "__contains__" = pure (some (.builtin "dict.__contains__")) := by rw [typeLookup_type, builtinLookup_eq_fast]; kernel_rfl
theorem entry_md_get : entryFor table "method_descriptor.__get__" = some Builtin.«method_descriptor.__get__» := entryFor_of_tree (by kernel_rfl)
theorem args_md_get (a b c : Value) : argsOk "method_descriptor.__get__" ⟨[a, b, c], []⟩ := by unfold argsOk; kernel_rfl
theorem sub_dict_owner : isSubtype (.type "dict") (.type (".".intercalate ("dict.__contains__".cutAt '.').dropLast)) = pure true := by
 have e0 : "dict.__contains__".cutAt '.' = ["dict", "__contains__"] := by first | rfl | decide +kernel
 rw [e0]
 have e1 : (".".intercalate (["dict", "__contains__"] : List String).dropLast) = "dict" := by decide +kernel
 rw [e1]; exact isSubtype_dict_dict
noncomputable abbrev bmO (d : Addr) : Obj := { cls := .type "builtin_function_or_method", data := .fields #[.builtin "dict.__contains__", .ref d] }
section
variable {prog : Program} {w : World} {A : Around} {E : Value → Shared → Prop} {h : Heap} {g : Array GenState} {d : Drawn} {t : Nat} {os : OsState} {a : Addr} {o : Obj}
theorem dc_get {R : Result → Shared → Prop} (hx : h.get? a = some o) (hc : o.cls = .type "dict") (hq : R (.ok (.ret (.ref h.objs.size))) ⟨h.push (bmO a), g, d, t, os⟩) :
  codeAny (model prog w) A (.call (.builtin "method_descriptor.__get__") ⟨[.builtin "dict.__contains__", .ref a, .type "dict"], []⟩) R ⟨h, g, d, t, os⟩ := by
 have hT : (⟨h, g, d, t, os⟩ : Shared).TypeIs (.ref a) "dict" := ⟨_, hx, hc⟩
 have hT5 : (⟨h, g, d, t, os⟩ : Shared).TypeIs (.builtin "dict.__contains__") "method_descriptor" := typeOf_dc
 have f8 := sub_dict_owner
 refine codeAny_call_builtin slot_md_get.plain entry_md_get (slot_md_get.check _ _ _ _ _ _ _ _ hT5 (args_md_get _ _ _) ?_)
 repeat (any_goals (first | assumption | wp_step))
theorem entry_dict_ga : entryFor table "dict.__getattribute__" = some Builtin.«object.__getattribute__» :=
 entryFor_alias (id' := "object.__getattribute__") (by kernel_rfl) (by first | rfl | decide +kernel) (by decide +kernel) (by kernel_rfl)
theorem dc_entry {tk : Tok} {es : Array DictEntry} {n : Nat} {Q : Fin → Shared → Prop} (hx : h.get? a = some o) (hc : o.cls = .type "dict") (hd : o.dict = none) (hdat : o.data = .dict es n) (hq : Q (.done (.ret (.ref h.objs.size))) ⟨h.push (bmO a), g, d, t, os⟩) :
  wpAny (model prog w) A (Builtin.«object.__getattribute__» ⟨[.ref a, .str "__contains__" tk], []⟩) Q E ⟨h, g, d, t, os⟩ := by
 have hT : (⟨h, g, d, t, os⟩ : Shared).TypeIs (.ref a) "dict" := ⟨_, hx, hc⟩
 have hT5 : (⟨h, g, d, t, os⟩ : Shared).TypeIs (.builtin "dict.__contains__") "method_descriptor" := typeOf_dc
 have f4 := look_dc
 have f5 := typeOf_dc
 have f6 := slot_md_get.lookup
 have f7 := look_md_set
 have f8 := look_md_delete
 obtain ⟨c, dd, dat, sl⟩ := o
 simp only at hc hd hdat
 subst hc hd hdat
 repeat (any_goals (first | assumption | wp_step))
 refine dc_get hx rfl ?_
 repeat (any_goals (first | assumption | wp_step))
theorem dc_call {tk : Tok} {es : Array DictEntry} {n : Nat} {R : Result → Shared → Prop} (hx : h.get? a = some o) (hc : o.cls = .type "dict") (hd : o.dict = none) (hdat : o.data = .dict es n) (hq : R (.ok (.ret (.ref h.objs.size))) ⟨h.push (bmO a), g, d, t, os⟩) :
  codeAny (model prog w) A (.call (.builtin "dict.__getattribute__") ⟨[.ref a, .str "__contains__" tk], []⟩) R ⟨h, g, d, t, os⟩ :=
 codeAny_call_builtin F.slot_dict_getattribute.plain entry_dict_ga (F.slot_dict_getattribute.check _ _ _ _ _ _ _ _ (show (⟨h, g, d, t, os⟩ : Shared).TypeIs (.ref a) "dict" from ⟨_, hx, hc⟩) (F.args_dict_getattribute_2 _ _) (dc_entry hx hc hd hdat hq))
theorem dc_by {tk : Tok} {ex : Bool} {es : Array DictEntry} {n : Nat} {Q : Value → Shared → Prop} (hx : h.get? a = some o) (hc : o.cls = .type "dict") (hd : o.dict = none) (hdat : o.data = .dict es n) (hq : Q (.ref h.objs.size) ⟨h.push (bmO a), g, d, t, os⟩) :
  wpAny (model prog w) A (getAttrBy (.ref a) (.str "__contains__" tk) true ex) Q E ⟨h, g, d, t, os⟩ := by
 have hT : (⟨h, g, d, t, os⟩ : Shared).TypeIs (.ref a) "dict" := ⟨_, hx, hc⟩
 have f2 := F.slot_dict_getattribute.lookup
 have f3 := F.slot_dict_getattribute.bind (.ref a)
 repeat (any_goals (first | assumption | wp_step))
 rw [if_neg (by cases ex <;> decide)]
 repeat (any_goals (first | assumption | wp_step))
 refine dc_call hx hc hd hdat ?_
 repeat (any_goals (first | assumption | wp_step))
end
section
variable {prog : Program} {w : World} {A : Around} {E : Value → Shared → Prop} {s : Shared}
theorem dc_attr {ex : Bool} {a : Addr} {kvs : List (Int × Value)} {Q : Value → Shared → Prop} (hd : s.heap.DictOf (intKind prog w) a kvs) (hq : Q (.ref s.heap.objs.size) { s with heap := s.heap.push (bmO a), toks := s.toks + 1 }) :
  wpAny (model prog w) A (getAttr (.ref a) "__contains__" ex) Q E s := by
 refine ex3 hd ?_
 try clear hd
 rintro o es ep hZ
 refine an3 hZ ?_
 clear hZ
 rintro ho ⟨c1, c2, _⟩ hdat _
 obtain ⟨h, g, d, t, os⟩ := s
 unfold getAttr
 refine wpAny_bind (wpAny_mkText ?_)
 exact dc_by (t := t + 1) ho c1 c2 hdat hq
end
end Mine
end
section
open PySem PySem.W PyProof.Rows PySem.Calls PySem.Spec
set_option Elab.async false
set_option maxRecDepth 100000
namespace Mine
theorem sig_dc : Manifest.signature? "dict.__contains__" = some ⟨.oneArg, "dict.__contains__", "__contains__", .self, [⟨"key", .posOnly, true⟩]⟩ := by kernel_rfl
theorem kind_dc : builtinKind "dict.__contains__" = some .method := by decide +kernel
theorem last_dc : Bind.lastOf "dict.__contains__" = "__contains__" := by decide +kernel
theorem va_dc : Manifest.varargsMethods.contains "dict.__contains__" = false := by decide +kernel
theorem dcp : plainId "dict.__contains__" = true := by decide +kernel
theorem dcq (args : Args) : (Code.builtin "dict.__contains__" args).quiet = true := plainId_quiet dcp _
section
variable {prog : Program} {w : World} {A : Around} {E : Value → Shared → Prop} {h : Heap} {g : Array GenState} {d : Drawn} {t : Nat} {os : OsState} {a p : Addr} {o : Obj}
theorem bm_call {key : Value} {es : Array DictEntry} {n : Nat} {R : Result → Shared → Prop} (ho : h.get? p = some (bmO a)) (hx : h.get? a = some o) (hc : o.cls = .type "dict") (hd : o.dict = none) (hdat : o.data = .dict es n)
  (hq : codeAny (model prog w) A (.builtin "dict.__contains__" ⟨[.ref a, key], []⟩) R ⟨h, g, d, t, os⟩) : codeAny (model prog w) A (.call (.ref p) ⟨[key], []⟩) R ⟨h, g, d, t, os⟩ := by
 have hT : (⟨h, g, d, t, os⟩ : Shared).TypeIs (.ref a) "dict" := ⟨_, hx, hc⟩
 have f1 : isSubtype (.type "dict") (.type "module") = pure false := by rw [isSubtype_type]; kernel_rfl
 refine hdG ?_; intro Xh hXh
 obtain ⟨c, dd, dat, sl⟩ := o
 refine hXh ?_; clear hXh
 simp only at hc hd hdat
 refine hdG ?_; intro Xh hXh
 subst hc hd hdat
 refine hXh ?_; clear hXh
 refine codeAny_of_tree ?_
 show wpAny _ _ (callAny (.ref p) _) _ _ _
 refine nd_load ho ?_
 show wpAny _ _ (do checkBoundCall "dict.__contains__" ⟨[.ref a, key], []⟩; again (.builtin "dict.__contains__" ⟨[.ref a, key], []⟩)) _ _ _
 refine wpAny_bind ?_
 unfold checkBoundCall
 rw [sig_dc]
 dsimp only
 rw [kind_dc]
 dsimp only
 rw [if_neg (by decide), va_dc, last_dc]
 repeat (any_goals (first | assumption | wp_step))
 exact ⟨dcq _, hq⟩
end
section
variable {prog : Program} {w : World} {A : Around} {E : Value → Shared → Prop} {s : Shared} {h₀ : Heap} {L d p : Addr} {m : Str → Option Value} {news : List (Addr × Obj)} {o : Obj} {kvs : List (Int × Value)}
theorem dc_has {f : Int → Option Value} {k : Int} {t : Tok} {R : Result → Shared → Prop} (hm : s.heap.MapOf (intKind prog w) d f) (lo : (d == sysModules) = false) (h1 : R (.ok (.ret (.bool (f k).isSome))) { s with toks := s.toks + 1 }) :
  codeAny (model prog w) A (.builtin "dict.__contains__" ⟨[.ref d, .int k t], []⟩) R s := by
 refine codeAny_builtin F.entry_dict_contains ?_
 rw [Around.under_plainId dcp _]
 exact meets_dict_contains (intKind prog w) d (intKind_is _ _ _ _) lo A R s ⟨f, hm, h1⟩
theorem bm_in {β : Type} {V : Value → β → Prop} {dd : List (Int × β)} {k : Int} {t : Tok} {Q : Value → Shared → Prop} (N : News h₀ L s.heap news) (hb : (p, bmO d) ∈ news) (hp : (d, o) ∈ news) (hd : o.IsDictOf (intKind prog w) kvs) (lo : (d == sysModules) = false) (hr : Rep V kvs dd)
  (h1 : Q (.bool (dLook dd k).isSome) { s with toks := s.toks + 1 }) : wpAny (model prog w) A (call (.ref p) [.int k t]) Q E s := by
 have hD := kda_dict N hp hd
 have hm := hD.mapOf
 refine hdG ?_; intro Xh hXh
 refine ex3 hD ?_
 try clear hD
 rintro o' es ep hZ
 refine an3 hZ ?_
 clear hZ
 rintro ho ⟨c1, c2, _⟩ hdat _
 obtain ⟨h, g, dr, tk, os⟩ := s
 refine hXh ?_; clear hXh
 have e : (valueAt kvs k).isSome = (dLook dd k).isSome := by
  rcases hr.look k with ⟨e1, e2⟩ | ⟨v, x, e1, e2, _⟩ <;> rw [e1, e2] <;> rfl
 refine wpAny_call (bm_call (N _ hb).1 ho c1 c2 hdat (dc_has hm lo ?_))
 rw [e]; exact h1
theorem bm_inR {β : Type} {V : Value → β → Prop} {dd : List (Int × β)} {k : Int} {t : Tok} {Q : Value → Shared → Prop} (N : News h₀ L s.heap news) (hb : (p, bmO d) ∈ news) (hp : (d, o) ∈ news) (hd : o.IsDictOf (intKind prog w) kvs) (lo : (d == sysModules) = false) (hr : Rep V kvs dd)
  (h1 : dLook dd k = none → Q (.bool false) { s with toks := s.toks + 1 }) (h2 : ∀ v x, valueAt kvs k = some v → dLook dd k = some x → V v x → Q (.bool true) { s with toks := s.toks + 1 }) : wpAny (model prog w) A (call (.ref p) [.int k t]) Q E s := by
 refine bm_in N hb hp hd lo hr ?_
 rcases hr.look k with ⟨_, e⟩ | ⟨v, x, e1, e2, hv⟩
 ·rw [e]; exact h1 e
 ·rw [e2]; exact h2 v x e1 e2 hv
theorem dc_attrK {Q : Value → Shared → Prop} {ex : Bool} (F : Fr h₀ L s.heap m) (N : News h₀ L s.heap news) (hp : (d, o) ∈ news) (hd : o.IsDictOf (intKind prog w) kvs)
  (h : ∀ h', Fr h₀ L h' m → News h₀ L h' ((s.heap.objs.size, bmO d) :: news) → (∀ p ∈ news, p.1 < s.heap.objs.size) → Q (.ref s.heap.objs.size) { s with heap := h', toks := s.toks + 1 }) : wpAny (model prog w) A (getAttr (.ref d) (Str.ofString "__contains__") ex) Q E s :=
 dc_attr (kda_dict N hp hd) (h _ (F.push _) (N.push F _) (fun p hp => Heap.lt_size (N p hp).1))
end
noncomputable def BmAt (u : Addr) (h : Heap) : Prop := ∃ d, h.get? u = some (bmO d)
theorem BmAt.of {u d : Addr} {h₀ h : Heap} {L : Addr} {news : List (Addr × Obj)} (N : News h₀ L h news) (hm : (u, bmO d) ∈ news) : BmAt u h := ⟨d, N.get hm⟩
section
variable {M : Model} {A : Around} {E : Value → Shared → Prop} {s : Shared}
theorem callWith_bm0 {pos : Pos} {u : Addr} {first : List Value} {args : List (Bool × Sem Value)} {Q : Value → Shared → Prop} (hplain : args.any (·.1) = false)
  (h : wpAny M A (evalArgs (.ref u) true args []) (fun x s₁ => BmAt u s₁.heap ∧ wpAny M A (call (.ref u) (first ++ x.pos) x.kw) Q E s₁) E s) : wpAny M A (callWith pos (.ref u) first args []) Q E s := by
 unfold callWith
 refine wpAny_bind (wpAny_holding (wpAny_mono h (fun x s₁ h₁ => wpAny_bind (wpAny_standAt ?_)) fun _ _ x => x))
 refine hdG ?_; intro Xh hXh
 obtain ⟨⟨dd, ho⟩, hcall⟩ := h₁
 refine hXh ?_; clear hXh
 simp only [hplain, List.any_nil, Bool.or_false]
 refine wpAny_bind (m := keeperOf (.ref u)) ?_
 unfold keeperOf
 refine wpAny_bind (wpAny_load ho ?_)
 simp only [show (Value.type "builtin_function_or_method" != Value.type "method") = true by decide, show (Value.type "builtin_function_or_method" == Value.type "builtin_function_or_method" || Value.type "builtin_function_or_method" == Value.type "method-wrapper") = true by decide, if_true]
 refine wpAny_pure ?_
 exact wpAny_bind (wpAny_mono hcall (fun r s₂ hr => wpAny_bind (wpAny_holding (wpAny_point (wpAny_pure hr)))) fun _ _ x => x)
theorem callWith_bm {pos : Pos} {u : Addr} {first : List Value} {env : Env} {e : PySem.Expr} {rest : List PySem.Expr} {Q : Value → Shared → Prop} (_B : BmAt u s.heap)
  (h : wpAny M A (spliced (backTo pos (starEach (e :: rest) env))) (fun vs s₁ => BmAt u s₁.heap ∧ wpAny M A (call (.ref u) (first ++ vs)) Q E s₁) E s)
  (he : starEach (e :: rest) env = (false, eval e env) :: starEach rest env := by rfl) (hplain : (backTo pos (starEach rest env)).any (·.1) = false := by rfl) :
  wpAny M A (callWith pos (.ref u) first (backTo pos (starEach (e :: rest) env)) []) Q E s := by
 rw [he] at h ⊢
 refine callWith_bm0 (by show (false || (backTo pos (starEach rest env)).any (·.1)) = false; rw [hplain]; rfl) ?_
 exact evalArgs_plain h
end
end Mine
end
section
theorem Mine.clearS5 : True := by
 k_with_none
 trivial
open PySem PySem.W PyProof.Rows PySem.Calls PySem.Spec
set_option Elab.async false
set_option maxRecDepth 100000
namespace Mine
theorem rowsS5a : True := by
 k_with_none
 (k_with "mine lt" => with_reducible first | assumption | exact cj0 ‹_› | exact cj1 ‹_› | exact cj2 ‹_› | exact cj3 ‹_› | exact cj4 ‹_› | exact cj5 ‹_› | exact cj6 ‹_› | exact cj7 ‹_› | exact cj8 ‹_› | exact cj9 ‹_› | exact cj10 ‹_› | exact cj11 ‹_› | exact cj12 ‹_› | exact cj13 ‹_› | exact cj14 ‹_› | exact cj15 ‹_› | exact dk1 ‹_› | exact dk2 ‹_› | exact dk3 ‹_› | exact dk4 ‹_› | exact dk5 ‹_› | exact dk6 ‹_› | exact dk7 ‹_› | exact dk8 ‹_› | exact dk9 ‹_› | exact dk10 ‹_› | exact dk11 ‹_› | exact dk12 ‹_› | exact dk13 ‹_› | exact dk14 ‹_› | exact dk15 ‹_›)
 (k_with "mine k_ne" => (refine neN ?_; (try dsimp only); first | with_reducible assumption | exact Ne.symm (by with_reducible assumption) | exact Nat.ne_of_lt (by k_extra "mine lt") | exact Nat.ne_of_gt (by k_extra "mine lt") | grind))
 (k_with "mine cell_enter" => (refine' code_defR (by exact rfl) (by exact rfl) (by assumption) (by k_asm) (by k_asm) (by k_asm) (by k_asm) (by k_asm) (by k_is) (by k_is) (by ktr_room) (by exact BindsTo.of_eq rfl) (by exact locs rfl) ?_ (by exact rfl) (by exact rfl) (by exact rfl) (by decide); k_whole; intro g'xq L'xq h'xq tkEq FG'xq F'xq N'xq B'xq X'xq T'xq GS'xq; (try dsimp only); (try k_lift B'xq); (try k_fold)))
 (k_with "mine exec For" => (refine stopAt ?_))
 (k_with "mine exec For Name Call cons nil" => (refine stopAt ?_))
 (k_with "mine exec For Name Name cons nil" => (refine stopAt ?_))
 (k_with "mine exec For Tuple" => (refine stopAt ?_))
 (k_with "mine exec For Tuple Call" => (refine stopAt ?_))
 (k_with "mine k_all" => (assumption))
 (k_with "mine setItem ref int" => (k_here; k_dflt (refine' kda_set (knd := PySem.intKind _ _) (by k_asm) (by k_asm) (by k_updF) (by k_asm) (intKind_is _ _ _ _) (by assumption) ?_); intro h'xq o'xq F'xq N'xq hd'xq; (try dsimp only at N'xq); (try k_sweep)))
 (k_with "mine subscriptTail" => (k_here; k_dflt (refine' kda_item (knd := PySem.intKind _ _) (by k_asm) (by k_mem) (by k_asm) (intKind_is _ _ _ _) (by assumption) ?_ (by with_unfolding_all rfl) (by intro _; with_unfolding_all rfl))))
 (k_with "mine callWith ref" => (k_here; (with_reducible show wpAny _ _ (callWith _ (Value.ref _) _ (backTo _ (starEach [PySem.Expr.Name (Str.ofString "elt") _] _)) []) _ _ _); k_dflt (refine' callWith_bm (BmAt.of (by k_asm) (by k_mem)) ?_; k_whole)))
 (k_with "mine And" => ((with_reducible show BmAt _ _ ∧ _); k_dflt (refine ⟨BmAt.of (by k_asm) (by k_mem), ?_⟩); (try dsimp only [List.nil_append, List.cons_append])))
 (k_with "mine getItem ref int" => (k_here; k_dflt (refine' get_dict (by k_asm) (by k_mem) (by k_asm) (by assumption) ?_)))
 (k_with "mine call ref" => (k_here; k_dflt (refine bm_inR (by k_asm) (by k_mem) (by k_mem) (by k_asm) (by k_asm) (by assumption) ?_ ?_); rotate_left; (intro v9xq x9xq hv9xq hx9xq hV9xq; refine hdG ?_; intro Xh hXh; obtain ⟨t9xq, e9xq⟩ := hV9xq; subst e9xq; refine hXh ?_; clear hXh); rotate_right; intro hv9xq))
 (k_with "mine call ref" => (k_here; (with_reducible show wpAny _ _ (call (Value.ref 145) _) _ _ _); k_dflt (refine' funA_use (calcR _ _ _ _ _ _ _ (by constructor <;> (try split) <;> grind) (by constructor <;> grind)) (by k_asm) (by k_asm) (by k_asm) (by k_asm) (by k_asm) (by first | exact rfl | assumption) (by ktr_room) (by ktr_units) (by exact fun _ hxq => nomatch hxq) ?_); intro rvxq tl9xq h9xq tk9xq F9xq N9xq kp9xq ne9xq rnxq; refine hdG ?_; intro Xh hXh; obtain ⟨e9xq, t9xq, z9xq, rnxq⟩ := rnxq; subst e9xq; subst rnxq; refine hXh ?_; clear hXh; (try simp only [List.nil_append] at N9xq); (try clear ne9xq)))
 (k_with "mine call builtin:dict.get" => (k_here; k_dflt (refine' get2I (by k_asm) (by k_mem) (by k_asm) (by k_asm) (by assumption) ?_); intro t9xq))
 (k_with "mine getMethod ref" => (k_here; (with_reducible show wpAny _ _ (getMethod (Value.ref _) (Str.ofString "get") _) _ _ _); k_dflt (refine' kdg_method (knd := PySem.intKind _ _) (by k_asm) (by k_mem) (by k_asm) ?_)))
 (k_with "mine exec For Name Attribute cons nil" => (refine stopAt ?_))
 (k_with "mine pyIter ref" => (refine stopAt ?_))
 trivial
noncomputable def cntD (q : List Int) : List (Int × Int) := q.foldl (dBump 1) []
noncomputable def qNumb (full d : List (Int × Int)) (x : Int) : Int := (dLook d x).getD ((dLook full x).getD 0)
noncomputable def qStep (full : List (Int × Int)) (z : List (Int × Int) × Int) (x : Int) : List (Int × Int) × Int := (dPut z.1 x (qNumb full z.1 x - 1), if 0 < qNumb full z.1 x then z.2 + 1 else z.2)
noncomputable def quickM (p q : List Int) : Int := (p.foldl (qStep (cntD q)) ([], 0)).2
theorem qStep_pos0 (full : List (Int × Int)) (p : List Int) : ∀ z, z.2 ≤ (p.foldl (qStep full) z).2 ∧ (p.foldl (qStep full) z).2 ≤ z.2 + p.length := by
 induction p with
 | nil => intro z; simp
 | cons x p ih =>
  intro z
  have h := ih (qStep full z x)
  simp only [List.foldl_cons, List.length_cons, qStep] at h ⊢
  split at h <;> rename_i c <;> simp only [c, if_true, if_false] at h ⊢ <;> grind
theorem qStep_pos (full : List (Int × Int)) (p : List Int) : 0 ≤ (p.foldl (qStep full) ([], 0)).2 ∧ (p.foldl (qStep full) ([], 0)).2 ≤ p.length := by
 have h := qStep_pos0 full p ([], 0)
 simp only at h
 grind
theorem news_of3 {h₀ h : Heap} {L : Addr} {x y z : Addr × Obj} {led : List (Addr × Obj)} (N : News h₀ L h led) (hx : x ∈ led) (hy : y ∈ led) (hz : z ∈ led) : News h₀ L h [x, y, z] := fun p hp => by
 rcases List.mem_cons.mp hp with rfl | hp
 ·exact N p hx
 ·rcases List.mem_cons.mp hp with rfl | hp
  ·exact N p hy
  ·exact N p (List.mem_singleton.mp hp ▸ hz)
theorem ne_of_base {h₀ h : Heap} {L : Addr} {news : List (Addr × Obj)} {z : Addr × Obj} {l : Addr} {o : Obj} (N : News h₀ L h news) (hz : z ∈ news) (hl : h.get? l = some o) (c : o.cls ≠ z.2.cls) : @Ne Nat l z.1 := fun e => by
 have e : l = z.1 := e
 rw [e, (N z hz).1] at hl
 exact c (by rw [Option.some.inj hl])
theorem name_lo {P : Prop} {d : Addr} (h : (d == sysModules) = false) (k : ∀ D, D = d → P) : P := k d rfl
theorem news_tail {h₀ h : Heap} {L : Addr} {x : Addr × Obj} {l : List (Addr × Obj)} (N : News h₀ L h (x :: l)) : News h₀ L h l := fun p hp => N p (.tail _ hp)
theorem off_one {l : List (Addr × Obj)} {it : Addr} {oi : Obj} (h : ∀ p ∈ l, @Ne Nat p.1 it) : ∀ p ∈ l, p.1 ∉ ([(it, oi)] : List (Addr × Obj)).map (·.1) := fun p hp hm => h p hp (List.mem_singleton.mp hm)
theorem qStep_none {full : List (Int × Int)} {z : List (Int × Int) × Int} {x : Int} (h : dLook z.1 x = none) : qNumb full z.1 x = (dLook full x).getD 0 := by simp only [qNumb, h, Option.getD_none]
theorem qStep_some {full : List (Int × Int)} {z : List (Int × Int) × Int} {x y : Int} (h : dLook z.1 x = some y) : qNumb full z.1 x = y := by simp only [qNumb, h, Option.getD_some]
theorem qStep_2p {full : List (Int × Int)} {z : List (Int × Int) × Int} {x n : Int} (h : qNumb full z.1 x = n) (h0 : 0 < n) : (qStep full z x).2 = z.2 + 1 := if_pos (by rw [h]; exact h0)
theorem qStep_2n {full : List (Int × Int)} {z : List (Int × Int) × Int} {x n : Int} (h : qNumb full z.1 x = n) (h0 : ¬ 0 < n) : (qStep full z x).2 = z.2 := if_neg (by rw [h]; exact h0)
theorem qStep_1 {full : List (Int × Int)} {z : List (Int × Int) × Int} {x n : Int} (h : qNumb full z.1 x = n) : (qStep full z x).1 = dPut z.1 x (n - 1) := by rw [← h]; rfl
theorem isDict_cls {prog : Program} {w : World} {o : Obj} {kvs : List (Int × Value)} (h : o.IsDictOf (intKind prog w) kvs) : o.cls = .type "dict" := by
 refine hdG ?_; intro Xh hXh
 refine ex2 h ?_
 try clear h
 rintro es ep hZ
 obtain ⟨⟨c, _⟩, _⟩ := hZ
 refine hXh ?_; clear hXh
 exact c
theorem rowsS5b : True := by
 (k_with "mine getAttr ref" => (k_here; (with_reducible show wpAny _ _ (getAttr (Value.ref _) (Str.ofString "__contains__") _) _ _ _); k_dflt (refine' dc_attrK (by k_asm) (by k_asm) (by k_mem) (by k_asm) ?_); intro h'xq F'xq N'xq l'xq; k_lt l'xq))
 trivial
namespace E_quickC
noncomputable def theP (zC : Bag) : Prop :=
 let w := zC.w 3; let mg := zC.fr 3; let mb := zC.fr 4; let M := zC.addr 3; let dM := zC.addr 4; let la := zC.addr 5; let lb := zC.addr 6; let FB := zC.addr 7; let p := zC.il 3; let q := zC.il 4; let led := zC.led 3;
 ∀ (hM : MAt w led M dM la lb (.ref FB)) (hF : DictIn w IntV led FB (cntD q)) (ha : IntsIn led la p) (hb : IntsIn led lb q) (hz : 0 < p.length ∧ p.length ≤ 50 ∧ 0 < q.length ∧ q.length ≤ 50), FunAb zC 4 w mg mb 232 [.ref M] led (fun r tl => ∃ t, TokOk t ∧ r = .float (ratio (quickM p q) (p.length + q.length)) t)
@[irreducible] def tB : Bag := bagOf theP
@[irreducible] def w := tB.w 3
@[irreducible] def mg := tB.fr 3
@[irreducible] def mb := tB.fr 4
@[irreducible] def M := tB.addr 3
@[irreducible] def dM := tB.addr 4
@[irreducible] def la := tB.addr 5
@[irreducible] def lb := tB.addr 6
@[irreducible] def FB := tB.addr 7
@[irreducible] def p := tB.il 3
@[irreducible] def q := tB.il 4
@[irreducible] def led := tB.led 3
noncomputable def coreT : Prop := ∀ (hM : MAt w led M dM la lb (.ref FB)) (hF : DictIn w IntV led FB (cntD q)) (ha : IntsIn led la p) (hb : IntsIn led lb q) (hz : 0 < p.length ∧ p.length ≤ 50 ∧ 0 < q.length ∧ q.length ≤ 50), FunAb tB 4 w mg mb 232 [.ref M] led (fun r tl => ∃ t, TokOk t ∧ r = .float (ratio (quickM p q) (p.length + q.length)) t)
set_option maxHeartbeats 4000000 in
noncomputable def part1 : (P : Bag → Prop) ×' (P (bagOf P) → coreT) := by
 refine' ⟨_, fun hP => ?_⟩
 rotate_left
 unfold coreT
 intro hM hF ha hb hz
 refine hdG ?_; intro Xh hXh
 obtain ⟨hM, hZ⟩ := hM
 refine ex6 hZ ?_
 clear hZ
 rintro t0 t1 t2 t3 t4 t5 hZ
 refine ex6 hZ ?_
 clear hZ
 rintro t6 t7 t8 t9 j k hZ
 obtain ⟨n, hD⟩ := hZ
 refine ex2 hF ?_
 try clear hF
 rintro oF kF hZ
 refine an3 hZ ?_
 clear hZ
 rintro mF iF rF loF
 refine hXh ?_; clear hXh
 w_on
 unfold FunAb
 k_fill
 intros
 rename_i hN hT hk hd hu hret
 have hN1 := news_of3 hN hD hM mF
 have hne : @Ne Nat dM M := ne_of_two hN1 (.head _) (.tail _ (.head _)) (by intro e; cases e)
 refine hdG ?_; intro Xh hXh
 refine ex2 ha ?_
 try clear ha
 rintro va na hZ
 obtain ⟨ma, ia⟩ := hZ
 refine ex2 hb ?_
 try clear hb
 rintro vb nb hZ
 obtain ⟨mb', ib⟩ := hZ
 refine hXh ?_; clear hXh
 have hla := (hN _ ma).1
 have hlb := (hN _ mb').1
 rename_i z0z z1z z2z z3z
 refine wpAny_call ?_
 k_dflt (refine' code_defR (by exact rfl) (by exact rfl) (by assumption) (by k_asm) (by k_asm) (by k_asm) (by k_asm) (by k_asm) (by k_is) (by k_is) (by ktr_room) (by exact BindsTo.of_eq rfl) (by exact locs rfl) ?_ (by exact rfl) (by exact rfl) (by exact rfl) (by decide); k_whole)
 intro g L1 h1 tk
 revert hz hM hD mF iF rF loF z1z z2z z3z hN hT hk hd hu hret hN1 hne ma ia mb' ib hla hlb
 revert z0z t0 t1 t2 t3 t4 t5 t6 t7 t8 t9 j k n oF kF Xh va na vb nb
 revert g L1 h1 tk
 exact bag4 _ (by exact rfl) hP
@[irreducible] def theB1 : Bag := bagOf part1.1
set_option maxHeartbeats 4000000 in
theorem part2 : part1.1 theB1 := by
 delta part1
 dsimp only
 intro z0z t0 t1 t2 t3 t4 t5 t6 t7 t8 t9 j k n oF kF Xh va na vb nb
 intro hz hM hD mF iF rF loF z1z z2z z3z hN hT hk hd hu hret hN1 hne ma ia mb' ib hla hlb FG'xq F'xq N'xq B'xq X'xq T'xq GS'xq
 w_on
 k_fill
 (try dsimp only)
 (try k_lift B'xq)
 (try k_fold)
 rename GSub _ _ _ => GS
 have cF := isDict_cls iF
 have la' : Heap.IsList _ la va.toArray := (⟨_, ia2 (base_of3 hN1 GS hla (cls_ne (by decide)) (by intro e; cases e) (ne_of_base hN mF hla (by rw [cF]; exact cls_ne (by decide)))) rfl ⟨na, rfl⟩⟩)
 have lb' : Heap.IsList _ lb vb.toArray := (⟨_, ia2 (base_of3 hN1 GS hlb (cls_ne (by decide)) (by intro e; cases e) (ne_of_base hN mF hlb (by rw [cF]; exact cls_ne (by decide)))) rfl ⟨nb, rfl⟩⟩)
 have za := ia.length
 have zb := ib.length
 k_steps
 unfold StopHere
 rename Fr _ _ _ _ => F9
 rename News _ _ _ _ => N9
 rename Obj.IsDictOf (intKind _ _) _ [] => hD0
 rename (_ == sysModules) = false => loD
 refine for1 F9 rfl (by rfl) (by rfl) ?_
 k_steps
 unfold StopHere
 rename Addr => xx
 rename Fr _ _ _ _ => F10
 rename News _ _ _ _ => N10
 rename (_ == sysModules) = false => loD
 rename Obj.IsDictOf (intKind _ _) _ [] => hD0
 refine name_lo loD fun D eD => ?_
 subst eD
 have N10 := news_tail N10
 refine iter_list F10 N10 la' rfl
  (fun i m' news' gs' => gs' = _ ∧ m' (Str.ofString "self") = some (.ref M) ∧ m' (Str.ofString "fullbcount") = some (.ref FB) ∧ m' (Str.ofString "avail") = some (.ref D) ∧ ∃ BM o kvs, @Ne Nat D BM ∧ m' (Str.ofString "availhas") = some (.ref BM) ∧ 
   (∃ t, m' (Str.ofString "matches") = some (.int ((p.take i).foldl (qStep (cntD q)) ([], 0)).2 t)) ∧ 
   news' = [(BM, bmO D), (D, o), (dM, md10 w t0 t1 t2 t3 t4 t5 t6 t7 t8 t9 (.ref la) (.ref lb) (.ref FB) j k n), (M, instObj 242 dM), (FB, oF)] ∧ o.IsDictOf (intKind _ _) kvs ∧ Rep IntV kvs ((p.take i).foldl (qStep (cntD q)) ([], 0)).1 ∧ kvs.length ≤ i)
  (ia4 rfl rfl rfl rfl (ix3 _ _ _ (ia6 (by k_ne) rfl ⟨_, rfl⟩ rfl hD0 .nil (Nat.le_refl _)))) ?_ ?_
 ·rintro i v m₁ news₁ h tk' gs it oi E' hi e hJz
  refine hdG ?_; intro Xh hXh
  refine an4 hJz ?_
  try clear hJz
  rintro hg e1 e2 e3 hZ
  refine ex3 hZ ?_
  clear hZ
  rintro BM o kvs hZ
  refine an6 hZ ?_
  clear hZ
  rintro nb e4 ⟨t, e5⟩ rfl hd9 hr hle
  refine hXh ?_; clear hXh
  rintro hoff F N
  refine hdG ?_; intro Xh hXh
  refine ex2 (ints_get ia e) ?_
  rintro x tx hZ
  obtain ⟨ex, rfl⟩ := hZ
  have F := Fr_pin (Fr_pin (Fr_pin (Fr_pin (Fr_pin F (x := Str.ofString "self") e1) (x := Str.ofString "fullbcount") e2) (x := Str.ofString "avail") e3) (x := Str.ofString "availhas") e4) (x := Str.ofString "matches") e5
  simp only [List.forall_mem_cons] at hoff
  refine an5 hoff ?_
  try clear hoff
  rintro q1 q2 q3 q4 q5 -
  refine hXh ?_; clear hXh
  rw [List.size_toArray] at hi
  have hsz : kvs.length ≤ sizeLine := by rw [sizeLine_eq]; grind
  have hs := foldl_take_succ (qStep (cntD q)) ([], 0) p ex
  k_steps
  all_goals
   rename Fr _ _ _ _ => F2
   rename News _ _ _ _ => N2
   rename Obj.IsDictOf _ _ _ => hd2
   refine (⟨.inl rfl, ix5 _ _ _ [(BM, bmO D), (D, _), (dM, md10 w t0 t1 t2 t3 t4 t5 t6 t7 t8 t9 (.ref la) (.ref lb) (.ref FB) j k n), (M, instObj 242 dM), (FB, oF)] _ (ia8 rfl F2 N2 ?_ hg rfl rfl rfl (ix3 BM _ _ (ia6 nb rfl ?_ rfl hd2 ?_ ?_)))⟩)
   ·exact off_one (by simp only [List.forall_mem_cons]; exact (ia5 q1 q2 q3 q4 q5 (fun _ h => nomatch h)))
   ·rw [hs]
    first
     | (rw [qStep_2p (qStep_none (by assumption)) (by assumption)]; exact ⟨_, rfl⟩)
     | (rw [qStep_2n (qStep_none (by assumption)) (by assumption)]; exact ⟨_, rfl⟩)
     | (rw [qStep_2p (qStep_some (by assumption)) (by assumption)]; exact ⟨_, rfl⟩)
     | (rw [qStep_2n (qStep_some (by assumption)) (by assumption)]; exact ⟨_, rfl⟩)
   ·rw [hs]
    first
     | (rw [qStep_1 (qStep_none (by assumption))]; exact hr.put x ⟨_, rfl⟩)
     | (rw [qStep_1 (qStep_some (by assumption))]; exact hr.put x ⟨_, rfl⟩)
   ·exact Nat.le_trans (stored_length_le _ _ _) (by grind)
 ·rintro h' tk gs m' news' F N hJz
  refine hdG ?_; intro Xh hXh
  refine an4 hJz ?_
  try clear hJz
  rintro hg e1 e2 e3 hZ
  refine ex3 hZ ?_
  clear hZ
  rintro BM o kvs hZ
  refine an6 hZ ?_
  clear hZ
  rintro nb e4 ⟨t, e5⟩ rfl hd9 hr hle
  have hg : gs = _ := hg
  subst hg
  refine hXh ?_; clear hXh
  rw [List.size_toArray, za, List.take_length] at e5
  have hm2 := qStep_pos (cntD q) p
  have F := Fr_pin (Fr_pin F (x := Str.ofString "self") e1) (x := Str.ofString "matches") e5
  generalize hM2 : (p.foldl (qStep (cntD q)) ([], 0)).2 = mm at *
  dsimp only
  k_steps
  all_goals
   refine funA_ret hret hN1 GS (by assumption) (by assumption) (fun p hp => ?_) fun tl htl => ?_
   ·rcases List.mem_cons.mp hp with rfl | hp
    ·k_mem
    ·rcases List.mem_cons.mp hp with rfl | hp
     ·k_mem
     ·rw [List.mem_singleton.mp hp]; k_mem
   ·rw [quickM, hM2]
    exact ⟨_, by assumption, rfl⟩
theorem core : coreT := part1.2 (by with_unfolding_all exact part2)
end E_quickC
theorem quickC (w : World) (mg mb) {M dM la lb FB : Addr} {p q : List Int} {led : List (Addr × Obj)} (hM : MAt w led M dM la lb (.ref FB)) (hF : DictIn w IntV led FB (cntD q)) (ha : IntsIn led la p) (hb : IntsIn led lb q) (hz : 0 < p.length ∧ p.length ≤ 50 ∧ 0 < q.length ∧ q.length ≤ 50) : FunA 4 w mg mb 232 [.ref M] led (fun r tl => ∃ t, TokOk t ∧ r = .float (ratio (quickM p q) (p.length + q.length)) t) := fun dpzz unzz gdzz cnzz cszz azz ccdzz clzz outerzz A₀zz basezz h₀zz Lzz mzz szz Qzz Ezz => bag_all (P := E_quickC.theP) (by with_unfolding_all exact @E_quickC.core) { bag0 with A := nth [A₀zz, A₀zz, A₀zz] bag0.A, addr := nth [azz, Lzz, azz, M, dM, la, lb, FB] bag0.addr, cl := nth [clzz, clzz, clzz] bag0.cl, fr := nth [mzz, mzz, mzz, mg, mb] bag0.fr, gd := nth [gdzz, gdzz, gdzz] bag0.gd, heap := nth [basezz, h₀zz, basezz] bag0.heap, il := nth [p, p, p, p, q] bag0.il, led := nth [led, led, led, led] bag0.led, nat := nth [dpzz, unzz, dpzz] bag0.nat, outer := nth [outerzz, outerzz, outerzz] bag0.outer, qv := nth [Qzz, Ezz, Qzz] bag0.qv, s := nth [szz, szz, szz] bag0.s, scope := nth [cszz, cszz, cszz] bag0.scope, str := nth [cnzz, cnzz, cnzz] bag0.str, val := nth [ccdzz, ccdzz, ccdzz] bag0.val, w := nth [w, w, w, w] bag0.w } hM hF ha hb hz
end Mine
end
section
theorem Mine.clearS6 : True := by
 k_with_none
 trivial
open PySem PySem.W PyProof.Rows PySem.Calls PySem.Spec
set_option Elab.async false
set_option maxRecDepth 100000
namespace Mine
theorem rowsS6a : True := by
 k_with_none
 (k_with "mine lt" => with_reducible first | assumption | exact cj0 ‹_› | exact cj1 ‹_› | exact cj2 ‹_› | exact cj3 ‹_› | exact cj4 ‹_› | exact cj5 ‹_› | exact cj6 ‹_› | exact cj7 ‹_› | exact cj8 ‹_› | exact cj9 ‹_› | exact cj10 ‹_› | exact cj11 ‹_› | exact cj12 ‹_› | exact cj13 ‹_› | exact cj14 ‹_› | exact cj15 ‹_› | exact dk1 ‹_› | exact dk2 ‹_› | exact dk3 ‹_› | exact dk4 ‹_› | exact dk5 ‹_› | exact dk6 ‹_› | exact dk7 ‹_› | exact dk8 ‹_› | exact dk9 ‹_› | exact dk10 ‹_› | exact dk11 ‹_› | exact dk12 ‹_› | exact dk13 ‹_› | exact dk14 ‹_› | exact dk15 ‹_›)
 (k_with "mine k_ne" => (refine neN ?_; (try dsimp only); first | with_reducible assumption | exact Ne.symm (by with_reducible assumption) | exact Nat.ne_of_lt (by k_extra "mine lt") | exact Nat.ne_of_gt (by k_extra "mine lt") | grind))
 (k_with "mine cell_enter" => (refine' code_defR (by exact rfl) (by exact rfl) (by assumption) (by k_asm) (by k_asm) (by k_asm) (by k_asm) (by k_asm) (by k_is) (by k_is) (by ktr_room) (by exact BindsTo.of_eq rfl) (by exact locs rfl) ?_ (by exact rfl) (by exact rfl) (by exact rfl) (by decide); k_whole; intro g'xq L'xq h'xq tkEq FG'xq F'xq N'xq B'xq X'xq T'xq GS'xq; (try dsimp only); (try k_lift B'xq); (try k_fold)))
 (k_with "mine exec For" => (refine stopAt ?_))
 (k_with "mine exec For Name Call cons nil" => (refine stopAt ?_))
 (k_with "mine exec For Name Name cons nil" => (refine stopAt ?_))
 (k_with "mine exec For Tuple" => (refine stopAt ?_))
 (k_with "mine exec For Tuple Call" => (refine stopAt ?_))
 (k_with "mine k_all" => (assumption))
 (k_with "mine setItem ref int" => (k_here; k_dflt (refine' kda_set (knd := PySem.intKind _ _) (by k_asm) (by k_asm) (by k_updF) (by k_asm) (intKind_is _ _ _ _) (by assumption) ?_); intro h'xq o'xq F'xq N'xq hd'xq; (try dsimp only at N'xq); (try k_sweep)))
 (k_with "mine subscriptTail" => (k_here; k_dflt (refine' kda_item (knd := PySem.intKind _ _) (by k_asm) (by k_mem) (by k_asm) (intKind_is _ _ _ _) (by assumption) ?_ (by with_unfolding_all rfl) (by intro _; with_unfolding_all rfl))))
 (k_with "mine callWith ref" => (k_here; (with_reducible show wpAny _ _ (callWith _ (Value.ref _) _ (backTo _ (starEach [PySem.Expr.Name (Str.ofString "elt") _] _)) []) _ _ _); k_dflt (refine' callWith_bm (BmAt.of (by k_asm) (by k_mem)) ?_; k_whole)))
 (k_with "mine And" => ((with_reducible show BmAt _ _ ∧ _); k_dflt (refine ⟨BmAt.of (by k_asm) (by k_mem), ?_⟩); (try dsimp only [List.nil_append, List.cons_append])))
 (k_with "mine getItem ref int" => (k_here; k_dflt (refine' get_dict (by k_asm) (by k_mem) (by k_asm) (by assumption) ?_)))
 (k_with "mine call ref" => (k_here; k_dflt (refine bm_inR (by k_asm) (by k_mem) (by k_mem) (by k_asm) (by k_asm) (by assumption) ?_ ?_); rotate_left; (intro v9xq x9xq hv9xq hx9xq hV9xq; refine hdG ?_; intro Xh hXh; obtain ⟨t9xq, e9xq⟩ := hV9xq; subst e9xq; refine hXh ?_; clear hXh); rotate_right; intro hv9xq))
 (k_with "mine call ref" => (k_here; (with_reducible show wpAny _ _ (call (Value.ref 145) _) _ _ _); k_dflt (refine' funA_use (calcR _ _ _ _ _ _ _ (by constructor <;> (try split) <;> grind) (by constructor <;> grind)) (by k_asm) (by k_asm) (by k_asm) (by k_asm) (by k_asm) (by first | exact rfl | assumption) (by ktr_room) (by ktr_units) (by exact fun _ hxq => nomatch hxq) ?_); intro rvxq tl9xq h9xq tk9xq F9xq N9xq kp9xq ne9xq rnxq; refine hdG ?_; intro Xh hXh; obtain ⟨e9xq, t9xq, z9xq, rnxq⟩ := rnxq; subst e9xq; subst rnxq; refine hXh ?_; clear hXh; (try simp only [List.nil_append] at N9xq); (try clear ne9xq)))
 (k_with "mine call builtin:dict.get" => (k_here; k_dflt (refine' get2I (by k_asm) (by k_mem) (by k_asm) (by k_asm) (by assumption) ?_); intro t9xq))
 (k_with "mine getMethod ref" => (k_here; (with_reducible show wpAny _ _ (getMethod (Value.ref _) (Str.ofString "get") _) _ _ _); k_dflt (refine' kdg_method (knd := PySem.intKind _ _) (by k_asm) (by k_mem) (by k_asm) ?_)))
 (k_with "mine exec For Name Attribute cons nil" => (refine stopAt ?_))
 (k_with "mine pyIter ref" => (refine stopAt ?_))
 (k_with "mine getAttr ref" => (k_here; (with_reducible show wpAny _ _ (getAttr (Value.ref _) (Str.ofString "__contains__") _) _ _ _); k_dflt (refine' dc_attrK (by k_asm) (by k_asm) (by k_mem) (by k_asm) ?_); intro h'xq F'xq N'xq l'xq; k_lt l'xq))
 trivial
namespace E_quickN
noncomputable def theP (zC : Bag) : Prop :=
 let w := zC.w 3; let mg := zC.fr 3; let mb := zC.fr 4; let M := zC.addr 3; let dM := zC.addr 4; let la := zC.addr 5; let lb := zC.addr 6; let p := zC.il 3; let q := zC.il 4; let led := zC.led 3; let t0 := zC.tok 3; let t1 := zC.tok 4; let t2 := zC.tok 5; let t3 := zC.tok 6; let t4 := zC.tok 7; let t5 := zC.tok 8; let t6 := zC.tok 9; let t7 := zC.tok 10; let t8 := zC.tok 11; let t9 := zC.tok 12; let j0 := zC.val 3; let k0 := zC.val 4; let l0 := zC.val 5;
 ∀ (hM : (M, instObj 242 dM) ∈ led) (ha : IntsIn led la p) (hb : IntsIn led lb q) (hz : 0 < p.length ∧ p.length ≤ 50 ∧ 0 < q.length ∧ q.length ≤ 50), FunUb zC 4 w mg mb 232 [.ref M] led dM (md10 w t0 t1 t2 t3 t4 t5 t6 t7 t8 t9 (.ref la) (.ref lb) .none j0 k0 l0)
   (fun r o' tl => (∃ t, TokOk t ∧ r = .float (ratio (quickM p q) (p.length + q.length)) t) ∧ ∃ FB, o' = md10 w t0 t1 t2 t3 t4 t5 t6 t7 t8 t9 (.ref la) (.ref lb) (.ref FB) j0 k0 l0 ∧ DictIn w IntV tl FB (cntD q))
@[irreducible] def tB : Bag := bagOf theP
@[irreducible] def w := tB.w 3
@[irreducible] def mg := tB.fr 3
@[irreducible] def mb := tB.fr 4
@[irreducible] def M := tB.addr 3
@[irreducible] def dM := tB.addr 4
@[irreducible] def la := tB.addr 5
@[irreducible] def lb := tB.addr 6
@[irreducible] def p := tB.il 3
@[irreducible] def q := tB.il 4
@[irreducible] def led := tB.led 3
@[irreducible] def t0 := tB.tok 3
@[irreducible] def t1 := tB.tok 4
@[irreducible] def t2 := tB.tok 5
@[irreducible] def t3 := tB.tok 6
@[irreducible] def t4 := tB.tok 7
@[irreducible] def t5 := tB.tok 8
@[irreducible] def t6 := tB.tok 9
@[irreducible] def t7 := tB.tok 10
@[irreducible] def t8 := tB.tok 11
@[irreducible] def t9 := tB.tok 12
@[irreducible] def j0 := tB.val 3
@[irreducible] def k0 := tB.val 4
@[irreducible] def l0 := tB.val 5
noncomputable def coreT : Prop := ∀ (hM : (M, instObj 242 dM) ∈ led) (ha : IntsIn led la p) (hb : IntsIn led lb q) (hz : 0 < p.length ∧ p.length ≤ 50 ∧ 0 < q.length ∧ q.length ≤ 50), FunUb tB 4 w mg mb 232 [.ref M] led dM (md10 w t0 t1 t2 t3 t4 t5 t6 t7 t8 t9 (.ref la) (.ref lb) .none j0 k0 l0)
   (fun r o' tl => (∃ t, TokOk t ∧ r = .float (ratio (quickM p q) (p.length + q.length)) t) ∧ ∃ FB, o' = md10 w t0 t1 t2 t3 t4 t5 t6 t7 t8 t9 (.ref la) (.ref lb) (.ref FB) j0 k0 l0 ∧ DictIn w IntV tl FB (cntD q))
set_option maxHeartbeats 4000000 in
noncomputable def part1 : (P : Bag → Prop) ×' (P (bagOf P) → coreT) := by
 refine' ⟨_, fun hP => ?_⟩
 rotate_left
 unfold coreT
 intro hM ha hb hz
 w_on
 unfold FunUb
 k_fill
 intros
 rename_i hN hT hk hd hu hret
 refine hdG ?_; intro Xh hXh
 refine ex2 ha ?_
 try clear ha
 rintro va na hZ
 obtain ⟨ma, ia⟩ := hZ
 refine ex2 hb ?_
 try clear hb
 rintro vb nb hZ
 obtain ⟨mb', ib⟩ := hZ
 refine hXh ?_; clear hXh
 have hla := (hN _ (.tail _ ma)).1
 have hlb := (hN _ (.tail _ mb')).1
 have hN1 := news_two hN hM
 have hne : @Ne Nat dM M := ne_of_two hN1 (.head _) (.tail _ (.head _)) (by intro e; cases e)
 rename_i z0z z1z z2z
 refine wpAny_call ?_
 k_dflt (refine' code_defR (by exact rfl) (by exact rfl) (by assumption) (by k_asm) (by k_asm) (by k_asm) (by k_asm) (by k_asm) (by k_is) (by k_is) (by ktr_room) (by exact BindsTo.of_eq rfl) (by exact locs rfl) ?_ (by exact rfl) (by exact rfl) (by exact rfl) (by decide); k_whole)
 intro g L1 h1 tk
 revert hM hz z0z z1z z2z hN hT hk hd hu hret ma ia mb' ib hla hlb hN1 hne
 revert Xh va na vb nb
 revert g L1 h1 tk
 exact bag4 _ (by exact rfl) hP
@[irreducible] def theB1 : Bag := bagOf part1.1
set_option maxHeartbeats 4000000 in
theorem part2 : part1.1 theB1 := by
 delta part1
 dsimp only
 intro Xh va na vb nb
 intro hM hz z0z z1z z2z hN hT hk hd hu hret ma ia mb' ib hla hlb hN1 hne FG'xq F'xq N'xq B'xq X'xq T'xq GS'xq
 w_on
 k_fill
 (try dsimp only)
 (try k_lift B'xq)
 (try k_fold)
 rename GSub _ _ _ => GS
 have la' : Heap.IsList _ la va.toArray := (⟨_, ia2 (base_of hN1 GS hla (cls_ne (by decide)) (by intro e; cases e)) rfl ⟨na, rfl⟩⟩)
 have lb' : Heap.IsList _ lb vb.toArray := (⟨_, ia2 (base_of hN1 GS hlb (cls_ne (by decide)) (by intro e; cases e)) rfl ⟨nb, rfl⟩⟩)
 have za := ia.length
 have zb := ib.length
 k_steps
 unfold StopHere
 rename Fr _ _ _ _ => F9
 rename News _ _ _ _ => N9
 rename Obj.IsDictOf (intKind _ _) _ [] => hD0
 rename (_ == sysModules) = false => loF
 refine name_lo loF fun FB eD => ?_
 subst eD
 refine for1 F9 rfl (by rfl) (by rfl) ?_
 k_steps
 unfold StopHere
 rename Fr _ _ _ _ => F10
 rename News _ _ _ _ => N10
 refine iter_list F10 N10 lb' rfl
  (fun i m' news' gs' => gs' = _ ∧ m' (Str.ofString "self") = some (.ref M) ∧ m' (Str.ofString "fullbcount") = some (.ref FB) ∧ ∃ o kvs, 
   news' = [(FB, o), (dM, md10 w t0 t1 t2 t3 t4 t5 t6 t7 t8 t9 (.ref la) (.ref lb) (.ref FB) j0 k0 l0), (M, instObj 242 dM)] ∧ o.IsDictOf (intKind _ _) kvs ∧ Rep IntV kvs ((q.take i).foldl (dBump 1) []) ∧ kvs.length ≤ i)
  (ia3 rfl rfl rfl (ix2 _ _ (ia3 rfl hD0 .nil (Nat.le_refl _)))) ?_ ?_
 ·rintro i v m₁ news₁ h tk' gs it oi E' hi e hJz
  refine hdG ?_; intro Xh hXh
  refine an3 hJz ?_
  try clear hJz
  rintro hg e1 e2 hZ
  refine ex2 hZ ?_
  clear hZ
  rintro o kvs hZ
  refine an3 hZ ?_
  clear hZ
  rintro rfl hd9 hr hle
  refine hXh ?_; clear hXh
  rintro hoff F N
  refine hdG ?_; intro Xh hXh
  refine ex2 (ints_get ib e) ?_
  rintro x tx hZ
  obtain ⟨ex, rfl⟩ := hZ
  have F := Fr_pin (Fr_pin F (x := Str.ofString "self") e1) (x := Str.ofString "fullbcount") e2
  simp only [List.forall_mem_cons] at hoff
  refine an3 hoff ?_
  try clear hoff
  rintro q1 q2 q3 -
  refine hXh ?_; clear hXh
  rw [List.size_toArray] at hi
  have hsz : kvs.length ≤ sizeLine := by rw [sizeLine_eq]; grind
  have hs := foldl_take_succ (dBump 1) [] q ex
  k_steps
  rename Fr _ _ _ _ => F2
  rename News _ _ _ _ => N2
  rename Obj.IsDictOf _ _ _ => hd2
  refine (⟨.inl rfl, ix5 _ _ _ [(FB, _), (dM, md10 w t0 t1 t2 t3 t4 t5 t6 t7 t8 t9 (.ref la) (.ref lb) (.ref FB) j0 k0 l0), (M, instObj 242 dM)] _ (ia7 rfl F2 N2 ?_ hg rfl rfl (ix2 _ _ (ia3 rfl hd2 ?_ ?_)))⟩)
  ·exact off_one (by simp only [List.forall_mem_cons]; exact (ia3 q1 q2 q3 (fun _ h => nomatch h)))
  ·rw [hs]
   exact hr.put x ⟨_, rfl⟩
  ·exact Nat.le_trans (stored_length_le _ _ _) (by grind)
 rintro h' tk gs m' news' F N hJz
 refine hdG ?_; intro Xh hXh
 refine an3 hJz ?_
 try clear hJz
 rintro hg e1 e2 hZ
 refine ex2 hZ ?_
 clear hZ
 rintro oF kF hZ
 refine an3 hZ ?_
 clear hZ
 rintro rfl iF rF hle
 have hg : gs = _ := hg
 subst hg
 refine hXh ?_; clear hXh
 rw [List.size_toArray, zb, List.take_length] at rF
 have F := Fr_pin (Fr_pin F (x := Str.ofString "self") e1) (x := Str.ofString "fullbcount") e2
 have rF : Rep IntV kF (cntD q) := rF
 dsimp only
 k_steps
 unfold StopHere
 rename Fr _ _ _ _ => F9
 rename News _ _ _ _ => N9
 refine for1 F9 rfl (by rfl) (by rfl) ?_
 k_steps
 unfold StopHere
 rename Fr _ _ _ _ => F10
 rename News _ _ _ _ => N10
 rename (_ == sysModules) = false => loD
 rename Obj.IsDictOf (intKind _ _) _ [] => hD0
 refine name_lo loD fun D eD => ?_
 subst eD
 have N10 := news_tail N10
 refine iter_list F10 N10 la' rfl
  (fun i m' news' gs' => gs' = _ ∧ m' (Str.ofString "self") = some (.ref M) ∧ m' (Str.ofString "fullbcount") = some (.ref FB) ∧ m' (Str.ofString "avail") = some (.ref D) ∧ ∃ BM o kvs, @Ne Nat D BM ∧ m' (Str.ofString "availhas") = some (.ref BM) ∧ 
   (∃ t, m' (Str.ofString "matches") = some (.int ((p.take i).foldl (qStep (cntD q)) ([], 0)).2 t)) ∧ 
   news' = [(BM, bmO D), (D, o), (FB, oF), (dM, md10 w t0 t1 t2 t3 t4 t5 t6 t7 t8 t9 (.ref la) (.ref lb) (.ref FB) j0 k0 l0), (M, instObj 242 dM)] ∧ o.IsDictOf (intKind _ _) kvs ∧ Rep IntV kvs ((p.take i).foldl (qStep (cntD q)) ([], 0)).1 ∧ kvs.length ≤ i)
  (ia4 rfl rfl rfl rfl (ix3 _ _ _ (ia6 (by k_ne) rfl ⟨_, rfl⟩ rfl hD0 .nil (Nat.le_refl _)))) ?_ ?_
 ·rintro i v m₁ news₁ h tk' gs it oi E' hi e hJz
  refine hdG ?_; intro Xh hXh
  refine an4 hJz ?_
  try clear hJz
  rintro hg e1 e2 e3 hZ
  refine ex3 hZ ?_
  clear hZ
  rintro BM o kvs hZ
  refine an6 hZ ?_
  clear hZ
  rintro nb e4 ⟨t, e5⟩ rfl hd9 hr hle
  refine hXh ?_; clear hXh
  rintro hoff F N
  refine hdG ?_; intro Xh hXh
  refine ex2 (ints_get ia e) ?_
  rintro x tx hZ
  obtain ⟨ex, rfl⟩ := hZ
  have F := Fr_pin (Fr_pin (Fr_pin (Fr_pin (Fr_pin F (x := Str.ofString "self") e1) (x := Str.ofString "fullbcount") e2) (x := Str.ofString "avail") e3) (x := Str.ofString "availhas") e4) (x := Str.ofString "matches") e5
  simp only [List.forall_mem_cons] at hoff
  refine an5 hoff ?_
  try clear hoff
  rintro q1 q2 q3 q4 q5 -
  refine hXh ?_; clear hXh
  rw [List.size_toArray] at hi
  have hsz : kvs.length ≤ sizeLine := by rw [sizeLine_eq]; grind
  have hs := foldl_take_succ (qStep (cntD q)) ([], 0) p ex
  k_steps
  all_goals
   rename Fr _ _ _ _ => F2
   rename News _ _ _ _ => N2
   rename Obj.IsDictOf _ _ _ => hd2
   refine (⟨.inl rfl, ix5 _ _ _ [(BM, bmO D), (D, _), (FB, oF), (dM, md10 w t0 t1 t2 t3 t4 t5 t6 t7 t8 t9 (.ref la) (.ref lb) (.ref FB) j0 k0 l0), (M, instObj 242 dM)] _ (ia8 rfl F2 N2 ?_ hg rfl rfl rfl (ix3 BM _ _ (ia6 nb rfl ?_ rfl hd2 ?_ ?_)))⟩)
   ·exact off_one (by simp only [List.forall_mem_cons]; exact (ia5 q1 q2 q3 q4 q5 (fun _ h => nomatch h)))
   ·rw [hs]
    first
     | (rw [qStep_2p (qStep_none (by assumption)) (by assumption)]; exact ⟨_, rfl⟩)
     | (rw [qStep_2n (qStep_none (by assumption)) (by assumption)]; exact ⟨_, rfl⟩)
     | (rw [qStep_2p (qStep_some (by assumption)) (by assumption)]; exact ⟨_, rfl⟩)
     | (rw [qStep_2n (qStep_some (by assumption)) (by assumption)]; exact ⟨_, rfl⟩)
   ·rw [hs]
    first
     | (rw [qStep_1 (qStep_none (by assumption))]; exact hr.put x ⟨_, rfl⟩)
     | (rw [qStep_1 (qStep_some (by assumption))]; exact hr.put x ⟨_, rfl⟩)
   ·exact Nat.le_trans (stored_length_le _ _ _) (by grind)
 ·rintro h' tk gs m' news' F N hJz
  refine hdG ?_; intro Xh hXh
  refine an4 hJz ?_
  try clear hJz
  rintro hg e1 e2 e3 hZ
  refine ex3 hZ ?_
  clear hZ
  rintro BM o kvs hZ
  refine an6 hZ ?_
  clear hZ
  rintro nb e4 ⟨t, e5⟩ rfl hd9 hr hle
  have hg : gs = _ := hg
  subst hg
  refine hXh ?_; clear hXh
  rw [List.size_toArray, za, List.take_length] at e5
  have hm2 := qStep_pos (cntD q) p
  have F := Fr_pin (Fr_pin F (x := Str.ofString "self") e1) (x := Str.ofString "matches") e5
  generalize hM2 : (p.foldl (qStep (cntD q)) ([], 0)).2 = mm at *
  dsimp only
  k_steps
  all_goals
   refine funU_ret hret hN1 GS (by assumption) (by assumption) (by k_mem) (fun p hp => ?_) fun tl htl => (⟨?_, ⟨FB, ⟨rfl, ix2 oF kF (ia3 (htl _ (by k_mem) ?_) iF rF loF)⟩⟩⟩)
   ·rcases List.mem_cons.mp hp with rfl | hp
    ·exact .inl rfl
    ·rw [List.mem_singleton.mp hp]; exact .inr (by k_mem)
   ·rw [quickM, hM2]
    exact ⟨_, by assumption, rfl⟩
   ·simp only [List.map_cons, List.map_nil, List.mem_cons, List.not_mem_nil, or_false, not_or]
    constructor <;> k_ne
theorem core : coreT := part1.2 (by with_unfolding_all exact part2)
end E_quickN
theorem quickN (w : World) (mg mb) {M dM la lb : Addr} {p q : List Int} {led : List (Addr × Obj)} (hM : (M, instObj 242 dM) ∈ led) (ha : IntsIn led la p) (hb : IntsIn led lb q) (hz : 0 < p.length ∧ p.length ≤ 50 ∧ 0 < q.length ∧ q.length ≤ 50) (t0 t1 t2 t3 t4 t5 t6 t7 t8 t9 : Tok) (j0 k0 l0 : Value) : FunU 4 w mg mb 232 [.ref M] led dM (md10 w t0 t1 t2 t3 t4 t5 t6 t7 t8 t9 (.ref la) (.ref lb) .none j0 k0 l0)
   (fun r o' tl => (∃ t, TokOk t ∧ r = .float (ratio (quickM p q) (p.length + q.length)) t) ∧ ∃ FB, o' = md10 w t0 t1 t2 t3 t4 t5 t6 t7 t8 t9 (.ref la) (.ref lb) (.ref FB) j0 k0 l0 ∧ DictIn w IntV tl FB (cntD q)) := fun dpzz unzz gdzz cnzz cszz azz ccdzz clzz outerzz A₀zz basezz h₀zz Lzz mzz szz Qzz Ezz => bag_all (P := E_quickN.theP) (by with_unfolding_all exact @E_quickN.core) { bag0 with A := nth [A₀zz, A₀zz, A₀zz] bag0.A, addr := nth [azz, Lzz, azz, M, dM, la, lb] bag0.addr, cl := nth [clzz, clzz, clzz] bag0.cl, fr := nth [mzz, mzz, mzz, mg, mb] bag0.fr, gd := nth [gdzz, gdzz, gdzz] bag0.gd, heap := nth [basezz, h₀zz, basezz] bag0.heap, il := nth [p, p, p, p, q] bag0.il, led := nth [led, led, led, led] bag0.led, nat := nth [dpzz, unzz, dpzz] bag0.nat, outer := nth [outerzz, outerzz, outerzz] bag0.outer, qv := nth [Qzz, Ezz, Qzz] bag0.qv, s := nth [szz, szz, szz] bag0.s, scope := nth [cszz, cszz, cszz] bag0.scope, str := nth [cnzz, cnzz, cnzz] bag0.str, tok := nth [t0, t0, t0, t0, t1, t2, t3, t4, t5, t6, t7, t8, t9] bag0.tok, val := nth [ccdzz, ccdzz, ccdzz, j0, k0, l0] bag0.val, w := nth [w, w, w, w] bag0.w } hM ha hb hz
end Mine
end
section
theorem Mine.clearH1 : True := by
 k_with_none
 trivial
open PySem PySem.W PyProof.Rows PySem.Calls PySem.Spec
set_option Elab.async false
set_option maxRecDepth 100000
namespace Mine
theorem rowsH1a : True := by
 k_with_none
 (k_with "mine lt" => with_reducible first | assumption | exact cj0 ‹_› | exact cj1 ‹_› | exact cj2 ‹_› | exact cj3 ‹_› | exact cj4 ‹_› | exact cj5 ‹_› | exact cj6 ‹_› | exact cj7 ‹_› | exact cj8 ‹_› | exact cj9 ‹_› | exact cj10 ‹_› | exact cj11 ‹_› | exact cj12 ‹_› | exact cj13 ‹_› | exact cj14 ‹_› | exact cj15 ‹_› | exact dk1 ‹_› | exact dk2 ‹_› | exact dk3 ‹_› | exact dk4 ‹_› | exact dk5 ‹_› | exact dk6 ‹_› | exact dk7 ‹_› | exact dk8 ‹_› | exact dk9 ‹_› | exact dk10 ‹_› | exact dk11 ‹_› | exact dk12 ‹_› | exact dk13 ‹_› | exact dk14 ‹_› | exact dk15 ‹_›)
 (k_with "mine k_ne" => (refine neN ?_; (try dsimp only); first | with_reducible assumption | exact Ne.symm (by with_reducible assumption) | exact Nat.ne_of_lt (by k_extra "mine lt") | exact Nat.ne_of_gt (by k_extra "mine lt") | grind))
 (k_with "mine cell_enter" => (refine' code_defR (by exact rfl) (by exact rfl) (by assumption) (by k_asm) (by k_asm) (by k_asm) (by k_asm) (by k_asm) (by k_is) (by k_is) (by ktr_room) (by exact BindsTo.of_eq rfl) (by exact locs rfl) ?_ (by exact rfl) (by exact rfl) (by exact rfl) (by decide); k_whole; intro g'xq L'xq h'xq tkEq FG'xq F'xq N'xq B'xq X'xq T'xq GS'xq; (try dsimp only); (try k_lift B'xq); (try k_fold)))
 (k_with "mine exec For" => (refine stopAt ?_))
 (k_with "mine exec For Tuple" => (refine stopAt ?_))
 (k_with "mine exec For Tuple Call" => (refine stopAt ?_))
 (k_with "mine call type:enumerate" => (refine stopAt ?_))
 trivial
noncomputable def hStep (z : List Int × Nat) (x : Int) : List Int × Nat := (z.1.set (z.2 % 10) (z.1.getD (z.2 % 10) 0 + x), z.2 + 1)
noncomputable def heapsL (z p : List Int) : List Int := (p.foldl hStep (z, 0)).1
theorem hStep_len (p : List Int) : ∀ z, (p.foldl hStep z).1.length = z.1.length ∧ (p.foldl hStep z).2 = z.2 + p.length := by
 induction p with
 | nil => intro z; simp
 | cons x p ih =>
  intro z
  obtain ⟨h1, h2⟩ := ih (hStep z x)
  simp only [List.foldl_cons, List.length_cons]
  rw [h1, h2]
  simp only [hStep, List.length_set]
  exact ⟨trivial, by grind⟩
theorem fmod10 (i : Nat) : ((i : Int).fmod ((10 : Nat) : Int)).toNat = i % 10 := by
 rw [Int.fmod_eq_emod_of_nonneg _ (by decide)]; grind
end Mine
end
section
theorem Mine.clearH2 : True := by
 k_with_none
 trivial
open PySem PySem.W PyProof.Rows PySem.Calls PySem.Spec
set_option Elab.async false
set_option maxRecDepth 100000
namespace Mine
theorem rowsH2a : True := by
 k_with_none
 (k_with "mine lt" => with_reducible first | assumption | exact cj0 ‹_› | exact cj1 ‹_› | exact cj2 ‹_› | exact cj3 ‹_› | exact cj4 ‹_› | exact cj5 ‹_› | exact cj6 ‹_› | exact cj7 ‹_› | exact cj8 ‹_› | exact cj9 ‹_› | exact cj10 ‹_› | exact cj11 ‹_› | exact cj12 ‹_› | exact cj13 ‹_› | exact cj14 ‹_› | exact cj15 ‹_› | exact dk1 ‹_› | exact dk2 ‹_› | exact dk3 ‹_› | exact dk4 ‹_› | exact dk5 ‹_› | exact dk6 ‹_› | exact dk7 ‹_› | exact dk8 ‹_› | exact dk9 ‹_› | exact dk10 ‹_› | exact dk11 ‹_› | exact dk12 ‹_› | exact dk13 ‹_› | exact dk14 ‹_› | exact dk15 ‹_›)
 (k_with "mine k_ne" => (refine neN ?_; (try dsimp only); first | with_reducible assumption | exact Ne.symm (by with_reducible assumption) | exact Nat.ne_of_lt (by k_extra "mine lt") | exact Nat.ne_of_gt (by k_extra "mine lt") | omega))
 (k_with "mine cell_enter" => (refine' code_defR (by exact rfl) (by exact rfl) (by assumption) (by k_asm) (by k_asm) (by k_asm) (by k_asm) (by k_asm) (by k_is) (by k_is) (by ktr_room) (by exact BindsTo.of_eq rfl) (by exact locs rfl) ?_ (by exact rfl) (by exact rfl) (by exact rfl) (by decide); k_whole; intro g'xq L'xq h'xq tkEq FG'xq F'xq N'xq B'xq X'xq T'xq GS'xq; (try dsimp only); (try k_lift B'xq); (try k_fold)))
 trivial
section
variable {prog : Program} {w : World} {A : Around} {s : Shared} {env : Env} {h₀ : Heap} {m : Str → Option Value} {rest : List (Addr × Obj)}
end
namespace E_iter_newlist
noncomputable def theP (zC : Bag) : Prop :=
 let prog := zC.prog 3; let w := zC.w 3; let A := zC.A 3; let s := zC.s 3; let env := zC.env 3; let h₀ := zC.heap 3; let m := zC.fr 3; let rest := zC.led 3; let E := zC.qv 3; let x := zC.str 3; let body := zC.stmts 3; let Q := zC.qf 3; let l := zC.addr 3; let items := zC.arr 3; let n := zC.nat 3;
 ∀ (J : Nat → (Str → Option Value) → List (Addr × Obj) → Array GenState → Prop) (F : Fr h₀ env.locals s.heap m) (N : News h₀ env.locals s.heap ((l, W.listOf items n) :: rest)) (hoff : ∀ p ∈ rest, @Ne Nat p.1 l) (hh : A.handled = none) (h0 : J 0 m rest s.gens) (step : ∀ i v m₁ news₁ h tk gs it oi ol E', i < items.size → items[i]? = some v → J i m₁ news₁ gs → (∀ p ∈ news₁, @Ne Nat p.1 it ∧ @Ne Nat p.1 l) → @Ne Nat it l → Fr h₀ env.locals h (fun y => if y = x then some v else m₁ y) → News h₀ env.locals h ((it, oi) :: (l, ol) :: news₁) →
   wpAny (model prog w) A (execs body env) (TurnEnd h₀ env.locals [(it, oi), (l, ol)] (J (i + 1)) { s with heap := h, toks := tk, gens := gs }) E' { s with heap := h, toks := tk, gens := gs }) (done : ∀ h' tk gs m' news', Fr h₀ env.locals h' m' → News h₀ env.locals h' news' → J items.size m' news' gs → Q .next { s with heap := h', toks := tk, gens := gs }), wpAny (model prog w) A (pyIter (.ref l)) (LoopOne prog w A h₀ env x body Q) E s
@[irreducible] def tB : Bag := bagOf theP
@[irreducible] def prog := tB.prog 3
@[irreducible] def w := tB.w 3
@[irreducible] def A := tB.A 3
@[irreducible] def s := tB.s 3
@[irreducible] def env := tB.env 3
@[irreducible] def h₀ := tB.heap 3
@[irreducible] def m := tB.fr 3
@[irreducible] def rest := tB.led 3
@[irreducible] def E := tB.qv 3
@[irreducible] def x := tB.str 3
@[irreducible] def body := tB.stmts 3
@[irreducible] def Q := tB.qf 3
@[irreducible] def l := tB.addr 3
@[irreducible] def items := tB.arr 3
@[irreducible] def n := tB.nat 3
theorem core (J : Nat → (Str → Option Value) → List (Addr × Obj) → Array GenState → Prop) (F : Fr h₀ env.locals s.heap m) (N : News h₀ env.locals s.heap ((l, W.listOf items n) :: rest)) (hoff : ∀ p ∈ rest, @Ne Nat p.1 l) (hh : A.handled = none) (h0 : J 0 m rest s.gens) (step : ∀ i v m₁ news₁ h tk gs it oi ol E', i < items.size → items[i]? = some v → J i m₁ news₁ gs → (∀ p ∈ news₁, @Ne Nat p.1 it ∧ @Ne Nat p.1 l) → @Ne Nat it l → Fr h₀ env.locals h (fun y => if y = x then some v else m₁ y) → News h₀ env.locals h ((it, oi) :: (l, ol) :: news₁) →
   wpAny (model prog w) A (execs body env) (TurnEnd h₀ env.locals [(it, oi), (l, ol)] (J (i + 1)) { s with heap := h, toks := tk, gens := gs }) E' { s with heap := h, toks := tk, gens := gs }) (done : ∀ h' tk gs m' news', Fr h₀ env.locals h' m' → News h₀ env.locals h' news' → J items.size m' news' gs → Q .next { s with heap := h', toks := tk, gens := gs }) : wpAny (model prog w) A (pyIter (.ref l)) (LoopOne prog w A h₀ env x body Q) E s := by
 have hN := N (l, W.listOf items n) (.head _)
 have hls : s.heap.IsList l items := (⟨_, ia2 hN.1 rfl ⟨n, rfl⟩⟩)
 have lt : l < s.heap.objs.size := Heap.lt_size hN.1
 have hne : l ≠ s.heap.objs.size := Nat.ne_of_lt lt
 refine hdG ?_; intro Xh hXh
 refine ex3 (id F.ns) ?_
 rintro oL _ _ hZ
 obtain ⟨hL, _⟩ := hZ
 refine hXh ?_; clear hXh
 have fresh : ∀ b o, s.heap.get? b = some o → b ≠ s.heap.objs.size := fun b o e => Nat.ne_of_lt (Heap.lt_size e)
 refine wpAny_pyIter_list hls ?_
 refine (ix6 s.heap.objs.size [s.heap.objs.size, l] [s.heap.objs.size] [s.heap.objs.size, l] items.size _ (ix4 _ m rest J (ia8 rfl (Walks.list (prog := prog) (w := w) hh s.heap.objs.size l hne items) (fun b hb => .inl hb) (fun b hb => ?_) (fun b hb => ?_) (fun i h st b hb => ?_) (fun p hp hb => ?_) ⟨(⟨_, ia2 (Heap.get?_push_size _ rfl) rfl rfl⟩), hls.at fun o e => Heap.get?_push_of_some _ e⟩ (ia4 (F.push _) (fun p hp => ⟨Heap.get?_push_of_some _ (N p (.tail _ hp)).1, (N p (.tail _ hp)).2⟩) h0 ?_ ?_))))
 ·rw [List.mem_singleton.mp hb]; exact .head _
 ·simp only [List.mem_cons, List.not_mem_nil, or_false] at hb
  rcases hb with rfl | rfl
  ·refine ⟨fun e => fresh _ _ hL e.symm, ?_⟩
   cases e : h₀.get? s.heap.objs.size with
   | none => rfl
   | some o => exact absurd rfl (fresh _ _ (F.keep _ _ e))
  ·exact hN.2
 ·simp only [List.mem_cons, List.not_mem_nil, or_false] at hb
  refine hdG ?_; intro Xh hXh
  obtain ⟨⟨o1, e1, _⟩, ⟨o2, e2, _⟩⟩ := st
  refine hXh ?_; clear hXh
  rcases hb with rfl | rfl
  ·exact ⟨o1, e1⟩
  ·exact ⟨o2, e2⟩
 ·simp only [List.mem_cons, List.not_mem_nil, or_false] at hb
  rcases hb with h | h
  ·exact fresh _ _ (N p (.tail _ hp)).1 h
  ·exact hoff p hp h
 ·rintro i v m₁ news₁ s₁ own E' hJz
  refine hdG ?_; intro Xh hXh
  refine ex3 hJz ?_
  try clear hJz
  rintro h tk gs rfl
  refine hXh ?_; clear hXh
  rintro hi hP hJ hoff ho F₁ N₁
  refine hdG ?_; intro Xh hXh
  refine ex2 (own_two ho) ?_
  rintro oe oi rfl
  refine hXh ?_; clear hXh
  exact step i v m₁ news₁ h tk gs _ oe oi E' hi hP hJ (fun p hp => ⟨fun q => hoff p hp (by simp only [List.mem_cons]; exact .inl q), fun q => hoff p hp (by simp only [List.mem_cons, List.not_mem_nil, or_false]; exact .inr q)⟩) (fun e => hne e.symm) F₁ N₁
 ·intro h' tk gs m' news' F' N' _ hJ
  exact done h' tk gs m' news' F' N' hJ
end E_iter_newlist
section
variable {prog : Program} {w : World} {A : Around} {s : Shared} {env : Env} {h₀ : Heap} {m : Str → Option Value} {rest : List (Addr × Obj)}
theorem iter_newlist {E : Value → Shared → Prop} {x : Str} {body : List Stmt} {Q : Flow → Shared → Prop} {l : Addr} {items : Array Value} {n : Nat} (F : Fr h₀ env.locals s.heap m) (N : News h₀ env.locals s.heap ((l, W.listOf items n) :: rest)) (hoff : ∀ p ∈ rest, @Ne Nat p.1 l) (hh : A.handled = none) (J : Nat → (Str → Option Value) → List (Addr × Obj) → Array GenState → Prop) (h0 : J 0 m rest s.gens) (step : ∀ i v m₁ news₁ h tk gs it oi ol E', i < items.size → items[i]? = some v → J i m₁ news₁ gs → (∀ p ∈ news₁, @Ne Nat p.1 it ∧ @Ne Nat p.1 l) → @Ne Nat it l → Fr h₀ env.locals h (fun y => if y = x then some v else m₁ y) → News h₀ env.locals h ((it, oi) :: (l, ol) :: news₁) →
   wpAny (model prog w) A (execs body env) (TurnEnd h₀ env.locals [(it, oi), (l, ol)] (J (i + 1)) { s with heap := h, toks := tk, gens := gs }) E' { s with heap := h, toks := tk, gens := gs }) (done : ∀ h' tk gs m' news', Fr h₀ env.locals h' m' → News h₀ env.locals h' news' → J items.size m' news' gs → Q .next { s with heap := h', toks := tk, gens := gs }) : wpAny (model prog w) A (pyIter (.ref l)) (LoopOne prog w A h₀ env x body Q) E s := bag_all (P := E_iter_newlist.theP) (by with_unfolding_all exact @E_iter_newlist.core) { bag0 with A := nth [A, A, A, A] bag0.A, addr := nth [l, l, l, l] bag0.addr, arr := nth [items, items, items, items] bag0.arr, env := nth [env, env, env, env] bag0.env, fr := nth [m, m, m, m] bag0.fr, heap := nth [h₀, h₀, h₀, h₀] bag0.heap, led := nth [rest, rest, rest, rest] bag0.led, nat := nth [n, n, n, n] bag0.nat, prog := nth [prog, prog, prog, prog] bag0.prog, qf := nth [Q, Q, Q, Q] bag0.qf, qv := nth [E, E, E, E] bag0.qv, s := nth [s, s, s, s] bag0.s, stmts := nth [body, body, body, body] bag0.stmts, str := nth [x, x, x, x] bag0.str, w := nth [w, w, w, w] bag0.w } J F N hoff hh h0 step done
end
theorem rowsH2b : True := by
 (k_with "mine exec For" => (refine stopAt ?_))
 (k_with "mine exec For Name Subscript cons nil" => (refine stopAt ?_))
 (k_with "mine pyIter ref" => (refine stopAt ?_))
 trivial
theorem genTk {α : Type} {M : Model} {A : Around} {t : Sem α} {Q : α → Shared → Prop} {E : Value → Shared → Prop} {h : Heap} {g : Array GenState} {d : Drawn} {T : Nat} {o : OsState} (k : ∀ T, wpAny M A t Q E ⟨h, g, d, T, o⟩) : wpAny M A t Q E ⟨h, g, d, T, o⟩ := k T
noncomputable def swapL (r : List Int) (i j : Int) : List Int := (r.set i.toNat (r.getD j.toNat 0)).set j.toNat (r.getD i.toNat 0)
noncomputable def swapX (r : List Int) (x : Int) : List Int := swapL r (x.fmod 6) ((x.fdiv 6).fmod 6)
noncomputable def secondL (f : List Int) (h6 h7 h8 h9 : Int) : List Int :=
 let r := swapX (swapX (if h6.fmod 2 = 1 then f.reverse else f) h7) h8
 if h9.fmod 4 = 1 then r.set (((h9.fdiv 4).fmod 6).toNat) ((h9.fdiv 24).fmod 3) else r
theorem name_at {P : Prop} {h₀ h : Heap} {L d r : Addr} {o o' : Obj} (_N : News h₀ L h [(d, o), (r, o')]) (k : ∀ D R, D = d → R = r → P) : P := k d r rfl rfl
theorem name_ints {P : Prop} {ws : List Value} {r : List Int} (i : IntsAre ws r) (l : r.length = 6) (k : ∀ r0, r = r0 → IntsAre ws r0 → r0.length = 6 → P) : P := k r rfl i l
theorem secondL_eq {f r0 zs : List Int} {h6 h7 h8 h9 : Int} (e0 : (if h6.fmod 2 = 1 then f.reverse else f) = r0) (hZ : [h7, h8].foldl swapX r0 = zs) : secondL f h6 h7 h8 h9 = if h9.fmod 4 = 1 then zs.set (((h9.fdiv 4).fmod 6).toNat) ((h9.fdiv 24).fmod 3) else zs := by
 unfold secondL
 rw [e0, ← hZ]
 rfl
theorem swapL_len (r : List Int) (i j : Int) : (swapL r i j).length = r.length := by simp only [swapL, List.length_set]
theorem swaps_len (p : List Int) : ∀ r, (p.foldl swapX r).length = r.length := by
 induction p with
 | nil => intro r; rfl
 | cons x p ih => intro r; rw [List.foldl_cons, ih, swapX, swapL_len]
namespace E_secondC
noncomputable def theP (zC : Bag) : Prop :=
 let w := zC.w 3; let mg := zC.fr 3; let mb := zC.fr 4; let A := zC.addr 3; let B := zC.addr 4; let f := zC.il 3; let h0 := zC.int 3; let h1 := zC.int 4; let h2 := zC.int 5; let h3 := zC.int 6; let h4 := zC.int 7; let h5 := zC.int 8; let h6 := zC.int 9; let h7 := zC.int 10; let h8 := zC.int 11; let h9 := zC.int 12; let led := zC.led 3;
 ∀ (hA : IntsIn led A f) (hf : f.length = 6) (hB : IntsIn led B [h0, h1, h2, h3, h4, h5, h6, h7, h8, h9]), FunAb zC 4 w mg mb 309 [.ref A, .ref B] led (fun r tl => ∃ R, r = .ref R ∧ IntsIn tl R (secondL f h6 h7 h8 h9))
@[irreducible] def tB : Bag := bagOf theP
@[irreducible] def w := tB.w 3
@[irreducible] def mg := tB.fr 3
@[irreducible] def mb := tB.fr 4
@[irreducible] def A := tB.addr 3
@[irreducible] def B := tB.addr 4
@[irreducible] def f := tB.il 3
@[irreducible] def h0 := tB.int 3
@[irreducible] def h1 := tB.int 4
@[irreducible] def h2 := tB.int 5
@[irreducible] def h3 := tB.int 6
@[irreducible] def h4 := tB.int 7
@[irreducible] def h5 := tB.int 8
@[irreducible] def h6 := tB.int 9
@[irreducible] def h7 := tB.int 10
@[irreducible] def h8 := tB.int 11
@[irreducible] def h9 := tB.int 12
@[irreducible] def led := tB.led 3
noncomputable def coreT : Prop := ∀ (hA : IntsIn led A f) (hf : f.length = 6) (hB : IntsIn led B [h0, h1, h2, h3, h4, h5, h6, h7, h8, h9]), FunAb tB 4 w mg mb 309 [.ref A, .ref B] led (fun r tl => ∃ R, r = .ref R ∧ IntsIn tl R (secondL f h6 h7 h8 h9))
set_option maxHeartbeats 4000000 in
noncomputable def part1 : (P : Bag → Prop) ×' (P (bagOf P) → coreT) := by
 refine' ⟨_, fun hP => ?_⟩
 rotate_left
 unfold coreT
 intro hA hf hB
 w_on
 unfold FunAb
 k_fill
 intros
 rename_i hN hT hk hd hu hret
 have hN1 := news_none hN
 rename_i z0z z1z z2z
 refine wpAny_call ?_
 k_dflt (refine' code_defR (by exact rfl) (by exact rfl) (by assumption) (by k_asm) (by k_asm) (by k_asm) (by k_asm) (by k_asm) (by k_is) (by k_is) (by ktr_room) (by exact BindsTo.of_eq rfl) (by exact locs rfl) ?_ (by exact rfl) (by exact rfl) (by exact rfl) (by decide); k_whole)
 intro g L1 h1 tk
 revert hA hf hB z0z z1z z2z hN hT hk hd hu hret hN1
 revert g L1 h1 tk
 exact bag4 _ (by exact rfl) hP
@[irreducible] def theB1 : Bag := bagOf part1.1
set_option maxHeartbeats 4000000 in
noncomputable def part2c : (R : (Prop) → (List Value) → (Tok) → (Tok) → (Tok) → (Tok) → (Tok) → (Tok) → (Tok) → (Tok) → (Tok) → (Tok) → (Tok) → (List Value) → (Heap) → (Heap) → (Heap) → (Addr) → (Addr) → (Prop) → (List Int) → (Nat) → Prop) ×' ((∀ x0 x1 x2 x3 x4 x5 x6 x7 x8 x9 x10 x11 x12 x13 x14 x15 x16 x17 x18 x19 x20 x21, R x0 x1 x2 x3 x4 x5 x6 x7 x8 x9 x10 x11 x12 x13 x14 x15 x16 x17 x18 x19 x20 x21) → part1.1 theB1) := @PSigma.mk _ _ _ fun hR => by
 delta part1
 dsimp only
 intro hA hf hB z0z z1z z2z hN hT hk hd hu hret hN1 FG'xq F'xq N'xq B'xq X'xq T'xq GS'xq
 w_on
 k_fill
 (try dsimp only)
 (try k_lift B'xq)
 (try k_fold)
 rename GSub _ _ _ => GS
 have base := mem_of_base0 (fun p hp => (hN p hp).1) GS
 refine hdG ?_; intro Xh hXh
 obtain ⟨va, la, ia⟩ := hA.heap base
 obtain ⟨vb, lb, ib⟩ := hB.heap base
 refine hXh ?_; clear hXh
 have za := ia.length
 cases ib with | cons _ t0 ib
 cases ib with | cons _ t1 ib
 cases ib with | cons _ t2 ib
 cases ib with | cons _ t3 ib
 cases ib with | cons _ t4 ib
 cases ib with | cons _ t5 ib
 cases ib with | cons _ t6 ib
 cases ib with | cons _ t7 ib
 cases ib with | cons _ t8 ib
 cases ib with | cons _ t9 ib
 cases ib
 k_steps
 all_goals
  unfold StopHere
  rename Fr _ _ _ _ => F9
  rename News _ _ _ _ => N9
  refine for1 F9 rfl (by rfl) (by rfl) ?_
  k_steps
  unfold StopHere
  rename Fr _ _ _ _ => F9
  rename News _ _ _ _ => N9
  refine name_at N9 fun D R eD eR => ?_
  refine hdG ?_; intro Xh hXh
  subst eD eR
  refine hXh ?_; clear hXh
  rename IntsAre _ _ => iR
  rename (R < D) => lt
  refine name_ints iR (by first | exact hf | (rw [List.length_reverse]; exact hf)) fun r0 e0 i0 l0 => ?_
  have c6 : (if h6.fmod 2 = 1 then f.reverse else f) = r0 := by
   rw [← e0]
   first
    | exact if_pos (by assumption)
    | exact if_neg (by assumption)
  clear e0 iR
  try (rename List.length (List.reverse f) = List.length f => z1; clear z1)
  try (rename List.length f ≤ List.length f => z1; clear z1)
  repeat (rename True => z1; clear z1)
  try (rename (Int.fmod _ 2 = 1) => z1; clear z1)
  try (rename (Int.fmod _ 2 ≠ 1) => z1; clear z1)
  refine genTk fun tk9 => ?_
  rename_i c0z0 c0z1 c0z2 c0z3 c0z4 c0z5
  revert hA hf hB z0z z1z z2z hN hT hk hd hu hret hN1 FG'xq B'xq X'xq T'xq GS base la ia za lb F9 N9 lt i0 l0 c6
  revert qk ek
  revert c0z0 va t0 t1 t2 t3 t4 t5 t6 t7 t8 t9 c0z1 c0z2 c0z3 c0z4 c0z5 D R Xh r0 tk9
  exact hR
namespace Npart2c
noncomputable def theP (zC : Bag) : Prop := part2c.1 (zC.prop 0) (zC.vl 0) (zC.tok 0) (zC.tok 1) (zC.tok 2) (zC.tok 3) (zC.tok 4) (zC.tok 5) (zC.tok 6) (zC.tok 7) (zC.tok 8) (zC.tok 9) (zC.tok 10) (zC.vl 1) (zC.heap 0) (zC.heap 1) (zC.heap 2) (zC.addr 0) (zC.addr 1) (zC.prop 1) (zC.il 0) (zC.nat 0)
@[irreducible] def tB : Bag := bagOf theP
@[irreducible] def c0z0 := tB.prop 0
@[irreducible] def va := tB.vl 0
@[irreducible] def t0 := tB.tok 0
@[irreducible] def t1 := tB.tok 1
@[irreducible] def t2 := tB.tok 2
@[irreducible] def t3 := tB.tok 3
@[irreducible] def t4 := tB.tok 4
@[irreducible] def t5 := tB.tok 5
@[irreducible] def t6 := tB.tok 6
@[irreducible] def t7 := tB.tok 7
@[irreducible] def t8 := tB.tok 8
@[irreducible] def t9 := tB.tok 9
@[irreducible] def c0z1 := tB.tok 10
@[irreducible] def c0z2 := tB.vl 1
@[irreducible] def c0z3 := tB.heap 0
@[irreducible] def c0z4 := tB.heap 1
@[irreducible] def c0z5 := tB.heap 2
@[irreducible] def D := tB.addr 0
@[irreducible] def R := tB.addr 1
@[irreducible] def Xh := tB.prop 1
@[irreducible] def r0 := tB.il 0
@[irreducible] def tk9 := tB.nat 0
theorem up (hup : part2c.1 Npart2c.c0z0 Npart2c.va Npart2c.t0 Npart2c.t1 Npart2c.t2 Npart2c.t3 Npart2c.t4 Npart2c.t5 Npart2c.t6 Npart2c.t7 Npart2c.t8 Npart2c.t9 Npart2c.c0z1 Npart2c.c0z2 Npart2c.c0z3 Npart2c.c0z4 Npart2c.c0z5 Npart2c.D Npart2c.R Npart2c.Xh Npart2c.r0 Npart2c.tk9) : part1.1 theB1 := part2c.2 (fun x0 x1 x2 x3 x4 x5 x6 x7 x8 x9 x10 x11 x12 x13 x14 x15 x16 x17 x18 x19 x20 x21 => bag_all (P := theP) (by with_unfolding_all exact hup) { bag0 with prop := nth [x0, x19] bag0.prop, vl := nth [x1, x13] bag0.vl, tok := nth [x2, x3, x4, x5, x6, x7, x8, x9, x10, x11, x12] bag0.tok, heap := nth [x14, x15, x16] bag0.heap, addr := nth [x17, x18] bag0.addr, il := nth [x20] bag0.il, nat := nth [x21] bag0.nat })
set_option maxHeartbeats 4000000 in
theorem rest : part2c.1 Npart2c.c0z0 Npart2c.va Npart2c.t0 Npart2c.t1 Npart2c.t2 Npart2c.t3 Npart2c.t4 Npart2c.t5 Npart2c.t6 Npart2c.t7 Npart2c.t8 Npart2c.t9 Npart2c.c0z1 Npart2c.c0z2 Npart2c.c0z3 Npart2c.c0z4 Npart2c.c0z5 Npart2c.D Npart2c.R Npart2c.Xh Npart2c.r0 Npart2c.tk9 := by
 delta part2c
 dsimp only
 intro hA hf hB z0z z1z z2z hN hT hk hd hu hret hN1 FG'xq B'xq X'xq T'xq GS base la ia za lb F9 N9 lt i0 l0 c6
 w_on
 k_fill
 refine iter_newlist F9 N9 (by simp only [List.forall_mem_cons]; exact ⟨Nat.ne_of_lt lt, fun _ h => nomatch h⟩) rfl
   (fun i m' news' gs' => gs' = _ ∧ m' (Str.ofString "heaps") = some (.ref B) ∧ m' (Str.ofString "row") = some (.ref R) ∧ ∃ vs n, news' = [(R, lstO vs n)] ∧ IntsAre vs (([h7, h8].take i).foldl swapX r0))
   (ia3 rfl rfl rfl (ix2 _ _ ⟨rfl, i0⟩)) ?_ ?_
 ·rintro i v m₁ news₁ h tk' gs it oi ol E' hi e' hJz
  refine hdG ?_; intro Xh hXh
  refine an3 hJz ?_
  try clear hJz
  rintro hg e1 e2 hZ
  refine ex2 hZ ?_
  clear hZ
  rintro vs n hZ
  obtain ⟨rfl, iv⟩ := hZ
  refine hXh ?_; clear hXh
  rintro hoff hit F N
  refine hdG ?_; intro Xh hXh
  refine ex2 (ints_get (.cons h7 t7 (.cons h8 t8 .nil)) e') ?_
  rintro x tx hZ
  obtain ⟨ex, rfl⟩ := hZ
  have F := Fr_pin (Fr_pin F (x := Str.ofString "heaps") e1) (x := Str.ofString "row") e2
  simp only [List.forall_mem_cons] at hoff
  obtain ⟨⟨q1, q2⟩, -⟩ := hoff
  refine hXh ?_; clear hXh
  have hs := foldl_take_succ swapX r0 [h7, h8] ex
  have hl := swaps_len ([h7, h8].take i) r0
  rw [l0] at hl
  generalize hZ : ([h7, h8].take i).foldl swapX r0 = zs at *
  k_steps
  rename Fr _ _ _ _ => F2
  rename News _ _ _ _ => N2
  rename IntsAre (List.set _ _ _) _ => iv2
  refine (⟨.inl rfl, ix5 _ _ _ [(R, _)] _ (ia7 rfl F2 (news_tail (news_tail N2)) ?_ hg rfl rfl (ix2 _ _ ⟨rfl, ?_⟩))⟩)
  ·exact off_two (by simp only [List.forall_mem_cons]; exact ⟨⟨q1, q2⟩, fun _ h => nomatch h⟩)
  ·rw [hs]
   exact iv2
 ·rintro h' tk gs m' news' F N hJz
  refine hdG ?_; intro Xh hXh
  refine an3 hJz ?_
  try clear hJz
  rintro hg e1 e2 hZ
  refine ex2 hZ ?_
  clear hZ
  rintro vs n hZ
  obtain ⟨rfl, iv⟩ := hZ
  have hg : gs = _ := hg
  subst hg
  refine hXh ?_; clear hXh
  have F := Fr_pin (Fr_pin F (x := Str.ofString "heaps") e1) (x := Str.ofString "row") e2
  have hl := swaps_len [h7, h8] r0
  rw [l0] at hl
  have iv : IntsAre vs ([h7, h8].foldl swapX r0) := iv
  generalize hZ : [h7, h8].foldl swapX r0 = zs at *
  dsimp only
  k_steps
  all_goals
   refine funA_ret hret hN1 GS (by assumption) (by assumption) (fun p hp => nomatch hp) fun tl htl => (⟨R, ⟨rfl, ix2 _ _ ⟨htl _ (.head _) (by simp), ?_⟩⟩⟩)
   rw [secondL_eq c6 hZ]
   first
    | (rw [if_pos (by assumption)]; assumption)
    | (rw [if_neg (by assumption)]; assumption)
end Npart2c
theorem part2 : part1.1 theB1 := Npart2c.up Npart2c.rest
theorem core : coreT := part1.2 (by with_unfolding_all exact part2)
end E_secondC
theorem secondC (w : World) (mg mb) {A B : Addr} {f : List Int} {h0 h1 h2 h3 h4 h5 h6 h7 h8 h9 : Int} {led : List (Addr × Obj)} (hA : IntsIn led A f) (hf : f.length = 6) (hB : IntsIn led B [h0, h1, h2, h3, h4, h5, h6, h7, h8, h9]) : FunA 4 w mg mb 309 [.ref A, .ref B] led (fun r tl => ∃ R, r = .ref R ∧ IntsIn tl R (secondL f h6 h7 h8 h9)) := fun dpzz unzz gdzz cnzz cszz azz ccdzz clzz outerzz A₀zz basezz h₀zz Lzz mzz szz Qzz Ezz => bag_all (P := E_secondC.theP) (by with_unfolding_all exact @E_secondC.core) { bag0 with A := nth [A₀zz, A₀zz, A₀zz] bag0.A, addr := nth [azz, Lzz, azz, A, B] bag0.addr, cl := nth [clzz, clzz, clzz] bag0.cl, fr := nth [mzz, mzz, mzz, mg, mb] bag0.fr, gd := nth [gdzz, gdzz, gdzz] bag0.gd, heap := nth [basezz, h₀zz, basezz] bag0.heap, il := nth [f, f, f, f] bag0.il, int := nth [h0, h0, h0, h0, h1, h2, h3, h4, h5, h6, h7, h8, h9] bag0.int, led := nth [led, led, led, led] bag0.led, nat := nth [dpzz, unzz, dpzz] bag0.nat, outer := nth [outerzz, outerzz, outerzz] bag0.outer, qv := nth [Qzz, Ezz, Qzz] bag0.qv, s := nth [szz, szz, szz] bag0.s, scope := nth [cszz, cszz, cszz] bag0.scope, str := nth [cnzz, cnzz, cnzz] bag0.str, val := nth [ccdzz, ccdzz, ccdzz] bag0.val, w := nth [w, w, w, w] bag0.w } hA hf hB
end Mine
end
section
open PySem PySem.W PyProof.Rows PySem.Calls
set_option Elab.async false
set_option maxRecDepth 100000
namespace Mine
noncomputable abbrev lst (vs : Array Value) : Obj := { cls := .type "list", data := .seq vs }
noncomputable def ind (k : Int) (j : Int) : Nat := if k = j then 1 else 0
noncomputable def EltRet (P : Value → Prop) (h : Heap) (s : Shared) (Q' : Value → Shared → Prop) : Prop := ∀ r h' tk', P r → (∀ b o, h.get? b = some o → h'.get? b = some o) → Q' r { s with heap := h', toks := tk' }
theorem EltRet.done {P : Value → Prop} {h h' : Heap} {s : Shared} {Q' : Value → Shared → Prop} {r : Value} {tk' : Nat} (x : EltRet P h s Q') (p : P r) (k : ∀ b o, h.get? b = some o → h'.get? b = some o) : Q' r { s with heap := h', toks := tk' } := x r h' tk' p k
noncomputable abbrev NC2 (k : Nat) (r : Value) (a b : Nat) : Prop := NC (k + 1) r (a + b)
theorem nc00 {t : Tok} : NC 0 (.int 0 t) 0 := ⟨.i t, by decide⟩
theorem nc0 {t : Tok} : NC 1 (.int 0 t) 0 := ⟨.i t, by decide⟩
section
variable {prog : Program} {w : World} {A : Around} {E : Value → Shared → Prop} {s : Shared} {h₀ : Heap} {L D : Addr} {m : Str → Option Value} {news : List (Addr × Obj)} {g : Obj → List (Addr × Obj)} {n : Nat} {k : Int} {t a b c : Tok} {v : Value}
theorem nc_set {Q : Unit → Shared → Prop} (F : Fr h₀ L s.heap m) (N : News h₀ L s.heap news) (U : UpdF D (listOf #[.int 0 a, .int 0 b, .int 0 c] n) news g) (hv : NV v (f8 1)) (hk : 0 ≤ k ∧ k < 3)
  (h : ∀ h' x y z, Fr h₀ L h' m → News h₀ L h' (g (listOf #[x, y, z] n)) → NC 1 x (ind k 0) → NC 1 y (ind k 1) → NC 1 z (ind k 2) → Q () { s with heap := h' }) :
  wpAny (model prog w) A (setItem (.ref D) (.int k t) v) Q E s := by
 refine ex2 U.split ?_
 rintro pre post hZ
 refine an3 hZ ?_
 clear hZ
 rintro rfl hg a' b'
 have z := N (D, listOf #[.int 0 a, .int 0 b, .int 0 c] n) (List.mem_append.mpr (.inr (.head _)))
 have hn1 : NC 1 v 1 := ⟨hv, by decide⟩
 obtain ⟨k0, k3⟩ := hk
 refine ki_setAt z.1 k0 (by grind) (by simpa using k3) ?_
 have F' := F.change (Heap.SameBut.update s.heap D (Obj.mapSeq (·.setIfInBounds k.toNat v))) z.2.1 z.2.2
 rcases (show k = 0 ∨ k = 1 ∨ k = 2 by grind) with rfl | rfl | rfl
 ·exact h _ v (.int 0 b) (.int 0 c) F' (by rw [hg]; exact ki_turn _ N a' b' rfl rfl) hn1 nc0 nc0
 ·exact h _ (.int 0 a) v (.int 0 c) F' (by rw [hg]; exact ki_turn _ N a' b' rfl rfl) nc0 hn1 nc0
 ·exact h _ (.int 0 a) (.int 0 b) v F' (by rw [hg]; exact ki_turn _ N a' b' rfl rfl) nc0 nc0 hn1
end
theorem zip_add {prog : Program} {w : World} {A : Around} {E : Value → Shared → Prop} {s : Shared} {env : Env} {h₀ : Heap} {L : Addr} {m : Str → Option Value} {news : List (Addr × Obj)} {elt : Expr} {x y : Str} {scope : Scope} {cl : List (Str × Addr)} {l1 l2 : Addr} {x0 x1 x2 y0 y1 y2 : Value} {k a0 a1 a2 b0 b1 b2 : Nat} {Q : Value → Shared → Prop}
  (F : Fr h₀ L s.heap m) (N : News h₀ L s.heap news) (hl1 : s.heap.IsList l1 #[x0, x1, x2]) (hl2 : s.heap.IsList l2 #[y0, y1, y2]) (hh : A.handled = none)
  (p0 : NC k x0 a0) (p1 : NC k x1 a1) (p2 : NC k x2 a2) (q0 : NC 1 y0 b0) (q1 : NC 1 y1 b1) (q2 : NC 1 y2 b2)
  (hE : ∀ v0 v1 a b C oC h tk m₂ (Q' E' : Value → Shared → Prop), NC k v0 a → NC 1 v1 b → LCg.NsObj oC m₂ → m₂ x = some v0 → m₂ y = some v1 → Fr h₀ L h m → News h₀ L h ((C, oC) :: news) → LCg.Off1 C news →
   EltRet (fun r => NC (k + 1) r (a + b)) h s Q' → wpAny (model prog w) A (eval elt (compEnvC scope cl C env)) Q' E' { s with heap := h, toks := tk })
  (hQ : ∀ D h tk r0 r1 r2, Fr h₀ L h m → News h₀ L h ((D, listOf #[r0, r1, r2] 3) :: news) → LCg.Off1 D news → NC (k + 1) r0 (a0 + b0) → NC (k + 1) r1 (a1 + b1) → NC (k + 1) r2 (a2 + b2) → Q (.ref D) { s with heap := h, toks := tk }) :
  wpAny (model prog w) A (call (.type "zip") [.ref l1, .ref l2]) (Two prog w A elt x y scope cl env 3 Q) E s :=
 zip_three (P1 := NC k) (P2 := NC 1) (fun r a b => NC (k + 1) r (a + b)) F N hl1 hl2 hh p0 p1 p2 q0 q1 q2 (fun v0 v1 a b C oC h tk m₂ Q' E' pa pb _ nC hx hy F' N' off ret => hE v0 v1 a b C oC h tk m₂ Q' E' pa pb nC hx hy F' N' off ret) fun D h tk r0 r1 r2 F' N' off _ c0 c1 c2 => hQ D h tk r0 r1 r2 F' N' off c0 c1 c2
theorem off_get {D a : Addr} {o : Obj} : ∀ {l : List (Addr × Obj)}, LCg.Off1 D l → (a, o) ∈ l → @Ne Nat a D
 | [], _, h => nomatch h
 | p :: r, x, h => by
  rcases List.mem_cons.mp h with e | h
  ·rw [← e] at x; exact x.1
  ·exact off_get x.2 h
theorem rowsW6a : True := by
 k_with_none
 (k_with "mine lt" => with_reducible first | assumption | exact cj0 ‹_› | exact cj1 ‹_› | exact cj2 ‹_› | exact cj3 ‹_› | exact cj4 ‹_› | exact cj5 ‹_› | exact cj6 ‹_› | exact cj7 ‹_› | exact cj8 ‹_› | exact cj9 ‹_› | exact cj10 ‹_› | exact cj11 ‹_› | exact cj12 ‹_› | exact cj13 ‹_› | exact cj14 ‹_› | exact cj15 ‹_› | exact dk1 ‹_› | exact dk2 ‹_› | exact dk3 ‹_› | exact dk4 ‹_› | exact dk5 ‹_› | exact dk6 ‹_› | exact dk7 ‹_› | exact dk8 ‹_› | exact dk9 ‹_› | exact dk10 ‹_› | exact dk11 ‹_› | exact dk12 ‹_› | exact dk13 ‹_› | exact dk14 ‹_› | exact dk15 ‹_›)
 (k_with "mine k_ne" => (refine neN ?_; (try dsimp only); first | with_reducible assumption | exact Ne.symm (by with_reducible assumption) | exact Nat.ne_of_lt (by k_extra "mine lt") | exact Nat.ne_of_gt (by k_extra "mine lt") | grind | exact off_get (by assumption) (by k_mem) | exact Ne.symm (off_get (by assumption) (by k_mem))))
 (k_with "mine setItem ref int" => (k_here; (refine' nc_set (by k_asm) (by k_asm) (by k_updF) (by assumption) (by assumption) ?_); intro h'xq xxq yxq zxq F'xq N'xq nxxq nyxq nzxq; (try dsimp only at N'xq); (try k_sweep)))
 (k_with "mine cell_enter" => (refine' code_defR (by exact rfl) (by exact rfl) (by assumption) (by k_asm) (by k_asm) (by k_asm) (by k_asm) (by k_asm) (by k_is) (by k_is) (by ktr_room) (by exact BindsTo.of_eq rfl) (by exact locs rfl) ?_ (by exact rfl) (by exact rfl) (by exact rfl) (by decide); k_whole; intro g'xq L'xq h'xq tkEq FG'xq F'xq N'xq B'xq X'xq T'xq GS'xq; (try dsimp only); (try k_lift B'xq); (try k_fold)))
 (k_with "mine call ref" => (k_here; (with_reducible show wpAny _ _ (call (Value.ref 260) _) _ _ _); (refine' funA_use (add_nc _ _ _ (by assumption) (by assumption) (by decide)) (by k_asm) (by k_asm) (by k_asm) (by k_asm) (by k_asm) (by first | exact rfl | assumption) (by ktr_room) (by ktr_units) (by exact fun _ hxq => nomatch hxq) ?_); intro rvxq tl9xq h9xq tk9xq F9xq N9xq kp9xq ne9xq rnxq; obtain ⟨e9xq, rnxq⟩ := rnxq; subst e9xq; (try simp only [List.nil_append] at N9xq); (try clear ne9xq)))
 (k_with "mine call ref" => (k_here; (with_reducible show wpAny _ _ (call (Value.ref 281) _) _ _ _); (refine' funA_use (div_18 _ _ _ _ _) (by k_asm) (by k_asm) (by k_asm) (by k_asm) (by k_asm) (by first | exact rfl | assumption) (by ktr_room) (by ktr_units) (by exact fun _ hxq => nomatch hxq) ?_); intro rvxq tl9xq h9xq tk9xq F9xq N9xq kp9xq ne9xq rnxq; obtain ⟨e9xq, rnxq⟩ := rnxq; subst e9xq; (try simp only [List.nil_append] at N9xq); (try clear ne9xq)))
 (k_with "mine eval ListComp" => (k_here; k_dflt (refine comp_two (n := 3) (Nat.le_of_ble_eq_true rfl) (by rfl) (by with_unfolding_all rfl) (by decide) (by rfl) (by decide) (by rfl) (by rfl) (by decide) ?_)))
 (k_with "mine call type:zip" => (k_here; k_dflt (refine zip_add (by k_asm) (by k_asm) (News.isList (by k_asm) (by k_mem)) (News.isList (by k_asm) (by k_mem)) (by rfl) (by first | assumption | exact nc00) (by first | assumption | exact nc00) (by first | assumption | exact nc00) (by assumption) (by assumption) (by assumption) (fun v0xq v1xq naxq nbxq C'xq oC'xq h'xq tk'xq m'xq Q'xq E'xq hv0xq hv1xq nCxq hxxq hyxq F'xq N'xq off'xq ret'xq => ?_) (fun D'xq h'xq tk'xq r0xq r1xq r2xq F'xq N'xq off'xq n0xq n1xq n2xq => ?_)); (all_goals (try k_sweep))))
 (k_with "mine call builtin:list.append" => (k_here; (try dsimp only [List.cons_append, List.nil_append]); (with_reducible show wpAny _ _ (call (Value.builtin _) [Value.ref _, _]) _ _ _); k_dflt (refine' append_K (by k_asm) (by k_asm) (by k_upd) ?_ (by size_fits); k_whole); intro h'xq F'xq N'xq; (try k_sweep)))
 trivial
noncomputable def cnt (row : List Int) (j : Int) : Nat → Nat
 | 0 => 0
 | e + 1 => cnt row j e + ind (row.getD e 0) j
noncomputable def LightsAt (row : List Int) (tl : List (Addr × Obj)) (e : Nat) (a : Addr) : Prop := ∃ x y z n, (a, listOf #[x, y, z] n) ∈ tl ∧ NC e x (cnt row 0 e) ∧ NC e y (cnt row 1 e) ∧ NC e z (cnt row 2 e)
end Mine
end
section
open PySem PySem.W PyProof.Rows PySem.Calls PySem.Spec
set_option Elab.async false
set_option maxRecDepth 100000
namespace Mine
noncomputable def RowOk (row : List Int) : Prop := row.length = 6 ∧ ∀ i, i < 6 → 0 ≤ row.getD i 0 ∧ row.getD i 0 < 3
noncomputable def df (row : List Int) (j : Int) (s e : Nat) : Nat := cnt row j e - cnt row j s
noncomputable def shade (row : List Int) (s e : Nat) : Int := 30 * (df row 0 s e : Int) + 59 * (df row 1 s e : Int) + 11 * (df row 2 s e : Int)
noncomputable def lampL : Nat → List Int
 | 0 => [3000, 5990, 2130]
 | 1 => [5900, -2773, -5251]
 | _ => [1100, -3217, 3121]
noncomputable def sum0 (row : List Int) (s e : Nat) : Int := 3000 * (df row 0 s e : Int) + 5900 * (df row 1 s e : Int) + 1100 * (df row 2 s e : Int)
noncomputable def sum1 (row : List Int) (s e : Nat) : Int := 5990 * (df row 0 s e : Int) - 2773 * (df row 1 s e : Int) - 3217 * (df row 2 s e : Int)
noncomputable def sum2 (row : List Int) (s e : Nat) : Int := 2130 * (df row 0 s e : Int) - 5251 * (df row 1 s e : Int) + 3121 * (df row 2 s e : Int)
theorem cnt_le (row : List Int) (j : Int) {s e : Nat} (h : s ≤ e) : cnt row j s ≤ cnt row j e := by
 induction e with
 | zero => rw [Nat.le_zero.mp h]; exact Nat.le_refl _
 | succ e ih =>
  rcases Nat.lt_or_ge e s with c | c
  ·rw [show s = e + 1 by grind]; exact Nat.le_refl _
  ·exact Nat.le_trans (ih c) (Nat.le_add_right _ _)
theorem df_self (row : List Int) (j : Int) (s : Nat) : df row j s s = 0 := Nat.sub_self _
theorem df_succ (row : List Int) (j : Int) {s e : Nat} (h : s ≤ e) : df row j s (e + 1) = df row j s e + ind (row.getD e 0) j := by
 have := cnt_le row j h
 unfold df
 show cnt row j e + ind (row.getD e 0) j - cnt row j s = _
 grind
theorem ind_three {k : Int} (h : 0 ≤ k ∧ k < 3) : (k = 0 ∧ ind k 0 = 1 ∧ ind k 1 = 0 ∧ ind k 2 = 0) ∨ (k = 1 ∧ ind k 0 = 0 ∧ ind k 1 = 1 ∧ ind k 2 = 0) ∨ (k = 2 ∧ ind k 0 = 0 ∧ ind k 1 = 0 ∧ ind k 2 = 1) := by
 rcases (show k = 0 ∨ k = 1 ∨ k = 2 by grind) with rfl | rfl | rfl <;> simp [ind]
theorem df_sum {row : List Int} (hr : RowOk row) {s : Nat} : ∀ {e : Nat}, s ≤ e → e ≤ 6 → df row 0 s e + df row 1 s e + df row 2 s e = e - s
 | 0, h, _ => by rw [Nat.le_zero.mp h]; rfl
 | e + 1, h, h6 => by
  rcases Nat.lt_or_ge e s with c | c
  ·rw [show s = e + 1 by grind, df_self, df_self, df_self]; grind
  ·have ih := df_sum hr c (by grind)
   rw [df_succ _ _ c, df_succ _ _ c, df_succ _ _ c]
   rcases ind_three (hr.2 e (by grind)) with ⟨_, a, b, c⟩ | ⟨_, a, b, c⟩ | ⟨_, a, b, c⟩ <;> rw [a, b, c] <;> grind
theorem sum_succ {row : List Int} (hr : RowOk row) {s e : Nat} (h : s ≤ e) (h6 : e < 6) : ∃ a b c, lampL (row.getD e 0).toNat = [a, b, c] ∧ sum0 row s e + a = sum0 row s (e + 1) ∧ sum1 row s e + b = sum1 row s (e + 1) ∧ sum2 row s e + c = sum2 row s (e + 1) := by
 unfold sum0 sum1 sum2
 rw [df_succ _ _ h, df_succ _ _ h, df_succ _ _ h]
 rcases ind_three (hr.2 e h6) with ⟨k, a, b, c⟩ | ⟨k, a, b, c⟩ | ⟨k, a, b, c⟩ <;> rw [a, b, c, k] <;> refine (ix3 _ _ _ (ia3 rfl ?_ ?_ ?_)) <;> push_cast <;> grind
theorem chk_of {a b c : Nat} (h : a + b + c ≤ 6) : chk a b c = true := by
 have h0 := chkAll
 rw [List.all_eq_true] at h0
 have h1 := h0 a (List.mem_range.mpr (by grind))
 rw [List.all_eq_true] at h1
 have h2 := h1 b (List.mem_range.mpr (by grind))
 rw [List.all_eq_true] at h2
 have h3 := h2 c (List.mem_range.mpr (by grind))
 rw [Bool.or_eq_true] at h3
 rcases h3 with h3 | h3
 ·have := of_decide_eq_true h3; grind
 ·exact h3
theorem chk_parts {row : List Int} (hr : RowOk row) {s e : Nat} (h : s ≤ e) (h6 : e ≤ 6) {y i q : UInt64} (hy : y = Yf (f8 (df row 0 s e)) (f8 (df row 1 s e)) (f8 (df row 2 s e))) (hi : i = If (f8 (df row 0 s e)) (f8 (df row 1 s e)) (f8 (df row 2 s e))) (hq : q = Qf (f8 (df row 0 s e)) (f8 (df row 1 s e)) (f8 (df row 2 s e))) :
  (calm y 800 = true ∧ wholeOf y 800 = shade row s e) ∧ (calm y 80000000000 = true ∧ wholeOf y 80000000000 = 1000000 * sum0 row s e) ∧ (calm i 80000000000 = true ∧ wholeOf i 80000000000 = 1000000 * sum1 row s e) ∧ (calm q 80000000000 = true ∧ wholeOf q 80000000000 = 1000000 * sum2 row s e) := by
 have hs := df_sum hr h h6
 have hc := chk_of (a := df row 0 s e) (b := df row 1 s e) (c := df row 2 s e) (by grind)
 rw [chk, ← hy, ← hi, ← hq] at hc
 simp only [Bool.and_eq_true, decide_eq_true_eq] at hc
 obtain ⟨⟨⟨⟨⟨⟨⟨c1, c2⟩, c3⟩, c4⟩, c5⟩, c6⟩, c7⟩, c8⟩ := hc
 refine (ia3 ⟨c1, c2⟩ ⟨c3, c4⟩ ⟨c5, c6⟩ ⟨c7, c8⟩)
end Mine
end
section
open PySem PySem.W PyProof.Rows PySem.Calls PySem.Spec
set_option Elab.async false
set_option maxRecDepth 100000
namespace Mine
noncomputable def pgV (s e : Nat) : List Int := [1, (s : Int), 6 - (e : Int), (s : Int) - (6 - (e : Int))]
noncomputable def dueV (q : List Int) (s e : Nat) : List Int := [q.getD 0 0 + 1, q.getD 1 0 + (s : Int), q.getD 2 0 + 6 - (e : Int), q.getD 3 0 + (s : Int) + (e : Int) - 6]
noncomputable def zero4 : List Int := [0, 0, 0, 0]
noncomputable def dueStep (row : List Int) (s : Nat) (d : List (Int × List Int)) (e : Nat) : List (Int × List Int) := dPut d (shade row s e) (dueV ((dLook d (shade row s e)).getD zero4) s e)
noncomputable def pageF (row : List Int) (s j : Nat) : List (Int × List Int) := (List.range j).foldl (fun d i => dPut d (shade row s (s + 1 + i)) (pgV s (s + 1 + i))) []
noncomputable def dueIn (row : List Int) (s : Nat) (d : List (Int × List Int)) (j : Nat) : List (Int × List Int) := (List.range j).foldl (fun d i => dueStep row s d (s + 1 + i)) d
noncomputable def dueF (row : List Int) (i : Nat) : List (Int × List Int) := (List.range i).foldl (fun d s => dueIn row s d (6 - s)) []
noncomputable def bookF (row : List Int) (i : Nat) : List (Int × List Int) := (List.range i).foldl (fun b s => dMerge (List.zipWith (· + ·)) b (pageF row s (6 - s))) []
noncomputable def shadesIn (row : List Int) (s j : Nat) : List Int := (List.range j).map fun i => shade row s (s + 1 + i)
noncomputable def shadesF (row : List Int) (i : Nat) : List Int := (List.range i).foldl (fun l s => l ++ shadesIn row s (6 - s)) []
theorem pageF_succ (row : List Int) (s j : Nat) : pageF row s (j + 1) = dPut (pageF row s j) (shade row s (s + 1 + j)) (pgV s (s + 1 + j)) := by
 unfold pageF; rw [List.range_succ, List.foldl_append]; rfl
theorem dueIn_succ (row : List Int) (s : Nat) (d : List (Int × List Int)) (j : Nat) : dueIn row s d (j + 1) = dueStep row s (dueIn row s d j) (s + 1 + j) := by
 unfold dueIn; rw [List.range_succ, List.foldl_append]; rfl
theorem dueF_succ (row : List Int) (i : Nat) : dueF row (i + 1) = dueIn row i (dueF row i) (6 - i) := by
 unfold dueF; rw [List.range_succ, List.foldl_append]; rfl
theorem bookF_succ (row : List Int) (i : Nat) : bookF row (i + 1) = dMerge (List.zipWith (· + ·)) (bookF row i) (pageF row i (6 - i)) := by
 unfold bookF; rw [List.range_succ, List.foldl_append]; rfl
theorem shadesIn_succ (row : List Int) (s j : Nat) : shadesIn row s (j + 1) = shadesIn row s j ++ [shade row s (s + 1 + j)] := by
 unfold shadesIn; rw [List.range_succ, List.map_append]; rfl
theorem shadesF_succ (row : List Int) (i : Nat) : shadesF row (i + 1) = shadesF row i ++ shadesIn row i (6 - i) := by
 unfold shadesF; rw [List.range_succ, List.foldl_append]; rfl
theorem pageF_len (row : List Int) (s j : Nat) : (pageF row s j).length ≤ j := by
 induction j with
 | zero => exact Nat.le_refl _
 | succ j ih => rw [pageF_succ]; exact Nat.le_trans (dPut_length _ _ _) (by grind)
theorem dueIn_len (row : List Int) (s : Nat) (d : List (Int × List Int)) (j : Nat) : (dueIn row s d j).length ≤ d.length + j := by
 induction j with
 | zero => exact Nat.le_refl _
 | succ j ih => rw [dueIn_succ]; exact Nat.le_trans (dPut_length _ _ _) (by grind)
theorem dueF_len (row : List Int) (i : Nat) : (dueF row i).length ≤ 6 * i := by
 induction i with
 | zero => exact Nat.le_refl _
 | succ i ih => rw [dueF_succ]; exact Nat.le_trans (dueIn_len _ _ _ _) (by grind)
theorem dMerge_len {β : Type} (f : β → β → β) (e : List (Int × β)) : ∀ d : List (Int × β), (dMerge f d e).length ≤ d.length + e.length := by
 induction e with
 | nil => intro d; exact Nat.le_refl _
 | cons x e ih =>
  intro d
  have h := ih (dMeet f d x)
  have h2 : (dMeet f d x).length ≤ d.length + 1 := dPut_length _ _ _
  rw [List.length_cons]
  exact Nat.le_trans h (by grind)
theorem bookF_len (row : List Int) (i : Nat) : (bookF row i).length ≤ 6 * i := by
 induction i with
 | zero => exact Nat.le_refl _
 | succ i ih => rw [bookF_succ]; have := pageF_len row i (6 - i); exact Nat.le_trans (dMerge_len _ _ _) (by grind)
theorem shade_lt {row : List Int} (hr : RowOk row) {s e f : Nat} (h : s ≤ e) (hef : e < f) (h6 : f ≤ 6) : shade row s e < shade row s f := by
 induction f with
 | zero => grind
 | succ f ih =>
  have step : shade row s f < shade row s (f + 1) := by
   unfold shade
   rw [df_succ _ _ (by grind), df_succ _ _ (by grind), df_succ _ _ (by grind)]
   rcases ind_three (hr.2 f (by grind)) with ⟨_, a, b, c⟩ | ⟨_, a, b, c⟩ | ⟨_, a, b, c⟩ <;> rw [a, b, c] <;> push_cast <;> grind
  rcases Nat.lt_or_ge e f with c | c
  ·exact Int.lt_trans (ih c (by grind)) step
  ·rw [show e = f by grind]; exact step
theorem pageF_eq {row : List Int} (hr : RowOk row) {s : Nat} : ∀ {j : Nat}, s + j ≤ 6 → pageF row s j = (List.range j).map fun i => (shade row s (s + 1 + i), pgV s (s + 1 + i))
 | 0, _ => rfl
 | j + 1, h => by
  rw [pageF_succ, pageF_eq hr (by grind), List.range_succ, List.map_append]
  refine dPut_fresh (fun hm => ?_) _
  simp only [List.map_map, List.mem_map, List.mem_range, Function.comp] at hm
  obtain ⟨i, hi, e⟩ := hm
  have := shade_lt hr (s := s) (e := s + 1 + i) (f := s + 1 + j) (by grind) (by grind) (by grind)
  grind
theorem meet_due {row : List Int} {s e : Nat} {d : List (Int × List Int)} (h4 : ∀ p ∈ d, p.2.length = 4) : dMeet (List.zipWith (· + ·)) d (shade row s e, pgV s e) = dueStep row s d e := by
 unfold dMeet dueStep
 cases hq : dLook d (shade row s e) with
 | none =>
  dsimp only [Option.getD]
  congr 1
  simp [pgV, dueV, zero4]
  grind
 | some q =>
  have hl : q.length = 4 := by
   unfold dLook at hq
   obtain ⟨p, hp, rfl⟩ := Option.map_eq_some_iff.mp hq
   exact h4 p (List.mem_of_find?_eq_some hp)
  dsimp only [Option.getD]
  congr 1
  match q, hl with
  | [a, b, c, x], _ =>
   simp [pgV, dueV]
   grind
theorem dPut_all {β : Type} {P : β → Prop} {d : List (Int × β)} {k : Int} {v : β} (h : ∀ p ∈ d, P p.2) (hv : P v) : ∀ p ∈ dPut d k v, P p.2 := by
 intro p hp
 unfold dPut at hp
 split at hp
 ·obtain ⟨q, hq, rfl⟩ := List.mem_map.mp hp
  split
  ·exact hv
  ·exact h q hq
 ·rcases List.mem_append.mp hp with hp | hp
  ·exact h p hp
  ·rw [List.mem_singleton.mp hp]; exact hv
theorem dueIn_four (row : List Int) (s : Nat) {d : List (Int × List Int)} (h : ∀ p ∈ d, p.2.length = 4) (j : Nat) : ∀ p ∈ dueIn row s d j, p.2.length = 4 := by
 induction j with
 | zero => exact h
 | succ j ih => rw [dueIn_succ]; exact dPut_all (P := fun q : List Int => q.length = 4) ih rfl
theorem dueF_four (row : List Int) (i : Nat) : ∀ p ∈ dueF row i, p.2.length = 4 := by
 induction i with
 | zero => intro p hp; exact nomatch hp
 | succ i ih => rw [dueF_succ]; exact dueIn_four row i ih _
theorem merge_due {row : List Int} (hr : RowOk row) {s : Nat} {d : List (Int × List Int)} (h4 : ∀ p ∈ d, p.2.length = 4) {j : Nat} (h : s + j ≤ 6) : dMerge (List.zipWith (· + ·)) d (pageF row s j) = dueIn row s d j := by
 rw [pageF_eq hr h]
 clear h
 induction j with
 | zero => rfl
 | succ j ih =>
  rw [List.range_succ, List.map_append, dueIn_succ, ← ih]
  unfold dMerge
  rw [List.foldl_append]
  show dMeet _ (List.foldl _ d _) (shade row s (s + 1 + j), pgV s (s + 1 + j)) = _
  refine meet_due ?_
  have ih' : List.foldl (dMeet (List.zipWith (· + ·))) d ((List.range j).map fun i => (shade row s (s + 1 + i), pgV s (s + 1 + i))) = dueIn row s d j := ih
  rw [ih']
  exact dueIn_four row s h4 j
theorem book_due {row : List Int} (hr : RowOk row) : ∀ {i : Nat}, i ≤ 6 → bookF row i = dueF row i
 | 0, _ => rfl
 | i + 1, h => by rw [bookF_succ, dueF_succ, book_due hr (by grind), merge_due hr (dueF_four row i) (by grind)]
end Mine
end
section
open PySem PySem.W PyProof.Rows PySem.Calls PySem.Spec
set_option Elab.async false
set_option maxRecDepth 100000
namespace Mine
structure Fz (row : List Int) (RW LP LI : Addr) (a T : Nat → Addr) (oR : Obj) (fz : List (Addr × Obj)) : Prop where
 rw : ∃ vs n, (RW, lstO vs n) ∈ fz ∧ IntsAre vs row ∧ lstO vs n = oR
 lp : ∃ n, (LP, W.listOf #[.ref (T 0), .ref (T 1), .ref (T 2)] n) ∈ fz
 ti : ∀ i, i < 3 → ∃ vs n, (T i, tupO vs n) ∈ fz ∧ IntsAre vs (lampL i)
 li : ∃ n, (LI, W.listOf #[.ref (a 0), .ref (a 1), .ref (a 2), .ref (a 3), .ref (a 4), .ref (a 5), .ref (a 6)] n) ∈ fz
 la : ∀ e, e ≤ 6 → LightsAt row fz e (a e)
theorem LightsAt.mono {row : List Int} {l l' : List (Addr × Obj)} {e : Nat} {a : Addr} (h : LightsAt row l e a) (k : ∀ p ∈ l, p ∈ l') : LightsAt row l' e a := let ⟨x, y, z, n, m, i⟩ := h; (ix4 x y z n ⟨k _ m, i⟩)
theorem Fz.mono {row : List Int} {RW LP LI : Addr} {a T : Nat → Addr} {oR : Obj} {fz fz' : List (Addr × Obj)} (h : Fz row RW LP LI a T oR fz) (k : ∀ p ∈ fz, p ∈ fz') : Fz row RW LP LI a T oR fz' :=
 ⟨let ⟨x, y, m, i⟩ := h.rw; (ix2 x y ⟨k _ m, i⟩), let ⟨y, m⟩ := h.lp; ⟨y, k _ m⟩, fun i hi => let ⟨x, y, m, i⟩ := h.ti i hi; (ix2 x y ⟨k _ m, i⟩), let ⟨y, m⟩ := h.li; ⟨y, k _ m⟩, fun e he => (h.la e he).mono k⟩
namespace E_stage
noncomputable def theP (zC : Bag) : Prop :=
 let P := zC.prop 3; let g := zC.heap 3; let h := zC.heap 4; let L := zC.addr 3; let RW := zC.addr 4; let LP := zC.addr 5; let D := zC.addr 6; let a0 := zC.addr 7; let a1 := zC.addr 8; let a2 := zC.addr 9; let a3 := zC.addr 10; let a4 := zC.addr 11; let a5 := zC.addr 12; let a6 := zC.addr 13; let T0 := zC.addr 14; let T1 := zC.addr 15; let T2 := zC.addr 16; let S := zC.addr 17; let BK := zC.addr 18; let DU := zC.addr 19; let oD := zC.obj 3; let oB := zC.obj 4; let tl := zC.led 3; let ps := zC.arr 3; let r0 := zC.int 3; let r1 := zC.int 4; let r2 := zC.int 5; let r3 := zC.int 6; let r4 := zC.int 7; let r5 := zC.int 8; let t0 := zC.tok 3; let t1 := zC.tok 4; let t2 := zC.tok 5; let t3 := zC.tok 6; let t4 := zC.tok 7; let t5 := zC.tok 8; let v0 := zC.tok 9; let v1 := zC.tok 10; let v2 := zC.tok 11; let v3 := zC.tok 12; let v4 := zC.tok 13; let v5 := zC.tok 14; let v6 := zC.tok 15; let v7 := zC.tok 16; let v8 := zC.tok 17; let n := zC.nat 3; let nL := zC.nat 4; let kx := zC.nat 5;
 ∀ (N : News g L h ((DU, oD) :: (BK, oB) :: (S, W.listOf #[] 0) :: (tl ++ [(LP, W.listOf #[.ref T0, .ref T1, .ref T2] nL), (T2, tupO [.int 1100 v6, .int (-3217) v7, .int 3121 v8] 0), (T1, tupO [.int 5900 v3, .int (-2773) v4, .int (-5251) v5] 0), (T0, tupO [.int 3000 v0, .int 5990 v1, .int 2130 v2] 0), (283, parts ps), (RW, lstO [.int r0 t0, .int r1 t1, .int r2 t2, .int r3 t3, .int r4 t4, .int r5 t5] n)]))) (l1 : ∀ p ∈ tl ++ [(LP, W.listOf #[.ref T0, .ref T1, .ref T2] nL), (T2, tupO [.int 1100 v6, .int (-3217) v7, .int 3121 v8] 0), (T1, tupO [.int 5900 v3, .int (-2773) v4, .int (-5251) v5] 0), (T0, tupO [.int 3000 v0, .int 5990 v1, .int 2130 v2] 0), (283, parts ps), (RW, lstO [.int r0 t0, .int r1 t1, .int r2 t2, .int r3 t3, .int r4 t4, .int r5 t5] n)], @LT.lt Nat _ p.1 S) (l2 : S < BK ∧ AllLt BK (tl ++ [(LP, W.listOf #[.ref T0, .ref T1, .ref T2] nL), (T2, tupO [.int 1100 v6, .int (-3217) v7, .int 3121 v8] 0), (T1, tupO [.int 5900 v3, .int (-2773) v4, .int (-5251) v5] 0), (T0, tupO [.int 3000 v0, .int 5990 v1, .int 2130 v2] 0), (283, parts ps), (RW, lstO [.int r0 t0, .int r1 t1, .int r2 t2, .int r3 t3, .int r4 t4, .int r5 t5] n)])) (l3 : BK < DU ∧ S < DU ∧ AllLt DU (tl ++ [(LP, W.listOf #[.ref T0, .ref T1, .ref T2] nL), (T2, tupO [.int 1100 v6, .int (-3217) v7, .int 3121 v8] 0), (T1, tupO [.int 5900 v3, .int (-2773) v4, .int (-5251) v5] 0), (T0, tupO [.int 3000 v0, .int 5990 v1, .int 2130 v2] 0), (283, parts ps), (RW, lstO [.int r0 t0, .int r1 t1, .int r2 t2, .int r3 t3, .int r4 t4, .int r5 t5] n)])) (ne : ∀ p ∈ tl, ∀ q ∈ ([(LP, W.listOf #[.ref T0, .ref T1, .ref T2] nL), (T2, tupO [.int 1100 v6, .int (-3217) v7, .int 3121 v8] 0), (T1, tupO [.int 5900 v3, .int (-2773) v4, .int (-5251) v5] 0), (T0, tupO [.int 3000 v0, .int 5990 v1, .int 2130 v2] 0), (283, parts ps), (RW, lstO [.int r0 t0, .int r1 t1, .int r2 t2, .int r3 t3, .int r4 t4, .int r5 t5] n)] : List (Addr × Obj)), @Ne Nat q.1 p.1) (e0 : 283 < T0 ∧ RW < T0) (e1 : T0 < T1 ∧ 283 < T1 ∧ RW < T1) (e2 : T1 < T2 ∧ T0 < T2 ∧ 283 < T2 ∧ RW < T2) (e3 : T2 < LP ∧ T1 < LP ∧ T0 < LP ∧ 283 < LP ∧ RW < LP) (rne : @Ne Nat RW 283) (m9 : (D, W.listOf #[.ref a0, .ref a1, .ref a2, .ref a3, .ref a4, .ref a5, .ref a6] kx) ∈ tl) (y0 : LightsAt [r0, r1, r2, r3, r4, r5] tl 0 a0) (y1 : LightsAt [r0, r1, r2, r3, r4, r5] tl 1 a1) (y2 : LightsAt [r0, r1, r2, r3, r4, r5] tl 2 a2) (y3 : LightsAt [r0, r1, r2, r3, r4, r5] tl 3 a3) (y4 : LightsAt [r0, r1, r2, r3, r4, r5] tl 4 a4) (y5 : LightsAt [r0, r1, r2, r3, r4, r5] tl 5 a5) (y6 : LightsAt [r0, r1, r2, r3, r4, r5] tl 6 a6) (k : ∀ (a T : Nat → Addr) (fz : List (Addr × Obj)) (RW' LP' LI' S' BK' DU' : Addr), RW' = RW → LP' = LP → LI' = D → S' = S → BK' = BK → DU' = DU → News g L h ((283, parts ps) :: (S', lstO [] 0) :: (DU', oD) :: fz) → (BK', oB) ∈ fz → Fz [r0, r1, r2, r3, r4, r5] RW' LP' LI' a T (lstO [.int r0 t0, .int r1 t1, .int r2 t2, .int r3 t3, .int r4 t4, .int r5 t5] n) fz → (∀ p ∈ fz, @Ne Nat p.1 283 ∧ @Ne Nat p.1 S' ∧ @Ne Nat p.1 DU') → @Ne Nat S' 283 → @Ne Nat DU' 283 → @Ne Nat DU' S' → P), P
@[irreducible] def tB : Bag := bagOf theP
@[irreducible] def P := tB.prop 3
@[irreducible] def g := tB.heap 3
@[irreducible] def h := tB.heap 4
@[irreducible] def L := tB.addr 3
@[irreducible] def RW := tB.addr 4
@[irreducible] def LP := tB.addr 5
@[irreducible] def D := tB.addr 6
@[irreducible] def a0 := tB.addr 7
@[irreducible] def a1 := tB.addr 8
@[irreducible] def a2 := tB.addr 9
@[irreducible] def a3 := tB.addr 10
@[irreducible] def a4 := tB.addr 11
@[irreducible] def a5 := tB.addr 12
@[irreducible] def a6 := tB.addr 13
@[irreducible] def T0 := tB.addr 14
@[irreducible] def T1 := tB.addr 15
@[irreducible] def T2 := tB.addr 16
@[irreducible] def S := tB.addr 17
@[irreducible] def BK := tB.addr 18
@[irreducible] def DU := tB.addr 19
@[irreducible] def oD := tB.obj 3
@[irreducible] def oB := tB.obj 4
@[irreducible] def tl := tB.led 3
@[irreducible] def ps := tB.arr 3
@[irreducible] def r0 := tB.int 3
@[irreducible] def r1 := tB.int 4
@[irreducible] def r2 := tB.int 5
@[irreducible] def r3 := tB.int 6
@[irreducible] def r4 := tB.int 7
@[irreducible] def r5 := tB.int 8
@[irreducible] def t0 := tB.tok 3
@[irreducible] def t1 := tB.tok 4
@[irreducible] def t2 := tB.tok 5
@[irreducible] def t3 := tB.tok 6
@[irreducible] def t4 := tB.tok 7
@[irreducible] def t5 := tB.tok 8
@[irreducible] def v0 := tB.tok 9
@[irreducible] def v1 := tB.tok 10
@[irreducible] def v2 := tB.tok 11
@[irreducible] def v3 := tB.tok 12
@[irreducible] def v4 := tB.tok 13
@[irreducible] def v5 := tB.tok 14
@[irreducible] def v6 := tB.tok 15
@[irreducible] def v7 := tB.tok 16
@[irreducible] def v8 := tB.tok 17
@[irreducible] def n := tB.nat 3
@[irreducible] def nL := tB.nat 4
@[irreducible] def kx := tB.nat 5
theorem core (N : News g L h ((DU, oD) :: (BK, oB) :: (S, W.listOf #[] 0) :: (tl ++ [(LP, W.listOf #[.ref T0, .ref T1, .ref T2] nL), (T2, tupO [.int 1100 v6, .int (-3217) v7, .int 3121 v8] 0), (T1, tupO [.int 5900 v3, .int (-2773) v4, .int (-5251) v5] 0), (T0, tupO [.int 3000 v0, .int 5990 v1, .int 2130 v2] 0), (283, parts ps), (RW, lstO [.int r0 t0, .int r1 t1, .int r2 t2, .int r3 t3, .int r4 t4, .int r5 t5] n)]))) (l1 : ∀ p ∈ tl ++ [(LP, W.listOf #[.ref T0, .ref T1, .ref T2] nL), (T2, tupO [.int 1100 v6, .int (-3217) v7, .int 3121 v8] 0), (T1, tupO [.int 5900 v3, .int (-2773) v4, .int (-5251) v5] 0), (T0, tupO [.int 3000 v0, .int 5990 v1, .int 2130 v2] 0), (283, parts ps), (RW, lstO [.int r0 t0, .int r1 t1, .int r2 t2, .int r3 t3, .int r4 t4, .int r5 t5] n)], @LT.lt Nat _ p.1 S) (l2 : S < BK ∧ AllLt BK (tl ++ [(LP, W.listOf #[.ref T0, .ref T1, .ref T2] nL), (T2, tupO [.int 1100 v6, .int (-3217) v7, .int 3121 v8] 0), (T1, tupO [.int 5900 v3, .int (-2773) v4, .int (-5251) v5] 0), (T0, tupO [.int 3000 v0, .int 5990 v1, .int 2130 v2] 0), (283, parts ps), (RW, lstO [.int r0 t0, .int r1 t1, .int r2 t2, .int r3 t3, .int r4 t4, .int r5 t5] n)])) (l3 : BK < DU ∧ S < DU ∧ AllLt DU (tl ++ [(LP, W.listOf #[.ref T0, .ref T1, .ref T2] nL), (T2, tupO [.int 1100 v6, .int (-3217) v7, .int 3121 v8] 0), (T1, tupO [.int 5900 v3, .int (-2773) v4, .int (-5251) v5] 0), (T0, tupO [.int 3000 v0, .int 5990 v1, .int 2130 v2] 0), (283, parts ps), (RW, lstO [.int r0 t0, .int r1 t1, .int r2 t2, .int r3 t3, .int r4 t4, .int r5 t5] n)])) (ne : ∀ p ∈ tl, ∀ q ∈ ([(LP, W.listOf #[.ref T0, .ref T1, .ref T2] nL), (T2, tupO [.int 1100 v6, .int (-3217) v7, .int 3121 v8] 0), (T1, tupO [.int 5900 v3, .int (-2773) v4, .int (-5251) v5] 0), (T0, tupO [.int 3000 v0, .int 5990 v1, .int 2130 v2] 0), (283, parts ps), (RW, lstO [.int r0 t0, .int r1 t1, .int r2 t2, .int r3 t3, .int r4 t4, .int r5 t5] n)] : List (Addr × Obj)), @Ne Nat q.1 p.1) (e0 : 283 < T0 ∧ RW < T0) (e1 : T0 < T1 ∧ 283 < T1 ∧ RW < T1) (e2 : T1 < T2 ∧ T0 < T2 ∧ 283 < T2 ∧ RW < T2) (e3 : T2 < LP ∧ T1 < LP ∧ T0 < LP ∧ 283 < LP ∧ RW < LP) (rne : @Ne Nat RW 283) (m9 : (D, W.listOf #[.ref a0, .ref a1, .ref a2, .ref a3, .ref a4, .ref a5, .ref a6] kx) ∈ tl) (y0 : LightsAt [r0, r1, r2, r3, r4, r5] tl 0 a0) (y1 : LightsAt [r0, r1, r2, r3, r4, r5] tl 1 a1) (y2 : LightsAt [r0, r1, r2, r3, r4, r5] tl 2 a2) (y3 : LightsAt [r0, r1, r2, r3, r4, r5] tl 3 a3) (y4 : LightsAt [r0, r1, r2, r3, r4, r5] tl 4 a4) (y5 : LightsAt [r0, r1, r2, r3, r4, r5] tl 5 a5) (y6 : LightsAt [r0, r1, r2, r3, r4, r5] tl 6 a6) (k : ∀ (a T : Nat → Addr) (fz : List (Addr × Obj)) (RW' LP' LI' S' BK' DU' : Addr), RW' = RW → LP' = LP → LI' = D → S' = S → BK' = BK → DU' = DU → News g L h ((283, parts ps) :: (S', lstO [] 0) :: (DU', oD) :: fz) → (BK', oB) ∈ fz → Fz [r0, r1, r2, r3, r4, r5] RW' LP' LI' a T (lstO [.int r0 t0, .int r1 t1, .int r2 t2, .int r3 t3, .int r4 t4, .int r5 t5] n) fz → (∀ p ∈ fz, @Ne Nat p.1 283 ∧ @Ne Nat p.1 S' ∧ @Ne Nat p.1 DU') → @Ne Nat S' 283 → @Ne Nat DU' 283 → @Ne Nat DU' S' → P) : P := by
 refine k (fun | 0 => a0 | 1 => a1 | 2 => a2 | 3 => a3 | 4 => a4 | 5 => a5 | _ => a6) (fun | 0 => T0 | 1 => T1 | _ => T2) ((BK, oB) :: tl ++ [(LP, W.listOf #[.ref T0, .ref T1, .ref T2] nL), (T2, tupO [.int 1100 v6, .int (-3217) v7, .int 3121 v8] 0), (T1, tupO [.int 5900 v3, .int (-2773) v4, .int (-5251) v5] 0), (T0, tupO [.int 3000 v0, .int 5990 v1, .int 2130 v2] 0), (RW, lstO [.int r0 t0, .int r1 t1, .int r2 t2, .int r3 t3, .int r4 t4, .int r5 t5] n)]) RW LP D S BK DU rfl rfl rfl rfl rfl rfl (fun p hp => N p ?_) (by simp) ⟨(ix2 [.int r0 t0, .int r1 t1, .int r2 t2, .int r3 t3, .int r4 t4, .int r5 t5] n (ia2 (by simp) (.cons _ _ (.cons _ _ (.cons _ _ (.cons _ _ (.cons _ _ (.cons _ _ .nil)))))) rfl)), ⟨nL, by simp⟩, ?_, ⟨kx, List.mem_append_left _ (List.mem_cons_of_mem _ m9)⟩, ?_⟩ ?_ ?_ ?_ ?_
 ·revert p; (try dsimp only [List.cons_append, List.nil_append]); repeat' with_reducible first | exact sbn | exact sbr | exact sbl | exact sbq | refine sbc ?_ ?_ | refine sba ?_ ?_ | exact mmh | assumption | refine mmt ?_ | refine mmr ?_ | refine sbt ?_ | refine sbp ?_
 ·intro i hi
  rcases (show i = 0 ∨ i = 1 ∨ i = 2 by grind) with rfl | rfl | rfl
  ·exact (ix2 [.int 3000 v0, .int 5990 v1, .int 2130 v2] 0 ⟨by simp, .cons _ _ (.cons _ _ (.cons _ _ .nil))⟩)
  ·exact (ix2 [.int 5900 v3, .int (-2773) v4, .int (-5251) v5] 0 ⟨by simp, .cons _ _ (.cons _ _ (.cons _ _ .nil))⟩)
  ·exact (ix2 [.int 1100 v6, .int (-3217) v7, .int 3121 v8] 0 ⟨by simp, .cons _ _ (.cons _ _ (.cons _ _ .nil))⟩)
 ·intro e he
  have sub : ∀ p ∈ tl, p ∈ ((BK, oB) :: tl ++ [(LP, W.listOf #[.ref T0, .ref T1, .ref T2] nL), (T2, tupO [.int 1100 v6, .int (-3217) v7, .int 3121 v8] 0), (T1, tupO [.int 5900 v3, .int (-2773) v4, .int (-5251) v5] 0), (T0, tupO [.int 3000 v0, .int 5990 v1, .int 2130 v2] 0), (RW, lstO [.int r0 t0, .int r1 t1, .int r2 t2, .int r3 t3, .int r4 t4, .int r5 t5] n)] : List (Addr × Obj)) := fun p hp => List.mem_cons_of_mem _ (List.mem_append_left _ hp)
  rcases (show e = 0 ∨ e = 1 ∨ e = 2 ∨ e = 3 ∨ e = 4 ∨ e = 5 ∨ e = 6 by grind) with rfl | rfl | rfl | rfl | rfl | rfl | rfl
  ·exact y0.mono sub
  ·exact y1.mono sub
  ·exact y2.mono sub
  ·exact y3.mono sub
  ·exact y4.mono sub
  ·exact y5.mono sub
  ·exact y6.mono sub
 ·have l2' : ∀ p ∈ (BK, oB) :: tl ++ [(LP, W.listOf #[.ref T0, .ref T1, .ref T2] nL), (T2, tupO [.int 1100 v6, .int (-3217) v7, .int 3121 v8] 0), (T1, tupO [.int 5900 v3, .int (-2773) v4, .int (-5251) v5] 0), (T0, tupO [.int 3000 v0, .int 5990 v1, .int 2130 v2] 0), (RW, lstO [.int r0 t0, .int r1 t1, .int r2 t2, .int r3 t3, .int r4 t4, .int r5 t5] n)], p = (BK, oB) ∨ (@LT.lt Nat _ p.1 S ∧ @Ne Nat p.1 283) := by
   have q : ∀ x ∈ tl, @Ne Nat x.1 283 := fun x hx => (ne x hx (283, parts ps) (by repeat' with_reducible first | exact mmh | assumption | refine mmt ?_ | refine mmr ?_)).symm
   dsimp only [List.cons_append, List.nil_append]
   refine List.forall_mem_cons.mpr ⟨.inl rfl, List.forall_mem_append.mpr ⟨fun p h => .inr ⟨l1 p (List.mem_append_left _ h), q p h⟩, ?_⟩⟩
   refine List.forall_mem_cons.mpr ⟨.inr ⟨l1 _ (by repeat' with_reducible first | exact mmh | assumption | refine mmt ?_ | refine mmr ?_), Nat.ne_of_gt e3.2.2.2.1⟩, List.forall_mem_cons.mpr ⟨.inr ⟨l1 _ (by repeat' with_reducible first | exact mmh | assumption | refine mmt ?_ | refine mmr ?_), Nat.ne_of_gt e2.2.2.1⟩, List.forall_mem_cons.mpr ⟨.inr ⟨l1 _ (by repeat' with_reducible first | exact mmh | assumption | refine mmt ?_ | refine mmr ?_), Nat.ne_of_gt e1.2.1⟩, List.forall_mem_cons.mpr ⟨.inr ⟨l1 _ (by repeat' with_reducible first | exact mmh | assumption | refine mmt ?_ | refine mmr ?_), Nat.ne_of_gt e0.1⟩, List.forall_mem_cons.mpr ⟨.inr ⟨l1 _ (by repeat' with_reducible first | exact mmh | assumption | refine mmt ?_ | refine mmr ?_), rne⟩, fun _ h => nomatch h⟩⟩⟩⟩⟩
  refine hdG ?_; intro Xh hXh
  obtain ⟨c1, -⟩ := l2
  refine an2 l3 ?_
  try clear l3
  rintro d1 d2 -
  refine hXh ?_; clear hXh
  have s3 := l1 (283, parts ps) (by repeat' with_reducible first | exact mmh | assumption | refine mmt ?_ | refine mmr ?_)
  dsimp only at s3
  intro p hp
  rcases l2' p hp with rfl | ⟨h1, h2⟩
  ·exact (ia2 (Nat.ne_of_gt (Nat.lt_trans s3 c1)) (Nat.ne_of_gt c1) (Nat.ne_of_lt d1))
  ·exact (ia2 h2 (Nat.ne_of_lt h1) (Nat.ne_of_lt (Nat.lt_trans h1 d2)))
 ·exact Nat.ne_of_gt (l1 (283, parts ps) (by repeat' with_reducible first | exact mmh | assumption | refine mmt ?_ | refine mmr ?_))
 ·exact Nat.ne_of_gt (Nat.lt_trans (l1 (283, parts ps) (by simp)) l3.2.1)
 ·exact Nat.ne_of_gt l3.2.1
end E_stage
theorem stage {P : Prop} {g h : Heap} {L RW LP D a0 a1 a2 a3 a4 a5 a6 T0 T1 T2 S BK DU : Addr} {oD oB : Obj} {tl : List (Addr × Obj)} {ps : Array Value} {r0 r1 r2 r3 r4 r5 : Int} {t0 t1 t2 t3 t4 t5 : Tok} {v0 v1 v2 v3 v4 v5 v6 v7 v8 : Tok} {n nL kx : Nat} (N : News g L h ((DU, oD) :: (BK, oB) :: (S, W.listOf #[] 0) :: (tl ++ [(LP, W.listOf #[.ref T0, .ref T1, .ref T2] nL), (T2, tupO [.int 1100 v6, .int (-3217) v7, .int 3121 v8] 0), (T1, tupO [.int 5900 v3, .int (-2773) v4, .int (-5251) v5] 0), (T0, tupO [.int 3000 v0, .int 5990 v1, .int 2130 v2] 0), (283, parts ps), (RW, lstO [.int r0 t0, .int r1 t1, .int r2 t2, .int r3 t3, .int r4 t4, .int r5 t5] n)]))) (l1 : ∀ p ∈ tl ++ [(LP, W.listOf #[.ref T0, .ref T1, .ref T2] nL), (T2, tupO [.int 1100 v6, .int (-3217) v7, .int 3121 v8] 0), (T1, tupO [.int 5900 v3, .int (-2773) v4, .int (-5251) v5] 0), (T0, tupO [.int 3000 v0, .int 5990 v1, .int 2130 v2] 0), (283, parts ps), (RW, lstO [.int r0 t0, .int r1 t1, .int r2 t2, .int r3 t3, .int r4 t4, .int r5 t5] n)], @LT.lt Nat _ p.1 S) (l2 : S < BK ∧ AllLt BK (tl ++ [(LP, W.listOf #[.ref T0, .ref T1, .ref T2] nL), (T2, tupO [.int 1100 v6, .int (-3217) v7, .int 3121 v8] 0), (T1, tupO [.int 5900 v3, .int (-2773) v4, .int (-5251) v5] 0), (T0, tupO [.int 3000 v0, .int 5990 v1, .int 2130 v2] 0), (283, parts ps), (RW, lstO [.int r0 t0, .int r1 t1, .int r2 t2, .int r3 t3, .int r4 t4, .int r5 t5] n)])) (l3 : BK < DU ∧ S < DU ∧ AllLt DU (tl ++ [(LP, W.listOf #[.ref T0, .ref T1, .ref T2] nL), (T2, tupO [.int 1100 v6, .int (-3217) v7, .int 3121 v8] 0), (T1, tupO [.int 5900 v3, .int (-2773) v4, .int (-5251) v5] 0), (T0, tupO [.int 3000 v0, .int 5990 v1, .int 2130 v2] 0), (283, parts ps), (RW, lstO [.int r0 t0, .int r1 t1, .int r2 t2, .int r3 t3, .int r4 t4, .int r5 t5] n)])) (ne : ∀ p ∈ tl, ∀ q ∈ ([(LP, W.listOf #[.ref T0, .ref T1, .ref T2] nL), (T2, tupO [.int 1100 v6, .int (-3217) v7, .int 3121 v8] 0), (T1, tupO [.int 5900 v3, .int (-2773) v4, .int (-5251) v5] 0), (T0, tupO [.int 3000 v0, .int 5990 v1, .int 2130 v2] 0), (283, parts ps), (RW, lstO [.int r0 t0, .int r1 t1, .int r2 t2, .int r3 t3, .int r4 t4, .int r5 t5] n)] : List (Addr × Obj)), @Ne Nat q.1 p.1) (e0 : 283 < T0 ∧ RW < T0) (e1 : T0 < T1 ∧ 283 < T1 ∧ RW < T1) (e2 : T1 < T2 ∧ T0 < T2 ∧ 283 < T2 ∧ RW < T2) (e3 : T2 < LP ∧ T1 < LP ∧ T0 < LP ∧ 283 < LP ∧ RW < LP) (rne : @Ne Nat RW 283) (m9 : (D, W.listOf #[.ref a0, .ref a1, .ref a2, .ref a3, .ref a4, .ref a5, .ref a6] kx) ∈ tl) (y0 : LightsAt [r0, r1, r2, r3, r4, r5] tl 0 a0) (y1 : LightsAt [r0, r1, r2, r3, r4, r5] tl 1 a1) (y2 : LightsAt [r0, r1, r2, r3, r4, r5] tl 2 a2) (y3 : LightsAt [r0, r1, r2, r3, r4, r5] tl 3 a3) (y4 : LightsAt [r0, r1, r2, r3, r4, r5] tl 4 a4) (y5 : LightsAt [r0, r1, r2, r3, r4, r5] tl 5 a5) (y6 : LightsAt [r0, r1, r2, r3, r4, r5] tl 6 a6) (k : ∀ (a T : Nat → Addr) (fz : List (Addr × Obj)) (RW' LP' LI' S' BK' DU' : Addr), RW' = RW → LP' = LP → LI' = D → S' = S → BK' = BK → DU' = DU → News g L h ((283, parts ps) :: (S', lstO [] 0) :: (DU', oD) :: fz) → (BK', oB) ∈ fz → Fz [r0, r1, r2, r3, r4, r5] RW' LP' LI' a T (lstO [.int r0 t0, .int r1 t1, .int r2 t2, .int r3 t3, .int r4 t4, .int r5 t5] n) fz → (∀ p ∈ fz, @Ne Nat p.1 283 ∧ @Ne Nat p.1 S' ∧ @Ne Nat p.1 DU') → @Ne Nat S' 283 → @Ne Nat DU' 283 → @Ne Nat DU' S' → P) : P := bag_all (P := E_stage.theP) (by with_unfolding_all exact @E_stage.core) { bag0 with addr := nth [L, L, L, L, RW, LP, D, a0, a1, a2, a3, a4, a5, a6, T0, T1, T2, S, BK, DU] bag0.addr, arr := nth [ps, ps, ps, ps] bag0.arr, heap := nth [g, g, g, g, h] bag0.heap, int := nth [r0, r0, r0, r0, r1, r2, r3, r4, r5] bag0.int, led := nth [tl, tl, tl, tl] bag0.led, nat := nth [n, n, n, n, nL, kx] bag0.nat, obj := nth [oD, oD, oD, oD, oB] bag0.obj, prop := nth [P, P, P, P] bag0.prop, tok := nth [t0, t0, t0, t0, t1, t2, t3, t4, t5, v0, v1, v2, v3, v4, v5, v6, v7, v8] bag0.tok } N l1 l2 l3 ne e0 e1 e2 e3 rne m9 y0 y1 y2 y3 y4 y5 y6 k
noncomputable def OutJ (w : World) (row : List Int) (RW LP LI S DU : Addr) (a T : Nat → Addr) (oR : Obj) (i : Nat) (m : Str → Option Value) (news : List (Addr × Obj)) (gs : Array GenState) : Prop :=
 AllBare gs ∧ m (Str.ofString "row") = some (.ref RW) ∧ m (Str.ofString "lamps") = some (.ref LP) ∧ m (Str.ofString "lights") = some (.ref LI) ∧ m (Str.ofString "shades") = some (.ref S) ∧ m (Str.ofString "due") = some (.ref DU) ∧ m (Str.ofString "sound") = some (.bool true) ∧
 ∃ (BK : Addr) (ps : Array Value) (vs : List Value) (n : Nat) (oD : Obj) (kvs : List (Int × Value)) (fz : List (Addr × Obj)), m (Str.ofString "book") = some (.ref BK) ∧ news = (283, parts ps) :: (S, lstO vs n) :: (DU, oD) :: fz ∧ TriplesOk ps.toList ∧ IntsAre vs (shadesF row i) ∧
  oD.IsDictOf (intKind PySem.Challenge.rw_wv0062_01.row.prog w) kvs ∧ Rep (TupV fz) kvs (dueF row i) ∧ DictIn w (TupV fz) fz BK (bookF row i) ∧ Fz row RW LP LI a T oR fz ∧ (∀ p ∈ fz, @Ne Nat p.1 283 ∧ @Ne Nat p.1 S ∧ @Ne Nat p.1 DU)
noncomputable def InJ (w : World) (row : List Int) (RW LP LI S DU BK PG itO : Addr) (oiO : Obj) (a T : Nat → Addr) (oR : Obj) (s : Nat) (j : Nat) (m : Str → Option Value) (news : List (Addr × Obj)) (gs : Array GenState) : Prop :=
 AllBare gs ∧ m (Str.ofString "row") = some (.ref RW) ∧ m (Str.ofString "lamps") = some (.ref LP) ∧ m (Str.ofString "lights") = some (.ref LI) ∧ m (Str.ofString "shades") = some (.ref S) ∧ m (Str.ofString "due") = some (.ref DU) ∧ m (Str.ofString "sound") = some (.bool true) ∧
 m (Str.ofString "book") = some (.ref BK) ∧ m (Str.ofString "page") = some (.ref PG) ∧ (∃ t, m (Str.ofString "start") = some (.int s t)) ∧
 ∃ (SM : Addr) (ps : Array Value) (vs : List Value) (n : Nat) (oD oP : Obj) (kvs kvp : List (Int × Value)) (fz : List (Addr × Obj)), m (Str.ofString "sums") = some (.ref SM) ∧ news = (283, parts ps) :: (S, lstO vs n) :: (DU, oD) :: (PG, oP) :: (itO, oiO) :: fz ∧ TriplesOk ps.toList ∧ IntsAre vs (shadesF row s ++ shadesIn row s j) ∧
  oD.IsDictOf (intKind PySem.Challenge.rw_wv0062_01.row.prog w) kvs ∧ Rep (TupV fz) kvs (dueIn row s (dueF row s) j) ∧ oP.IsDictOf (intKind PySem.Challenge.rw_wv0062_01.row.prog w) kvp ∧ Rep (TupV fz) kvp (pageF row s j) ∧ DictIn w (TupV fz) fz BK (bookF row s) ∧ Fz row RW LP LI a T oR fz ∧
  (∃ x y z k, (SM, W.listOf #[.int (sum0 row s (s + j)) x, .int (sum1 row s (s + j)) y, .int (sum2 row s (s + j)) z] k) ∈ fz) ∧ (∀ p ∈ fz, @Ne Nat p.1 283 ∧ @Ne Nat p.1 S ∧ @Ne Nat p.1 DU ∧ @Ne Nat p.1 PG ∧ @Ne Nat p.1 itO)
theorem name_one {P : Prop} {h₀ h : Heap} {L r : Addr} {o : Obj} {l : List (Addr × Obj)} (_N : News h₀ L h ((r, o) :: l)) (k : ∀ R, R = r → P) : P := k r rfl
section
variable {prog : Program} {w : World} {A : Around} {s : Shared} {env : Env} {h₀ : Heap} {m : Str → Option Value} {news : List (Addr × Obj)}
theorem loop_range1 {E : Value → Shared → Prop} {x : Str} {body : List Stmt} {Q : Flow → Shared → Prop} {b : Int} {u : Tok} {n : Nat} (F : Fr h₀ env.locals s.heap m) (N : News h₀ env.locals s.heap news) (hs : Builtin.Range.small 0 b 1 = true) (hn : Builtin.Range.rangeSize 0 b 1 = (n : Int)) (hh : A.handled = none)
  (J : Nat → (Str → Option Value) → List (Addr × Obj) → Array GenState → Prop) (h0 : J 0 m news s.gens)
  (step : ∀ i t' m₁ news₁ h tk gs it oi E', i < n → J i m₁ news₁ gs → (∀ p ∈ news₁, @Ne Nat p.1 it) → Fr h₀ env.locals h (fun y => if y = x then some (.int (0 + (i : Int)) t') else m₁ y) → News h₀ env.locals h ((it, oi) :: news₁) →
   wpAny (model prog w) A (execs body env) (TurnEnd h₀ env.locals [(it, oi)] (J (i + 1)) { s with heap := h, toks := tk, gens := gs }) E' { s with heap := h, toks := tk, gens := gs })
  (done : ∀ h' tk gs m' news', Fr h₀ env.locals h' m' → News h₀ env.locals h' news' → J n m' news' gs → Q .next { s with heap := h', toks := tk, gens := gs }) :
  wpAny (model prog w) A (call (.type "range") [.int b u]) (fun xv s₁ => wpAny (model prog w) A (pyIter xv) (LoopOne prog w A h₀ env x body Q) E s₁) E s :=
 call_range_1 (iter_range (s := { s with heap := s.heap.push _, toks := _ }) (F.push _) (N.pushKeep _) (IsRange.new _ _ _ _ _ _ _) hs hn hh J h0 step done)
theorem loop_range2 {E : Value → Shared → Prop} {x : Str} {body : List Stmt} {Q : Flow → Shared → Prop} {a b : Int} {t u : Tok} {n : Nat} (F : Fr h₀ env.locals s.heap m) (N : News h₀ env.locals s.heap news) (hs : Builtin.Range.small a b 1 = true) (hn : Builtin.Range.rangeSize a b 1 = (n : Int)) (hh : A.handled = none)
  (J : Nat → (Str → Option Value) → List (Addr × Obj) → Array GenState → Prop) (h0 : J 0 m news s.gens)
  (step : ∀ i t' m₁ news₁ h tk gs it oi E', i < n → J i m₁ news₁ gs → (∀ p ∈ news₁, @Ne Nat p.1 it) → Fr h₀ env.locals h (fun y => if y = x then some (.int (a + (i : Int)) t') else m₁ y) → News h₀ env.locals h ((it, oi) :: news₁) →
   wpAny (model prog w) A (execs body env) (TurnEnd h₀ env.locals [(it, oi)] (J (i + 1)) { s with heap := h, toks := tk, gens := gs }) E' { s with heap := h, toks := tk, gens := gs })
  (done : ∀ h' tk gs m' news', Fr h₀ env.locals h' m' → News h₀ env.locals h' news' → J n m' news' gs → Q .next { s with heap := h', toks := tk, gens := gs }) :
  wpAny (model prog w) A (call (.type "range") [.int a t, .int b u]) (fun xv s₁ => wpAny (model prog w) A (pyIter xv) (LoopOne prog w A h₀ env x body Q) E s₁) E s :=
 call_range_2 (iter_range (s := { s with heap := s.heap.push _, toks := _ }) (F.push _) (N.pushKeep _) (IsRange.new _ _ _ _ _ _ _) hs hn hh J h0 step done)
end
section
variable {prog : Program} {w : World} {A : Around} {E : Value → Shared → Prop} {s : Shared} {env : Env} {h₀ : Heap} {L : Addr} {m : Str → Option Value} {news : List (Addr × Obj)}
theorem sub_at {value slice : PySem.Expr} {l : Addr} {items : Array Value} {n : Nat} {k : Int} {t : Tok} {x : Value} {Q : Value → Shared → Prop} (N : News h₀ L s.heap news) (hm : (l, W.listOf items n) ∈ news) (hk : 0 ≤ k ∧ k < 2 ^ 63) (hx : items[k.toNat]? = some x) (h : Q x s)
  (hs : subscripted slice false (.ref l) (.int k t) = operate [.ref l, .int k t] (getItem (.ref l) (.int k t)) := by with_unfolding_all rfl) (ht : ∀ r, letTemporaryGo value (.ref l) r = pure () := by intro _; with_unfolding_all rfl) :
  wpAny (model prog w) A (subscriptTail value slice (.ref l) (.int k t)) Q E s :=
 have hl : s.heap.IsList l items := (⟨_, ia2 ((N _ hm).1) rfl ⟨n, rfl⟩⟩)
 subscriptTail_builtin hl.typeIs slot_list_getitem.lookup (wpAny_getItem_list hl hk.1 hk.2 hx h) hs ht
theorem k0_cons {vs : List Value} {a : Int} {r : List Int} (h : IntsAre vs (a :: r)) : ∃ t us, vs = .int a t :: us ∧ IntsAre us r := by
 cases h with
 | cons _ t h => exact (ix2 t _ ⟨rfl, h⟩)
theorem k0_nil {vs : List Value} (h : IntsAre vs []) : vs = [] := by cases h; rfl
theorem k0_len {q : List Int} {n : Nat} (h : q.length = n + 1) : ∃ a r, q = a :: r ∧ r.length = n := by
 cases q with
 | nil => cases h
 | cons a r => exact (ix2 a r ⟨rfl, Nat.succ.inj h⟩)
theorem k0_four {q : List Int} {vs : List Value} (h : q.length = 4) (i : IntsAre vs q) : ∃ a0 a1 a2 a3 t0 t1 t2 t3, q = [a0, a1, a2, a3] ∧ vs = [.int a0 t0, .int a1 t1, .int a2 t2, .int a3 t3] := by
 refine hdG ?_; intro Xh hXh
 refine ex2 (k0_len h) ?_
 rintro a0 q1 hZ
 obtain ⟨rfl, h1⟩ := hZ
 refine ex2 (k0_len h1) ?_
 rintro a1 q2 hZ
 obtain ⟨rfl, h2⟩ := hZ
 refine ex2 (k0_len h2) ?_
 rintro a2 q3 hZ
 obtain ⟨rfl, h3⟩ := hZ
 refine ex2 (k0_len h3) ?_
 rintro a3 q4 hZ
 obtain ⟨rfl, h4⟩ := hZ
 have hq := List.eq_nil_of_length_eq_zero h4
 subst hq
 refine ex2 (k0_cons i) ?_
 rintro t0 u1 hZ
 obtain ⟨rfl, i1⟩ := hZ
 refine ex2 (k0_cons i1) ?_
 rintro t1 u2 hZ
 obtain ⟨rfl, i2⟩ := hZ
 refine ex2 (k0_cons i2) ?_
 rintro t2 u3 hZ
 obtain ⟨rfl, i3⟩ := hZ
 refine ex2 (k0_cons i3) ?_
 rintro t3 u4 hZ
 obtain ⟨rfl, i4⟩ := hZ
 refine hXh ?_; clear hXh
 rw [k0_nil i4]
 exact (ix6 _ _ _ _ _ _ (ix2 _ _ ⟨rfl, rfl⟩))
theorem get2T {d D0 : Addr} {o : Obj} {kvs : List (Int × Value)} {dd : List (Int × List Int)} {fz : List (Addr × Obj)} {k : Int} {t : Tok} {vs0 : List Value} {n0 : Nat} {z : List Int} {Q : Value → Shared → Prop} (N : News h₀ L s.heap news) (hp : (d, o) ∈ news) (hd : o.IsDictOf (intKind prog w) kvs) (lo : (d == sysModules) = false) (hr : Rep (TupV fz) kvs dd)
  (h0 : (D0, tupO vs0 n0) ∈ news) (i0 : IntsAre vs0 z) (l0 : z.length = 4) (hz : ∀ p ∈ fz, p ∈ news)
  (h : ∀ a a0 a1 a2 a3 t0 t1 t2 t3 n, (a, tupO [.int a0 t0, .int a1 t1, .int a2 t2, .int a3 t3] n) ∈ news → (dLook dd k).getD z = [a0, a1, a2, a3] → Q (.ref a) { s with toks := s.toks + 1 }) : wpAny (model prog w) A (call (.builtin "dict.get") [.ref d, .int k t, .ref D0]) Q E s := by
 refine kdg_get2 N hp hd lo (intKind_is _ _ _ _) (valueAt kvs k) rfl ?_
 have fin : ∀ a vs n q, (a, tupO vs n) ∈ news → IntsAre vs q → q.length = 4 → (dLook dd k).getD z = q → Q (.ref a) { s with toks := s.toks + 1 } := by
  intro a vs n q hm hi hl e
  refine hdG ?_; intro Xh hXh
  refine ex6 (k0_four hl hi) ?_
  rintro a0 a1 a2 a3 t0 t1 hZ
  refine ex2 hZ ?_
  clear hZ
  rintro t2 t3 hZ
  obtain ⟨rfl, rfl⟩ := hZ
  refine hXh ?_; clear hXh
  exact h a a0 a1 a2 a3 t0 t1 t2 t3 n hm e
 rcases hr.look k with ⟨e1, e2⟩ | ⟨v, x, e1, e2, a, vs, n, rfl, hm, hi, hl⟩
 ·rw [e1]; exact fin D0 vs0 n0 z h0 i0 l0 (by rw [e2]; rfl)
 ·rw [e1]; exact fin a vs n x (hz _ hm) hi hl (by rw [e2]; rfl)
theorem zip_sub {elt : PySem.Expr} {x y : Str} {scope : Scope} {cl : List (Str × Addr)} {l1 l2 : Addr} {x0 x1 x2 y0 y1 y2 : Value} {k k' a0 a1 a2 b0 b1 b2 : Nat} {Q : Value → Shared → Prop}
  (F : Fr h₀ L s.heap m) (N : News h₀ L s.heap news) (hl1 : s.heap.IsList l1 #[x0, x1, x2]) (hl2 : s.heap.IsList l2 #[y0, y1, y2]) (hh : A.handled = none)
  (p0 : NC k x0 a0) (p1 : NC k x1 a1) (p2 : NC k x2 a2) (q0 : NC k' y0 b0) (q1 : NC k' y1 b1) (q2 : NC k' y2 b2) (c0 : a0 ≤ b0) (c1 : a1 ≤ b1) (c2 : a2 ≤ b2)
  (hE : ∀ v0 v1 a b C oC h tk m₂ (Q' E' : Value → Shared → Prop), NC k v0 a → NC k' v1 b → a ≤ b → LCg.NsObj oC m₂ → m₂ x = some v0 → m₂ y = some v1 → Fr h₀ L h m → News h₀ L h ((C, oC) :: news) → LCg.Off1 C news →
   EltRet (fun r => NC 6 r (b - a)) h s Q' → wpAny (model prog w) A (eval elt (compEnvC scope cl C env)) Q' E' { s with heap := h, toks := tk })
  (hQ : ∀ D h tk r0 r1 r2, Fr h₀ L h m → News h₀ L h ((D, W.listOf #[r0, r1, r2] 3) :: news) → (∀ p ∈ news, @Ne Nat p.1 D) → NC 6 r0 (b0 - a0) → NC 6 r1 (b1 - a1) → NC 6 r2 (b2 - a2) → Q (.ref D) { s with heap := h, toks := tk }) :
  wpAny (model prog w) A (call (.type "zip") [.ref l1, .ref l2]) (Two prog w A elt x y scope cl env 3 Q) E s :=
 zip_three (P1 := NC k) (P2 := NC k') (fun r a b => NC 6 r (b - a)) F N hl1 hl2 hh p0 p1 p2 q0 q1 q2 (fun v0 v1 a b C oC h tk m₂ Q' E' pa pb o nC hx hy F' N' off ret => hE v0 v1 a b C oC h tk m₂ Q' E' pa pb (by rcases o with ⟨rfl, rfl⟩ | ⟨rfl, rfl⟩ | ⟨rfl, rfl⟩ <;> assumption) nC hx hy F' N' off ret) fun D h tk r0 r1 r2 F' N' off _ c0 c1 c2 => hQ D h tk r0 r1 r2 F' N' (fun p hp => off_get off (by exact hp)) c0 c1 c2
end
theorem stage2 {P : Prop} {g h : Heap} {L SM PG itO S DU : Addr} {oP oiO oS oD : Obj} {ps : Array Value} {t0 t1 t2 : Tok} {n : Nat} {fz : List (Addr × Obj)} (N : News g L h ((SM, W.listOf #[.int 0 t0, .int 0 t1, .int 0 t2] n) :: (PG, oP) :: (itO, oiO) :: (283, parts ps) :: (S, oS) :: (DU, oD) :: fz)) (l1 : itO < PG ∧ 283 < PG ∧ S < PG ∧ DU < PG ∧ AllLt PG fz) (l2 : PG < SM ∧ itO < SM ∧ 283 < SM ∧ S < SM ∧ DU < SM ∧ AllLt SM fz) (off : ∀ p ∈ fz, @Ne Nat p.1 283 ∧ @Ne Nat p.1 S ∧ @Ne Nat p.1 DU) (hoff : ∀ p ∈ ((283, parts ps) :: (S, oS) :: (DU, oD) :: fz : List (Addr × Obj)), @Ne Nat p.1 itO) (k : ∀ SM' PG' fz', SM' = SM → PG' = PG → News g L h ((283, parts ps) :: (S, oS) :: (DU, oD) :: (PG', oP) :: (itO, oiO) :: fz') → (SM', W.listOf #[.int 0 t0, .int 0 t1, .int 0 t2] n) ∈ fz' → (∀ p ∈ fz, p ∈ fz') → (∀ p ∈ fz', @Ne Nat p.1 283 ∧ @Ne Nat p.1 S ∧ @Ne Nat p.1 DU ∧ @Ne Nat p.1 PG' ∧ @Ne Nat p.1 itO) → @Ne Nat 283 PG' → @Ne Nat S PG' → @Ne Nat DU PG' → @Ne Nat itO PG' → @Ne Nat 283 itO → @Ne Nat S itO → @Ne Nat DU itO → P) : P := by
 simp only [List.forall_mem_cons] at hoff
 refine hdG ?_; intro Xh hXh
 refine an3 hoff ?_
 try clear hoff
 rintro o1 o2 o3 o4
 refine an4 l1 ?_
 try clear l1
 rintro a1 a2 a3 a4 a5
 refine an5 l2 ?_
 try clear l2
 rintro b1 b2 b3 b4 b5 b6
 refine hXh ?_; clear hXh
 refine k SM PG ((SM, W.listOf #[.int 0 t0, .int 0 t1, .int 0 t2] n) :: fz) rfl rfl (fun p hp => N p ?_) (.head _) (fun p hp => .tail _ hp) (fun p hp => ?_) (Nat.ne_of_lt a2) (Nat.ne_of_lt a3) (Nat.ne_of_lt a4) (Nat.ne_of_lt a1) o1 o2 o3
 ·revert p; (try dsimp only [List.cons_append, List.nil_append]); repeat' with_reducible first | exact sbn | exact sbr | exact sbl | exact sbq | refine sbc ?_ ?_ | refine sba ?_ ?_ | exact mmh | assumption | refine mmt ?_ | refine mmr ?_ | refine sbt ?_ | refine sbp ?_
 ·rcases List.mem_cons.mp hp with rfl | hp
  ·exact (ia4 (Nat.ne_of_gt b3) (Nat.ne_of_gt b4) (Nat.ne_of_gt b5) (Nat.ne_of_gt b1) (Nat.ne_of_gt b2))
  ·exact (ia4 ((off p hp).1) ((off p hp).2.1) ((off p hp).2.2) (Nat.ne_of_lt (allLt_mem a5 hp)) (o4 p hp))
theorem news_more {h₀ h : Heap} {L : Addr} {p0 p1 p2 p3 p4 p5 q0 q1 q2 q3 q4 q5 q6 : Addr × Obj} {fz : List (Addr × Obj)} (N : News h₀ L h (p0 :: p1 :: p2 :: p3 :: p4 :: p5 :: fz)) (m0 : q0 ∈ fz) (m1 : q1 ∈ fz) (m2 : q2 ∈ fz) (m3 : q3 ∈ fz) (m4 : q4 ∈ fz) (m5 : q5 ∈ fz) (m6 : q6 ∈ fz) :
  News h₀ L h (p0 :: p1 :: p2 :: p3 :: p4 :: p5 :: q0 :: q1 :: q2 :: q3 :: q4 :: q5 :: q6 :: fz) := fun p hp => N p (by
 revert p; (try dsimp only [List.cons_append, List.nil_append]); repeat' with_reducible first | exact sbn | exact sbr | exact sbl | exact sbq | refine sbc ?_ ?_ | refine sba ?_ ?_ | exact mmh | assumption | refine mmt ?_ | refine mmr ?_ | refine sbt ?_ | refine sbp ?_)
theorem news_tup {h₀ h : Heap} {L a : Addr} {vs : List Value} {n : Nat} {news : List (Addr × Obj)} (N : News h₀ L h news) (hm : (a, tupO vs n) ∈ news) : h.IsTuple a vs.toArray := (⟨_, ia2 ((N _ hm).1) rfl ⟨n, rfl⟩⟩)
theorem ints_at {vs : List Value} {ns : List Int} (h : IntsAre vs ns) {i : Nat} {x : Int} (e : ns[i]? = some x) : ∃ t, vs.toArray[i]? = some (.int x t) := by
 rw [List.getElem?_toArray]
 induction h generalizing i with
 | nil => simp at e
 | cons k t h ih =>
  match i with
  | 0 => simp at e; exact ⟨t, by simp [e]⟩
  | i + 1 => simp at e ⊢; exact ih e
theorem get_getD {l : List Int} {i : Nat} (h : i < l.length) : l[i]? = some (l.getD i 0) := by
 rw [List.getD_eq_getElem?_getD, List.getElem?_eq_getElem h]; rfl
end Mine
end
section
theorem Mine.clearW7 : True := by
 k_with_none
 trivial
open PySem PySem.W PyProof.Rows PySem.Calls
set_option Elab.async false
set_option maxRecDepth 100000
namespace Mine
theorem sub_neg {prog : Program} {w : World} {A : Around} {E : Value → Shared → Prop} {s : Shared} {h₀ : Heap} {L l : Addr} {news : List (Addr × Obj)} {value slice : PySem.Expr} {its : Array Value} {n e : Nat} {k : Int} {t : Tok} {x : Value} {Q : Value → Shared → Prop} (N : News h₀ L s.heap news) (hm : (l, W.listOf its n) ∈ news) (hz : its.size = e + 1) (hx : its[e]? = some x) (hk : k = -1) (h : Q x s)
  (hs : subscripted slice false (.ref l) (.int k t) = operate [.ref l, .int k t] (getItem (.ref l) (.int k t))) (ht : ∀ r, letTemporaryGo value (.ref l) r = pure ()) :
  wpAny (model prog w) A (subscriptTail value slice (.ref l) (.int k t)) Q E s := by
 subst hk
 have hl : s.heap.IsList l its := (⟨_, ia2 ((N _ hm).1) rfl ⟨n, rfl⟩⟩)
 refine subscriptTail_builtin hl.typeIs slot_list_getitem.lookup (wpAny_getItem_list_neg hl (by decide) (by rw [hz]; omega) (by decide) ?_ h) hs ht
 rw [hz, show ((-1 : Int) + ((e + 1 : Nat) : Int)).toNat = e by omega]
 exact hx
theorem append_F {prog : Program} {w : World} {A : Around} {E : Value → Shared → Prop} {s : Shared} {h₀ : Heap} {L D : Addr} {m : Str → Option Value} {news : List (Addr × Obj)} {its : Array Value} {n e : Nat} {x : Value} {g : Obj → List (Addr × Obj)} {Q : Value → Shared → Prop} (F : Fr h₀ L s.heap m) (N : News h₀ L s.heap news) (U : UpdF D (W.listOf its n) news g) (hz : its.size = e + 1) (he : e < 6)
  (h : ∀ h', Fr h₀ L h' m → News h₀ L h' (g (W.listOf (its.push x) (n + 1))) → Q .none { s with heap := h' }) : wpAny (model prog w) A (call (.builtin "list.append") [.ref D, x]) Q E s := by
 refine ex2 U.split ?_
 rintro pre post hZ
 refine an3 hZ ?_
 rintro rfl hg a b
 have z := N (D, W.listOf its n) (List.mem_append.mpr (.inr (.head _)))
 refine append_at (hsz := by rw [sizeLine_eq]; omega) z.1 fun h' hs ho' => h h' (F.change hs z.2.1 z.2.2) ?_
 rw [hg]
 exact news_set N a b hs ho'
theorem ListRest.sub {prog : Program} {w : World} {A : Around} {E : Value → Shared → Prop} {h₀ : Heap} {env : Env} {x : Str} {body : List Stmt} {Q : Flow → Shared → Prop} {s : Shared} {I : Addr} {lp : Addr × Obj} {vs : List Value} {m : Str → Option Value} {n n' : List (Addr × Obj)} (k : ∀ p ∈ n', p ∈ n) (h : ListRest prog w A E h₀ env x body Q s I lp vs m n') : ListRest prog w A E h₀ env x body Q s I lp vs m n := by
 cases vs with
 | nil => exact fun h1 tk F N => h h1 tk F fun p hp => N p (k p hp)
 | cons v r => exact fun it h1 tk hi F N => h it h1 tk hi F fun p hp => N p (List.mem_cons.mpr ((List.mem_cons.mp hp).imp id (k p)))
theorem rest6 {prog : Program} {w : World} {A : Around} {E : Value → Shared → Prop} {h₀ : Heap} {env : Env} {x : Str} {body : List Stmt} {Q : Flow → Shared → Prop} {s : Shared} {I : Addr} {lp : Addr × Obj} {m : Str → Option Value} {n : List (Addr × Obj)} {v0 v1 v2 v3 v4 v5 : Value} (St : Nat → (Str → Option Value) → List (Addr × Obj) → Prop) (P : Nat → Value → Prop) (h0 : St 0 m n) (p0 : P 0 v0) (p1 : P 1 v1) (p2 : P 2 v2) (p3 : P 3 v3) (p4 : P 4 v4) (p5 : P 5 v5)
  (fin : ∀ m n, St 6 m n → ListRest prog w A E h₀ env x body Q s I lp [] m n)
  (turn : ∀ e v r m n, P e v → St e m n → (∀ m' n', St (e + 1) m' n' → ListRest prog w A E h₀ env x body Q s I lp r m' n') → ListRest prog w A E h₀ env x body Q s I lp (v :: r) m n) : ListRest prog w A E h₀ env x body Q s I lp [v0, v1, v2, v3, v4, v5] m n :=
 turn _ _ _ _ _ p0 h0 fun _ _ h => turn _ _ _ _ _ p1 h fun _ _ h => turn _ _ _ _ _ p2 h fun _ _ h => turn _ _ _ _ _ p3 h fun _ _ h => turn _ _ _ _ _ p4 h fun _ _ h => turn _ _ _ _ _ p5 h fin
theorem nm2 {P : Prop} {g h : Heap} {L D a : Addr} {oD oa : Obj} {r : List (Addr × Obj)} (_N : News g L h ((D, oD) :: (a, oa) :: r)) (k : ∀ X Y, X = D → Y = a → P) : P := k D a rfl rfl
noncomputable def LtJ (row : List Int) (l : Addr) (lo : Obj) (D I : Addr) (e : Nat) (m : Str → Option Value) (news : List (Addr × Obj)) : Prop :=
 m (Str.ofString "lights") = some (.ref D) ∧ ∃ its n tl, news = (D, W.listOf its n) :: (l, lo) :: tl ∧ its.size = e + 1 ∧ (∀ i, i ≤ e → ∃ a, its[i]? = some (.ref a) ∧ LightsAt row tl i a) ∧ (∀ p ∈ tl, @Ne Nat p.1 D ∧ @Ne Nat p.1 I ∧ @Ne Nat p.1 l)
theorem nmI {prog : Program} {w : World} {A : Around} {E : Value → Shared → Prop} {h₀ : Heap} {env : Env} {x : Str} {body : List Stmt} {Q : Flow → Shared → Prop} {s : Shared} {I : Addr} {lp : Addr × Obj} {vs : List Value} {m : Str → Option Value} {n : List (Addr × Obj)} (k : ∀ J, J = I → ListRest prog w A E h₀ env x body Q s J lp vs m n) : ListRest prog w A E h₀ env x body Q s I lp vs m n := k I rfl
theorem LightsAt.up {row : List Int} {tl tl' : List (Addr × Obj)} {e : Nat} {a : Addr} (h : LightsAt row tl e a) (k : ∀ p ∈ tl, p ∈ tl') : LightsAt row tl' e a := ex4 h fun x y z n q => ix4 x y z n ⟨k _ q.1, q.2⟩
theorem seven {a0 a1 a2 a3 a4 a5 a6 : Value} : ∀ l : List Value, l.length = 7 → l[0]? = some a0 → l[1]? = some a1 → l[2]? = some a2 → l[3]? = some a3 → l[4]? = some a4 → l[5]? = some a5 → l[6]? = some a6 → l = [a0, a1, a2, a3, a4, a5, a6] :=
 lnC fun x0 => lnC fun x1 => lnC fun x2 => lnC fun x3 => lnC fun x4 => lnC fun x5 => lnC fun x6 => ln0 fun h0 h1 h2 h3 h4 h5 h6 => by
  rw [show x0 = a0 from Option.some.inj h0, show x1 = a1 from Option.some.inj h1, show x2 = a2 from Option.some.inj h2, show x3 = a3 from Option.some.inj h3, show x4 = a4 from Option.some.inj h4, show x5 = a5 from Option.some.inj h5, show x6 = a6 from Option.some.inj h6]
theorem sevenA {its : Array Value} {a0 a1 a2 a3 a4 a5 a6 : Value} (hz : its.size = 7) (h0 : its[0]? = some a0) (h1 : its[1]? = some a1) (h2 : its[2]? = some a2) (h3 : its[3]? = some a3) (h4 : its[4]? = some a4) (h5 : its[5]? = some a5) (h6 : its[6]? = some a6) : its = #[a0, a1, a2, a3, a4, a5, a6] := by
 cases its with
 | mk l => exact congrArg Array.mk (seven l hz (by simpa using h0) (by simpa using h1) (by simpa using h2) (by simpa using h3) (by simpa using h4) (by simpa using h5) (by simpa using h6))
theorem push_at {its : Array Value} {e i : Nat} {v : Value} (hz : its.size = e + 1) (hi : i ≤ e) : (its.push v)[i]? = its[i]? := by rw [Array.getElem?_push, if_neg (by omega)]
theorem push_end {its : Array Value} {e : Nat} {v : Value} (hz : its.size = e + 1) : (its.push v)[e + 1]? = some v := by rw [Array.getElem?_push, if_pos (by omega)]
theorem rowsW7a : True := by
 k_with_none
 (k_with "mine lt" => with_reducible first | assumption | exact cj0 ‹_› | exact cj1 ‹_› | exact cj2 ‹_› | exact cj3 ‹_› | exact cj4 ‹_› | exact cj5 ‹_› | exact cj6 ‹_› | exact cj7 ‹_› | exact cj8 ‹_› | exact cj9 ‹_› | exact cj10 ‹_› | exact cj11 ‹_› | exact cj12 ‹_› | exact cj13 ‹_› | exact cj14 ‹_› | exact cj15 ‹_› | exact dk1 ‹_› | exact dk2 ‹_› | exact dk3 ‹_› | exact dk4 ‹_› | exact dk5 ‹_› | exact dk6 ‹_› | exact dk7 ‹_› | exact dk8 ‹_› | exact dk9 ‹_› | exact dk10 ‹_› | exact dk11 ‹_› | exact dk12 ‹_› | exact dk13 ‹_› | exact dk14 ‹_› | exact dk15 ‹_›)
 (k_with "mine k_ne" => (refine neN ?_; (try dsimp only); first | with_reducible assumption | exact Ne.symm (by with_reducible assumption) | exact Nat.ne_of_lt (by k_extra "mine lt") | exact Nat.ne_of_gt (by k_extra "mine lt") | omega | exact off_get (by assumption) (by k_mem) | exact Ne.symm (off_get (by assumption) (by k_mem))))
 (k_with "mine setItem ref int" => (k_here; (refine' nc_set (by k_asm) (by k_asm) (by k_updF) (by assumption) (by assumption) ?_); intro h'xq xxq yxq zxq F'xq N'xq nxxq nyxq nzxq; (try dsimp only at N'xq); (try k_sweep)))
 (k_with "mine cell_enter" => (refine' code_defR (by exact rfl) (by exact rfl) (by assumption) (by k_asm) (by k_asm) (by k_asm) (by k_asm) (by k_asm) (by k_is) (by k_is) (by ktr_room) (by exact BindsTo.of_eq rfl) (by exact locs rfl) ?_ (by exact rfl) (by exact rfl) (by exact rfl) (by decide); k_whole; intro g'xq L'xq h'xq tkEq FG'xq F'xq N'xq B'xq X'xq T'xq GS'xq; (try dsimp only); (try k_lift B'xq); (try k_fold)))
 (k_with "mine call ref" => (k_here; (with_reducible show wpAny _ _ (call (Value.ref 260) _) _ _ _); (refine' funA_use (add_nc _ _ _ (by assumption) (by assumption) (by omega)) (by k_asm) (by k_asm) (by k_asm) (by k_asm) (by k_asm) (by first | exact rfl | assumption) (by ktr_room) (by ktr_units) (by exact fun _ hxq => nomatch hxq) ?_); intro rvxq tl9xq h9xq tk9xq F9xq N9xq kp9xq ne9xq rnxq; obtain ⟨e9xq, rnxq⟩ := rnxq; subst e9xq; (try simp only [List.nil_append] at N9xq); (try clear ne9xq)))
 (k_with "mine call ref" => (k_here; (with_reducible show wpAny _ _ (call (Value.ref 281) _) _ _ _); (refine' funA_use (div_18 _ _ _ _ _) (by k_asm) (by k_asm) (by k_asm) (by k_asm) (by k_asm) (by first | exact rfl | assumption) (by ktr_room) (by ktr_units) (by exact fun _ hxq => nomatch hxq) ?_); intro rvxq tl9xq h9xq tk9xq F9xq N9xq kp9xq ne9xq rnxq; obtain ⟨e9xq, rnxq⟩ := rnxq; subst e9xq; (try simp only [List.nil_append] at N9xq); (try clear ne9xq)))
 (k_with "mine eval ListComp" => (k_here; k_dflt (refine comp_two (n := 3) (Nat.le_of_ble_eq_true rfl) (by rfl) (by with_unfolding_all rfl) (by decide) (by rfl) (by decide) (by rfl) (by rfl) (by decide) ?_)))
 (k_with "mine call type:zip" => (k_here; k_dflt (refine zip_add (by k_asm) (by k_asm) (News.isList (by k_asm) (by k_mem)) (News.isList (by k_asm) (by k_mem)) (by rfl) (by first | assumption | exact nc00) (by first | assumption | exact nc00) (by first | assumption | exact nc00) (by assumption) (by assumption) (by assumption) (fun v0xq v1xq naxq nbxq C'xq oC'xq h'xq tk'xq m'xq Q'xq E'xq hv0xq hv1xq nCxq hxxq hyxq F'xq N'xq off'xq ret'xq => ?_) (fun D'xq h'xq tk'xq r0xq r1xq r2xq F'xq N'xq off'xq n0xq n1xq n2xq => ?_)); (all_goals (try k_sweep))))
 (k_with "mine call builtin:list.append" => (k_here; k_dflt (refine' append_F (by k_asm) (by k_asm) (by k_updF) (by assumption) (by assumption) ?_); intro h'xq F'xq N'xq; (try dsimp only at N'xq); (try k_sweep)))
 (k_with "mine subscriptTail" => (k_here; k_dflt (refine' sub_neg (by k_asm) (by k_mem) (by assumption) (by assumption) (by exact rfl) ?_ (by with_unfolding_all rfl) (by intro _; with_unfolding_all rfl))))
 (k_with "mine ListRest" => (refine stopAt ?_))
 (k_with "mine UnrEnd" => (refine stopAt ?_))
 (k_with "mine k_all" => (first | assumption | exact fun p hp => Nat.ne_of_lt (allLt_mem (by k_extra "mine lt") hp) | (refine List.forall_mem_cons.mpr (And.intro ?_ ?_); (focus k_ne); k_all)))
 trivial
namespace E_lights
noncomputable def theP (zC : Bag) : Prop :=
 let w := zC.w 3; let mg := zC.fr 3; let mb := zC.fr 4; let l := zC.addr 3; let r0 := zC.int 3; let r1 := zC.int 4; let r2 := zC.int 5; let r3 := zC.int 6; let r4 := zC.int 7; let r5 := zC.int 8; let t0 := zC.tok 3; let t1 := zC.tok 4; let t2 := zC.tok 5; let t3 := zC.tok 6; let t4 := zC.tok 7; let t5 := zC.tok 8; let n := zC.nat 3;
 ∀ (b0 : 0 ≤ r0 ∧ r0 < 3) (b1 : 0 ≤ r1 ∧ r1 < 3) (b2 : 0 ≤ r2 ∧ r2 < 3) (b3 : 0 ≤ r3 ∧ r3 < 3) (b4 : 0 ≤ r4 ∧ r4 < 3) (b5 : 0 ≤ r5 ∧ r5 < 3), FunAb zC 4 w mg mb 314 [.ref l] [(l, listOf #[.int r0 t0, .int r1 t1, .int r2 t2, .int r3 t3, .int r4 t4, .int r5 t5] n)] (fun v tl => ∃ D a0 a1 a2 a3 a4 a5 a6 k, v = .ref D ∧ (D, listOf #[.ref a0, .ref a1, .ref a2, .ref a3, .ref a4, .ref a5, .ref a6] k) ∈ tl ∧
  LightsAt [r0, r1, r2, r3, r4, r5] tl 0 a0 ∧ LightsAt [r0, r1, r2, r3, r4, r5] tl 1 a1 ∧ LightsAt [r0, r1, r2, r3, r4, r5] tl 2 a2 ∧ LightsAt [r0, r1, r2, r3, r4, r5] tl 3 a3 ∧ LightsAt [r0, r1, r2, r3, r4, r5] tl 4 a4 ∧ LightsAt [r0, r1, r2, r3, r4, r5] tl 5 a5 ∧ LightsAt [r0, r1, r2, r3, r4, r5] tl 6 a6)
@[irreducible] def tB : Bag := bagOf theP
@[irreducible] def w := tB.w 3
@[irreducible] def mg := tB.fr 3
@[irreducible] def mb := tB.fr 4
@[irreducible] def l := tB.addr 3
@[irreducible] def r0 := tB.int 3
@[irreducible] def r1 := tB.int 4
@[irreducible] def r2 := tB.int 5
@[irreducible] def r3 := tB.int 6
@[irreducible] def r4 := tB.int 7
@[irreducible] def r5 := tB.int 8
@[irreducible] def t0 := tB.tok 3
@[irreducible] def t1 := tB.tok 4
@[irreducible] def t2 := tB.tok 5
@[irreducible] def t3 := tB.tok 6
@[irreducible] def t4 := tB.tok 7
@[irreducible] def t5 := tB.tok 8
@[irreducible] def n := tB.nat 3
noncomputable def coreT : Prop := ∀ (b0 : 0 ≤ r0 ∧ r0 < 3) (b1 : 0 ≤ r1 ∧ r1 < 3) (b2 : 0 ≤ r2 ∧ r2 < 3) (b3 : 0 ≤ r3 ∧ r3 < 3) (b4 : 0 ≤ r4 ∧ r4 < 3) (b5 : 0 ≤ r5 ∧ r5 < 3), FunAb tB 4 w mg mb 314 [.ref l] [(l, listOf #[.int r0 t0, .int r1 t1, .int r2 t2, .int r3 t3, .int r4 t4, .int r5 t5] n)] (fun v tl => ∃ D a0 a1 a2 a3 a4 a5 a6 k, v = .ref D ∧ (D, listOf #[.ref a0, .ref a1, .ref a2, .ref a3, .ref a4, .ref a5, .ref a6] k) ∈ tl ∧
  LightsAt [r0, r1, r2, r3, r4, r5] tl 0 a0 ∧ LightsAt [r0, r1, r2, r3, r4, r5] tl 1 a1 ∧ LightsAt [r0, r1, r2, r3, r4, r5] tl 2 a2 ∧ LightsAt [r0, r1, r2, r3, r4, r5] tl 3 a3 ∧ LightsAt [r0, r1, r2, r3, r4, r5] tl 4 a4 ∧ LightsAt [r0, r1, r2, r3, r4, r5] tl 5 a5 ∧ LightsAt [r0, r1, r2, r3, r4, r5] tl 6 a6)
set_option maxHeartbeats 4000000 in
noncomputable def part1 : (P : Bag → Prop) ×' (P (bagOf P) → coreT) := by
 refine' ⟨_, fun hP => ?_⟩
 rotate_left
 unfold coreT
 intro b0 b1 b2 b3 b4 b5
 w_on
 unfold FunAb
 k_fill
 intro hB hF hX hN hT hk hd hu hret
 refine wpAny_call ?_
 k_dflt (refine' code_defR (by exact rfl) (by exact rfl) (by assumption) (by k_asm) (by k_asm) (by k_asm) (by k_asm) (by k_asm) (by k_is) (by k_is) (by ktr_room) (by exact BindsTo.of_eq rfl) (by exact locs rfl) ?_ (by exact rfl) (by exact rfl) (by exact rfl) (by decide); k_whole)
 intro g L1 h1 tk
 revert b0 b1 b2 b3 b4 b5 hB hF hX hN hT hk hd hu hret
 revert g L1 h1 tk
 exact bag4 _ (by exact rfl) hP
@[irreducible] def theB1 : Bag := bagOf part1.1
set_option maxHeartbeats 4000000 in
theorem part2 : part1.1 theB1 := by
 delta part1
 dsimp only
 intro b0 b1 b2 b3 b4 b5 hB hF hX hN hT hk hd hu hret FG' F' N' B' X' T' GS'
 w_on
 k_fill
 (try dsimp only)
 (try k_lift B')
 (try k_fold)
 k_steps
 unfold StopHere
 rename News _ _ _ _ => N9
 refine nm2 N9 fun D a0 eD ea => ?_
 subst eD ea
 rename (_ < D ∧ l < D) => lD
 rename l < a0 => la0
 refine nmI fun I eI => ?_
 subst eI
 rename (D < I ∧ a0 < I ∧ l < I) => lI
 have nlD : @Ne Nat l D := Nat.ne_of_lt lD.2
 have nlI : @Ne Nat l I := Nat.ne_of_lt lI.2.2
 have nDI : @Ne Nat D I := Nat.ne_of_lt lI.1
 refine ListRest.sub (n' := [(D, W.listOf #[.ref a0] 0), (l, (W.listOf #[.int r0 t0, .int r1 t1, .int r2 t2, .int r3 t3, .int r4 t4, .int r5 t5] n)), (a0, W.listOf #[.int 0 (theB1.nat 0), .int 0 (theB1.nat 0 + 1), .int 0 (theB1.nat 0 + 1 + 1)] 0)]) (by repeat' with_reducible first | exact sbn | exact sbr | exact sbl | exact sbq | refine sbc ?_ ?_ | refine sba ?_ ?_ | exact mmh | assumption | refine mmt ?_ | refine mmr ?_ | refine sbt ?_ | refine sbp ?_) (rest6 (LtJ [r0, r1, r2, r3, r4, r5] l (W.listOf #[.int r0 t0, .int r1 t1, .int r2 t2, .int r3 t3, .int r4 t4, .int r5 t5] n) D I) (fun e v => e < 6 ∧ ∃ x t, v = .int x t ∧ (0 ≤ x ∧ x < 3) ∧ [r0, r1, r2, r3, r4, r5].getD e 0 = x) ?_ ⟨by decide, ix2 _ _ (ia2 rfl b0 rfl)⟩ ⟨by decide, ix2 _ _ (ia2 rfl b1 rfl)⟩ ⟨by decide, ix2 _ _ (ia2 rfl b2 rfl)⟩ ⟨by decide, ix2 _ _ (ia2 rfl b3 rfl)⟩ ⟨by decide, ix2 _ _ (ia2 rfl b4 rfl)⟩ ⟨by decide, ix2 _ _ (ia2 rfl b5 rfl)⟩ ?_ ?_)
 ·refine ⟨rfl, ix3 _ _ _ (ia3 rfl rfl (fun i hi => ?_) ?_)⟩
  ·cases Nat.le_zero.mp hi
   exact ⟨a0, rfl, ix4 _ _ _ _ (ia3 (.head _) nc00 nc00 nc00)⟩
  ·exact List.forall_mem_cons.mpr ⟨ia2 (Nat.ne_of_lt lD.1) (Nat.ne_of_lt lI.2.1) (Nat.ne_of_gt la0), fun _ h => nomatch h⟩
 ·clear hd hu
  rintro m₁ n₁ ⟨hL, its, k, tl, rfl, hz, hi, off⟩
  obtain ⟨c0, h0, q0⟩ := hi 0 (by decide)
  obtain ⟨c1, h1, q1⟩ := hi 1 (by decide)
  obtain ⟨c2, h2, q2⟩ := hi 2 (by decide)
  obtain ⟨c3, h3, q3⟩ := hi 3 (by decide)
  obtain ⟨c4, h4, q4⟩ := hi 4 (by decide)
  obtain ⟨c5, h5, q5⟩ := hi 5 (by decide)
  obtain ⟨c6, h6, q6⟩ := hi 6 (by decide)
  cases sevenA hz h0 h1 h2 h3 h4 h5 h6
  clear hz h0 h1 h2 h3 h4 h5 h6 hi
  refine ListRest.zero (fun h tk F N => ?_)
  have F := Fr_pin F (x := Str.ofString "lights") hL
  k_steps
  refine funA_ret hret (by assumption) (by assumption) (by assumption) (by assumption) (fun p hp => by rw [List.mem_singleton.mp hp]; k_mem) fun tl' htl => ?_
  have sub : ∀ p ∈ tl, p ∈ tl' := fun p hp => htl p (.tail _ (.tail _ hp)) (by simp only [List.map_cons, List.map_nil, List.mem_singleton]; exact (off p hp).2.2)
  exact ix6 _ _ _ _ _ _ (ix3 _ _ _ (ia8 rfl (htl _ (by k_mem) (by simp only [List.map_cons, List.map_nil, List.mem_singleton]; exact nlD.symm)) (q0.up sub) (q1.up sub) (q2.up sub) (q3.up sub) (q4.up sub) (q5.up sub) (q6.up sub)))
 ·rintro e v r m₁ n₁ ⟨he, x, t, rfl, hx, ex⟩ ⟨hL, its, k, tl, rfl, hz, hi, off3⟩ hk
  have off : ∀ p ∈ tl, @Ne Nat p.1 D := fun p hp => (off3 p hp).1
  obtain ⟨a, ha, la⟩ := hi e (Nat.le_refl _)
  refine ex4 la ?_
  try clear la
  rintro x0 y0 z0 k0 hZ
  refine an3 hZ ?_
  clear hZ
  rintro ma u0 u1 u2
  have hab := off _ ma
  refine ListRest.succ (fun it h tk hit F N => ?_)
  have F := Fr_pin F (x := Str.ofString "lights") hL
  have N1 : News _ _ h ((_, it) :: (D, W.listOf its k) :: (l, (W.listOf #[.int r0 t0, .int r1 t1, .int r2 t2, .int r3 t3, .int r4 t4, .int r5 t5] n)) :: (a, W.listOf #[x0, y0, z0] k0) :: tl) := fun p hp => N p (by revert p; repeat' with_reducible first | exact sbn | exact sbr | exact sbl | exact sbq | refine sbc ?_ ?_ | refine sba ?_ ?_ | exact mmh | assumption | refine mmt ?_ | refine mmr ?_ | refine sbt ?_ | refine sbp ?_)
  clear N
  k_steps
  all_goals try exact EltRet.done (by assumption) (by assumption) (by assumption)
  unfold StopHere
  rename Fr _ _ _ _ => F2
  rename News _ _ _ _ => N2
  rename LCg.Off1 _ _ => oD
  have d1 := off_get oD (.tail _ (.head _))
  have d2 := off_get oD (.tail _ (.tail _ (.head _)))
  have d3 := off_get oD (.tail _ (.tail _ (.tail _ (.head _))))
  refine UnrEnd.intro F2 N2 ((D, _) :: (l, (W.listOf #[.int r0 t0, .int r1 t1, .int r2 t2, .int r3 t3, .int r4 t4, .int r5 t5] n)) :: (_, W.listOf #[_, _, _] 3) :: tl) (by repeat' with_reducible first | exact sbn | exact sbr | exact sbl | exact sbq | refine sbc ?_ ?_ | refine sba ?_ ?_ | exact mmh | assumption | refine mmt ?_ | refine mmr ?_ | refine sbt ?_ | refine sbp ?_) ?_ ⟨.tail _ (.head _), hk _ _ ⟨rfl, ix3 _ _ _ (ia3 rfl (by rw [Array.size_push, hz]) (fun i hi' => ?_) ?_)⟩⟩
  ·exact List.forall_mem_cons.mpr ⟨nDI, List.forall_mem_cons.mpr ⟨nlI, List.forall_mem_cons.mpr ⟨d1.symm, fun p hp => (off3 p hp).2.1⟩⟩⟩
  ·rcases Nat.lt_or_ge e i with hlt | hle
   ·cases Nat.le_antisymm hi' hlt
    exact ⟨_, push_end hz, ix4 _ _ _ _ (ia3 (.head _) (by rw [cnt, ex]; assumption) (by rw [cnt, ex]; assumption) (by rw [cnt, ex]; assumption))⟩
   ·obtain ⟨b, hb, lb⟩ := hi i hle
    exact ⟨b, (push_at hz hle).trans hb, lb.up fun p hp => .tail _ hp⟩
  ·exact List.forall_mem_cons.mpr ⟨ia2 d2.symm d1.symm d3.symm, off3⟩
theorem core : coreT := part1.2 (by with_unfolding_all exact part2)
end E_lights
theorem lights (w : World) (mg mb) (l : Addr) (r0 r1 r2 r3 r4 r5 : Int) (t0 t1 t2 t3 t4 t5 : Tok) (n : Nat) (b0 : 0 ≤ r0 ∧ r0 < 3) (b1 : 0 ≤ r1 ∧ r1 < 3) (b2 : 0 ≤ r2 ∧ r2 < 3) (b3 : 0 ≤ r3 ∧ r3 < 3) (b4 : 0 ≤ r4 ∧ r4 < 3) (b5 : 0 ≤ r5 ∧ r5 < 3) : FunA 4 w mg mb 314 [.ref l] [(l, listOf #[.int r0 t0, .int r1 t1, .int r2 t2, .int r3 t3, .int r4 t4, .int r5 t5] n)] (fun v tl => ∃ D a0 a1 a2 a3 a4 a5 a6 k, v = .ref D ∧ (D, listOf #[.ref a0, .ref a1, .ref a2, .ref a3, .ref a4, .ref a5, .ref a6] k) ∈ tl ∧
  LightsAt [r0, r1, r2, r3, r4, r5] tl 0 a0 ∧ LightsAt [r0, r1, r2, r3, r4, r5] tl 1 a1 ∧ LightsAt [r0, r1, r2, r3, r4, r5] tl 2 a2 ∧ LightsAt [r0, r1, r2, r3, r4, r5] tl 3 a3 ∧ LightsAt [r0, r1, r2, r3, r4, r5] tl 4 a4 ∧ LightsAt [r0, r1, r2, r3, r4, r5] tl 5 a5 ∧ LightsAt [r0, r1, r2, r3, r4, r5] tl 6 a6) := fun dpzz unzz gdzz cnzz cszz azz ccdzz clzz outerzz A₀zz basezz h₀zz Lzz mzz szz Qzz Ezz => bag_all (P := E_lights.theP) (by with_unfolding_all exact @E_lights.core) { bag0 with A := nth [A₀zz, A₀zz, A₀zz] bag0.A, addr := nth [azz, Lzz, azz, l] bag0.addr, cl := nth [clzz, clzz, clzz] bag0.cl, fr := nth [mzz, mzz, mzz, mg, mb] bag0.fr, gd := nth [gdzz, gdzz, gdzz] bag0.gd, heap := nth [basezz, h₀zz, basezz] bag0.heap, int := nth [r0, r0, r0, r0, r1, r2, r3, r4, r5] bag0.int, nat := nth [dpzz, unzz, dpzz, n] bag0.nat, outer := nth [outerzz, outerzz, outerzz] bag0.outer, qv := nth [Qzz, Ezz, Qzz] bag0.qv, s := nth [szz, szz, szz] bag0.s, scope := nth [cszz, cszz, cszz] bag0.scope, str := nth [cnzz, cnzz, cnzz] bag0.str, tok := nth [t0, t0, t0, t0, t1, t2, t3, t4, t5] bag0.tok, val := nth [ccdzz, ccdzz, ccdzz] bag0.val, w := nth [w, w, w, w] bag0.w } b0 b1 b2 b3 b4 b5
end Mine
end
section
open PySem PySem.W PyProof.Rows PySem.Calls PySem.Spec
set_option Elab.async false
set_option maxRecDepth 100000
namespace Mine
section
variable {prog : Program} {w : World} {A : Around} {E : Value → Shared → Prop} {s : Shared} {env : Env}
structure TwoA (prog : Program) (w : World) (A : Around) (elt : PySem.Expr) (x y : Str) (scope : Scope) (cl : List (Str × Addr)) (env : Env) (n : Nat) (z : Str) (Q : Flow → Shared → Prop) (xv : Value) (s₁ : Shared) : Prop where
 ex : ∃ (R : Nat → Value → Prop) (I : Addr) (fp wr : List Addr) (Pt : Nat → Array Value → Prop) (St : Nat → Heap → Prop) (Mid : Nat → Addr → Heap → Prop) (H : Heap) (m : Str → Option Value), xv = .ref I ∧ WalksT prog w A I fp wr n Pt St Mid ∧ St 0 s₁.heap ∧ H.Ns env.locals m ∧ (∀ b ∈ fp, b < s₁.heap.objs.size) ∧
  (∀ b o, H.get? b = some o → s₁.heap.get? b = some o ∧ b ∉ wr) ∧
  (∀ i vals C h tk m₂, i < n → Pt i vals → (∀ b o, H.get? b = some o → h.get? b = some o) → H.get? C = none → h.Ns C m₂ → (∀ v0 v1, vals = #[v0, v1] → m₂ x = some v0 ∧ m₂ y = some v1) →
   (∃ v0 v1, vals = #[v0, v1]) ∧ ∀ (Q' E' : Value → Shared → Prop), (∀ r h' tk', R i r → (∀ b o, h.get? b = some o → h'.get? b = some o) → Q' r { s₁ with heap := h', toks := tk' }) →
    wpAny (model prog w) A (eval elt (compEnvC scope cl C env)) Q' E' { s₁ with heap := h, toks := tk }) ∧
  (∀ D h tk rs, (∀ b o, b ≠ env.locals → H.get? b = some o → h.get? b = some o) → h.Ns env.locals (fun y => if y = z then some (.ref D) else m y) → h.get? D = some (lstE rs) → H.get? D = none → rs.length = n → (∀ i r, rs[i]? = some r → R i r) → Q .next { s₁ with heap := h, toks := tk })
end
namespace E_comp_twoA
noncomputable def theP (zC : Bag) : Prop :=
 let prog := zC.prog 3; let w := zC.w 3; let A := zC.A 3; let E := zC.qv 3; let s := zC.s 3; let env := zC.env 3; let elt := zC.expr 3; let iter := zC.expr 4; let x := zC.str 3; let y := zC.str 4; let z := zC.str 5; let px := zC.pos 3; let py := zC.pos 4; let tp := zC.pos 5; let pz := zC.pos 6; let tk := zC.nat 3; let scope := zC.scope 3; let cl := zC.cl 3; let pos := zC.pos 7; let spos := zC.pos 8; let Q := zC.qf 3; let n := zC.nat 4;
 ∀ (hsw : swapsWith (.ListComp elt [⟨.Tuple [.Name x px, .Name y py] tk tp, iter, [], 0⟩] scope pos) (some (.Name z pz)) spos.line env = pure true) (hz : env.kindOf z = some .local) (hp : (env.scope.kind == .class || (env.scope.kind == .module && env.locals != env.globals)) = false) (hsz : n ≤ sizeLine) (hh : A.handled = none) (hclos : closureFor scope env = pure cl) (hcell : ∀ z ∈ scope.names, z.2 ≠ .cell) (hkind : scope.kind = .function) (hnames : ∀ z ∈ scope.names, z.2 = .local → scope.names.lookup z.1 = some .local) (hx : scope.names.lookup x = some .local) (hy : scope.names.lookup y = some .local) (hxy : x ≠ y) (h : wpAny (model prog w) A (eval iter env) (TwoA prog w A elt x y scope cl env n z Q) E s) (hs : ∀ x, foldedSetIterable iter env x = pure x := by intro _; rfl), wpAny (model prog w) A (exec (.Assign [.Name z pz] (.ListComp elt [⟨.Tuple [.Name x px, .Name y py] tk tp, iter, [], 0⟩] scope pos) spos) env) Q E s
@[irreducible] def tB : Bag := bagOf theP
@[irreducible] def prog := tB.prog 3
@[irreducible] def w := tB.w 3
@[irreducible] def A := tB.A 3
@[irreducible] def E := tB.qv 3
@[irreducible] def s := tB.s 3
@[irreducible] def env := tB.env 3
@[irreducible] def elt := tB.expr 3
@[irreducible] def iter := tB.expr 4
@[irreducible] def x := tB.str 3
@[irreducible] def y := tB.str 4
@[irreducible] def z := tB.str 5
@[irreducible] def px := tB.pos 3
@[irreducible] def py := tB.pos 4
@[irreducible] def tp := tB.pos 5
@[irreducible] def pz := tB.pos 6
@[irreducible] def tk := tB.nat 3
@[irreducible] def scope := tB.scope 3
@[irreducible] def cl := tB.cl 3
@[irreducible] def pos := tB.pos 7
@[irreducible] def spos := tB.pos 8
@[irreducible] def Q := tB.qf 3
@[irreducible] def n := tB.nat 4
theorem core (hsw : swapsWith (.ListComp elt [⟨.Tuple [.Name x px, .Name y py] tk tp, iter, [], 0⟩] scope pos) (some (.Name z pz)) spos.line env = pure true) (hz : env.kindOf z = some .local) (hp : (env.scope.kind == .class || (env.scope.kind == .module && env.locals != env.globals)) = false) (hsz : n ≤ sizeLine) (hh : A.handled = none) (hclos : closureFor scope env = pure cl) (hcell : ∀ z ∈ scope.names, z.2 ≠ .cell) (hkind : scope.kind = .function) (hnames : ∀ z ∈ scope.names, z.2 = .local → scope.names.lookup z.1 = some .local) (hx : scope.names.lookup x = some .local) (hy : scope.names.lookup y = some .local) (hxy : x ≠ y) (h : wpAny (model prog w) A (eval iter env) (TwoA prog w A elt x y scope cl env n z Q) E s) (hs : ∀ x, foldedSetIterable iter env x = pure x := by intro _; rfl) : wpAny (model prog w) A (exec (.Assign [.Name z pz] (.ListComp elt [⟨.Tuple [.Name x px, .Name y py] tk tp, iter, [], 0⟩] scope pos) spos) env) Q E s := by
 rw [exec_Assign_Name_used _ _ _ _ hsw]
 refine wpAny_bind (wpAny_standAt (wpAny_bind ?_))
 show wpAny _ A (do let _ ← comprehension (.ListComp elt [⟨.Tuple [.Name x px, .Name y py] tk tp, iter, [], 0⟩] scope pos) scope env _ (newList []) false (eval iter env) (some (assign (.Name z pz) env))) _ _ s
 refine wpAny_bind (wpAny_mono (wpAny_comprehension_free (use := some (assign (.Name z pz) env)) (Q := fun _ s' => Q .next s') rfl hs hclos hkind hnames
  (wpAny_mono h (fun xv s₁ h₁ => ?_) fun _ _ e => e)) (fun _ s' hq => wpAny_pure (wpAny_pure hq)) fun _ _ e => e)
 refine hdG ?_; intro Xh hXh
 refine ex6 h₁.ex ?_
 rintro R I fp wr Pt St hZ
 refine ex3 hZ ?_
 clear hZ
 rintro Mid H m hZ
 refine an7 hZ ?_
 clear hZ
 rintro rfl W hst hNs hfp hH hE hQ
 refine ex3 (id hNs) ?_
 rintro oL _ _ hZ
 obtain ⟨hLo, _⟩ := hZ
 refine hXh ?_; clear hXh
 refine W.self 0 _ _ _ hst ?_
 refine wpAny_newObj_type (wpAny_newFunctionEnv hcell (by intro y hy; simp at hy) (fun h₁ hns₁ hsb₁ => ?_) hkind)
 dsimp only at hns₁ hsb₁ ⊢
 have hD : (s₁.heap.push { cls := .type "list", dict := none, data := .seq ([] : List Value).toArray }).objs.size = s₁.heap.objs.size + 1 := Heap.size_push ..
 generalize hH2 : s₁.heap.push { cls := .type "list", dict := none, data := .seq ([] : List Value).toArray } = H2 at hns₁ hsb₁ hD ⊢
 generalize hC : H2.objs.size = C at hns₁ hsb₁ hD ⊢
 generalize hDD : s₁.heap.objs.size = D at hD hfp
 have old : ∀ b o, s₁.heap.get? b = some o → h₁.get? b = some o := fun b o e => by
  have hb : @LT.lt Nat _ b D := hDD ▸ Heap.lt_size e
  exact hsb₁.extBut b o (Nat.ne_of_lt (by grind : @LT.lt Nat _ b C)) (Heap.get?_push_of_some _ (hH2 ▸ Heap.get?_push_of_some _ e))
 have hDC : @Ne Nat D C := by grind
 have hacc : h₁.get? D = some (lstE []) := hsb₁.extBut _ _ hDC (Heap.get?_push_of_some _ (hH2 ▸ hDD ▸ Heap.get?_push_size _ rfl))
 have hHD : H.get? D = none := by
  cases e : H.get? D with
  | none => rfl
  | some o => exact absurd (Heap.lt_size (hH D o e).1) (by rw [hDD]; exact Nat.lt_irrefl _)
 have hHC : H.get? C = none := by
  cases e : H.get? C with
  | none => rfl
  | some o => exact absurd (Heap.lt_size (hH C o e).1) (by rw [hDD]; exact Nat.not_lt.mpr (by grind))
 have hDf : D ∉ fp := fun hm => Nat.lt_irrefl _ (hfp _ hm)
 have hCf : C ∉ fp := fun hm => absurd (hfp _ hm) (Nat.not_lt.mpr (by grind))
 have loop : ∀ s₃ : Shared, s₃ = { s₁ with heap := h₁, toks := s₁.toks + ([] : List (Str × Value)).length } →
   codeAny (model prog w) A (.compLoop (.ListComp elt [⟨.Tuple [.Name x px, .Name y py] tk tp, iter, [], 0⟩] scope pos) 0 (.ref I) (.ref D) (compEnvC scope cl C env)) (compPost (model prog w) A E (some (assign (.Name z pz) env)) (fun _ s' => Q .next s') (.ref D) C) s₃ := by
  rintro s₃ rfl
  refine LCp.codeAny_compLoop_pair
   (fun k s' => ∃ h' tk i ys m', s' = { s₁ with heap := h', toks := tk } ∧ i ≤ n ∧ k = n + 1 - i ∧ ys.length = i ∧ St i h' ∧ h'.Ns C m' ∧ h'.get? D = some (lstE ys) ∧ (∀ b o, H.get? b = some o → h'.get? b = some o) ∧ (∀ j r, ys[j]? = some r → R j r)) ?_ (n + 1)
   (ix5 h₁ _ 0 [] _ (ia8 rfl (Nat.zero_le _) rfl rfl (W.frame _ _ _ hst fun b _ o e => old b o e) hns₁ hacc (fun b o e => old b o (hH b o e).1) (fun j r e => by simp at e)))
  rintro k s' hJz
  refine hdG ?_; intro Xh hXh
  refine ex5 hJz ?_
  try clear hJz
  rintro h' tk' i ys m' hZ
  refine an8 hZ ?_
  clear hZ
  rintro rfl hi rfl hyl hst' hn' hD' hk' hR
  refine hXh ?_; clear hXh
  by_cases hlt : i < n
  ·refine W.item i _ _ _ hlt hst' fun T vals h₂ tk₂ hP hT hTup hMid hk₂ => ?_
   have Tw := W.apart i T h₂ hMid
   refine hdG ?_; intro Xh hXh
   obtain ⟨oT, hZ⟩ := hTup
   refine an2 hZ ?_
   clear hZ
   rintro hTe hTc hZ
   obtain ⟨nT, hTd⟩ := hZ
   refine hXh ?_; clear hXh
   have hTC : T ≠ C := by
    refine hdG ?_; intro Xh hXh
    refine ex3 hn' ?_
    try clear hn'
    rintro oC _ _ hZ
    obtain ⟨hC', _⟩ := hZ
    refine hXh ?_; clear hXh
    exact Nat.ne_of_gt (Nat.lt_of_lt_of_le (Heap.lt_size hC') hT)
   have hTD : T ≠ D := by
    exact Nat.ne_of_gt (Nat.lt_of_lt_of_le (Heap.lt_size hD') hT)
   have hwf : ∀ b, b ∈ wr → b ∈ fp := W.sub
   have hCw : C ∉ wr := fun z => hCf (hwf _ z)
   have hDw : D ∉ wr := fun z => hDf (hwf _ z)
   refine W.go _ _ _ i T _ _ _ hMid fun h₃ hst₃ hk₃ => ?_
   have k3 : ∀ b o, b ∉ wr → h'.get? b = some o → h₃.get? b = some o := fun b o hb e => hk₃ b o hb (hk₂ b o hb e)
   have hT3 : IsTup h₃ T vals := (⟨oT, ia2 (hk₃ _ _ Tw hTe) hTc ⟨nT, hTd⟩⟩)
   have hn3 : h₃.Ns C m' := hn'.at' fun o e => k3 C o hCw e
   have H3 : ∀ b o, H.get? b = some o → h₃.get? b = some o := fun b o e => k3 b o (hH b o e).2 (hk' b o e)
   have two : ∃ v0 v1, vals = #[v0, v1] := by
    by_cases q : ∃ v0 v1, vals = #[v0, v1]
    ·exact q
    ·exact (hE i vals C h₃ tk₂ m' hlt hP H3 hHC hn3 (fun v0 v1 e => absurd (ix2 v0 v1 e) q)).1
   refine hdG ?_; intro Xh hXh
   refine ex2 two ?_
   try clear two
   rintro v0 v1 rfl
   refine hXh ?_; clear hXh
   refine assign_Tuple_tuple hh hT3 rfl rfl fun h₅ he => ?_
   have he' : ∀ b o, h₃.get? b = some o → h₅.get? b = some o := fun b o e => he b o (Nat.ne_of_lt (Heap.lt_size e)) e
   refine assignInOrder_cons (wpAny_assign_Name (wpAny_storeName_local (lookup_relabel_local hx) (hn3.at' fun o e => he' _ o e) (fun h₆ hn₆ hs₆ => ?_) (by simp [compEnvC, relabel, hkind])))
   refine assignInOrder_cons (wpAny_assign_Name (wpAny_storeName_local (lookup_relabel_local hy) hn₆ (fun h₇ hn₇ hs₇ => ?_) (by simp [compEnvC, relabel, hkind])))
   refine assignInOrder_nil ?_
   have k7 : ∀ b o, b ≠ C → h₃.get? b = some o → h₇.get? b = some o := fun b o hb e => hs₇.extBut b o hb (hs₆.extBut b o hb (he' b o e))
   have H7 : ∀ b o, H.get? b = some o → h₇.get? b = some o := fun b o e => k7 b o (fun z => by rw [z, hHC] at e; cases e) (H3 b o e)
   have hst₇ : St (i + 1) h₇ := W.frame _ _ _ hst₃ fun b hb o e => k7 b o (fun z => hCf (z ▸ hb)) e
   refine (hE i #[v0, v1] C h₇ _ _ hlt hP H7 hHC hn₇ (fun a b e => ?_)).2 _ _ fun r h₈ tk₈ hr hk₈ => ?_
   ·have := congrArg Array.toList e
    simp only [List.cons.injEq, and_true] at this
    obtain ⟨rfl, rfl⟩ := this
    exact ⟨by simp [hxy], by simp⟩
   ·have hD8 : h₈.get? D = some (lstE ys) := hk₈ _ _ (k7 D _ hDC (k3 D _ hDw hD'))
    refine append_at (hsz := by show ys.toArray.size ≤ sizeLine; rw [List.size_toArray, hyl]; exact Nat.le_trans hi hsz) hD8 fun h₉ hs₉ hD₉ => ?_
    refine (⟨n + 1 - (i + 1), ⟨by grind, ix5 h₉ tk₈ (i + 1) (ys ++ [r]) _ (ia8 rfl hlt rfl (by rw [List.length_append, List.length_singleton, hyl]) (W.frame _ _ _ (W.frame _ _ _ hst₇ fun b _ o e => hk₈ b o e) fun b hb o e => hs₉.extBut b o (fun q => hDf (q ▸ hb)) e) (hn₇.at' fun o e => hs₉.extBut _ o (Ne.symm hDC) (hk₈ _ o e)) (hD₉.trans (congrArg some (lstE_snoc ys r))) (fun b o e => hs₉.extBut b o (fun z => by rw [z, hHD] at e; cases e) (hk₈ b o (H7 b o e))) (fun j r' e => ?_))⟩⟩)
    by_cases hj : j < ys.length
    ·rw [List.getElem?_append_left hj] at e; exact hR j r' e
    ·rw [List.getElem?_append_right (by grind)] at e
     have : j - ys.length = 0 := by
      have := (List.getElem?_eq_some_iff.mp e).1
      simp at this; grind
     rw [this] at e
     cases e
     have : j = i := by grind
     subst this
     exact hr
  ·obtain rfl : i = n := Nat.le_antisymm hi (Nat.not_lt.mp hlt)
   refine W.done _ _ _ hst' fun h₂ tk₂ hk₂ => ?_
   have hCw : C ∉ wr := fun z => hCf (W.sub _ z)
   have hDw : D ∉ wr := fun z => hDf (W.sub _ z)
   have hCL : C ≠ env.locals := fun q => by rw [q, hLo] at hHC; cases hHC
   have nL : h₂.Ns env.locals m := hNs.at' fun o e => hk₂ _ o (hH _ o e).2 (hk' _ o e)
   show wpAny _ A (assign (.Name z pz) env (.ref D)) _ _ _
   refine wpAny_assign_Name (wpAny_storeName_local hz nL (fun h₃ hn₃ hs₃ => ?_) hp)
   have hDL : D ≠ env.locals := fun q => by rw [q, hLo] at hHD; cases hHD
   refine ⟨m', (hn'.at' fun o e => hk₂ C o hCw e).sameBut hs₃ hCL, fun h'' hs'' => ?_⟩
   refine hQ D h'' _ ys (fun b o nb e => ?_) (hn₃.sameBut hs'' (Ne.symm hCL)) (hs''.extBut _ _ hDC (hs₃.extBut _ _ hDL (hk₂ D _ hDw hD'))) hHD hyl hR
   exact hs''.extBut b o (fun z => by rw [z, hHC] at e; cases e) (hs₃.extBut b o nb (hk₂ b o (hH b o e).2 (hk' b o e)))
 exact codeAny_compStart_list (loop _ rfl) (W.self 0 _ _ _ (W.frame _ _ _ hst fun b _ o e => old b o e) (loop _ rfl))
end E_comp_twoA
section
variable {prog : Program} {w : World} {A : Around} {E : Value → Shared → Prop} {s : Shared} {env : Env}
theorem comp_twoA {elt iter : PySem.Expr} {x y z : Str} {px py tp pz : Pos} {tk} {scope : Scope} {cl : List (Str × Addr)} {pos spos : Pos} {Q : Flow → Shared → Prop} {n : Nat} (hsw : swapsWith (.ListComp elt [⟨.Tuple [.Name x px, .Name y py] tk tp, iter, [], 0⟩] scope pos) (some (.Name z pz)) spos.line env = pure true) (hz : env.kindOf z = some .local) (hp : (env.scope.kind == .class || (env.scope.kind == .module && env.locals != env.globals)) = false) (hsz : n ≤ sizeLine) (hh : A.handled = none) (hclos : closureFor scope env = pure cl) (hcell : ∀ z ∈ scope.names, z.2 ≠ .cell) (hkind : scope.kind = .function) (hnames : ∀ z ∈ scope.names, z.2 = .local → scope.names.lookup z.1 = some .local) (hx : scope.names.lookup x = some .local) (hy : scope.names.lookup y = some .local) (hxy : x ≠ y) (h : wpAny (model prog w) A (eval iter env) (TwoA prog w A elt x y scope cl env n z Q) E s) (hs : ∀ x, foldedSetIterable iter env x = pure x := by intro _; rfl) : wpAny (model prog w) A (exec (.Assign [.Name z pz] (.ListComp elt [⟨.Tuple [.Name x px, .Name y py] tk tp, iter, [], 0⟩] scope pos) spos) env) Q E s := bag_all (P := E_comp_twoA.theP) (by with_unfolding_all exact @E_comp_twoA.core) { bag0 with A := nth [A, A, A, A] bag0.A, cl := nth [cl, cl, cl, cl] bag0.cl, env := nth [env, env, env, env] bag0.env, expr := nth [elt, elt, elt, elt, iter] bag0.expr, nat := nth [tk, tk, tk, tk, n] bag0.nat, pos := nth [px, px, px, px, py, tp, pz, pos, spos] bag0.pos, prog := nth [prog, prog, prog, prog] bag0.prog, qf := nth [Q, Q, Q, Q] bag0.qf, qv := nth [E, E, E, E] bag0.qv, s := nth [s, s, s, s] bag0.s, scope := nth [scope, scope, scope, scope] bag0.scope, str := nth [x, x, x, x, y, z] bag0.str, w := nth [w, w, w, w] bag0.w } hsw hz hp hsz hh hclos hcell hkind hnames hx hy hxy h hs
end
section
variable {prog : Program} {w : World} {A : Around} {E : Value → Shared → Prop} {s : Shared}
end
section
variable {prog : Program} {w : World} {A : Around} {E : Value → Shared → Prop} {s : Shared}
theorem two_sqA {env : Env} {h₀ : Heap} {m : Str → Option Value} {news : List (Addr × Obj)} {elt : PySem.Expr} {x y z' : Str} {scope : Scope} {cl : List (Str × Addr)} {b1 b2 : Bool} {l1 l2 : Addr} {xs ys : Array Value} {n : Nat} {R : Nat → Value → Prop} {Q : Flow → Shared → Prop} (F : Fr h₀ env.locals s.heap m) (N : News h₀ env.locals s.heap news) (x1 : Sq b1 s.heap l1 xs) (x2 : Sq b2 s.heap l2 ys) (hh : A.handled = none) (hn : min xs.size ys.size = n) (hE : ∀ i v0 v1 C oC h tk m₂ (Q' E' : Value → Shared → Prop), xs[i]? = some v0 → ys[i]? = some v1 → LCg.NsObj oC m₂ → m₂ x = some v0 → m₂ y = some v1 → Fr h₀ env.locals h m → News h₀ env.locals h ((C, oC) :: news) → (∀ p ∈ news, @Ne Nat p.1 C) →
   (∀ r h' tk', R i r → (∀ b o, h.get? b = some o → h'.get? b = some o) → Q' r { s with heap := h', toks := tk' }) → wpAny (model prog w) A (eval elt (compEnvC scope cl C env)) Q' E' { s with heap := h, toks := tk }) (hQ : ∀ D h tk rs, Fr h₀ env.locals h (fun y => if y = z' then some (.ref D) else m y) → News h₀ env.locals h ((D, lstE rs) :: news) → (∀ p ∈ news, @Ne Nat p.1 D) → rs.length = n → (∀ i r, rs[i]? = some r → R i r) → Q .next { s with heap := h, toks := tk }) : wpAny (model prog w) A (call (.type "zip") [.ref l1, .ref l2]) (TwoA prog w A elt x y scope cl env n z' Q) E s := by
 have fresh : ∀ {C : Addr}, s.heap.get? C = none → C ≠ env.locals ∧ h₀.get? C = none ∧ ∀ p ∈ news, @Ne Nat p.1 C := fun {C} e => by
  refine hdG ?_; intro Xh hXh
  refine ex3 F.ns ?_
  rintro oL _ _ hZ
  obtain ⟨hL, _⟩ := hZ
  refine hXh ?_; clear hXh
  refine (ia2 (fun q => ?_) ?_ (fun p hp q => ?_))
  ·rw [q, hL] at e; cases e
  ·cases e' : h₀.get? C with
   | none => rfl
   | some o => rw [F.keep _ _ e'] at e; cases e
  ·have q' : p.1 = C := q
   rw [← q', (N p hp).1] at e; cases e
 refine call_zip x1 x2 fun h' z TI TO i1 i2 Z n1 n2 za s1 s2 y1 y2 above keep => ⟨R, z, z :: TI :: TO :: ([i1, l1] ++ [i2, l2]), [z, TO, i1, i2], _, _, _, s.heap, m, rfl, hn ▸ zipWalks Z (sqDraws (A := A.in1) hh b1 i1 l1 n1 xs) (sqDraws (A := A.in1) hh b2 i2 l2 n2 ys), (ia2 za ⟨s1, y1⟩ ⟨s2, y2⟩), F.ns, ?_, ?_, ?_, ?_⟩
 ·obtain ⟨a, b, _, _, c⟩ := za
  intro q hq
  simp only [List.cons_append, List.nil_append, List.mem_cons, List.not_mem_nil, or_false] at hq
  have lt1 : i1 < h'.objs.size := let ⟨_, e⟩ := (sqDraws (prog := prog) (w := w) (A := A) hh b1 i1 l1 n1 xs).live _ _ ⟨s1, y1⟩; Heap.lt_size e
  have lt2 : i2 < h'.objs.size := let ⟨_, e⟩ := (sqDraws (prog := prog) (w := w) (A := A) hh b2 i2 l2 n2 ys).live _ _ ⟨s2, y2⟩; Heap.lt_size e
  rcases hq with rfl | rfl | rfl | rfl | rfl | rfl | rfl
  ·exact Heap.lt_size a
  ·exact Heap.lt_size b
  ·exact Heap.lt_size c
  ·exact lt1
  ·exact y1.lt
  ·exact lt2
  ·exact y2.lt
 ·intro b o e
  refine ⟨keep b o e, fun hb => ?_⟩
  have lt := Heap.lt_size e
  refine absurd lt (Nat.not_lt.mpr (above b ?_))
  simp only [List.mem_cons, List.not_mem_nil, or_false] at hb ⊢
  rcases hb with h | h | h | h <;> simp [h]
 ·rintro i vals C h tk m₂ hi hJz
  refine hdG ?_; intro Xh hXh
  refine ex2 hJz ?_
  try clear hJz
  rintro v0 v1 hZ
  refine an2 hZ ?_
  clear hZ
  rintro e0 e1 rfl
  refine hXh ?_; clear hXh
  rintro hk hC hns hv
  refine ⟨(ix2 v0 v1 rfl), fun Q' E' ret => ?_⟩
  refine hdG ?_; intro Xh hXh
  obtain ⟨oC, eC, nC⟩ := LCg.ns_obj hns
  refine an2 (fresh hC) ?_
  rintro f1 f2 f3
  obtain ⟨m0, m1⟩ := hv v0 v1 rfl
  refine hXh ?_; clear hXh
  refine hE i v0 v1 C oC h tk m₂ Q' E' e0 e1 nC m0 m1 (F.keeps hk) (fun p hp => ?_) f3 ret
  rcases List.mem_cons.mp hp with rfl | hp
  ·exact (ia2 eC f1 f2)
  ·exact ⟨hk _ _ (N p hp).1, (N p hp).2⟩
 ·intro D h tk rs hk hns hD hH hl hR
  refine hdG ?_; intro Xh hXh
  refine an2 (fresh hH) ?_
  rintro f1 f2 f3
  refine hXh ?_; clear hXh
  have hL₀ : h₀.get? env.locals = none := Heap.get?_none_of_le F.above
  refine hQ D h tk rs ⟨hns, fun b o e => hk b o (fun q => by rw [q, hL₀] at e; cases e) (F.keep b o e), F.above⟩ (fun p hp => ?_) f3 hl hR
  rcases List.mem_cons.mp hp with rfl | hp
  ·exact (ia2 hD f1 f2)
  ·exact ⟨hk _ _ (N p hp).2.1 (N p hp).1, (N p hp).2⟩
end
end Mine
end
section
open PySem PySem.W PyProof.Rows PySem.Calls PySem.Spec
set_option Elab.async false
set_option maxRecDepth 100000
namespace Mine
section
variable {prog : Program} {w : World} {A : Around} {E : Value → Shared → Prop} {s : Shared} {env : Env} {h₀ : Heap} {m : Str → Option Value} {news : List (Addr × Obj)}
theorem zip_sumTA {elt : PySem.Expr} {x y z : Str} {scope : Scope} {cl : List (Str × Addr)} {l1 l2 : Addr} {a0 a1 a2 b0 b1 b2 : Int} {t0 t1 t2 u0 u1 u2 : Tok} {Q : Flow → Shared → Prop}
  (F : Fr h₀ env.locals s.heap m) (N : News h₀ env.locals s.heap news) (hl1 : s.heap.IsList l1 #[.int a0 t0, .int a1 t1, .int a2 t2]) (hl2 : s.heap.IsTuple l2 #[.int b0 u0, .int b1 u1, .int b2 u2]) (hh : A.handled = none)
  (hE : ∀ a ta b tb C oC h tk m₂ (Q' E' : Value → Shared → Prop), LCg.NsObj oC m₂ → m₂ x = some (.int a ta) → m₂ y = some (.int b tb) → Fr h₀ env.locals h m → News h₀ env.locals h ((C, oC) :: news) → LCg.Off1 C news →
   EltRet (fun r => IntV r (a + b)) h s Q' → wpAny (model prog w) A (eval elt (compEnvC scope cl C env)) Q' E' { s with heap := h, toks := tk })
  (hQ : ∀ D h tk v0 v1 v2, Fr h₀ env.locals h (fun y => if y = z then some (.ref D) else m y) → News h₀ env.locals h ((D, W.listOf #[.int (a0 + b0) v0, .int (a1 + b1) v1, .int (a2 + b2) v2] 3) :: news) → (∀ p ∈ news, @Ne Nat p.1 D) → Q .next { s with heap := h, toks := tk }) :
  wpAny (model prog w) A (call (.type "zip") [.ref l1, .ref l2]) (TwoA prog w A elt x y scope cl env 3 z Q) E s := by
 refine two_sqA (b1 := true) (b2 := false) (R := fun i r => IntV r (pick (a0 + b0) (a1 + b1) (a2 + b2) i)) F N hl1 hl2 hh rfl (fun i v0 v1 C oC h tk m₂ Q' E' e0 e1 nC m0 m1 F' N' ne ret => ?_) fun D h tk rs F' N' ne hl hR => ?_
 ·match i with
  | 0 => cases e0; cases e1; exact hE _ _ _ _ C oC h tk m₂ Q' E' nC m0 m1 F' N' (off1_of ne) ret
  | 1 => cases e0; cases e1; exact hE _ _ _ _ C oC h tk m₂ Q' E' nC m0 m1 F' N' (off1_of ne) ret
  | 2 => cases e0; cases e1; exact hE _ _ _ _ C oC h tk m₂ Q' E' nC m0 m1 F' N' (off1_of ne) ret
  | n + 3 => simp at e0
 ·refine ex3 (len3 hl) ?_
  rintro r0 r1 r2 rfl
  obtain ⟨v0, rfl⟩ := hR 0 r0 rfl
  obtain ⟨v1, rfl⟩ := hR 1 r1 rfl
  obtain ⟨v2, rfl⟩ := hR 2 r2 rfl
  exact hQ D h tk v0 v1 v2 F' N' ne
end
end Mine
end
section
open PySem PySem.W PyProof.Rows PySem.Calls PySem.Spec
set_option Elab.async false
set_option maxRecDepth 100000
namespace Mine
inductive Built (R : Nat → Bool → Value → Prop) : Nat → List Value → Prop
 | nil : Built R 0 []
 | take {i : Nat} {rs : List Value} {r : Value} : Built R i rs → R i true r → Built R (i + 1) (rs ++ [r])
 | skip {i : Nat} {rs : List Value} {r : Value} : Built R i rs → R i false r → Built R (i + 1) rs
theorem Built.length {R : Nat → Bool → Value → Prop} {i : Nat} {rs : List Value} (h : Built R i rs) : rs.length ≤ i := by
 induction h with
 | nil => exact Nat.le_refl _
 | take _ _ ih => rw [List.length_append, List.length_singleton]; grind
 | skip _ _ ih => grind
noncomputable def FinV (Q : Value → Shared → Prop) : Heap → Addr → List Value → Shared → Prop := fun _ D _ s' => Q (.ref D) s'
noncomputable def FinZ (env : Env) (z : Str) (Q : Flow → Shared → Prop) : Heap → Addr → List Value → Shared → Prop := fun H D rs s' => ∃ m, H.Ns env.locals m ∧ ∀ h' tk', (∀ b o, b ≠ env.locals → H.get? b = some o → h'.get? b = some o) → h'.get? D = some (lstE rs) → h'.Ns env.locals (fun y => if y = z then some (.ref D) else m y) → Q .next { s' with heap := h', toks := tk' }
section
variable {prog : Program} {w : World} {A : Around} {E : Value → Shared → Prop} {s : Shared} {env : Env}
noncomputable def Turn1 (prog : Program) (w : World) (A : Around) (ifs : List PySem.Expr) (elt : PySem.Expr) (cenv : Env) (Q' : Bool → Value → Shared → Prop) (E' : Value → Shared → Prop) (s : Shared) : Prop :=
 wpAny (model prog w) A (forIn ifs true fun c r => if r = true then do let ok ← isTrue c cenv (eval c cenv); pure (ForInStep.yield ok) else pure (ForInStep.yield r)) (fun ok s₃ =>
  if ok = true then wpAny (model prog w) A (eval elt cenv) (fun x s₄ => Q' true x s₄) E' s₃ else Q' false .none s₃) E' s
theorem Turn1.plain {elt : PySem.Expr} {cenv : Env} {Q' : Bool → Value → Shared → Prop} {E' : Value → Shared → Prop} (h : wpAny (model prog w) A (eval elt cenv) (fun x s₄ => Q' true x s₄) E' s) : Turn1 prog w A [] elt cenv Q' E' s :=
 wpAny_tests_nil (by rw [if_pos rfl]; exact h)
theorem Turn1.test {c elt : PySem.Expr} {cenv : Env} {Q' : Bool → Value → Shared → Prop} {E' : Value → Shared → Prop} (h : wpAny (model prog w) A (isTrue c cenv (eval c cenv)) (fun ok s₃ => if ok = true then wpAny (model prog w) A (eval elt cenv) (fun x s₄ => Q' true x s₄) E' s₃ else Q' false .none s₃) E' s) : Turn1 prog w A [c] elt cenv Q' E' s :=
 wpAny_tests_one h
structure One (prog : Program) (w : World) (A : Around) (ifs : List PySem.Expr) (elt : PySem.Expr) (x : Str) (scope : Scope) (cl : List (Str × Addr)) (env : Env) (Fin : Heap → Addr → List Value → Shared → Prop) (it : Value) (s₂ : Shared) : Prop where
 ex : ∃ (R : Nat → Bool → Value → Prop) (I : Addr) (fp wr : List Addr) (n : Nat) (P : Nat → Value → Prop) (St : Nat → Heap → Prop) (H : Heap), it = .ref I ∧ Walks prog w A I fp wr n P St ∧ n ≤ sizeLine ∧ St 0 s₂.heap ∧ (∀ b ∈ fp, b < s₂.heap.objs.size) ∧
  (∀ b o, H.get? b = some o → s₂.heap.get? b = some o ∧ b ∉ wr) ∧
  (∀ i v C h tk m₂, i < n → P i v → (∀ b o, H.get? b = some o → h.get? b = some o) → H.get? C = none → h.Ns C m₂ → m₂ x = some v →
   ∀ (Q' : Bool → Value → Shared → Prop) (E' : Value → Shared → Prop), (∀ b r h' tk', R i b r → (∀ b o, h.get? b = some o → h'.get? b = some o) → Q' b r { s₂ with heap := h', toks := tk' }) →
    Turn1 prog w A ifs elt (compEnvC scope cl C env) Q' E' { s₂ with heap := h, toks := tk }) ∧
  (∀ D h tk rs, (∀ b o, H.get? b = some o → h.get? b = some o) → h.get? D = some (lstE rs) → H.get? D = none → Built R n rs → Fin H D rs { s₂ with heap := h, toks := tk })
end
namespace E_one_block
noncomputable def theP (zC : Bag) : Prop :=
 let prog := zC.prog 3; let w := zC.w 3; let A := zC.A 3; let E := zC.qv 3; let env := zC.env 3; let elt := zC.expr 3; let iter := zC.expr 4; let ifs := zC.exprs 3; let x := zC.str 3; let px := zC.pos 3; let scope := zC.scope 3; let cl := zC.cl 3; let pos := zC.pos 4; let s₂ := zC.s 3; let I := zC.addr 3; let fp := zC.al 3; let wr := zC.al 4; let n := zC.nat 3; let P := zC.nv 3; let St := zC.nh 3; let H := zC.heap 3;
 ∀ {R : Nat → Bool → Value → Prop} {RR : Value → Addr → Result → Shared → Prop} (W : Walks prog w A I fp wr n P St) (hsz : n ≤ sizeLine) (hcell : ∀ z ∈ scope.names, z.2 ≠ .cell) (hkind : scope.kind = .function) (hx : scope.names.lookup x = some .local) (hst : St 0 s₂.heap) (hfp : ∀ b ∈ fp, b < s₂.heap.objs.size) (hH : ∀ b o, H.get? b = some o → s₂.heap.get? b = some o ∧ b ∉ wr) (hE : ∀ i v C h tk m₂, i < n → P i v → (∀ b o, H.get? b = some o → h.get? b = some o) → H.get? C = none → h.Ns C m₂ → m₂ x = some v →
   ∀ (Q' : Bool → Value → Shared → Prop) (E' : Value → Shared → Prop), (∀ b r h' tk', R i b r → (∀ b o, h.get? b = some o → h'.get? b = some o) → Q' b r { s₂ with heap := h', toks := tk' }) →
    Turn1 prog w A ifs elt (compEnvC scope cl C env) Q' E' { s₂ with heap := h, toks := tk }) (hRR : ∀ D C h tk m' rs, (∀ b o, H.get? b = some o → h.get? b = some o) → h.get? D = some (lstE rs) → H.get? D = none → h.Ns C m' → H.get? C = none → @Ne Nat D C → Built R n rs → RR (.ref D) C (.ok .next) { s₂ with heap := h, toks := tk }), wpAny (model prog w) A (newList []) (fun acc s₃ => wpAny (model prog w) A (newFunctionEnv scope env.globals cl [] env.qual none .none (some env)) (fun cenv s₄ =>
   codeAny (model prog w) A (.compStart (.ListComp elt [⟨.Name x px, iter, ifs, 0⟩] scope pos) 0 (.ref I) acc { cenv with scope := relabel scope env }) (RR acc cenv.locals) s₄) E s₃) E s₂
@[irreducible] def tB : Bag := bagOf theP
@[irreducible] def prog := tB.prog 3
@[irreducible] def w := tB.w 3
@[irreducible] def A := tB.A 3
@[irreducible] def E := tB.qv 3
@[irreducible] def env := tB.env 3
@[irreducible] def elt := tB.expr 3
@[irreducible] def iter := tB.expr 4
@[irreducible] def ifs := tB.exprs 3
@[irreducible] def x := tB.str 3
@[irreducible] def px := tB.pos 3
@[irreducible] def scope := tB.scope 3
@[irreducible] def cl := tB.cl 3
@[irreducible] def pos := tB.pos 4
@[irreducible] def s₂ := tB.s 3
@[irreducible] def I := tB.addr 3
@[irreducible] def fp := tB.al 3
@[irreducible] def wr := tB.al 4
@[irreducible] def n := tB.nat 3
@[irreducible] def P := tB.nv 3
@[irreducible] def St := tB.nh 3
@[irreducible] def H := tB.heap 3
theorem core {R : Nat → Bool → Value → Prop} {RR : Value → Addr → Result → Shared → Prop} (W : Walks prog w A I fp wr n P St) (hsz : n ≤ sizeLine) (hcell : ∀ z ∈ scope.names, z.2 ≠ .cell) (hkind : scope.kind = .function) (hx : scope.names.lookup x = some .local) (hst : St 0 s₂.heap) (hfp : ∀ b ∈ fp, b < s₂.heap.objs.size) (hH : ∀ b o, H.get? b = some o → s₂.heap.get? b = some o ∧ b ∉ wr) (hE : ∀ i v C h tk m₂, i < n → P i v → (∀ b o, H.get? b = some o → h.get? b = some o) → H.get? C = none → h.Ns C m₂ → m₂ x = some v →
   ∀ (Q' : Bool → Value → Shared → Prop) (E' : Value → Shared → Prop), (∀ b r h' tk', R i b r → (∀ b o, h.get? b = some o → h'.get? b = some o) → Q' b r { s₂ with heap := h', toks := tk' }) →
    Turn1 prog w A ifs elt (compEnvC scope cl C env) Q' E' { s₂ with heap := h, toks := tk }) (hRR : ∀ D C h tk m' rs, (∀ b o, H.get? b = some o → h.get? b = some o) → h.get? D = some (lstE rs) → H.get? D = none → h.Ns C m' → H.get? C = none → @Ne Nat D C → Built R n rs → RR (.ref D) C (.ok .next) { s₂ with heap := h, toks := tk }) : wpAny (model prog w) A (newList []) (fun acc s₃ => wpAny (model prog w) A (newFunctionEnv scope env.globals cl [] env.qual none .none (some env)) (fun cenv s₄ =>
   codeAny (model prog w) A (.compStart (.ListComp elt [⟨.Name x px, iter, ifs, 0⟩] scope pos) 0 (.ref I) acc { cenv with scope := relabel scope env }) (RR acc cenv.locals) s₄) E s₃) E s₂ := by
 refine wpAny_newObj_type (wpAny_newFunctionEnv hcell (by intro y hy; simp at hy) (fun h₁ hns₁ hsb₁ => ?_) hkind)
 dsimp only at hns₁ hsb₁ ⊢
 have hD : (s₂.heap.push { cls := .type "list", dict := none, data := .seq ([] : List Value).toArray }).objs.size = s₂.heap.objs.size + 1 := Heap.size_push ..
 generalize hH2 : s₂.heap.push { cls := .type "list", dict := none, data := .seq ([] : List Value).toArray } = H2 at hns₁ hsb₁ hD ⊢
 generalize hC : H2.objs.size = C at hns₁ hsb₁ hD ⊢
 generalize hDD : s₂.heap.objs.size = D at hD hfp
 have old : ∀ b o, s₂.heap.get? b = some o → h₁.get? b = some o := fun b o e => by
  have hb : @LT.lt Nat _ b D := hDD ▸ Heap.lt_size e
  exact hsb₁.extBut b o (Nat.ne_of_lt (by grind : @LT.lt Nat _ b C)) (Heap.get?_push_of_some _ (hH2 ▸ Heap.get?_push_of_some _ e))
 have hDC : @Ne Nat D C := by grind
 have hacc : h₁.get? D = some (lstE []) := hsb₁.extBut _ _ hDC (Heap.get?_push_of_some _ (hH2 ▸ hDD ▸ Heap.get?_push_size _ rfl))
 have hHD : H.get? D = none := by
  cases e : H.get? D with
  | none => rfl
  | some o => exact absurd (Heap.lt_size (hH D o e).1) (by rw [hDD]; exact Nat.lt_irrefl _)
 have hHC : H.get? C = none := by
  cases e : H.get? C with
  | none => rfl
  | some o => exact absurd (Heap.lt_size (hH C o e).1) (by rw [hDD]; exact Nat.not_lt.mpr (by grind))
 have hDf : D ∉ fp := fun hm => Nat.lt_irrefl _ (hfp _ hm)
 have hCf : C ∉ fp := fun hm => absurd (hfp _ hm) (Nat.not_lt.mpr (by grind))
 have hCw : C ∉ wr := fun z => hCf (W.sub _ z)
 have hDw : D ∉ wr := fun z => hDf (W.sub _ z)
 have loop : ∀ s₃ : Shared, s₃ = { s₂ with heap := h₁, toks := s₂.toks + ([] : List (Str × Value)).length } →
   codeAny (model prog w) A (.compLoop (.ListComp elt [⟨.Name x px, iter, ifs, 0⟩] scope pos) 0 (.ref I) (.ref D) (compEnvC scope cl C env)) (RR (.ref D) C) s₃ := by
  rintro s₃ rfl
  refine codeAny_compLoop_tests
   (fun k s' => ∃ h' tk i ys m', s' = { s₂ with heap := h', toks := tk } ∧ i ≤ n ∧ k = n + 1 - i ∧ Built R i ys ∧ St i h' ∧ h'.Ns C m' ∧ h'.get? D = some (lstE ys) ∧ (∀ b o, H.get? b = some o → h'.get? b = some o)) ?_ (n + 1)
   (ix5 h₁ _ 0 [] _ (ia7 rfl (Nat.zero_le _) rfl .nil (W.frame _ _ _ hst fun b _ o e => old b o e) hns₁ hacc (fun b o e => old b o (hH b o e).1)))
  rintro k s' hJz
  refine hdG ?_; intro Xh hXh
  refine ex5 hJz ?_
  try clear hJz
  rintro h' tk' i ys m' hZ
  refine an7 hZ ?_
  clear hZ
  rintro rfl hi rfl hB hst' hn' hD' hk'
  refine hXh ?_; clear hXh
  by_cases hlt : i < n
  ·refine W.item i _ _ _ hlt hst' fun v h₂ tk₂ hP hst₂ hk₂ => ?_
   refine wpAny_assign_Name (wpAny_storeName_local (lookup_relabel_local hx) (hn'.at' fun o e => hk₂ _ o hCw e) (fun h₃ hn₃ hs₃ => ?_) (by simp [compEnvC, relabel, hkind]))
   have k3 : ∀ b o, b ≠ C → b ∉ wr → h'.get? b = some o → h₃.get? b = some o := fun b o hb hw e => hs₃.extBut b o hb (hk₂ b o hw e)
   have H3 : ∀ b o, H.get? b = some o → h₃.get? b = some o := fun b o e => k3 b o (fun z => by rw [z, hHC] at e; cases e) (hH b o e).2 (hk' b o e)
   have hst₃ : St (i + 1) h₃ := W.frame _ _ _ hst₂ fun b hb o e => hs₃.extBut b o (fun z => hCf (by have z' : b = C := z; rw [← z']; exact hb)) e
   have hD3 : h₃.get? D = some (lstE ys) := k3 D _ hDC hDw hD'
   refine hE i v C h₃ _ _ hlt hP H3 hHC hn₃ (by simp) (fun ok r s₅ => if ok = true then wpAny (model prog w) A (call (.builtin "list.append") [.ref D, r]) (fun _ s₅ => ∃ m, m < n + 1 - i ∧ ∃ h' tk i ys m', s₅ = { s₂ with heap := h', toks := tk } ∧ i ≤ n ∧ m = n + 1 - i ∧ Built R i ys ∧ St i h' ∧ h'.Ns C m' ∧ h'.get? D = some (lstE ys) ∧ (∀ b o, H.get? b = some o → h'.get? b = some o)) _ s₅ else ∃ m, m < n + 1 - i ∧ ∃ h' tk i ys m', s₅ = { s₂ with heap := h', toks := tk } ∧ i ≤ n ∧ m = n + 1 - i ∧ Built R i ys ∧ St i h' ∧ h'.Ns C m' ∧ h'.get? D = some (lstE ys) ∧ (∀ b o, H.get? b = some o → h'.get? b = some o)) _ fun ok r h₈ tk₈ hr hk₈ => ?_
   have hD8 : h₈.get? D = some (lstE ys) := hk₈ _ _ hD3
   have hst₈ := W.frame _ _ _ hst₃ fun b _ o e => hk₈ b o e
   cases ok with
   | false =>
    rw [if_neg Bool.false_ne_true]
    exact (⟨n + 1 - (i + 1), ⟨by grind, ix5 h₈ tk₈ (i + 1) ys _ (ia7 rfl hlt rfl (.skip hB hr) hst₈ (hn₃.at' fun o e => hk₈ _ o e) hD8 (fun b o e => hk₈ b o (H3 b o e)))⟩⟩)
   | true =>
    rw [if_pos rfl]
    refine append_at (hsz := by show ys.toArray.size ≤ sizeLine; rw [List.size_toArray]; exact Nat.le_trans (Nat.le_trans hB.length hi) hsz) hD8 fun h₉ hs₉ hD₉ => ?_
    exact (⟨n + 1 - (i + 1), ⟨by grind, ix5 h₉ tk₈ (i + 1) (ys ++ [r]) _ (ia7 rfl hlt rfl (.take hB hr) (W.frame _ _ _ hst₈ fun b hb o e => hs₉.extBut b o (fun q => hDf (q ▸ hb)) e) (hn₃.at' fun o e => hs₉.extBut _ o (Ne.symm hDC) (hk₈ _ o e)) (hD₉.trans (congrArg some (lstE_snoc ys r))) (fun b o e => hs₉.extBut b o (fun z => by rw [z, hHD] at e; cases e) (hk₈ b o (H3 b o e))))⟩⟩)
  ·obtain rfl : i = n := Nat.le_antisymm hi (Nat.not_lt.mp hlt)
   refine W.done _ _ _ hst' fun h₂ tk₂ hk₂ => ?_
   exact hRR D C h₂ tk₂ m' ys (fun b o e => hk₂ b o (hH b o e).2 (hk' b o e)) (hk₂ D _ hDw hD') hHD (hn'.at' fun o e => hk₂ C o hCw e) hHC hDC hB
 exact codeAny_compStart_list (loop _ rfl) (W.self 0 _ _ _ (W.frame _ _ _ hst fun b _ o e => old b o e) (loop _ rfl))
end E_one_block
section
variable {prog : Program} {w : World} {A : Around} {E : Value → Shared → Prop} {s : Shared} {env : Env}
theorem one_block {elt iter : PySem.Expr} {ifs : List PySem.Expr} {x : Str} {px : Pos} {scope : Scope} {cl : List (Str × Addr)} {pos : Pos} {s₂ : Shared} {R : Nat → Bool → Value → Prop} {I : Addr} {fp wr : List Addr} {n : Nat} {P : Nat → Value → Prop} {St : Nat → Heap → Prop} {H : Heap} {RR : Value → Addr → Result → Shared → Prop} (W : Walks prog w A I fp wr n P St) (hsz : n ≤ sizeLine) (hcell : ∀ z ∈ scope.names, z.2 ≠ .cell) (hkind : scope.kind = .function) (hx : scope.names.lookup x = some .local) (hst : St 0 s₂.heap) (hfp : ∀ b ∈ fp, b < s₂.heap.objs.size) (hH : ∀ b o, H.get? b = some o → s₂.heap.get? b = some o ∧ b ∉ wr) (hE : ∀ i v C h tk m₂, i < n → P i v → (∀ b o, H.get? b = some o → h.get? b = some o) → H.get? C = none → h.Ns C m₂ → m₂ x = some v →
   ∀ (Q' : Bool → Value → Shared → Prop) (E' : Value → Shared → Prop), (∀ b r h' tk', R i b r → (∀ b o, h.get? b = some o → h'.get? b = some o) → Q' b r { s₂ with heap := h', toks := tk' }) →
    Turn1 prog w A ifs elt (compEnvC scope cl C env) Q' E' { s₂ with heap := h, toks := tk }) (hRR : ∀ D C h tk m' rs, (∀ b o, H.get? b = some o → h.get? b = some o) → h.get? D = some (lstE rs) → H.get? D = none → h.Ns C m' → H.get? C = none → @Ne Nat D C → Built R n rs → RR (.ref D) C (.ok .next) { s₂ with heap := h, toks := tk }) : wpAny (model prog w) A (newList []) (fun acc s₃ => wpAny (model prog w) A (newFunctionEnv scope env.globals cl [] env.qual none .none (some env)) (fun cenv s₄ =>
   codeAny (model prog w) A (.compStart (.ListComp elt [⟨.Name x px, iter, ifs, 0⟩] scope pos) 0 (.ref I) acc { cenv with scope := relabel scope env }) (RR acc cenv.locals) s₄) E s₃) E s₂ := bag_all (P := E_one_block.theP) (by with_unfolding_all exact @E_one_block.core) { bag0 with A := nth [A, A, A, A] bag0.A, addr := nth [I, I, I, I] bag0.addr, al := nth [fp, fp, fp, fp, wr] bag0.al, cl := nth [cl, cl, cl, cl] bag0.cl, env := nth [env, env, env, env] bag0.env, expr := nth [elt, elt, elt, elt, iter] bag0.expr, exprs := nth [ifs, ifs, ifs, ifs] bag0.exprs, heap := nth [H, H, H, H] bag0.heap, nat := nth [n, n, n, n] bag0.nat, nh := nth [St, St, St, St] bag0.nh, nv := nth [P, P, P, P] bag0.nv, pos := nth [px, px, px, px, pos] bag0.pos, prog := nth [prog, prog, prog, prog] bag0.prog, qv := nth [E, E, E, E] bag0.qv, s := nth [s₂, s₂, s₂, s₂] bag0.s, scope := nth [scope, scope, scope, scope] bag0.scope, str := nth [x, x, x, x] bag0.str, w := nth [w, w, w, w] bag0.w } W hsz hcell hkind hx hst hfp hH hE hRR
theorem comp_one {elt iter : PySem.Expr} {ifs : List PySem.Expr} {x : Str} {px : Pos} {scope : Scope} {cl : List (Str × Addr)} {pos : Pos} {Q : Value → Shared → Prop}
  (hclos : closureFor scope env = pure cl) (hcell : ∀ z ∈ scope.names, z.2 ≠ .cell) (hkind : scope.kind = .function) (hnames : ∀ z ∈ scope.names, z.2 = .local → scope.names.lookup z.1 = some .local)
  (hx : scope.names.lookup x = some .local)
  (h : wpAny (model prog w) A (eval iter env) (fun xv s₁ => wpAny (model prog w) A (pyIter xv) (One prog w A ifs elt x scope cl env (FinV Q)) E s₁) E s)
  (hs : ∀ x, foldedSetIterable iter env x = pure x := by intro _; rfl) :
  wpAny (model prog w) A (eval (.ListComp elt [⟨.Name x px, iter, ifs, 0⟩] scope pos) env) Q E s := by
 rw [eval_ListComp]
 refine wpAny_comprehension_free (use := none) rfl hs hclos hkind hnames (wpAny_mono h (fun xv s₁ h₁ => wpAny_mono h₁ (fun it s₂ h₂ => ?_) fun _ _ e => e) fun _ _ e => e)
 refine hdG ?_; intro Xh hXh
 refine ex6 h₂.ex ?_
 rintro R I fp wr n P hZ
 refine ex2 hZ ?_
 clear hZ
 rintro St H hZ
 refine an7 hZ ?_
 clear hZ
 rintro rfl W hsz hst hfp hH hE hQ
 refine hXh ?_; clear hXh
 refine one_block W hsz hcell hkind hx hst hfp hH hE fun D C h tk m' rs hk hD hHD hn hHC hDC hB => ?_
 refine ⟨m', hn, fun h'' hs'' => hQ D h'' tk rs (fun b o e => hs''.extBut b o (fun z => by rw [z, hHC] at e; cases e) (hk b o e)) (hs''.extBut _ _ hDC hD) hHD hB⟩
end
section
variable {prog : Program} {w : World} {A : Around} {E : Value → Shared → Prop} {s : Shared} {env : Env}
theorem comp_oneA {elt iter : PySem.Expr} {ifs : List PySem.Expr} {x z : Str} {px pz : Pos} {scope : Scope} {cl : List (Str × Addr)} {pos spos : Pos} {Q : Flow → Shared → Prop} (hsw : swapsWith (.ListComp elt [⟨.Name x px, iter, ifs, 0⟩] scope pos) (some (.Name z pz)) spos.line env = pure true) (hz : env.kindOf z = some .local) (hp : (env.scope.kind == .class || (env.scope.kind == .module && env.locals != env.globals)) = false) (hclos : closureFor scope env = pure cl) (hcell : ∀ z ∈ scope.names, z.2 ≠ .cell) (hkind : scope.kind = .function) (hnames : ∀ z ∈ scope.names, z.2 = .local → scope.names.lookup z.1 = some .local) (hx : scope.names.lookup x = some .local) (h : wpAny (model prog w) A (eval iter env) (fun xv s₁ => wpAny (model prog w) A (pyIter xv) (One prog w A ifs elt x scope cl env (FinZ env z Q)) E s₁) E s) (hs : ∀ x, foldedSetIterable iter env x = pure x := by intro _; rfl) : wpAny (model prog w) A (exec (.Assign [.Name z pz] (.ListComp elt [⟨.Name x px, iter, ifs, 0⟩] scope pos) spos) env) Q E s := by
 rw [exec_Assign_Name_used _ _ _ _ hsw]
 refine wpAny_bind (wpAny_standAt (wpAny_bind ?_))
 show wpAny _ A (do let _ ← comprehension (.ListComp elt [⟨.Name x px, iter, ifs, 0⟩] scope pos) scope env _ (newList []) false (eval iter env) (some (assign (.Name z pz) env))) _ _ s
 refine wpAny_bind (wpAny_mono (wpAny_comprehension_free (use := some (assign (.Name z pz) env)) (Q := fun _ s' => Q .next s') rfl hs hclos hkind hnames
  (wpAny_mono h (fun xv s₁ h₁ => wpAny_mono h₁ (fun it s₂ h₂ => ?_) fun _ _ e => e) fun _ _ e => e)) (fun _ s' hq => wpAny_pure (wpAny_pure hq)) fun _ _ e => e)
 refine hdG ?_; intro Xh hXh
 refine ex6 h₂.ex ?_
 rintro R I fp wr n P hZ
 refine ex2 hZ ?_
 clear hZ
 rintro St H hZ
 refine an7 hZ ?_
 clear hZ
 rintro rfl W hsz hst hfp hH hE hQ
 refine hXh ?_; clear hXh
 refine one_block W hsz hcell hkind hx hst hfp hH hE fun D C h tk m' rs hk hD hHD hn hHC hDC hB => ?_
 refine hdG ?_; intro Xh hXh
 obtain ⟨m, hNs, fin⟩ := hQ D h tk rs hk hD hHD hB
 refine ex3 (id hNs) ?_
 rintro oL _ _ hZ
 obtain ⟨hLo, _⟩ := hZ
 refine hXh ?_; clear hXh
 have hCL : C ≠ env.locals := fun q => by rw [q, hLo] at hHC; cases hHC
 have nL : h.Ns env.locals m := hNs.at' fun o e => hk _ o e
 show wpAny _ A (assign (.Name z pz) env (.ref D)) _ _ _
 refine wpAny_assign_Name (wpAny_storeName_local hz nL (fun h₃ hn₃ hs₃ => ?_) hp)
 refine ⟨m', hn.sameBut hs₃ hCL, fun h'' hs'' => ?_⟩
 have hDL : D ≠ env.locals := fun q => by rw [q, hLo] at hHD; cases hHD
 exact fin h'' _ (fun b o nb e => hs''.extBut b o (fun z => by rw [z, hHC] at e; cases e) (hs₃.extBut b o nb (hk b o e))) (hs''.extBut _ _ hDC (hs₃.extBut _ _ hDL hD)) (hn₃.sameBut hs'' (Ne.symm hCL))
end
section
variable {prog : Program} {w : World} {A : Around} {E : Value → Shared → Prop} {s : Shared} {env : Env} {h₀ : Heap} {L : Addr} {m : Str → Option Value} {news : List (Addr × Obj)}
theorem fresh_of {C : Addr} (F : Fr h₀ L s.heap m) (N : News h₀ L s.heap news) (e : s.heap.get? C = none) : C ≠ L ∧ h₀.get? C = none ∧ ∀ p ∈ news, @Ne Nat p.1 C := by
 refine hdG ?_; intro Xh hXh
 refine ex3 F.ns ?_
 rintro oL _ _ hZ
 obtain ⟨hL, _⟩ := hZ
 refine hXh ?_; clear hXh
 refine (ia2 (fun q => ?_) ?_ (fun p hp q => ?_))
 ·rw [q, hL] at e; cases e
 ·cases e' : h₀.get? C with
  | none => rfl
  | some o => rw [F.keep _ _ e'] at e; cases e
 ·have q' : p.1 = C := q
  rw [← q', (N p hp).1] at e; cases e
theorem one_of {ifs : List PySem.Expr} {elt : PySem.Expr} {x : Str} {scope : Scope} {cl : List (Str × Addr)} {s₂ : Shared} {tk₀ : Nat} {h₂ : Heap} {Fin : Heap → Addr → List Value → Shared → Prop} {R : Nat → Bool → Value → Prop} {I : Addr} {fp wr : List Addr} {n : Nat} {P : Nat → Value → Prop} {St : Nat → Heap → Prop}
  (W : Walks prog w A I fp wr n P St) (hsz : n ≤ sizeLine) (es : s₂ = { s with heap := h₂, toks := tk₀ }) (hst : St 0 h₂) (hfp : ∀ b ∈ fp, b < h₂.objs.size) (hk : ∀ b o, s.heap.get? b = some o → h₂.get? b = some o ∧ b ∉ wr)
  (F : Fr h₀ L s.heap m) (N : News h₀ L s.heap news)
  (hE : ∀ i v C oC h tk m₂ (Q' : Bool → Value → Shared → Prop) (E' : Value → Shared → Prop), i < n → P i v → LCg.NsObj oC m₂ → m₂ x = some v → Fr h₀ L h m → News h₀ L h ((C, oC) :: news) → (∀ p ∈ news, @Ne Nat p.1 C) →
   (∀ b r h' tk', R i b r → (∀ b o, h.get? b = some o → h'.get? b = some o) → Q' b r { s with heap := h', toks := tk' }) → Turn1 prog w A ifs elt (compEnvC scope cl C env) Q' E' { s with heap := h, toks := tk })
  (hQ : ∀ D h tk rs, Fr h₀ L h m → News h₀ L h ((D, lstE rs) :: news) → (∀ p ∈ news, @Ne Nat p.1 D) → Built R n rs → s.heap.get? D = none → (∀ b o, s.heap.get? b = some o → h.get? b = some o) → Fin s.heap D rs { s with heap := h, toks := tk }) :
  One prog w A ifs elt x scope cl env Fin (.ref I) s₂ := by
 subst es
 refine ⟨R, I, fp, wr, n, P, St, s.heap, rfl, W, hsz, hst, hfp, hk, fun i v C h tk m₂ hi hP hk' hC hns hv Q' E' ret => ?_, fun D h tk rs hk' hD hH hB => ?_⟩
 ·obtain ⟨oC, eC, nC⟩ := LCg.ns_obj hns
  refine hdG ?_; intro Xh hXh
  refine an2 (fresh_of F N hC) ?_
  rintro f1 f2 f3
  refine hXh ?_; clear hXh
  refine hE i v C oC h tk m₂ Q' E' hi hP nC hv (F.keeps hk') (fun p hp => ?_) f3 ret
  rcases List.mem_cons.mp hp with rfl | hp
  ·exact (ia2 eC f1 f2)
  ·exact ⟨hk' _ _ (N p hp).1, (N p hp).2⟩
 ·refine an2 (fresh_of F N hH) ?_
  rintro f1 f2 f3
  refine hQ D h tk rs (F.keeps hk') (fun p hp => ?_) f3 hB hH hk'
  rcases List.mem_cons.mp hp with rfl | hp
  ·exact (ia2 hD f1 f2)
  ·exact ⟨hk' _ _ (N p hp).1, (N p hp).2⟩
theorem one_list {ifs : List PySem.Expr} {elt : PySem.Expr} {x : Str} {scope : Scope} {cl : List (Str × Addr)} {l : Addr} {items : Array Value} {Fin : Heap → Addr → List Value → Shared → Prop} (R : Nat → Bool → Value → Prop)
  (F : Fr h₀ L s.heap m) (N : News h₀ L s.heap news) (hl : s.heap.IsList l items) (hh : A.handled = none) (hsz : items.size ≤ sizeLine)
  (hE : ∀ i v C oC h tk m₂ (Q' : Bool → Value → Shared → Prop) (E' : Value → Shared → Prop), i < items.size → items[i]? = some v → LCg.NsObj oC m₂ → m₂ x = some v → Fr h₀ L h m → News h₀ L h ((C, oC) :: news) → (∀ p ∈ news, @Ne Nat p.1 C) →
   (∀ b r h' tk', R i b r → (∀ b o, h.get? b = some o → h'.get? b = some o) → Q' b r { s with heap := h', toks := tk' }) → Turn1 prog w A ifs elt (compEnvC scope cl C env) Q' E' { s with heap := h, toks := tk })
  (hQ : ∀ D h tk rs, Fr h₀ L h m → News h₀ L h ((D, lstE rs) :: news) → (∀ p ∈ news, @Ne Nat p.1 D) → Built R items.size rs → s.heap.get? D = none → (∀ b o, s.heap.get? b = some o → h.get? b = some o) → Fin s.heap D rs { s with heap := h, toks := tk }) :
  wpAny (model prog w) A (pyIter (.ref l)) (One prog w A ifs elt x scope cl env Fin) E s := by
 have hlt : l < s.heap.objs.size := by obtain ⟨_, e, _⟩ := hl; exact Heap.lt_size e
 refine wpAny_pyIter_list hl ?_
 refine one_of (tk₀ := s.toks) (Walks.list hh s.heap.objs.size l (Nat.ne_of_lt hlt) items) hsz rfl ⟨(⟨_, ia2 (Heap.get?_push_size _ rfl) rfl rfl⟩), hl.push _⟩ (fun b hb => ?_) (fun b o e => ⟨Heap.get?_push_of_some _ e, fun hb => ?_⟩) F N hE hQ
 ·show b < (s.heap.push _).objs.size
  rw [Heap.size_push]
  rcases List.mem_cons.mp hb with rfl | hb
  ·exact Nat.lt_succ_self _
  ·rw [List.mem_singleton.mp hb]; exact Nat.lt_succ_of_lt hlt
 ·have := Heap.lt_size e
  rw [List.mem_singleton.mp hb] at this
  exact absurd this (Nat.lt_irrefl _)
theorem one_tuple {ifs : List PySem.Expr} {elt : PySem.Expr} {x : Str} {scope : Scope} {cl : List (Str × Addr)} {l : Addr} {items : Array Value} {Fin : Heap → Addr → List Value → Shared → Prop} (R : Nat → Bool → Value → Prop)
  (F : Fr h₀ L s.heap m) (N : News h₀ L s.heap news) (hl : s.heap.IsTuple l items) (hh : A.handled = none) (hsz : items.size ≤ sizeLine)
  (hE : ∀ i v C oC h tk m₂ (Q' : Bool → Value → Shared → Prop) (E' : Value → Shared → Prop), i < items.size → items[i]? = some v → LCg.NsObj oC m₂ → m₂ x = some v → Fr h₀ L h m → News h₀ L h ((C, oC) :: news) → (∀ p ∈ news, @Ne Nat p.1 C) →
   (∀ b r h' tk', R i b r → (∀ b o, h.get? b = some o → h'.get? b = some o) → Q' b r { s with heap := h', toks := tk' }) → Turn1 prog w A ifs elt (compEnvC scope cl C env) Q' E' { s with heap := h, toks := tk })
  (hQ : ∀ D h tk rs, Fr h₀ L h m → News h₀ L h ((D, lstE rs) :: news) → (∀ p ∈ news, @Ne Nat p.1 D) → Built R items.size rs → s.heap.get? D = none → (∀ b o, s.heap.get? b = some o → h.get? b = some o) → Fin s.heap D rs { s with heap := h, toks := tk }) :
  wpAny (model prog w) A (pyIter (.ref l)) (One prog w A ifs elt x scope cl env Fin) E s := by
 have hlt : l < s.heap.objs.size := by obtain ⟨_, e, _⟩ := hl; exact Heap.lt_size e
 refine wpAny_pyIter_tuple hl ?_
 refine one_of (tk₀ := s.toks) (Walks.tuple hh s.heap.objs.size l (Nat.ne_of_lt hlt) items) hsz rfl ⟨(⟨_, ia2 (Heap.get?_push_size _ rfl) rfl rfl⟩), hl.push _⟩ (fun b hb => ?_) (fun b o e => ⟨Heap.get?_push_of_some _ e, fun hb => ?_⟩) F N hE hQ
 ·show b < (s.heap.push _).objs.size
  rw [Heap.size_push]
  rcases List.mem_cons.mp hb with rfl | hb
  ·exact Nat.lt_succ_self _
  ·rw [List.mem_singleton.mp hb]; exact Nat.lt_succ_of_lt hlt
 ·have := Heap.lt_size e
  rw [List.mem_singleton.mp hb] at this
  exact absurd this (Nat.lt_irrefl _)
end
end Mine
end
section
open PySem PySem.W PyProof.Rows PySem.Calls PySem.Spec
set_option Elab.async false
set_option maxRecDepth 100000
namespace Mine
section
variable {prog : Program} {w : World} {A : Around} {E : Value → Shared → Prop} {s : Shared} {env : Env} {h₀ : Heap} {L : Addr} {m : Str → Option Value} {news : List (Addr × Obj)}
theorem built3 {Z : Nat → Int} {rs : List Value} (h : Built (fun i b r => b = true ∧ IntV r (Z i)) 3 rs) : ∃ v0 v1 v2, rs = [.int (Z 0) v0, .int (Z 1) v1, .int (Z 2) v2] := by
 cases h with
 | skip _ h => cases h.1
 | take h h2 =>
  cases h with
  | skip _ h => cases h.1
  | take h h1 =>
   cases h with
   | skip _ h => cases h.1
   | take h h0 =>
    cases h
    refine hdG ?_; intro Xh hXh
    obtain ⟨-, v0, rfl⟩ := h0
    obtain ⟨-, v1, rfl⟩ := h1
    obtain ⟨-, v2, rfl⟩ := h2
    refine hXh ?_; clear hXh
    exact (ix3 v0 v1 v2 rfl)
theorem one_told {elt : PySem.Expr} {x : Str} {scope : Scope} {cl : List (Str × Addr)} {l : Addr} {f0 f1 f2 : UInt64} {t0 t1 t2 : Tok} {n : Nat} {z0 z1 z2 : Int} {Q : Value → Shared → Prop}
  (F : Fr h₀ L s.heap m) (N : News h₀ L s.heap news) (hm : (l, { cls := .type "tuple", data := .seq #[.float f0 t0, .float f1 t1, .float f2 t2] n }) ∈ news) (hh : A.handled = none)
  (p0 : calm f0 80000000000 = true ∧ wholeOf f0 80000000000 = z0) (p1 : calm f1 80000000000 = true ∧ wholeOf f1 80000000000 = z1) (p2 : calm f2 80000000000 = true ∧ wholeOf f2 80000000000 = z2)
  (hE : ∀ f tf C oC h tk m₂ (Q' E' : Value → Shared → Prop), calm f 80000000000 = true → LCg.NsObj oC m₂ → m₂ x = some (.float f tf) → Fr h₀ L h m → News h₀ L h ((C, oC) :: news) → LCg.Off1 C news →
   EltRet (fun r => IntV r (wholeOf f 80000000000)) h s Q' → wpAny (model prog w) A (eval elt (compEnvC scope cl C env)) Q' E' { s with heap := h, toks := tk })
  (hQ : ∀ D h tk v0 v1 v2, Fr h₀ L h m → News h₀ L h ((D, W.listOf #[.int z0 v0, .int z1 v1, .int z2 v2] 3) :: news) → (∀ p ∈ news, @Ne Nat p.1 D) → Q (.ref D) { s with heap := h, toks := tk }) :
  wpAny (model prog w) A (pyIter (.ref l)) (One prog w A [] elt x scope cl env (FinV Q)) E s := by
 refine one_tuple (fun i b r => b = true ∧ IntV r (pick z0 z1 z2 i)) F N (⟨_, ia2 ((N _ hm).1) rfl ⟨n, rfl⟩⟩) hh (Nat.le_of_ble_eq_true rfl) (fun i v C oC h tk m₂ Q' E' hi e nC hv F' N' off ret => ?_) fun D h tk rs F' N' off hB _ _ => ?_
 ·refine Turn1.plain ?_
  match i, hi with
  | 0, _ => cases e; exact hE _ _ C oC h tk m₂ _ E' p0.1 nC hv F' N' (off1_of off) fun r h' tk' hr hk => ret true r h' tk' ⟨rfl, by rw [p0.2] at hr; exact hr⟩ hk
  | 1, _ => cases e; exact hE _ _ C oC h tk m₂ _ E' p1.1 nC hv F' N' (off1_of off) fun r h' tk' hr hk => ret true r h' tk' ⟨rfl, by rw [p1.2] at hr; exact hr⟩ hk
  | 2, _ => cases e; exact hE _ _ C oC h tk m₂ _ E' p2.1 nC hv F' N' (off1_of off) fun r h' tk' hr hk => ret true r h' tk' ⟨rfl, by rw [p2.2] at hr; exact hr⟩ hk
 ·refine ex3 (built3 hB) ?_
  rintro v0 v1 v2 rfl
  exact hQ D h tk v0 v1 v2 F' N' off
theorem one_sums {elt : PySem.Expr} {x : Str} {scope : Scope} {cl : List (Str × Addr)} {l : Addr} {a0 a1 a2 : Int} {t0 t1 t2 : Tok} {n : Nat} {Q : Value → Shared → Prop}
  (F : Fr h₀ L s.heap m) (N : News h₀ L s.heap news) (hm : (l, W.listOf #[.int a0 t0, .int a1 t1, .int a2 t2] n) ∈ news) (hh : A.handled = none)
  (hE : ∀ a ta C oC h tk m₂ (Q' E' : Value → Shared → Prop), LCg.NsObj oC m₂ → m₂ x = some (.int a ta) → Fr h₀ L h m → News h₀ L h ((C, oC) :: news) → LCg.Off1 C news →
   EltRet (fun r => IntV r (1000000 * a)) h s Q' → wpAny (model prog w) A (eval elt (compEnvC scope cl C env)) Q' E' { s with heap := h, toks := tk })
  (hQ : ∀ D h tk v0 v1 v2, Fr h₀ L h m → News h₀ L h ((D, W.listOf #[.int (1000000 * a0) v0, .int (1000000 * a1) v1, .int (1000000 * a2) v2] 3) :: news) → (∀ p ∈ news, @Ne Nat p.1 D) → Q (.ref D) { s with heap := h, toks := tk }) :
  wpAny (model prog w) A (pyIter (.ref l)) (One prog w A [] elt x scope cl env (FinV Q)) E s := by
 refine one_list (fun i b r => b = true ∧ IntV r (pick (1000000 * a0) (1000000 * a1) (1000000 * a2) i)) F N (⟨_, ia2 ((N _ hm).1) rfl ⟨n, rfl⟩⟩) hh (Nat.le_of_ble_eq_true rfl) (fun i v C oC h tk m₂ Q' E' hi e nC hv F' N' off ret => ?_) fun D h tk rs F' N' off hB _ _ => ?_
 ·refine Turn1.plain ?_
  match i, hi with
  | 0, _ => cases e; exact hE _ _ C oC h tk m₂ _ E' nC hv F' N' (off1_of off) fun r h' tk' hr hk => ret true r h' tk' ⟨rfl, hr⟩ hk
  | 1, _ => cases e; exact hE _ _ C oC h tk m₂ _ E' nC hv F' N' (off1_of off) fun r h' tk' hr hk => ret true r h' tk' ⟨rfl, hr⟩ hk
  | 2, _ => cases e; exact hE _ _ C oC h tk m₂ _ E' nC hv F' N' (off1_of off) fun r h' tk' hr hk => ret true r h' tk' ⟨rfl, hr⟩ hk
 ·refine ex3 (built3 hB) ?_
  rintro v0 v1 v2 rfl
  exact hQ D h tk v0 v1 v2 F' N' off
end
end Mine
namespace Mine
theorem sub_tat {prog : Program} {w : World} {A : Around} {E : Value → Shared → Prop} {s : Shared} {h₀ : Heap} {L : Addr} {news : List (Addr × Obj)} {value slice : PySem.Expr} {l : Addr} {items : Array Value} {n : Nat} {k : Nat} {t : Tok} {x : Value} {Q : Value → Shared → Prop} (N : News h₀ L s.heap news) (hm : (l, { cls := .type "tuple", data := .seq items n }) ∈ news) (hk : k < 1000) (hx : items[k]? = some x) (h : Q x s)
  (hs : subscripted slice false (.ref l) (.int k t) = operate [.ref l, .int k t] (getItem (.ref l) (.int k t)) := by with_unfolding_all rfl) (ht : ∀ r, letTemporaryGo value (.ref l) r = pure () := by intro _; with_unfolding_all rfl) :
  wpAny (model prog w) A (subscriptTail value slice (.ref l) (.int k t)) Q E s :=
 have hl : s.heap.IsTuple l items := (⟨_, ia2 ((N _ hm).1) rfl ⟨n, rfl⟩⟩)
 subscriptTail_builtin hl.typeIs PySem.F.slot_tuple_getitem.lookup (getItem_tuple hl (by grind) (by grind) (j := k) (seqIndex_of (by grind) (by have := (Array.getElem?_eq_some_iff.mp hx).1; grind)) hx h) hs ht
end Mine
namespace Mine
theorem whole8 (w : World) (mg mb) {x : UInt64} {z : Int} {tx tp : Tok} (hc : calm x 800 = true ∧ wholeOf x 800 = z) : FunA 2 w mg mb 321 [.float x tx, .int 800 tp] [] (fun r tl => tl = [] ∧ ∃ t, r = .int z t) := by
 obtain ⟨a, rfl⟩ := hc
 exact whole w mg mb (.inl rfl) a
theorem append_ints {prog : Program} {w : World} {A : Around} {E : Value → Shared → Prop} {s : Shared} {h₀ : Heap} {L D : Addr} {m : Str → Option Value} {news : List (Addr × Obj)} {vs : List Value} {ns : List Int} {n : Nat} {k : Int} {t : Tok} {g : Obj → List (Addr × Obj)} {Q : Value → Shared → Prop} (F : Fr h₀ L s.heap m) (N : News h₀ L s.heap news) (U : UpdF D (lstO vs n) news g) (iv : IntsAre vs ns) (hz : vs.length ≤ 1000)
  (h : ∀ h', Fr h₀ L h' m → News h₀ L h' (g (lstO (vs ++ [.int k t]) (n + 1))) → IntsAre (vs ++ [.int k t]) (ns ++ [k]) → Q .none { s with heap := h' }) : wpAny (model prog w) A (call (.builtin "list.append") [.ref D, .int k t]) Q E s := by
 refine hdG ?_; intro Xh hXh
 refine ex2 U.split ?_
 rintro pre post hZ
 refine an3 hZ ?_
 clear hZ
 rintro rfl hg a b
 refine hXh ?_; clear hXh
 have z := N (D, lstO vs n) (List.mem_append.mpr (.inr (.head _)))
 refine append_at (hsz := by rw [List.size_toArray, sizeLine_eq]; grind) z.1 fun h' hs ho' => h h' (F.change hs z.2.1 z.2.2) ?_ (iv.append (.cons k t .nil))
 rw [hg]
 rw [List.push_toArray] at ho'
 exact news_set N a b hs ho'
theorem news_dup {h₀ h : Heap} {L : Addr} {news : List (Addr × Obj)} {p : Addr × Obj} (N : News h₀ L h news) (hp : p ∈ news) : News h₀ L h (p :: news) := fun q hq => by
 rcases List.mem_cons.mp hq with rfl | hq
 ·exact N _ hp
 ·exact N q hq
end Mine
namespace Mine
theorem stage4 {P : Prop} {g h : Heap} {L D itI itO S DU PG : Addr} {oX oiI oiO o1 o2 o3 o4 : Obj} {x1 x2 y1 y2 z1 z2 z3 z4 z5 z6 z7 : Addr × Obj} {fz : List (Addr × Obj)} (N : News g L h (x1 :: x2 :: (D, oX) :: y1 :: y2 :: (itI, oiI) :: (283, o1) :: (S, o2) :: (DU, o3) :: (PG, o4) :: (itO, oiO) :: z1 :: z2 :: z3 :: z4 :: z5 :: z6 :: z7 :: fz)) (off' : ∀ p ∈ y1 :: y2 :: (itI, oiI) :: (283, o1) :: (S, o2) :: (DU, o3) :: (PG, o4) :: (itO, oiO) :: z1 :: z2 :: z3 :: z4 :: z5 :: z6 :: z7 :: fz, @Ne Nat p.1 D) (off : ∀ p ∈ fz, @Ne Nat p.1 283 ∧ @Ne Nat p.1 S ∧ @Ne Nat p.1 DU ∧ @Ne Nat p.1 PG ∧ @Ne Nat p.1 itO) (hit : ∀ p ∈ (283, o1) :: (S, o2) :: (DU, o3) :: (PG, o4) :: (itO, oiO) :: fz, @Ne Nat p.1 itI) (k : ∀ fz', News g L h ((itI, oiI) :: (283, o1) :: (S, o2) :: (DU, o3) :: (PG, o4) :: (itO, oiO) :: fz') → (D, oX) ∈ fz' → (∀ p ∈ fz, p ∈ fz') → (∀ p ∈ fz', @Ne Nat p.1 283) → (∀ p ∈ fz', @Ne Nat p.1 S) → (∀ p ∈ fz', @Ne Nat p.1 DU) → (∀ p ∈ fz', @Ne Nat p.1 PG) → (∀ p ∈ fz', @Ne Nat p.1 itI) → (∀ p ∈ fz', @Ne Nat p.1 itO) → @Ne Nat 283 itI → @Ne Nat S itI → @Ne Nat DU itI → @Ne Nat PG itI → @Ne Nat itO itI → P) : P := by
 have hm : ∀ p ∈ (itI, oiI) :: (283, o1) :: (S, o2) :: (DU, o3) :: (PG, o4) :: (itO, oiO) :: fz, @Ne Nat p.1 D := fun p hp => off' p (by
  revert p; (try dsimp only [List.cons_append, List.nil_append]); repeat' with_reducible first | exact sbn | exact sbr | exact sbl | exact sbq | refine sbc ?_ ?_ | refine sba ?_ ?_ | exact mmh | assumption | refine mmt ?_ | refine mmr ?_ | refine sbt ?_ | refine sbp ?_)
 simp only [List.forall_mem_cons] at hm hit
 refine hdG ?_; intro Xh hXh
 refine an6 hm ?_
 try clear hm
 rintro b0 b1 b2 b3 b4 b5 b6
 refine an5 hit ?_
 try clear hit
 rintro c1 c2 c3 c4 c5 c6
 refine hXh ?_; clear hXh
 have b0 : @Ne Nat itI D := b0
 have b1 : @Ne Nat 283 D := b1
 have b2 : @Ne Nat S D := b2
 have b3 : @Ne Nat DU D := b3
 have b4 : @Ne Nat PG D := b4
 have b5 : @Ne Nat itO D := b5
 refine k ((D, oX) :: fz) (fun p hp => N p ?_) (.head _) (fun p hp => .tail _ hp) ?_ ?_ ?_ ?_ ?_ ?_ c1 c2 c3 c4 c5
 ·revert p; (try dsimp only [List.cons_append, List.nil_append]); repeat' with_reducible first | exact sbn | exact sbr | exact sbl | exact sbq | refine sbc ?_ ?_ | refine sba ?_ ?_ | exact mmh | assumption | refine mmt ?_ | refine mmr ?_ | refine sbt ?_ | refine sbp ?_
 ·exact List.forall_mem_cons.mpr ⟨b1.symm, fun p hp => (off p hp).1⟩
 ·exact List.forall_mem_cons.mpr ⟨b2.symm, fun p hp => (off p hp).2.1⟩
 ·exact List.forall_mem_cons.mpr ⟨b3.symm, fun p hp => (off p hp).2.2.1⟩
 ·exact List.forall_mem_cons.mpr ⟨b4.symm, fun p hp => (off p hp).2.2.2.1⟩
 ·exact List.forall_mem_cons.mpr ⟨b0.symm, c6⟩
 ·exact List.forall_mem_cons.mpr ⟨b5.symm, fun p hp => (off p hp).2.2.2.2⟩
end Mine
end
section
open PySem PySem.W PyProof.Rows PySem.Calls PySem.Spec
set_option Elab.async false
set_option maxRecDepth 100000
namespace Mine
theorem turn_news {g h : Heap} {L : Addr} {x5 xz x4 xi x0 xS xD xP xO : Addr × Obj} {fz : List (Addr × Obj)} (N : News g L h (x5 :: xz :: x4 :: xi :: x0 :: xS :: xD :: xP :: xO :: fz)) : News g L h ([xi] ++ (x0 :: xS :: xD :: xP :: xO :: x5 :: x4 :: fz)) := fun p hp => N p (by
 revert p; (try dsimp only [List.cons_append, List.nil_append]); repeat' with_reducible first | exact sbn | exact sbr | exact sbl | exact sbq | refine sbc ?_ ?_ | refine sba ?_ ?_ | exact mmh | assumption | refine mmt ?_ | refine mmr ?_ | refine sbt ?_ | refine sbp ?_)
theorem name5 {P : Prop} {g h : Heap} {L D5 Dz D4 : Addr} {o5 oz o4 : Obj} {r : List (Addr × Obj)} (_N : News g L h ((D5, o5) :: (Dz, oz) :: (D4, o4) :: r)) (k : ∀ X5 Xz X4, X5 = D5 → Xz = Dz → X4 = D4 → P) : P := k D5 Dz D4 rfl rfl rfl
theorem inn_off {D5 Dz D4 itI itO S DU PG : Addr} {o5 o4 : Obj} {fz2 : List (Addr × Obj)} (l4 : itI < D4 ∧ 283 < D4 ∧ S < D4 ∧ DU < D4 ∧ PG < D4 ∧ itO < D4 ∧ AllLt D4 fz2) (l5 : Dz < D5 ∧ D4 < D5 ∧ itI < D5 ∧ 283 < D5 ∧ S < D5 ∧ DU < D5 ∧ PG < D5 ∧ itO < D5 ∧ AllLt D5 fz2)
  (f1 : ∀ p ∈ fz2, @Ne Nat p.1 283) (f2 : ∀ p ∈ fz2, @Ne Nat p.1 S) (f3 : ∀ p ∈ fz2, @Ne Nat p.1 DU) (f4 : ∀ p ∈ fz2, @Ne Nat p.1 PG) (f6 : ∀ p ∈ fz2, @Ne Nat p.1 itO) : ∀ p ∈ ((D5, o5) :: (D4, o4) :: fz2 : List (Addr × Obj)), @Ne Nat p.1 283 ∧ @Ne Nat p.1 S ∧ @Ne Nat p.1 DU ∧ @Ne Nat p.1 PG ∧ @Ne Nat p.1 itO := by
 refine an6 l4 ?_
 try clear l4
 rintro a1 a2 a3 a4 a5 a6 -
 refine an8 l5 ?_
 try clear l5
 rintro b0 b1 b2 b3 b4 b5 b6 b7 -
 refine List.forall_mem_cons.mpr ⟨(ia4 (Nat.ne_of_gt b3) (Nat.ne_of_gt b4) (Nat.ne_of_gt b5) (Nat.ne_of_gt b6) (Nat.ne_of_gt b7)), List.forall_mem_cons.mpr ⟨(ia4 (Nat.ne_of_gt a2) (Nat.ne_of_gt a3) (Nat.ne_of_gt a4) (Nat.ne_of_gt a5) (Nat.ne_of_gt a6)), fun p hp => (ia4 (f1 p hp) (f2 p hp) (f3 p hp) (f4 p hp) (f6 p hp))⟩⟩
theorem inn_it {D5 Dz D4 itI itO S DU PG : Addr} {oi o0 oS oD oP oO o5 o4 : Obj} {fz2 : List (Addr × Obj)} (l4 : itI < D4 ∧ 283 < D4 ∧ S < D4 ∧ DU < D4 ∧ PG < D4 ∧ itO < D4 ∧ AllLt D4 fz2) (l5 : Dz < D5 ∧ D4 < D5 ∧ itI < D5 ∧ 283 < D5 ∧ S < D5 ∧ DU < D5 ∧ PG < D5 ∧ itO < D5 ∧ AllLt D5 fz2)
  (g1 : @Ne Nat 283 itI) (g2 : @Ne Nat S itI) (g3 : @Ne Nat DU itI) (g4 : @Ne Nat PG itI) (g5 : @Ne Nat itO itI) (f5 : ∀ p ∈ fz2, @Ne Nat p.1 itI) : ∀ p ∈ ((283, o0) :: (S, oS) :: (DU, oD) :: (PG, oP) :: (itO, oO) :: (D5, o5) :: (D4, o4) :: fz2 : List (Addr × Obj)), p.1 ∉ ([(itI, oi)] : List (Addr × Obj)).map (·.1) := by
 obtain ⟨a1, -⟩ := l4
 refine an3 l5 ?_
 try clear l5
 rintro b0 b1 b2 -
 refine off_one (List.forall_mem_cons.mpr ⟨g1, List.forall_mem_cons.mpr ⟨g2, List.forall_mem_cons.mpr ⟨g3, List.forall_mem_cons.mpr ⟨g4, List.forall_mem_cons.mpr ⟨g5, List.forall_mem_cons.mpr ⟨Nat.ne_of_gt b2, List.forall_mem_cons.mpr ⟨Nat.ne_of_gt a1, f5⟩⟩⟩⟩⟩⟩⟩)
end Mine
end
section
open PySem PySem.W PyProof.Rows PySem.Calls PySem.Spec
set_option Elab.async false
set_option maxRecDepth 100000
namespace Mine
noncomputable def ReadsIn (fz : List (Addr × Obj)) (v : Value) (d : PyData) : Prop := ∀ h : Heap, (∀ p ∈ fz, h.get? p.1 = some p.2) → ∃ as, Reads h v d as
theorem ReadsIn.mono {fz fz' : List (Addr × Obj)} {v : Value} {d : PyData} (x : ReadsIn fz v d) (k : ∀ p ∈ fz, p ∈ fz') : ReadsIn fz' v d := fun h hp => x h fun p hm => hp p (k p hm)
theorem ReadsIn.int (fz : List (Addr × Obj)) (i : Int) (t : Tok) : ReadsIn fz (.int i t) (.int i) := fun _ _ => ⟨_, .int i t⟩
theorem reads_ints {h : Heap} {vs : List Value} {ns : List Int} (i : IntsAre vs ns) : ∃ as, ReadsAll h vs (ns.map PyData.int) as := by
 induction i with
 | nil => exact ⟨_, .nil⟩
 | cons k t _ ih => obtain ⟨as, r⟩ := ih; exact ⟨_, .cons (.int k t) r⟩
theorem TupV.reads {fz : List (Addr × Obj)} {v : Value} {q : List Int} (x : TupV fz v q) : ReadsIn fz v (.tuple (q.map PyData.int)) := fun h hp => by
 refine hdG ?_; intro Xh hXh
 refine ex3 x ?_
 try clear x
 rintro A vs n hZ
 refine an3 hZ ?_
 clear hZ
 rintro rfl hm hi _
 obtain ⟨as, r⟩ := reads_ints (h := h) hi
 refine hXh ?_; clear hXh
 exact ⟨_, .tuple (hp _ hm) rfl rfl (by rw [List.toList_toArray]; exact r)⟩
theorem IntV.reads {fz : List (Addr × Obj)} {v : Value} {q : Int} (x : IntV v q) : ReadsIn fz v (.int q) := by
 obtain ⟨t, rfl⟩ := x; exact ReadsIn.int _ _ _
noncomputable def itemP {β : Type} (rd : β → PyData) (p : Int × β) : PyData := .tuple [.int p.1, rd p.2]
theorem reads_items {prog : Program} {w : World} {β : Type} {V : Value → β → Prop} {rd : β → PyData} {h : Heap} {kvs : List (Int × Value)} {dd : List (Int × β)} (hr : Rep V kvs dd) (hV : ∀ v x, V v x → ∃ as, Reads h v (rd x) as) :
  ∀ as : List Addr, as.length = kvs.length → (∀ (j : Nat) (a : Addr), as[j]? = some a → ∃ key k x, kvs[j]? = some (k, x) ∧ (intKind prog w).is k key = true ∧ h.get? a = some { cls := .type "tuple", data := .seq #[key, x] }) → ∃ bs, ReadsAll h (as.map Value.ref) (dd.map (itemP rd)) bs := by
 induction hr with
 | nil => intro as hl _; rw [List.eq_nil_of_length_eq_zero hl]; exact ⟨_, .nil⟩
 | @cons k v x r s a _ ih =>
  intro as hl hp
  match as, hl with
  | b :: as, hl =>
   refine hdG ?_; intro Xh hXh
   refine ex3 (hp 0 b rfl) ?_
   rintro key k' x' hZ
   refine an2 hZ ?_
   clear hZ
   rintro e1 e2 e3
   simp only [List.getElem?_cons_zero, Option.some.injEq, Prod.mk.injEq] at e1
   obtain ⟨rfl, rfl⟩ := e1
   obtain ⟨t, rfl⟩ := int_key e2
   obtain ⟨bs, rs⟩ := ih as (by simpa using hl) fun j c e => hp (j + 1) c (by simpa using e)
   obtain ⟨cs, rv⟩ := hV _ _ a
   refine hXh ?_; clear hXh
   exact ⟨_, .cons (.tuple e3 rfl rfl (.cons (.int _ _) (.cons rv .nil))) rs⟩
section
variable {prog : Program} {w : World} {A : Around} {E : Value → Shared → Prop} {s : Shared} {h₀ : Heap} {L : Addr} {m : Str → Option Value} {news : List (Addr × Obj)}
end
section
variable {prog : Program} {w : World} {A : Around} {E : Value → Shared → Prop} {s : Shared} {h₀ : Heap} {L : Addr} {m : Str → Option Value} {news : List (Addr × Obj)}
theorem list_items {β : Type} {V : Value → β → Prop} {rd : β → PyData} {v d : Addr} {od : Obj} {kvs : List (Int × Value)} {dd : List (Int × β)} {fz : List (Addr × Obj)} {Q : Value → Shared → Prop} (hh : A.handled = none) (F : Fr h₀ L s.heap m) (N : News h₀ L s.heap news) (hvw : (v, { cls := .type "dict_items", data := .fields #[.ref d] }) ∈ news) (hmd : (d, od) ∈ news) (hod : od.IsDictOf (intKind prog w) kvs) (hr : Rep V kvs dd) (hn : kvs.length ≤ sizeLine) (hV : ∀ v x, V v x → ReadsIn fz v (rd x)) (h : ∀ B tl h' tk, Fr h₀ L h' m → News h₀ L h' (tl ++ news) → (∀ p ∈ tl, ∀ q ∈ news, @Ne Nat q.1 p.1) → ReadsIn (tl ++ fz) (.ref B) (.list (dd.map (itemP rd))) → Q (.ref B) { s with heap := h', toks := tk }) : wpAny (model prog w) A (call (.type "list") [.ref v]) Q E s := by
 obtain ⟨ep, hat⟩ := KdkAt.of hod
 refine kdx_call (knd := intKind prog w) (kvs := kvs) (ep := ep) hh (⟨_, ia2 ((N _ hvw).1) rfl rfl⟩) (hat.dictAt (N _ hmd).1) hn fun h' tk acc c as hk hS hl hG hacc => ?_
 let tl : List (Addr × Obj) := (s.heap.objs.size, { cls := .type "list", dict := none, data := .seq acc c, slots := #[] }) :: as.map fun a => (a, (h'.get? a).getD default)
 have htl : ∀ p ∈ tl, h'.get? p.1 = some p.2 ∧ s.heap.objs.size ≤ p.1 := fun p hp => by
  rcases List.mem_cons.mp hp with rfl | hp
  ·exact ⟨hS, Nat.le_refl _⟩
  ·obtain ⟨a, ha, rfl⟩ := List.mem_map.mp hp
   refine ⟨?_, Nat.le_of_lt (hG.above a ha)⟩
   refine hdG ?_; intro Xh hXh
   obtain ⟨j, hj⟩ := List.mem_iff_getElem?.mp ha
   refine ex3 (hG.pairs j a hj) ?_
   rintro _ _ _ hZ
   refine an2 hZ ?_
   clear hZ
   rintro _ _ e
   refine hXh ?_; clear hXh
   rw [e]; rfl
 have fresh : ∀ p ∈ tl, s.heap.get? p.1 = none := fun p hp => by
  cases e : s.heap.get? p.1 with
  | none => rfl
  | some o => exact absurd (Heap.lt_size e) (Nat.not_lt.mpr (htl p hp).2)
 refine hdG ?_; intro Xh hXh
 refine ex3 (id F.ns) ?_
 rintro oL _ _ hZ
 obtain ⟨hL, _⟩ := hZ
 refine hXh ?_; clear hXh
 refine h s.heap.objs.size tl h' tk (F.keeps hk) (fun p hp => ?_) (fun p hp q hq e => ?_) fun g hg => ?_
 ·rcases List.mem_append.mp hp with hp | hp
  ·refine (ia2 ((htl p hp).1) (fun e => ?_) ?_)
   ·have := fresh p hp; rw [e, hL] at this; cases this
   ·cases e : h₀.get? p.1 with
    | none => rfl
    | some o => have := fresh p hp; rw [F.keep _ _ e] at this; cases this
  ·exact ⟨hk _ _ (N p hp).1, (N p hp).2⟩
 ·have := fresh p hp
  have e' : q.1 = p.1 := e
  rw [← e', (N q hq).1] at this
  cases this
 ·have gB := hg (s.heap.objs.size, { cls := .type "list", dict := none, data := .seq acc c, slots := #[] }) (List.mem_append_left _ (.head _))
  obtain ⟨bs, rs⟩ := reads_items (prog := prog) (w := w) (h := g) (rd := rd) hr (fun v x hv => hV v x hv g fun p hp => hg p (List.mem_append_right _ hp)) as hl fun j a e => by
   refine hdG ?_; intro Xh hXh
   refine ex3 (hG.pairs j a e) ?_
   rintro key k x hZ
   refine an2 hZ ?_
   clear hZ
   rintro e1 e2 e3
   refine hXh ?_; clear hXh
   refine (ix3 key k x (ia2 e1 e2 ?_))
   have := hg (a, (h'.get? a).getD default) (List.mem_append_left _ (.tail _ (List.mem_map.mpr ⟨a, List.mem_of_getElem? e, rfl⟩)))
   rw [e3] at this
   exact this
  exact ⟨_, .list gB rfl rfl (by rw [hacc]; exact rs)⟩
end
theorem shaped_ints (q : List Int) : PyData.canLayAll0 (q.map PyData.int) = true ∧ PyData.depthAll (q.map PyData.int) = 0 := by
 induction q with
 | nil => simp [PyData.canLayAll0, PyData.depthAll]
 | cons k q ih => simp [PyData.canLayAll0, PyData.depthAll, PyData.canLay0, PyData.depth, ih.1, ih.2]
theorem shaped_items {β : Type} {rd : β → PyData} (h1 : ∀ x, PyData.canLay0 (rd x) = true) (h2 : ∀ x, PyData.depth (rd x) ≤ 1) (d : List (Int × β)) : PyData.canLayAll0 (d.map (itemP rd)) = true ∧ PyData.depthAll (d.map (itemP rd)) ≤ 2 := by
 induction d with
 | nil => simp [PyData.canLayAll0, PyData.depthAll]
 | cons p d ih =>
  have := h2 p.2
  simp only [List.map_cons, PyData.canLayAll0, PyData.depthAll, itemP, PyData.canLay0, PyData.depth, ih.1, h1]
  refine ⟨by simp, ?_⟩
  have := ih.2
  grind
theorem eqv_refl_ints : ∀ q : List Int, PyData.eqvAll (q.map PyData.int) (q.map PyData.int) = true
 | [] => by simp [PyData.eqvAll]
 | k :: q => by simp only [List.map_cons, PyData.eqvAll, PyData.eqv, eqv_refl_ints q]; simp
theorem eqv_items_refl {β : Type} {rd : β → PyData} (hrd : ∀ x, PyData.eqv (rd x) (rd x) = true) : ∀ d : List (Int × β), PyData.eqvAll (d.map (itemP rd)) (d.map (itemP rd)) = true
 | [] => by simp [PyData.eqvAll]
 | p :: d => by
  simp only [List.map_cons, PyData.eqvAll, itemP, PyData.eqv, hrd, eqv_items_refl hrd d]
  simp
noncomputable def tupD (q : List Int) : PyData := .tuple (q.map PyData.int)
theorem eqv_list_tup (d : List (Int × List Int)) : PyData.eqv (.list (d.map (itemP tupD))) (.list (d.map (itemP tupD))) = true := by
 simp only [PyData.eqv]
 exact eqv_items_refl (fun x => by simp only [tupD, PyData.eqv, eqv_refl_ints]) d
theorem eqv_list_int (d : List (Int × Int)) : PyData.eqv (.list (d.map (itemP PyData.int))) (.list (d.map (itemP PyData.int))) = true := by
 simp only [PyData.eqv]
 exact eqv_items_refl (fun x => by simp [PyData.eqv]) d
theorem shaped_list_tup (d : List (Int × List Int)) : SeqAt.shaped (.list (d.map (itemP tupD))) = true := by
 have h := shaped_items (rd := tupD) (fun x => by simp [tupD, PyData.canLay0, (shaped_ints x).1]) (fun x => by simp [tupD, PyData.depth, (shaped_ints x).2]) d
 have h2 := h.2
 simp only [SeqAt.shaped, PyData.canLay0, PyData.depth, h.1, Bool.true_and]
 exact decide_eq_true (by grind)
theorem shaped_list_int (d : List (Int × Int)) : SeqAt.shaped (.list (d.map (itemP PyData.int))) = true := by
 have h := shaped_items (rd := PyData.int) (fun x => by simp [PyData.canLay0]) (fun x => by simp [PyData.depth]) d
 have h2 := h.2
 simp only [SeqAt.shaped, PyData.canLay0, PyData.depth, h.1, Bool.true_and]
 exact decide_eq_true (by grind)
end Mine
end
section
open PySem PySem.W PyProof.Rows PySem.Calls PySem.Spec
set_option Elab.async false
set_option maxRecDepth 100000
namespace Mine
theorem funM_retL {P : Value → List (Addr × Obj) → Prop} {s : Shared} {Q : Value → Shared → Prop} {r : Value} {h' g : Heap} {L' : Addr} {m' : Str → Option Value} {tk' : Nat} {gs' : Array GenState} {ps' : Array Value} {all en : List (Addr × Obj)} {o0 : Obj}
  (hret : ∀ (r : Value) (tl : List (Addr × Obj)) (ps' : Array Value) (h' : Heap) (tk' : Nat) (gs' : Array GenState), (∀ b o, b ≠ 283 → s.heap.get? b = some o → h'.get? b = some o) → (∀ p ∈ tl, h'.get? p.1 = some p.2 ∧ s.heap.get? p.1 = none) → h'.get? 283 = some (parts ps') → TriplesOk ps'.toList → AllBare gs' → P r tl →
   Q r { s with heap := h', toks := tk', gens := gs' })
  (hs : ∀ p ∈ en, s.heap.get? p.1 = some p.2) (GS : GSub s.heap g (((283, o0) :: en).map (·.1))) (F' : Fr g L' h' m') (N' : News g L' h' all) (hen : ∀ p ∈ en, p ∈ all) (hps : (283, parts ps') ∈ all) (ht : TriplesOk ps'.toList) (G : AllBare gs')
  (hP : ∀ tl, (∀ p ∈ all, p.1 ≠ 283 → p.1 ∉ en.map (·.1) → p ∈ tl) → P r tl) : Q r { s with heap := h', toks := tk', gens := gs' } := by
 refine hret r (all.filter fun p => decide (p.1 ≠ 283 ∧ p.1 ∉ en.map (·.1))) ps' h' tk' gs' (fun b o nb e => ?_) (fun p hp => ?_) (N' _ hps).1 ht G (hP _ fun p hp h1 h2 => List.mem_filter.mpr ⟨hp, decide_eq_true ⟨h1, h2⟩⟩)
 ·by_cases hb : b ∈ en.map (·.1)
  ·obtain ⟨q, hq, rfl⟩ := List.mem_map.mp hb
   have h1 := hs q hq
   rw [e] at h1
   rw [Option.some.inj h1]
   exact (N' q (hen q hq)).1
  ·exact F'.keep b o (GS b o e (by rw [List.map_cons, List.mem_cons, not_or]; exact ⟨nb, hb⟩))
 ·obtain ⟨h1, h2⟩ := List.mem_filter.mp hp
  have h2 := of_decide_eq_true h2
  refine ⟨(N' p h1).1, ?_⟩
  cases e : s.heap.get? p.1 with
  | none => rfl
  | some o =>
   have := (N' p h1).2.2
   rw [GS _ o e (by rw [List.map_cons, List.mem_cons, not_or]; exact h2)] at this; cases this
theorem eq_readsIn {prog : Program} {w : World} {A : Around} {E : Value → Shared → Prop} {s : Shared} {h₀ : Heap} {L : Addr} {news l1 l2 : List (Addr × Obj)} {a b : Value} {da db : PyData} {Q : Value → Shared → Prop} (N : News h₀ L s.heap news) (x : ReadsIn l1 a da) (y : ReadsIn l2 b db) (k1 : ∀ p ∈ l1, p ∈ news) (k2 : ∀ p ∈ l2, p ∈ news)
  (ha : SeqAt.shaped da = true) (hb : SeqAt.shaped db = true) (hu : A.units + 64 < cLine) (h : Q (.bool (PyData.eqv da db)) s) : wpAny (model prog w) A (compareOp .Eq a b) Q E s := by
 obtain ⟨as, r1⟩ := x s.heap fun p hp => (N p (k1 p hp)).1
 obtain ⟨bs, r2⟩ := y s.heap fun p hp => (N p (k2 p hp)).1
 exact eq_dataH r1 r2 ha hb hu h
theorem ne_readsIn {prog : Program} {w : World} {A : Around} {E : Value → Shared → Prop} {s : Shared} {h₀ : Heap} {L : Addr} {news l1 l2 : List (Addr × Obj)} {a b : Value} {da db : PyData} {Q : Value → Shared → Prop} (N : News h₀ L s.heap news) (x : ReadsIn l1 a da) (y : ReadsIn l2 b db) (k1 : ∀ p ∈ l1, p ∈ news) (k2 : ∀ p ∈ l2, p ∈ news)
  (ha : SeqAt.shaped da = true) (hb : SeqAt.shaped db = true) (hu : A.units + 64 < cLine) (h : Q (.bool (!PyData.eqv da db)) s) : wpAny (model prog w) A (compareOp .NotEq a b) Q E s := by
 obtain ⟨as, r1⟩ := x s.heap fun p hp => (N p (k1 p hp)).1
 obtain ⟨bs, r2⟩ := y s.heap fun p hp => (N p (k2 p hp)).1
 exact ne_dataH r1 r2 ha hb hu h
theorem out_news {g h : Heap} {L : Addr} {x0 xS xD xP xO : Addr × Obj} {tl fz : List (Addr × Obj)} (N : News g L h (tl ++ x0 :: xS :: xD :: xP :: xO :: fz)) : News g L h ([xO] ++ (x0 :: xS :: xD :: (tl ++ xP :: fz))) := fun p hp => N p (by
 revert p; (try dsimp only [List.cons_append, List.nil_append]); repeat' with_reducible first | exact sbn | exact sbr | exact sbl | exact sbq | refine sbc ?_ ?_ | refine sba ?_ ?_ | exact mmh | assumption | refine mmt ?_ | refine mmr ?_ | refine sbt ?_ | refine sbp ?_)
theorem out_off {itO S DU PG : Addr} {o0 oS oD oP oO : Obj} {tl fz : List (Addr × Obj)} (ne : ∀ p ∈ tl, ∀ q ∈ ((283, o0) :: (S, oS) :: (DU, oD) :: (PG, oP) :: (itO, oO) :: fz : List (Addr × Obj)), @Ne Nat q.1 p.1) (off : ∀ p ∈ fz, @Ne Nat p.1 283 ∧ @Ne Nat p.1 S ∧ @Ne Nat p.1 DU ∧ @Ne Nat p.1 PG ∧ @Ne Nat p.1 itO) (n1 : @Ne Nat 283 PG) (n2 : @Ne Nat S PG) (n3 : @Ne Nat DU PG) :
  ∀ p ∈ tl ++ (PG, oP) :: fz, @Ne Nat p.1 283 ∧ @Ne Nat p.1 S ∧ @Ne Nat p.1 DU := by
 intro p hp
 rcases List.mem_append.mp hp with hp | hp
 ·have h := ne p hp
  simp only [List.forall_mem_cons] at h
  refine an3 h ?_
  try clear h
  rintro a b c -
  exact (ia2 (Ne.symm a) (Ne.symm b) (Ne.symm c))
 ·rcases List.mem_cons.mp hp with rfl | hp
  ·exact (ia2 n1.symm n2.symm n3.symm)
  ·exact (ia2 ((off p hp).1) ((off p hp).2.1) ((off p hp).2.2.1))
theorem out_it {itO S DU PG : Addr} {o0 o0' oS oD oP oO oO' : Obj} {tl fz : List (Addr × Obj)} (ne : ∀ p ∈ tl, ∀ q ∈ ((283, o0) :: (S, oS) :: (DU, oD) :: (PG, oP) :: (itO, oO) :: fz : List (Addr × Obj)), @Ne Nat q.1 p.1) (off : ∀ p ∈ fz, @Ne Nat p.1 283 ∧ @Ne Nat p.1 S ∧ @Ne Nat p.1 DU ∧ @Ne Nat p.1 PG ∧ @Ne Nat p.1 itO) (n4 : @Ne Nat itO PG) (m1 : @Ne Nat 283 itO) (m2 : @Ne Nat S itO) (m3 : @Ne Nat DU itO) :
  ∀ p ∈ ((283, o0') :: (S, oS) :: (DU, oD) :: (tl ++ (PG, oP) :: fz) : List (Addr × Obj)), p.1 ∉ ([(itO, oO')] : List (Addr × Obj)).map (·.1) := by
 refine off_one (List.forall_mem_cons.mpr ⟨m1, List.forall_mem_cons.mpr ⟨m2, List.forall_mem_cons.mpr ⟨m3, fun p hp => ?_⟩⟩⟩)
 rcases List.mem_append.mp hp with hp | hp
 ·have h := ne p hp
  simp only [List.forall_mem_cons] at h
  refine an5 h ?_
  try clear h
  rintro _ _ _ _ e _
  exact Ne.symm e
 ·rcases List.mem_cons.mp hp with rfl | hp
  ·exact n4.symm
  ·exact (off p hp).2.2.2.2
end Mine
namespace Mine
theorem news_swap {h₀ h : Heap} {L : Addr} {tl news : List (Addr × Obj)} (N : News h₀ L h (tl ++ news)) : News h₀ L h (news ++ tl) := fun p hp => N p (by
 rcases List.mem_append.mp hp with hp | hp
 ·exact List.mem_append_right _ hp
 ·exact List.mem_append_left _ hp)
end Mine
namespace Mine
theorem in7 {g h : Heap} {L : Addr} {x1 x2 x3 x4 x5 x6 x7 : Addr × Obj} {fz a b : List (Addr × Obj)} (_N : News g L h (x1 :: x2 :: x3 :: x4 :: x5 :: x6 :: x7 :: (fz ++ a ++ b))) : ∀ p ∈ fz, p ∈ x1 :: x2 :: x3 :: x4 :: x5 :: x6 :: x7 :: (fz ++ a ++ b) :=
 fun p hp => .tail _ (.tail _ (.tail _ (.tail _ (.tail _ (.tail _ (.tail _ (List.mem_append_left _ (List.mem_append_left _ hp))))))))
end Mine
end
section
theorem Mine.clearK1 : True := by
 k_with_none
 trivial
open PySem PySem.W PyProof.Rows PySem.Calls PySem.Spec
set_option Elab.async false
set_option maxRecDepth 100000
namespace Mine
theorem rowsK1a : True := by
 k_with_none
 (k_with "mine lt" => with_reducible first | assumption | exact cj0 ‹_› | exact cj1 ‹_› | exact cj2 ‹_› | exact cj3 ‹_› | exact cj4 ‹_› | exact cj5 ‹_› | exact cj6 ‹_› | exact cj7 ‹_› | exact cj8 ‹_› | exact cj9 ‹_› | exact cj10 ‹_› | exact cj11 ‹_› | exact cj12 ‹_› | exact cj13 ‹_› | exact cj14 ‹_› | exact cj15 ‹_› | exact dk1 ‹_› | exact dk2 ‹_› | exact dk3 ‹_› | exact dk4 ‹_› | exact dk5 ‹_› | exact dk6 ‹_› | exact dk7 ‹_› | exact dk8 ‹_› | exact dk9 ‹_› | exact dk10 ‹_› | exact dk11 ‹_› | exact dk12 ‹_› | exact dk13 ‹_› | exact dk14 ‹_› | exact dk15 ‹_›)
 (k_with "mine k_ne" => (refine neN ?_; (try dsimp only); first | with_reducible assumption | exact Ne.symm (by with_reducible assumption) | exact Nat.ne_of_lt (by k_extra "mine lt") | exact Nat.ne_of_gt (by k_extra "mine lt") | omega))
 (k_with "mine cell_enter" => (refine' code_defR (by exact rfl) (by exact rfl) (by assumption) (by k_asm) (by k_asm) (by k_asm) (by k_asm) (by k_asm) (by k_is) (by k_is) (by ktr_room) (by exact BindsTo.of_eq rfl) (by exact locs rfl) ?_ (by exact rfl) (by exact rfl) (by exact rfl) (by decide); k_whole; intro g'xq L'xq h'xq tkEq FG'xq F'xq N'xq B'xq X'xq T'xq GS'xq; (try dsimp only); (try k_lift B'xq); (try k_fold); (have MB'xq := Bm.keeps (by assumption : Bm _) (Fr.keep FG'xq))))
 (k_with "mine exec For" => (refine stopAt ?_))
 (k_with "mine exec For Name Call cons nil" => (refine stopAt ?_))
 (k_with "mine call type:range" => (refine stopAt ?_))
 (k_with "mine k_all" => (first | assumption | (refine List.forall_mem_cons.mpr (And.intro ?_ ?_); (focus k_ne); k_all)))
 (k_with "mine call ref" => ((with_reducible show wpAny _ _ (call (Value.ref 314) _) _ _ _); refine stopAt ?_))
 trivial
theorem NC.nv {k : Nat} {v : Value} {n : Nat} (h : NC k v n) : NV v (f8 n) := h.1
theorem rowsK1b : True := by
 (k_with "mine subscriptTail Name BinOp ref int" => (refine stopAt ?_))
 (k_with "mine subscriptTail Name Subscript ref int" => (refine stopAt ?_))
 (k_with "mine eval ListComp" => (refine stopAt ?_))
 (k_with "mine call type:zip" => (refine stopAt ?_))
 (k_with "mine call builtin:dict.get" => (refine stopAt ?_))
 (k_with "mine setItem ref int" => (refine stopAt ?_))
 (k_with "mine setItem ref int ref" => (refine stopAt ?_))
 (k_with "mine call builtin:list.append" => (refine stopAt ?_))
 (k_with "mine subscriptTail" => (k_here; k_dflt (refine' sub_at (by k_asm) (by k_mem) (by assumption) (by assumption) ?_ (by with_unfolding_all rfl) (by intro _; with_unfolding_all rfl))))
 (k_with "mine subscriptTail Name Subscript ref int" => (k_here; k_dflt (refine' sub_at (by k_asm) (by k_mem) (by assumption) (by assumption) ?_ (by with_unfolding_all rfl) (by intro _; with_unfolding_all rfl))))
 (k_with "mine subscriptTail Name BinOp ref int" => (k_here; k_dflt (refine' sub_at (by k_asm) (by k_mem) (by assumption) (by assumption) ?_ (by with_unfolding_all rfl) (by intro _; with_unfolding_all rfl))))
 (k_with "mine eval ListComp" => (k_here; (with_reducible show wpAny _ _ (eval (PySem.Expr.ListComp _ [PySem.Comprehension.mk (PySem.Expr.Tuple _ _ _) _ _ _] _ _) _) _ _ _); k_dflt (refine comp_two (n := 3) (Nat.le_of_ble_eq_true rfl) (by rfl) (by with_unfolding_all rfl) (by decide) (by rfl) (by decide) (by rfl) (by rfl) (by decide) ?_)))
 (k_with "mine call type:zip" => (k_here; k_dflt (refine zip_sub (by k_asm) (by k_asm) (News.isList (by k_asm) (by k_mem)) (News.isList (by k_asm) (by k_mem)) (by rfl) (by assumption) (by assumption) (by assumption) (by assumption) (by assumption) (by assumption) (by assumption) (by assumption) (by assumption) (fun v0xq v1xq naxq nbxq C'xq oC'xq h'xq tk'xq m'xq Q'xq E'xq hv0xq hv1xq hlexq nCxq hxxq hyxq F'xq N'xq off'xq ret'xq => ?_) (fun D'xq h'xq tk'xq r0xq r1xq r2xq F'xq N'xq off'xq n0xq n1xq n2xq => ?_)); (all_goals (try k_sweep))))
 (k_with "mine call ref" => (k_here; (with_reducible show wpAny _ _ (call (Value.ref 274) _) _ _ _); (refine' funA_use (sub_nc _ _ _ (by assumption) (by assumption) (by assumption) (by assumption)) (by k_asm) (by k_asm) (by k_asm) (by k_asm) (by k_asm) (by first | exact rfl | assumption) (by ktr_room) (by ktr_units) (by exact fun _ hxq => nomatch hxq) ?_); intro rvxq tl9xq h9xq tk9xq F9xq N9xq kp9xq ne9xq rnxq; refine hdG ?_; intro Xh hXh; obtain ⟨e9xq, rnxq⟩ := rnxq; subst e9xq; refine hXh ?_; clear hXh; (try simp only [List.nil_append] at N9xq); (try clear ne9xq)))
 (k_with "mine call ref" => (k_here; (with_reducible show wpAny _ _ (call (Value.ref 253) _) _ _ _); k_dflt (refine' funA_use (yiq _ _ _ (by exact NC.nv (by assumption)) (by exact NC.nv (by assumption)) (by exact NC.nv (by assumption))) (by k_asm) (by k_asm) (by k_asm) (by k_asm) (by k_asm) (by first | exact rfl | assumption) (by ktr_room) (by ktr_units) (by exact fun _ hxq => nomatch hxq) ?_); intro rvxq tl9xq h9xq tk9xq F9xq N9xq kp9xq ne9xq rnxq; refine hdG ?_; intro Xh hXh; (refine ex4 rnxq ?_; try clear rnxq; rintro D9xq ty9xq ti9xq tq9xq hZxq; obtain ⟨e9xq, rnxq⟩ := hZxq); subst e9xq; subst rnxq; refine hXh ?_; clear hXh; (try simp only [List.nil_append, List.cons_append] at N9xq); (try clear ne9xq)))
 (k_with "mine exec Assign cons ListComp" => (k_here; (with_reducible show wpAny _ _ (exec (PySem.Stmt.Assign [PySem.Expr.Name _ _] (PySem.Expr.ListComp _ [PySem.Comprehension.mk (PySem.Expr.Tuple _ _ _) _ _ _] _ _) _) _) _ _ _); k_dflt (refine comp_twoA (n := 3) (by with_unfolding_all rfl) (by rfl) (by rfl) (Nat.le_of_ble_eq_true rfl) (by rfl) (by with_unfolding_all rfl) (by decide) (by rfl) (by decide) (by rfl) (by rfl) (by decide) ?_)))
 (k_with "mine call type:zip" => (k_here; k_dflt (refine zip_sumTA (by k_asm) (by k_asm) (News.isList (by k_asm) (by k_mem)) (news_tup (by k_asm) (by k_mem)) (by rfl) (fun iaxq taxq ibxq tbxq C'xq oC'xq h'xq tk'xq m'xq Q'xq E'xq nCxq hxxq hyxq F'xq N'xq off'xq ret'xq => ?_) (fun D'xq h'xq tk'xq v0xq v1xq v2xq F'xq N'xq off'xq => ?_)); (all_goals (try k_sweep))))
 (k_with "mine ite" => (k_here; first | with_reducible refine ite_tt ?_ | with_reducible refine ite_ff ?_))
 (k_with "mine eval Compare" => (k_here; with_reducible refine wpAny_Compare1 ?_))
 (k_with "mine eval BoolOp" => (k_here; first | with_reducible refine BoolOp_one ?_ | with_reducible refine BoolOp_and ?_ | with_reducible refine BoolOp_or ?_))
 (k_with "mine call builtin:isinstance" => (k_here; (with_reducible show wpAny _ _ (call _ [Value.ref _, Value.type "tuple"]) _ _ _); k_dflt (refine PySem.IsiPair.tuple_tuple (News.get (by k_asm) (by k_mem)) rfl ?_)))
 (k_with "mine eval ListComp" => (k_here; (with_reducible show wpAny _ _ (eval (PySem.Expr.ListComp _ [PySem.Comprehension.mk (PySem.Expr.Name _ _) _ _ _] _ _) _) _ _ _); k_dflt (refine comp_one (by with_unfolding_all rfl) (by decide) (by rfl) (by decide) (by rfl) ?_)))
 (k_with "mine pyIter ref" => (refine stopAt ?_))
 (k_with "mine pyIter ref" => (k_here; k_dflt (refine one_told (by k_asm) (by k_asm) (by k_mem) (by rfl) (by assumption) (by assumption) (by assumption) (fun fxq tfxq C'xq oC'xq h'xq tk'xq m'xq Q'xq E'xq hcxq nCxq hxxq F'xq N'xq off'xq ret'xq => ?_) (fun D'xq h'xq tk'xq v0xq v1xq v2xq F'xq N'xq off'xq => ?_)); (all_goals (try k_sweep))))
 (k_with "mine pyIter ref" => (k_here; k_dflt (refine one_sums (by k_asm) (by k_asm) (by k_mem) (by rfl) (fun iaxq taxq C'xq oC'xq h'xq tk'xq m'xq Q'xq E'xq nCxq hxxq F'xq N'xq off'xq ret'xq => ?_) (fun D'xq h'xq tk'xq v0xq v1xq v2xq F'xq N'xq off'xq => ?_)); (all_goals (try k_sweep))))
 (k_with "mine call ref" => (k_here; (with_reducible show wpAny _ _ (call (Value.ref 321) _) _ _ _); k_dflt (refine' funA_use (whole _ _ _ (.inr rfl) (by assumption)) (by k_asm) (by k_asm) (by k_asm) (by k_asm) (by k_asm) (by first | exact rfl | assumption) (by ktr_room) (by ktr_units) (by exact fun _ hxq => nomatch hxq) ?_); intro rvxq tl9xq h9xq tk9xq F9xq N9xq kp9xq ne9xq rnxq; refine hdG ?_; intro Xh hXh; obtain ⟨e9xq, rnxq⟩ := rnxq; subst e9xq; refine hXh ?_; clear hXh; (try simp only [List.nil_append] at N9xq); (try clear ne9xq)))
 (k_with "mine call ref" => (k_here; (with_reducible show wpAny _ _ (call (Value.ref 321) [_, Value.int 800 _]) _ _ _); k_dflt (refine' funA_use (whole8 _ _ _ (by assumption)) (by k_asm) (by k_asm) (by k_asm) (by k_asm) (by k_asm) (by first | exact rfl | assumption) (by ktr_room) (by ktr_units) (by exact fun _ hxq => nomatch hxq) ?_); intro rvxq tl9xq h9xq tk9xq F9xq N9xq kp9xq ne9xq rnxq; refine hdG ?_; intro Xh hXh; obtain ⟨e9xq, t9xq, rnxq⟩ := rnxq; subst e9xq; subst rnxq; refine hXh ?_; clear hXh; (try simp only [List.nil_append] at N9xq); (try clear ne9xq)))
 (k_with "mine call ref" => (k_here; (with_reducible show wpAny _ _ (call (Value.ref 274) [Value.int _ _, Value.int _ _]) _ _ _); k_dflt (refine' funA_use (sub_i _ _ _ _ _ _ _) (by k_asm) (by k_asm) (by k_asm) (by k_asm) (by k_asm) (by first | exact rfl | assumption) (by ktr_room) (by ktr_units) (by exact fun _ hxq => nomatch hxq) ?_); intro rvxq tl9xq h9xq tk9xq F9xq N9xq kp9xq ne9xq rnxq; refine hdG ?_; intro Xh hXh; obtain ⟨e9xq, t9xq, rnxq⟩ := rnxq; subst e9xq; subst rnxq; refine hXh ?_; clear hXh; (try simp only [List.nil_append] at N9xq); (try clear ne9xq)))
 (k_with "mine subscriptTail Name Constant ref int" => (k_here; k_dflt (refine' sub_tat (k := 0) (by k_asm) (by k_mem) (by decide) (by rfl) ?_ (by with_unfolding_all rfl) (by intro _; with_unfolding_all rfl))))
 (k_with "mine setItem ref int" => (k_here; k_dflt (refine' kda_set (knd := PySem.intKind _ _) (by k_asm) (by k_asm) (by k_updF) (by k_asm) (intKind_is _ _ _ _) (by assumption) ?_); intro h'xq o'xq F'xq N'xq hd'xq; (try dsimp only at N'xq); (try k_sweep)))
 (k_with "mine setItem ref int ref" => (k_here; k_dflt (refine' kda_set (knd := PySem.intKind _ _) (by k_asm) (by k_asm) (by k_updF) (by k_asm) (intKind_is _ _ _ _) (by assumption) ?_); intro h'xq o'xq F'xq N'xq hd'xq; (try dsimp only at N'xq); (try k_sweep)))
 (k_with "mine call builtin:list.append" => (k_here; k_dflt (refine' append_ints (by k_asm) (by k_asm) (by k_updF) (by assumption) (by assumption) ?_); intro h'xq F'xq N'xq iv'xq; (try dsimp only at N'xq); (try k_sweep)))
 (k_with "mine getMethod ref" => (k_here; (with_reducible show wpAny _ _ (getMethod (Value.ref _) (Str.ofString "get") _) _ _ _); k_dflt (refine' kdg_method (knd := PySem.intKind _ _) (by k_asm) (by k_mem) (by k_asm) ?_)))
 (k_with "mine call builtin:dict.get" => (k_here; k_dflt (refine' get2T (z := zero4) (by k_asm) (by k_mem) (by k_asm) (by k_asm) (by assumption) (by k_mem) (by exact .cons _ _ (.cons _ _ (.cons _ _ (.cons _ _ .nil)))) (by rfl) (by exact fun pxq hpxq => by simp only [List.mem_cons]; simp only [*, or_true]) ?_); intro a9xq x0xq x1xq x2xq x3xq tx0xq tx1xq tx2xq tx3xq n9xq m9xq e9xq))
 (k_with "mine newTuple" => (k_here; k_dflt (refine' kup_newTuple (by k_asm) (by k_asm) ?_ (by kmk_size)); intro D'xq h'xq F'xq N'xq l1xq; (try k_lt l1xq); (try k_sweep)))
 (k_with "mine call ref" => (k_here; (with_reducible show wpAny _ _ (call (Value.ref 288) _) _ _ _); k_dflt (refine' funM_use (addT _ _ _ (by assumption) (by assumption) (by assumption) (by assumption)) (by k_asm) (by k_asm) (by k_asm) (by k_asm) (by k_asm) (by assumption) (by k_updF) (by assumption) (by assumption) (by first | exact rfl | assumption) (by ktr_room) (by ktr_units) (by (intro pxq hpxq; simp only [List.mem_cons] at hpxq ⊢; rcases hpxq with hpxq | hpxq <;> simp [hpxq])) ?_); intro rvxq tl9xq ps9xq h9xq tk9xq gs9xq F9xq N9xq tr9xq G9xq ne9xq rnxq; refine hdG ?_; intro Xh hXh; obtain ⟨D9xq, e9xq, rnxq⟩ := rnxq; subst e9xq; refine hXh ?_; clear hXh; (try dsimp only at N9xq)))
 (k_with "mine call type:list" => (k_here; k_dflt (refine list_items (rd := tupD) (by rfl) (by k_asm) (by k_asm) (by k_mem) (by k_mem) (by k_asm) (by assumption) (by assumption) (fun vxq xxq hvxq => TupV.reads hvxq) ?_); intro B9xq tl9xq h9xq tk9xq F9xq N9xq ne9xq rd9xq; (replace N9xq := news_swap N9xq); (try simp only [List.cons_append] at N9xq); (try clear ne9xq)))
 (k_with "mine compareOp Eq ref ref" => (k_here; k_dflt (refine eq_readsIn (by k_asm) (by assumption) (by assumption) (fun pxq hpxq => by (simp only [List.mem_append, List.mem_cons] at hpxq ⊢; rcases hpxq with hpxq | hpxq <;> simp [hpxq])) (fun pxq hpxq => by (simp only [List.mem_append, List.mem_cons] at hpxq ⊢; rcases hpxq with hpxq | hpxq <;> simp [hpxq])) (shaped_list_tup _) (shaped_list_tup _) (by ke_room) ?_); rw [eqv_list_tup]))
 trivial
theorem shades_le {row : List Int} {i j : Nat} (hi : i ≤ 6) (hj : j ≤ 6) : (shadesF row i ++ shadesIn row i j).length ≤ 1000 := by
 have h : ∀ s j, (shadesIn row s j).length = j := fun s j => by unfold shadesIn; rw [List.length_map, List.length_range]
 have h2 : ∀ i, (shadesF row i).length ≤ 6 * i := by
  intro i
  induction i with
  | zero => exact Nat.le_refl _
  | succ i ih => rw [shadesF_succ, List.length_append, h]; omega
 rw [List.length_append, h]
 have := h2 i
 omega
theorem small7 : ∀ i : Nat, i < 6 → Builtin.Range.small ((i : Int) + 1) 7 1 = true ∧ Builtin.Range.rangeSize ((i : Int) + 1) 7 1 = ((6 - i : Nat) : Int) := by decide
namespace E_stretches
noncomputable def theP (zC : Bag) : Prop :=
 let w := zC.w 3; let mg := zC.fr 3; let mb := zC.fr 4; let RW := zC.addr 3; let r0 := zC.int 3; let r1 := zC.int 4; let r2 := zC.int 5; let r3 := zC.int 6; let r4 := zC.int 7; let r5 := zC.int 8; let led := zC.led 3;
 ∀ (hr : IntsIn led RW [r0, r1, r2, r3, r4, r5]) (b0 : 0 ≤ r0 ∧ r0 < 3) (b1 : 0 ≤ r1 ∧ r1 < 3) (b2 : 0 ≤ r2 ∧ r2 < 3) (b3 : 0 ≤ r3 ∧ r3 < 3) (b4 : 0 ≤ r4 ∧ r4 < 3) (b5 : 0 ≤ r5 ∧ r5 < 3) (hne : @Ne Nat RW 283), FunMb zC 12 w mg mb 326 [.ref RW] led (fun r tl => ∃ T S BK, r = .ref T ∧ (T, tupO [.ref S, .ref BK, .bool true] 0) ∈ tl ∧ IntsIn tl S (shadesF [r0, r1, r2, r3, r4, r5] 6) ∧ DictIn w (TupV tl) tl BK (dueF [r0, r1, r2, r3, r4, r5] 6))
@[irreducible] def tB : Bag := bagOf theP
@[irreducible] def w := tB.w 3
@[irreducible] def mg := tB.fr 3
@[irreducible] def mb := tB.fr 4
@[irreducible] def RW := tB.addr 3
@[irreducible] def r0 := tB.int 3
@[irreducible] def r1 := tB.int 4
@[irreducible] def r2 := tB.int 5
@[irreducible] def r3 := tB.int 6
@[irreducible] def r4 := tB.int 7
@[irreducible] def r5 := tB.int 8
@[irreducible] def led := tB.led 3
noncomputable def coreT : Prop := ∀ (hr : IntsIn led RW [r0, r1, r2, r3, r4, r5]) (b0 : 0 ≤ r0 ∧ r0 < 3) (b1 : 0 ≤ r1 ∧ r1 < 3) (b2 : 0 ≤ r2 ∧ r2 < 3) (b3 : 0 ≤ r3 ∧ r3 < 3) (b4 : 0 ≤ r4 ∧ r4 < 3) (b5 : 0 ≤ r5 ∧ r5 < 3) (hne : @Ne Nat RW 283), FunMb tB 12 w mg mb 326 [.ref RW] led (fun r tl => ∃ T S BK, r = .ref T ∧ (T, tupO [.ref S, .ref BK, .bool true] 0) ∈ tl ∧ IntsIn tl S (shadesF [r0, r1, r2, r3, r4, r5] 6) ∧ DictIn w (TupV tl) tl BK (dueF [r0, r1, r2, r3, r4, r5] 6))
set_option maxHeartbeats 40000000 in
noncomputable def part1 : (P : Bag → Prop) ×' (P (bagOf P) → coreT) := by
 refine' ⟨_, fun hP => ?_⟩
 rotate_left
 unfold coreT
 intro hr b0 b1 b2 b3 b4 b5 hne
 refine hdG ?_; intro Xh hXh
 refine ex2 hr ?_
 try clear hr
 rintro vs n hZ
 obtain ⟨mR, ir⟩ := hZ
 refine hXh ?_; clear hXh
 cases ir with | cons _ t0 ir
 cases ir with | cons _ t1 ir
 cases ir with | cons _ t2 ir
 cases ir with | cons _ t3 ir
 cases ir with | cons _ t4 ir
 cases ir with | cons _ t5 ir
 cases ir
 w_on
 unfold FunMb
 k_fill
 intro hB hF hX hN hT hM hps hG hk hd hu hret
 have hN1 := news_two hN mR
 refine wpAny_call ?_
 k_dflt (refine' code_defR (by exact rfl) (by exact rfl) (by assumption) (by k_asm) (by k_asm) (by k_asm) (by k_asm) (by k_asm) (by k_is) (by k_is) (by ktr_room) (by exact BindsTo.of_eq rfl) (by exact locs rfl) ?_ (by exact rfl) (by exact rfl) (by exact rfl) (by decide); k_whole)
 intro g L1 h1 tk
 revert b0 b1 b2 b3 b4 b5 hne mR hB hF hX hN hT hM hps hG hk hd hu hret hN1
 revert n t0 t1 t2 t3 t4 t5
 revert g L1 h1 tk
 exact bag4 _ (by exact rfl) hP
@[irreducible] def theB1 : Bag := bagOf part1.1
set_option maxHeartbeats 40000000 in
noncomputable def part2c : (R : (Nat) → (Tok) → (Tok) → (Tok) → (Tok) → (Tok) → (Tok) → (Addr) → (Heap) → (Addr) → (Heap) → (Addr) → (Heap) → (Heap) → (Heap) → (Nat) → (List (Addr × Obj)) → (Heap) → (Nat) → (Prop) → (Addr) → (Addr) → (Addr) → (Addr) → (Addr) → (Addr) → (Addr) → (Nat) → (Heap) → (Nat) → (Heap) → (Heap) → (Nat) → (Heap) → (Obj) → (Heap) → (Heap) → (Obj) → (Heap) → (Heap) → (Nat → Addr) → (Nat → Addr) → (List (Addr × Obj)) → (Addr) → (Addr) → (Addr) → (Addr) → (Addr) → (Prop) → (Obj) → (Nat) → (Tok) → (Str → Option Value) → (Heap) → (Nat) → (Array GenState) → (Nat) → (Obj) → (Value → Shared → Prop) → (Prop) → (Addr) → (Array Value) → (List Value) → (Nat) → (Obj) → (List (Int × Value)) → (List (Addr × Obj)) → Prop) ×' ((∀ x0 x1 x2 x3 x4 x5 x6 x7 x8 x9 x10 x11 x12 x13 x14 x15 x16 x17 x18 x19 x20 x21 x22 x23 x24 x25 x26 x27 x28 x29 x30 x31 x32 x33 x34 x35 x36 x37 x38 x39 x40 x41 x42 x43 x44 x45 x46 x47 x48 x49 x50 x51 x52 x53 x54 x55 x56 x57 x58 x59 x60 x61 x62 x63 x64 x65 x66, R x0 x1 x2 x3 x4 x5 x6 x7 x8 x9 x10 x11 x12 x13 x14 x15 x16 x17 x18 x19 x20 x21 x22 x23 x24 x25 x26 x27 x28 x29 x30 x31 x32 x33 x34 x35 x36 x37 x38 x39 x40 x41 x42 x43 x44 x45 x46 x47 x48 x49 x50 x51 x52 x53 x54 x55 x56 x57 x58 x59 x60 x61 x62 x63 x64 x65 x66) → part1.1 theB1) := @PSigma.mk _ _ _ fun hR => by
 delta part1
 dsimp only
 intro n t0 t1 t2 t3 t4 t5
 intro b0 b1 b2 b3 b4 b5 hne mR hB hF hX hN hT hM hps hG hk hd hu hret hN1 FG'xq F'xq N'xq B'xq X'xq T'xq GS'xq
 w_on
 k_fill
 (try dsimp only)
 (try k_lift B'xq)
 (try k_fold)
 (have MB'xq := Bm.keeps (by assumption : Bm _) (Fr.keep FG'xq))
 rename GSub _ _ _ => GS
 k_steps
 unfold StopHere
 k_here
 (with_reducible show wpAny _ _ (call (Value.ref 314) _) _ _ _)
 k_dflt (refine' funA_use (lights _ _ _ _ _ _ _ _ _ _ _ _ _ _ _ _ _ ?c0ct ?c1ct ?c2ct ?c3ct ?c4ct ?c5ct) ?k1ct ?k2ct ?k3ct ?k4ct ?k5ct ?kKct ?kdct ?kwct ?klct ?_; (case k4ct => k_asm); (case klct => exact fun p hp => (List.mem_singleton.mp hp) ▸ (by k_mem)); (case c0ct => assumption); (case c1ct => assumption); (case c2ct => assumption); (case c3ct => assumption); (case c4ct => assumption); (case c5ct => assumption); (case k1ct => k_asm); (case k2ct => k_asm); (case k3ct => k_asm); (case k5ct => k_asm); (case kKct => first | exact rfl | assumption); (case kdct => ktr_room); (case kwct => ktr_units))
 intro rv tl9 h9 tk9 F9 N9 kp9 ne9 rn
 refine hdG ?_; intro Xh hXh
 refine ex6 rn ?_
 try clear rn
 rintro D9 a0 a1 a2 a3 a4 hZ
 refine ex3 hZ ?_
 clear hZ
 rintro a5 a6 kx hZ
 refine an8 hZ ?_
 clear hZ
 rintro e9 m9 y0 y1 y2 y3 y4 y5 y6
 subst e9
 refine hXh ?_; clear hXh
 k_steps
 unfold StopHere
 rename Fr _ _ _ _ => F9
 rename News _ _ _ _ => N9
 rename @LT.lt Nat _ _ _ ∧ @LT.lt Nat _ _ _ ∧ AllLt _ _ => l3
 rename @LT.lt Nat _ _ _ ∧ AllLt _ _ => l2
 rename (∀ p, p ∈ _ ++ _ → _) => l1
 rename (∀ p, p ∈ _ → ∀ q, q ∈ _ → _) => ne9
 rename (_, W.listOf #[_, _, _, _, _, _, _] _) ∈ _ => m9
 have row6 : RowOk [r0, r1, r2, r3, r4, r5] := ⟨rfl, fun i hi => by rcases (show i = 0 ∨ i = 1 ∨ i = 2 ∨ i = 3 ∨ i = 4 ∨ i = 5 by omega) with rfl | rfl | rfl | rfl | rfl | rfl <;> assumption⟩
 refine stage N9 l1 l2 l3 ne9 (by assumption) (by assumption) (by assumption) (by assumption) hne m9 (by assumption) (by assumption) (by assumption) (by assumption) (by assumption) (by assumption) (by assumption) fun a T fz RW' LP LI S BK DU q0 q1 q2 q3 q4 q5 N10 mB hz off n1 n2 n3 => ?_
 refine hdG ?_; intro Xh hXh
 subst q0 q1 q2 q3 q4 q5
 clear N9 l1 l2 l3 ne9 m9
 rename (DU == sysModules) = false => loD
 rename (BK == sysModules) = false => loB
 obtain ⟨oR, eR⟩ : ∃ oR, oR = lstO [.int r0 t0, .int r1 t1, .int r2 t2, .int r3 t3, .int r4 t4, .int r5 t5] n := ⟨_, rfl⟩
 refine hXh ?_; clear hXh
 rw [← eR] at hz
 refine for1 F9 rfl (by rfl) (by rfl) ?_
 k_steps
 unfold StopHere
 rename Fr _ _ _ _ => F9
 refine loop_range1 F9 N10 (by decide) (n := 6) (by decide) rfl (OutJ w [r0, r1, r2, r3, r4, r5] RW LP LI S DU a T oR) (ia7 hG rfl rfl rfl rfl rfl rfl (ix6 BK _ _ _ _ _ ⟨fz, ia8 rfl rfl hps .nil (by assumption) .nil (ix2 _ _ (ia3 mB (by assumption) .nil loB)) hz off⟩)) ?_ ?_
 ·rintro i t' m₁ news₁ h tk' gs itO oiO E' hi hJz
  refine hdG ?_; intro Xh hXh
  refine an7 hJz ?_
  try clear hJz
  rintro hG e1 e2 e3 e4 e5 e6 hZ
  refine ex6 hZ ?_
  clear hZ
  rintro BK ps vs n oD kvs hZ
  obtain ⟨fz, hZ⟩ := hZ
  refine an8 hZ ?_
  clear hZ
  rintro e7 rfl hps iv hd9 hr hB hz off
  refine hXh ?_; clear hXh
  rintro hoff F N
  have F := Fr_pin (Fr_pin (Fr_pin (Fr_pin (Fr_pin (Fr_pin (Fr_pin F (x := Str.ofString "row") e1) (x := Str.ofString "lamps") e2) (x := Str.ofString "lights") e3) (x := Str.ofString "shades") e4) (x := Str.ofString "due") e5) (x := Str.ofString "sound") e6) (x := Str.ofString "book") e7
  simp only [Int.zero_add] at F
  rename_i c0z0 c0z1 c0z2 c0z3 c0z4 c0z5 c0z6 c0z7 c0z8 c0z9 c0z10 c0z11 c0z12 c0z13 c0z14 c0z15 c0z16 c0z17 c0z18 c0z19 c0z20 c0z21 c0z22 c0z23 c0z24 c0z25 c0z26 c0z27 c0z28 c0z29 c0z30 c0z31 c0z32 c0z33 c0z34 c0z35 c0z36 c0z37 c0z38 c0z39
  revert b0 b1 b2 b3 b4 b5 hne mR c0z1 hF hX hN hT hM c0z2 c0z3 hk hd hu hret hN1 FG'xq B'xq X'xq T'xq GS MB'xq c0z6 c0z9 l1xq kp9 y0 y1 y2 y3 y4 y5 y6 c0z20 c0z21 c0z22 c0z23 c0z27 c0z28 c0z29 c0z30 row6 N10 mB c0z35 n1 n2 n3 c0z37 loB loD F9 c0z38 eR hi hG e1 e2 e3 e4 e5 e6 e7 hps iv hd9 hr hB hz off hoff c0z39 N F
  revert qk ek
  revert c0z0 t0 t1 t2 t3 t4 t5 c0z4 c0z5 c0z7 c0z8 D'xq h'xq c0z10 c0z11 c0z12 tl9 h9 tk9 c0z13 a0 a1 a2 a3 a4 a5 a6 kx c0z14 c0z15 c0z16 c0z17 tk c0z18 c0z19 c0z24 c0z25 c0z26 c0z31 c0z32 a T c0z33 LP LI S c0z34 DU c0z36 oR i t' m₁ h tk' gs itO oiO E' Xh BK ps vs n oD kvs fz
  exact hR
 ·rintro h' tk gs m' news' F N hJz
  refine hdG ?_; intro Xh hXh
  refine an7 hJz ?_
  try clear hJz
  rintro hG e1 e2 e3 e4 e5 e6 hZ
  refine ex6 hZ ?_
  clear hZ
  rintro BK ps vs n oD kvs hZ
  obtain ⟨fz, hZ⟩ := hZ
  refine an8 hZ ?_
  clear hZ
  rintro e7 rfl hps iv hd9 hr hB hz off
  have F := Fr_pin (Fr_pin (Fr_pin (Fr_pin F (x := Str.ofString "shades") e4) (x := Str.ofString "due") e5) (x := Str.ofString "sound") e6) (x := Str.ofString "book") e7
  rw [book_due row6 (Nat.le_refl 6)] at hB
  refine ex2 hB ?_
  try clear hB
  rintro oB kvB hZ
  refine an3 hZ ?_
  clear hZ
  rintro mB iB rB loB
  refine hXh ?_; clear hXh
  have hszB : kvB.length ≤ sizeLine := by
   have h1 := rB.length
   have h2 := dueF_len [r0, r1, r2, r3, r4, r5] 6
   rw [sizeLine_eq]; omega
  have hszD : kvs.length ≤ sizeLine := by
   have h1 := hr.length
   have h2 := dueF_len [r0, r1, r2, r3, r4, r5] 6
   rw [sizeLine_eq]; omega
  have N1 := news_dup N (.tail _ (.tail _ (.tail _ mB)))
  clear N
  k_steps
  rename News _ _ _ _ => N2
  refine hdG ?_; intro Xh hXh
  refine ex2 hz.rw ?_
  rintro vR nR hZ
  refine an2 hZ ?_
  clear hZ
  rintro mR2 iR qR
  refine hXh ?_; clear hXh
  rw [qR, eR] at mR2
  refine name_one N2 fun TT qT => ?_
  subst qT
  have hfz := in7 N2
  refine funM_retL (en := [(RW, lstO [.int r0 t0, .int r1 t1, .int r2 t2, .int r3 t3, .int r4 t4, .int r5 t5] _)]) hret (fun p hp => by rw [List.mem_singleton.mp hp]; exact (hN _ (.tail _ mR)).1) GS (by assumption) (by assumption) (fun p hp => by rw [List.mem_singleton.mp hp]; exact hfz _ mR2) (by k_mem) hps hG fun tl htl => ?_
  have inT : ∀ p ∈ fz, p.2.cls ≠ .type "list" → p ∈ tl := fun p hp c => htl p (hfz p hp) (off p hp).1 (by
   simp only [List.map_cons, List.map_nil, List.mem_singleton]
   exact ne_of_two N2 (hfz p hp) (hfz _ mR2) c)
  refine (ix3 TT S BK (ia3 rfl (htl _ (.head _) ?_ ?_) (ix2 _ _ ⟨htl _ (by k_mem) n1 ?_, iv⟩) (ix2 oB kvB (ia3 (inT _ mB ?_) iB (rB.mono fun v x hv => ?_) loB))))
  ·exact ne_of_two N2 (x := (TT, _)) (y := (283, _)) (.head _) (by k_mem) (by intro e; cases e)
  ·simp only [List.map_cons, List.map_nil, List.mem_singleton]
   exact ne_of_two N2 (x := (TT, _)) (.head _) (hfz _ mR2) (cls_ne (by decide))
  ·simp only [List.map_cons, List.map_nil, List.mem_singleton]
   exact Ne.symm (off _ mR2).2.1
  ·rw [isDict_cls iB]; exact cls_ne (by decide)
  ·refine ex3 hv ?_
   try clear hv
   rintro A us k hZ
   refine an3 hZ ?_
   clear hZ
   rintro q1 q2 q3 q4
   exact (ix3 A us k (ia3 q1 (inT _ q2 (cls_ne (by decide))) q3 q4))
namespace Npart2c
noncomputable def theP (zC : Bag) : Prop := part2c.1 (zC.nat 0) (zC.tok 0) (zC.tok 1) (zC.tok 2) (zC.tok 3) (zC.tok 4) (zC.tok 5) (zC.addr 0) (zC.heap 0) (zC.addr 1) (zC.heap 1) (zC.addr 2) (zC.heap 2) (zC.heap 3) (zC.heap 4) (zC.nat 1) (zC.led 0) (zC.heap 5) (zC.nat 2) (zC.prop 0) (zC.addr 3) (zC.addr 4) (zC.addr 5) (zC.addr 6) (zC.addr 7) (zC.addr 8) (zC.addr 9) (zC.nat 3) (zC.heap 6) (zC.nat 4) (zC.heap 7) (zC.heap 8) (zC.nat 5) (zC.heap 9) (zC.obj 0) (zC.heap 10) (zC.heap 11) (zC.obj 1) (zC.heap 12) (zC.heap 13) (zC.an 0) (zC.an 1) (zC.led 1) (zC.addr 10) (zC.addr 11) (zC.addr 12) (zC.addr 13) (zC.addr 14) (zC.prop 1) (zC.obj 2) (zC.nat 6) (zC.tok 6) (zC.fr 0) (zC.heap 14) (zC.nat 7) (zC.gens 0) (zC.nat 8) (zC.obj 3) (zC.qv 0) (zC.prop 2) (zC.addr 15) (zC.arr 0) (zC.vl 0) (zC.nat 9) (zC.obj 4) (zC.kvs 0) (zC.led 2)
@[irreducible] def tB : Bag := bagOf theP
@[irreducible] def c0z0 := tB.nat 0
@[irreducible] def t0 := tB.tok 0
@[irreducible] def t1 := tB.tok 1
@[irreducible] def t2 := tB.tok 2
@[irreducible] def t3 := tB.tok 3
@[irreducible] def t4 := tB.tok 4
@[irreducible] def t5 := tB.tok 5
@[irreducible] def c0z4 := tB.addr 0
@[irreducible] def c0z5 := tB.heap 0
@[irreducible] def c0z7 := tB.addr 1
@[irreducible] def c0z8 := tB.heap 1
@[irreducible] def D'xq := tB.addr 2
@[irreducible] def h'xq := tB.heap 2
@[irreducible] def c0z10 := tB.heap 3
@[irreducible] def c0z11 := tB.heap 4
@[irreducible] def c0z12 := tB.nat 1
@[irreducible] def tl9 := tB.led 0
@[irreducible] def h9 := tB.heap 5
@[irreducible] def tk9 := tB.nat 2
@[irreducible] def c0z13 := tB.prop 0
@[irreducible] def a0 := tB.addr 3
@[irreducible] def a1 := tB.addr 4
@[irreducible] def a2 := tB.addr 5
@[irreducible] def a3 := tB.addr 6
@[irreducible] def a4 := tB.addr 7
@[irreducible] def a5 := tB.addr 8
@[irreducible] def a6 := tB.addr 9
@[irreducible] def kx := tB.nat 3
@[irreducible] def c0z14 := tB.heap 6
@[irreducible] def c0z15 := tB.nat 4
@[irreducible] def c0z16 := tB.heap 7
@[irreducible] def c0z17 := tB.heap 8
@[irreducible] def tk := tB.nat 5
@[irreducible] def c0z18 := tB.heap 9
@[irreducible] def c0z19 := tB.obj 0
@[irreducible] def c0z24 := tB.heap 10
@[irreducible] def c0z25 := tB.heap 11
@[irreducible] def c0z26 := tB.obj 1
@[irreducible] def c0z31 := tB.heap 12
@[irreducible] def c0z32 := tB.heap 13
@[irreducible] def a := tB.an 0
@[irreducible] def T := tB.an 1
@[irreducible] def c0z33 := tB.led 1
@[irreducible] def LP := tB.addr 10
@[irreducible] def LI := tB.addr 11
@[irreducible] def S := tB.addr 12
@[irreducible] def c0z34 := tB.addr 13
@[irreducible] def DU := tB.addr 14
@[irreducible] def c0z36 := tB.prop 1
@[irreducible] def oR := tB.obj 2
@[irreducible] def i := tB.nat 6
@[irreducible] def t' := tB.tok 6
@[irreducible] def m₁ := tB.fr 0
@[irreducible] def h := tB.heap 14
@[irreducible] def tk' := tB.nat 7
@[irreducible] def gs := tB.gens 0
@[irreducible] def itO := tB.nat 8
@[irreducible] def oiO := tB.obj 3
@[irreducible] def E' := tB.qv 0
@[irreducible] def Xh := tB.prop 2
@[irreducible] def BK := tB.addr 15
@[irreducible] def ps := tB.arr 0
@[irreducible] def vs := tB.vl 0
@[irreducible] def n := tB.nat 9
@[irreducible] def oD := tB.obj 4
@[irreducible] def kvs := tB.kvs 0
@[irreducible] def fz := tB.led 2
theorem up (hup : part2c.1 Npart2c.c0z0 Npart2c.t0 Npart2c.t1 Npart2c.t2 Npart2c.t3 Npart2c.t4 Npart2c.t5 Npart2c.c0z4 Npart2c.c0z5 Npart2c.c0z7 Npart2c.c0z8 Npart2c.D'xq Npart2c.h'xq Npart2c.c0z10 Npart2c.c0z11 Npart2c.c0z12 Npart2c.tl9 Npart2c.h9 Npart2c.tk9 Npart2c.c0z13 Npart2c.a0 Npart2c.a1 Npart2c.a2 Npart2c.a3 Npart2c.a4 Npart2c.a5 Npart2c.a6 Npart2c.kx Npart2c.c0z14 Npart2c.c0z15 Npart2c.c0z16 Npart2c.c0z17 Npart2c.tk Npart2c.c0z18 Npart2c.c0z19 Npart2c.c0z24 Npart2c.c0z25 Npart2c.c0z26 Npart2c.c0z31 Npart2c.c0z32 Npart2c.a Npart2c.T Npart2c.c0z33 Npart2c.LP Npart2c.LI Npart2c.S Npart2c.c0z34 Npart2c.DU Npart2c.c0z36 Npart2c.oR Npart2c.i Npart2c.t' Npart2c.m₁ Npart2c.h Npart2c.tk' Npart2c.gs Npart2c.itO Npart2c.oiO Npart2c.E' Npart2c.Xh Npart2c.BK Npart2c.ps Npart2c.vs Npart2c.n Npart2c.oD Npart2c.kvs Npart2c.fz) : part1.1 theB1 := part2c.2 (fun x0 x1 x2 x3 x4 x5 x6 x7 x8 x9 x10 x11 x12 x13 x14 x15 x16 x17 x18 x19 x20 x21 x22 x23 x24 x25 x26 x27 x28 x29 x30 x31 x32 x33 x34 x35 x36 x37 x38 x39 x40 x41 x42 x43 x44 x45 x46 x47 x48 x49 x50 x51 x52 x53 x54 x55 x56 x57 x58 x59 x60 x61 x62 x63 x64 x65 x66 => bag_all (P := theP) (by with_unfolding_all exact hup) { bag0 with nat := nth [x0, x15, x18, x27, x29, x32, x50, x54, x56, x63] bag0.nat, tok := nth [x1, x2, x3, x4, x5, x6, x51] bag0.tok, addr := nth [x7, x9, x11, x20, x21, x22, x23, x24, x25, x26, x43, x44, x45, x46, x47, x60] bag0.addr, heap := nth [x8, x10, x12, x13, x14, x17, x28, x30, x31, x33, x35, x36, x38, x39, x53] bag0.heap, led := nth [x16, x42, x66] bag0.led, prop := nth [x19, x48, x59] bag0.prop, obj := nth [x34, x37, x49, x57, x64] bag0.obj, an := nth [x40, x41] bag0.an, fr := nth [x52] bag0.fr, gens := nth [x55] bag0.gens, qv := nth [x58] bag0.qv, arr := nth [x61] bag0.arr, vl := nth [x62] bag0.vl, kvs := nth [x65] bag0.kvs })
set_option maxHeartbeats 40000000 in
noncomputable def restc : (R : (Heap) → (Obj) → (Heap) → (Heap) → (Heap) → (Nat) → (Addr) → (Addr) → (List (Addr × Obj)) → (Prop) → (Nat) → (Tok) → (Str → Option Value) → (Heap) → (Nat) → (Array GenState) → (Nat) → (Obj) → (Value → Shared → Prop) → (Prop) → (Tok) → (Addr) → (Array Value) → (List Value) → (Nat) → (Obj) → (Obj) → (List (Int × Value)) → (List (Int × Value)) → (List (Addr × Obj)) → (Prop) → (Nat) → (Tok) → (Tok) → (Tok) → (Nat) → (List Value) → (Nat) → (Nat) → (Nat) → (Value) → (Value) → (Value) → (Nat) → (Value) → (Value) → (Value) → (Nat) → (Prop) → (Int) → (Int) → (Int) → (Int) → (Nat) → (Tok) → (Tok) → (Tok) → (Prop) → (Tok) → Prop) ×' ((∀ x0 x1 x2 x3 x4 x5 x6 x7 x8 x9 x10 x11 x12 x13 x14 x15 x16 x17 x18 x19 x20 x21 x22 x23 x24 x25 x26 x27 x28 x29 x30 x31 x32 x33 x34 x35 x36 x37 x38 x39 x40 x41 x42 x43 x44 x45 x46 x47 x48 x49 x50 x51 x52 x53 x54 x55 x56 x57 x58, R x0 x1 x2 x3 x4 x5 x6 x7 x8 x9 x10 x11 x12 x13 x14 x15 x16 x17 x18 x19 x20 x21 x22 x23 x24 x25 x26 x27 x28 x29 x30 x31 x32 x33 x34 x35 x36 x37 x38 x39 x40 x41 x42 x43 x44 x45 x46 x47 x48 x49 x50 x51 x52 x53 x54 x55 x56 x57 x58) → part2c.1 Npart2c.c0z0 Npart2c.t0 Npart2c.t1 Npart2c.t2 Npart2c.t3 Npart2c.t4 Npart2c.t5 Npart2c.c0z4 Npart2c.c0z5 Npart2c.c0z7 Npart2c.c0z8 Npart2c.D'xq Npart2c.h'xq Npart2c.c0z10 Npart2c.c0z11 Npart2c.c0z12 Npart2c.tl9 Npart2c.h9 Npart2c.tk9 Npart2c.c0z13 Npart2c.a0 Npart2c.a1 Npart2c.a2 Npart2c.a3 Npart2c.a4 Npart2c.a5 Npart2c.a6 Npart2c.kx Npart2c.c0z14 Npart2c.c0z15 Npart2c.c0z16 Npart2c.c0z17 Npart2c.tk Npart2c.c0z18 Npart2c.c0z19 Npart2c.c0z24 Npart2c.c0z25 Npart2c.c0z26 Npart2c.c0z31 Npart2c.c0z32 Npart2c.a Npart2c.T Npart2c.c0z33 Npart2c.LP Npart2c.LI Npart2c.S Npart2c.c0z34 Npart2c.DU Npart2c.c0z36 Npart2c.oR Npart2c.i Npart2c.t' Npart2c.m₁ Npart2c.h Npart2c.tk' Npart2c.gs Npart2c.itO Npart2c.oiO Npart2c.E' Npart2c.Xh Npart2c.BK Npart2c.ps Npart2c.vs Npart2c.n Npart2c.oD Npart2c.kvs Npart2c.fz) := @PSigma.mk _ _ _ fun hR => by
 delta part2c
 dsimp only
 intro b0 b1 b2 b3 b4 b5 hne mR c0z1 hF hX hN hT hM c0z2 c0z3 hk hd hu hret hN1 FG'xq B'xq X'xq T'xq GS MB'xq c0z6 c0z9 l1xq kp9 y0 y1 y2 y3 y4 y5 y6 c0z20 c0z21 c0z22 c0z23 c0z27 c0z28 c0z29 c0z30 row6 N10 mB c0z35 n1 n2 n3 c0z37 loB loD F9 c0z38 eR hi hG e1 e2 e3 e4 e5 e6 e7 hps iv hd9 hr hB hz off hoff c0z39 N F
 w_on
 k_fill
 k_steps
 unfold StopHere
 rename Fr _ _ _ _ => F9
 rename News _ _ _ _ => N9
 rename _ ∧ _ ∧ _ ∧ _ ∧ _ ∧ AllLt _ _ => l2
 rename _ ∧ _ ∧ _ ∧ _ ∧ AllLt _ _ => l1
 rename Obj.IsDictOf (intKind _ _) _ [] => hP0
 rename (_ == sysModules) = false => loP
 refine stage2 N9 l1 l2 off hoff fun SM PG fz1 q1 q2 N10 mS sub off1 nP1 nP2 nP3 nP4 nO1 nO2 nO3 => ?_
 refine hdG ?_; intro Xh hXh
 subst q1 q2
 refine hXh ?_; clear hXh
 clear N9 l1 l2
 refine for1 F9 rfl (by rfl) (by rfl) ?_
 k_steps
 unfold StopHere
 rename Fr _ _ _ _ => F9
 refine loop_range2 F9 N10 (small7 i hi).1 (n := 6 - i) (small7 i hi).2 rfl (InJ w [r0, r1, r2, r3, r4, r5] RW LP LI S DU BK PG itO oiO a T oR i) (ia8 hG rfl rfl rfl rfl rfl rfl rfl (ia2 rfl ⟨_, rfl⟩ (ix6 SM _ _ _ _ _ (ix3 _ _ fz1 (ia8 rfl rfl hps ?_ hd9 (hr.mono (fun v x hv => hv.mono sub)) hP0 .nil (ia3 (hB.mono sub (fun v x hv => hv.mono sub)) (hz.mono sub) ?_ off1)))))) ?_ ?_
 ·show IntsAre _ (_ ++ [])
  rw [List.append_nil]; exact iv
 ·simp only [Nat.add_zero, sum0, sum1, sum2, df_self]
  exact (ix4 _ _ _ _ mS)
 ·rintro j t1' m₁ news₁ h tk' gs itI oiI E' hj hJz
  refine hdG ?_; intro Xh hXh
  refine an8 hJz ?_
  try clear hJz
  rintro hG e1 e2 e3 e4 e5 e6 e7 hZ
  refine an2 hZ ?_
  clear hZ
  rintro e8 ⟨ts, e9⟩ hZ
  refine ex6 hZ ?_
  clear hZ
  rintro SM ps vs n oD oP hZ
  refine ex3 hZ ?_
  clear hZ
  rintro kvs kvp fz hZ
  refine an8 hZ ?_
  clear hZ
  rintro e10 rfl hps iv hd9 hr hp9 hrp hZ
  refine an3 hZ ?_
  clear hZ
  rintro hB hz hSM off
  refine hXh ?_; clear hXh
  rintro hoff F N
  have F := Fr_pin (Fr_pin (Fr_pin (Fr_pin (Fr_pin (Fr_pin (Fr_pin (Fr_pin (Fr_pin (Fr_pin F (x := Str.ofString "row") e1) (x := Str.ofString "lamps") e2) (x := Str.ofString "lights") e3) (x := Str.ofString "shades") e4) (x := Str.ofString "due") e5) (x := Str.ofString "sound") e6) (x := Str.ofString "book") e7) (x := Str.ofString "page") e8) (x := Str.ofString "start") e9) (x := Str.ofString "sums") e10
  refine hdG ?_; intro Xh hXh
  obtain ⟨e, he⟩ : ∃ e : Nat, e = i + 1 + j := ⟨_, rfl⟩
  rw [show (i : Int) + 1 + (j : Int) = (e : Int) by omega] at F
  refine ex4 hSM ?_
  try clear hSM
  rintro sx sy sz sk mS
  refine ex2 hz.rw ?_
  rintro vR nR hZ
  refine an2 hZ ?_
  clear hZ
  rintro mR iR -
  have mR : (RW, W.listOf vR.toArray nR) ∈ fz := mR
  obtain ⟨nP, mP⟩ := hz.lp
  obtain ⟨nL, mL⟩ := hz.li
  refine ex4 (hz.la i (by omega)) ?_
  rintro x0 y0 z0 k0 hZ
  refine an3 hZ ?_
  clear hZ
  rintro m0 u0 u1 u2
  refine ex4 (hz.la e (by omega)) ?_
  rintro x1 y1 z1 k1 hZ
  refine an3 hZ ?_
  clear hZ
  rintro m1 w0 w1 w2
  refine hXh ?_; clear hXh
  have c0 := cnt_le [r0, r1, r2, r3, r4, r5] 0 (show i ≤ e by omega)
  have c1 := cnt_le [r0, r1, r2, r3, r4, r5] 1 (show i ≤ e by omega)
  have c2 := cnt_le [r0, r1, r2, r3, r4, r5] 2 (show i ≤ e by omega)
  have b6 : e ≤ 6 := by omega
  have xi : (#[.ref (a 0), .ref (a 1), .ref (a 2), .ref (a 3), .ref (a 4), .ref (a 5), .ref (a 6)] : Array Value)[(i : Int).toNat]? = some (.ref (a i)) := by
   rw [Int.toNat_natCast]
   rcases (show i = 0 ∨ i = 1 ∨ i = 2 ∨ i = 3 ∨ i = 4 ∨ i = 5 by omega) with h | h | h | h | h | h <;> rw [h] <;> rfl
  have xe : (#[.ref (a 0), .ref (a 1), .ref (a 2), .ref (a 3), .ref (a 4), .ref (a 5), .ref (a 6)] : Array Value)[(e : Int).toNat]? = some (.ref (a e)) := by
   rw [Int.toNat_natCast]
   rcases (show e = 1 ∨ e = 2 ∨ e = 3 ∨ e = 4 ∨ e = 5 ∨ e = 6 by omega) with h | h | h | h | h | h <;> rw [h] <;> rfl
  have bi : 0 ≤ (i : Int) ∧ (i : Int) < 2 ^ 63 := by omega
  have be : 0 ≤ (e : Int) ∧ (e : Int) < 2 ^ 63 := by omega
  have bk := row6.2 (i + j) (by omega)
  refine hdG ?_; intro Xh hXh
  obtain ⟨rk, hrk⟩ : ∃ r : Int, r = [r0, r1, r2, r3, r4, r5].getD (i + j) 0 := ⟨_, rfl⟩
  rw [← hrk] at bk
  refine ex3 (sum_succ row6 (show i ≤ i + j by omega) (show i + j < 6 by omega)) ?_
  rintro q0 q1 q2 hZ
  refine an3 hZ ?_
  clear hZ
  rintro hlam s0 s1 s2
  rw [← hrk] at hlam
  refine ex2 (hz.ti rk.toNat (by omega)) ?_
  rintro vT nT hZ
  obtain ⟨mT, iT⟩ := hZ
  refine hXh ?_; clear hXh
  rw [hlam] at iT
  cases iT with | cons _ tt0 iT
  cases iT with | cons _ tt1 iT
  cases iT with | cons _ tt2 iT
  cases iT
  have xl : (#[.ref (T 0), .ref (T 1), .ref (T 2)] : Array Value)[rk.toNat]? = some (.ref (T rk.toNat)) := by
   rcases (show rk = 0 ∨ rk = 1 ∨ rk = 2 by omega) with h | h | h <;> rw [h] <;> rfl
  have bl : 0 ≤ rk ∧ rk < 2 ^ 63 := by omega
  refine hdG ?_; intro Xh hXh
  obtain ⟨trk, xr⟩ : ∃ t, vR.toArray[((e : Int) - 1).toNat]? = some (.int rk t) := ints_at iR (by rw [show ((e : Int) - 1).toNat = i + j by omega, hrk]; exact get_getD (by show _ < 6; omega))
  have br : 0 ≤ (e : Int) - 1 ∧ (e : Int) - 1 < 2 ^ 63 := by omega
  have N1 : News _ _ h ((itI, oiI) :: (283, parts ps) :: (S, lstO vs n) :: (DU, oD) :: (PG, oP) :: (itO, oiO) :: (SM, _) :: (LI, _) :: (LP, _) :: (a i, _) :: (a e, _) :: (RW, _) :: (T rk.toNat, _) :: fz) := news_more N mS mL mP m0 m1 mR mT
  clear N
  refine an3 (chk_parts row6 (s := i) (e := e) (by omega) b6 (y := Yf (f8 (cnt [r0, r1, r2, r3, r4, r5] 0 e - cnt [r0, r1, r2, r3, r4, r5] 0 i)) (f8 (cnt [r0, r1, r2, r3, r4, r5] 1 e - cnt [r0, r1, r2, r3, r4, r5] 1 i)) (f8 (cnt [r0, r1, r2, r3, r4, r5] 2 e - cnt [r0, r1, r2, r3, r4, r5] 2 i))) rfl rfl rfl) ?_
  rintro cA cb cc cd
  refine hXh ?_; clear hXh
  rw [show sum0 [r0, r1, r2, r3, r4, r5] i e = sum0 [r0, r1, r2, r3, r4, r5] i (i + j) + q0 by rw [s0, he]; congr 1; omega] at cb
  rw [show sum1 [r0, r1, r2, r3, r4, r5] i e = sum1 [r0, r1, r2, r3, r4, r5] i (i + j) + q1 by rw [s1, he]; congr 1; omega] at cc
  rw [show sum2 [r0, r1, r2, r3, r4, r5] i e = sum2 [r0, r1, r2, r3, r4, r5] i (i + j) + q2 by rw [s2, he]; congr 1; omega] at cd
  rename_i c1z0 c1z1 c1z2 c1z3 c1z4 c1z5 c1z6 c1z7 c1z8 c1z9 c1z10 c1z11 c1z12 c1z13 c1z14 c1z15 c1z16 c1z17 c1z18 c1z19 c1z20 c1z21 c1z22 c1z23 c1z24 c1z25 c1z26 c1z27 c1z28 c1z29 c1z30 c1z31 c1z32 c1z33 c1z34 c1z35 c1z36
  revert b0 b1 b2 b3 b4 b5 hne c1z0 c0z1 hF hX hN hT hM c0z2 c0z3 hk hd hu hret hN1 FG'xq B'xq X'xq T'xq GS MB'xq c0z6 c0z9 l1xq kp9 c1z1 c1z2 y2 y3 y4 y5 y6 c0z20 c0z21 c0z22 c0z23 c0z27 c0z28 c0z29 c0z30 row6 mB c0z35 n1 n2 n3 c0z37 loB loD c0z38 eR hi c1z3 c1z4 c1z5 c1z6 c1z7 c1z8 c1z9 c1z10 c1z11 c1z12 c1z13 c1z14 c1z15 c1z16 c1z17 c1z18 c1z21 c1z22 c1z23 hP0 c1z24 N10 c1z29 sub off1 nP1 nP2 nP3 nP4 nO1 nO2 nO3 c1z31 loP F9 hj hG e1 e2 e3 e4 e5 e6 e7 e8 e9 e10 hps iv hd9 hr hp9 hrp hB hz off hoff c1z33 F he mS c1z35 iR mR mP mL m0 u0 u1 u2 m1 w0 w1 w2 c0 c1 c2 b6 xi xe bi be bk hrk hlam s0 s1 s2 mT xl bl xr br N1 cA cb cc cd
  revert c1z19 c1z20 c1z25 c1z26 c1z27 tk c1z28 PG fz1 c1z30 j t1' m₁ h tk' gs itI oiI E' c1z32 ts SM ps vs n oD oP kvs kvp fz c1z34 e sx sy sz sk vR nR nP nL x0 y0 z0 k0 x1 y1 z1 k1 c1z36 rk q0 q1 q2 nT tt0 tt1 tt2 Xh trk
  exact hR
 ·rintro h' tk gs m' news' F N hJz
  refine hdG ?_; intro Xh hXh
  refine an8 hJz ?_
  try clear hJz
  rintro hG e1 e2 e3 e4 e5 e6 e7 hZ
  refine an2 hZ ?_
  clear hZ
  rintro e8 ⟨ts, e9⟩ hZ
  refine ex6 hZ ?_
  clear hZ
  rintro SM ps vs n oD oP hZ
  refine ex3 hZ ?_
  clear hZ
  rintro kvs kvp fz hZ
  refine an8 hZ ?_
  clear hZ
  rintro e10 rfl hps iv hd9 hr hp9 hrp hZ
  refine an3 hZ ?_
  clear hZ
  rintro hB hz hSM off
  refine hXh ?_; clear hXh
  have F := Fr_pin (Fr_pin (Fr_pin (Fr_pin (Fr_pin (Fr_pin (Fr_pin (Fr_pin F (x := Str.ofString "row") e1) (x := Str.ofString "lamps") e2) (x := Str.ofString "lights") e3) (x := Str.ofString "shades") e4) (x := Str.ofString "due") e5) (x := Str.ofString "sound") e6) (x := Str.ofString "book") e7) (x := Str.ofString "page") e8
  have kP : DictIn w (TupV ((PG, oP) :: fz)) ((PG, oP) :: fz) PG (pageF [r0, r1, r2, r3, r4, r5] i (6 - i)) := (ix2 oP kvp (ia3 (.head _) hp9 (hrp.mono (fun v x hv => hv.mono fun p hp => .tail _ hp)) loP))
  have kB : DictIn w (TupV ((PG, oP) :: fz)) ((PG, oP) :: fz) BK (bookF [r0, r1, r2, r3, r4, r5] i) := hB.mono (fun p hp => .tail _ hp) (fun v x hv => hv.mono fun p hp => .tail _ hp)
  have kO : ∀ p ∈ (PG, oP) :: fz, @Ne Nat p.1 283 := List.forall_mem_cons.mpr ⟨nP1.symm, fun p hp => (off p hp).1⟩
  have kZ : (bookF [r0, r1, r2, r3, r4, r5] i).length + (pageF [r0, r1, r2, r3, r4, r5] i (6 - i)).length ≤ 1000 := by
   have h1 := bookF_len [r0, r1, r2, r3, r4, r5] i
   have h2 := pageF_len [r0, r1, r2, r3, r4, r5] i (6 - i)
   omega
  have kA : ∀ p ∈ (S, lstO vs n) :: (DU, oD) :: (PG, oP) :: (itO, oiO) :: fz, @Ne Nat p.1 283 := List.forall_mem_cons.mpr ⟨n1, List.forall_mem_cons.mpr ⟨n2, List.forall_mem_cons.mpr ⟨nP1.symm, List.forall_mem_cons.mpr ⟨nO1.symm, fun p hp => (off p hp).1⟩⟩⟩⟩
  k_steps
  rename Fr _ _ _ _ => F2
  rename News _ _ _ _ => N2
  rename AllBare _ => G2
  rename TriplesOk _ => tr2
  rename DictIn _ _ _ _ (dMerge _ _ _) => kD
  rename (∀ p, p ∈ _ → ∀ q, q ∈ _ → _) => ne2
  refine (⟨.inl rfl, ix5 _ _ _ ((283, _) :: (S, _) :: (DU, _) :: (_ ++ (PG, _) :: fz)) _ (ia8 rfl F2 (out_news N2) (out_it ne2 off nP4 nO1 nO2 nO3) G2 rfl rfl rfl (ia3 rfl rfl rfl (ix6 _ _ _ _ _ _ ⟨_, ia8 rfl rfl tr2 ?_ hd9 ?_ ?_ (hz.mono (fun p hp => List.mem_append_right _ (.tail _ hp))) (out_off ne2 off nP1 nP2 nP3)⟩)))⟩)
  ·rw [shadesF_succ]; exact iv
  ·rw [dueF_succ]; exact hr.mono fun v x hv => hv.mono fun p hp => List.mem_append_right _ (.tail _ hp)
  ·rw [bookF_succ]; exact kD.mono (fun p hp => List.mem_append_left _ hp) (fun v x hv => hv)
namespace Nrestc
noncomputable def theP (zC : Bag) : Prop := restc.1 (zC.heap 0) (zC.obj 0) (zC.heap 1) (zC.heap 2) (zC.heap 3) (zC.nat 0) (zC.addr 0) (zC.addr 1) (zC.led 0) (zC.prop 0) (zC.nat 1) (zC.tok 0) (zC.fr 0) (zC.heap 4) (zC.nat 2) (zC.gens 0) (zC.nat 3) (zC.obj 1) (zC.qv 0) (zC.prop 1) (zC.tok 1) (zC.addr 2) (zC.arr 0) (zC.vl 0) (zC.nat 4) (zC.obj 2) (zC.obj 3) (zC.kvs 0) (zC.kvs 1) (zC.led 1) (zC.prop 2) (zC.nat 5) (zC.tok 2) (zC.tok 3) (zC.tok 4) (zC.nat 6) (zC.vl 1) (zC.nat 7) (zC.nat 8) (zC.nat 9) (zC.val 0) (zC.val 1) (zC.val 2) (zC.nat 10) (zC.val 3) (zC.val 4) (zC.val 5) (zC.nat 11) (zC.prop 3) (zC.int 0) (zC.int 1) (zC.int 2) (zC.int 3) (zC.nat 12) (zC.tok 5) (zC.tok 6) (zC.tok 7) (zC.prop 4) (zC.tok 8)
@[irreducible] def tB : Bag := bagOf theP
@[irreducible] def c1z19 := tB.heap 0
@[irreducible] def c1z20 := tB.obj 0
@[irreducible] def c1z25 := tB.heap 1
@[irreducible] def c1z26 := tB.heap 2
@[irreducible] def c1z27 := tB.heap 3
@[irreducible] def tk := tB.nat 0
@[irreducible] def c1z28 := tB.addr 0
@[irreducible] def PG := tB.addr 1
@[irreducible] def fz1 := tB.led 0
@[irreducible] def c1z30 := tB.prop 0
@[irreducible] def j := tB.nat 1
@[irreducible] def t1' := tB.tok 0
@[irreducible] def m₁ := tB.fr 0
@[irreducible] def h := tB.heap 4
@[irreducible] def tk' := tB.nat 2
@[irreducible] def gs := tB.gens 0
@[irreducible] def itI := tB.nat 3
@[irreducible] def oiI := tB.obj 1
@[irreducible] def E' := tB.qv 0
@[irreducible] def c1z32 := tB.prop 1
@[irreducible] def ts := tB.tok 1
@[irreducible] def SM := tB.addr 2
@[irreducible] def ps := tB.arr 0
@[irreducible] def vs := tB.vl 0
@[irreducible] def n := tB.nat 4
@[irreducible] def oD := tB.obj 2
@[irreducible] def oP := tB.obj 3
@[irreducible] def kvs := tB.kvs 0
@[irreducible] def kvp := tB.kvs 1
@[irreducible] def fz := tB.led 1
@[irreducible] def c1z34 := tB.prop 2
@[irreducible] def e := tB.nat 5
@[irreducible] def sx := tB.tok 2
@[irreducible] def sy := tB.tok 3
@[irreducible] def sz := tB.tok 4
@[irreducible] def sk := tB.nat 6
@[irreducible] def vR := tB.vl 1
@[irreducible] def nR := tB.nat 7
@[irreducible] def nP := tB.nat 8
@[irreducible] def nL := tB.nat 9
@[irreducible] def x0 := tB.val 0
@[irreducible] def y0 := tB.val 1
@[irreducible] def z0 := tB.val 2
@[irreducible] def k0 := tB.nat 10
@[irreducible] def x1 := tB.val 3
@[irreducible] def y1 := tB.val 4
@[irreducible] def z1 := tB.val 5
@[irreducible] def k1 := tB.nat 11
@[irreducible] def c1z36 := tB.prop 3
@[irreducible] def rk := tB.int 0
@[irreducible] def q0 := tB.int 1
@[irreducible] def q1 := tB.int 2
@[irreducible] def q2 := tB.int 3
@[irreducible] def nT := tB.nat 12
@[irreducible] def tt0 := tB.tok 5
@[irreducible] def tt1 := tB.tok 6
@[irreducible] def tt2 := tB.tok 7
@[irreducible] def Xh := tB.prop 4
@[irreducible] def trk := tB.tok 8
theorem up (hup : restc.1 Nrestc.c1z19 Nrestc.c1z20 Nrestc.c1z25 Nrestc.c1z26 Nrestc.c1z27 Nrestc.tk Nrestc.c1z28 Nrestc.PG Nrestc.fz1 Nrestc.c1z30 Nrestc.j Nrestc.t1' Nrestc.m₁ Nrestc.h Nrestc.tk' Nrestc.gs Nrestc.itI Nrestc.oiI Nrestc.E' Nrestc.c1z32 Nrestc.ts Nrestc.SM Nrestc.ps Nrestc.vs Nrestc.n Nrestc.oD Nrestc.oP Nrestc.kvs Nrestc.kvp Nrestc.fz Nrestc.c1z34 Nrestc.e Nrestc.sx Nrestc.sy Nrestc.sz Nrestc.sk Nrestc.vR Nrestc.nR Nrestc.nP Nrestc.nL Nrestc.x0 Nrestc.y0 Nrestc.z0 Nrestc.k0 Nrestc.x1 Nrestc.y1 Nrestc.z1 Nrestc.k1 Nrestc.c1z36 Nrestc.rk Nrestc.q0 Nrestc.q1 Nrestc.q2 Nrestc.nT Nrestc.tt0 Nrestc.tt1 Nrestc.tt2 Nrestc.Xh Nrestc.trk) : part2c.1 Npart2c.c0z0 Npart2c.t0 Npart2c.t1 Npart2c.t2 Npart2c.t3 Npart2c.t4 Npart2c.t5 Npart2c.c0z4 Npart2c.c0z5 Npart2c.c0z7 Npart2c.c0z8 Npart2c.D'xq Npart2c.h'xq Npart2c.c0z10 Npart2c.c0z11 Npart2c.c0z12 Npart2c.tl9 Npart2c.h9 Npart2c.tk9 Npart2c.c0z13 Npart2c.a0 Npart2c.a1 Npart2c.a2 Npart2c.a3 Npart2c.a4 Npart2c.a5 Npart2c.a6 Npart2c.kx Npart2c.c0z14 Npart2c.c0z15 Npart2c.c0z16 Npart2c.c0z17 Npart2c.tk Npart2c.c0z18 Npart2c.c0z19 Npart2c.c0z24 Npart2c.c0z25 Npart2c.c0z26 Npart2c.c0z31 Npart2c.c0z32 Npart2c.a Npart2c.T Npart2c.c0z33 Npart2c.LP Npart2c.LI Npart2c.S Npart2c.c0z34 Npart2c.DU Npart2c.c0z36 Npart2c.oR Npart2c.i Npart2c.t' Npart2c.m₁ Npart2c.h Npart2c.tk' Npart2c.gs Npart2c.itO Npart2c.oiO Npart2c.E' Npart2c.Xh Npart2c.BK Npart2c.ps Npart2c.vs Npart2c.n Npart2c.oD Npart2c.kvs Npart2c.fz := restc.2 (fun x0 x1 x2 x3 x4 x5 x6 x7 x8 x9 x10 x11 x12 x13 x14 x15 x16 x17 x18 x19 x20 x21 x22 x23 x24 x25 x26 x27 x28 x29 x30 x31 x32 x33 x34 x35 x36 x37 x38 x39 x40 x41 x42 x43 x44 x45 x46 x47 x48 x49 x50 x51 x52 x53 x54 x55 x56 x57 x58 => bag_all (P := theP) (by with_unfolding_all exact hup) { bag0 with heap := nth [x0, x2, x3, x4, x13] bag0.heap, obj := nth [x1, x17, x25, x26] bag0.obj, nat := nth [x5, x10, x14, x16, x24, x31, x35, x37, x38, x39, x43, x47, x53] bag0.nat, addr := nth [x6, x7, x21] bag0.addr, led := nth [x8, x29] bag0.led, prop := nth [x9, x19, x30, x48, x57] bag0.prop, tok := nth [x11, x20, x32, x33, x34, x54, x55, x56, x58] bag0.tok, fr := nth [x12] bag0.fr, gens := nth [x15] bag0.gens, qv := nth [x18] bag0.qv, arr := nth [x22] bag0.arr, vl := nth [x23, x36] bag0.vl, kvs := nth [x27, x28] bag0.kvs, val := nth [x40, x41, x42, x44, x45, x46] bag0.val, int := nth [x49, x50, x51, x52] bag0.int })
set_option maxHeartbeats 40000000 in
theorem rest : restc.1 Nrestc.c1z19 Nrestc.c1z20 Nrestc.c1z25 Nrestc.c1z26 Nrestc.c1z27 Nrestc.tk Nrestc.c1z28 Nrestc.PG Nrestc.fz1 Nrestc.c1z30 Nrestc.j Nrestc.t1' Nrestc.m₁ Nrestc.h Nrestc.tk' Nrestc.gs Nrestc.itI Nrestc.oiI Nrestc.E' Nrestc.c1z32 Nrestc.ts Nrestc.SM Nrestc.ps Nrestc.vs Nrestc.n Nrestc.oD Nrestc.oP Nrestc.kvs Nrestc.kvp Nrestc.fz Nrestc.c1z34 Nrestc.e Nrestc.sx Nrestc.sy Nrestc.sz Nrestc.sk Nrestc.vR Nrestc.nR Nrestc.nP Nrestc.nL Nrestc.x0 Nrestc.y0 Nrestc.z0 Nrestc.k0 Nrestc.x1 Nrestc.y1 Nrestc.z1 Nrestc.k1 Nrestc.c1z36 Nrestc.rk Nrestc.q0 Nrestc.q1 Nrestc.q2 Nrestc.nT Nrestc.tt0 Nrestc.tt1 Nrestc.tt2 Nrestc.Xh Nrestc.trk := by
 delta restc
 dsimp only
 intro b0 b1 b2 b3 b4 b5 hne c1z0 c0z1 hF hX hN hT hM c0z2 c0z3 hk hd hu hret hN1 FG'xq B'xq X'xq T'xq GS MB'xq c0z6 c0z9 l1xq kp9 c1z1 c1z2 y2 y3 y4 y5 y6 c0z20 c0z21 c0z22 c0z23 c0z27 c0z28 c0z29 c0z30 row6 mB c0z35 n1 n2 n3 c0z37 loB loD c0z38 eR hi c1z3 c1z4 c1z5 c1z6 c1z7 c1z8 c1z9 c1z10 c1z11 c1z12 c1z13 c1z14 c1z15 c1z16 c1z17 c1z18 c1z21 c1z22 c1z23 hP0 c1z24 N10 c1z29 sub off1 nP1 nP2 nP3 nP4 nO1 nO2 nO3 c1z31 loP F9 hj hG e1 e2 e3 e4 e5 e6 e7 e8 e9 e10 hps iv hd9 hr hp9 hrp hB hz off hoff c1z33 F he mS c1z35 iR mR mP mL m0 u0 u1 u2 m1 w0 w1 w2 c0 c1 c2 b6 xi xe bi be bk hrk hlam s0 s1 s2 mT xl bl xr br N1 cA cb cc cd
 w_on
 k_fill
 k_steps
 ·exact EltRet.done (by assumption) (by assumption) (by assumption)
 ·rename EltRet _ _ _ _ => ret8
  exact ret8 _ _ _ ⟨_, rfl⟩ (fun _ _ e => e)
 ·rename EltRet _ _ _ _ => ret8
  exact ret8 _ _ _ (by assumption) (by assumption)
 ·rename EltRet _ _ _ _ => ret8
  exact ret8 _ _ _ ⟨_, rfl⟩ (fun _ _ e => e)
 unfold StopHere
 rename Fr _ _ _ _ => F9
 rename News _ _ _ _ => N9
 have hszS : vs.length ≤ 1000 := by
  have h1 := iv.length
  have h2 : (shadesF [r0, r1, r2, r3, r4, r5] i ++ shadesIn [r0, r1, r2, r3, r4, r5] i j).length ≤ 1000 := shades_le (by omega) (by omega)
  omega
 have hszD : kvs.length ≤ sizeLine := by
  have h1 := hr.length
  have h2 := dueIn_len [r0, r1, r2, r3, r4, r5] i (dueF [r0, r1, r2, r3, r4, r5] i) j
  have h3 := dueF_len [r0, r1, r2, r3, r4, r5] i
  rw [sizeLine_eq]; omega
 have hszP : kvp.length ≤ sizeLine := by
  have h1 := hrp.length
  have h2 := pageF_len [r0, r1, r2, r3, r4, r5] i j
  rw [sizeLine_eq]; omega
 refine stage4 N9 (by assumption) off hoff fun fz2 N10 mS2 sub2 f1 f2 f3 f4 f5 f6 g1 g2 g3 g4 g5 => ?_
 clear N9
 have hr2 : Rep (TupV fz2) kvs (dueIn [r0, r1, r2, r3, r4, r5] i (dueF [r0, r1, r2, r3, r4, r5] i) j) := hr.mono fun v x hv => hv.mono sub2
 clear off hoff
 k_steps
 rename Fr _ _ _ _ => F2
 rename News _ _ _ _ => N2
 rename Obj.IsDictOf (intKind _ _) _ (stored kvs _ _) => hd2
 rename Obj.IsDictOf (intKind _ _) _ (stored kvp _ _) => hp2
 rename IntsAre (vs ++ _) _ => iv2
 rename (dLook _ _).getD zero4 = _ => e9
 refine name5 N2 fun D5 Dz D4 q5 qz q4 => ?_
 refine hdG ?_; intro Xh hXh
 subst q5 qz q4
 refine hXh ?_; clear hXh
 rename Dz < D5 ∧ D4 < D5 ∧ _ < D5 ∧ _ < D5 ∧ _ < D5 ∧ _ < D5 ∧ _ < D5 ∧ _ < D5 ∧ AllLt D5 _ => l5
 rename _ < D4 ∧ _ < D4 ∧ _ < D4 ∧ _ < D4 ∧ _ < D4 ∧ _ < D4 ∧ AllLt D4 _ => l4
 refine (⟨.inl rfl, ix5 _ _ _ ((283, _) :: (S, _) :: (DU, _) :: (PG, _) :: (itO, _) :: (D5, _) :: (D4, _) :: fz2) _ (ia8 rfl F2 (turn_news N2) (inn_it l4 l5 g1 g2 g3 g4 g5 f5) hG rfl rfl rfl (ia6 rfl rfl rfl rfl rfl ⟨_, rfl⟩ (ix6 _ _ _ _ _ _ (ix3 _ _ ((D5, _) :: (D4, _) :: fz2) (ia8 rfl rfl hps ?_ hd2 ?_ hp2 ?_ (ia3 (hB.mono (fun p hp => .tail _ (.tail _ (sub2 p hp))) (fun v x hv => hv.mono fun p hp => .tail _ (.tail _ (sub2 p hp)))) (hz.mono (fun p hp => .tail _ (.tail _ (sub2 p hp)))) ?_ (inn_off l4 l5 f1 f2 f3 f4 f6)))))))⟩)
 ·rw [shadesIn_succ, ← List.append_assoc, ← he]; exact iv2
 ·rw [dueIn_succ, ← he]
  unfold dueStep
  rw [e9]
  exact (hr2.mono fun v x hv => hv.mono fun p hp => .tail _ (.tail _ hp)).put _ (ix3 D5 _ _ (ia3 rfl (.head _) (.cons _ _ (.cons _ _ (.cons _ _ (.cons _ _ .nil)))) rfl))
 ·rw [pageF_succ, ← he]
  exact (hrp.mono fun v x hv => hv.mono fun p hp => .tail _ (.tail _ (sub2 p hp))).put _ (ix3 D4 _ _ (ia3 rfl (.tail _ (.head _)) (.cons _ _ (.cons _ _ (.cons _ _ (.cons _ _ .nil)))) rfl))
 ·rw [s0, s1, s2] at mS2
  exact (ix4 _ _ _ _ (.tail _ (.tail _ mS2)))
end Nrestc
theorem rest : part2c.1 Npart2c.c0z0 Npart2c.t0 Npart2c.t1 Npart2c.t2 Npart2c.t3 Npart2c.t4 Npart2c.t5 Npart2c.c0z4 Npart2c.c0z5 Npart2c.c0z7 Npart2c.c0z8 Npart2c.D'xq Npart2c.h'xq Npart2c.c0z10 Npart2c.c0z11 Npart2c.c0z12 Npart2c.tl9 Npart2c.h9 Npart2c.tk9 Npart2c.c0z13 Npart2c.a0 Npart2c.a1 Npart2c.a2 Npart2c.a3 Npart2c.a4 Npart2c.a5 Npart2c.a6 Npart2c.kx Npart2c.c0z14 Npart2c.c0z15 Npart2c.c0z16 Npart2c.c0z17 Npart2c.tk Npart2c.c0z18 Npart2c.c0z19 Npart2c.c0z24 Npart2c.c0z25 Npart2c.c0z26 Npart2c.c0z31 Npart2c.c0z32 Npart2c.a Npart2c.T Npart2c.c0z33 Npart2c.LP Npart2c.LI Npart2c.S Npart2c.c0z34 Npart2c.DU Npart2c.c0z36 Npart2c.oR Npart2c.i Npart2c.t' Npart2c.m₁ Npart2c.h Npart2c.tk' Npart2c.gs Npart2c.itO Npart2c.oiO Npart2c.E' Npart2c.Xh Npart2c.BK Npart2c.ps Npart2c.vs Npart2c.n Npart2c.oD Npart2c.kvs Npart2c.fz := Nrestc.up Nrestc.rest
end Npart2c
theorem part2 : part1.1 theB1 := Npart2c.up Npart2c.rest
theorem core : coreT := part1.2 (by with_unfolding_all exact part2)
end E_stretches
theorem stretches (w : World) (mg mb) {RW : Addr} {r0 r1 r2 r3 r4 r5 : Int} {led : List (Addr × Obj)} (hr : IntsIn led RW [r0, r1, r2, r3, r4, r5]) (b0 : 0 ≤ r0 ∧ r0 < 3) (b1 : 0 ≤ r1 ∧ r1 < 3) (b2 : 0 ≤ r2 ∧ r2 < 3) (b3 : 0 ≤ r3 ∧ r3 < 3) (b4 : 0 ≤ r4 ∧ r4 < 3) (b5 : 0 ≤ r5 ∧ r5 < 3) (hne : @Ne Nat RW 283) : FunM 12 w mg mb 326 [.ref RW] led (fun r tl => ∃ T S BK, r = .ref T ∧ (T, tupO [.ref S, .ref BK, .bool true] 0) ∈ tl ∧ IntsIn tl S (shadesF [r0, r1, r2, r3, r4, r5] 6) ∧ DictIn w (TupV tl) tl BK (dueF [r0, r1, r2, r3, r4, r5] 6)) := fun dpzz unzz gdzz cnzz cszz azz ccdzz clzz outerzz A₀zz basezz h₀zz Lzz mzz szz pszz Qzz Ezz => bag_all (P := E_stretches.theP) (by with_unfolding_all exact @E_stretches.core) { bag0 with A := nth [A₀zz, A₀zz, A₀zz] bag0.A, addr := nth [azz, Lzz, azz, RW] bag0.addr, arr := nth [pszz, pszz, pszz] bag0.arr, cl := nth [clzz, clzz, clzz] bag0.cl, fr := nth [mzz, mzz, mzz, mg, mb] bag0.fr, gd := nth [gdzz, gdzz, gdzz] bag0.gd, heap := nth [basezz, h₀zz, basezz] bag0.heap, int := nth [r0, r0, r0, r0, r1, r2, r3, r4, r5] bag0.int, led := nth [led, led, led, led] bag0.led, nat := nth [dpzz, unzz, dpzz] bag0.nat, outer := nth [outerzz, outerzz, outerzz] bag0.outer, qv := nth [Qzz, Ezz, Qzz] bag0.qv, s := nth [szz, szz, szz] bag0.s, scope := nth [cszz, cszz, cszz] bag0.scope, str := nth [cnzz, cnzz, cnzz] bag0.str, val := nth [ccdzz, ccdzz, ccdzz] bag0.val, w := nth [w, w, w, w] bag0.w } hr b0 b1 b2 b3 b4 b5 hne
end Mine
end
section
theorem Mine.clearH3 : True := by
 k_with_none
 trivial
open PySem PySem.W PyProof.Rows PySem.Calls PySem.Spec
set_option Elab.async false
set_option maxRecDepth 100000
namespace Mine
noncomputable def FunUAt (h₀ : Heap) (k : Nat) (w : World) (mg mb : Str → Option Value) (f : Addr) (vs : List Value) (led : List (Addr × Obj)) (d : Addr) (o : Obj) (P : Value → Obj → List (Addr × Obj) → Prop) : Prop :=
 ∀ (dp un : Nat) (gd : Option (List Code)) (cn : Str) (cs : Scope) (a : Addr) (ccd : Value) (cl : List (Str × Addr)) (outer : List Env) (A₀ : Around) (base : Heap) (L : Addr) (m : Str → Option Value) (s : Shared) (Q E : Value → Shared → Prop),
  Below A₀ base outer h₀ → Fr h₀ L s.heap m → (Mine.hdX.heap_1 w.params).In h₀ → News h₀ L s.heap ((d, o) :: led) → TopRead qv (looseW qv loose) mg mb h₀ → cs.kind = .function →
  dp + k < recursionLimit → un + 16 * k < cLine →
  (∀ (r : Value) (o' : Obj) (tl : List (Addr × Obj)) (h' : Heap) (tk' : Nat), (∀ b o, b ≠ d → s.heap.get? b = some o → h'.get? b = some o) → h'.get? d = some o' → (∀ p ∈ tl, h'.get? p.1 = some p.2 ∧ s.heap.get? p.1 = none) → P r o' tl → Q r { s with heap := h', toks := tk' }) →
   wpAny (model PySem.Challenge.rw_wv0062_01.row.prog w) (ktrTop dp un gd cn cs L a ccd cl outer) (call (.ref f) vs) Q E s
theorem funU_useAt0 {k : Nat} {w : World} {mg mb : Str → Option Value} {f : Addr} {vs : List Value} {led : List (Addr × Obj)} {d : Addr} {o : Obj} {P : Value → Obj → List (Addr × Obj) → Prop} {A₀ : Around} {base h₀ : Heap} (C : FunUAt h₀ k w mg mb f vs led d o P) {news : List (Addr × Obj)} {dp un : Nat} {gd : Option (List Code)} {cn : Str} {cs : Scope} {a : Addr} {ccd : Value} {cl : List (Str × Addr)} {outer : List Env} {L : Addr} {m : Str → Option Value} {s : Shared} {g : Obj → List (Addr × Obj)} {Q E : Value → Shared → Prop}
  (B : Below A₀ base outer h₀) (F : Fr h₀ L s.heap m) (X : (Mine.hdX.heap_1 w.params).In h₀) (N : News h₀ L s.heap news) (T : TopRead qv (looseW qv loose) mg mb h₀) (U : UpdF d o news g) (hk : cs.kind = .function) (hd : dp + k < recursionLimit) (hu : un + 16 * k < cLine) (hl : ∀ p ∈ led, p ∈ news)
  (ret : ∀ (r : Value) (o' : Obj) (tl : List (Addr × Obj)) (h' : Heap) (tk' : Nat), Fr h₀ L h' m → News h₀ L h' (tl ++ g o') → (∀ p ∈ tl, ∀ q ∈ news, @Ne Nat q.1 p.1) → P r o' tl → Q r { s with heap := h', toks := tk' }) :
  wpAny (model PySem.Challenge.rw_wv0062_01.row.prog w) (ktrTop dp un gd cn cs L a ccd cl outer) (call (.ref f) vs) Q E s := by
 refine hdG ?_; intro Xh hXh
 refine ex2 U.split ?_
 rintro pre post hZ
 refine an3 hZ ?_
 clear hZ
 rintro rfl hg ua ub
 refine hXh ?_; clear hXh
 have hP := N (d, o) (List.mem_append_right _ (.head _))
 refine C _ _ _ _ _ _ _ _ _ _ _ _ _ _ _ _ B F X (fun p hp => ?_) T hk hd hu fun r o' tl h' tk' keep hd' fr hP' => ?_
 ·rcases List.mem_cons.mp hp with rfl | hp
  ·exact hP
  ·exact N p (hl p hp)
 refine hdG ?_; intro Xh hXh
 refine ex3 F.ns ?_
 rintro oL e1 e2 hZ
 obtain ⟨hL, e3⟩ := hZ
 refine hXh ?_; clear hXh
 have n0 : h₀.get? d = none := hP.2.2
 have kb : ∀ b o, h₀.get? b = some o → h'.get? b = some o := fun b o e => keep b o (fun q => by rw [q, n0] at e; cases e) (F.keep b o e)
 have F' : Fr h₀ L h' m := ⟨(ix3 oL e1 e2 ⟨keep L oL (Ne.symm hP.2.1) hL, e3⟩), kb, F.above⟩
 refine ret r o' tl h' tk' F' (fun p hp => ?_) (fun p hp q hq e => ?_) hP'
 ·rcases List.mem_append.mp hp with hp | hp
  ·have z := fr p hp
   refine (ia2 z.1 (fun e => ?_) ?_)
   ·rw [e, hL] at z; cases z.2
   ·cases e : h₀.get? p.1 with
    | none => rfl
    | some o => rw [F.keep _ _ e] at z; cases z.2
  ·rw [hg] at hp
   rcases List.mem_append.mp hp with hp | hp
   ·have z := N p (List.mem_append_left _ hp)
    exact ⟨keep _ _ (ua p hp) z.1, z.2⟩
   ·rcases List.mem_cons.mp hp with rfl | hp
    ·exact ⟨hd', hP.2⟩
    ·have z := N p (List.mem_append_right _ (.tail _ hp))
     exact ⟨keep _ _ (ub p hp) z.1, z.2⟩
 ·have z := (fr p hp).2
  have e' : q.1 = p.1 := e
  rw [← e', (N q hq).1] at z
  cases z
theorem funU_useAt {k : Nat} {w : World} {mg mb : Str → Option Value} {f : Addr} {vs : List Value} {led : List (Addr × Obj)} {d : Addr} {o : Obj} {P : Value → Obj → List (Addr × Obj) → Prop} {A₀ : Around} {base h₀ : Heap} (C : FunUAt h₀ k w mg mb f vs led d o P) {news : List (Addr × Obj)} {dp un : Nat} {gd : Option (List Code)} {cn : Str} {cs : Scope} {a : Addr} {ccd : Value} {cl : List (Str × Addr)} {outer : List Env} {L : Addr} {m : Str → Option Value} {hs : Heap} {gs : Array GenState} {dr : Drawn} {tk : Nat} {os : OsState} {g : Obj → List (Addr × Obj)} {Q E : Value → Shared → Prop}
  (B : Below A₀ base outer h₀) (F : Fr h₀ L hs m) (X : (Mine.hdX.heap_1 w.params).In h₀) (N : News h₀ L hs news) (T : TopRead qv (looseW qv loose) mg mb h₀) (U : UpdF d o news g) (hk : cs.kind = .function) (hd : dp + k < recursionLimit) (hu : un + 16 * k < cLine) (hl : ∀ p ∈ led, p ∈ news)
  (ret : ∀ (r : Value) (o' : Obj) (tl : List (Addr × Obj)) (h' : Heap) (tk' : Nat), Fr h₀ L h' m → News h₀ L h' (tl ++ g o') → (∀ p ∈ tl, ∀ q ∈ news, @Ne Nat q.1 p.1) → P r o' tl → Q r ⟨h', gs, dr, tk', os⟩) :
  wpAny (model PySem.Challenge.rw_wv0062_01.row.prog w) (ktrTop dp un gd cn cs L a ccd cl outer) (call (.ref f) vs) Q E ⟨hs, gs, dr, tk, os⟩ :=
 funU_useAt0 (s := ⟨hs, gs, dr, tk, os⟩) C B F X N T U hk hd hu hl ret
theorem rowsH3a : True := by
 k_with_none
 (k_with "mine lt" => with_reducible first | assumption | exact cj0 ‹_› | exact cj1 ‹_› | exact cj2 ‹_› | exact cj3 ‹_› | exact cj4 ‹_› | exact cj5 ‹_› | exact cj6 ‹_› | exact cj7 ‹_› | exact cj8 ‹_› | exact cj9 ‹_› | exact cj10 ‹_› | exact cj11 ‹_› | exact cj12 ‹_› | exact cj13 ‹_› | exact cj14 ‹_› | exact cj15 ‹_› | exact dk1 ‹_› | exact dk2 ‹_› | exact dk3 ‹_› | exact dk4 ‹_› | exact dk5 ‹_› | exact dk6 ‹_› | exact dk7 ‹_› | exact dk8 ‹_› | exact dk9 ‹_› | exact dk10 ‹_› | exact dk11 ‹_› | exact dk12 ‹_› | exact dk13 ‹_› | exact dk14 ‹_› | exact dk15 ‹_›)
 (k_with "mine k_ne" => (refine neN ?_; (try dsimp only); first | with_reducible assumption | exact Ne.symm (by with_reducible assumption) | exact Nat.ne_of_lt (by k_extra "mine lt") | exact Nat.ne_of_gt (by k_extra "mine lt") | omega))
 (k_with "mine cell_enter" => (refine' code_defR (by exact rfl) (by exact rfl) (by assumption) (by k_asm) (by k_asm) (by k_asm) (by k_asm) (by k_asm) (by k_is) (by k_is) (by ktr_room) (by exact BindsTo.of_eq rfl) (by exact locs rfl) ?_ (by exact rfl) (by exact rfl) (by exact rfl) (by decide); k_whole; intro g'xq L'xq h'xq tkEq FG'xq F'xq N'xq B'xq X'xq T'xq GS'xq; (try dsimp only); (try k_lift B'xq); (try k_fold)))
 (k_with "mine exec For" => (refine stopAt ?_))
 (k_with "mine exec For Tuple" => (refine stopAt ?_))
 (k_with "mine exec For Tuple Call" => (refine stopAt ?_))
 (k_with "mine call type:enumerate" => (refine stopAt ?_))
 trivial
theorem list_g {H g h₀ : Heap} {adr : List Addr} {S L : Addr} {m : Str → Option Value} {its : Array Value} (_GS : GSub H g adr) (hl : h₀.IsList S its) (F : Fr h₀ L g m) : g.IsList S its := hl.at fun o e => F.keep _ o e
namespace E_heapsAt
noncomputable def theP (zC : Bag) : Prop :=
 let w := zC.w 3; let mg := zC.fr 3; let mb := zC.fr 4; let h₀ := zC.heap 3; let S := zC.addr 3; let H := zC.addr 4; let p := zC.il 3; let q := zC.il 4; let vs := zC.vl 3; let va := zC.vl 4; let n := zC.nat 3;
 ∀ (hl : h₀.IsList S va.toArray) (ia : IntsAre va p) (iv : IntsAre vs q) (hq : q.length = 10), FunUAt h₀ 4 w mg mb 302 [.ref S, .ref H] [] H (lstO vs n) (fun r o' tl => r = .ref H ∧ ∃ vs' n', o' = lstO vs' n' ∧ IntsAre vs' (heapsL q p))
@[irreducible] def tB : Bag := bagOf theP
@[irreducible] def w := tB.w 3
@[irreducible] def mg := tB.fr 3
@[irreducible] def mb := tB.fr 4
@[irreducible] def h₀ := tB.heap 3
@[irreducible] def S := tB.addr 3
@[irreducible] def H := tB.addr 4
@[irreducible] def p := tB.il 3
@[irreducible] def q := tB.il 4
@[irreducible] def vs := tB.vl 3
@[irreducible] def va := tB.vl 4
@[irreducible] def n := tB.nat 3
set_option maxHeartbeats 4000000 in
theorem core (hl : h₀.IsList S va.toArray) (ia : IntsAre va p) (iv : IntsAre vs q) (hq : q.length = 10) : FunUAt h₀ 4 w mg mb 302 [.ref S, .ref H] [] H (lstO vs n) (fun r o' tl => r = .ref H ∧ ∃ vs' n', o' = lstO vs' n' ∧ IntsAre vs' (heapsL q p)) := by
 w_on
 unfold FunUAt
 k_fill
 intros
 rename_i hN hT hk hd hu hret
 have hN1 : News _ _ _ [(H, lstO vs n)] := hN
 refine wpAny_call ?_
 k_dflt cell_enter
 rename GSub _ _ _ => GS
 rename Fr _ _ _ _ => FG8
 have la' := list_g GS hl (by assumption)
 have za := ia.length
 k_steps
 unfold StopHere
 rename Fr _ _ _ _ => F9
 rename News _ _ _ _ => N9
 refine for2 F9 rfl (by rfl) (by rfl) (by rfl) ?_
 k_steps
 unfold StopHere
 rename Fr _ _ _ _ => F9
 rename News _ _ _ _ => N9
 refine iter_enum F9 N9 la' rfl
  (fun i m' news' gs' => gs' = _ ∧ m' (Str.ofString "heaps") = some (.ref H) ∧ ∃ vs n, news' = [(H, lstO vs n)] ∧ IntsAre vs ((p.take i).foldl hStep (q, 0)).1)
  (ia2 rfl rfl (ix2 _ _ ⟨rfl, iv⟩)) ?_ ?_
 ·rintro i v t m₁ news₁ h tk' gs e it oe oi E' hi e' hJz
  refine hdG ?_; intro Xh hXh
  refine an2 hJz ?_
  try clear hJz
  rintro hg e1 hZ
  refine ex2 hZ ?_
  clear hZ
  rintro vs n hZ
  obtain ⟨rfl, iv⟩ := hZ
  refine hXh ?_; clear hXh
  rintro hoff hei F N
  refine hdG ?_; intro Xh hXh
  refine ex2 (ints_get ia e') ?_
  rintro x tx hZ
  obtain ⟨ex, rfl⟩ := hZ
  have F := Fr_pin F (x := Str.ofString "heaps") e1
  simp only [List.forall_mem_cons] at hoff
  obtain ⟨⟨q1, q2⟩, -⟩ := hoff
  have hs := foldl_take_succ hStep (q, 0) p ex
  obtain ⟨hl1, hl2⟩ := hStep_len (p.take i) (q, 0)
  refine hXh ?_; clear hXh
  rw [List.size_toArray] at hi
  have hl3 : ((p.take i).foldl hStep (q, 0)).2 = i := by rw [hl2, List.length_take]; simp only; omega
  rw [hq] at hl1
  generalize hZ : (p.take i).foldl hStep (q, 0) = Z at *
  obtain ⟨zs, zi⟩ := Z
  simp only at iv hl1 hl3
  subst hl3
  k_steps
  rename Fr _ _ _ _ => F2
  rename News _ _ _ _ => N2
  rename IntsAre (List.set _ _ _) _ => iv2
  refine (⟨.inl rfl, ix5 _ _ _ [(H, _)] _ (ia6 rfl F2 N2 ?_ hg rfl (ix2 _ _ ⟨rfl, ?_⟩))⟩)
  ·exact off_two (by simp only [List.forall_mem_cons]; exact ⟨⟨q1, q2⟩, fun _ h => nomatch h⟩)
  ·rw [hs]
   have e9 : (hStep (zs, zi) x).1 = zs.set ((zi : Int).fmod (zs.length : Int)).toNat (zs.getD ((zi : Int).fmod (zs.length : Int)).toNat 0 + x) := by rw [hl1, fmod10]; rfl
   rw [e9]
   exact iv2
 ·rintro h' tk gs m' news' F N hJz
  refine hdG ?_; intro Xh hXh
  refine an2 hJz ?_
  try clear hJz
  rintro hg e1 hZ
  refine ex2 hZ ?_
  clear hZ
  rintro vs n hZ
  obtain ⟨rfl, iv⟩ := hZ
  have hg : gs = _ := hg
  subst hg
  refine hXh ?_; clear hXh
  rw [List.size_toArray, za, List.take_length] at iv
  have F := Fr_pin F (x := Str.ofString "heaps") e1
  dsimp only
  k_steps
  exact funU_ret hret hN1 GS (by assumption) (by assumption) (by k_mem) (fun p hp => .inl (by rw [List.mem_singleton.mp hp])) fun tl htl => (⟨rfl, ix2 _ _ ⟨rfl, iv⟩⟩)
end E_heapsAt
theorem heapsAt (w : World) (mg mb) {h₀ : Heap} {S H : Addr} {p q : List Int} {vs va : List Value} {n : Nat} (hl : h₀.IsList S va.toArray) (ia : IntsAre va p) (iv : IntsAre vs q) (hq : q.length = 10) : FunUAt h₀ 4 w mg mb 302 [.ref S, .ref H] [] H (lstO vs n) (fun r o' tl => r = .ref H ∧ ∃ vs' n', o' = lstO vs' n' ∧ IntsAre vs' (heapsL q p)) := bag_all (P := E_heapsAt.theP) (by with_unfolding_all exact @E_heapsAt.core) { bag0 with addr := nth [S, S, S, S, H] bag0.addr, fr := nth [mg, mg, mg, mg, mb] bag0.fr, heap := nth [h₀, h₀, h₀, h₀] bag0.heap, il := nth [p, p, p, p, q] bag0.il, nat := nth [n, n, n, n] bag0.nat, vl := nth [vs, vs, vs, vs, va] bag0.vl, w := nth [w, w, w, w] bag0.w } hl ia iv hq
end Mine
end
section
open PySem PySem.W PyProof.Rows PySem.Calls PySem.Spec
set_option Elab.async false
set_option maxRecDepth 100000
namespace Mine
theorem has_rec : ∃ d, (recsOf qv).find? (fun e => e.name == Str.ofString "add_callers") = some d := Option.isSome_iff_exists.mp (by kernel_rfl)
theorem tabs_at {s : Heap} {w : World} {mean : ExcName → Option Value} {mg mb : Str → Option Value} (T : Top qv (looseW qv loose) mean mg mb s) (X : (Mine.hdX.heap_1 w.params).In s) : TabsAt [((287 : Addr), (283 : Addr))] s := fun q hq => by
 obtain ⟨d, e⟩ := has_rec
 rw [List.mem_singleton.mp hq]
 exact tab_of (x := Str.ofString "add_callers") T X e (by kernel_rfl)
end Mine
end
section
open PySem PySem.W PyProof.Rows PySem.Calls PySem.Spec
set_option Elab.async false
set_option maxRecDepth 100000
namespace Mine
theorem stretchesL (w : World) (mg mb) {RW : Addr} {row : List Int} {led : List (Addr × Obj)} (hr : IntsIn led RW row) (h : RowOk row) (hne : @Ne Nat RW 283) :
  FunM 12 w mg mb 326 [.ref RW] led (fun r tl => ∃ T S BK, r = .ref T ∧ (T, tupO [.ref S, .ref BK, .bool true] 0) ∈ tl ∧ IntsIn tl S (shadesF row 6) ∧ DictIn w (TupV tl) tl BK (dueF row 6)) := by
 obtain ⟨hl, hb⟩ := h
 obtain ⟨r0, r1, r2, r3, r4, r5, rfl⟩ := lsix hl
 exact stretches w mg mb hr (hb 0 (by grind)) (hb 1 (by grind)) (hb 2 (by grind)) (hb 3 (by grind)) (hb 4 (by grind)) (hb 5 (by grind)) hne
noncomputable def firstL (hs : List Int) : List Int := (hs.take 6).map fun x => x.fmod 3
theorem firstL_ok {hs : List Int} (h : hs.length = 10) : RowOk (firstL hs) := by
 refine ⟨by simp [firstL, h], fun i hi => ?_⟩
 have e : (firstL hs)[i]? = some ((hs[i]'(by grind)).fmod 3) := by
  unfold firstL
  rw [List.getElem?_map, List.getElem?_take_of_lt hi, List.getElem?_eq_getElem (by grind)]; rfl
 rw [List.getD_eq_getElem?_getD, e]
 simp only [Option.getD_some]
 exact ⟨Int.fmod_nonneg_of_pos _ (by decide), Int.fmod_lt_of_pos _ (by decide)⟩
theorem row_set {r : List Int} (h : RowOk r) (i : Nat) {v : Int} (hv : 0 ≤ v ∧ v < 3) : RowOk (r.set i v) := by
 refine ⟨by rw [List.length_set]; exact h.1, fun j hj => ?_⟩
 rw [List.getD_eq_getElem?_getD, List.getElem?_set]
 split
 ·split
  ·simpa using hv
  ·simp
 ·rw [← List.getD_eq_getElem?_getD]; exact h.2 j hj
theorem fmod6 (x : Int) : 0 ≤ x.fmod 6 ∧ x.fmod 6 < 6 := ⟨Int.fmod_nonneg_of_pos _ (by decide), Int.fmod_lt_of_pos _ (by decide)⟩
theorem row_swap {r : List Int} (h : RowOk r) (x : Int) : RowOk (swapX r x) := by
 have h1 := fmod6 x
 have h2 := fmod6 (x.fdiv 6)
 unfold swapX swapL
 exact row_set (row_set h _ (h.2 _ (by grind))) _ (h.2 _ (by grind))
theorem row_rev {r : List Int} (h : RowOk r) : RowOk r.reverse := by
 obtain ⟨hl, hb⟩ := h
 obtain ⟨r0, r1, r2, r3, r4, r5, rfl⟩ := lsix hl
 ·refine ⟨rfl, fun i hi => ?_⟩
  rcases (show i = 0 ∨ i = 1 ∨ i = 2 ∨ i = 3 ∨ i = 4 ∨ i = 5 by grind) with rfl | rfl | rfl | rfl | rfl | rfl
  ·exact hb 5 (by grind)
  ·exact hb 4 (by grind)
  ·exact hb 3 (by grind)
  ·exact hb 2 (by grind)
  ·exact hb 1 (by grind)
  ·exact hb 0 (by grind)
theorem secondL_ok {f : List Int} (h : RowOk f) (h6 h7 h8 h9 : Int) : RowOk (secondL f h6 h7 h8 h9) := by
 unfold secondL
 have hr : RowOk (if h6.fmod 2 = 1 then f.reverse else f) := by
  split
  ·exact row_rev h
  ·exact h
 dsimp only
 split
 ·exact row_set (row_swap (row_swap hr h7) h8) _ ⟨Int.fmod_nonneg_of_pos _ (by decide), Int.fmod_lt_of_pos _ (by decide)⟩
 ·exact row_swap (row_swap hr h7) h8
end Mine
end
section
open PySem PySem.W PyProof.Rows PySem.Calls PySem.Spec
set_option Elab.async false
set_option maxRecDepth 100000
namespace Mine
theorem built_map {f : Int → Int} {ns : List Int} {n : Nat} {rs : List Value} (h : Built (fun i b r => b = true ∧ ∃ k, ns[i]? = some k ∧ IntV r (f k)) n rs) : IntsAre rs ((ns.take n).map f) := by
 induction h with
 | nil => exact .nil
 | skip _ h _ => cases h.1
 | @take i rs r _ h ih =>
  obtain ⟨-, k, e, t, rfl⟩ := h
  rw [List.take_add_one, e, List.map_append]
  exact ih.append (.cons _ t .nil)
theorem built_filter {q : Int → Bool} {ns : List Int} {n : Nat} {rs : List Value} (h : Built (fun i b r => ∃ k, ns[i]? = some k ∧ b = q k ∧ (b = true → IntV r k)) n rs) : IntsAre rs ((ns.take n).filter q) := by
 induction h with
 | nil => exact .nil
 | @skip i rs r _ h ih =>
  obtain ⟨k, hZ⟩ := h
  refine an2 hZ ?_
  clear hZ
  rintro e hb _
  rw [List.take_add_one, e, List.filter_append]
  simp [← hb]
  exact ih
 | @take i rs r _ h ih =>
  obtain ⟨k, hZ⟩ := h
  refine an2 hZ ?_
  clear hZ
  rintro e hb hv
  obtain ⟨t, rfl⟩ := hv rfl
  rw [List.take_add_one, e, List.filter_append]
  have : (some k).toList.filter q = [k] := by simp [← hb]
  rw [this]
  exact ih.append (.cons _ t .nil)
section
variable {prog : Program} {w : World} {A : Around} {E : Value → Shared → Prop} {s : Shared} {env : Env} {h₀ : Heap} {m : Str → Option Value} {news : List (Addr × Obj)}
theorem one_mapA {elt : PySem.Expr} {x z : Str} {scope : Scope} {cl : List (Str × Addr)} {l : Addr} {vs : List Value} {ns : List Int} {n : Nat} {Q : Flow → Shared → Prop} (f : Int → Int)
  (F : Fr h₀ env.locals s.heap m) (N : News h₀ env.locals s.heap news) (hm : (l, lstO vs n) ∈ news) (iv : IntsAre vs ns) (hh : A.handled = none) (hz : ns.length ≤ 1000)
  (hE : ∀ k t C oC h tk m₂ (Q' E' : Value → Shared → Prop), LCg.NsObj oC m₂ → m₂ x = some (.int k t) → Fr h₀ env.locals h m → News h₀ env.locals h ((C, oC) :: news) → LCg.Off1 C news →
   (∀ r h' tk', IntV r (f k) → (∀ b o, h.get? b = some o → h'.get? b = some o) → Q' r { s with heap := h', toks := tk' }) → wpAny (model prog w) A (eval elt (compEnvC scope cl C env)) Q' E' { s with heap := h, toks := tk })
  (hQ : ∀ D h tk ws n', Fr h₀ env.locals h (fun y => if y = z then some (.ref D) else m y) → News h₀ env.locals h ((D, lstO ws n') :: news) → (∀ p ∈ news, @Ne Nat p.1 D) → IntsAre ws (ns.map f) → Q .next { s with heap := h, toks := tk }) :
  wpAny (model prog w) A (pyIter (.ref l)) (One prog w A [] elt x scope cl env (FinZ env z Q)) E s := by
 have e1 : vs.toArray.size = ns.length := by rw [List.size_toArray, iv.length]
 refine one_list (fun i b r => b = true ∧ ∃ k, ns[i]? = some k ∧ IntV r (f k)) F N (⟨_, ia2 ((N _ hm).1) rfl ⟨n, rfl⟩⟩) hh (by rw [e1, sizeLine_eq]; grind) (fun i v C oC h tk m₂ Q' E' hi e nC hv F' N' off ret => ?_) fun D h tk rs F' N' off hB hD hk => ?_
 ·refine ex2 (ints_get iv e) ?_
  rintro k t hZ
  obtain ⟨ek, rfl⟩ := hZ
  exact Turn1.plain (hE k t C oC h tk m₂ _ E' nC hv F' N' (off1_of off) fun r h' tk' hr hk' => ret true r h' tk' ⟨rfl, k, ek, hr⟩ hk')
 ·have hB := built_map hB
  rw [e1, List.take_length] at hB
  refine ⟨m, F.ns, fun h' tk' keep hD' hns => ?_⟩
  refine an2 (fresh_of F N hD) ?_
  rintro f1 f2 f3
  have hL₀ : h₀.get? env.locals = none := Heap.get?_none_of_le F.above
  refine hQ D h' tk' rs rs.length ⟨hns, fun b o e => keep b o (fun q => by rw [q, hL₀] at e; cases e) (F.keep b o e), F.above⟩ (fun p hp => ?_) f3 hB
  rcases List.mem_cons.mp hp with rfl | hp
  ·exact (ia2 hD' f1 f2)
  ·exact ⟨keep _ _ (N p hp).2.1 (N p hp).1, (N p hp).2⟩
end
end Mine
end
section
open PySem PySem.W PyProof.Rows PySem.Calls PySem.Spec
set_option Elab.async false
set_option maxRecDepth 100000
namespace Mine
theorem heapsL_len (q p : List Int) : (heapsL q p).length = q.length := (hStep_len p (q, 0)).1
theorem ten {hs : List Int} (h : hs.length = 10) : ∃ a b c d e f g i j k, hs = [a, b, c, d, e, f, g, i, j, k] := by
 revert hs; exact @lnC _ _ _ fun a => lnC fun b => lnC fun c => lnC fun d => lnC fun e => lnC fun f => lnC fun g => lnC fun i => lnC fun j => lnC fun k => ln0 (ix6 a b c d e f (ix4 g i j k rfl))
theorem slice6 {prog : Program} {w : World} {A : Around} {E : Value → Shared → Prop} {s : Shared} {h₀ : Heap} {L l : Addr} {m : Str → Option Value} {news : List (Addr × Obj)} {value slice : PySem.Expr} {vs : List Value} {ns : List Int} {n : Nat} {t : Tok} {Q : Value → Shared → Prop} (F : Fr h₀ L s.heap m) (N : News h₀ L s.heap news) (hm : (l, lstO vs n) ∈ news) (iv : IntsAre vs ns) (hz : ns.length ≤ 1000)
  (h : ∀ D ws h', Fr h₀ L h' m → News h₀ L h' ((D, lstO ws 0) :: news) → (∀ p ∈ news, p.1 < D) → IntsAre ws (ns.take 6) → Q (.ref D) { s with heap := h' })
  (hs : subscripted slice false (.ref l) (.ref s.heap.objs.size) = operate [.ref s.heap.objs.size, .ref l] (getItem (.ref l) (.ref s.heap.objs.size))) (ht : ∀ r, letTemporaryGo value (.ref l) r = pure ()) :
  wpAny (model prog w) A (subscriptTail value slice (.ref l) (.ref s.heap.objs.size)) Q E { s with heap := s.heap.push { cls := .type "slice", data := .fields #[.none, .int 6 t, .none] } } :=
 kmk_slice_ints F N (⟨_, ia2 ((N _ hm).1) rfl ⟨n, rfl⟩⟩) .none (.int 6 t) iv (kmk_upto iv (by decide)) rfl (fun D ws h' F' N' l1 iw _ _ => h D ws h' F' N' l1 iw) hs ht (by rw [List.size_toArray, iv.length, sizeLine_eq]; grind)
end Mine
namespace Mine
theorem take3 {h₀ h : Heap} {L : Addr} {tl news : List (Addr × Obj)} {x y z : Addr × Obj} (N : News h₀ L h (tl ++ news)) (hx : x ∈ tl) (hy : y ∈ tl) (hz : z ∈ tl) : News h₀ L h (x :: y :: z :: (news ++ tl)) := fun p hp => N p (by
 simp only [List.mem_cons, List.mem_append] at hp ⊢
 rcases hp with rfl | rfl | rfl | h | h
 ·exact .inl hx
 ·exact .inl hy
 ·exact .inl hz
 ·exact .inr h
 ·exact .inl h)
theorem take1 {h₀ h : Heap} {L : Addr} {tl news : List (Addr × Obj)} {x : Addr × Obj} (N : News h₀ L h (tl ++ news)) (hx : x ∈ tl) : News h₀ L h (x :: news) := fun p hp => N p (by
 simp only [List.mem_cons, List.mem_append] at hp ⊢
 rcases hp with rfl | h
 ·exact .inl hx
 ·exact .inr h)
theorem off_from {tl news : List (Addr × Obj)} (ne : ∀ p ∈ tl, ∀ q ∈ news, @Ne Nat q.1 p.1) {c : Addr} {o : Obj} (hc : (c, o) ∈ news) : ∀ p ∈ tl, @Ne Nat p.1 c := fun p hp => Ne.symm (ne p hp _ hc)
end Mine
namespace Mine
section
variable {prog : Program} {w : World} {A : Around} {E : Value → Shared → Prop} {s : Shared} {env : Env} {h₀ : Heap} {m : Str → Option Value} {news : List (Addr × Obj)}
theorem storeCell {x : Str} {c : Addr} {o : Obj} {v₀ : Option Value} {v : Value} {g : Obj → List (Addr × Obj)} {Q : Unit → Shared → Prop} (hk : env.scope.kind = .function) (hl : env.kindOf x = some .cell) (hc : env.cells.lookup x = some c) (F : Fr h₀ env.locals s.heap m) (N : News h₀ env.locals s.heap news) (U : UpdF c o news g) (hd : o.data = .cell v₀)
  (h : ∀ h' o', Fr h₀ env.locals h' m → News h₀ env.locals h' (g o') → o'.data = .cell (some v) → Q () { s with heap := h' }) : wpAny (model prog w) A (storeName env x v) Q E s := by
 refine ex2 U.split ?_
 rintro own rest hZ
 refine an3 hZ ?_
 clear hZ
 rintro rfl hg h1 h2
 have hmem := N (c, o) (List.mem_append_right _ (.head _))
 refine wpAny_storeName_cell hk hl hc ⟨o, hmem.1, hd⟩ fun h' hv hs => ?_
 obtain ⟨o', ho', hd'⟩ := hv
 refine h h' o' ⟨F.ns.sameBut hs (Ne.symm hmem.2.1), fun b ob e => (hs.2 b (fun q => ?_)).trans (F.keep b ob e), F.above⟩ (hg o' ▸ N.setAt h1 h2 hs ho') hd'
 rw [q, hmem.2.2] at e; cases e
theorem nameCell {x : Str} {px : Pos} {c : Addr} {o : Obj} {v : Value} {Q : Value → Shared → Prop} {L : Addr} (hk : env.scope.kind = .function) (hl : env.kindOf x = some .cell) (hc : env.cells.lookup x = some c) (N : News h₀ L s.heap news) (hm : (c, o) ∈ news) (hd : o.data = .cell (some v)) (hb : (x == ("__debug__" : Str)) = false) (h : Q v s) :
  wpAny (model prog w) A (eval (.Name x px) env) Q E s := wpAny_Name (wpAny_loadName_cell hk hl hc ⟨o, (N _ hm).1, hd⟩ h) hb
end
end Mine
namespace Mine
theorem take2 {h₀ h : Heap} {L : Addr} {tl news : List (Addr × Obj)} {x y : Addr × Obj} (N : News h₀ L h (tl ++ news)) (hx : x ∈ tl) (hy : y ∈ tl) : News h₀ L h (x :: y :: news) := fun p hp => N p (by
 simp only [List.mem_cons, List.mem_append] at hp ⊢
 rcases hp with rfl | rfl | h
 ·exact .inl hx
 ·exact .inl hy
 ·exact .inr h)
theorem off_app {a b : List (Addr × Obj)} {c : Addr} (h1 : ∀ p ∈ a, @Ne Nat p.1 c) (h2 : ∀ p ∈ b, @Ne Nat p.1 c) : ∀ p ∈ a ++ b, @Ne Nat p.1 c := fun p hp => (List.mem_append.mp hp).elim (h1 p) (h2 p)
theorem shadesF_len (row : List Int) : (shadesF row 6).length = 21 := by
 have h : ∀ s j, (shadesIn row s j).length = j := fun s j => by unfold shadesIn; rw [List.length_map, List.length_range]
 simp only [shadesF_succ, List.length_append, h]
 rfl
end Mine
namespace Mine
section
variable {prog : Program} {w : World} {A : Around} {E : Value → Shared → Prop} {s : Shared} {env : Env} {h₀ : Heap} {m : Str → Option Value} {news : List (Addr × Obj)}
theorem storeCell1 {L : Addr} {x : Str} {o : Obj} {v₀ : Option Value} {v : Value} {g : Obj → List (Addr × Obj)} {Q : Unit → Shared → Prop} (hL : env.locals = L) (hk : env.scope.kind = .function) (hl : env.kindOf x = some .cell) (hc : env.cells.lookup x = some (L + 1)) (F : Fr h₀ L s.heap m) (N : News h₀ L s.heap news) (U : UpdF (L + 1) o news g) (hd : o.data = .cell v₀)
  (h : ∀ h' o', Fr h₀ L h' m → News h₀ L h' (g o') → o'.data = .cell (some v) → Q () { s with heap := h' }) : wpAny (model prog w) A (storeName env x v) Q E s := by
 subst hL; exact storeCell hk hl hc F N U hd h
theorem storeCell2 {L : Addr} {x : Str} {o : Obj} {v₀ : Option Value} {v : Value} {g : Obj → List (Addr × Obj)} {Q : Unit → Shared → Prop} (hL : env.locals = L) (hk : env.scope.kind = .function) (hl : env.kindOf x = some .cell) (hc : env.cells.lookup x = some (L + 1 + 1)) (F : Fr h₀ L s.heap m) (N : News h₀ L s.heap news) (U : UpdF (L + 1 + 1) o news g) (hd : o.data = .cell v₀)
  (h : ∀ h' o', Fr h₀ L h' m → News h₀ L h' (g o') → o'.data = .cell (some v) → Q () { s with heap := h' }) : wpAny (model prog w) A (storeName env x v) Q E s := by
 subst hL; exact storeCell hk hl hc F N U hd h
theorem nameCell1 {x : Str} {px : Pos} {o : Obj} {v : Value} {Q : Value → Shared → Prop} {L : Addr} (hL : env.locals = L) (hk : env.scope.kind = .function) (hl : env.kindOf x = some .cell) (hc : env.cells.lookup x = some (L + 1)) (hb : (x == ("__debug__" : Str)) = false) (N : News h₀ L s.heap news) (hm : (L + 1, o) ∈ news) (hd : o.data = .cell (some v)) (h : Q v s) :
  wpAny (model prog w) A (eval (.Name x px) env) Q E s := nameCell hk hl hc N hm hd hb h
theorem nameCell2 {x : Str} {px : Pos} {o : Obj} {v : Value} {Q : Value → Shared → Prop} {L : Addr} (hL : env.locals = L) (hk : env.scope.kind = .function) (hl : env.kindOf x = some .cell) (hc : env.cells.lookup x = some (L + 1 + 1)) (hb : (x == ("__debug__" : Str)) = false) (N : News h₀ L s.heap news) (hm : (L + 1 + 1, o) ∈ news) (hd : o.data = .cell (some v)) (h : Q v s) :
  wpAny (model prog w) A (eval (.Name x px) env) Q E s := nameCell hk hl hc N hm hd hb h
end
end Mine
namespace Mine
noncomputable def ApartN (a b : Nat) : Prop := a ≠ b
theorem ApartN.ne {a b : Nat} (h : ApartN a b) : @Ne Nat a b := h
theorem ApartN.ne' {a b : Nat} (h : ApartN b a) : @Ne Nat a b := Ne.symm h
theorem aparts {tl news : List (Addr × Obj)} (ne : ∀ p ∈ tl, ∀ q ∈ news, @Ne Nat q.1 p.1) {p : Addr × Obj} (hp : p ∈ tl) : ∀ q ∈ news, ApartN q.1 p.1 := fun q hq => ne p hp q hq
theorem stage0 {P : Prop} {g h : Heap} {L SE FI c1 c2 : Addr} {oSE oFI o1 o2 : Obj} {ps : Array Value} {x1 x2 : Addr × Obj} (N : News g L h ((SE, oSE) :: (FI, oFI) :: x1 :: x2 :: (c2, o2) :: (c1, o1) :: [(283, parts ps)]))
  (k : News g L h ((SE, oSE) :: (FI, oFI) :: (c2, o2) :: (c1, o1) :: [(283, parts ps)]) → P) : P :=
 k (fun p hp => N p (by
  revert p; (try dsimp only [List.cons_append, List.nil_append]); repeat' with_reducible first | exact sbn | exact sbr | exact sbl | exact sbq | refine sbc ?_ ?_ | refine sba ?_ ?_ | exact mmh | assumption | refine mmt ?_ | refine mmr ?_ | refine sbt ?_ | refine sbp ?_))
theorem stage6 {P : Prop} {g h : Heap} {L T2 OT PG T1 SH BK SE FI c1 c2 : Addr} {oT2 oT1 oO oP oS oB o1 o2 oSE oFI : Obj} {ps : Array Value} {tl tl2 : List (Addr × Obj)} (N : News g L h ((T2, oT2) :: (OT, oO) :: (PG, oP) :: (T1, oT1) :: (SH, oS) :: (BK, oB) :: (SE, oSE) :: (FI, oFI) :: (c2, o2) :: (c1, o1) :: (283, parts ps) :: (tl ++ tl2))) (k : ∀ fz, News g L h ((T2, oT2) :: (OT, oO) :: (PG, oP) :: (SH, oS) :: (BK, oB) :: (SE, oSE) :: (FI, oFI) :: (c2, o2) :: (c1, o1) :: (283, parts ps) :: fz) → fz = tl ++ tl2 → P) : P :=
 k (tl ++ tl2) (fun p hp => N p (by
  revert p; (try dsimp only [List.cons_append, List.nil_append]); repeat' with_reducible first | exact sbn | exact sbr | exact sbl | exact sbq | refine sbc ?_ ?_ | refine sba ?_ ?_ | exact mmh | assumption | refine mmt ?_ | refine mmr ?_ | refine sbt ?_ | refine sbp ?_)) rfl
end Mine
namespace Mine
theorem apart_all {l : List (Addr × Obj)} {a : Addr} (h : ∀ p ∈ l, @Ne Nat p.1 a) : ∀ p ∈ l, ApartN p.1 a := h
end Mine
namespace Mine
theorem real_led {l : List (Addr × Obj)} {a b c d : Addr × Obj} (h1 : a ∈ l) (h2 : b ∈ l) (h3 : c ∈ l) (h4 : d ∈ l) : ∀ p ∈ [a, b, c, d], p ∈ l := fun p hp => by
 simp only [List.mem_cons, List.not_mem_nil, or_false] at hp
 rcases hp with rfl | rfl | rfl | rfl <;> assumption
theorem quick_led {l : List (Addr × Obj)} {a b c d e : Addr × Obj} (h1 : a ∈ l) (h2 : b ∈ l) (h3 : c ∈ l) (h4 : d ∈ l) (h5 : e ∈ l) : ∀ p ∈ [a, b, c, d, e], p ∈ l := fun p hp => by
 simp only [List.mem_cons, List.not_mem_nil, or_false] at hp
 rcases hp with rfl | rfl | rfl | rfl | rfl <;> assumption
end Mine
namespace Mine
theorem real_ledB {l : List (Addr × Obj)} {a b c : Addr × Obj} (h1 : a ∈ l) (h2 : b ∈ l) (h3 : c ∈ l) : ∀ p ∈ [a, b, c], p ∈ l := fun p hp => by
 simp only [List.mem_cons, List.not_mem_nil, or_false] at hp
 rcases hp with rfl | rfl | rfl <;> assumption
end Mine
end
section
open PySem PySem.W PyProof.Rows PySem.Calls PySem.Spec
set_option Elab.async false
set_option maxRecDepth 100000
namespace Mine
noncomputable def fracF (n k : Int) : UInt64 := Float64.ofFrac (decide (n < 0) != decide (k < 0)) n.natAbs k.natAbs
noncomputable def eqF (a b : UInt64) : Bool := Float64.cmp a b == some Ordering.eq
noncomputable def eqI (a : UInt64) (n : Int) : Bool := Float64.cmpInt a n == some Ordering.eq
theorem upto {P : Int → Bool} {n : Nat} (h : (List.range (n + 1)).all (fun k => P k) = true) {m : Int} (h0 : 0 ≤ m) (h1 : m ≤ n) : P m = true := by
 have := List.all_eq_true.mp h m.toNat (List.mem_range.mpr (by omega))
 rwa [Int.toNat_of_nonneg h0] at this
theorem one42 {m : Int} (h0 : 0 ≤ m) (h1 : m ≤ 21) : eqI (ratio m 42) 1 = decide (m = 21) :=
 eq_of_beq (upto (P := fun m => eqI (ratio m 42) 1 == decide (m = 21)) (n := 21) (by decide +kernel) h0 h1)
theorem one12 {m : Int} (h0 : 0 ≤ m) (h1 : m ≤ 6) : eqI (ratio m 12) 1 = decide (m = 6) :=
 eq_of_beq (upto (P := fun m => eqI (ratio m 12) 1 == decide (m = 6)) (n := 6) (by decide +kernel) h0 h1)
theorem share42 {m : Int} (h0 : 0 ≤ m) (h1 : m ≤ 21) : eqF (ratio m 42) (fracF (2 * m) 42) = true :=
 upto (P := fun m => eqF (ratio m 42) (fracF (2 * m) 42)) (n := 21) (by decide +kernel) h0 h1
theorem share27 {m : Int} (h0 : 0 ≤ m) (h1 : m ≤ 6) : eqF (ratio m 27) (fracF (2 * m) 27) = true :=
 upto (P := fun m => eqF (ratio m 27) (fracF (2 * m) 27)) (n := 6) (by decide +kernel) h0 h1
theorem share12 {m : Int} (h0 : 0 ≤ m) (h1 : m ≤ 6) : eqF (ratio m 12) (fracF m 6) = true :=
 upto (P := fun m => eqF (ratio m 12) (fracF m 6)) (n := 6) (by decide +kernel) h0 h1
theorem real42 : eqF (ratio 21 42) (fracF 1 1) = true := by decide +kernel
theorem real27 : eqF (ratio 6 27) (fracF 12 27) = true := by decide +kernel
theorem real12 : eqF (ratio 6 12) (fracF 1 1) = true := by decide +kernel
theorem calm42 {m : Int} (h0 : 0 ≤ m) (h1 : m ≤ 42) : Float64.isInf (fracF m 42) = false := by
 have := upto (P := fun m => !Float64.isInf (fracF m 42)) (n := 42) (by decide +kernel) h0 h1
 simpa using this
theorem calm27 {m : Int} (h0 : 0 ≤ m) (h1 : m ≤ 12) : Float64.isInf (fracF m 27) = false := by
 have := upto (P := fun m => !Float64.isInf (fracF m 27)) (n := 12) (by decide +kernel) h0 h1
 simpa using this
theorem calm6 {m : Int} (h0 : 0 ≤ m) (h1 : m ≤ 6) : Float64.isInf (fracF m 6) = false := by
 have := upto (P := fun m => !Float64.isInf (fracF m 6)) (n := 6) (by decide +kernel) h0 h1
 simpa using this
theorem calm1 : Float64.isInf (fracF 1 1) = false := by decide +kernel
end Mine
end
section
open PySem PySem.W PyProof.Rows PySem.Calls PySem.Spec
set_option Elab.async false
set_option maxRecDepth 100000
namespace Mine
section
variable {prog : Program} {w : World} {A : Around} {E : Value → Shared → Prop} {s : Shared}
end
namespace E_codeAny_compLoop_pairD
noncomputable def theP (zC : Bag) : Prop :=
 let prog := zC.prog 3; let w := zC.w 3; let A := zC.A 3; let s := zC.s 3; let kx := zC.expr 3; let vx := zC.expr 4; let iter := zC.expr 5; let elts := zC.exprs 3; let x1 := zC.nat 3; let tp := zC.pos 3; let scope := zC.scope 3; let pos := zC.pos 4; let it := zC.val 3; let D := zC.addr 3; let env := zC.env 3; let R := zC.qr 3; let n := zC.nat 4;
 ∀ (I : Nat → Shared → Prop) (turn : ∀ n s, I n s → wpAny (model prog w) A (pyNext it) (fun r s₁ => match r with
   | none => R (.ok .next) s₁
   | some v => wpAny (model prog w) A (letOwnedTupleGo (.Tuple elts x1 tp) it v) (fun _ s₁' => wpAny (model prog w) A (assign (.Tuple elts x1 tp) env v) (fun _ s₂ =>
     wpAny (model prog w) A (eval kx env) (fun kv s₃ => wpAny (model prog w) A (eval vx env) (fun vv s₄ =>
       wpAny (model prog w) A (dictSet D kv vv) (fun _ s₅ => ∃ m, m < n ∧ I m s₅) (notedBy (model prog w) A env fun e s' => R (.error e) s') s₄) (notedBy (model prog w) A env fun e s' => R (.error e) s') s₃) (notedBy (model prog w) A env fun e s' => R (.error e) s') s₂)
     (notedBy (model prog w) A env fun e s' => R (.error e) s') s₁') (notedBy (model prog w) A env fun e s' => R (.error e) s') s₁) (notedBy (model prog w) A env fun e s' => R (.error e) s') s) (h : I n s), codeAny (model prog w) A (.compLoop (.DictComp kx vx [⟨.Tuple elts x1 tp, iter, [], 0⟩] scope pos) 0 it (.ref D) env) R s
@[irreducible] def tB : Bag := bagOf theP
@[irreducible] def prog := tB.prog 3
@[irreducible] def w := tB.w 3
@[irreducible] def A := tB.A 3
@[irreducible] def s := tB.s 3
@[irreducible] def kx := tB.expr 3
@[irreducible] def vx := tB.expr 4
@[irreducible] def iter := tB.expr 5
@[irreducible] def elts := tB.exprs 3
@[irreducible] def x1 := tB.nat 3
@[irreducible] def tp := tB.pos 3
@[irreducible] def scope := tB.scope 3
@[irreducible] def pos := tB.pos 4
@[irreducible] def it := tB.val 3
@[irreducible] def D := tB.addr 3
@[irreducible] def env := tB.env 3
@[irreducible] def R := tB.qr 3
@[irreducible] def n := tB.nat 4
theorem core (I : Nat → Shared → Prop) (turn : ∀ n s, I n s → wpAny (model prog w) A (pyNext it) (fun r s₁ => match r with
   | none => R (.ok .next) s₁
   | some v => wpAny (model prog w) A (letOwnedTupleGo (.Tuple elts x1 tp) it v) (fun _ s₁' => wpAny (model prog w) A (assign (.Tuple elts x1 tp) env v) (fun _ s₂ =>
     wpAny (model prog w) A (eval kx env) (fun kv s₃ => wpAny (model prog w) A (eval vx env) (fun vv s₄ =>
       wpAny (model prog w) A (dictSet D kv vv) (fun _ s₅ => ∃ m, m < n ∧ I m s₅) (notedBy (model prog w) A env fun e s' => R (.error e) s') s₄) (notedBy (model prog w) A env fun e s' => R (.error e) s') s₃) (notedBy (model prog w) A env fun e s' => R (.error e) s') s₂)
     (notedBy (model prog w) A env fun e s' => R (.error e) s') s₁') (notedBy (model prog w) A env fun e s' => R (.error e) s') s₁) (notedBy (model prog w) A env fun e s' => R (.error e) s') s) (h : I n s) : codeAny (model prog w) A (.compLoop (.DictComp kx vx [⟨.Tuple elts x1 tp, iter, [], 0⟩] scope pos) 0 it (.ref D) env) R s := by
 refine codeAny_loop rfl I (fun n s hI => ?_) n h
 show wpAny _ A ((compTurn (.DictComp kx vx [⟨.Tuple elts x1 tp, iter, [], 0⟩] scope pos) 0 it (.ref D) env).onRaise (fun x => do noteFrame x env; theTreesLotGoes x)) _ _ s
 refine wpAny_noted ?_
 rw [compTurn_dict]
 refine wpAny_bind (wpAny_standAt (wpAny_bind (wpAny_mono (turn n s hI) (fun r s₁ h₁ => ?_) fun _ _ h' => h')))
 cases r with
 | none => exact wpAny_pure h₁
 | some v =>
  refine wpAny_bind (wpAny_mono h₁ (fun _ s₁' h₁' => ?_) fun _ _ h' => h')
  refine wpAny_bind (wpAny_mono h₁' (fun _ s₂ h₂ => wpAny_bind (wpAny_mono (wpAny_tests_nil (Q := fun ok s₃ => ok = true ∧ s₃ = s₂) ⟨rfl, rfl⟩) (fun ok s₃ h₃ => ?_) fun _ _ h' => h')) fun _ _ h' => h')
  obtain ⟨rfl, rfl⟩ := h₃
  exact wpAny_bind (wpAny_bind (wpAny_mono h₂ (fun kv s₄ h₄ => wpAny_bind (wpAny_holding (wpAny_mono h₄ (fun vv s₅ h₅ => wpAny_bind (wpAny_standAt (wpAny_holding (wpAny_mono h₅ (fun _ s₆ h₆ => wpAny_pure ⟨rfl, h₆⟩) fun _ _ h' => h')))) fun _ _ h' => h'))) fun _ _ h' => h'))
end E_codeAny_compLoop_pairD
section
variable {prog : Program} {w : World} {A : Around} {E : Value → Shared → Prop} {s : Shared}
theorem codeAny_compLoop_pairD {kx vx iter : PySem.Expr} {elts : List PySem.Expr} {x1} {tp : Pos} {scope : Scope} {pos : Pos} {it : Value} {D : Addr} {env : Env} {R : Result → Shared → Prop} (I : Nat → Shared → Prop) (turn : ∀ n s, I n s → wpAny (model prog w) A (pyNext it) (fun r s₁ => match r with
   | none => R (.ok .next) s₁
   | some v => wpAny (model prog w) A (letOwnedTupleGo (.Tuple elts x1 tp) it v) (fun _ s₁' => wpAny (model prog w) A (assign (.Tuple elts x1 tp) env v) (fun _ s₂ =>
     wpAny (model prog w) A (eval kx env) (fun kv s₃ => wpAny (model prog w) A (eval vx env) (fun vv s₄ =>
       wpAny (model prog w) A (dictSet D kv vv) (fun _ s₅ => ∃ m, m < n ∧ I m s₅) (notedBy (model prog w) A env fun e s' => R (.error e) s') s₄) (notedBy (model prog w) A env fun e s' => R (.error e) s') s₃) (notedBy (model prog w) A env fun e s' => R (.error e) s') s₂)
     (notedBy (model prog w) A env fun e s' => R (.error e) s') s₁') (notedBy (model prog w) A env fun e s' => R (.error e) s') s₁) (notedBy (model prog w) A env fun e s' => R (.error e) s') s) (n : Nat) (h : I n s) : codeAny (model prog w) A (.compLoop (.DictComp kx vx [⟨.Tuple elts x1 tp, iter, [], 0⟩] scope pos) 0 it (.ref D) env) R s := bag_all (P := E_codeAny_compLoop_pairD.theP) (by with_unfolding_all exact @E_codeAny_compLoop_pairD.core) { bag0 with A := nth [A, A, A, A] bag0.A, addr := nth [D, D, D, D] bag0.addr, env := nth [env, env, env, env] bag0.env, expr := nth [kx, kx, kx, kx, vx, iter] bag0.expr, exprs := nth [elts, elts, elts, elts] bag0.exprs, nat := nth [x1, x1, x1, x1, n] bag0.nat, pos := nth [tp, tp, tp, tp, pos] bag0.pos, prog := nth [prog, prog, prog, prog] bag0.prog, qr := nth [R, R, R, R] bag0.qr, s := nth [s, s, s, s] bag0.s, scope := nth [scope, scope, scope, scope] bag0.scope, val := nth [it, it, it, it] bag0.val, w := nth [w, w, w, w] bag0.w } I turn h
end
inductive BuiltD (R : List (Addr × Obj) → Nat → Value → Prop) : Nat → List (Addr × Obj) → List (Int × Value) → List (Int × Value) → Prop
 | nil {kvs : List (Int × Value)} : BuiltD R 0 [] kvs []
 | snoc {i : Nat} {tl own : List (Addr × Obj)} {kvs rs : List (Int × Value)} {k : Int} {v r : Value} : BuiltD R i tl kvs rs → kvs[i]? = some (k, v) → R own i r → BuiltD R (i + 1) (own ++ tl) kvs (rs ++ [(k, r)])
theorem BuiltD.keys {R : List (Addr × Obj) → Nat → Value → Prop} {i : Nat} {tl : List (Addr × Obj)} {kvs rs : List (Int × Value)} (h : BuiltD R i tl kvs rs) : rs.map (·.1) = (kvs.take i).map (·.1) := by
 induction h with
 | nil => simp
 | snoc _ e _ ih => rw [List.take_add_one, e, List.map_append, List.map_append, ih]; rfl
theorem stored_fresh {kvs : List (Int × Value)} {k : Int} {v : Value} (h : k ∉ kvs.map (·.1)) : stored kvs k v = kvs ++ [(k, v)] := by
 unfold stored
 rw [if_neg]
 simp only [List.any_eq_true, decide_eq_true_eq, not_exists, not_and]
 intro p hp e
 exact h (List.mem_map.mpr ⟨p, hp, e⟩)
section
variable {prog : Program} {w : World} {A : Around} {E : Value → Shared → Prop} {s : Shared} {env : Env} {h₀ : Heap} {m : Str → Option Value} {news : List (Addr × Obj)}
end
namespace E_dcomp_items
noncomputable def theP (zC : Bag) : Prop :=
 let prog := zC.prog 3; let w := zC.w 3; let A := zC.A 3; let E := zC.qv 3; let s := zC.s 3; let env := zC.env 3; let h₀ := zC.heap 3; let m := zC.fr 3; let news := zC.led 3; let vx := zC.expr 3; let z := zC.str 3; let t := zC.str 4; let xk := zC.str 5; let xv := zC.str 6; let pz := zC.pos 3; let tp := zC.pos 4; let pk := zC.pos 5; let pk2 := zC.pos 6; let pv := zC.pos 7; let pt := zC.pos 8; let pos := zC.pos 9; let spos := zC.pos 10; let apos := zC.pos 11; let cpos := zC.pos 12; let x1 := zC.nat 3; let scope := zC.scope 3; let cl := zC.cl 3; let d := zC.addr 3; let od := zC.obj 3; let kvs := zC.kvs 3; let Q := zC.qf 3;
 ∀ (R : List (Addr × Obj) → Nat → Value → Prop) (F : Fr h₀ env.locals s.heap m) (N : News h₀ env.locals s.heap news) (hmt : m t = some (.ref d)) (hdm : (d, od) ∈ news) (hd : od.IsDictOf (intKind prog w) kvs) (lo : (d == sysModules) = false) (hlen : kvs.length ≤ 1000) (hbig : h₀.NoLimit) (hE : ∀ i k v tk C oC h tk' m₂ (Q' E' : Value → Shared → Prop), kvs[i]? = some (k, v) → LCg.NsObj oC m₂ → m₂ xk = some (.int k tk) → m₂ xv = some v → Fr h₀ env.locals h m → News h₀ env.locals h ((C, oC) :: news) → (∀ p ∈ news, @Ne Nat p.1 C) →
   (∀ r h' tk'' own, R own i r → (∀ b o, h.get? b = some o → h'.get? b = some o) → (∀ p ∈ own, h'.get? p.1 = some p.2 ∧ h.get? p.1 = none) → Q' r { s with heap := h', toks := tk'' }) →
    wpAny (model prog w) A (eval vx (compEnvC scope cl C env)) Q' E' { s with heap := h, toks := tk' }) (hQ : ∀ D o h tk tl rs, Fr h₀ env.locals h (fun y => if y = z then some (.ref D) else m y) → News h₀ env.locals h ((D, o) :: (tl ++ news)) → (∀ p ∈ tl ++ news, @Ne Nat p.1 D) → (∀ p ∈ tl, ∀ q ∈ news, @Ne Nat q.1 p.1) → o.IsDictOf (intKind prog w) rs → (D == sysModules) = false → BuiltD R kvs.length tl kvs rs → Q .next { s with heap := h, toks := tk }) (hsw : swapsWith (.DictComp (.Name xk pk2) vx [⟨.Tuple [.Name xk pk, .Name xv pv] x1 pt, .Call (.Attribute (.Name t tp) "items" apos) [] [] cpos, [], 0⟩] scope pos) (some (.Name z pz)) spos.line env = pure true) (hz : env.kindOf z = some .local) (hp : (env.scope.kind == .class || (env.scope.kind == .module && env.locals != env.globals)) = false) (hclos : closureFor scope env = pure cl) (hcell : ∀ z ∈ scope.names, z.2 ≠ .cell) (hkind : scope.kind = .function) (hnames : ∀ z ∈ scope.names, z.2 = .local → scope.names.lookup z.1 = some .local) (hxk : scope.names.lookup xk = some .local) (hxv : scope.names.lookup xv = some .local) (hxy : xk ≠ xv) (hkd : (xk == ("__debug__" : Str)) = false) (hh : A.handled = none) (ht : env.kindOf t = some .local) (hkf : env.scope.kind = .function) (htd : (t == ("__debug__" : Str)) = false) (hbase : attributeBase (.Name t tp) "items" env (eval (.Name t tp) env) = eval (.Name t tp) env) (hline : (apos.endLine == cpos.line) = true) (hs : ∀ x, foldedSetIterable (.Call (.Attribute (.Name t tp) "items" apos) [] [] cpos) env x = pure x := by intro _; rfl), wpAny (model prog w) A (exec (.Assign [.Name z pz] (.DictComp (.Name xk pk2) vx [⟨.Tuple [.Name xk pk, .Name xv pv] x1 pt, .Call (.Attribute (.Name t tp) "items" apos) [] [] cpos, [], 0⟩] scope pos) spos) env) Q E s
@[irreducible] def tB : Bag := bagOf theP
@[irreducible] def prog := tB.prog 3
@[irreducible] def w := tB.w 3
@[irreducible] def A := tB.A 3
@[irreducible] def E := tB.qv 3
@[irreducible] def s := tB.s 3
@[irreducible] def env := tB.env 3
@[irreducible] def h₀ := tB.heap 3
@[irreducible] def m := tB.fr 3
@[irreducible] def news := tB.led 3
@[irreducible] def vx := tB.expr 3
@[irreducible] def z := tB.str 3
@[irreducible] def t := tB.str 4
@[irreducible] def xk := tB.str 5
@[irreducible] def xv := tB.str 6
@[irreducible] def pz := tB.pos 3
@[irreducible] def tp := tB.pos 4
@[irreducible] def pk := tB.pos 5
@[irreducible] def pk2 := tB.pos 6
@[irreducible] def pv := tB.pos 7
@[irreducible] def pt := tB.pos 8
@[irreducible] def pos := tB.pos 9
@[irreducible] def spos := tB.pos 10
@[irreducible] def apos := tB.pos 11
@[irreducible] def cpos := tB.pos 12
@[irreducible] def x1 := tB.nat 3
@[irreducible] def scope := tB.scope 3
@[irreducible] def cl := tB.cl 3
@[irreducible] def d := tB.addr 3
@[irreducible] def od := tB.obj 3
@[irreducible] def kvs := tB.kvs 3
@[irreducible] def Q := tB.qf 3
theorem core (R : List (Addr × Obj) → Nat → Value → Prop) (F : Fr h₀ env.locals s.heap m) (N : News h₀ env.locals s.heap news) (hmt : m t = some (.ref d)) (hdm : (d, od) ∈ news) (hd : od.IsDictOf (intKind prog w) kvs) (lo : (d == sysModules) = false) (hlen : kvs.length ≤ 1000) (hbig : h₀.NoLimit) (hE : ∀ i k v tk C oC h tk' m₂ (Q' E' : Value → Shared → Prop), kvs[i]? = some (k, v) → LCg.NsObj oC m₂ → m₂ xk = some (.int k tk) → m₂ xv = some v → Fr h₀ env.locals h m → News h₀ env.locals h ((C, oC) :: news) → (∀ p ∈ news, @Ne Nat p.1 C) →
   (∀ r h' tk'' own, R own i r → (∀ b o, h.get? b = some o → h'.get? b = some o) → (∀ p ∈ own, h'.get? p.1 = some p.2 ∧ h.get? p.1 = none) → Q' r { s with heap := h', toks := tk'' }) →
    wpAny (model prog w) A (eval vx (compEnvC scope cl C env)) Q' E' { s with heap := h, toks := tk' }) (hQ : ∀ D o h tk tl rs, Fr h₀ env.locals h (fun y => if y = z then some (.ref D) else m y) → News h₀ env.locals h ((D, o) :: (tl ++ news)) → (∀ p ∈ tl ++ news, @Ne Nat p.1 D) → (∀ p ∈ tl, ∀ q ∈ news, @Ne Nat q.1 p.1) → o.IsDictOf (intKind prog w) rs → (D == sysModules) = false → BuiltD R kvs.length tl kvs rs → Q .next { s with heap := h, toks := tk }) (hsw : swapsWith (.DictComp (.Name xk pk2) vx [⟨.Tuple [.Name xk pk, .Name xv pv] x1 pt, .Call (.Attribute (.Name t tp) "items" apos) [] [] cpos, [], 0⟩] scope pos) (some (.Name z pz)) spos.line env = pure true) (hz : env.kindOf z = some .local) (hp : (env.scope.kind == .class || (env.scope.kind == .module && env.locals != env.globals)) = false) (hclos : closureFor scope env = pure cl) (hcell : ∀ z ∈ scope.names, z.2 ≠ .cell) (hkind : scope.kind = .function) (hnames : ∀ z ∈ scope.names, z.2 = .local → scope.names.lookup z.1 = some .local) (hxk : scope.names.lookup xk = some .local) (hxv : scope.names.lookup xv = some .local) (hxy : xk ≠ xv) (hkd : (xk == ("__debug__" : Str)) = false) (hh : A.handled = none) (ht : env.kindOf t = some .local) (hkf : env.scope.kind = .function) (htd : (t == ("__debug__" : Str)) = false) (hbase : attributeBase (.Name t tp) "items" env (eval (.Name t tp) env) = eval (.Name t tp) env) (hline : (apos.endLine == cpos.line) = true) (hs : ∀ x, foldedSetIterable (.Call (.Attribute (.Name t tp) "items" apos) [] [] cpos) env x = pure x := by intro _; rfl) : wpAny (model prog w) A (exec (.Assign [.Name z pz] (.DictComp (.Name xk pk2) vx [⟨.Tuple [.Name xk pk, .Name xv pv] x1 pt, .Call (.Attribute (.Name t tp) "items" apos) [] [] cpos, [], 0⟩] scope pos) spos) env) Q E s := by
 rw [exec_Assign_Name_used _ _ _ _ hsw]
 refine wpAny_bind (wpAny_standAt (wpAny_bind ?_))
 show wpAny _ A (do let _ ← comprehension (.DictComp (.Name xk pk2) vx [⟨.Tuple [.Name xk pk, .Name xv pv] x1 pt, .Call (.Attribute (.Name t tp) "items" apos) [] [] cpos, [], 0⟩] scope pos) scope env _ newDict false (eval (.Call (.Attribute (.Name t tp) "items" apos) [] [] cpos) env) (some (assign (.Name z pz) env))) _ _ s
 have hds : s.heap.DictOf (intKind prog w) d kvs := Heap.dictOf_iff.mpr ⟨_, (N _ hdm).1, hd⟩
 obtain ⟨ep, hat⟩ := hds.dictAt
 refine wpAny_bind (wpAny_mono (wpAny_comprehension_free (use := some (assign (.Name z pz) env)) (Q := fun _ s' => Q .next s') rfl hs hclos hkind hnames
  (wpAny_Call_items lo hds hbase hline (fun Q' q => wpAny_Name (wpAny_loadName_local hkf ht F.ns hmt q) htd) ?_)) (fun _ s' hq => wpAny_pure (wpAny_pure hq)) fun _ _ e => e)
 refine wpAny_pyIter_items (knd := intKind prog w) (d := d) (kvs := kvs) (ep := ep) (⟨_, ia2 (Heap.get?_push_size _ rfl) rfl rfl⟩) (hat.push _) ?_
 generalize hH1 : s.heap.push { cls := .type "dict_items", data := .fields #[.ref d] } = H1
 have hz1 : H1.objs.size = s.heap.objs.size + 1 := by rw [← hH1, Heap.size_push]
 have lt : d < s.heap.objs.size := hat.lt_size
 have hne : d ≠ H1.objs.size := by rw [hz1]; exact Nat.ne_of_lt (Nat.lt_succ_of_lt lt)
 generalize hI : H1.objs.size = I at hz1 hne
 generalize hH3 : H1.push { cls := .type "dict_itemiterator", data := .fields #[.none, .bool false, .ref d, .int 0 0, .int kvs.length 0, .int ep 0, .none, .none] } = H3
 have hz3 : H3.objs.size = s.heap.objs.size + 2 := by rw [← hH3, Heap.size_push, hI, hz1]
 have up : ∀ b o, s.heap.get? b = some o → H3.get? b = some o := fun b o e => hH3 ▸ Heap.get?_push_of_some _ (by rw [← hH1]; exact Heap.get?_push_of_some _ e)
 have W := itemsWalks (prog := prog) (w := w) (knd := intKind prog w) (A := A) hh I d hne kvs ep
 have hIt : H3.get? I = some { cls := .type "dict_itemiterator", data := .fields #[.none, .bool false, .ref d, .int 0 0, .int kvs.length 0, .int ep 0, .none, .none] } := by
  rw [← hH3, ← hI]; exact Heap.get?_push_size _ rfl
 refine wpAny_newObj_type (wpAny_newFunctionEnv hcell (by intro y hy; simp at hy) (fun h₁ hns₁ hsb₁ => ?_) hkind)
 dsimp only at hns₁ hsb₁ ⊢
 have hnew : (H3.push { cls := .type "dict", dict := none, data := .dict #[] }).DictOf (intKind prog w) H3.objs.size [] := Heap.DictOf.new H3
 have hD : (H3.push { cls := .type "dict", dict := none, data := .dict #[] }).objs.size = s.heap.objs.size + 3 := by rw [Heap.size_push, hz3]
 generalize hH2 : H3.push { cls := .type "dict", dict := none, data := .dict #[] } = H2 at hns₁ hsb₁ hnew hD ⊢
 generalize hC : H2.objs.size = C at hns₁ hsb₁ hD ⊢
 generalize hDD : H3.objs.size = D at hz3 hnew
 have hDC : @Ne Nat D C := by grind
 have old3 : ∀ b o, H3.get? b = some o → h₁.get? b = some o := fun b o e => by
  have hb : @LT.lt Nat _ b D := hDD ▸ Heap.lt_size e
  exact hsb₁.extBut b o (Nat.ne_of_lt (by grind : @LT.lt Nat _ b C)) (Heap.get?_push_of_some _ (hH2 ▸ Heap.get?_push_of_some _ e))
 have old : ∀ b o, s.heap.get? b = some o → h₁.get? b = some o := fun b o e => old3 b o (up b o e)
 have hacc : h₁.DictOf (intKind prog w) D [] := hnew.at fun o e => hsb₁.extBut _ _ hDC (Heap.get?_push_of_some _ e)
 have fresh : ∀ a, s.heap.objs.size ≤ a → s.heap.get? a = none := fun a ha => by
  cases e : s.heap.get? a with
  | none => rfl
  | some o' => exact absurd (Heap.lt_size e) (Nat.not_lt.mpr ha)
 have hHD : s.heap.get? D = none := fresh _ (by grind)
 have hHC : s.heap.get? C = none := fresh _ (by grind)
 have hHI : s.heap.get? I = none := fresh _ (by grind)
 have hID : @Ne Nat I D := by grind
 have hIC : @Ne Nat I C := by grind
 have lt : @LT.lt Nat _ d s.heap.objs.size := lt
 have hdD : @Ne Nat d D := by grind
 have hdC : @Ne Nat d C := by grind
 obtain ⟨fC1, fC2, fC3⟩ : C ≠ env.locals ∧ h₀.get? C = none ∧ ∀ p ∈ news, @Ne Nat p.1 C := by
  refine hdG ?_; intro Xh hXh
  refine ex3 F.ns ?_
  rintro oL _ _ hZ
  obtain ⟨hL, _⟩ := hZ
  refine hXh ?_; clear hXh
  refine (ia2 (fun q => ?_) ?_ (fun p hp q => ?_))
  ·rw [q, hL] at hHC; cases hHC
  ·cases e' : h₀.get? C with
   | none => rfl
   | some o => rw [F.keep _ _ e'] at hHC; cases hHC
  ·have q' : p.1 = C := q
   rw [← q', (N p hp).1] at hHC; cases hHC
 obtain ⟨fD1, fD2, fD3⟩ : D ≠ env.locals ∧ h₀.get? D = none ∧ ∀ p ∈ news, @Ne Nat p.1 D := by
  refine hdG ?_; intro Xh hXh
  refine ex3 F.ns ?_
  rintro oL _ _ hZ
  obtain ⟨hL, _⟩ := hZ
  refine hXh ?_; clear hXh
  refine (ia2 (fun q => ?_) ?_ (fun p hp q => ?_))
  ·rw [q, hL] at hHD; cases hHD
  ·cases e' : h₀.get? D with
   | none => rfl
   | some o => rw [F.keep _ _ e'] at hHD; cases hHD
  ·have q' : p.1 = D := q
   rw [← q', (N p hp).1] at hHD; cases hHD
 have ndk : (kvs.map (·.1)).Nodup := by (refine ex2 hd ?_; try clear hd; rintro _ _ hZ; refine an4 hZ ?_; clear hZ; rintro _ _ _ _ nd); exact nd
 have loop : ∀ s₃ : Shared, s₃ = { s with heap := h₁, toks := s.toks + ([] : List (Str × Value)).length } →
   codeAny (model prog w) A (.compLoop (.DictComp (.Name xk pk2) vx [⟨.Tuple [.Name xk pk, .Name xv pv] x1 pt, .Call (.Attribute (.Name t tp) "items" apos) [] [] cpos, [], 0⟩] scope pos) 0 (.ref I) (.ref D) (compEnvC scope cl C env)) (compPost (model prog w) A E (some (assign (.Name z pz) env)) (fun _ s' => Q .next s') (.ref D) C) s₃ := by
  rintro s₃ rfl
  refine codeAny_compLoop_pairD
   (fun k s' => ∃ h' tk i tl rs m', s' = { s with heap := h', toks := tk } ∧ i ≤ kvs.length ∧ k = kvs.length + 1 - i ∧ BuiltD R i tl kvs rs ∧ ((∃ a b, IsItemIter h' I d i kvs.length ep a b) ∧ h'.DictAt (intKind prog w) d kvs ep) ∧ h'.Ns C m' ∧ h'.DictOf (intKind prog w) D rs ∧ (∀ b o, s.heap.get? b = some o → h'.get? b = some o) ∧ (∀ p ∈ tl, h'.get? p.1 = some p.2 ∧ s.heap.get? p.1 = none ∧ @Ne Nat p.1 D ∧ @Ne Nat p.1 C ∧ @Ne Nat p.1 I)) ?_ (kvs.length + 1)
   (ix6 h₁ _ 0 [] [] _ (ia8 rfl (Nat.zero_le _) rfl .nil ⟨(ix2 _ _ (old3 _ _ hIt)), hat.at fun o e => old d o e⟩ hns₁ hacc old (fun p hp => nomatch hp)))
  rintro k s' hJz
  refine hdG ?_; intro Xh hXh
  refine ex6 hJz ?_
  try clear hJz
  rintro h' tk' i tl rs m' hZ
  refine an8 hZ ?_
  clear hZ
  rintro rfl hi rfl hB hst' hn' hD' hk' htl
  refine hXh ?_; clear hXh
  by_cases hlt : i < kvs.length
  ·refine W.item i _ _ _ hlt hst' fun T vals h₂ tk₂ hP hT hTup hMid hk₂ => ?_
   have Tw := W.apart i T h₂ hMid
   refine hdG ?_; intro Xh hXh
   refine ex3 hP ?_
   try clear hP
   rintro kk vv key hZ
   refine an2 hZ ?_
   clear hZ
   rintro ekv hkey rfl
   obtain ⟨tq, rfl⟩ := int_key hkey
   refine hXh ?_; clear hXh
   have hTi : T ≠ I := fun q => Tw (by simp [q])
   refine W.go _ x1 pt i T _ _ _ hMid fun h₃ hst₃ hk₃ => ?_
   have k3 : ∀ b o, b ≠ I → h'.get? b = some o → h₃.get? b = some o := fun b o hb e => hk₃ b o (by simpa using hb) (hk₂ b o (by simpa using hb) e)
   have hT3 : IsTup h₃ T #[.int kk tq, vv] := by
    refine hdG ?_; intro Xh hXh
    obtain ⟨oT, hZ⟩ := hTup
    refine an2 hZ ?_
    clear hZ
    rintro hTe hTc hZ
    obtain ⟨nT, hTd⟩ := hZ
    refine hXh ?_; clear hXh
    exact (⟨oT, ia2 (hk₃ _ _ Tw hTe) hTc ⟨nT, hTd⟩⟩)
   have hCI : C ≠ I := Ne.symm hIC
   have hDI : D ≠ I := Ne.symm hID
   have notI : ∀ b o, s.heap.get? b = some o → b ≠ I := fun b o e q => by rw [q, hHI] at e; cases e
   have notC : ∀ b o, s.heap.get? b = some o → b ≠ C := fun b o e q => by rw [q, hHC] at e; cases e
   have notD : ∀ b o, s.heap.get? b = some o → b ≠ D := fun b o e q => by rw [q, hHD] at e; cases e
   have hn3 : h₃.Ns C m' := hn'.at' fun o e => k3 C o hCI e
   have H3' : ∀ b o, s.heap.get? b = some o → h₃.get? b = some o := fun b o e => k3 b o (notI b o e) (hk' b o e)
   refine assign_Tuple_tuple hh hT3 rfl rfl fun h₅ he => ?_
   have he' : ∀ b o, h₃.get? b = some o → h₅.get? b = some o := fun b o e => he b o (Nat.ne_of_lt (Heap.lt_size e)) e
   refine assignInOrder_cons (wpAny_assign_Name (wpAny_storeName_local (lookup_relabel_local hxk) (hn3.at' fun o e => he' _ o e) (fun h₆ hn₆ hs₆ => ?_) (by simp [compEnvC, relabel, hkind])))
   refine assignInOrder_cons (wpAny_assign_Name (wpAny_storeName_local (lookup_relabel_local hxv) hn₆ (fun h₇ hn₇ hs₇ => ?_) (by simp [compEnvC, relabel, hkind])))
   refine assignInOrder_nil ?_
   have k7 : ∀ b o, b ≠ C → h₃.get? b = some o → h₇.get? b = some o := fun b o hb e => hs₇.extBut b o hb (hs₆.extBut b o hb (he' b o e))
   have H7 : ∀ b o, s.heap.get? b = some o → h₇.get? b = some o := fun b o e => k7 b o (notC b o e) (H3' b o e)
   have hst₇ := W.frame _ _ h₇ hst₃ fun b hb o e => k7 b o (fun z => by
    rcases List.mem_cons.mp hb with q | hb
    ·exact hIC (q ▸ z)
    ·exact hdC ((List.mem_singleton.mp hb) ▸ z)) e
   have hD7 : h₇.DictOf (intKind prog w) D rs := hD'.at fun o e => k7 D o hDC (k3 D o hDI e)
   have htl7 : ∀ p ∈ tl, h₇.get? p.1 = some p.2 ∧ s.heap.get? p.1 = none ∧ @Ne Nat p.1 D ∧ @Ne Nat p.1 C ∧ @Ne Nat p.1 I := fun p hp => by
    refine hdG ?_; intro Xh hXh
    refine an4 (htl p hp) ?_
    rintro a1 a2 a3 a4 a5
    refine hXh ?_; clear hXh
    exact (ia4 (k7 _ _ a4 (k3 _ _ a5 a1)) a2 a3 a4 a5)
   refine wpAny_Name (wpAny_loadName_local (by simp [compEnvC, relabel, hkind]) (lookup_relabel_local hxk) hn₇ (v := .int kk tq) (by simp [hxy]) ?_) hkd
   refine hdG ?_; intro Xh hXh
   obtain ⟨oC, eC, nC⟩ := LCg.ns_obj hn₇
   refine hXh ?_; clear hXh
   refine hE i kk vv tq C oC h₇ _ _ _ _ ekv nC (by simp [hxy]) (by simp) (F.keeps H7) (fun p hp => ?_) fC3 fun r h₈ tk₈ own hr hk₈ hown => ?_
   ·rcases List.mem_cons.mp hp with rfl | hp
    ·exact (ia2 eC fC1 fC2)
    ·exact ⟨H7 _ _ (N p hp).1, (N p hp).2⟩
   ·have hrl : rs.length ≤ kvs.length := by
     have := congrArg List.length hB.keys
     rw [List.length_map, List.length_map, List.length_take] at this
     grind
    refine wpAny_dictSet_pairs (knd := intKind prog w) (k := kk) (hsz := by rw [sizeLine_eq]; grind) (intKind_is _ _ _ _) (hD7.at fun o e => hk₈ _ o e) fun h₉ hl₉ hs₉ => ?_
    have hnk : kk ∉ rs.map (·.1) := by
     rw [hB.keys]
     intro hm
     have h1 : kvs = kvs.take i ++ kvs.drop i := (List.take_append_drop i kvs).symm
     rw [h1, List.map_append, List.nodup_append] at ndk
     refine ndk.2.2 kk hm kk (List.mem_map.mpr ⟨(kk, vv), ?_, rfl⟩) rfl
     refine List.mem_iff_getElem?.mpr ⟨0, ?_⟩
     rw [List.getElem?_drop]; exact ekv
    rw [stored_fresh hnk] at hl₉
    refine (⟨kvs.length + 1 - (i + 1), ⟨by grind, ix6 h₉ _ (i + 1) (own ++ tl) (rs ++ [(kk, r)]) _ (ia8 rfl hlt rfl (.snoc hB ekv hr) (W.frame _ _ h₉ (W.frame _ _ h₈ hst₇ fun b _ o e => hk₈ b o e) (fun b hb o e => hs₉.extBut b o (fun z => by
     rcases List.mem_cons.mp hb with q | hb
     ·exact hID (q ▸ z)
     ·exact hdD ((List.mem_singleton.mp hb) ▸ z)) e)) (hn₇.at' fun o e => hs₉.extBut _ o (Ne.symm hDC) (hk₈ _ o e)) hl₉ (fun b o e => hs₉.extBut b o (notD b o e) (hk₈ b o (H7 b o e))) (fun p hp => ?_))⟩⟩)
    rcases List.mem_append.mp hp with hp | hp
    ·obtain ⟨a1, a2⟩ := hown p hp
     have n1 : @Ne Nat p.1 D := fun q => by
      refine hdG ?_; intro Xh hXh
      obtain ⟨oD, eD, _⟩ := Heap.dictOf_iff.mp hD7
      refine hXh ?_; clear hXh
      have q' : p.1 = D := q
      rw [q', eD] at a2; cases a2
     refine (ia4 (hs₉.extBut _ _ n1 a1) ?_ n1 (fun q => ?_) (fun q => ?_))
     ·cases e : s.heap.get? p.1 with
      | none => rfl
      | some o => rw [H7 _ _ e] at a2; cases a2
     ·have q' : p.1 = C := q
      have eC' : h₇.get? C = some oC := eC
      rw [q', eC'] at a2; cases a2
     ·obtain ⟨⟨_, _, xi⟩, _⟩ := hst₇
      have q' : p.1 = I := q
      have xi : h₇.get? I = some _ := xi
      rw [q', xi] at a2; cases a2
    ·refine an4 (htl7 p hp) ?_
     rintro a1 a2 a3 a4 a5
     exact (ia4 (hs₉.extBut _ _ a3 (hk₈ _ _ a1)) a2 a3 a4 a5)
  ·obtain rfl : i = kvs.length := Nat.le_antisymm hi (Nat.not_lt.mp hlt)
   refine W.done _ _ _ hst' fun h₂ tk₂ hk₂ => ?_
   have k2 : ∀ b o, b ≠ I → h'.get? b = some o → h₂.get? b = some o := fun b o hb e => hk₂ b o (by simpa using hb) e
   show wpAny _ A (assign (.Name z pz) env (.ref D)) _ _ _
   have H2' : ∀ b o, s.heap.get? b = some o → h₂.get? b = some o := fun b o e => k2 b o (fun q => by rw [q, hHI] at e; cases e) (hk' b o e)
   have F2 := F.keeps H2'
   refine wpAny_assign_Name (wpAny_storeName_local hz F2.ns (fun h₃ hn₃ hs₃ => ?_) hp)
   have hs₃ : Heap.SameBut env.locals h₂ h₃ := hs₃
   refine ⟨m', (hn'.at' fun o e => k2 C o (Ne.symm hIC) e).sameBut hs₃ fC1, fun h'' hs'' => ?_⟩
   have hs'' : Heap.SameBut C h₃ h'' := hs''
   have k5 : ∀ b o, b ≠ I → b ≠ C → b ≠ env.locals → h'.get? b = some o → h''.get? b = some o := fun b o n1 n2 n3 e => hs''.extBut b o n2 (hs₃.extBut b o n3 (k2 b o n1 e))
   have F3 := F2.set hn₃ hs₃
   have N4 : ∀ p ∈ tl ++ news, h''.get? p.1 = some p.2 ∧ p.1 ≠ env.locals ∧ h₀.get? p.1 = none := fun p hp => by
    rcases List.mem_append.mp hp with hp | hp
    ·refine an4 (htl p hp) ?_
     rintro a1 a2 a3 a4 a5
     refine hdG ?_; intro Xh hXh
     refine ex3 F.ns ?_
     rintro oL _ _ hZ
     obtain ⟨hL, _⟩ := hZ
     refine hXh ?_; clear hXh
     have n3 : p.1 ≠ env.locals := fun q => by rw [q, hL] at a2; cases a2
     refine (ia2 (k5 _ _ a5 a4 n3 a1) n3 ?_)
     cases e : h₀.get? p.1 with
     | none => rfl
     | some o => rw [F.keep _ _ e] at a2; cases a2
    ·have hN := N p hp
     exact ⟨k5 _ _ (fun q => by have h1 := hN.1; rw [q, hHI] at h1; cases h1) (fC3 p hp) hN.2.1 (hk' _ _ hN.1), hN.2⟩
   refine hdG ?_; intro Xh hXh
   obtain ⟨oD, eD, hoD⟩ := Heap.dictOf_iff.mp hD'
   refine hXh ?_; clear hXh
   have eD2 := k5 D oD (Ne.symm hID) hDC fD1 eD
   refine hQ D oD h'' _ tl rs ⟨hn₃.sameBut hs'' (Ne.symm fC1), fun b o e => hs''.extBut b o (fun q => by rw [q, fC2] at e; cases e) (F3.keep b o e), F.above⟩ (fun p hp => ?_) (fun p hp => ?_) (fun p hp q hq e => ?_) hoD ?_ hB
   ·rcases List.mem_cons.mp hp with rfl | hp
    ·exact (ia2 eD2 fD1 fD2)
    ·exact N4 p hp
   ·rcases List.mem_append.mp hp with hp | hp
    ·exact (htl p hp).2.2.1
    ·exact fD3 p hp
   ·have h1 := (htl p hp).2.1
    have e' : q.1 = p.1 := e
    rw [← e', (N q hq).1] at h1; cases h1
   ·have h1 : @LT.lt Nat _ sysModules h₀.objs.size := modules_low hbig
    have h2 : @LT.lt Nat _ env.locals s.heap.objs.size := F.ns.lt
    have h3 : @LE.le Nat _ h₀.objs.size env.locals := F.above
    exact beq_eq_false_iff_ne.mpr (Nat.ne_of_gt (by grind : @LT.lt Nat _ sysModules D))
 refine codeAny_compStart_dict (loop _ rfl) (W.self 0 _ _ _ ⟨(ix2 _ _ (old3 _ _ hIt)), hat.at fun o e => old d o e⟩ (loop _ rfl))
end E_dcomp_items
section
variable {prog : Program} {w : World} {A : Around} {E : Value → Shared → Prop} {s : Shared} {env : Env} {h₀ : Heap} {m : Str → Option Value} {news : List (Addr × Obj)}
theorem dcomp_items {vx : PySem.Expr} {z t xk xv : Str} {pz tp pk pk2 pv pt pos spos apos cpos : Pos} {x1 : Nat} {scope : Scope} {cl : List (Str × Addr)} {d : Addr} {od : Obj} {kvs : List (Int × Value)} {Q : Flow → Shared → Prop} (R : List (Addr × Obj) → Nat → Value → Prop) (F : Fr h₀ env.locals s.heap m) (N : News h₀ env.locals s.heap news) (hmt : m t = some (.ref d)) (hdm : (d, od) ∈ news) (hd : od.IsDictOf (intKind prog w) kvs) (lo : (d == sysModules) = false) (hlen : kvs.length ≤ 1000) (hbig : h₀.NoLimit) (hE : ∀ i k v tk C oC h tk' m₂ (Q' E' : Value → Shared → Prop), kvs[i]? = some (k, v) → LCg.NsObj oC m₂ → m₂ xk = some (.int k tk) → m₂ xv = some v → Fr h₀ env.locals h m → News h₀ env.locals h ((C, oC) :: news) → (∀ p ∈ news, @Ne Nat p.1 C) →
   (∀ r h' tk'' own, R own i r → (∀ b o, h.get? b = some o → h'.get? b = some o) → (∀ p ∈ own, h'.get? p.1 = some p.2 ∧ h.get? p.1 = none) → Q' r { s with heap := h', toks := tk'' }) →
    wpAny (model prog w) A (eval vx (compEnvC scope cl C env)) Q' E' { s with heap := h, toks := tk' }) (hQ : ∀ D o h tk tl rs, Fr h₀ env.locals h (fun y => if y = z then some (.ref D) else m y) → News h₀ env.locals h ((D, o) :: (tl ++ news)) → (∀ p ∈ tl ++ news, @Ne Nat p.1 D) → (∀ p ∈ tl, ∀ q ∈ news, @Ne Nat q.1 p.1) → o.IsDictOf (intKind prog w) rs → (D == sysModules) = false → BuiltD R kvs.length tl kvs rs → Q .next { s with heap := h, toks := tk }) (hsw : swapsWith (.DictComp (.Name xk pk2) vx [⟨.Tuple [.Name xk pk, .Name xv pv] x1 pt, .Call (.Attribute (.Name t tp) "items" apos) [] [] cpos, [], 0⟩] scope pos) (some (.Name z pz)) spos.line env = pure true) (hz : env.kindOf z = some .local) (hp : (env.scope.kind == .class || (env.scope.kind == .module && env.locals != env.globals)) = false) (hclos : closureFor scope env = pure cl) (hcell : ∀ z ∈ scope.names, z.2 ≠ .cell) (hkind : scope.kind = .function) (hnames : ∀ z ∈ scope.names, z.2 = .local → scope.names.lookup z.1 = some .local) (hxk : scope.names.lookup xk = some .local) (hxv : scope.names.lookup xv = some .local) (hxy : xk ≠ xv) (hkd : (xk == ("__debug__" : Str)) = false) (hh : A.handled = none) (ht : env.kindOf t = some .local) (hkf : env.scope.kind = .function) (htd : (t == ("__debug__" : Str)) = false) (hbase : attributeBase (.Name t tp) "items" env (eval (.Name t tp) env) = eval (.Name t tp) env) (hline : (apos.endLine == cpos.line) = true) (hs : ∀ x, foldedSetIterable (.Call (.Attribute (.Name t tp) "items" apos) [] [] cpos) env x = pure x := by intro _; rfl) : wpAny (model prog w) A (exec (.Assign [.Name z pz] (.DictComp (.Name xk pk2) vx [⟨.Tuple [.Name xk pk, .Name xv pv] x1 pt, .Call (.Attribute (.Name t tp) "items" apos) [] [] cpos, [], 0⟩] scope pos) spos) env) Q E s := bag_all (P := E_dcomp_items.theP) (by with_unfolding_all exact @E_dcomp_items.core) { bag0 with A := nth [A, A, A, A] bag0.A, addr := nth [d, d, d, d] bag0.addr, cl := nth [cl, cl, cl, cl] bag0.cl, env := nth [env, env, env, env] bag0.env, expr := nth [vx, vx, vx, vx] bag0.expr, fr := nth [m, m, m, m] bag0.fr, heap := nth [h₀, h₀, h₀, h₀] bag0.heap, kvs := nth [kvs, kvs, kvs, kvs] bag0.kvs, led := nth [news, news, news, news] bag0.led, nat := nth [x1, x1, x1, x1] bag0.nat, obj := nth [od, od, od, od] bag0.obj, pos := nth [pz, pz, pz, pz, tp, pk, pk2, pv, pt, pos, spos, apos, cpos] bag0.pos, prog := nth [prog, prog, prog, prog] bag0.prog, qf := nth [Q, Q, Q, Q] bag0.qf, qv := nth [E, E, E, E] bag0.qv, s := nth [s, s, s, s] bag0.s, scope := nth [scope, scope, scope, scope] bag0.scope, str := nth [z, z, z, z, t, xk, xv] bag0.str, w := nth [w, w, w, w] bag0.w } R F N hmt hdm hd lo hlen hbig hE hQ hsw hz hp hclos hcell hkind hnames hxk hxv hxy hkd hh ht hkf htd hbase hline hs
end
end Mine
end
section
open PySem PySem.W
set_option Elab.async false
set_option maxRecDepth 100000
namespace Mine
section
variable {β γ : Type}
theorem dLook_nil (x : Int) : dLook ([] : List (Int × β)) x = none := rfl
theorem dLook_cons (k : Int) (v : β) (d : List (Int × β)) (x : Int) : dLook ((k, v) :: d) x = if k = x then some v else dLook d x := by
 unfold dLook
 rw [List.find?_cons]
 by_cases h : k = x <;> simp [h]
theorem dLook_append (d e : List (Int × β)) (x : Int) : dLook (d ++ e) x = (dLook d x).or (dLook e x) := by
 induction d with
 | nil => rw [List.nil_append, dLook_nil]; rfl
 | cons p d ih => obtain ⟨k, v⟩ := p; rw [List.cons_append, dLook_cons, dLook_cons, ih]; split <;> rfl
theorem dAny_cons (k : Int) (v : β) (d : List (Int × β)) (x : Int) : (((k, v) :: d).any fun p => p.1 = x) = (decide (k = x) || d.any fun p => p.1 = x) := rfl
theorem dLook_none_iff {d : List (Int × β)} {x : Int} : dLook d x = none ↔ x ∉ d.map (·.1) := by
 induction d with
 | nil => simp [dLook_nil]
 | cons p d ih =>
  obtain ⟨k, v⟩ := p
  rw [dLook_cons, List.map_cons, List.mem_cons]
  by_cases h : k = x
  ·simp [h]
  ·rw [if_neg h, ih]; simp [Ne.symm h]
theorem dAny_iff {d : List (Int × β)} {x : Int} : (d.any fun p => p.1 = x) = true ↔ x ∈ d.map (·.1) := by
 simp only [List.any_eq_true, decide_eq_true_eq, List.mem_map]
theorem dPut_cons (k : Int) (v u : β) (d : List (Int × β)) (x : Int) (hn : x ∉ d.map (·.1)) : dPut ((k, v) :: d) x u = if k = x then (k, u) :: d else (k, v) :: dPut d x u := by
 by_cases h : k = x
 ·unfold dPut
  rw [if_pos h, if_pos (by simp [h])]
  subst h
  rw [List.map_cons]
  simp only [if_true]
  congr 1
  conv => rhs; rw [← List.map_id d]
  refine List.map_congr_left fun p hp => if_neg fun e => hn (List.mem_map.mpr ⟨p, hp, e⟩)
 ·rw [if_neg h, dPut_fresh hn, dPut_fresh (by
   simp only [List.map_cons, List.mem_cons]
   rintro (e | e)
   ·exact h e.symm
   ·exact hn e), List.cons_append]
theorem dPut_cons_ne {k : Int} {v u : β} {d : List (Int × β)} {x : Int} (h : k ≠ x) : dPut ((k, v) :: d) x u = (k, v) :: dPut d x u := by
 unfold dPut
 rw [dAny_cons, List.map_cons]
 have h1 : decide (k = x) = false := by simp [h]
 simp only [h1, Bool.false_or, if_neg h]
 split <;> rfl
theorem dPut_cons_eq {k : Int} {v u : β} {d : List (Int × β)} (hn : k ∉ d.map (·.1)) : dPut ((k, v) :: d) k u = (k, u) :: d := by
 rw [dPut_cons k v u d k hn, if_pos rfl]
noncomputable abbrev Nk (d : List (Int × β)) : Prop := (d.map (·.1)).Nodup
theorem Nk.cons {k : Int} {v : β} {d : List (Int × β)} (h : Nk ((k, v) :: d)) : k ∉ d.map (·.1) ∧ Nk d := List.nodup_cons.mp h
theorem dPut_nodup {d : List (Int × β)} (h : Nk d) (k : Int) (v : β) : Nk (dPut d k v) := by
 unfold Nk
 rw [dPut_keys]
 split
 ·exact h
 ·rename_i c
  have c : k ∉ d.map (·.1) := fun q => c (dAny_iff.mpr q)
  rw [List.nodup_append]
  refine ⟨h, List.nodup_cons.mpr ⟨List.not_mem_nil, List.nodup_nil⟩, fun a ha b hb e => ?_⟩
  rw [List.mem_singleton.mp hb] at e
  exact c (e ▸ ha)
theorem dLook_put {d : List (Int × β)} (k : Int) (v : β) (x : Int) : dLook (dPut d k v) x = if k = x then some v else dLook d x := by
 by_cases h : k ∈ d.map (·.1)
 ·unfold dPut
  rw [if_pos (dAny_iff.mpr h)]
  induction d with
  | nil => exact nomatch h
  | cons p d ih =>
   obtain ⟨j, u⟩ := p
   rw [List.map_cons, dLook_cons]
   by_cases hj : j = k
   ·simp only [hj, if_true, dLook_cons]
    by_cases hx : k = x
    ·rw [if_pos hx, if_pos hx]
    ·rw [if_neg hx, if_neg hx, if_neg hx]
     by_cases hk : k ∈ d.map (·.1)
     ·rw [ih hk, if_neg hx]
     ·congr 1
      conv => rhs; rw [← List.map_id d]
      exact List.map_congr_left fun p hp => if_neg fun e => hk (List.mem_map.mpr ⟨p, hp, e⟩)
   ·have hk : k ∈ d.map (·.1) := by
     rcases List.mem_cons.mp h with e | e
     ·exact absurd e.symm hj
     ·exact e
    simp only [hj, if_false, dLook_cons]
    rw [ih hk]
    by_cases hx : j = x
    ·rw [if_pos hx, if_pos hx, if_neg (fun e => hj (hx.trans e.symm))]
    ·rw [if_neg hx, if_neg hx]
 ·rw [dPut_fresh h, dLook_append]
  by_cases hx : k = x
  ·rw [if_pos hx]; subst hx
   rw [dLook_none_iff.mpr h, dLook_cons, if_pos rfl]; rfl
  ·rw [if_neg hx, dLook_cons, if_neg hx, dLook_nil, Option.or_none]
theorem dLook_mem {d : List (Int × β)} (h : Nk d) {k : Int} {v : β} (hm : (k, v) ∈ d) : dLook d k = some v := by
 induction d with
 | nil => exact nomatch hm
 | cons p d ih =>
  obtain ⟨j, u⟩ := p
  obtain ⟨h1, h2⟩ := h.cons
  rw [dLook_cons]
  rcases List.mem_cons.mp hm with e | e
  ·cases e; rw [if_pos rfl]
  ·rw [if_neg (fun q => h1 (List.mem_map.mpr ⟨(k, v), e, q.symm⟩)), ih h2 e]
theorem dLook_get {d : List (Int × β)} {k : Int} {v : β} (h : dLook d k = some v) : (k, v) ∈ d := by
 induction d with
 | nil => exact nomatch h
 | cons p d ih =>
  obtain ⟨j, u⟩ := p
  rw [dLook_cons] at h
  split at h
  ·rename_i e; cases h; subst e; exact .head _
  ·exact .tail _ (ih h)
noncomputable def dSum (φ : Int → β → Int) (d : List (Int × β)) : Int := (d.map fun p => φ p.1 p.2).sum
theorem dSum_cons (φ : Int → β → Int) (k : Int) (v : β) (d : List (Int × β)) : dSum φ ((k, v) :: d) = φ k v + dSum φ d := by
 unfold dSum; rw [List.map_cons, List.sum_cons]
noncomputable def oldV (φ : Int → β → Int) (k : Int) : Option β → Int
 | some u => φ k u
 | none => 0
theorem dSum_put (φ : Int → β → Int) {d : List (Int × β)} (h : Nk d) (k : Int) (v : β) : dSum φ (dPut d k v) = dSum φ d - oldV φ k (dLook d k) + φ k v := by
 induction d with
 | nil => show dSum φ [(k, v)] = _; rw [dSum_cons, dLook_nil]; simp [dSum, oldV]
 | cons p d ih =>
  obtain ⟨j, u⟩ := p
  obtain ⟨h1, h2⟩ := h.cons
  by_cases e : j = k
  ·subst e
   rw [dPut_cons_eq h1, dSum_cons, dSum_cons, dLook_cons, if_pos rfl]
   simp only [oldV]; grind
  ·rw [dPut_cons_ne e, dSum_cons, dSum_cons, dLook_cons, if_neg e, ih h2]; grind
theorem dPut_map (π : β → γ) (d : List (Int × β)) (k : Int) (v : β) : (dPut d k v).map (fun p => (p.1, π p.2)) = dPut (d.map fun p => (p.1, π p.2)) k (π v) := by
 unfold dPut
 have e : ((d.map fun p => (p.1, π p.2)).any fun p => p.1 = k) = d.any fun p => p.1 = k := by rw [List.any_map]; rfl
 rw [e]
 split
 ·rw [List.map_map, List.map_map]
  refine List.map_congr_left fun p _ => ?_
  simp only [Function.comp]
  by_cases h : p.1 = k <;> simp [h]
 ·rw [List.map_append]; rfl
theorem dLook_map (π : β → γ) (d : List (Int × β)) (k : Int) : dLook (d.map fun p => (p.1, π p.2)) k = (dLook d k).map π := by
 induction d with
 | nil => rfl
 | cons p d ih => obtain ⟨j, u⟩ := p; rw [List.map_cons, dLook_cons, dLook_cons, ih]; split <;> rfl
theorem dPut_put (d : List (Int × β)) (h : Nk d) (k : Int) (u v : β) : dPut (dPut d k u) k v = dPut d k v := by
 induction d with
 | nil => show dPut [(k, u)] k v = _; rw [dPut_cons_eq List.not_mem_nil]; rfl
 | cons p d ih =>
  obtain ⟨j, x⟩ := p
  obtain ⟨h1, h2⟩ := h.cons
  by_cases e : j = k
  ·subst e; rw [dPut_cons_eq h1, dPut_cons_eq h1, dPut_cons_eq h1]
  ·rw [dPut_cons_ne e, dPut_cons_ne e, dPut_cons_ne e, ih h2]
theorem dPut_comm (d : List (Int × β)) (h : Nk d) {k j : Int} (u v : β) (hk : k ∈ d.map (·.1)) (hn : k ≠ j) : dPut (dPut d k u) j v = dPut (dPut d j v) k u := by
 induction d with
 | nil => exact nomatch hk
 | cons p d ih =>
  obtain ⟨i, x⟩ := p
  obtain ⟨h1, h2⟩ := h.cons
  by_cases e : i = k
  ·subst e
   rw [dPut_cons_eq h1, dPut_cons_ne hn, dPut_cons_ne hn]
   by_cases c : i ∈ (dPut d j v).map (·.1)
   ·rw [dPut_keys] at c
    split at c
    ·exact absurd c h1
    ·rcases List.mem_append.mp c with c | c
     ·exact absurd c h1
     ·exact absurd (List.mem_singleton.mp c) hn
   ·rw [dPut_cons_eq c]
  ·have hk : k ∈ d.map (·.1) := by
    rcases List.mem_cons.mp hk with q | q
    ·exact absurd q.symm e
    ·exact q
   rw [dPut_cons_ne e]
   by_cases e2 : i = j
   ·subst e2
    rw [dPut_cons_eq h1, dPut_cons_ne e]
    refine dPut_cons_eq fun c => h1 ?_
    rw [dPut_keys, if_pos (dAny_iff.mpr hk)] at c
    exact c
   ·rw [dPut_cons_ne e2, dPut_cons_ne e2, dPut_cons_ne e, ih h2 hk]
noncomputable def dEqB [DecidableEq β] (a b : List (Int × β)) : Bool := a.length == b.length && a.all fun p => decide (dLook b p.1 = some p.2)
theorem dEqB_self [DecidableEq β] {d : List (Int × β)} (h : Nk d) : dEqB d d = true := by
 unfold dEqB
 rw [Bool.and_eq_true]
 refine ⟨beq_self_eq_true _, List.all_eq_true.mpr fun p hp => decide_eq_true (dLook_mem h hp)⟩
theorem perm_of_sub {α : Type} [DecidableEq α] : ∀ {a b : List α}, a.Nodup → (∀ x ∈ a, x ∈ b) → b.length ≤ a.length → a.Perm b
 | [], b, _, _, hl => by
  have : b = [] := List.eq_nil_of_length_eq_zero (Nat.le_zero.mp hl)
  rw [this]
 | x :: a, b, hn, hs, hl => by
  obtain ⟨h1, h2⟩ := List.nodup_cons.mp hn
  have hx := hs x (.head _)
  have e := List.perm_cons_erase hx
  refine List.Perm.trans (List.Perm.cons x (perm_of_sub h2 (fun y hy => ?_) ?_)) e.symm
  ·exact (List.mem_erase_of_ne (fun q => h1 (by rw [← q]; exact hy))).mpr (hs y (.tail _ hy))
  ·have := e.length_eq
   simp only [List.length_cons] at this hl
   grind
theorem dEqB_perm [DecidableEq β] {a b : List (Int × β)} (ha : Nk a) (h : dEqB a b = true) : a.Perm b := by
 unfold dEqB at h
 rw [Bool.and_eq_true] at h
 obtain ⟨h1, h2⟩ := h
 refine perm_of_sub (List.Pairwise.imp ?_ (List.pairwise_map.mp ha)) (fun p hp => ?_) (Nat.le_of_eq (eq_of_beq h1).symm)
 ·intro x y q e; exact q (by rw [e])
 ·exact dLook_get (of_decide_eq_true (List.all_eq_true.mp h2 p hp))
theorem dSum_perm (φ : Int → β → Int) {a b : List (Int × β)} (h : a.Perm b) : dSum φ a = dSum φ b := by
 induction h with
 | nil => rfl
 | cons x _ ih => obtain ⟨k, v⟩ := x; rw [dSum_cons, dSum_cons, ih]
 | swap x y l => obtain ⟨k, v⟩ := x; obtain ⟨k', v'⟩ := y; simp only [dSum_cons]; grind
 | trans _ _ i1 i2 => rw [i1, i2]
end
end Mine
end
section
open PySem PySem.W PyProof.Rows PySem.Calls PySem.Spec
set_option Elab.async false
set_option maxRecDepth 100000
namespace Mine
theorem built_dict {β γ : Type} {R : List (Addr × Obj) → Nat → Value → Prop} {V : Value → β → Prop} {V' : List (Addr × Obj) → Value → γ → Prop} {g : β → γ} {n : Nat} {tl : List (Addr × Obj)} {kvs rs : List (Int × Value)} {dd : List (Int × β)}
  (h : BuiltD R n tl kvs rs) (hr : Rep V kvs dd) (hR : ∀ own i r, R own i r → ∃ k q, dd[i]? = some (k, q) ∧ V' own r (g q)) (mono : ∀ l l' v x, V' l v x → (∀ p ∈ l, p ∈ l') → V' l' v x) :
  Rep (V' tl) rs ((dd.take n).map fun p => (p.1, g p.2)) := by
 induction h with
 | nil => exact .nil
 | @snoc i tl own kvs rs k v r _ e hr' ih =>
  refine hdG ?_; intro Xh hXh
  refine ex2 (hR _ _ _ hr') ?_
  rintro k' q hZ
  obtain ⟨e1, hv⟩ := hZ
  obtain ⟨q', e2, _⟩ := hr.get e
  refine hXh ?_; clear hXh
  rw [e2] at e1
  cases e1
  rw [List.take_add_one, e2, List.map_append]
  exact ((ih hr).mono fun v x hv => mono _ _ _ _ hv fun p hp => List.mem_append_right _ hp).append (.cons (mono _ _ _ _ hv fun p hp => List.mem_append_left _ hp) .nil)
section
variable {prog : Program} {w : World} {A : Around} {E : Value → Shared → Prop} {s : Shared} {h₀ : Heap} {L : Addr} {m : Str → Option Value} {news : List (Addr × Obj)}
theorem tup_at {A : Around} {s : Shared} {fa fb : List (Addr × Obj)} {v y : Value} {q q' : List Int} (hv : TupV fa v q) (hy : TupV fb y q') (ka : ∀ p ∈ fa, s.heap.get? p.1 = some p.2) (kb : ∀ p ∈ fb, s.heap.get? p.1 = some p.2) (hu : A.in1.units + 64 < cLine) :
  SeqAt.EqAt A.in1 s v y (decide (q = q')) := by
 refine hdG ?_; intro Xh hXh
 obtain ⟨as, ra⟩ := hv.reads s.heap ka
 obtain ⟨bs, rb⟩ := hy.reads s.heap kb
 refine hXh ?_; clear hXh
 have sh : ∀ q : List Int, SeqAt.shaped (.tuple (q.map PyData.int)) = true := fun q => by
  have h := shaped_ints q
  simp only [SeqAt.shaped, PyData.canLay0, PyData.depth, h.1, h.2, Bool.true_and]
  decide
 have := keq_at (A := A) ra rb (sh q) (sh q') hu
 simp only [PyData.eqv] at this
 rw [ked_eqvAll] at this
 exact this
theorem hits_tup {A : Around} {s : Shared} {fa fb : List (Addr × Obj)} {ka kb : List (Int × Value)} {da db : List (Int × List Int)} (ra : Rep (TupV fa) ka da) (rb : Rep (TupV fb) kb db) (xa : ∀ p ∈ fa, s.heap.get? p.1 = some p.2) (xb : ∀ p ∈ fb, s.heap.get? p.1 = some p.2) (hu : A.in1.units + 64 < cLine) :
  KeqHits A.in1 s kb ka (da.all fun p => decide (dLook db p.1 = some p.2)) := by
 induction ra with
 | nil => exact .nil
 | @cons k v x r s' a _ ih =>
  rw [List.all_cons]
  rcases rb.look k with ⟨e1, e2⟩ | ⟨y, x', e1, e2, hy⟩
  ·rw [e2]
   exact .miss e1
  ·have : decide (dLook db k = some x) = decide (x = x') := by
    rw [e2]
    by_cases q : x = x'
    ·simp [q]
    ·simp [q, Ne.symm q]
   show KeqHits A.in1 _ kb _ (decide (dLook db k = some x) && _)
   rw [this]
   exact .hit e1 (tup_at a hy xa xb hu) ih
theorem eq_dicts {a b : Addr} {oa ob : Obj} {ka kb : List (Int × Value)} {da db : List (Int × List Int)} {fa fb : List (Addr × Obj)} {Q : Value → Shared → Prop} (N : News h₀ L s.heap news) (ha : (a, oa) ∈ news) (hb : (b, ob) ∈ news) (ia : oa.IsDictOf (intKind prog w) ka) (ib : ob.IsDictOf (intKind prog w) kb) (la : (a == sysModules) = false) (lb : (b == sysModules) = false)
  (ra : Rep (TupV fa) ka da) (rb : Rep (TupV fb) kb db) (xa : ∀ p ∈ fa, p ∈ news) (xb : ∀ p ∈ fb, p ∈ news) (hu : A.in1.units + 64 < cLine) (h : Q (.bool (dEqB da db)) s) : wpAny (model prog w) A (compareOp .Eq (.ref a) (.ref b)) Q E s := by
 have hu' : A.units < cLine := by
  have : A.units ≤ A.in1.units := Nat.le_succ _
  grind
 refine keq_eq (knd := intKind prog w) la lb (Heap.dictOf_iff.mpr ⟨_, (N _ ha).1, ia⟩) (Heap.dictOf_iff.mpr ⟨_, (N _ hb).1, ib⟩) hu' (fun _ => hits_tup ra rb (fun p hp => (N p (xa p hp)).1) (fun p hp => (N p (xb p hp)).1) hu) ?_
 have e1 := ra.length
 have e2 := rb.length
 rw [e1, e2]
 exact h
theorem one_values {ifs : List PySem.Expr} {elt : PySem.Expr} {x : Str} {scope : Scope} {cl : List (Str × Addr)} {env : Env} {t : Str} {tp apos cpos : Pos} {d : Addr} {od : Obj} {kvs : List (Int × Value)} {Fin : Heap → Addr → List Value → Shared → Prop} (R : Nat → Bool → Value → Prop)
  (F : Fr h₀ env.locals s.heap m) (N : News h₀ env.locals s.heap news) (hmt : m t = some (.ref d)) (hdm : (d, od) ∈ news) (hd : od.IsDictOf (intKind prog w) kvs) (lo : (d == sysModules) = false) (hlen : kvs.length ≤ sizeLine)
  (hE : ∀ i k v C oC h tk m₂ (Q' : Bool → Value → Shared → Prop) (E' : Value → Shared → Prop), kvs[i]? = some (k, v) → LCg.NsObj oC m₂ → m₂ x = some v → Fr h₀ env.locals h m → News h₀ env.locals h ((C, oC) :: news) → (∀ p ∈ news, @Ne Nat p.1 C) →
   (∀ b r h' tk', R i b r → (∀ b o, h.get? b = some o → h'.get? b = some o) → Q' b r { s with heap := h', toks := tk' }) → Turn1 prog w A ifs elt (compEnvC scope cl C env) Q' E' { s with heap := h, toks := tk })
  (hQ : ∀ D h tk rs, Fr h₀ env.locals h m → News h₀ env.locals h ((D, lstE rs) :: news) → (∀ p ∈ news, @Ne Nat p.1 D) → Built R kvs.length rs → Fin s.heap D rs { s with heap := h, toks := tk })
  (hh : A.handled = none) (ht : env.kindOf t = some .local) (hkf : env.scope.kind = .function) (htd : (t == ("__debug__" : Str)) = false)
  (hbase : attributeBase (.Name t tp) "values" env (eval (.Name t tp) env) = eval (.Name t tp) env) (hline : (apos.endLine == cpos.line) = true) :
  wpAny (model prog w) A (eval (.Call (.Attribute (.Name t tp) "values" apos) [] [] cpos) env) (fun xv s₁ => wpAny (model prog w) A (pyIter xv) (One prog w A ifs elt x scope cl env Fin) E s₁) E s := by
 have hds : s.heap.DictOf (intKind prog w) d kvs := Heap.dictOf_iff.mpr ⟨_, (N _ hdm).1, hd⟩
 obtain ⟨ep, hat⟩ := hds.dictAt
 refine wpAny_Call_method (T := "dict") (id := "dict.values") hbase rfl hline PySem.F.plainAttrs_dict PySem.F.slot_dict_values PySem.F.type_dict_values (wpAny_Name (wpAny_loadName_local hkf ht F.ns hmt (ia2 hds.typeIs hds.mapOf.noDict ?_)) htd)
 show wpAny _ _ (callWith cpos (.builtin "dict.values") [.ref d] [] []) _ _ _
 refine method_meetsIn PySem.F.slot_dict_values PySem.F.entry_dict_values rfl (PySem.evalArgs_none (ia3 rfl hds.typeIs (PySem.F.args_dict_values_1 _) ⟨_, ⟨meets_dict_values (intKind prog w) d lo, ⟨⟨kvs, hds⟩, ?_⟩⟩⟩))
 have hat1 := hat.push { cls := .type "dict_values", data := .fields #[.ref d] }
 refine wpAny_pyIter_values (knd := intKind prog w) (d := d) (kvs := kvs) (ep := ep) (⟨_, ia2 (Heap.get?_push_size _ rfl) rfl rfl⟩) hat1 ?_
 generalize hH : s.heap.push { cls := .type "dict_values", data := .fields #[.ref d] } = H at hat1 ⊢
 have hne : d ≠ H.objs.size := Nat.ne_of_lt hat1.lt_size
 have hz : H.objs.size = s.heap.objs.size + 1 := by rw [← hH, Heap.size_push]
 have up : ∀ b o, s.heap.get? b = some o → H.get? b = some o := fun b o e => by rw [← hH]; exact Heap.get?_push_of_some _ e
 refine one_of (s := s) (tk₀ := s.toks) (Walks.dictValues (prog := prog) (w := w) (knd := intKind prog w) hh H.objs.size d hne kvs ep) hlen rfl ⟨(⟨_, ia2 (Heap.get?_push_size _ rfl) rfl rfl⟩), hat1.push _⟩ (fun b hb => ?_) (fun b o e => ⟨Heap.get?_push_of_some _ (up b o e), fun hb => ?_⟩) F N
  (fun i v C oC h tk m₂ Q' E' hi hP nC hv F' N' off ret => let ⟨k, e⟩ := hP; hE i k v C oC h tk m₂ Q' E' e nC hv F' N' off ret) fun D h tk rs F' N' off hB _ _ => hQ D h tk rs F' N' off hB
 ·show b < (H.push _).objs.size
  rw [Heap.size_push]
  rcases List.mem_cons.mp hb with rfl | hb
  ·exact Nat.lt_succ_self _
  ·rw [List.mem_singleton.mp hb]; exact Nat.lt_succ_of_lt hat1.lt_size
 ·have h1 : @LT.lt Nat _ b s.heap.objs.size := Heap.lt_size e
  have h2 : b = H.objs.size := List.mem_singleton.mp hb
  rw [h2, hz] at h1
  grind
end
end Mine
end
section
open PySem PySem.W PyProof.Rows PySem.Calls PySem.Spec
set_option Elab.async false
set_option maxRecDepth 100000
namespace Mine
theorem isSame_float {M : Model} {A : Around} {E : Value → Shared → Prop} {s : Shared} {y z : UInt64} {u v : Tok} {Q : Bool → Shared → Prop}
  (h0 : TokOk u) (h1 : TokOk v) (hb : NoneBooked s.heap) (hq : ∀ b, Q b s) : wpAny M A (isSame (.float y u) (.float z v)) Q E s := by
 show wpAny M A (isSame.created (y == z && !Float64.isNaN y) u v) Q E s
 have h : (u == 0 || v == 0) = false := by
  rw [beq_eq_false_iff_ne.mpr h0, beq_eq_false_iff_ne.mpr h1]; rfl
 unfold isSame.created
 refine wpAny_ite ?_
 split
 ·rename_i h'; rw [h] at h'; exact absurd h' Bool.false_ne_true
 refine wpAny_ite ?_
 split
 ·exact wpAny_pure (hq _)
 refine wpAny_ite ?_
 split
 ·exact wpAny_pure (hq _)
 refine wpAny_bind (wpAny_sharingNotTold_none hb ?_)
 first | rw [if_neg Bool.false_ne_true] | simp only [Bool.false_eq_true, if_false]
 refine wpAny_bind (wpAny_sharingNotTold_none hb ?_)
 first | rw [if_neg Bool.false_ne_true] | simp only [Bool.false_eq_true, if_false]
 exact wpAny_bind (wpAny_rule (wpAny_bind (wpAny_askSetting (wpAny_pure (hq _)))))
theorem eqAt_float {A : Around} {s : Shared} {a b : UInt64} {t u : Tok} (h0 : TokOk t) (h1 : TokOk u) (hb : NoneBooked s.heap) (he : eqF a b = true) : SeqAt.EqAt A s (.float a t) (.float b u) true := fun prog w E Q hq => by
 unfold eqBool
 refine wpAny_holding ?_
 refine wpAny_ite_split (fun hab => ?_) (fun _ => ?_)
 ·exact wpAny_bind (wpAny_rule (wpAny_pure hq))
 ·refine wpAny_bind (isSame_float h0 h1 hb fun bb => ?_)
  refine wpAny_ite_split (fun _ => wpAny_pure hq) (fun _ => ?_)
  refine wpAny_bind ?_
  have := @AutoFloatOps.eq_0
  refine AutoFloatOps.eq_0 ?_
  rw [show (Float64.cmp a b == some Ordering.eq) = true from he]
  exact wpAny_truthy_bool hq
inductive Floats8 : List Value → List UInt64 → Prop
 | nil : Floats8 [] []
 | cons {a : UInt64} {t : Tok} {vs : List Value} {as : List UInt64} : TokOk t → Floats8 vs as → Floats8 (.float a t :: vs) (a :: as)
theorem Floats8.get {vs : List Value} {as : List UInt64} (h : Floats8 vs as) : ∀ j (hj : j < vs.length), ∃ a t, vs[j] = .float a t ∧ as[j]? = some a ∧ TokOk t := by
 induction h with
 | nil => intro j hj; cases hj
 | cons h0 _ ih =>
  intro j hj
  cases j with
  | zero => exact (ix2 _ _ (ia2 rfl rfl h0))
  | succ j => exact ih j (by simpa using hj)
section
variable {prog : Program} {w : World} {A : Around} {E : Value → Shared → Prop} {s : Shared} {h₀ : Heap} {L : Addr} {m : Str → Option Value} {news : List (Addr × Obj)}
theorem ne_floats {a b : Addr} {vs us : List Value} {n k : Nat} {xs ys : List UInt64} {Q : Value → Shared → Prop} (N : News h₀ L s.heap news) (ha : (a, lstO vs n) ∈ news) (hb : (b, lstO us k) ∈ news) (fa : Floats8 vs xs) (fb : Floats8 us ys) (NB : NoneBooked s.heap) (hl : vs.length = us.length)
  (he : ∀ (j : Nat) (x y : UInt64), xs[j]? = some x → ys[j]? = some y → eqF x y = true) (hu : A.units < cLine) (h : Q (.bool false) s) : wpAny (model prog w) A (compareOp .NotEq (.ref a) (.ref b)) Q E s := by
 have := SeqAt.RcNeAt.lists (A := A) (e := fun _ => true) (s := s) (l := a) (b := b) (items := vs.toArray) (items2 := us.toArray) (⟨_, ia2 ((N _ ha).1) rfl ⟨n, rfl⟩⟩) (⟨_, ia2 ((N _ hb).1) rfl ⟨k, rfl⟩⟩) (by simpa using hl) hu (fun j h1 h2 => by
  rw [List.getElem_toArray, List.getElem_toArray]
  refine hdG ?_; intro Xh hXh
  refine ex2 (fa.get j (by simpa using h1)) ?_
  rintro x t hZ
  refine an2 hZ ?_
  clear hZ
  rintro e1 e2 z1
  refine ex2 (fb.get j (by simpa using h2)) ?_
  rintro y u hZ
  refine an2 hZ ?_
  clear hZ
  rintro e3 e4 z2
  refine hXh ?_; clear hXh
  rw [e1, e3]
  exact eqAt_float z1 z2 NB (he j x y e2 e4)) prog w E Q
 refine this ?_
 have e : (List.range vs.toArray.size).all (fun _ => true) = true := List.all_eq_true.mpr fun _ _ => rfl
 rw [e]
 exact h
end
end Mine
end
section
open PySem PySem.W PyProof.Rows PySem.Calls PySem.Spec
set_option Elab.async false
set_option maxRecDepth 100000
namespace Mine
section
variable {prog : Program} {w : World} {A : Around} {E : Value → Shared → Prop} {s : Shared} {h₀ : Heap} {L : Addr} {m : Str → Option Value} {news : List (Addr × Obj)}
theorem extend_lit {D b : Addr} {vs us : List Value} {n k : Nat} {g : Obj → List (Addr × Obj)} {Q : Value → Shared → Prop} (F : Fr h₀ L s.heap m) (N : News h₀ L s.heap news) (hb : (b, lstO us k) ∈ news) (U : UpdF D (lstO vs n) news g) (hne : us.length ≠ 0) (hz : vs.length + us.length ≤ 1000)
  (h : ∀ h', Fr h₀ L h' m → News h₀ L h' (g (lstO (vs ++ us) (n + 1))) → Q .none { s with heap := h' }) : wpAny (model prog w) A (call (.builtin "list.extend") [.ref D, .ref b]) Q E s := by
 refine hdG ?_; intro Xh hXh
 refine ex2 U.split ?_
 rintro pre post hZ
 refine an3 hZ ?_
 clear hZ
 rintro rfl hg a c
 refine hXh ?_; clear hXh
 have z := N (D, lstO vs n) (List.mem_append.mpr (.inr (.head _)))
 refine call_meets PySem.F.slot_list_extend ⟨_, z.1, rfl⟩ PySem.F.entry_list_extend (PySem.F.args_list_extend_2 _ _) (PySem.AutoSeq1.list_extend_list_list_0 D vs.toArray n b us.toArray k ?_ (by simp; rw [sizeLine_eq]; omega) (by simp; rw [sizeLine_eq]; omega)) (ia2 z.1 ((N _ hb).1) (h _ (F.change (Heap.SameBut.update ..) z.2.1 z.2.2) (hg _ ▸ kl_turn _ N a c ?_ ?_)))
 ·simp only [Builtin.List.listTooLong, List.size_toArray]
  intro q
  have := (Bool.and_eq_true_iff.mp q).2
  have := of_decide_eq_true this
  rw [sizeLine_eq] at this
  omega
 ·simp
 ·simpa using hne
end
end Mine
end
section
open PySem PySem.W PyProof.Rows PySem.Calls PySem.Spec
set_option Elab.async false
set_option maxRecDepth 100000
namespace Mine
section
variable {prog : Program} {w : World} {A : Around} {E : Value → Shared → Prop} {s : Shared} {env : Env} {h₀ : Heap} {m : Str → Option Value} {news : List (Addr × Obj)}
theorem one_filterI {c : PySem.Expr} {x : Str} {px : Pos} {scope : Scope} {cl : List (Str × Addr)} {l : Addr} {vs : List Value} {ns : List Int} {n : Nat} {Q : Value → Shared → Prop} (q : Int → Bool)
  (F : Fr h₀ env.locals s.heap m) (N : News h₀ env.locals s.heap news) (hm : (l, lstO vs n) ∈ news) (iv : IntsAre vs ns) (hh : A.handled = none) (hz : ns.length ≤ 1000)
  (hkind : scope.kind = .function) (hx : scope.names.lookup x = some .local) (hxd : (x == ("__debug__" : Str)) = false)
  (hE : ∀ k t C oC h tk m₂ (Q' : Bool → Shared → Prop) (E' : Value → Shared → Prop), LCg.NsObj oC m₂ → m₂ x = some (.int k t) → Fr h₀ env.locals h m → News h₀ env.locals h ((C, oC) :: news) → LCg.Off1 C news →
   (∀ h' tk', (∀ b o, h.get? b = some o → h'.get? b = some o) → Q' (q k) { s with heap := h', toks := tk' }) → wpAny (model prog w) A (isTrue c (compEnvC scope cl C env) (eval c (compEnvC scope cl C env))) Q' E' { s with heap := h, toks := tk })
  (hQ : ∀ D h tk ws n', Fr h₀ env.locals h m → News h₀ env.locals h ((D, lstO ws n') :: news) → (∀ p ∈ news, @Ne Nat p.1 D) → IntsAre ws (ns.filter q) → Q (.ref D) { s with heap := h, toks := tk }) :
  wpAny (model prog w) A (pyIter (.ref l)) (One prog w A [c] (.Name x px) x scope cl env (FinV Q)) E s := by
 have e1 : vs.toArray.size = ns.length := by rw [List.size_toArray, iv.length]
 refine one_list (fun i b r => ∃ k, ns[i]? = some k ∧ b = q k ∧ (b = true → IntV r k)) F N (⟨_, ia2 ((N _ hm).1) rfl ⟨n, rfl⟩⟩) hh (by rw [e1, sizeLine_eq]; grind) (fun i v C oC h tk m₂ Q' E' hi e nC hv F' N' off ret => ?_) fun D h tk rs F' N' off hB hD hk => ?_
 ·refine ex2 (ints_get iv e) ?_
  rintro k t hZ
  obtain ⟨ek, rfl⟩ := hZ
  refine Turn1.test (hE k t C oC h tk m₂ _ E' nC hv F' N' (off1_of off) fun h' tk' hk' => ?_)
  cases hq : q k with
  | false =>
   rw [if_neg Bool.false_ne_true]
   exact ret false .none h' tk' (⟨k, ia2 ek hq.symm (fun e => nomatch e)⟩) hk'
  | true =>
   rw [if_pos rfl]
   have hC := (N' _ (.head _)).1
   have hns : h'.Ns C m₂ := by
    exact (nC.ns hC).at' fun o e => hk' _ o e
   refine wpAny_Name (wpAny_loadName_local (by simp [compEnvC, relabel, hkind]) (lookup_relabel_local hx) hns hv ?_) hxd
   exact ret true _ h' tk' (⟨k, ia2 ek hq.symm (fun _ => ⟨t, rfl⟩)⟩) hk'
 ·have hB := built_filter hB
  rw [e1, List.take_length] at hB
  exact hQ D h tk rs rs.length F' N' off hB
theorem one_valuesI {elt : PySem.Expr} {x : Str} {scope : Scope} {cl : List (Str × Addr)} {t : Str} {tp apos cpos : Pos} {d : Addr} {od : Obj} {kvs : List (Int × Value)} {dd : List (Int × Int)} {Q : Value → Shared → Prop} (f : Int → Int)
  (F : Fr h₀ env.locals s.heap m) (N : News h₀ env.locals s.heap news) (hmt : m t = some (.ref d)) (hdm : (d, od) ∈ news) (hd : od.IsDictOf (intKind prog w) kvs) (hr : Rep IntV kvs dd) (lo : (d == sysModules) = false) (hlen : dd.length ≤ 1000)
  (hE : ∀ k u C oC h tk m₂ (Q' E' : Value → Shared → Prop), LCg.NsObj oC m₂ → m₂ x = some (.int k u) → Fr h₀ env.locals h m → News h₀ env.locals h ((C, oC) :: news) → LCg.Off1 C news →
   (∀ r h' tk', IntV r (f k) → (∀ b o, h.get? b = some o → h'.get? b = some o) → Q' r { s with heap := h', toks := tk' }) → wpAny (model prog w) A (eval elt (compEnvC scope cl C env)) Q' E' { s with heap := h, toks := tk })
  (hQ : ∀ D h tk ws n', Fr h₀ env.locals h m → News h₀ env.locals h ((D, lstO ws n') :: news) → (∀ p ∈ news, @Ne Nat p.1 D) → IntsAre ws ((dd.map (·.2)).map f) → Q (.ref D) { s with heap := h, toks := tk })
  (hh : A.handled = none) (ht : env.kindOf t = some .local) (hkf : env.scope.kind = .function) (htd : (t == ("__debug__" : Str)) = false)
  (hbase : attributeBase (.Name t tp) "values" env (eval (.Name t tp) env) = eval (.Name t tp) env) (hline : (apos.endLine == cpos.line) = true) :
  wpAny (model prog w) A (eval (.Call (.Attribute (.Name t tp) "values" apos) [] [] cpos) env) (fun xv s₁ => wpAny (model prog w) A (pyIter xv) (One prog w A [] elt x scope cl env (FinV Q)) E s₁) E s := by
 have e1 := hr.length
 refine one_values (kvs := kvs) (fun i b r => b = true ∧ ∃ k, (dd.map (·.2))[i]? = some k ∧ IntV r (f k)) F N hmt hdm hd lo (by rw [sizeLine_eq]; grind) (fun i k v C oC h tk m₂ Q' E' e nC hv F' N' off ret => ?_) (fun D h tk rs F' N' off hB => ?_) hh ht hkf htd hbase hline
 ·obtain ⟨y, ey, u, rfl⟩ := hr.get e
  exact Turn1.plain (hE y u C oC h tk m₂ _ E' nC hv F' N' (off1_of off) fun r h' tk' hr hk' => ret true r h' tk' ⟨rfl, y, by simp [ey], hr⟩ hk')
 ·have hB := built_map hB
  rw [e1, ← List.length_map (as := dd) (f := (·.2)), List.take_length] at hB
  exact hQ D h tk rs rs.length F' N' off hB
end
end Mine
end
section
open PySem PySem.W PyProof.Rows PySem.Calls PySem.Spec
set_option Elab.async false
set_option maxRecDepth 100000
namespace Mine
section
variable {prog : Program} {w : World} {A : Around} {E : Value → Shared → Prop} {s : Shared} {h₀ : Heap} {L : Addr} {m : Str → Option Value} {news : List (Addr × Obj)}
theorem ne_same {a b : Addr} {vs us : List Value} {n k : Nat} {Q : Value → Shared → Prop} (N : News h₀ L s.heap news) (ha : (a, lstO vs n) ∈ news) (hb : (b, lstO us k) ∈ news) (he : vs = us) (hu : A.units < cLine) (h : Q (.bool false) s) : wpAny (model prog w) A (compareOp .NotEq (.ref a) (.ref b)) Q E s := by
 subst he
 have := SeqAt.RcNeAt.lists (A := A) (e := fun _ => true) (s := s) (l := a) (b := b) (items := vs.toArray) (items2 := vs.toArray) (⟨_, ia2 ((N _ ha).1) rfl ⟨n, rfl⟩⟩) (⟨_, ia2 ((N _ hb).1) rfl ⟨k, rfl⟩⟩) rfl hu (fun j h1 h2 => SeqAt.EqAt.same _) prog w E Q
 refine this ?_
 have e : (List.range vs.toArray.size).all (fun _ => true) = true := List.all_eq_true.mpr fun _ _ => rfl
 rw [e]
 exact h
theorem eq_intsI {a b : Addr} {vs us : List Value} {ns ms : List Int} {n k : Nat} {Q : Value → Shared → Prop} (N : News h₀ L s.heap news) (ha : (a, lstO vs n) ∈ news) (hb : (b, lstO us k) ∈ news) (ia : IntsAre vs ns) (ib : IntsAre us ms) (hu : A.units + 64 < cLine) (h : Q (.bool (decide (ns = ms))) s) : wpAny (model prog w) A (compareOp .Eq (.ref a) (.ref b)) Q E s :=
 ke_eq_ints (⟨_, ia2 ((N _ ha).1) rfl ⟨n, rfl⟩⟩) (⟨_, ia2 ((N _ hb).1) rfl ⟨k, rfl⟩⟩) ia ib hu h
end
end Mine
namespace Mine
end Mine
end
section
open PySem PySem.W PyProof.Rows PySem.Calls PySem.Spec
set_option Elab.async false
set_option maxRecDepth 100000
namespace Mine
theorem stage9 {P : Prop} {g h : Heap} {L : Addr} {a1 a2 a3 a4 a5 a6 SL a7 a8 a9 T2 OT PG SH BK SE D c2 c1 p : Addr × Obj} {fz : List (Addr × Obj)} {TO GA : Addr} {x0 x1 x2 x3 x4 x5 x6 x7 : UInt64} {u0 u1 u2 u3 u4 u5 u6 u7 : Tok} {k j : Nat}
  (N : News g L h (a1 :: a2 :: a3 :: a4 :: a5 :: a6 :: (GA, lstO [.none, .none, .none] j) :: SL :: (TO, lstO [.float x0 u0, .float x1 u1, .float x2 u2, .float x3 u3, .float x4 u4, .float x5 u5, .float x6 u6, .float x7 u7] k) :: a7 :: a8 :: a9 :: T2 :: OT :: PG :: SH :: BK :: SE :: D :: c2 :: c1 :: p :: fz))
  (z0 : TokOk u0) (z1 : TokOk u1) (z2 : TokOk u2) (z3 : TokOk u3) (z4 : TokOk u4) (z5 : TokOk u5) (z6 : TokOk u6) (z7 : TokOk u7)
  (q : ∀ TO' GA', TO' = TO → GA' = GA → Floats8 [.float x0 u0, .float x1 u1, .float x2 u2, .float x3 u3, .float x4 u4, .float x5 u5, .float x6 u6, .float x7 u7] [x0, x1, x2, x3, x4, x5, x6, x7] →
   News g L h ((TO', lstO [.float x0 u0, .float x1 u1, .float x2 u2, .float x3 u3, .float x4 u4, .float x5 u5, .float x6 u6, .float x7 u7] k) :: (GA', lstO [.none, .none, .none] j) :: OT :: PG :: SH :: BK :: c2 :: c1 :: p :: fz) → P) : P :=
 q TO GA rfl rfl (.cons z0 (.cons z1 (.cons z2 (.cons z3 (.cons z4 (.cons z5 (.cons z6 (.cons z7 .nil)))))))) fun x hx => N x (by
 revert x; (try dsimp only [List.cons_append, List.nil_append]); repeat' with_reducible first | exact sbn | exact sbr | exact sbl | exact sbq | refine sbc ?_ ?_ | refine sba ?_ ?_ | exact mmh | assumption | refine mmt ?_ | refine mmr ?_ | refine sbt ?_ | refine sbp ?_)
end Mine
end
section
open PySem PySem.W PyProof.Rows PySem.Calls PySem.Spec
set_option Elab.async false
set_option maxRecDepth 100000
namespace Mine
section
variable {prog : Program} {w : World} {A : Around} {E : Value → Shared → Prop} {s : Shared} {env : Env} {h₀ : Heap} {m : Str → Option Value} {news : List (Addr × Obj)}
end
namespace E_comp_pairs
noncomputable def theP (zC : Bag) : Prop :=
 let prog := zC.prog 3; let w := zC.w 3; let A := zC.A 3; let E := zC.qv 3; let s := zC.s 3; let env := zC.env 3; let h₀ := zC.heap 3; let m := zC.fr 3; let news := zC.led 3; let elt := zC.expr 3; let t := zC.str 3; let x := zC.str 4; let y := zC.str 5; let px := zC.pos 3; let py := zC.pos 4; let tp := zC.pos 5; let ip := zC.pos 6; let tk := zC.nat 3; let scope := zC.scope 3; let cl := zC.cl 3; let pos := zC.pos 7; let l := zC.addr 3; let items := zC.arr 3; let Q := zC.qv 4; let R := zC.nv 3;
 ∀ (PP : Nat → Value → Value → Prop) (F : Fr h₀ env.locals s.heap m) (N : News h₀ env.locals s.heap news) (hmt : m t = some (.ref l)) (hl : s.heap.IsList l items) (hsz : items.size ≤ sizeLine) (hP : ∀ i v, items[i]? = some v → ∃ T v0 v1, v = .ref T ∧ IsTup s.heap T #[v0, v1] ∧ PP i v0 v1) (hE : ∀ i v0 v1 C oC h tk' m₂ (Q' E' : Value → Shared → Prop), i < items.size → PP i v0 v1 → LCg.NsObj oC m₂ → m₂ x = some v0 → m₂ y = some v1 → Fr h₀ env.locals h m → News h₀ env.locals h ((C, oC) :: news) → (∀ p ∈ news, @Ne Nat p.1 C) →
   (∀ r h' tk'', R i r → (∀ b o, h.get? b = some o → h'.get? b = some o) → Q' r { s with heap := h', toks := tk'' }) → wpAny (model prog w) A (eval elt (compEnvC scope cl C env)) Q' E' { s with heap := h, toks := tk' }) (hQ : ∀ D h tk rs, Fr h₀ env.locals h m → News h₀ env.locals h ((D, lstE rs) :: news) → (∀ p ∈ news, @Ne Nat p.1 D) → rs.length = items.size → (∀ j r, rs[j]? = some r → R j r) → Q (.ref D) { s with heap := h, toks := tk }) (hh : A.handled = none) (hclos : closureFor scope env = pure cl) (hcell : ∀ z ∈ scope.names, z.2 ≠ .cell) (hkind : scope.kind = .function) (hnames : ∀ z ∈ scope.names, z.2 = .local → scope.names.lookup z.1 = some .local) (hx : scope.names.lookup x = some .local) (hy : scope.names.lookup y = some .local) (hxy : x ≠ y) (ht : env.kindOf t = some .local) (hkf : env.scope.kind = .function) (htd : (t == ("__debug__" : Str)) = false) (hs : ∀ z, foldedSetIterable (.Name t ip) env z = pure z), wpAny (model prog w) A (eval (.ListComp elt [⟨.Tuple [.Name x px, .Name y py] tk tp, .Name t ip, [], 0⟩] scope pos) env) Q E s
@[irreducible] def tB : Bag := bagOf theP
@[irreducible] def prog := tB.prog 3
@[irreducible] def w := tB.w 3
@[irreducible] def A := tB.A 3
@[irreducible] def E := tB.qv 3
@[irreducible] def s := tB.s 3
@[irreducible] def env := tB.env 3
@[irreducible] def h₀ := tB.heap 3
@[irreducible] def m := tB.fr 3
@[irreducible] def news := tB.led 3
@[irreducible] def elt := tB.expr 3
@[irreducible] def t := tB.str 3
@[irreducible] def x := tB.str 4
@[irreducible] def y := tB.str 5
@[irreducible] def px := tB.pos 3
@[irreducible] def py := tB.pos 4
@[irreducible] def tp := tB.pos 5
@[irreducible] def ip := tB.pos 6
@[irreducible] def tk := tB.nat 3
@[irreducible] def scope := tB.scope 3
@[irreducible] def cl := tB.cl 3
@[irreducible] def pos := tB.pos 7
@[irreducible] def l := tB.addr 3
@[irreducible] def items := tB.arr 3
@[irreducible] def Q := tB.qv 4
@[irreducible] def R := tB.nv 3
theorem core (PP : Nat → Value → Value → Prop) (F : Fr h₀ env.locals s.heap m) (N : News h₀ env.locals s.heap news) (hmt : m t = some (.ref l)) (hl : s.heap.IsList l items) (hsz : items.size ≤ sizeLine) (hP : ∀ i v, items[i]? = some v → ∃ T v0 v1, v = .ref T ∧ IsTup s.heap T #[v0, v1] ∧ PP i v0 v1) (hE : ∀ i v0 v1 C oC h tk' m₂ (Q' E' : Value → Shared → Prop), i < items.size → PP i v0 v1 → LCg.NsObj oC m₂ → m₂ x = some v0 → m₂ y = some v1 → Fr h₀ env.locals h m → News h₀ env.locals h ((C, oC) :: news) → (∀ p ∈ news, @Ne Nat p.1 C) →
   (∀ r h' tk'', R i r → (∀ b o, h.get? b = some o → h'.get? b = some o) → Q' r { s with heap := h', toks := tk'' }) → wpAny (model prog w) A (eval elt (compEnvC scope cl C env)) Q' E' { s with heap := h, toks := tk' }) (hQ : ∀ D h tk rs, Fr h₀ env.locals h m → News h₀ env.locals h ((D, lstE rs) :: news) → (∀ p ∈ news, @Ne Nat p.1 D) → rs.length = items.size → (∀ j r, rs[j]? = some r → R j r) → Q (.ref D) { s with heap := h, toks := tk }) (hh : A.handled = none) (hclos : closureFor scope env = pure cl) (hcell : ∀ z ∈ scope.names, z.2 ≠ .cell) (hkind : scope.kind = .function) (hnames : ∀ z ∈ scope.names, z.2 = .local → scope.names.lookup z.1 = some .local) (hx : scope.names.lookup x = some .local) (hy : scope.names.lookup y = some .local) (hxy : x ≠ y) (ht : env.kindOf t = some .local) (hkf : env.scope.kind = .function) (htd : (t == ("__debug__" : Str)) = false) (hs : ∀ z, foldedSetIterable (.Name t ip) env z = pure z) : wpAny (model prog w) A (eval (.ListComp elt [⟨.Tuple [.Name x px, .Name y py] tk tp, .Name t ip, [], 0⟩] scope pos) env) Q E s := by
 rw [eval_ListComp]
 refine wpAny_comprehension_free (use := none) rfl hs hclos hkind hnames (wpAny_Name (wpAny_loadName_local hkf ht F.ns hmt ?_) htd)
 have hlt : l < s.heap.objs.size := by obtain ⟨_, e, _⟩ := hl; exact Heap.lt_size e
 refine wpAny_pyIter_list hl ?_
 have W := Walks.list (prog := prog) (w := w) hh s.heap.objs.size l (Nat.ne_of_lt hlt) items
 have hH : ∀ b o, s.heap.get? b = some o → (s.heap.push { cls := .type "list_iterator", data := .fields #[.ref l, .int 0 0] }).get? b = some o := fun b o e => Heap.get?_push_of_some _ e
 have hst : (s.heap.push { cls := .type "list_iterator", data := .fields #[.ref l, .int 0 0] }).IsListIter s.heap.objs.size l 0 ∧ (s.heap.push { cls := .type "list_iterator", data := .fields #[.ref l, .int 0 0] }).IsList l items := ⟨(⟨_, ia2 (Heap.get?_push_size _ rfl) rfl rfl⟩), hl.push _⟩
 have hz1 : (s.heap.push { cls := .type "list_iterator", data := .fields #[.ref l, .int 0 0] }).objs.size = s.heap.objs.size + 1 := Heap.size_push ..
 have fresh : ∀ a, s.heap.objs.size ≤ a → s.heap.get? a = none := fun a ha => by
  cases e : s.heap.get? a with
  | none => rfl
  | some o' => exact absurd (Heap.lt_size e) (Nat.not_lt.mpr ha)
 generalize hII : s.heap.objs.size = I at W hst hz1 fresh hlt ⊢
 generalize hH1 : s.heap.push { cls := .type "list_iterator", data := .fields #[.ref l, .int 0 0] } = H1 at hH hst hz1 ⊢
 refine wpAny_newObj_type (wpAny_newFunctionEnv hcell (by intro y hy; simp at hy) (fun h₁ hns₁ hsb₁ => ?_) hkind)
 dsimp only at hns₁ hsb₁ ⊢
 have hD : (H1.push { cls := .type "list", dict := none, data := .seq ([] : List Value).toArray }).objs.size = H1.objs.size + 1 := Heap.size_push ..
 generalize hH2 : H1.push { cls := .type "list", dict := none, data := .seq ([] : List Value).toArray } = H2 at hns₁ hsb₁ hD ⊢
 generalize hC : H2.objs.size = C at hns₁ hsb₁ hD ⊢
 generalize hDD : H1.objs.size = D at hD hz1
 have old1 : ∀ b o, H1.get? b = some o → h₁.get? b = some o := fun b o e => by
  have hb : @LT.lt Nat _ b D := hDD ▸ Heap.lt_size e
  exact hsb₁.extBut b o (Nat.ne_of_lt (by grind : @LT.lt Nat _ b C)) (Heap.get?_push_of_some _ (hH2 ▸ Heap.get?_push_of_some _ e))
 have old : ∀ b o, s.heap.get? b = some o → h₁.get? b = some o := fun b o e => old1 b o (hH b o e)
 have hDC : @Ne Nat D C := by grind
 have hID : @Ne Nat I D := by grind
 have hIC : @Ne Nat I C := by grind
 have hlI : @Ne Nat l I := Nat.ne_of_lt hlt
 have hlD : @Ne Nat l D := by have : @LT.lt Nat _ l I := hlt; grind
 have hlC : @Ne Nat l C := by have : @LT.lt Nat _ l I := hlt; grind
 have hacc : h₁.get? D = some (lstE []) := hsb₁.extBut _ _ hDC (Heap.get?_push_of_some _ (hH2 ▸ hDD ▸ Heap.get?_push_size _ rfl))
 have hHD : s.heap.get? D = none := fresh _ (by grind)
 have hHC : s.heap.get? C = none := fresh _ (by grind)
 have hHI : s.heap.get? I = none := fresh _ (Nat.le_refl _)
 refine hdG ?_; intro Xh hXh
 refine an2 (fresh_of F N hHC) ?_
 rintro fC1 fC2 fC3
 refine an2 (fresh_of F N hHD) ?_
 rintro fD1 fD2 fD3
 refine hXh ?_; clear hXh
 have notI : ∀ b o, s.heap.get? b = some o → b ≠ I := fun b o e q => by rw [q, hHI] at e; cases e
 have notC : ∀ b o, s.heap.get? b = some o → b ≠ C := fun b o e q => by rw [q, hHC] at e; cases e
 have notD : ∀ b o, s.heap.get? b = some o → b ≠ D := fun b o e q => by rw [q, hHD] at e; cases e
 have loop : ∀ s₃ : Shared, s₃ = { s with heap := h₁, toks := s.toks + ([] : List (Str × Value)).length } →
   codeAny (model prog w) A (.compLoop (.ListComp elt [⟨.Tuple [.Name x px, .Name y py] tk tp, .Name t ip, [], 0⟩] scope pos) 0 (.ref I) (.ref D) (compEnvC scope cl C env)) (compPost (model prog w) A E none Q (.ref D) C) s₃ := by
  rintro s₃ rfl
  refine LCp.codeAny_compLoop_pair
   (fun k s' => ∃ h' tk i ys m', s' = { s with heap := h', toks := tk } ∧ i ≤ items.size ∧ k = items.size + 1 - i ∧ ys.length = i ∧ (h'.IsListIter I l i ∧ h'.IsList l items) ∧ h'.Ns C m' ∧ h'.get? D = some (lstE ys) ∧ (∀ b o, s.heap.get? b = some o → h'.get? b = some o) ∧ (∀ j r, ys[j]? = some r → R j r)) ?_ (items.size + 1)
   (ix5 h₁ _ 0 [] _ (ia8 rfl (Nat.zero_le _) rfl rfl (W.frame _ _ _ hst fun b _ o e => old1 b o e) hns₁ hacc old (fun j r e => by simp at e)))
  rintro k s' hJz
  refine hdG ?_; intro Xh hXh
  refine ex5 hJz ?_
  try clear hJz
  rintro h' tk' i ys m' hZ
  refine an8 hZ ?_
  clear hZ
  rintro rfl hi rfl hyl hst' hn' hD' hk' hR
  refine hXh ?_; clear hXh
  by_cases hlt' : i < items.size
  ·refine W.item i _ _ _ hlt' hst' fun v h₂ tk₂ hPv hst₂ hk₂ => ?_
   refine hdG ?_; intro Xh hXh
   refine ex3 (hP i v hPv) ?_
   rintro T v0 v1 hZ
   refine an2 hZ ?_
   clear hZ
   rintro rfl hT hPP
   refine hXh ?_; clear hXh
   have k2 : ∀ b o, b ≠ I → h'.get? b = some o → h₂.get? b = some o := fun b o hb e => hk₂ b o (by simpa using hb) e
   have H2' : ∀ b o, s.heap.get? b = some o → h₂.get? b = some o := fun b o e => k2 b o (notI b o e) (hk' b o e)
   have hT2 : IsTup h₂ T #[v0, v1] := by
    refine hdG ?_; intro Xh hXh
    obtain ⟨oT, eT, r⟩ := hT
    refine hXh ?_; clear hXh
    exact ⟨oT, H2' _ _ eT, r⟩
   refine wpAny_letOwnedTupleGo_listiter hst₂.1 ?_
   refine assign_Tuple_tuple hh hT2 rfl rfl fun h₅ he => ?_
   have he' : ∀ b o, h₂.get? b = some o → h₅.get? b = some o := fun b o e => he b o (Nat.ne_of_lt (Heap.lt_size e)) e
   refine assignInOrder_cons (wpAny_assign_Name (wpAny_storeName_local (lookup_relabel_local hx) ((hn'.at' fun o e => k2 C o (Ne.symm hIC) e).at' fun o e => he' _ o e) (fun h₆ hn₆ hs₆ => ?_) (by simp [compEnvC, relabel, hkind])))
   refine assignInOrder_cons (wpAny_assign_Name (wpAny_storeName_local (lookup_relabel_local hy) hn₆ (fun h₇ hn₇ hs₇ => ?_) (by simp [compEnvC, relabel, hkind])))
   refine assignInOrder_nil ?_
   have k7 : ∀ b o, b ≠ C → h₂.get? b = some o → h₇.get? b = some o := fun b o hb e => hs₇.extBut b o hb (hs₆.extBut b o hb (he' b o e))
   have H7 : ∀ b o, s.heap.get? b = some o → h₇.get? b = some o := fun b o e => k7 b o (notC b o e) (H2' b o e)
   have hst₇ := W.frame _ _ h₇ hst₂ fun b hb o e => k7 b o (fun z => by
    rcases List.mem_cons.mp hb with q | hb
    ·exact hIC (q ▸ z)
    ·exact hlC ((List.mem_singleton.mp hb) ▸ z)) e
   have hD7 : h₇.get? D = some (lstE ys) := k7 D _ hDC (k2 D _ (Ne.symm hID) hD')
   refine hdG ?_; intro Xh hXh
   obtain ⟨oC, eC, nC⟩ := LCg.ns_obj hn₇
   refine hXh ?_; clear hXh
   refine hE i v0 v1 C oC h₇ _ _ _ _ hlt' hPP nC (by simp [hxy]) (by simp) (F.keeps H7) (fun p hp => ?_) fC3 fun r h₈ tk₈ hr hk₈ => ?_
   ·rcases List.mem_cons.mp hp with rfl | hp
    ·exact (ia2 eC fC1 fC2)
    ·exact ⟨H7 _ _ (N p hp).1, (N p hp).2⟩
   ·have hD8 : h₈.get? D = some (lstE ys) := hk₈ _ _ hD7
    refine append_at (hsz := by show ys.toArray.size ≤ sizeLine; rw [List.size_toArray, hyl]; exact Nat.le_trans hi hsz) hD8 fun h₉ hs₉ hD₉ => ?_
    have hs₉ : Heap.SameBut D h₈ h₉ := hs₉
    refine (⟨items.size + 1 - (i + 1), ⟨by grind, ix5 h₉ tk₈ (i + 1) (ys ++ [r]) _ (ia8 rfl hlt' rfl (by rw [List.length_append, List.length_singleton, hyl]) (W.frame _ _ h₉ (W.frame _ _ h₈ hst₇ fun b _ o e => hk₈ b o e) (fun b hb o e => hs₉.extBut b o (fun z => by
     rcases List.mem_cons.mp hb with q | hb
     ·exact hID (q ▸ z)
     ·exact hlD ((List.mem_singleton.mp hb) ▸ z)) e)) (hn₇.at' fun o e => hs₉.extBut _ o (Ne.symm hDC) (hk₈ _ o e)) (hD₉.trans (congrArg some (lstE_snoc ys r))) (fun b o e => hs₉.extBut b o (notD b o e) (hk₈ b o (H7 b o e))) (fun j r' e => ?_))⟩⟩)
    by_cases hj : j < ys.length
    ·rw [List.getElem?_append_left hj] at e; exact hR j r' e
    ·rw [List.getElem?_append_right (by grind)] at e
     have : j - ys.length = 0 := by
      have := (List.getElem?_eq_some_iff.mp e).1
      simp at this; grind
     rw [this] at e
     cases e
     have : j = i := by grind
     subst this
     exact hr
  ·obtain rfl : i = items.size := Nat.le_antisymm hi (Nat.not_lt.mp hlt')
   refine W.done _ _ _ hst' fun h₂ tk₂ hk₂ => ?_
   have k2 : ∀ b o, b ≠ I → h'.get? b = some o → h₂.get? b = some o := fun b o hb e => hk₂ b o (by simpa using hb) e
   refine ⟨m', hn'.at' fun o e => k2 C o (Ne.symm hIC) e, fun h'' hs'' => ?_⟩
   have hs'' : Heap.SameBut C h₂ h'' := hs''
   have K : ∀ b o, s.heap.get? b = some o → h''.get? b = some o := fun b o e => hs''.extBut b o (notC b o e) (k2 b o (notI b o e) (hk' b o e))
   refine hQ D h'' _ ys (F.keeps K) (fun p hp => ?_) fD3 hyl hR
   rcases List.mem_cons.mp hp with rfl | hp
   ·exact (ia2 (hs''.extBut _ _ hDC (k2 D _ (Ne.symm hID) hD')) fD1 fD2)
   ·exact ⟨K _ _ (N p hp).1, (N p hp).2⟩
 exact codeAny_compStart_list (loop _ rfl) (W.self 0 _ _ _ (W.frame _ _ _ hst fun b _ o e => old1 b o e) (loop _ rfl))
end E_comp_pairs
section
variable {prog : Program} {w : World} {A : Around} {E : Value → Shared → Prop} {s : Shared} {env : Env} {h₀ : Heap} {m : Str → Option Value} {news : List (Addr × Obj)}
theorem comp_pairs {elt : PySem.Expr} {t x y : Str} {px py tp ip : Pos} {tk} {scope : Scope} {cl : List (Str × Addr)} {pos : Pos} {l : Addr} {items : Array Value} {Q : Value → Shared → Prop} (R : Nat → Value → Prop) (PP : Nat → Value → Value → Prop) (F : Fr h₀ env.locals s.heap m) (N : News h₀ env.locals s.heap news) (hmt : m t = some (.ref l)) (hl : s.heap.IsList l items) (hsz : items.size ≤ sizeLine) (hP : ∀ i v, items[i]? = some v → ∃ T v0 v1, v = .ref T ∧ IsTup s.heap T #[v0, v1] ∧ PP i v0 v1) (hE : ∀ i v0 v1 C oC h tk' m₂ (Q' E' : Value → Shared → Prop), i < items.size → PP i v0 v1 → LCg.NsObj oC m₂ → m₂ x = some v0 → m₂ y = some v1 → Fr h₀ env.locals h m → News h₀ env.locals h ((C, oC) :: news) → (∀ p ∈ news, @Ne Nat p.1 C) →
   (∀ r h' tk'', R i r → (∀ b o, h.get? b = some o → h'.get? b = some o) → Q' r { s with heap := h', toks := tk'' }) → wpAny (model prog w) A (eval elt (compEnvC scope cl C env)) Q' E' { s with heap := h, toks := tk' }) (hQ : ∀ D h tk rs, Fr h₀ env.locals h m → News h₀ env.locals h ((D, lstE rs) :: news) → (∀ p ∈ news, @Ne Nat p.1 D) → rs.length = items.size → (∀ j r, rs[j]? = some r → R j r) → Q (.ref D) { s with heap := h, toks := tk }) (hh : A.handled = none) (hclos : closureFor scope env = pure cl) (hcell : ∀ z ∈ scope.names, z.2 ≠ .cell) (hkind : scope.kind = .function) (hnames : ∀ z ∈ scope.names, z.2 = .local → scope.names.lookup z.1 = some .local) (hx : scope.names.lookup x = some .local) (hy : scope.names.lookup y = some .local) (hxy : x ≠ y) (ht : env.kindOf t = some .local) (hkf : env.scope.kind = .function) (htd : (t == ("__debug__" : Str)) = false) (hs : ∀ z, foldedSetIterable (.Name t ip) env z = pure z) : wpAny (model prog w) A (eval (.ListComp elt [⟨.Tuple [.Name x px, .Name y py] tk tp, .Name t ip, [], 0⟩] scope pos) env) Q E s := bag_all (P := E_comp_pairs.theP) (by with_unfolding_all exact @E_comp_pairs.core) { bag0 with A := nth [A, A, A, A] bag0.A, addr := nth [l, l, l, l] bag0.addr, arr := nth [items, items, items, items] bag0.arr, cl := nth [cl, cl, cl, cl] bag0.cl, env := nth [env, env, env, env] bag0.env, expr := nth [elt, elt, elt, elt] bag0.expr, fr := nth [m, m, m, m] bag0.fr, heap := nth [h₀, h₀, h₀, h₀] bag0.heap, led := nth [news, news, news, news] bag0.led, nat := nth [tk, tk, tk, tk] bag0.nat, nv := nth [R, R, R, R] bag0.nv, pos := nth [px, px, px, px, py, tp, ip, pos] bag0.pos, prog := nth [prog, prog, prog, prog] bag0.prog, qv := nth [E, E, E, E, Q] bag0.qv, s := nth [s, s, s, s] bag0.s, scope := nth [scope, scope, scope, scope] bag0.scope, str := nth [t, t, t, t, x, y] bag0.str, w := nth [w, w, w, w] bag0.w } PP F N hmt hl hsz hP hE hQ hh hclos hcell hkind hnames hx hy hxy ht hkf htd hs
end
end Mine
end
section
theorem Mine.clearT1 : True := by
 k_with_none
 trivial
open PySem PySem.W PyProof.Rows PySem.Calls PySem.Spec
set_option Elab.async false
set_option maxRecDepth 100000
namespace Mine
theorem rowsT1a : True := by
 k_with_none
 (k_with "mine lt" => with_reducible first | assumption | exact cj0 ‹_› | exact cj1 ‹_› | exact cj2 ‹_› | exact cj3 ‹_› | exact cj4 ‹_› | exact cj5 ‹_› | exact cj6 ‹_› | exact cj7 ‹_› | exact cj8 ‹_› | exact cj9 ‹_› | exact cj10 ‹_› | exact cj11 ‹_› | exact cj12 ‹_› | exact cj13 ‹_› | exact cj14 ‹_› | exact cj15 ‹_› | exact dk1 ‹_› | exact dk2 ‹_› | exact dk3 ‹_› | exact dk4 ‹_› | exact dk5 ‹_› | exact dk6 ‹_› | exact dk7 ‹_› | exact dk8 ‹_› | exact dk9 ‹_› | exact dk10 ‹_› | exact dk11 ‹_› | exact dk12 ‹_› | exact dk13 ‹_› | exact dk14 ‹_› | exact dk15 ‹_›)
 (k_with "mine k_ne" => (refine neN ?_; (try dsimp only); first | with_reducible assumption | exact Ne.symm (by with_reducible assumption) | exact Nat.ne_of_lt (by k_extra "mine lt") | exact Nat.ne_of_gt (by k_extra "mine lt") | omega))
 (k_with "mine cell_enter" => (refine' code_defR (by exact rfl) (by exact rfl) (by assumption) (by k_asm) (by k_asm) (by k_asm) (by k_asm) (by k_asm) (by k_is) (by k_is) (by ktr_room) (by exact BindsTo.of_eq rfl) (by exact locs rfl) ?_ (by exact rfl) (by exact rfl) (by exact rfl) (by decide); k_whole; intro g'xq L'xq h'xq tkEq FG'xq F'xq N'xq B'xq X'xq T'xq GS'xq; (try dsimp only); (try k_lift B'xq); (try k_fold)))
 trivial
set_option maxHeartbeats 4000000 in
theorem divF (w : World) (mg mb) (n k : Int) (t u : Tok) (hk0 : k ≠ 0) (hi : Float64.isInf (fracF n k) = false) : FunA 2 w mg mb 281 [.int n t, .int k u] [] (fun r tl => tl = [] ∧ ∃ t, TokOk t ∧ r = .float (fracF n k) t) := by
 have hi' : ¬ Float64.isInf (Float64.ofFrac (decide (n < 0) != decide (k < 0)) n.natAbs k.natAbs) = true := by
  show ¬ Float64.isInf (fracF n k) = true
  rw [hi]; exact Bool.false_ne_true
 w_on
 unfold FunA
 k_fill
 intros
 rename_i hret
 refine wpAny_call ?_
 k_dflt cell_enter
 k_steps
 all_goals first
  | exact hret _ [] _ _ (fun0 (by assumption) (by assumption)) nil0 ⟨rfl, _, Nat.succ_ne_zero _, rfl⟩
  | (exfalso; omega)
end Mine
end
section
set_option Elab.async false
set_option maxRecDepth 100000
namespace Mine
inductive Tr | nil | node (l : Tr) (k v : Nat) (r : Tr)
noncomputable def Tr.ins (k v : Nat) : Tr → Tr
 | .nil => .node .nil k v .nil
 | .node l k' v' r => bif Nat.blt k k' then .node (l.ins k v) k' v' r else bif Nat.blt k' k then .node l k' v' (r.ins k v) else .node l k' v' r
noncomputable def Tr.get (k : Nat) : Tr → Nat
 | .nil => 729
 | .node l k' v' r => bif Nat.blt k k' then l.get k else bif Nat.blt k' k then r.get k else v'
noncomputable def wt : Nat → Nat
 | 0 => 30
 | 1 => 59
 | _ => 11
noncomputable def cub (a b : Nat) : Nat := (b - a) * (b - a) * (b - a)
noncomputable def fpP (b c d e f g : Nat) : Nat := cub 0 b + cub 0 c + cub 0 d + cub 0 e + cub 0 f + cub 0 g + cub b c + cub b d + cub b e + cub b f + cub b g + cub c d + cub c e + cub c f + cub c g + cub d e + cub d f + cub d g + cub e f + cub e g + cub f g
noncomputable def fpS (b c d e f g : Nat) : Nat := 1 * (cub b c + cub b d + cub b e + cub b f + cub b g) + 2 * (cub c d + cub c e + cub c f + cub c g) + 3 * (cub d e + cub d f + cub d g) + 4 * (cub e f + cub e g) + 5 * cub f g
noncomputable def code (r0 r1 r2 r3 r4 r5 : Nat) : Nat := ((((r0 * 3 + r1) * 3 + r2) * 3 + r3) * 3 + r4) * 3 + r5
noncomputable def onP {α : Type} (k : Nat → Nat → Nat → Nat → Nat → Nat → α) (r0 r1 r2 r3 r4 r5 : Nat) : α :=
 let b := wt r0; let c := b + wt r1; let d := c + wt r2; let e := d + wt r3; let f := e + wt r4; k b c d e f (f + wt r5)
noncomputable def fp1 (r0 r1 r2 r3 r4 r5 : Nat) : Nat := onP fpP r0 r1 r2 r3 r4 r5
noncomputable def fp2 (r0 r1 r2 r3 r4 r5 : Nat) : Nat := onP (fun b c d e f g => fpP b c d e f g * 100000000000 + fpS b c d e f g) r0 r1 r2 r3 r4 r5
noncomputable def allR (p : Nat → Nat → Nat → Nat → Nat → Nat → Bool) : Bool :=
 [0, 1, 2].all fun a => [0, 1, 2].all fun b => [0, 1, 2].all fun c => [0, 1, 2].all fun d => [0, 1, 2].all fun e => [0, 1, 2].all fun f => p a b c d e f
noncomputable def foldR {α : Type} (z : α) (p : α → Nat → Nat → Nat → Nat → Nat → Nat → α) : α :=
 [0, 1, 2].foldl (fun z a => [0, 1, 2].foldl (fun z b => [0, 1, 2].foldl (fun z c => [0, 1, 2].foldl (fun z d => [0, 1, 2].foldl (fun z e => [0, 1, 2].foldl (fun z f => p z a b c d e f) z) z) z) z) z) z
noncomputable def tree1 : Tr := foldR .nil fun t a b c d e f => t.ins (fp1 a b c d e f) (code a b c d e f)
noncomputable def tree2 : Tr := foldR .nil fun t a b c d e f => t.ins (fp2 a b c d e f) (code a b c d e f)
theorem chk1R : allR (fun a b c d e f => let v := tree1.get (fp1 a b c d e f); v == code a b c d e f || v == code f e d c b a) = true := by decide +kernel
theorem chk2R : allR (fun a b c d e f => tree2.get (fp2 a b c d e f) == code a b c d e f) = true := by decide +kernel
theorem digit {x y a b : Nat} (ha : a < 3) (hb : b < 3) (h : x * 3 + a = y * 3 + b) : x = y ∧ b = a := by grind
theorem code_inj {a b c d e k a' b' c' d' e' k' : Nat} (hb : b < 3) (hc : c < 3) (hd : d < 3) (he : e < 3) (hk : k < 3) (hb' : b' < 3) (hc' : c' < 3) (hd' : d' < 3) (he' : e' < 3) (hk' : k' < 3) (h : code a b c d e k = code a' b' c' d' e' k') : a' = a ∧ b' = b ∧ c' = c ∧ d' = d ∧ e' = e ∧ k' = k :=
 let ⟨h1, e1⟩ := digit hk hk' h
 let ⟨h2, e2⟩ := digit he he' h1
 let ⟨h3, e3⟩ := digit hd hd' h2
 let ⟨h4, e4⟩ := digit hc hc' h3
 let ⟨h5, e5⟩ := digit hb hb' h4
 ⟨h5.symm, e5, e4, e3, e2, e1⟩
end Mine
end
section
open PySem PySem.W
set_option Elab.async false
set_option maxRecDepth 100000
namespace Mine
noncomputable def gv (d : List (Int × Int)) (x : Int) : Int := (dLook d x).getD 0
theorem gv_bump (z : Int) (d : List (Int × Int)) (k x : Int) : gv (dBump z d k) x = gv d x + if k = x then z else 0 := by
 unfold gv dBump
 rw [dLook_put]
 by_cases h : k = x
 ·subst h; simp
 ·simp [h]
theorem bump_nodup {z : Int} {d : List (Int × Int)} (h : Nk d) (k : Int) : Nk (dBump z d k) := dPut_nodup h _ _
theorem bumps_nodup {z : Int} (l : List Int) : ∀ {d : List (Int × Int)}, Nk d → Nk (l.foldl (dBump z) d) := by
 induction l with
 | nil => intro d h; exact h
 | cons k l ih => intro d h; exact ih (bump_nodup h k)
theorem gv_bumps (z : Int) (l : List Int) : ∀ (d : List (Int × Int)) (x : Int), gv (l.foldl (dBump z) d) x = gv d x + z * (l.count x : Int) := by
 induction l with
 | nil => intro d x; simp
 | cons k l ih =>
  intro d x
  rw [List.foldl_cons, ih, gv_bump, List.count_cons]
  by_cases h : k = x
  ·simp [h, Int.mul_add]; grind
  ·simp [h]
theorem cntD_nodup (q : List Int) : Nk (cntD q) := bumps_nodup q List.nodup_nil
theorem gv_cntD (q : List Int) (x : Int) : gv (cntD q) x = (q.count x : Int) := by
 unfold cntD; rw [gv_bumps]; simp [gv, dLook_nil]
noncomputable def inter : List Int → List Int → Nat
 | [], _ => 0
 | x :: p, q => if x ∈ q then inter p (q.erase x) + 1 else inter p q
theorem count_erase' (q : List Int) (x y : Int) : (q.erase x).count y = q.count y - if x = y then 1 else 0 := by
 by_cases h : x = y
 ·subst h; rw [if_pos rfl, List.count_erase_self]
 ·rw [if_neg h, List.count_erase_of_ne (Ne.symm h)]; rfl
theorem quick_aux (full : List (Int × Int)) (p : List Int) : ∀ (z : List (Int × Int) × Int) (q : List Int), (∀ x, q.count x = (qNumb full z.1 x).toNat) → (p.foldl (qStep full) z).2 = z.2 + inter p q := by
 induction p with
 | nil => intro z q _; simp [inter]
 | cons x p ih =>
  intro z q h
  rw [List.foldl_cons]
  have hx := h x
  have key : ∀ y, qNumb full (qStep full z x).1 y = if x = y then qNumb full z.1 x - 1 else qNumb full z.1 y := by
   intro y
   show (dLook (dPut z.1 x _) y).getD _ = _
   rw [dLook_put]
   by_cases e : x = y
   ·simp [e]
   ·simp [e]; rfl
  by_cases c : 0 < qNumb full z.1 x
  ·have hm : x ∈ q := List.count_pos_iff.mp (by grind)
   rw [ih (qStep full z x) (q.erase x) fun y => ?_]
   ·show (if 0 < qNumb full z.1 x then z.2 + 1 else z.2) + _ = _
    rw [if_pos c, inter, if_pos hm]; push_cast; grind
   ·rw [key, count_erase', h y]
    by_cases e : x = y
    ·subst e; rw [if_pos rfl, if_pos rfl]; grind
    ·rw [if_neg e, if_neg e]; grind
  ·have hm : x ∉ q := fun m => by have := List.count_pos_iff.mpr m; grind
   rw [ih (qStep full z x) q fun y => ?_]
   ·show (if 0 < qNumb full z.1 x then z.2 + 1 else z.2) + _ = _
    rw [if_neg c, inter, if_neg hm]
   ·rw [key, h y]
    by_cases e : x = y
    ·subst e; rw [if_pos rfl]; grind
    ·rw [if_neg e]
theorem quickM_inter (p q : List Int) : quickM p q = inter p q := by
 unfold quickM
 rw [quick_aux (cntD q) p ([], 0) q fun x => ?_]
 ·simp
 ·show _ = (gv (cntD q) x).toNat
  rw [gv_cntD]; grind
theorem inter_le (p : List Int) : ∀ q, inter p q ≤ p.length := by
 induction p with
 | nil => intro q; exact Nat.le_refl _
 | cons x p ih =>
  intro q
  rw [inter, List.length_cons]
  split
  ·have := ih (q.erase x); grind
  ·have := ih q; grind
theorem inter_perm (p : List Int) : ∀ {q}, inter p q = p.length → q.length ≤ p.length → p.Perm q := by
 induction p with
 | nil => intro q _ h; rw [List.eq_nil_of_length_eq_zero (Nat.le_zero.mp h)]
 | cons x p ih =>
  intro q h hl
  rw [inter, List.length_cons] at h
  split at h
  ·rename_i hx
   have e := List.perm_cons_erase hx
   have := e.length_eq
   simp only [List.length_cons] at this hl
   exact (List.Perm.cons x (ih (by grind) (by grind))).trans e.symm
  ·have := inter_le p q; grind
theorem perm_inter (p : List Int) : ∀ {q : List Int}, p.Perm q → inter p q = p.length := by
 induction p with
 | nil => intro q _; rfl
 | cons x p ih =>
  intro q h
  have hx : x ∈ q := h.subset (.head _)
  rw [inter, if_pos hx, List.length_cons, ih (List.cons_perm_iff_perm_erase.mp h).2]
theorem inter_nil (p : List Int) : inter p [] = 0 := by
 induction p with
 | nil => rfl
 | cons x p ih => rw [inter, if_neg List.not_mem_nil, ih]
theorem inter_skip {y : Int} : ∀ (p : List Int) (q : List Int), y ∉ p → inter p (y :: q) = inter p q := by
 intro p
 induction p with
 | nil => intro q _; rfl
 | cons x p ih =>
  intro q h
  have h1 : x ≠ y := fun e => h (e ▸ .head _)
  have h2 : y ∉ p := fun e => h (.tail _ e)
  have e1 : (y :: q).erase x = y :: q.erase x := List.erase_cons_tail (by simpa using Ne.symm h1)
  rw [inter, inter, e1, ih _ h2, ih _ h2]
  by_cases c : x ∈ q
  ·rw [if_pos c, if_pos (List.mem_cons_of_mem _ c)]
  ·rw [if_neg c, if_neg (fun e => (List.mem_cons.mp e).elim h1 c)]
theorem inter_take {y : Int} : ∀ (p : List Int) (q : List Int), y ∈ p → inter p (y :: q) = inter (p.erase y) q + 1 := by
 intro p
 induction p with
 | nil => intro q h; exact nomatch h
 | cons x p ih =>
  intro q h
  by_cases e : x = y
  ·subst e
   rw [inter, if_pos (.head _), List.erase_cons_head, List.erase_cons_head]
  ·have hm : y ∈ p := by
    rcases List.mem_cons.mp h with q1 | q1
    ·exact absurd q1.symm e
    ·exact q1
   have e1 : (y :: q).erase x = y :: q.erase x := List.erase_cons_tail (by simpa using Ne.symm e)
   have e2 : (x :: p).erase y = x :: p.erase y := List.erase_cons_tail (by simpa using e)
   rw [inter, e1, e2, inter, ih _ hm, ih _ hm]
   by_cases c : x ∈ q
   ·rw [if_pos c, if_pos (List.mem_cons_of_mem _ c)]
   ·rw [if_neg c, if_neg (fun e' => (List.mem_cons.mp e').elim e c)]
theorem inter_comm (p : List Int) : ∀ q, inter p q = inter q p := by
 induction p with
 | nil => intro q; rw [inter_nil]; rfl
 | cons x p ih =>
  intro q
  rw [inter]
  by_cases c : x ∈ q
  ·rw [if_pos c, inter_take q p c, ih]
  ·rw [if_neg c, inter_skip q p c, ih]
theorem inter_filter (p : List Int) : ∀ q : List Int, p.Nodup → inter p q = (p.filter fun x => decide (x ∈ q)).length := by
 induction p with
 | nil => intro q _; rfl
 | cons x p ih =>
  intro q h
  obtain ⟨h1, h2⟩ := List.nodup_cons.mp h
  rw [inter, List.filter_cons]
  by_cases c : x ∈ q
  ·rw [if_pos c, if_pos (decide_eq_true c), List.length_cons, ih _ h2]
   congr 2
   refine List.filter_congr fun y hy => ?_
   have : y ≠ x := fun e => h1 (e ▸ hy)
   simp [List.mem_erase_of_ne this]
  ·rw [if_neg c, if_neg (by simpa using c), ih _ h2]
theorem lack_aux (q : List Int) : ∀ (d : List (Int × Int)) (p : List Int), Nk d → (∀ x, p.count x = (gv d x).toNat) → dSum (fun _ v => (v.natAbs : Int)) (q.foldl (dBump (-1)) d) + 2 * inter q p = dSum (fun _ v => (v.natAbs : Int)) d + q.length := by
 induction q with
 | nil => intro d p _ _; simp [inter]
 | cons x q ih =>
  intro d p hn h
  rw [List.foldl_cons, inter, List.length_cons]
  have hs : dSum (fun _ v => (v.natAbs : Int)) (dBump (-1) d x) = dSum (fun _ v => (v.natAbs : Int)) d - ((gv d x).natAbs : Int) + ((gv d x - 1).natAbs : Int) := by
   unfold dBump
   rw [dSum_put _ hn]
   unfold gv
   cases dLook d x <;> simp [oldV] <;> rfl
  have hx := h x
  by_cases c : 0 < gv d x
  ·have hm : x ∈ p := List.count_pos_iff.mp (by grind)
   have h1 := ih (dBump (-1) d x) (p.erase x) (bump_nodup hn x) fun y => by
    rw [gv_bump, count_erase', h y]
    by_cases e : x = y
    ·subst e; rw [if_pos rfl, if_pos rfl]; grind
    ·rw [if_neg e, if_neg e]; grind
   rw [if_pos hm]
   rw [hs] at h1
   push_cast
   grind
  ·have hm : x ∉ p := fun m => by have := List.count_pos_iff.mpr m; grind
   have h1 := ih (dBump (-1) d x) p (bump_nodup hn x) fun y => by
    rw [gv_bump, h y]
    by_cases e : x = y
    ·subst e; rw [if_pos rfl]; grind
    ·rw [if_neg e]; grind
   rw [if_neg hm]
   rw [hs] at h1
   push_cast
   grind
theorem bump_abs (l : List Int) : ∀ (d : List (Int × Int)), Nk d → (∀ x, 0 ≤ gv d x) → dSum (fun _ v => (v.natAbs : Int)) (l.foldl (dBump 1) d) = dSum (fun _ v => (v.natAbs : Int)) d + l.length := by
 induction l with
 | nil => intro d _ _; simp
 | cons x l ih =>
  intro d hn h
  rw [List.foldl_cons, ih _ (bump_nodup hn x) fun y => by rw [gv_bump]; have := h y; split <;> grind, List.length_cons]
  have hs : dSum (fun _ v => (v.natAbs : Int)) (dBump 1 d x) = dSum (fun _ v => (v.natAbs : Int)) d - ((gv d x).natAbs : Int) + ((gv d x + 1).natAbs : Int) := by
   unfold dBump
   rw [dSum_put _ hn]
   unfold gv
   cases dLook d x <;> simp [oldV]
  have := h x
  rw [hs]; push_cast; grind
theorem lacking_eq (p q : List Int) : dSum (fun _ v => (v.natAbs : Int)) (lessD p q) + 2 * inter q p = p.length + q.length := by
 unfold lessD
 have h := lack_aux q (cntD p) p (cntD_nodup p) fun x => by rw [gv_cntD]; grind
 have h2 := bump_abs p [] List.nodup_nil fun x => by simp [gv, dLook_nil]
 have h3 : dSum (fun _ v => (v.natAbs : Int)) ([] : List (Int × Int)) = 0 := rfl
 have h : dSum (fun _ v => (v.natAbs : Int)) (q.foldl (dBump (-1)) (p.foldl (dBump 1) [])) + _ = dSum (fun _ v => (v.natAbs : Int)) (p.foldl (dBump 1) []) + _ := h
 rw [h2, h3] at h
 grind
theorem bump_sum (z : Int) (l : List Int) : ∀ (d : List (Int × Int)), Nk d → ((l.foldl (dBump z) d).map (·.2)).sum = (d.map (·.2)).sum + z * l.length := by
 have e : ∀ d : List (Int × Int), (d.map (·.2)).sum = dSum (fun _ v => v) d := fun d => rfl
 induction l with
 | nil => intro d _; simp
 | cons x l ih =>
  intro d hn
  rw [List.foldl_cons, ih _ (bump_nodup hn x), List.length_cons, e, e]
  have hs : dSum (fun _ v => v) (dBump z d x) = dSum (fun _ v => v) d - gv d x + (gv d x + z) := by
   unfold dBump
   rw [dSum_put _ hn]
   unfold gv
   cases dLook d x <;> simp [oldV]
  rw [hs]; push_cast; rw [Int.mul_add]; grind
theorem meet_bump {D : List (Int × Int)} (h : Nk D) (z k v : Int) : dMeet (fun a b => b + a) D (k, v + z) = dBump z (dMeet (fun a b => b + a) D (k, v)) k := by
 unfold dMeet dBump
 rw [dPut_put _ h, dLook_put, if_pos rfl]
 cases dLook D k with
 | none => rfl
 | some x => show dPut D k (x + (v + z)) = dPut D k (x + v + z); rw [Int.add_assoc]
theorem meet_comm {D : List (Int × Int)} (h : Nk D) {z k j v : Int} (hk : k ∈ D.map (·.1)) (hn : k ≠ j) : dMeet (fun a b => b + a) (dBump z D k) (j, v) = dBump z (dMeet (fun a b => b + a) D (j, v)) k := by
 unfold dMeet dBump
 simp only
 rw [dLook_put, if_neg hn, dLook_put, if_neg (Ne.symm hn), dPut_comm _ h _ _ hk hn]
theorem meet_nodup {D : List (Int × Int)} (h : Nk D) (p : Int × Int) : Nk (dMeet (fun a b => b + a) D p) := dPut_nodup h _ _
theorem meet_has {D : List (Int × Int)} {k : Int} (h : k ∈ D.map (·.1)) (p : Int × Int) : k ∈ (dMeet (fun a b => b + a) D p).map (·.1) := by
 unfold dMeet
 rw [dPut_keys]
 split
 ·exact h
 ·exact List.mem_append_left _ h
theorem meets_comm (e : List (Int × Int)) {z k : Int} (hk' : k ∉ e.map (·.1)) : ∀ {D : List (Int × Int)}, Nk D → k ∈ D.map (·.1) → e.foldl (dMeet (fun a b => b + a)) (dBump z D k) = dBump z (e.foldl (dMeet (fun a b => b + a)) D) k := by
 induction e with
 | nil => intro D _ _; rfl
 | cons p e ih =>
  intro D h hk
  obtain ⟨j, v⟩ := p
  rw [List.map_cons, List.mem_cons, not_or] at hk'
  rw [List.foldl_cons, List.foldl_cons, meet_comm h hk hk'.1, ih hk'.2 (meet_nodup h _) (meet_has hk _)]
theorem merge_bump (e : List (Int × Int)) (z k : Int) : ∀ {D : List (Int × Int)}, Nk D → Nk e → dMerge (fun a b => b + a) D (dBump z e k) = dBump z (dMerge (fun a b => b + a) D e) k := by
 induction e with
 | nil =>
  intro D h _
  have e0 : dBump z ([] : List (Int × Int)) k = [(k, z)] := by
   show [(k, 0 + z)] = _
   rw [Int.zero_add]
  rw [e0]
  show dMeet (fun a b => b + a) D (k, z) = dBump z D k
  unfold dMeet dBump
  simp only
  cases dLook D k with
  | none => simp
  | some x => rfl
 | cons p e ih =>
  intro D h he
  obtain ⟨j, v⟩ := p
  obtain ⟨h1, h2⟩ := he.cons
  by_cases c : j = k
  ·subst c
   have e1 : dBump z ((j, v) :: e) j = (j, v + z) :: e := by
    unfold dBump; rw [dPut_cons_eq h1, dLook_cons, if_pos rfl]; rfl
   rw [e1]
   show e.foldl _ (dMeet _ D (j, v + z)) = dBump z (e.foldl _ (dMeet _ D (j, v))) j
   rw [meet_bump h, meets_comm e h1 (meet_nodup h _)]
   unfold dMeet
   rw [dPut_keys]
   split
   ·rename_i q; exact dAny_iff.mp q
   ·exact List.mem_append_right _ (.head _)
  ·have e1 : dBump z ((j, v) :: e) k = (j, v) :: dBump z e k := by
    unfold dBump; rw [dPut_cons_ne c, dLook_cons, if_neg c]
   rw [e1]
   show dMerge _ (dMeet _ D (j, v)) (dBump z e k) = dBump z (dMerge _ (dMeet _ D (j, v)) e) k
   exact ih (meet_nodup h _) h2
theorem merge_bumps (z : Int) (l : List Int) : ∀ {D e : List (Int × Int)}, Nk D → Nk e → dMerge (fun a b => b + a) D (l.foldl (dBump z) e) = l.foldl (dBump z) (dMerge (fun a b => b + a) D e) := by
 induction l with
 | nil => intro D e _ _; rfl
 | cons k l ih =>
  intro D e hD he
  rw [List.foldl_cons, ih hD (bump_nodup he k), merge_bump e z k hD he, List.foldl_cons]
theorem apart_less (p q : List Int) : dMerge (fun a b => b + a) (cntD p) (q.foldl (dBump (-1)) []) = lessD p q := by
 rw [merge_bumps (-1) q (cntD_nodup p) (e := []) List.nodup_nil]
 rfl
theorem bump_neg (l : List Int) : ∀ d : List (Int × Int), (l.foldl (dBump 1) d).map (fun p => (p.1, -p.2)) = l.foldl (dBump (-1)) (d.map fun p => (p.1, -p.2)) := by
 induction l with
 | nil => intro d; rfl
 | cons k l ih =>
  intro d
  rw [List.foldl_cons, List.foldl_cons, ih]
  congr 1
  unfold dBump
  rw [dPut_map (fun v : Int => -v), dLook_map (fun v : Int => -v)]
  congr 1
  cases dLook d k <;> simp <;> grind
end Mine
end
section
open PySem PySem.W
set_option Elab.async false
set_option maxRecDepth 100000
namespace Mine
noncomputable def wk (k : Int) : Nat := wt k.toNat
noncomputable def pf (row : List Int) : Nat → Nat
 | 0 => 0
 | e + 1 => pf row e + wk (row.getD e 0)
theorem pf_le (row : List Int) {s e : Nat} (h : s ≤ e) : pf row s ≤ pf row e := by
 induction e with
 | zero => rw [Nat.le_zero.mp h]; exact Nat.le_refl _
 | succ e ih =>
  rcases Nat.lt_or_ge e s with c | c
  ·rw [show s = e + 1 by grind]; exact Nat.le_refl _
  ·exact Nat.le_trans (ih c) (Nat.le_add_right _ _)
theorem shade_self (row : List Int) (s : Nat) : shade row s s = 0 := by
 unfold shade; rw [df_self, df_self, df_self]; rfl
theorem shade_pf {row : List Int} (hr : RowOk row) {s e : Nat} (h : s ≤ e) (h6 : e ≤ 6) : shade row s e = (pf row e : Int) - pf row s := by
 induction e with
 | zero => rw [Nat.le_zero.mp h, shade_self]; simp
 | succ e ih =>
  rcases Nat.lt_or_ge e s with c | c
  ·rw [show s = e + 1 by grind, shade_self]; grind
  ·have i1 := ih c (by grind)
   have e1 : shade row s (e + 1) = shade row s e + wk (row.getD e 0) := by
    unfold shade
    rw [df_succ _ _ c, df_succ _ _ c, df_succ _ _ c]
    rcases ind_three (hr.2 e (by grind)) with ⟨k, a, b, d⟩ | ⟨k, a, b, d⟩ | ⟨k, a, b, d⟩ <;> rw [a, b, d, k] <;> simp [wk, wt] <;> grind
   rw [e1, i1]
   show _ = ((pf row e + wk (row.getD e 0) : Nat) : Int) - _
   push_cast
   grind
noncomputable def ST : List (Nat × Nat) := (List.range 6).flatMap fun s => (List.range (6 - s)).map fun i => (s, s + 1 + i)
theorem ST_ok : ∀ p ∈ ST, p.1 < p.2 ∧ p.2 ≤ 6 := by decide
theorem shades_ST (row : List Int) : shadesF row 6 = ST.map fun p => shade row p.1 p.2 := rfl
theorem due_ST (row : List Int) : dueF row 6 = ST.foldl (fun d p => dueStep row p.1 d p.2) [] := by
 unfold dueF ST dueIn
 rw [List.foldl_flatMap]
 simp only [List.foldl_map]
noncomputable def cube (x : Int) : Int := x * x * x
theorem cube_shade {row : List Int} (hr : RowOk row) {p : Nat × Nat} (hp : p ∈ ST) : cube (shade row p.1 p.2) = (cub (pf row p.1) (pf row p.2) : Nat) := by
 obtain ⟨h1, h2⟩ := ST_ok p hp
 have h3 := pf_le row (Nat.le_of_lt h1)
 rw [shade_pf hr (Nat.le_of_lt h1) h2]
 unfold cube cub
 rw [show (pf row p.2 : Int) - pf row p.1 = ((pf row p.2 - pf row p.1 : Nat) : Int) by grind]
 push_cast
 rfl
theorem sum_map_eq {α : Type} {f g : α → Int} : ∀ {l : List α}, (∀ x ∈ l, f x = g x) → (l.map f).sum = (l.map g).sum
 | [], _ => rfl
 | x :: l, h => by rw [List.map_cons, List.map_cons, List.sum_cons, List.sum_cons, h x (.head _), sum_map_eq fun y hy => h y (.tail _ hy)]
theorem bag_fp {row : List Int} (hr : RowOk row) : ((shadesF row 6).map cube).sum = (fpP (pf row 1) (pf row 2) (pf row 3) (pf row 4) (pf row 5) (pf row 6) : Nat) := by
 rw [shades_ST, List.map_map]
 show (List.map (fun p => cube (shade row p.1 p.2)) ST).sum = _
 rw [sum_map_eq (g := fun p => ((cub (pf row p.1) (pf row p.2) : Nat) : Int)) fun p hp => cube_shade hr hp]
 have e : ST = [(0, 1), (0, 2), (0, 3), (0, 4), (0, 5), (0, 6), (1, 2), (1, 3), (1, 4), (1, 5), (1, 6), (2, 3), (2, 4), (2, 5), (2, 6), (3, 4), (3, 5), (3, 6), (4, 5), (4, 6), (5, 6)] := by decide
 rw [e]
 unfold fpP
 simp only [List.map_cons, List.map_nil, List.sum_cons, List.sum_nil]
 rw [show pf row 0 = 0 from rfl]
 push_cast
 grind
theorem six {row : List Int} (h : RowOk row) : ∃ a b c d e f : Nat, a < 3 ∧ b < 3 ∧ c < 3 ∧ d < 3 ∧ e < 3 ∧ f < 3 ∧ row = [(a : Int), (b : Int), (c : Int), (d : Int), (e : Int), (f : Int)] := by
 obtain ⟨hl, hb⟩ := h
 match row, hl with
 | [r0, r1, r2, r3, r4, r5], _ =>
  have b0 : 0 ≤ r0 ∧ r0 < 3 := hb 0 (by grind)
  have b1 : 0 ≤ r1 ∧ r1 < 3 := hb 1 (by grind)
  have b2 : 0 ≤ r2 ∧ r2 < 3 := hb 2 (by grind)
  have b3 : 0 ≤ r3 ∧ r3 < 3 := hb 3 (by grind)
  have b4 : 0 ≤ r4 ∧ r4 < 3 := hb 4 (by grind)
  have b5 : 0 ≤ r5 ∧ r5 < 3 := hb 5 (by grind)
  refine (ix6 r0.toNat r1.toNat r2.toNat r3.toNat r4.toNat r5.toNat (ia6 (by grind) (by grind) (by grind) (by grind) (by grind) (by grind) ?_))
  rw [Int.toNat_of_nonneg b0.1, Int.toNat_of_nonneg b1.1, Int.toNat_of_nonneg b2.1, Int.toNat_of_nonneg b3.1, Int.toNat_of_nonneg b4.1, Int.toNat_of_nonneg b5.1]
theorem bag_fp1 {a b c d e f : Nat} (h : RowOk [(a : Int), (b : Int), (c : Int), (d : Int), (e : Int), (f : Int)]) : ((shadesF [(a : Int), (b : Int), (c : Int), (d : Int), (e : Int), (f : Int)] 6).map cube).sum = (fp1 a b c d e f : Nat) := by
 rw [bag_fp h]
 congr 1
 simp [fp1, onP, pf, wk]
theorem all3 {p : Nat → Bool} (h : [0, 1, 2].all p = true) {a : Nat} (ha : a < 3) : p a = true := by
 simp only [List.all_cons, List.all_nil, Bool.and_true, Bool.and_eq_true] at h
 rcases (show a = 0 ∨ a = 1 ∨ a = 2 by grind) with rfl | rfl | rfl
 ·exact h.1
 ·exact h.2.1
 ·exact h.2.2
theorem allR_at {p : Nat → Nat → Nat → Nat → Nat → Nat → Bool} (h : allR p = true) {a b c d e f : Nat} (ha : a < 3) (hb : b < 3) (hc : c < 3) (hd : d < 3) (he : e < 3) (hf : f < 3) : p a b c d e f = true :=
 all3 (all3 (all3 (all3 (all3 (all3 h ha) hb) hc) hd) he) hf
theorem sum_perm {l l' : List Int} (h : l.Perm l') : l.sum = l'.sum := by
 induction h with
 | nil => rfl
 | cons x _ ih => rw [List.sum_cons, List.sum_cons, ih]
 | swap x y l => simp only [List.sum_cons]; grind
 | trans _ _ i1 i2 => rw [i1, i2]
theorem bag_tells {f g : List Int} (hf : RowOk f) (hg : RowOk g) (h : (shadesF f 6).Perm (shadesF g 6)) : g = f ∨ g = f.reverse := by
 refine ex6 (six hf) ?_
 rintro a b c d e k hZ
 refine an6 hZ ?_
 clear hZ
 rintro ha hb hc hd he hk rfl
 refine ex6 (six hg) ?_
 rintro a' b' c' d' e' k' hZ
 refine an6 hZ ?_
 clear hZ
 rintro ha' hb' hc' hd' he' hk' rfl
 have h1 := sum_perm (h.map cube)
 rw [bag_fp1 hf, bag_fp1 hg] at h1
 have h1 : fp1 a b c d e k = fp1 a' b' c' d' e' k' := by exact_mod_cast h1
 have v1 := allR_at chk1R ha hb hc hd he hk
 have v2 := allR_at chk1R ha' hb' hc' hd' he' hk'
 simp only [h1, Bool.or_eq_true, beq_iff_eq] at v1 v2
 have key : (a' = a ∧ b' = b ∧ c' = c ∧ d' = d ∧ e' = e ∧ k' = k) ∨ (a' = k ∧ b' = e ∧ c' = d ∧ d' = c ∧ e' = b ∧ k' = a) := by
  rcases v1 with v1 | v1 <;> rcases v2 with v2 | v2 <;> rw [v1] at v2
  ·exact .inl (code_inj hb hc hd he hk hb' hc' hd' he' hk' v2)
  ·refine an5 (code_inj hb hc hd he hk he' hd' hc' hb' ha' v2) ?_
   rintro r1 r2 r3 r4 r5 r6
   exact .inr (ia5 r6 r5 r4 r3 r2 r1)
  ·refine an5 (code_inj he hd hc hb ha hb' hc' hd' he' hk' v2) ?_
   rintro r1 r2 r3 r4 r5 r6
   exact .inr (ia5 r1 r2 r3 r4 r5 r6)
  ·refine an5 (code_inj he hd hc hb ha he' hd' hc' hb' ha' v2) ?_
   rintro r1 r2 r3 r4 r5 r6
   exact .inl (ia5 r6 r5 r4 r3 r2 r1)
 rcases key with ⟨rfl, rfl, rfl, rfl, rfl, rfl⟩ | ⟨rfl, rfl, rfl, rfl, rfl, rfl⟩
 ·exact .inl rfl
 ·exact .inr rfl
end Mine
end
section
open PySem PySem.W
set_option Elab.async false
set_option maxRecDepth 100000
namespace Mine
theorem due_count_aux (row : List Int) (L : List (Nat × Nat)) : ∀ d : List (Int × List Int), (L.foldl (fun d p => dueStep row p.1 d p.2) d).map (fun p => (p.1, p.2.getD 0 0)) = (L.map fun p => shade row p.1 p.2).foldl (dBump 1) (d.map fun p => (p.1, p.2.getD 0 0)) := by
 induction L with
 | nil => intro d; rfl
 | cons x L ih =>
  intro d
  rw [List.foldl_cons, ih, List.map_cons, List.foldl_cons]
  congr 1
  unfold dueStep dBump
  rw [dPut_map (fun v : List Int => v.getD 0 0), dLook_map (fun v : List Int => v.getD 0 0)]
  congr 1
  cases dLook d (shade row x.1 x.2) <;> rfl
theorem due_count (row : List Int) : (dueF row 6).map (fun p => (p.1, p.2.getD 0 0)) = cntD (shadesF row 6) := by
 rw [due_ST, due_count_aux, shades_ST]
 rfl
theorem due_minus (row : List Int) : (dueF row 6).map (fun p => (p.1, -(p.2.getD 0 0))) = (shadesF row 6).foldl (dBump (-1)) [] := by
 have h := bump_neg (shadesF row 6) []
 have e : (dueF row 6).map (fun p => (p.1, -(p.2.getD 0 0))) = ((dueF row 6).map (fun p => (p.1, p.2.getD 0 0))).map fun p => (p.1, -p.2) := by rw [List.map_map]; rfl
 rw [e, due_count]
 exact h
theorem due_apart (f g : List Int) : dMerge (fun a b => b + a) ((dueF f 6).map fun p => (p.1, p.2.getD 0 0)) ((dueF g 6).map fun p => (p.1, -(p.2.getD 0 0))) = lessD (shadesF f 6) (shadesF g 6) := by
 rw [due_count, due_minus, apart_less]
theorem sum_plain {p : List Int} (h : p.length = 21) : ((cntD p).map (·.2)).sum = 21 := by
 unfold cntD; rw [bump_sum 1 p [] List.nodup_nil, h]; rfl
theorem sum_minus {p : List Int} (h : p.length = 21) : ((p.foldl (dBump (-1)) []).map (·.2)).sum = -21 := by
 rw [bump_sum (-1) p [] List.nodup_nil, h]; rfl
theorem sum_apart {p q : List Int} (hp : p.length = 21) (hq : q.length = 21) : ((lessD p q).map (·.2)).sum = 0 := by
 unfold lessD
 rw [bump_sum (-1) q _ (bumps_nodup (d := []) p List.nodup_nil), bump_sum 1 p [] List.nodup_nil, hp, hq]; rfl
theorem lacking_inter {p q : List Int} (hp : p.length = 21) (hq : q.length = 21) : dSum (fun _ v => (v.natAbs : Int)) (lessD p q) = 42 - 2 * (inter p q : Int) := by
 have h := lacking_eq p q
 rw [inter_comm q p, hp, hq] at h
 grind
noncomputable def fp3 (r0 r1 r2 r3 r4 r5 : Nat) : Nat := onP (fun b c d e f g => cub 0 b + cub 0 c + cub 0 d + cub 0 e + cub 0 f + cub 0 g) r0 r1 r2 r3 r4 r5
noncomputable def tree3 : Tr := foldR .nil fun t a b c d e f => t.ins (fp3 a b c d e f) (code a b c d e f)
theorem chk3R : allR (fun a b c d e f => tree3.get (fp3 a b c d e f) == code a b c d e f) = true := by decide +kernel
theorem take_ST (row : List Int) : (shadesF row 6).take 6 = [shade row 0 1, shade row 0 2, shade row 0 3, shade row 0 4, shade row 0 5, shade row 0 6] := rfl
theorem take_nodup {row : List Int} (hr : RowOk row) : ((shadesF row 6).take 6).Nodup := by
 rw [take_ST]
 have h1 := shade_lt hr (s := 0) (e := 1) (f := 2) (by grind) (by grind) (by grind)
 have h2 := shade_lt hr (s := 0) (e := 2) (f := 3) (by grind) (by grind) (by grind)
 have h3 := shade_lt hr (s := 0) (e := 3) (f := 4) (by grind) (by grind) (by grind)
 have h4 := shade_lt hr (s := 0) (e := 4) (f := 5) (by grind) (by grind) (by grind)
 have h5 := shade_lt hr (s := 0) (e := 5) (f := 6) (by grind) (by grind) (by grind)
 simp only [List.nodup_cons, List.mem_cons, List.not_mem_nil, or_false, not_or, List.nodup_nil, and_true, not_false_eq_true]
 omega
theorem take_fp {a b c d e f : Nat} (h : RowOk [(a : Int), (b : Int), (c : Int), (d : Int), (e : Int), (f : Int)]) : (((shadesF [(a : Int), (b : Int), (c : Int), (d : Int), (e : Int), (f : Int)] 6).take 6).map cube).sum = (fp3 a b c d e f : Nat) := by
 rw [take_ST]
 have k : ∀ q, 0 < q → q ≤ 6 → cube (shade [(a : Int), (b : Int), (c : Int), (d : Int), (e : Int), (f : Int)] 0 q) = (cub 0 (pf [(a : Int), (b : Int), (c : Int), (d : Int), (e : Int), (f : Int)] q) : Nat) := fun q h1 h2 => by
  have := cube_shade h (p := (0, q)) (by
   rcases (show q = 1 ∨ q = 2 ∨ q = 3 ∨ q = 4 ∨ q = 5 ∨ q = 6 by grind) with rfl | rfl | rfl | rfl | rfl | rfl <;> decide)
  exact this
 simp only [List.map_cons, List.map_nil, List.sum_cons, List.sum_nil]
 rw [k 1 (by grind) (by grind), k 2 (by grind) (by grind), k 3 (by grind) (by grind), k 4 (by grind) (by grind), k 5 (by grind) (by grind), k 6 (by grind) (by grind)]
 have e1 : fp3 a b c d e f = cub 0 (pf [(a : Int), (b : Int), (c : Int), (d : Int), (e : Int), (f : Int)] 1) + cub 0 (pf [(a : Int), (b : Int), (c : Int), (d : Int), (e : Int), (f : Int)] 2) + cub 0 (pf [(a : Int), (b : Int), (c : Int), (d : Int), (e : Int), (f : Int)] 3) + cub 0 (pf [(a : Int), (b : Int), (c : Int), (d : Int), (e : Int), (f : Int)] 4) + cub 0 (pf [(a : Int), (b : Int), (c : Int), (d : Int), (e : Int), (f : Int)] 5) + cub 0 (pf [(a : Int), (b : Int), (c : Int), (d : Int), (e : Int), (f : Int)] 6) := by
  simp [fp3, onP, pf, wk]
 rw [e1]
 push_cast
 grind
theorem take_tells {f g : List Int} (hf : RowOk f) (hg : RowOk g) (h : ((shadesF f 6).take 6).Perm ((shadesF g 6).take 6)) : g = f := by
 refine ex6 (six hf) ?_
 rintro a b c d e k hZ
 refine an6 hZ ?_
 clear hZ
 rintro ha hb hc hd he hk rfl
 refine ex6 (six hg) ?_
 rintro a' b' c' d' e' k' hZ
 refine an6 hZ ?_
 clear hZ
 rintro ha' hb' hc' hd' he' hk' rfl
 have h1 := sum_perm (h.map cube)
 rw [take_fp hf, take_fp hg] at h1
 have h1 : fp3 a b c d e k = fp3 a' b' c' d' e' k' := by exact_mod_cast h1
 have v1 := allR_at chk3R ha hb hc hd he hk
 have v2 := allR_at chk3R ha' hb' hc' hd' he' hk'
 simp only [h1, beq_iff_eq] at v1 v2
 rw [v1] at v2
 have : a' = a ∧ b' = b ∧ c' = c ∧ d' = d ∧ e' = e ∧ k' = k := code_inj hb hc hd he hk hb' hc' hd' he' hk' v2
 refine an5 this ?_
 try clear this
 rintro rfl rfl rfl rfl rfl rfl
 rfl
end Mine
end
section
open PySem PySem.W
set_option Elab.async false
set_option maxRecDepth 100000
namespace Mine
theorem due_nodup_aux (row : List Int) (L : List (Nat × Nat)) : ∀ d : List (Int × List Int), Nk d → Nk (L.foldl (fun d p => dueStep row p.1 d p.2) d) := by
 induction L with
 | nil => intro d h; exact h
 | cons x L ih => intro d h; exact ih _ (dPut_nodup h _ _)
theorem due_nodup (row : List Int) : Nk (dueF row 6) := by
 rw [due_ST]; exact due_nodup_aux row ST [] List.nodup_nil
theorem due_sum (row : List Int) (i : Nat) (wv : Nat × Nat → Int) (hw : ∀ (q : List Int) (p : Nat × Nat), (dueV q p.1 p.2).getD i 0 = q.getD i 0 + wv p) (hz : zero4.getD i 0 = 0) (L : List (Nat × Nat)) : ∀ d : List (Int × List Int), Nk d →
  dSum (fun k v => cube k * v.getD i 0) (L.foldl (fun d p => dueStep row p.1 d p.2) d) = dSum (fun k v => cube k * v.getD i 0) d + (L.map fun p => cube (shade row p.1 p.2) * wv p).sum := by
 induction L with
 | nil => intro d _; simp
 | cons x L ih =>
  intro d h
  rw [List.foldl_cons, ih (dueStep row x.1 d x.2) (dPut_nodup h _ _), List.map_cons, List.sum_cons]
  have e : dSum (fun k v => cube k * v.getD i 0) (dueStep row x.1 d x.2) = dSum (fun k v => cube k * v.getD i 0) d + cube (shade row x.1 x.2) * wv x := by
   unfold dueStep
   rw [dSum_put _ h, hw _ x, Int.mul_add]
   cases dLook d (shade row x.1 x.2) with
   | none => simp only [oldV, Option.getD_none, hz]; grind
   | some u => simp only [oldV, Option.getD_some]; grind
  rw [e]
  grind
theorem due_sum0 (row : List Int) : dSum (fun k v => cube k * v.getD 0 0) (dueF row 6) = (ST.map fun p => cube (shade row p.1 p.2) * 1).sum := by
 rw [due_ST, due_sum row 0 (fun _ => 1) (fun q p => rfl) rfl ST [] List.nodup_nil]; simp [dSum]
theorem due_sum1 (row : List Int) : dSum (fun k v => cube k * v.getD 1 0) (dueF row 6) = (ST.map fun p => cube (shade row p.1 p.2) * (p.1 : Int)).sum := by
 rw [due_ST, due_sum row 1 (fun p => (p.1 : Int)) (fun q p => rfl) rfl ST [] List.nodup_nil]; simp [dSum]
theorem due_sum2 (row : List Int) : dSum (fun k v => cube k * v.getD 2 0) (dueF row 6) = (ST.map fun p => cube (shade row p.1 p.2) * (6 - (p.2 : Int))).sum := by
 rw [due_ST, due_sum row 2 (fun p => 6 - (p.2 : Int)) (fun q p => by show q.getD 2 0 + 6 - (p.2 : Int) = _; grind) rfl ST [] List.nodup_nil]; simp [dSum]
noncomputable def fpE (b c d e f g : Nat) : Nat := 5 * cub 0 b + 4 * (cub 0 c + cub b c) + 3 * (cub 0 d + cub b d + cub c d) + 2 * (cub 0 e + cub b e + cub c e + cub d e) + 1 * (cub 0 f + cub b f + cub c f + cub d f + cub e f)
theorem ST_eq : ST = [(0, 1), (0, 2), (0, 3), (0, 4), (0, 5), (0, 6), (1, 2), (1, 3), (1, 4), (1, 5), (1, 6), (2, 3), (2, 4), (2, 5), (2, 6), (3, 4), (3, 5), (3, 6), (4, 5), (4, 6), (5, 6)] := by decide
theorem ST_cub {row : List Int} (hr : RowOk row) (w : Nat × Nat → Int) : (ST.map fun p => cube (shade row p.1 p.2) * w p).sum = (ST.map fun p => ((cub (pf row p.1) (pf row p.2) : Nat) : Int) * w p).sum :=
 sum_map_eq fun p hp => by rw [cube_shade hr hp]
theorem sumS {row : List Int} (hr : RowOk row) : dSum (fun k v => cube k * v.getD 1 0) (dueF row 6) = (fpS (pf row 1) (pf row 2) (pf row 3) (pf row 4) (pf row 5) (pf row 6) : Nat) := by
 rw [due_sum1, ST_cub hr, ST_eq]
 unfold fpS
 simp only [List.map_cons, List.map_nil, List.sum_cons, List.sum_nil]
 rw [show pf row 0 = 0 from rfl]
 push_cast
 grind
theorem sumE {row : List Int} (hr : RowOk row) : dSum (fun k v => cube k * v.getD 2 0) (dueF row 6) = (fpE (pf row 1) (pf row 2) (pf row 3) (pf row 4) (pf row 5) (pf row 6) : Nat) := by
 rw [due_sum2, ST_cub hr, ST_eq]
 unfold fpE
 simp only [List.map_cons, List.map_nil, List.sum_cons, List.sum_nil]
 rw [show pf row 0 = 0 from rfl]
 push_cast
 grind
theorem sum0P {row : List Int} (hr : RowOk row) : dSum (fun k v => cube k * v.getD 0 0) (dueF row 6) = (fpP (pf row 1) (pf row 2) (pf row 3) (pf row 4) (pf row 5) (pf row 6) : Nat) := by
 rw [due_sum0, ← bag_fp hr, shades_ST, List.map_map]
 exact sum_map_eq fun p _ => by rw [Int.mul_one]; rfl
noncomputable def mirV (v : List Int) : List Int := [v.getD 0 0, v.getD 2 0, v.getD 1 0, -(v.getD 3 0)]
noncomputable def mirD (d : List (Int × List Int)) : List (Int × List Int) := d.map fun p => (p.1, mirV p.2)
theorem sum_mir (i j : Nat) (h : ∀ v, (mirV v).getD i 0 = v.getD j 0) (d : List (Int × List Int)) : dSum (fun k v => cube k * v.getD i 0) (mirD d) = dSum (fun k v => cube k * v.getD j 0) d := by
 unfold dSum mirD
 rw [List.map_map]
 congr 1
 refine List.map_congr_left fun p _ => ?_
 show cube p.1 * (mirV p.2).getD i 0 = _
 rw [h]
noncomputable def fpM (r0 r1 r2 r3 r4 r5 : Nat) : Nat := onP (fun b c d e f g => fpP b c d e f g * 100000000000 + fpE b c d e f g) r0 r1 r2 r3 r4 r5
theorem chk4R : allR (fun a b c d e f => fp2 f e d c b a == fpM a b c d e f) = true := by decide +kernel
theorem fp2_pf {a b c d e f : Nat} : fp2 a b c d e f = fpP (pf [(a : Int), b, c, d, e, f] 1) (pf [(a : Int), b, c, d, e, f] 2) (pf [(a : Int), b, c, d, e, f] 3) (pf [(a : Int), b, c, d, e, f] 4) (pf [(a : Int), b, c, d, e, f] 5) (pf [(a : Int), b, c, d, e, f] 6) * 100000000000 + fpS (pf [(a : Int), b, c, d, e, f] 1) (pf [(a : Int), b, c, d, e, f] 2) (pf [(a : Int), b, c, d, e, f] 3) (pf [(a : Int), b, c, d, e, f] 4) (pf [(a : Int), b, c, d, e, f] 5) (pf [(a : Int), b, c, d, e, f] 6) := by
 simp [fp2, onP, pf, wk]
theorem fpM_pf {a b c d e f : Nat} : fpM a b c d e f = fpP (pf [(a : Int), b, c, d, e, f] 1) (pf [(a : Int), b, c, d, e, f] 2) (pf [(a : Int), b, c, d, e, f] 3) (pf [(a : Int), b, c, d, e, f] 4) (pf [(a : Int), b, c, d, e, f] 5) (pf [(a : Int), b, c, d, e, f] 6) * 100000000000 + fpE (pf [(a : Int), b, c, d, e, f] 1) (pf [(a : Int), b, c, d, e, f] 2) (pf [(a : Int), b, c, d, e, f] 3) (pf [(a : Int), b, c, d, e, f] 4) (pf [(a : Int), b, c, d, e, f] 5) (pf [(a : Int), b, c, d, e, f] 6) := by
 simp [fpM, onP, pf, wk]
theorem fp2_tells {a b c d e k a' b' c' d' e' k' : Nat} (ha : a < 3) (hb : b < 3) (hc : c < 3) (hd : d < 3) (he : e < 3) (hk : k < 3) (ha' : a' < 3) (hb' : b' < 3) (hc' : c' < 3) (hd' : d' < 3) (he' : e' < 3) (hk' : k' < 3) (h : fp2 a b c d e k = fp2 a' b' c' d' e' k') : a' = a ∧ b' = b ∧ c' = c ∧ d' = d ∧ e' = e ∧ k' = k := by
 have v1 := allR_at chk2R ha hb hc hd he hk
 have v2 := allR_at chk2R ha' hb' hc' hd' he' hk'
 simp only [h, beq_iff_eq] at v1 v2
 rw [v1] at v2
 exact code_inj hb hc hd he hk hb' hc' hd' he' hk' v2
theorem book_tells {f g : List Int} (hf : RowOk f) (hg : RowOk g) (h : dEqB (dueF g 6) (dueF f 6) = true) : g = f := by
 have hp := dEqB_perm (due_nodup g) h
 refine ex6 (six hf) ?_
 rintro a b c d e k hZ
 refine an6 hZ ?_
 clear hZ
 rintro ha hb hc hd he hk rfl
 refine ex6 (six hg) ?_
 rintro a' b' c' d' e' k' hZ
 refine an6 hZ ?_
 clear hZ
 rintro ha' hb' hc' hd' he' hk' rfl
 have h0 := dSum_perm (fun k v => cube k * v.getD 0 0) hp
 have h1 := dSum_perm (fun k v => cube k * v.getD 1 0) hp
 rw [sum0P hf, sum0P hg] at h0
 rw [sumS hf, sumS hg] at h1
 have h0 := Int.ofNat_inj.mp h0
 have h1 := Int.ofNat_inj.mp h1
 have := fp2_tells ha hb hc hd he hk ha' hb' hc' hd' he' hk' (by rw [fp2_pf, fp2_pf, h0, h1])
 refine an5 this ?_
 try clear this
 rintro rfl rfl rfl rfl rfl rfl
 rfl
theorem mirror_tells {f g : List Int} (hf : RowOk f) (hg : RowOk g) (h : dEqB (dueF g 6) (mirD (dueF f 6)) = true) : g = f.reverse := by
 have hp := dEqB_perm (due_nodup g) h
 refine ex6 (six hf) ?_
 rintro a b c d e k hZ
 refine an6 hZ ?_
 clear hZ
 rintro ha hb hc hd he hk rfl
 refine ex6 (six hg) ?_
 rintro a' b' c' d' e' k' hZ
 refine an6 hZ ?_
 clear hZ
 rintro ha' hb' hc' hd' he' hk' rfl
 have h0 := dSum_perm (fun k v => cube k * v.getD 0 0) hp
 have h1 := dSum_perm (fun k v => cube k * v.getD 1 0) hp
 rw [sum_mir 0 0 (fun _ => rfl), sum0P hf, sum0P hg] at h0
 rw [sum_mir 1 2 (fun _ => rfl), sumE hf, sumS hg] at h1
 have h0 := Int.ofNat_inj.mp h0
 have h1 := Int.ofNat_inj.mp h1
 have v := allR_at chk4R ha hb hc hd he hk
 simp only [beq_iff_eq] at v
 have := fp2_tells hk he hd hc hb ha ha' hb' hc' hd' he' hk' (by rw [v, fpM_pf, fp2_pf, h0, h1])
 refine an5 this ?_
 try clear this
 rintro rfl rfl rfl rfl rfl rfl
 rfl
end Mine
end
section
open PySem PySem.W
set_option Elab.async false
set_option maxRecDepth 100000
namespace Mine
noncomputable def sumIf (row : List Int) (w : Nat × Nat → Int) (L : List (Nat × Nat)) (k : Int) : Int := (L.map fun p => if shade row p.1 p.2 = k then w p else 0).sum
noncomputable def addAll (row : List Int) (q : List Int) (L : List (Nat × Nat)) (k : Int) : List Int := [q.getD 0 0 + sumIf row (fun _ => 1) L k, q.getD 1 0 + sumIf row (fun p => (p.1 : Int)) L k, q.getD 2 0 + sumIf row (fun p => 6 - (p.2 : Int)) L k, q.getD 3 0 + sumIf row (fun p => (p.1 : Int) - (6 - (p.2 : Int))) L k]
theorem sumIf_cons (row : List Int) (w : Nat × Nat → Int) (x : Nat × Nat) (L : List (Nat × Nat)) (k : Int) : sumIf row w (x :: L) k = (if shade row x.1 x.2 = k then w x else 0) + sumIf row w L k := by
 unfold sumIf; rw [List.map_cons, List.sum_cons]
theorem sumIf_none (row : List Int) (w : Nat × Nat → Int) {L : List (Nat × Nat)} {k : Int} (h : ¬ ∃ p ∈ L, shade row p.1 p.2 = k) : sumIf row w L k = 0 := by
 induction L with
 | nil => rfl
 | cons x L ih =>
  rw [sumIf_cons, if_neg (fun e => h ⟨x, .head _, e⟩), ih fun ⟨p, hp, e⟩ => h ⟨p, .tail _ hp, e⟩]; rfl
theorem due_look_aux (row : List Int) (k : Int) (L : List (Nat × Nat)) : ∀ d : List (Int × List Int), (∀ p ∈ d, p.2.length = 4) → Nk d → dLook (L.foldl (fun d p => dueStep row p.1 d p.2) d) k = if ∃ p ∈ L, shade row p.1 p.2 = k then some (addAll row ((dLook d k).getD zero4) L k) else dLook d k := by
 induction L with
 | nil => intro d _ _; simp
 | cons x L ih =>
  intro d h4 hn
  rw [List.foldl_cons, ih (dueStep row x.1 d x.2) (dPut_all (P := fun q : List Int => q.length = 4) h4 rfl) (dPut_nodup hn _ _)]
  have hl : dLook (dueStep row x.1 d x.2) k = if shade row x.1 x.2 = k then some (dueV ((dLook d (shade row x.1 x.2)).getD zero4) x.1 x.2) else dLook d k := dLook_put _ _ _
  by_cases e : shade row x.1 x.2 = k
  ·rw [hl, if_pos e, e]
   rw [if_pos (show ∃ p ∈ x :: L, shade row p.1 p.2 = k from ⟨x, .head _, e⟩)]
   have key : addAll row (dueV ((dLook d k).getD zero4) x.1 x.2) L k = addAll row ((dLook d k).getD zero4) (x :: L) k := by
    unfold addAll
    simp only [sumIf_cons, if_pos e]
    unfold dueV
    simp only [List.getD_cons_zero, List.getD_cons_succ, List.cons.injEq, and_true]
    refine (ia3 (by grind) (by grind) (by grind) (by grind))
   by_cases c : ∃ p ∈ L, shade row p.1 p.2 = k
   ·rw [if_pos c, Option.getD_some, key]
   ·rw [if_neg c, ← key]
    unfold addAll
    simp only [sumIf_none row _ c]
    unfold dueV
    simp
  ·rw [hl, if_neg e]
   have c1 : (∃ p ∈ x :: L, shade row p.1 p.2 = k) ↔ ∃ p ∈ L, shade row p.1 p.2 = k := by
    constructor
    ·rintro ⟨p, hp, q⟩
     rcases List.mem_cons.mp hp with rfl | hp
     ·exact absurd q e
     ·exact ⟨p, hp, q⟩
    ·rintro ⟨p, hp, q⟩; exact ⟨p, .tail _ hp, q⟩
   have key : addAll row ((dLook d k).getD zero4) L k = addAll row ((dLook d k).getD zero4) (x :: L) k := by
    unfold addAll
    simp only [sumIf_cons, if_neg e, Int.zero_add]
   by_cases c : ∃ p ∈ L, shade row p.1 p.2 = k
   ·rw [if_pos c, if_pos (c1.mpr c), key]
   ·rw [if_neg c, if_neg (fun q => c (c1.mp q))]
theorem due_look (row : List Int) (k : Int) : dLook (dueF row 6) k = if ∃ p ∈ ST, shade row p.1 p.2 = k then some (addAll row zero4 ST k) else none := by
 rw [due_ST]
 exact due_look_aux row k ST [] (fun p hp => nomatch hp) List.nodup_nil
noncomputable def flip (p : Nat × Nat) : Nat × Nat := (6 - p.2, 6 - p.1)
theorem ST_flip : (ST.map flip).Perm ST := by decide
theorem pf_rev {row : List Int} (hr : RowOk row) {e : Nat} (h : e ≤ 6) : pf row.reverse e + pf row (6 - e) = pf row 6 := by
 refine ex6 (six hr) ?_
 rintro a b c d x f hZ
 refine an6 hZ ?_
 clear hZ
 rintro _ _ _ _ _ _ rfl
 rcases (show e = 0 ∨ e = 1 ∨ e = 2 ∨ e = 3 ∨ e = 4 ∨ e = 5 ∨ e = 6 by grind) with rfl | rfl | rfl | rfl | rfl | rfl | rfl
 ·exact (show ∀ w : Nat → Nat, (0) + (0 + w a + w b + w c + w d + w x + w f) = 0 + w a + w b + w c + w d + w x + w f from fun w => by simp only [Nat.zero_add]; try ac_rfl) fun n => wk n
 ·exact (show ∀ w : Nat → Nat, (0 + w f) + (0 + w a + w b + w c + w d + w x) = 0 + w a + w b + w c + w d + w x + w f from fun w => by simp only [Nat.zero_add]; try ac_rfl) fun n => wk n
 ·exact (show ∀ w : Nat → Nat, (0 + w f + w x) + (0 + w a + w b + w c + w d) = 0 + w a + w b + w c + w d + w x + w f from fun w => by simp only [Nat.zero_add]; try ac_rfl) fun n => wk n
 ·exact (show ∀ w : Nat → Nat, (0 + w f + w x + w d) + (0 + w a + w b + w c) = 0 + w a + w b + w c + w d + w x + w f from fun w => by simp only [Nat.zero_add]; try ac_rfl) fun n => wk n
 ·exact (show ∀ w : Nat → Nat, (0 + w f + w x + w d + w c) + (0 + w a + w b) = 0 + w a + w b + w c + w d + w x + w f from fun w => by simp only [Nat.zero_add]; try ac_rfl) fun n => wk n
 ·exact (show ∀ w : Nat → Nat, (0 + w f + w x + w d + w c + w b) + (0 + w a) = 0 + w a + w b + w c + w d + w x + w f from fun w => by simp only [Nat.zero_add]; try ac_rfl) fun n => wk n
 ·exact (show ∀ w : Nat → Nat, (0 + w f + w x + w d + w c + w b + w a) + (0) = 0 + w a + w b + w c + w d + w x + w f from fun w => by simp only [Nat.zero_add]; try ac_rfl) fun n => wk n
theorem shade_rev {row : List Int} (hr : RowOk row) (hr' : RowOk row.reverse) {p : Nat × Nat} (hp : p ∈ ST) : shade row.reverse p.1 p.2 = shade row (flip p).1 (flip p).2 := by
 obtain ⟨h1, h2⟩ := ST_ok p hp
 rw [shade_pf hr' (Nat.le_of_lt h1) h2]
 unfold flip
 dsimp only
 rw [shade_pf hr (s := 6 - p.2) (e := 6 - p.1) (by grind) (by grind)]
 have e1 := pf_rev hr (e := p.1) (by grind)
 have e2 := pf_rev hr (e := p.2) (by grind)
 grind
theorem bag_rev {row : List Int} (hr : RowOk row) (hr' : RowOk row.reverse) : (shadesF row 6).Perm (shadesF row.reverse 6) := by
 rw [shades_ST, shades_ST]
 have e : (ST.map fun p => shade row.reverse p.1 p.2) = (ST.map flip).map fun p => shade row p.1 p.2 := by
  rw [List.map_map]
  exact List.map_congr_left fun p hp => shade_rev hr hr' hp
 rw [e]
 exact (ST_flip.map _).symm
theorem any_rev {row : List Int} (hr : RowOk row) (hr' : RowOk row.reverse) (k : Int) : (∃ p ∈ ST, shade row.reverse p.1 p.2 = k) ↔ ∃ p ∈ ST, shade row p.1 p.2 = k := by
 constructor
 ·rintro ⟨p, hp, e⟩
  exact ⟨flip p, ST_flip.subset (List.mem_map_of_mem hp), by rw [← shade_rev hr hr' hp]; exact e⟩
 ·rintro ⟨p, hp, e⟩
  obtain ⟨q, hq, rfl⟩ := List.mem_map.mp (ST_flip.symm.subset hp)
  exact ⟨q, hq, by rw [shade_rev hr hr' hq]; exact e⟩
theorem sumIf_rev {row : List Int} (hr : RowOk row) (hr' : RowOk row.reverse) (w w' : Nat × Nat → Int) (hw : ∀ p ∈ ST, w p = w' (flip p)) (k : Int) : sumIf row.reverse w ST k = sumIf row w' ST k := by
 have e : sumIf row.reverse w ST k = sumIf row w' (ST.map flip) k := by
  unfold sumIf
  rw [List.map_map]
  refine sum_map_eq fun p hp => ?_
  show (if shade row.reverse p.1 p.2 = k then w p else 0) = (if shade row (flip p).1 (flip p).2 = k then w' (flip p) else 0)
  rw [shade_rev hr hr' hp, hw p hp]
 rw [e]
 exact sum_perm (ST_flip.map _)
theorem sumIf_neg (row : List Int) (w : Nat × Nat → Int) (L : List (Nat × Nat)) (k : Int) : sumIf row (fun p => -(w p)) L k = -(sumIf row w L k) := by
 induction L with
 | nil => rfl
 | cons x L ih => rw [sumIf_cons, sumIf_cons, ih]; split <;> grind
theorem look_rev {row : List Int} (hr : RowOk row) (hr' : RowOk row.reverse) (k : Int) : dLook (dueF row.reverse 6) k = (dLook (dueF row 6) k).map mirV := by
 by_cases c : ∃ p ∈ ST, shade row p.1 p.2 = k
 ·have l1 := (due_look row.reverse k).trans (if_pos ((any_rev hr hr' k).mpr c))
  have l2 := (due_look row k).trans (if_pos c)
  refine l1.trans (Eq.trans ?_ (congrArg (Option.map mirV) l2).symm)
  refine congrArg some ?_
  rw [show addAll row.reverse zero4 ST k = [0 + sumIf row.reverse (fun _ => 1) ST k, 0 + sumIf row.reverse (fun p => (p.1 : Int)) ST k, 0 + sumIf row.reverse (fun p => 6 - (p.2 : Int)) ST k, 0 + sumIf row.reverse (fun p => (p.1 : Int) - (6 - (p.2 : Int))) ST k] from rfl, show mirV (addAll row zero4 ST k) = [0 + sumIf row (fun _ => 1) ST k, 0 + sumIf row (fun p => 6 - (p.2 : Int)) ST k, 0 + sumIf row (fun p => (p.1 : Int)) ST k, -(0 + sumIf row (fun p => (p.1 : Int) - (6 - (p.2 : Int))) ST k)] from rfl]
  have s0 := sumIf_rev hr hr' (fun _ => 1) (fun _ => 1) (fun _ _ => rfl) k
  have s1 := sumIf_rev hr hr' (fun p => (p.1 : Int)) (fun p => 6 - (p.2 : Int)) (fun p hp => by obtain ⟨h1, h2⟩ := ST_ok p hp; unfold flip; dsimp only; grind) k
  have s2 := sumIf_rev hr hr' (fun p => 6 - (p.2 : Int)) (fun p => (p.1 : Int)) (fun p hp => by obtain ⟨h1, h2⟩ := ST_ok p hp; unfold flip; dsimp only; grind) k
  have s3 := sumIf_rev hr hr' (fun p => (p.1 : Int) - (6 - (p.2 : Int))) (fun p => -((p.1 : Int) - (6 - (p.2 : Int)))) (fun p hp => by obtain ⟨h1, h2⟩ := ST_ok p hp; unfold flip; dsimp only; grind) k
  rw [sumIf_neg] at s3
  rw [s0, s1, s2, s3]
  simp only [List.cons.injEq, and_true, true_and]
  grind
 ·have l1 := (due_look row.reverse k).trans (if_neg (fun q => c ((any_rev hr hr' k).mp q)))
  have l2 := (due_look row k).trans (if_neg c)
  exact l1.trans (congrArg (Option.map mirV) l2).symm
theorem keys_len {β γ : Type} {a : List (Int × β)} {b : List (Int × γ)} (ha : Nk a) (hb : Nk b) (h : ∀ k, (dLook a k).isSome = (dLook b k).isSome) : a.length = b.length := by
 have key : ∀ {β γ : Type} {a : List (Int × β)} {b : List (Int × γ)}, (∀ k, (dLook a k).isSome = (dLook b k).isSome) → ∀ x ∈ a.map (·.1), x ∈ b.map (·.1) := by
  intro β γ a b h x hx
  cases e : dLook b x with
  | none =>
   have h1 := h x
   rw [e] at h1
   cases e2 : dLook a x with
   | none => exact absurd hx (dLook_none_iff.mp e2)
   | some v => rw [e2] at h1; cases h1
  | some v => exact List.mem_map.mpr ⟨(x, v), dLook_get e, rfl⟩
 have h1 := key h
 have h2 := key (fun k => (h k).symm)
 rcases Nat.le_total (b.map (·.1)).length (a.map (·.1)).length with c | c
 ·have := (perm_of_sub ha h1 c).length_eq
  simpa using this
 ·have := (perm_of_sub hb h2 c).length_eq
  simpa using this.symm
theorem mirD_keys (d : List (Int × List Int)) : (mirD d).map (·.1) = d.map (·.1) := by unfold mirD; rw [List.map_map]; rfl
theorem mirror_rev {row : List Int} (hr : RowOk row) (hr' : RowOk row.reverse) : dEqB (dueF row.reverse 6) (mirD (dueF row 6)) = true := by
 have hl : ∀ k, dLook (mirD (dueF row 6)) k = dLook (dueF row.reverse 6) k := fun k => by
  rw [look_rev hr hr']; exact dLook_map mirV _ k
 have hm : Nk (mirD (dueF row 6)) := by
  have e : (mirD (dueF row 6)).map (·.1) = (dueF row 6).map (·.1) := mirD_keys _
  exact (congrArg List.Nodup e).mpr (due_nodup row)
 unfold dEqB
 rw [Bool.and_eq_true]
 refine ⟨beq_iff_eq.mpr (keys_len (due_nodup _) hm fun k => by rw [hl]), List.all_eq_true.mpr fun p hp => decide_eq_true ?_⟩
 rw [hl]
 exact dLook_mem (due_nodup _) hp
end Mine
end
section
open PySem PySem.W
set_option Elab.async false
set_option maxRecDepth 100000
namespace Mine
theorem rev_ok {r : List Int} (h : RowOk r) : RowOk r.reverse := by
 obtain ⟨hl, hb⟩ := h
 match r, hl with
 | [r0, r1, r2, r3, r4, r5], _ =>
  refine ⟨rfl, fun i hi => ?_⟩
  rcases (show i = 0 ∨ i = 1 ∨ i = 2 ∨ i = 3 ∨ i = 4 ∨ i = 5 by grind) with rfl | rfl | rfl | rfl | rfl | rfl
  ·exact hb 5 (by grind)
  ·exact hb 4 (by grind)
  ·exact hb 3 (by grind)
  ·exact hb 2 (by grind)
  ·exact hb 1 (by grind)
  ·exact hb 0 (by grind)
theorem shades_len (row : List Int) : (shadesF row 6).length = 21 := rfl
theorem quick_all {f g : List Int} (hf : RowOk f) (hg : RowOk g) : quickM (shadesF f 6) (shadesF g 6) = 21 ↔ (g = f ∨ g = f.reverse) := by
 rw [quickM_inter]
 constructor
 ·intro h
  have h : inter (shadesF f 6) (shadesF g 6) = 21 := by exact_mod_cast h
  exact bag_tells hf hg (inter_perm _ (by rw [h, shades_len]) (by rw [shades_len, shades_len]; exact Nat.le_refl _))
 ·intro h
  have hp : (shadesF f 6).Perm (shadesF g 6) := by
   rcases h with rfl | rfl
   ·exact List.Perm.refl _
   ·exact bag_rev hf (rev_ok hf)
  rw [perm_inter _ hp, shades_len]; rfl
theorem quick_six {f g : List Int} (hf : RowOk f) (hg : RowOk g) : quickM ((shadesF f 6).take 6) ((shadesF g 6).take 6) = 6 ↔ g = f := by
 have l : ∀ row, ((shadesF row 6).take 6).length = 6 := fun row => by rw [List.length_take, shades_len]; rfl
 rw [quickM_inter]
 constructor
 ·intro h
  have h : inter ((shadesF f 6).take 6) ((shadesF g 6).take 6) = 6 := by exact_mod_cast h
  exact take_tells hf hg (inter_perm _ (by rw [h, l]) (by rw [l, l]; exact Nat.le_refl _))
 ·rintro rfl
  rw [perm_inter _ (List.Perm.refl _), l]; rfl
theorem book_eq {f g : List Int} (hf : RowOk f) (hg : RowOk g) : dEqB (dueF g 6) (dueF f 6) = decide (g = f) := by
 by_cases h : g = f
 ·rw [decide_eq_true h, h]; exact dEqB_self (due_nodup f)
 ·rw [decide_eq_false h]
  exact Bool.eq_false_iff.mpr fun q => h (book_tells hf hg q)
theorem mirror_eq {f g : List Int} (hf : RowOk f) (hg : RowOk g) : dEqB (dueF g 6) (mirD (dueF f 6)) = decide (g = f.reverse) := by
 by_cases h : g = f.reverse
 ·rw [decide_eq_true h, h]; exact mirror_rev hf (rev_ok hf)
 ·rw [decide_eq_false h]
  exact Bool.eq_false_iff.mpr fun q => h (mirror_tells hf hg q)
theorem quick_among {f g : List Int} (hf : RowOk f) : quickM ((shadesF f 6).take 6) (shadesF g 6) = (((shadesF f 6).take 6).filter fun x => decide (x ∈ shadesF g 6)).length := by
 rw [quickM_inter, inter_filter _ _ (take_nodup hf)]
theorem quick_level {f g : List Int} (hf : RowOk f) : quickM ((shadesF f 6).take 6) ((shadesF g 6).take 6) = (((shadesF f 6).take 6).filter fun x => decide (x ∈ (shadesF g 6).take 6)).length := by
 rw [quickM_inter, inter_filter _ _ (take_nodup hf)]
theorem quick_back {f g : List Int} (hg : RowOk g) : quickM (shadesF f 6) ((shadesF g 6).take 6) = (((shadesF g 6).take 6).filter fun x => decide (x ∈ shadesF f 6)).length := by
 rw [quickM_inter, inter_comm, inter_filter _ _ (take_nodup hg)]
theorem lack_quick (f g : List Int) : 42 - dSum (fun _ v => (v.natAbs : Int)) (lessD (shadesF f 6) (shadesF g 6)) = 2 * quickM (shadesF f 6) (shadesF g 6) := by
 rw [lacking_inter (shades_len f) (shades_len g), quickM_inter]; grind
theorem quick_le (p q : List Int) : 0 ≤ quickM p q ∧ quickM p q ≤ p.length := qStep_pos _ p
end Mine
end
section
open PySem PySem.W PyProof.Rows PySem.Calls PySem.Spec
set_option Elab.async false
set_option maxRecDepth 100000
namespace Mine
theorem due_src {g h : Heap} {L l d0 d1 d2 d3 d4 d5 d6 d7 : Addr} {rest : List (Addr × Obj)} {a0 a1 a2 a3 a4 a5 a6 a7 b0 b1 b2 b3 b4 b5 b6 b7 : Int} {t0 t1 t2 t3 t4 t5 t6 t7 u0 u1 u2 u3 u4 u5 u6 u7 : Tok}
  (N : News g L h ((l, lstO [.ref d0, .ref d1, .ref d2, .ref d3, .ref d4, .ref d5, .ref d6, .ref d7] 0) :: (d7, tupO [.int a7 t7, .int b7 u7] 0) :: (d6, tupO [.int a6 t6, .int b6 u6] 0) :: (d5, tupO [.int a5 t5, .int b5 u5] 0) :: (d4, tupO [.int a4 t4, .int b4 u4] 0) :: (d3, tupO [.int a3 t3, .int b3 u3] 0) :: (d2, tupO [.int a2 t2, .int b2 u2] 0) :: (d1, tupO [.int a1 t1, .int b1 u1] 0) :: (d0, tupO [.int a0 t0, .int b0 u0] 0) :: rest)) :
  ∀ (i : Nat) (v : Value), (#[Value.ref d0, .ref d1, .ref d2, .ref d3, .ref d4, .ref d5, .ref d6, .ref d7] : Array Value)[i]? = some v → ∃ T v0 v1, v = .ref T ∧ IsTup h T #[v0, v1] ∧ ∃ a b t u, ([(a0, b0), (a1, b1), (a2, b2), (a3, b3), (a4, b4), (a5, b5), (a6, b6), (a7, b7)] : List (Int × Int))[i]? = some (a, b) ∧ v0 = .int a t ∧ v1 = .int b u := by
 intro i v e
 match i, e with
 | 0, e => cases e; exact (ix3 _ _ _ (ia2 rfl (⟨_, ia2 ((N _ (.tail _ (.tail _ (.tail _ (.tail _ (.tail _ (.tail _ (.tail _ (.tail _ (.head _)))))))))).1) rfl ⟨0, rfl⟩⟩) (ix4 _ _ _ _ (ia2 rfl rfl rfl))))
 | 1, e => cases e; exact (ix3 _ _ _ (ia2 rfl (⟨_, ia2 ((N _ (.tail _ (.tail _ (.tail _ (.tail _ (.tail _ (.tail _ (.tail _ (.head _))))))))).1) rfl ⟨0, rfl⟩⟩) (ix4 _ _ _ _ (ia2 rfl rfl rfl))))
 | 2, e => cases e; exact (ix3 _ _ _ (ia2 rfl (⟨_, ia2 ((N _ (.tail _ (.tail _ (.tail _ (.tail _ (.tail _ (.tail _ (.head _)))))))).1) rfl ⟨0, rfl⟩⟩) (ix4 _ _ _ _ (ia2 rfl rfl rfl))))
 | 3, e => cases e; exact (ix3 _ _ _ (ia2 rfl (⟨_, ia2 ((N _ (.tail _ (.tail _ (.tail _ (.tail _ (.tail _ (.head _))))))).1) rfl ⟨0, rfl⟩⟩) (ix4 _ _ _ _ (ia2 rfl rfl rfl))))
 | 4, e => cases e; exact (ix3 _ _ _ (ia2 rfl (⟨_, ia2 ((N _ (.tail _ (.tail _ (.tail _ (.tail _ (.head _)))))).1) rfl ⟨0, rfl⟩⟩) (ix4 _ _ _ _ (ia2 rfl rfl rfl))))
 | 5, e => cases e; exact (ix3 _ _ _ (ia2 rfl (⟨_, ia2 ((N _ (.tail _ (.tail _ (.tail _ (.head _))))).1) rfl ⟨0, rfl⟩⟩) (ix4 _ _ _ _ (ia2 rfl rfl rfl))))
 | 6, e => cases e; exact (ix3 _ _ _ (ia2 rfl (⟨_, ia2 ((N _ (.tail _ (.tail _ (.head _)))).1) rfl ⟨0, rfl⟩⟩) (ix4 _ _ _ _ (ia2 rfl rfl rfl))))
 | 7, e => cases e; exact (ix3 _ _ _ (ia2 rfl (⟨_, ia2 ((N _ (.tail _ (.head _))).1) rfl ⟨0, rfl⟩⟩) (ix4 _ _ _ _ (ia2 rfl rfl rfl))))
 | n + 8, e => simp at e
theorem floats_of : ∀ (ds : List (Int × Int)) (rs : List Value), rs.length = ds.length → (∀ (j : Nat) (r : Value), rs[j]? = some r → ∃ a b u, ds[j]? = some (a, b) ∧ TokOk u ∧ r = .float (fracF a b) u) → Floats8 rs (ds.map fun p => fracF p.1 p.2)
 | [], [], _, _ => .nil
 | [], _ :: _, h, _ => by cases h
 | _ :: _, [], h, _ => by cases h
 | (a, b) :: ds, r :: rs, h, hR => by
  refine hdG ?_; intro Xh hXh
  refine ex3 (hR 0 r rfl) ?_
  rintro a' b' u hZ
  refine an2 hZ ?_
  clear hZ
  rintro e hu rfl
  refine hXh ?_; clear hXh
  cases e
  exact .cons hu (floats_of ds rs (by simpa using h) fun j r' e => by
   refine hdG ?_; intro Xh hXh
   refine ex3 (hR (j + 1) r' e) ?_
   rintro a b u hZ
   refine an2 hZ ?_
   clear hZ
   rintro e1 h1 e2
   refine hXh ?_; clear hXh
   exact (ix3 a b u (ia2 e1 h1 e2)))
noncomputable def dueL (f g : List Int) : List (Int × Int) := [(42 - ((lessD (shadesF f 6) (shadesF g 6)).map (·.2) |>.map fun k : Int => if k < 0 then -k else k).sum, 42), (1, 1), (2 * quickM ((shadesF f 6).take 6) (shadesF g 6), 27), (12, 27), (quickM ((shadesF f 6).take 6) ((shadesF g 6).take 6), 6), (1, 1), (2 * quickM (shadesF f 6) ((shadesF g 6).take 6), 27), (12, 27)]
noncomputable def toldL (f g : List Int) : List UInt64 := [ratio (quickM (shadesF f 6) (shadesF g 6)) 42, ratio 21 42, ratio (quickM ((shadesF f 6).take 6) (shadesF g 6)) 27, ratio 6 27, ratio (quickM ((shadesF f 6).take 6) ((shadesF g 6).take 6)) 12, ratio 6 12, ratio (quickM (shadesF f 6) ((shadesF g 6).take 6)) 27, ratio 6 27]
theorem abs_sum (d : List (Int × Int)) : ((d.map (·.2)).map fun k : Int => if k < 0 then -k else k).sum = dSum (fun _ v => (v.natAbs : Int)) d := by
 unfold dSum
 rw [List.map_map]
 congr 1
 apply List.map_congr_left
 intro p _
 simp only [Function.comp]
 split <;> grind
theorem lack_eq (f g : List Int) : 42 - ((lessD (shadesF f 6) (shadesF g 6)).map (·.2) |>.map fun k : Int => if k < 0 then -k else k).sum = 2 * quickM (shadesF f 6) (shadesF g 6) := by
 rw [abs_sum]
 exact lack_quick f g
theorem eight {a0 a1 a2 a3 a4 a5 a6 a7 b0 b1 b2 b3 b4 b5 b6 b7 : UInt64} (h0 : eqF a0 b0 = true) (h1 : eqF a1 b1 = true) (h2 : eqF a2 b2 = true) (h3 : eqF a3 b3 = true) (h4 : eqF a4 b4 = true) (h5 : eqF a5 b5 = true) (h6 : eqF a6 b6 = true) (h7 : eqF a7 b7 = true) :
  ∀ (j : Nat) (x y : UInt64), [a0, a1, a2, a3, a4, a5, a6, a7][j]? = some x → [b0, b1, b2, b3, b4, b5, b6, b7][j]? = some y → eqF x y = true := by
 intro j x y e1 e2
 match j, e1, e2 with
 | 0, e1, e2 => cases e1; cases e2; exact h0
 | 1, e1, e2 => cases e1; cases e2; exact h1
 | 2, e1, e2 => cases e1; cases e2; exact h2
 | 3, e1, e2 => cases e1; cases e2; exact h3
 | 4, e1, e2 => cases e1; cases e2; exact h4
 | 5, e1, e2 => cases e1; cases e2; exact h5
 | 6, e1, e2 => cases e1; cases e2; exact h6
 | 7, e1, e2 => cases e1; cases e2; exact h7
 | n + 8, e1, e2 => simp at e1
section
variable {f g : List Int}
theorem q_le6 (f : List Int) (q : List Int) : 0 ≤ quickM ((shadesF f 6).take 6) q ∧ quickM ((shadesF f 6).take 6) q ≤ 6 := by
 have h := quick_le ((shadesF f 6).take 6) q
 rw [List.length_take, shades_len] at h
 exact h
theorem q_le21 (f : List Int) (q : List Int) : 0 ≤ quickM (shadesF f 6) q ∧ quickM (shadesF f 6) q ≤ 21 := by
 have h := quick_le (shadesF f 6) q
 rw [shades_len] at h
 exact h
theorem q_le6' (f g : List Int) : 0 ≤ quickM (shadesF f 6) ((shadesF g 6).take 6) ∧ quickM (shadesF f 6) ((shadesF g 6).take 6) ≤ 6 := by
 rw [quickM_inter, inter_comm, ← quickM_inter]
 exact q_le6 g _
theorem due_calm : ∀ p ∈ dueL f g, p.2 ≠ 0 ∧ Float64.isInf (fracF p.1 p.2) = false := by
 have h1 := q_le21 f (shadesF g 6)
 have h2 := q_le6 f (shadesF g 6)
 have h3 := q_le6 f ((shadesF g 6).take 6)
 have h4 := q_le6' f g
 unfold dueL
 rw [lack_eq]
 simp only [List.forall_mem_cons]
 refine (ia8 ⟨by decide, calm42 (by grind) (by grind)⟩ ⟨by decide, calm1⟩ ⟨by decide, calm27 (by grind) (by grind)⟩ ⟨by decide, calm27 (by decide) (by decide)⟩ ⟨by decide, calm6 h3.1 h3.2⟩ ⟨by decide, calm1⟩ ⟨by decide, calm27 (by grind) (by grind)⟩ ⟨by decide, calm27 (by decide) (by decide)⟩ (fun _ h => nomatch h))
theorem told_due : ∀ (j : Nat) (x y : UInt64), (toldL f g)[j]? = some x → ((dueL f g).map fun p => fracF p.1 p.2)[j]? = some y → eqF x y = true := by
 have h1 := q_le21 f (shadesF g 6)
 have h2 := q_le6 f (shadesF g 6)
 have h3 := q_le6 f ((shadesF g 6).take 6)
 have h4 := q_le6' f g
 unfold toldL dueL
 rw [lack_eq]
 exact eight (share42 h1.1 h1.2) real42 (share27 h2.1 h2.2) real27 (share12 h3.1 h3.2) real12 (share27 h4.1 h4.2) real27
end
section
variable {prog : Program} {w : World} {A : Around} {E : Value → Shared → Prop} {s : Shared} {env : Env} {h₀ : Heap} {m : Str → Option Value} {news : List (Addr × Obj)}
theorem built_none {n : Nat} {rs : List Value} (h : Built (fun _ b _ => b = false) n rs) : rs = [] := by
 induction h with
 | nil => rfl
 | take _ h _ => cases h
 | skip _ _ ih => exact ih
theorem one_noneL {c elt : PySem.Expr} {x : Str} {scope : Scope} {cl : List (Str × Addr)} {l : Addr} {vs : List Value} {n : Nat} {Q : Value → Shared → Prop}
  (F : Fr h₀ env.locals s.heap m) (N : News h₀ env.locals s.heap news) (hm : (l, lstO vs n) ∈ news) (hh : A.handled = none) (hz : vs.length ≤ 1000)
  (hE : ∀ (i : Nat) (v : Value) C oC h tk m₂ (Q' : Bool → Shared → Prop) (E' : Value → Shared → Prop), vs[i]? = some v → LCg.NsObj oC m₂ → m₂ x = some v → Fr h₀ env.locals h m → News h₀ env.locals h ((C, oC) :: news) → LCg.Off1 C news →
   (∀ h' tk', (∀ b o, h.get? b = some o → h'.get? b = some o) → Q' false { s with heap := h', toks := tk' }) → wpAny (model prog w) A (isTrue c (compEnvC scope cl C env) (eval c (compEnvC scope cl C env))) Q' E' { s with heap := h, toks := tk })
  (hQ : ∀ D h tk, Fr h₀ env.locals h m → News h₀ env.locals h ((D, lstO [] 0) :: news) → (∀ p ∈ news, @Ne Nat p.1 D) → Q (.ref D) { s with heap := h, toks := tk }) :
  wpAny (model prog w) A (pyIter (.ref l)) (One prog w A [c] elt x scope cl env (FinV Q)) E s := by
 refine one_list (fun i b r => b = false) F N (⟨_, ia2 ((N _ hm).1) rfl ⟨n, rfl⟩⟩) hh (by rw [List.size_toArray, sizeLine_eq]; grind) (fun i v C oC h tk m₂ Q' E' hi e nC hv F' N' off ret => ?_) fun D h tk rs F' N' off hB hD hk => ?_
 ·refine Turn1.test (hE i v C oC h tk m₂ _ E' (by simpa using e) nC hv F' N' (off1_of off) fun h' tk' hk' => ?_)
  rw [if_neg Bool.false_ne_true]
  exact ret false .none h' tk' rfl hk'
 ·have := built_none hB
  subst this
  exact hQ D h tk F' N' off
end
end Mine
end
section
open PySem PySem.W PyProof.Rows PySem.Calls PySem.Spec
set_option Elab.async false
set_option maxRecDepth 100000
namespace Mine
noncomputable def EndB (tabs : List (Addr × Addr)) (s₁ : Shared) (r : Result) (s' : Shared) : Prop :=
 r = .ok (.ret (.bool true)) ∧ (∀ b o, (ghostOf s₁.heap tabs).get? b = some o → s'.heap.get? b = some o) ∧ s'.os = s₁.os ∧ AllBare s'.gens ∧ GrownAll tabs s'.heap
theorem endB_post {M : Model} {A : Around} {cd : Code} {s s₁ : Shared} {cw : ClaimW} {cl : Str → Option Addr} {mean : ExcName → Option Value} {args : List WData} {tabs : List (Addr × Addr)} (hT : TabsAt tabs s₁.heap) (hn : ∀ x, cw.raises args x = false) (hp : cw.post args (.bool true) args = true)
  (h : codeAny M A cd (EndB tabs s₁) s) : codeAny M A cd (GoodWG cw cl mean args s₁) s := by
 refine codeAny_mono h fun r s' hr => ?_
 refine an4 hr ?_
 try clear hr
 rintro rfl keep hos hb hg
 refine (ia3 (.inl (ix3 (.bool true) (.bool true) [] (ia4 rfl hn (.bool true) hp (fun _ => ⟨.nil, fun _ h => nomatch h⟩)))) ⟨fun b o e => ?_, fun b o e => ?_⟩ hos hb)
 ·by_cases q : b ∈ tabs.map (·.2)
  ·obtain ⟨p, hp', rfl⟩ := List.mem_map.mp q
   obtain ⟨ps, e2⟩ := hg.get p hp'
   have e3 := (hT p hp').2
   rw [e] at e3
   cases e3
   exact .inr (.inl (ia2 (((hT p hp').1.tab (hT p hp').2).isCodeTable) rfl (ix2 (#[]) ps ⟨rfl, by rw [Array.empty_append]; exact e2⟩)))
  ·exact .inl (keep b o (ghost_ne e q))
 ·by_cases q : b ∈ tabs.map (·.2)
  ·obtain ⟨p, hp', rfl⟩ := List.mem_map.mp q
   obtain ⟨ps, e2⟩ := hg.get p hp'
   exact ⟨_, e2⟩
  ·exact ⟨o, keep b o (ghost_ne e q)⟩
end Mine
end
section
open PySem PySem.W PyProof.Rows PySem.Calls PySem.Spec
set_option Elab.async false
set_option maxRecDepth 100000
namespace Mine
theorem inFr {K : Frag} {h₀ h : Heap} {L : Addr} {m : Str → Option Value} (F : Fr h₀ L h m) (X : K.In h₀) : K.In h := X.keeps F.keep
theorem ghostTR {s : Heap} {mean : ExcName → Option Value} {mg mb : Str → Option Value} {tabs : List (Addr × Addr)} (hT : TabsAt tabs s) (T : Top qv (looseW qv loose) mean mg mb s) : TopRead qv (looseW qv loose) mg mb (ghostOf s tabs) :=
 let T' := ghost_top hT T
 ⟨T'.g, T'.b, T'.nolimit, T'.builtins, T.free⟩
theorem ghostNB {s : Heap} {tabs : List (Addr × Addr)} (hT : TabsAt tabs s) (x : NoneBooked s) : NoneBooked (ghostOf s tabs) := let ⟨mc, a, r⟩ := x; ⟨mc, ghost_ns hT a, r⟩
theorem ghostBm {s : Heap} {mean : ExcName → Option Value} {mg mb : Str → Option Value} {tabs : List (Addr × Addr)} (hT : TabsAt tabs s) (T : Top qv (looseW qv loose) mean mg mb s) : Bm (ghostOf s tabs) := by
 obtain ⟨a, b, M⟩ := bmod_of_top (ghost_top hT T)
 exact ⟨_, _, _, M⟩
end Mine
end
section
open PySem PySem.W PyProof.Rows PySem.Calls PySem.Spec
set_option Elab.async false
set_option maxRecDepth 100000
namespace Mine
theorem four {q : List Int} (h : q.length = 4) : ∃ a b c d, q = [a, b, c, d] := by
 match q, h with
 | [a, b, c, d], _ => exact ⟨a, b, c, d, rfl⟩
theorem four_ints {vs : List Value} {a b c d : Int} (h : IntsAre vs [a, b, c, d]) : ∃ t u v w, vs = [.int a t, .int b u, .int c v, .int d w] := by
 cases h with
 | cons _ _ h => cases h with
  | cons _ _ h => cases h with
   | cons _ _ h => cases h with
    | cons _ _ h => cases h; exact ⟨_, _, _, _, rfl⟩
theorem bump_len (z : Int) : ∀ (p : List Int) (d : List (Int × Int)), (p.foldl (dBump z) d).length ≤ d.length + p.length
 | [], d => by simp
 | k :: p, d => by
  rw [List.foldl_cons]
  have h1 := bump_len z p (dBump z d k)
  have h2 := dPut_length d k ((dLook d k).getD 0 + z)
  have h3 : (dBump z d k).length ≤ d.length + 1 := h2
  rw [List.length_cons]
  omega
theorem due_len (f : List Int) : (dueF f 6).length ≤ 21 := by
 have h := congrArg List.length (due_count f)
 rw [List.length_map] at h
 rw [h]
 have := bump_len 1 (shadesF f 6) []
 rw [shades_len] at this
 exact Nat.le_trans this (by simp)
theorem less_len {p q : List Int} (hp : p.length = 21) (hq : q.length = 21) : (lessD p q).length ≤ 42 := by
 have h1 := bump_len 1 p []
 have h2 := bump_len (-1) q (p.foldl (dBump 1) [])
 have h3 : (lessD p q).length ≤ (p.foldl (dBump 1) []).length + q.length := h2
 simp only [List.length_nil] at h1
 omega
theorem tup_item {prog : Program} {w : World} {A : Around} {E : Value → Shared → Prop} {s : Shared} {h₀ : Heap} {L a : Addr} {news : List (Addr × Obj)} {value slice : PySem.Expr} {vs : List Value} {n : Nat} {k : Int} {u : Tok} {j : Nat} {x : Value} {Q : Value → Shared → Prop} (N : News h₀ L s.heap news) (hm : (a, tupO vs n) ∈ news) (hlo : -(2 ^ 63) ≤ k) (hhi : k < 2 ^ 63) (hj : seqIndex? k vs.length = some j) (hx : vs[j]? = some x) (h : Q x s)
  (hs : subscripted slice false (.ref a) (.int k u) = operate [.ref a, .int k u] (getItem (.ref a) (.int k u))) (hg : ∀ r, letTemporaryGo value (.ref a) r = pure ()) :
  wpAny (model prog w) A (subscriptTail value slice (.ref a) (.int k u)) Q E s := item_tupleL ⟨_, (N _ hm).1, rfl, n, rfl⟩ hlo hhi hj hx h hs hg
section
variable {M : Model} {A : Around} {E : Value → Shared → Prop} {s : Shared} {K : Frag} {h₀ : Heap} {L C : Addr} {m mg mb : Str → Option Value} {scope : Scope} {cl : List (Str × Addr)} {env : Env} {p : Program} {loose : List Str} {x : Str} {pos : Pos} {v : Value} {Q : Value → Shared → Prop}
theorem ld_globalR (F : Fr h₀ L s.heap m) (X : K.In h₀) (T : TopRead p loose mg mb h₀) (e : nsIn K mainGlobals x = some (some v)) (hg : env.globals = mainGlobals)
  (hk : (compEnvC scope cl C env).scope.kind = .function) (hx : (compEnvC scope cl C env).kindOf x = some .globalImplicit) (hd : (x == ("__debug__" : Str)) = false) (h : Q v s) :
  wpAny M A (eval (.Name x pos) (compEnvC scope cl C env)) Q E s :=
 Name_function_global hk hx (loadGlobal_global (env := compEnvC scope cl C env) (show s.heap.Ns env.globals mg from hg ▸ T.g.keeps F.keep) (mg_of X T.g e) h) hd
theorem ld_builtR (F : Fr h₀ L s.heap m) (X : K.In h₀) (T : TopRead p loose mg mb h₀) (e : nsIn K mainGlobals x = some none) (hv : bootBuiltins x = some v) (hn : x ≠ "__name__") (hg : env.globals = mainGlobals) (hb : env.builtins = builtinsNs)
  (hk : (compEnvC scope cl C env).scope.kind = .function) (hx : (compEnvC scope cl C env).kindOf x = some .globalImplicit) (hd : (x == ("__debug__" : Str)) = false) (h : Q v s) :
  wpAny M A (eval (.Name x pos) (compEnvC scope cl C env)) Q E s :=
 Name_function_global hk hx (loadGlobal_builtin (env := compEnvC scope cl C env) (show s.heap.Ns env.globals mg from hg ▸ T.g.keeps F.keep) (mg_none_of X T.g e) (show s.heap.Ns env.builtins mb from hb ▸ T.b.keeps F.keep) ((T.builtins x hn).trans hv) h) hd
end
theorem stage10 {P : Prop} {g h : Heap} {L : Addr} {x a1 a2 a3 a4 a5 a6 a7 a8 a9 : Addr × Obj} {tl fz : List (Addr × Obj)} (N : News g L h (x :: (tl ++ (a1 :: a2 :: a3 :: a4 :: a5 :: a6 :: a7 :: a8 :: a9 :: fz))))
  (q : ∀ fy, (∀ p ∈ fz, p ∈ fy) → (∀ p ∈ tl, p ∈ fy) → News g L h (x :: a1 :: a2 :: a3 :: a4 :: a5 :: a6 :: a7 :: a8 :: a9 :: fy) → P) : P :=
 q (fz ++ tl) (fun p hp => List.mem_append_left _ hp) (fun p hp => List.mem_append_right _ hp) fun p hp => N p (by
  revert p; (try dsimp only [List.cons_append, List.nil_append]); repeat' with_reducible first | exact sbn | exact sbr | exact sbl | exact sbq | refine sbc ?_ ?_ | refine sba ?_ ?_ | exact mmh | assumption | refine mmt ?_ | refine mmr ?_ | refine sbt ?_ | refine sbp ?_)
theorem eq_dictsB {prog : Program} {w : World} {A : Around} {E : Value → Shared → Prop} {s : Shared} {h₀ : Heap} {L a b : Addr} {news : List (Addr × Obj)} {oa ob : Obj} {ka kb : List (Int × Value)} {da db : List (Int × List Int)} {fa fb : List (Addr × Obj)} {r : Bool} {Q : Value → Shared → Prop} (N : News h₀ L s.heap news) (ha : (a, oa) ∈ news) (hb : (b, ob) ∈ news) (ia : oa.IsDictOf (intKind prog w) ka) (ib : ob.IsDictOf (intKind prog w) kb) (la : (a == sysModules) = false) (lb : (b == sysModules) = false)
  (ra : Rep (TupV fa) ka da) (rb : Rep (TupV fb) kb db) (xa : ∀ p ∈ fa, p ∈ news) (xb : ∀ p ∈ fb, p ∈ news) (hu : A.in1.units + 64 < cLine) (hr : dEqB da db = r) (h : Q (.bool r) s) : wpAny (model prog w) A (compareOp .Eq (.ref a) (.ref b)) Q E s :=
 eq_dicts N ha hb ia ib la lb ra rb xa xb hu (hr ▸ h)
theorem or_two {M : Model} {A : Around} {E : Value → Shared → Prop} {s : Shared} {env : Env} {e₁ e₂ : PySem.Expr} {pos : Pos} {a b : Bool} {Q : Value → Shared → Prop} (h1 : ∀ Q' : Value → Shared → Prop, Q' (.bool a) s → wpAny M A (eval e₁ env) Q' E s) (h2 : ∀ Q' : Value → Shared → Prop, Q' (.bool b) s → wpAny M A (eval e₂ env) Q' E s) (h : Q (.bool (a || b)) s) :
  wpAny M A (eval (.BoolOp .Or [e₁, e₂] pos) env) Q E s := by
 refine BoolOp_or (h1 _ (wpAny_truthy_bool ?_))
 cases a with
 | true => exact h
 | false => exact BoolOp_one (h2 _ h)
theorem four_eq {x x' y y' : Bool} {u v : Value} (h : x = x') (h' : y = y') : [Value.bool x, .bool y, u, v] = [.bool x', .bool y', u, v] := by rw [h, h']
theorem told0 {f g : List Int} (hf : RowOk f) (hg : RowOk g) : eqI (ratio (quickM (shadesF f 6) (shadesF g 6)) 42) 1 = (decide (g = f) || decide (g = f.reverse)) := by
 have hq := quick_le (shadesF f 6) (shadesF g 6)
 rw [shades_len] at hq
 rw [one42 hq.1 hq.2]
 by_cases h : g = f ∨ g = f.reverse
 ·rw [decide_eq_true ((quick_all hf hg).mpr h)]
  rcases h with h | h
  ·rw [decide_eq_true h]; rfl
  ·rw [decide_eq_true h, Bool.or_true]
 ·rw [decide_eq_false (fun q => h ((quick_all hf hg).mp q)), decide_eq_false (fun q => h (.inl q)), decide_eq_false (fun q => h (.inr q))]; rfl
theorem told4 {f g : List Int} (hf : RowOk f) (hg : RowOk g) : eqI (ratio (quickM ((shadesF f 6).take 6) ((shadesF g 6).take 6)) 12) 1 = decide (g = f) := by
 have hq := quick_le ((shadesF f 6).take 6) ((shadesF g 6).take 6)
 rw [List.length_take, shades_len] at hq
 rw [one12 hq.1 hq.2]
 by_cases h : g = f
 ·rw [decide_eq_true ((quick_six hf hg).mpr h), decide_eq_true h]
 ·rw [decide_eq_false (fun q => h ((quick_six hf hg).mp q)), decide_eq_false h]
theorem drop3 {g h : Heap} {L : Addr} {x1 x2 x3 : Addr × Obj} {l : List (Addr × Obj)} (N : News g L h (x1 :: x2 :: x3 :: l)) : News g L h l := fun p hp => N p (.tail _ (.tail _ (.tail _ hp)))
end Mine
end
section
open PySem PySem.W PyProof.Rows PySem.Calls PySem.Spec
set_option Elab.async false
set_option maxRecDepth 100000
namespace Mine
theorem stage11 {P : Prop} {g h : Heap} {L : Addr} {x : Addr × Obj} {tl l : List (Addr × Obj)} (N : News g L h (x :: (tl ++ l))) (q : News g L h (x :: l) → P) : P :=
 q fun p hp => N p (by
  rcases List.mem_cons.mp hp with rfl | hp
  ·exact .head _
  ·exact .tail _ (List.mem_append_right _ hp))
theorem slice6K {prog : Program} {w : World} {A : Around} {E : Value → Shared → Prop} {s : Shared} {h₀ : Heap} {L l : Addr} {m : Str → Option Value} {news : List (Addr × Obj)} {value slice : PySem.Expr} {vs : List Value} {ns : List Int} {n : Nat} {t : Tok} {Q : Value → Shared → Prop} (F : Fr h₀ L s.heap m) (N : News h₀ L s.heap news) (hm : (l, lstO vs n) ∈ news) (iv : IntsAre vs ns) (hz : ns.length ≤ 1000)
  (h : ∀ D ws h', Fr h₀ L h' m → News h₀ L h' ((D, lstO ws 0) :: news) → (∀ p ∈ news, p.1 < D) → (∀ b o, s.heap.get? b = some o → h'.get? b = some o) → IntsAre ws (ns.take 6) → Q (.ref D) { s with heap := h' })
  (hs : subscripted slice false (.ref l) (.ref s.heap.objs.size) = operate [.ref s.heap.objs.size, .ref l] (getItem (.ref l) (.ref s.heap.objs.size))) (ht : ∀ r, letTemporaryGo value (.ref l) r = pure ()) :
  wpAny (model prog w) A (subscriptTail value slice (.ref l) (.ref s.heap.objs.size)) Q E { s with heap := s.heap.push { cls := .type "slice", data := .fields #[.none, .int 6 t, .none] } } := by
 have hl : s.heap.IsList l vs.toArray := ⟨_, (N _ hm).1, rfl, n, rfl⟩
 refine subscriptTail_ops (Heap.IsList.typeIs (s := { s with heap := s.heap.push { cls := .type "slice", data := .fields #[.none, .int 6 t, .none] } }) (hl.push _)) list_getitem_lookup
  (wpAny_getItem_list_slice (hl.push _) (Heap.IsSliceOf.new ..) .none (.int 6 t) .none (by decide) ?_ (by rw [List.size_toArray, iv.length, sizeLine_eq]; omega)) hs ht
 have N1 := News.push (F.push { cls := .type "slice", data := .fields #[.none, .int 6 t, .none] }) (N.grown fun _ _ e => Heap.get?_push_of_some _ e) { cls := .type "list", data := .seq (slicePick vs.toArray none (some 6) none) }
 refine h _ (slicePick vs.toArray none (some 6) none).toList _ ((F.push _).push _) ?_ (fun p hp => Heap.lt_size (N.grown (fun _ _ e => Heap.get?_push_of_some _ e) p hp).1) (fun b o e => Heap.get?_push_of_some _ (Heap.get?_push_of_some _ e)) (kmk_upto iv (by decide))
 show News h₀ L _ ((_, { cls := .type "list", data := .seq (slicePick vs.toArray none (some 6) none).toList.toArray 0 }) :: news)
 rw [Array.toArray_toList]
 exact N1
theorem lenIntsM {prog : Program} {w : World} {A : Around} {E : Value → Shared → Prop} {s : Shared} {h₀ : Heap} {L a : Addr} {news : List (Addr × Obj)} {vs : List Value} {ns : List Int} {n : Nat} {c : Int} {Q : Value → Shared → Prop} (N : News h₀ L s.heap news) (hm : (a, lstO vs n) ∈ news) (iv : IntsAre vs ns) (hz : ns.length ≤ 1000) (hc : (ns.length : Int) = c)
  (h : ∀ t, Q (.int c t) { s with toks := s.toks + 1 + 1 }) : wpAny (model prog w) A (call (.builtin "len") [.ref a]) Q E s := by
 have e : vs.toArray.size = ns.length := by rw [List.size_toArray, iv.length]
 refine len_list ⟨_, (N _ hm).1, rfl, n, rfl⟩ (by rw [e]; omega) ?_
 rw [e, hc]
 exact h _
theorem filter_any (p q : List Int) : (p.filter fun k => q.any fun x => x == k) = p.filter fun k => decide (k ∈ q) := by
 congr 1
 funext k
 rw [Bool.eq_iff_iff, List.any_eq_true, decide_eq_true_iff]
 exact ⟨fun ⟨x, h, e⟩ => by rw [← eq_of_beq e]; exact h, fun h => ⟨k, h, beq_self_eq_true k⟩⟩
theorem among_len {f g : List Int} (hf : RowOk f) : (((((shadesF f 6).take 6).filter fun k => (shadesF g 6).any fun x => x == k).length : Nat) : Int) = quickM ((shadesF f 6).take 6) (shadesF g 6) := by
 rw [filter_any]; exact (quick_among hf).symm
theorem level_len {f g : List Int} (hf : RowOk f) : (((((shadesF f 6).take 6).filter fun k => ((shadesF g 6).take 6).any fun x => x == k).length : Nat) : Int) = quickM ((shadesF f 6).take 6) ((shadesF g 6).take 6) := by
 rw [filter_any]; exact (quick_level hf).symm
theorem back_len {f g : List Int} (hg : RowOk g) : (((((shadesF g 6).take 6).filter fun k => (shadesF f 6).any fun x => x == k).length : Nat) : Int) = quickM (shadesF f 6) ((shadesF g 6).take 6) := by
 rw [filter_any]; exact (quick_back hg).symm
theorem filter_len (q : Int → Bool) {p : List Int} (h : p.length = 6) : (p.filter q).length ≤ 1000 := Nat.le_trans (List.length_filter_le _ _) (by omega)
theorem drop7 {g h : Heap} {L : Addr} {x1 x2 x3 x4 x5 x6 x7 : Addr × Obj} {l : List (Addr × Obj)} (N : News g L h (x1 :: x2 :: x3 :: x4 :: x5 :: x6 :: x7 :: l)) : News g L h l := fun p hp => N p (.tail _ (.tail _ (.tail _ (.tail _ (.tail _ (.tail _ (.tail _ hp)))))))
end Mine
end
section
open PySem PySem.W PyProof.Rows PySem.Calls PySem.Spec
set_option Elab.async false
set_option maxRecDepth 100000
namespace Mine
theorem NoneBookedK {h h' : Heap} (x : NoneBooked h) (hk : ∀ b o, h.get? b = some o → h'.get? b = some o) : NoneBooked h' := let ⟨mc, a, b⟩ := x; ⟨mc, a.keeps hk, b⟩
theorem stage12 {P : Prop} {g h : Heap} {L : Addr} (X l fz tl : List (Addr × Obj)) (N : News g L h (tl ++ (X ++ (l ++ fz)))) (q : ∀ fy, (∀ p ∈ fz, p ∈ fy) → (∀ p ∈ tl, p ∈ fy) → News g L h (l ++ fy) → P) : P :=
 q (fz ++ tl) (fun p hp => List.mem_append_left _ hp) (fun p hp => List.mem_append_right _ hp) fun p hp => N p (by
  simp only [List.mem_append] at hp ⊢
  rcases hp with h | h | h
  ·exact .inr (.inr (.inl h))
  ·exact .inr (.inr (.inr h))
  ·exact .inl h)
theorem app_nil {tl fy : List (Addr × Obj)} (h : ∀ p ∈ tl, p ∈ fy) : ∀ p ∈ tl ++ [], p ∈ fy := fun p hp => h p (by simpa using hp)
theorem ne_readsB {prog : Program} {w : World} {A : Around} {E : Value → Shared → Prop} {s : Shared} {h₀ : Heap} {L : Addr} {news l1 l2 : List (Addr × Obj)} {a b : Value} {da db : PyData} {Q : Value → Shared → Prop} (N : News h₀ L s.heap news) (x : ReadsIn l1 a da) (y : ReadsIn l2 b db) (k1 : ∀ p ∈ l1, p ∈ news) (k2 : ∀ p ∈ l2, p ∈ news)
  (ha : SeqAt.shaped da = true) (hb : SeqAt.shaped db = true) (hu : A.units + 64 < cLine) (he : PyData.eqv da db = true) (h : Q (.bool false) s) : wpAny (model prog w) A (compareOp .NotEq a b) Q E s :=
 ne_readsIn N x y k1 k2 ha hb hu (by rw [he]; exact h)
theorem eq_intsT {prog : Program} {w : World} {A : Around} {E : Value → Shared → Prop} {s : Shared} {h₀ : Heap} {L a b : Addr} {news : List (Addr × Obj)} {vs us : List Value} {ns ms : List Int} {n k : Nat} {Q : Value → Shared → Prop} (N : News h₀ L s.heap news) (ha : (a, lstO vs n) ∈ news) (hb : (b, lstO us k) ∈ news) (ia : IntsAre vs ns) (ib : IntsAre us ms) (hu : A.units + 64 < cLine) (he : ns = ms) (h : Q (.bool true) s) : wpAny (model prog w) A (compareOp .Eq (.ref a) (.ref b)) Q E s :=
 eq_intsI N ha hb ia ib hu (by rw [decide_eq_true he]; exact h)
theorem three_get {a b c : Int} {t u v : Tok} {i : Nat} {r : Value} (e : ([Value.int a t, .int b u, .int c v] : List Value)[i]? = some r) : ∃ k w, r = .int k w := by
 match i, e with
 | 0, e => cases e; exact ⟨_, _, rfl⟩
 | 1, e => cases e; exact ⟨_, _, rfl⟩
 | 2, e => cases e; exact ⟨_, _, rfl⟩
 | n + 3, e => simp at e
end Mine
end
section
open PySem PySem.W PyProof.Rows PySem.Calls PySem.Spec
set_option Elab.async false
set_option maxRecDepth 100000
open Mine
theorem Mine.rowsLFa : True := by
 k_with_none
 (k_with "mine lt" => with_reducible first | assumption | exact cj0 ‹_› | exact cj1 ‹_› | exact cj2 ‹_› | exact cj3 ‹_› | exact cj4 ‹_› | exact cj5 ‹_› | exact cj6 ‹_› | exact cj7 ‹_› | exact cj8 ‹_› | exact cj9 ‹_› | exact cj10 ‹_› | exact cj11 ‹_› | exact cj12 ‹_› | exact cj13 ‹_› | exact cj14 ‹_› | exact cj15 ‹_› | exact dk1 ‹_› | exact dk2 ‹_› | exact dk3 ‹_› | exact dk4 ‹_› | exact dk5 ‹_› | exact dk6 ‹_› | exact dk7 ‹_› | exact dk8 ‹_› | exact dk9 ‹_› | exact dk10 ‹_› | exact dk11 ‹_› | exact dk12 ‹_› | exact dk13 ‹_› | exact dk14 ‹_› | exact dk15 ‹_›)
 (k_with "mine k_ne" => (refine neN ?_; (try dsimp only); first | with_reducible assumption | exact ApartN.ne (by assumption) | exact ApartN.ne' (by assumption) | exact Ne.symm (by with_reducible assumption) | exact Nat.ne_of_lt (by k_extra "mine lt") | exact Nat.ne_of_gt (by k_extra "mine lt") | omega))
 (k_with "mine storeName" => (k_here; (with_reducible show wpAny _ _ (storeName _ (Str.ofString "shades") _) _ _ _); k_dflt (refine' storeCell1 (by rfl) (by kernel_rfl!) (by kernel_rfl!) (by kernel_rfl!) (by k_asm) (by k_asm) (by k_updF) (by assumption) ?_); intro h'xq o'xq F'xq N'xq d'xq; (try dsimp only at N'xq)))
 (k_with "mine eval Name" => (k_here; (with_reducible show wpAny _ _ (eval (PySem.Expr.Name (Str.ofString "shades") _) _) _ _ _); k_dflt (refine' nameFree (by rfl) (by rfl) (by rfl) (by k_asm) (by k_mem) (by assumption) (by decide) (by decide) ?_)))
 (k_with "mine eval Name" => (k_here; (with_reducible show wpAny _ _ (eval (PySem.Expr.Name (Str.ofString "shades") _) _) _ _ _); k_dflt (refine' nameCell1 (by rfl) (by kernel_rfl!) (by kernel_rfl!) (by kernel_rfl!) (by kernel_rfl!) (by k_asm) (by k_mem) (by assumption) ?_)))
 (k_with "mine storeName" => (k_here; (with_reducible show wpAny _ _ (storeName _ (Str.ofString "others") _) _ _ _); k_dflt (refine' storeCell2 (by rfl) (by kernel_rfl!) (by kernel_rfl!) (by kernel_rfl!) (by k_asm) (by k_asm) (by k_updF) (by assumption) ?_); intro h'xq o'xq F'xq N'xq d'xq; (try dsimp only at N'xq)))
 (k_with "mine eval Name" => (k_here; (with_reducible show wpAny _ _ (eval (PySem.Expr.Name (Str.ofString "others") _) _) _ _ _); k_dflt (refine' nameFree (by rfl) (by rfl) (by rfl) (by k_asm) (by k_mem) (by assumption) (by decide) (by decide) ?_)))
 (k_with "mine eval Name" => (k_here; (with_reducible show wpAny _ _ (eval (PySem.Expr.Name (Str.ofString "others") _) _) _ _ _); k_dflt (refine' nameCell2 (by rfl) (by kernel_rfl!) (by kernel_rfl!) (by kernel_rfl!) (by kernel_rfl!) (by k_asm) (by k_mem) (by assumption) ?_)))
 (k_with "mine subscriptTail Name Slice ref ref" => (k_here; k_dflt (refine' slice6 (by k_asm) (by k_asm) (by k_mem) (by assumption) (by first | assumption | omega | exact Nat.le_of_ble_eq_true rfl) ?_ (by with_unfolding_all rfl) (by intro _; with_unfolding_all rfl)); intro D'xq ws'xq h'xq F'xq N'xq l1xq iw'xq; (try k_lt l1xq); (try k_sweep)))
 (k_with "mine k_all" => (first | assumption | (refine List.forall_mem_cons.mpr (And.intro ?_ ?_); (focus k_ne); k_all)))
 (k_with "mine eval ListComp" => (refine stopAt ?_))
 (k_with "mine exec Assign cons ListComp" => (refine stopAt ?_))
 (k_with "mine exec Assign cons DictComp" => (refine stopAt ?_))
 (k_with "mine pyIter ref" => (refine stopAt ?_))
 (k_with "mine call ref" => (refine stopAt ?_))
 (k_with "mine compareOp Eq ref ref" => (refine stopAt ?_))
 (k_with "mine getMethod ref" => (k_here; (with_reducible show wpAny _ _ (getMethod (Value.ref _) (Str.ofString "quick_ratio") _) _ _ _); k_dflt (refine' method_inst (by k_asm) (by k_asm) (by k_inst) (by k_is) (by k_is) (by k_is) (by k_get) ?_; k_whole)))
 (k_with "mine getMethod ref" => (k_here; (with_reducible show wpAny _ _ (getMethod (Value.ref _) (Str.ofString "real_quick_ratio") _) _ _ _); k_dflt (refine' method_inst (by k_asm) (by k_asm) (by k_inst) (by k_is) (by k_is) (by k_is) (by k_get) ?_; k_whole)))
 (k_with "mine getMethod ref" => (k_here; (with_reducible show wpAny _ _ (getMethod (Value.ref _) (Str.ofString "set_seq1") _) _ _ _); k_dflt (refine' method_inst (by k_asm) (by k_asm) (by k_inst) (by k_is) (by k_is) (by k_is) (by k_get) ?_; k_whole)))
 (k_with "mine getMethod ref" => (k_here; (with_reducible show wpAny _ _ (getMethod (Value.ref _) (Str.ofString "set_seq2") _) _ _ _); k_dflt (refine' method_inst (by k_asm) (by k_asm) (by k_inst) (by k_is) (by k_is) (by k_is) (by k_get) ?_; k_whole)))
 (k_with "mine call ref" => (k_here; (k_dflt (show wpAny _ _ (call (Value.ref 239) [_]) _ _ _)); k_dflt (refine' funA_use (real _ _ _ (led := [(_, instObj 242 _), (_, md10 _ _ _ _ _ _ _ _ _ _ _ _ _ _ _ _ _), (_, lstO _ _), (_, lstO _ _)]) _ _ _ _ _ _ _ _ _ _ _ _ _ _ (List.Mem.head _) (List.Mem.tail _ (List.Mem.head _)) (ix2 _ _ ⟨List.Mem.tail _ (List.Mem.tail _ (List.Mem.head _)), ?_⟩) (ix2 _ _ ⟨List.Mem.tail _ (List.Mem.tail _ (List.Mem.tail _ (List.Mem.head _))), ?_⟩) ?_) (by k_asm) (by k_asm) (by k_asm) (by k_asm) (by with_reducible assumption) ?_ ?_ ?_ (by exact real_led (by k_mem) (by k_mem) (by k_mem) (by k_mem)) ?_; (rotate_left 2); (focus assumption); (focus assumption); (focus omega); (focus first | exact rfl | assumption); (focus ktr_room); (focus ktr_units)); intro rvxq tl9xq h9xq tk9xq F9xq N9xq kp9xq ne9xq rnxq; refine hdG ?_; intro Xh hXh; obtain ⟨t9xq, z9xq, e9xq⟩ := rnxq; subst e9xq; refine hXh ?_; clear hXh; (replace N9xq := N9xq.right); (try clear ne9xq)))
 (k_with "mine call ref" => (k_here; (with_reducible show wpAny _ _ (call (Value.ref 302) _) _ _ _); k_dflt (refine' funU_useAt (heapsAt _ _ _ (by assumption) (by assumption) (.cons _ _ (.cons _ _ (.cons _ _ (.cons _ _ (.cons _ _ (.cons _ _ (.cons _ _ (.cons _ _ (.cons _ _ (.cons _ _ .nil)))))))))) rfl) (by k_asm) (by k_asm) (by k_asm) (by k_asm) (by with_reducible assumption) (by k_updF) (by first | exact rfl | assumption) (by ktr_room) (by ktr_units) (fun _ hxq => nomatch hxq) ?_); intro rvxq o9xq tl9xq h9xq tk9xq F9xq N9xq ne9xq rnxq; refine hdG ?_; intro Xh hXh; (obtain ⟨e9xq, hZxq⟩ := rnxq; refine ex2 hZxq ?_; clear hZxq; rintro vs9xq n9xq hZxq; obtain ⟨q9xq, iv9xq⟩ := hZxq); subst e9xq; subst q9xq; refine hXh ?_; clear hXh; (replace N9xq := N9xq.right); (try dsimp only at N9xq); (try clear ne9xq)))
 (k_with "mine subscriptTail Name Slice ref ref" => (k_here; (with_reducible show wpAny _ _ (subscriptTail _ (PySem.Expr.Slice none none (some _) _) (Value.ref _) (Value.ref _)) _ _ _); k_dflt (refine' sliceR (by k_asm) (by k_asm) (by k_mem) (by assumption) (by omega) (by exact IsPart.int _ _) ?_ (by with_unfolding_all rfl) (by intro _; with_unfolding_all rfl)); intro D'xq ws'xq h'xq F'xq N'xq l1xq iw'xq; (try k_lt l1xq); (try k_sweep)))
 (k_with "mine eval Name" => (k_here; (with_reducible show wpAny _ _ (eval (PySem.Expr.Name (Str.ofString "part") _) _) _ _ _); k_dflt (refine' LCgL.ld_own (by with_reducible assumption) (by k_mem) (by with_reducible assumption) (by with_reducible assumption) ?_ (by rfl) (by rfl) (by decide))))
 (k_with "mine eval Name" => (k_here; (with_reducible show wpAny _ _ (eval (PySem.Expr.Name (Str.ofString "whole") _) _) _ _ _); k_dflt (refine' LCgL.ld_own (by with_reducible assumption) (by k_mem) (by with_reducible assumption) (by with_reducible assumption) ?_ (by rfl) (by rfl) (by decide))))
 (k_with "mine eval Name" => (k_here; (with_reducible show wpAny _ _ (eval (PySem.Expr.Name (Str.ofString "times") _) _) _ _ _); k_dflt (refine' LCgL.ld_own (by with_reducible assumption) (by k_mem) (by with_reducible assumption) (by with_reducible assumption) ?_ (by rfl) (by rfl) (by decide))))
 (k_with "mine eval Name" => (k_here; (with_reducible show wpAny _ _ (eval (PySem.Expr.Name (Str.ofString "x") _) _) _ _ _); k_dflt (refine' LCgL.ld_own (by with_reducible assumption) (by k_mem) (by with_reducible assumption) (by with_reducible assumption) ?_ (by rfl) (by rfl) (by decide))))
 (k_with "mine eval Name" => (k_here; (with_reducible show wpAny _ _ (eval (PySem.Expr.Name (Str.ofString "shade") _) _) _ _ _); k_dflt (refine' LCgL.ld_own (by with_reducible assumption) (by k_mem) (by with_reducible assumption) (by with_reducible assumption) ?_ (by rfl) (by rfl) (by decide))))
 (k_with "mine subscriptTail Name Constant ref int" => (k_here; (with_reducible show wpAny _ _ (subscriptTail (PySem.Expr.Name (Str.ofString "part") _) _ (Value.ref _) (Value.int _ _)) _ _ _); k_dflt (refine' tup_item (by k_asm) (by k_mem) (by decide) (by decide) (by rfl) (by rfl) ?_ (by with_unfolding_all rfl) (by intro _; with_unfolding_all rfl))))
 (k_with "mine eval Name" => (k_here; (with_reducible show wpAny _ _ (eval (PySem.Expr.Name (Str.ofString "neg") _) (compEnvC _ _ _ _)) _ _ _); k_dflt (refine' ld_globalR (by k_asm) (by k_asm) (by with_reducible assumption) (by k_is) (by rfl) (by rfl) (by rfl) (by decide) ?_)))
 (k_with "mine eval Name" => (k_here; (with_reducible show wpAny _ _ (eval (PySem.Expr.Name (Str.ofString "truediv") _) (compEnvC _ _ _ _)) _ _ _); k_dflt (refine' ld_globalR (by k_asm) (by k_asm) (by with_reducible assumption) (by k_is) (by rfl) (by rfl) (by rfl) (by decide) ?_)))
 (k_with "mine eval Name" => (k_here; (with_reducible show wpAny _ _ (eval (PySem.Expr.Name (Str.ofString "abs") _) (compEnvC _ _ _ _)) _ _ _); k_dflt (refine' ld_builtR (by k_asm) (by k_asm) (by with_reducible assumption) (by k_is) (by boot_by_name) (by decide) (by rfl) (by rfl) (by rfl) (by rfl) (by decide) ?_)))
 (k_with "mine eval Name" => (k_here; (with_reducible show wpAny _ _ (eval (PySem.Expr.Name (Str.ofString "isinstance") _) (compEnvC _ _ _ _)) _ _ _); k_dflt (refine' ld_builtR (by k_asm) (by k_asm) (by with_reducible assumption) (by k_is) (by boot_by_name) (by decide) (by rfl) (by rfl) (by rfl) (by rfl) (by decide) ?_)))
 (k_with "mine eval Name" => (k_here; (with_reducible show wpAny _ _ (eval (PySem.Expr.Name (Str.ofString "float") _) (compEnvC _ _ _ _)) _ _ _); k_dflt (refine' ld_builtR (by k_asm) (by k_asm) (by with_reducible assumption) (by k_is) (by boot_by_name) (by decide) (by rfl) (by rfl) (by rfl) (by rfl) (by decide) ?_)))
 (k_with "mine eval Name" => (k_here; (with_reducible show wpAny _ _ (eval (PySem.Expr.Name (Str.ofString "int") _) (compEnvC _ _ _ _)) _ _ _); k_dflt (refine' ld_builtR (by k_asm) (by k_asm) (by with_reducible assumption) (by k_is) (by boot_by_name) (by decide) (by rfl) (by rfl) (by rfl) (by rfl) (by decide) ?_)))
 (k_with "mine eval BoolOp" => ((with_reducible show wpAny _ _ (eval (PySem.Expr.BoolOp PySem.BoolOp.Or _ _) _) _ _ _); refine stopAt ?_))
 (k_with "mine compareOp NotEq ref ref" => (refine stopAt ?_))
 (k_with "mine callWith ref" => (k_here; k_dflt (first | (refine' callWith_K (by with_reducible assumption) (by k_is) ?_; k_whole) | (refine' callWith_K0 (inFr (by with_reducible assumption) (by with_reducible assumption)) (by k_is) ?_; k_whole))))
 (k_with "mine call builtin:len" => (refine stopAt ?_))
 (k_with "mine subscriptTail Name Slice ref ref" => (k_here; (with_reducible show wpAny _ _ (subscriptTail (PySem.Expr.Name (Str.ofString "others") _) _ (Value.ref _) (Value.ref _)) _ _ _); k_dflt (refine' slice6K (by k_asm) (by k_asm) (by k_mem) (by assumption) (by omega) ?_ (by with_unfolding_all rfl) (by intro _; with_unfolding_all rfl)); intro D'xq ws'xq h'xq F'xq N'xq l1xq hk'xq iw'xq; (try k_lt l1xq); (try k_sweep)))
 (k_with "mine call type:list" => (refine stopAt ?_))
 (k_with "mine compareOp In int ref" => (k_here; k_dflt (refine in_list_ints (News.isList (by k_asm) (by k_mem)) (by assumption) ?_)))
 trivial
namespace Mine
set_option maxHeartbeats 0 in
noncomputable def law1 : (P : Bag → Prop) ×' (P (bagOf P) → PySem.Challenge.rw_wv0062_01.Holds) := by
 refine' ⟨_, fun hP => ?_⟩
 rotate_left
 refine Mine.half Mine.hdX.2 Mine.hB ?_
 w_on
 k_fill
 intro w s₀ s₁ mg mb G Y fa o pm cd doc dV kV ho hd hcd hD hmg hg args vals as hpre hlay hrd hwl hlo
 have KX := kIn_of Y
 have X := (Ground.X G).1.1
 have V := (Ground.X G).1.2
 refine Ground.open G ?_
 intro T B D TE TW
 have hT9 := Mine.tabs_at T KX
 have TR := ghostTR hT9 T
 have hBm := ghostBm hT9 T
 have NB := ghostNB hT9 (Ground.X G).2
 have hG : AllBare s₁.gens := AllBare.of_eq hg
 clear hmg
 wrow_args hpre hlay hrd hwl hlo
 refine enter_call ?_
 w_top on
 refine endB_post hT9 (fun _ => rfl) (by wrow_post) ?_
 w_call any ho hd hcd hD T F
 clear hd
 kn_ghosts F T
 k_drop
 all_goals (try k_fold)
 rename Fr _ _ _ _ => F1
 replace F1 := Fr_pin F1 (x := Str.ofString "script") rfl
 generalize bindL _ _ = m00 at F1
 try clear hcd
 try clear Y
 try clear TE
 try clear TW
 try clear V
 try clear hlay
 try clear hpre
 try clear hrd
 try clear hwl
 try clear hlo
 rename_i aNs pHs pHl0 pHL1 pHr1 pHl2 aL6 aL5 aA4 aV3 aL2 pHL pRa pW1 pR0 pHI pHr2 pC1 pC2 aH1 aTk aO1 aO0 pLeft pRight pX0 pX' pT' pK' pN' pl0
 revert G ho hg X T B D hT9 TR hBm NB hG pHs pHl0 pHL1 pHr1 pHl2 pHL pRa pW1 pR0 pHI pHr2 pC1 pC2 hD pLeft pRight pX0 pX' pT' pK' lifted codeHd pN' pl0 F1
 revert w s₀ s₁ mg mb fa o pm cd doc aNs aL6 aL5 aA4 aV3 aL2 aH1 aTk aO1 aO0 m00
 exact bagLaw _ (by exact rfl) hP
@[irreducible] def theBL : Bag := bagOf law1.1
namespace LK0
set_option maxHeartbeats 0 in
noncomputable def part : (R : (Addr) → (Addr) → (Addr) → (List Value) → (Nat) → (List Int) → (Addr) → (List Value) → (Nat) → (List Int) → (Addr) → (Addr) → (List Value) → (Nat) → (Obj) → (List (Int × Value)) → (Obj) → (Array Value) → (Array GenState) → (Addr) → (Addr) → (Addr) → (List Value) → (Nat) → (Obj) → (List (Int × Value)) → (List (Addr × Obj)) → (List Int) → (List Int) → (Obj) → (Addr) → (Addr) → (Tok) → (Tok) → (Tok) → (Tok) → (Tok) → (Tok) → (Tok) → (Tok) → (Tok) → (Tok) → (Value) → (Value) → (Value) → (Tok) → (Addr) → (Obj) → (Tok) → (Addr) → (List Value) → (Addr) → (Addr) → (Tok) → (Heap) → (Nat) → (Tok) → (Addr) → (Heap) → Prop) ×' ((∀ x0 x1 x2 x3 x4 x5 x6 x7 x8 x9 x10 x11 x12 x13 x14 x15 x16 x17 x18 x19 x20 x21 x22 x23 x24 x25 x26 x27 x28 x29 x30 x31 x32 x33 x34 x35 x36 x37 x38 x39 x40 x41 x42 x43 x44 x45 x46 x47 x48 x49 x50 x51 x52 x53 x54 x55 x56 x57 x58, R x0 x1 x2 x3 x4 x5 x6 x7 x8 x9 x10 x11 x12 x13 x14 x15 x16 x17 x18 x19 x20 x21 x22 x23 x24 x25 x26 x27 x28 x29 x30 x31 x32 x33 x34 x35 x36 x37 x38 x39 x40 x41 x42 x43 x44 x45 x46 x47 x48 x49 x50 x51 x52 x53 x54 x55 x56 x57 x58) → law1.1 theBL) := @PSigma.mk _ _ _ fun hR => by
 delta law1
 dsimp only
 intro G ho hg X T B D hT9 TR hBm NB hG pHs pHl0 pHL1 pHr1 pHl2 pHL pRa pW1 pR0 pHI pHr2 pC1 pC2 hD pLeft pRight pX0 pX' pT' pK' lifted codeHd pN' pl0 F1
 w_on
 k_fill
 k_steps
 unfold StopHere
 rename IntsAre _ (heapsL _ _) => iv9
 obtain ⟨h0, h1, h2, h3, h4, h5, h6, h7, h8, h9, e10⟩ := ten (heapsL_len [0, 1, 0, 2, 1, 1, 1, 8, 0, 3] _)
 rw [e10] at iv9
 refine comp_oneA (by with_unfolding_all rfl) (by rfl) (by rfl) (by with_unfolding_all rfl) (by decide) (by rfl) (by decide) (by rfl) ?_
 k_steps
 unfold StopHere
 refine one_mapA (fun x => x.fmod 3) (by k_asm) (by k_asm) (by k_mem) (by assumption) (by rfl) (Nat.le_of_ble_eq_true rfl) (fun k t C' oC' h' tk' m' Q' E' nC hx F' N' off' ret' => ?_) (fun D' h' tk' ws n' F' N' off' ivF => ?_)
 ·k_steps
  exact ret' _ _ _ ⟨_, rfl⟩ (fun _ _ e => e)
 ·have ivF : IntsAre ws (firstL [h0, h1, h2, h3, h4, h5, h6, h7, h8, h9]) := ivF
  have rowF := firstL_ok (hs := [h0, h1, h2, h3, h4, h5, h6, h7, h8, h9]) rfl
  generalize firstL [h0, h1, h2, h3, h4, h5, h6, h7, h8, h9] = f at ivF rowF
  have off9 := apart_all off'
  clear off'
  simp only [List.forall_mem_cons] at off9
  refine hdG ?_; intro Xh hXh
  refine an5 off9 ?_
  try clear off9
  rintro _ _ a1 a2 a3 _
  refine hXh ?_; clear hXh
  have b1 : ApartN ((theBL.s 1).heap.objs.size + 1 + 1) ((theBL.s 1).heap.objs.size + 1) := Nat.succ_ne_self _
  have b2 : ApartN 283 ((theBL.s 1).heap.objs.size + 1) := by unfold ApartN; omega
  have b3 : ApartN 283 ((theBL.s 1).heap.objs.size + 1 + 1) := by unfold ApartN; omega
  k_steps
  unfold StopHere
  refine funA_use (secondC _ _ _ (led := [(D', lstO ws n'), (_, lstO _ _)]) (ix2 _ _ ⟨.head _, ivF⟩) rowF.1 (ix2 _ _ ⟨.tail _ (.head _), iv9⟩)) (by k_asm) (by k_asm) (by k_asm) (by k_asm) TR (by rfl) (by ktr_room) (by ktr_units) (mem2 (by k_mem) (by k_mem)) (fun r tl h2 tk2 F2 N2 _ ne2 hP => ?_)
  refine hdG ?_; intro Xh hXh
  obtain ⟨SE, hZ⟩ := hP
  obtain ⟨rfl, hZ⟩ := hZ
  refine ex2 hZ ?_
  clear hZ
  rintro vsS nS hZ
  obtain ⟨mSE, ivS⟩ := hZ
  have N3 := take1 N2 mSE
  have nSE := aparts ne2 mSE
  simp only [List.forall_mem_cons] at nSE
  refine an6 nSE ?_
  try clear nSE
  rintro _ _ _ _ _ _ _
  refine hXh ?_; clear hXh
  have rowS := secondL_ok rowF h6 h7 h8 h9
  clear ne2 N2 mSE
  generalize secondL f h6 h7 h8 h9 = g at ivS rowS
  refine stage0 N3 fun N4 => ?_
  clear N3
  k_steps
  unfold StopHere
  refine funM_use (stretchesL _ _ _ (led := [(D', lstO ws n')]) (ix2 _ _ ⟨.head _, ivF⟩) rowF (by k_ne)) (by k_asm) (by k_asm) (by k_asm) (by k_asm) TR hBm (by k_updF) (by exact trivial) hG (by rfl) (by ktr_room) (by ktr_units) (fun p hp => by rw [List.mem_singleton.mp hp]; k_mem) (fun r tl ps1 h2 tk2 gs1 F2 N2 tr1 hG1 ne2 hP => ?_)
  refine hdG ?_; intro Xh hXh
  refine ex3 hP ?_
  try clear hP
  rintro T1 SH BK hZ
  refine an3 hZ ?_
  clear hZ
  rintro rfl mT1 ⟨vsH, nH, mSH, ivH⟩ ⟨oB, kvB, mB, iB, rB, loB⟩
  have N3 := take3 N2 mT1 mSH mB
  have nT1 := aparts ne2 mT1
  have nSH := aparts ne2 mSH
  have nBK := aparts ne2 mB
  simp only [List.forall_mem_cons] at nT1 nSH nBK
  refine an5 nT1 ?_
  try clear nT1
  rintro _ _ _ _ _ _
  refine an5 nSH ?_
  try clear nSH
  rintro _ _ _ _ _ _
  refine an5 nBK ?_
  try clear nBK
  rintro _ _ _ _ _ _
  refine hXh ?_; clear hXh
  have oc1 := off_from ne2 (c := (theBL.s 1).heap.objs.size + 1) (by k_mem)
  have oc2 := off_from ne2 (c := (theBL.s 1).heap.objs.size + 1 + 1) (by k_mem)
  have o283 := off_from ne2 (c := 283) (by k_mem)
  simp only [List.cons_append, List.nil_append] at N3
  clear ne2 N2
  k_steps
  unfold StopHere
  refine funM_use (stretchesL _ _ _ (led := [(SE, lstO vsS nS)]) (ix2 _ _ ⟨.head _, ivS⟩) rowS (by k_ne)) (by k_asm) (by k_asm) (by k_asm) (by k_asm) TR hBm (by k_updF) tr1 hG1 (by rfl) (by ktr_room) (by ktr_units) (fun p hp => by rw [List.mem_singleton.mp hp]; k_mem) (fun r tl2 ps2 h3 tk3 gs2 F2 N2 tr2 hG2 ne2 hP => ?_)
  refine hdG ?_; intro Xh hXh
  refine ex3 hP ?_
  try clear hP
  rintro T2 OT PG hZ
  refine an3 hZ ?_
  clear hZ
  rintro rfl mT2 ⟨vsO, nO, mOT, ivO⟩ ⟨oP, kvP, mP, iP, rP, loP⟩
  have N3 := take3 N2 mT2 mOT mP
  have nT2 := aparts ne2 mT2
  have nOT := aparts ne2 mOT
  have nPG := aparts ne2 mP
  simp only [List.forall_mem_cons] at nT2 nOT nPG
  refine an8 nT2 ?_
  try clear nT2
  rintro _ _ _ _ _ _ _ _ _
  refine an8 nOT ?_
  try clear nOT
  rintro _ _ _ _ _ _ _ _ _
  refine an8 nPG ?_
  try clear nPG
  rintro _ _ _ _ _ _ _ _ _
  refine hXh ?_; clear hXh
  have pc1 := off_from ne2 (c := (theBL.s 1).heap.objs.size + 1) (by k_mem)
  have pc2 := off_from ne2 (c := (theBL.s 1).heap.objs.size + 1 + 1) (by k_mem)
  have p283 := off_from ne2 (c := 283) (by k_mem)
  simp only [List.cons_append, List.nil_append] at N3
  clear ne2 N2
  refine stage6 N3 fun fz N4 efz => ?_
  have oc1 : ∀ p ∈ fz, @Ne Nat p.1 ((theBL.s 1).heap.objs.size + 1) := efz ▸ off_app oc1 pc1
  have oc2 : ∀ p ∈ fz, @Ne Nat p.1 ((theBL.s 1).heap.objs.size + 1 + 1) := efz ▸ off_app oc2 pc2
  have o283 : ∀ p ∈ fz, @Ne Nat p.1 283 := efz ▸ off_app o283 p283
  have rB := rB.mono fun v x hv => TupV.mono hv (l' := fz) fun p hp => efz ▸ List.mem_append_left _ hp
  have rP := rP.mono fun v x hv => TupV.mono hv (l' := fz) fun p hp => efz ▸ List.mem_append_right _ hp
  clear N3 pc1 pc2 p283 efz mT2 mOT mP
  have lP := shadesF_len f
  have lQ := shadesF_len g
  refine hdG ?_; intro Xh hXh
  obtain ⟨sP, eP⟩ : ∃ p, p = shadesF f 6 := ⟨_, rfl⟩
  obtain ⟨sQ, eQ⟩ : ∃ p, p = shadesF g 6 := ⟨_, rfl⟩
  refine hXh ?_; clear hXh
  rw [← eP] at ivH lP
  rw [← eQ] at ivO lQ
  k_steps
  unfold StopHere
  refine funA_use (ctor _ _ _ (led := [(SH, lstO vsH nH), (OT, lstO vsO nO)]) (ix2 _ _ ⟨.head _, ivH⟩) (ix2 _ _ ⟨.tail _ (.head _), ivO⟩) (by omega) (ApartN.ne (by assumption))) (by k_asm) (by k_asm) (by k_asm) (by k_asm) TR (by rfl) (by ktr_room) (by ktr_units) (mem2 (by k_mem) (by k_mem)) (fun r tl h4 tk4 F2 N2 _ ne2 hP => ?_)
  refine hdG ?_; intro Xh hXh
  refine ex2 hP ?_
  try clear hP
  rintro MM dM hZ
  refine an2 hZ ?_
  clear hZ
  rintro rfl hMI hZ
  refine ex6 hZ ?_
  clear hZ
  rintro t0 t1 t2 t3 t4 t5 hZ
  refine ex6 hZ ?_
  clear hZ
  rintro t6 t7 t8 t9 jj kk hZ
  obtain ⟨nn, hMD⟩ := hZ
  have N3 := take2 N2 hMI hMD
  have nD := aparts ne2 hMD
  simp only [List.forall_mem_cons] at nD
  refine an8 nD ?_
  try clear nD
  rintro _ _ _ _ _ _ _ _ hZ
  refine an2 hZ ?_
  clear hZ
  rintro _ _ odM
  refine hXh ?_; clear hXh
  have odM : ∀ p ∈ fz, @Ne Nat p.1 dM := odM
  have nMD : ApartN MM dM := ne_of_two N3 (.head _) (.tail _ (.head _)) (by intro e; cases e)
  clear ne2 N2 hMI hMD
  k_steps
  unfold StopHere
  show wpAny _ _ (call (Value.ref 232) [Value.ref MM]) _ _ _
  refine' funU_use (quickN _ _ _ (led := [(MM, instObj 242 dM), (SH, lstO vsH nH), (OT, lstO vsO nO)]) (List.Mem.head _) (ix2 _ _ ⟨List.Mem.tail _ (List.Mem.head _), ivH⟩) (ix2 _ _ ⟨List.Mem.tail _ (List.Mem.tail _ (List.Mem.head _)), ivO⟩) (by omega) _ _ _ _ _ _ _ _ _ _ _ _ _) (by k_asm) (by k_asm) (by k_asm) (by k_asm) TR ?kUz143 (by rfl) (by ktr_room) (by ktr_units) (real_ledB (by k_mem) (by k_mem) (by k_mem)) (fun rv o9 tl9 h9 tk9 F9 N9 ne9 rn => ?_)
  case kUz143 => k_updF
  refine hdG ?_; intro Xh hXh
  obtain ⟨⟨u0, zu0, e9⟩, hZ⟩ := rn
  obtain ⟨FB, hZ⟩ := hZ
  obtain ⟨q9, hZ⟩ := hZ
  refine ex2 hZ ?_
  clear hZ
  rintro oF kF hZ
  refine an3 hZ ?_
  clear hZ
  rintro mF iF rF lF
  subst e9
  subst q9
  have N5 := take1 N9 mF
  try dsimp only at N5
  have nF := aparts ne9 mF
  simp only [List.forall_mem_cons] at nF
  refine an2 nF ?_
  try clear nF
  rintro _ _ _
  refine hXh ?_; clear hXh
  clear ne9 N9 mF
  have lP6 : (sP.take 6).length = 6 := by rw [List.length_take]; omega
  have lQ6 : (sQ.take 6).length = 6 := by rw [List.length_take]; omega
  k_steps
  unfold StopHere
  rename IntsAre _ (List.take 6 sP) => ivP6
  rename News _ _ _ _ => N6
  refine name_one N6 fun SL qSL => ?_
  subst qSL
  refine' funU_use (set1 _ _ _ (led := [(MM, instObj 242 dM), (SH, lstO vsH nH), (SL, lstO _ _)]) (ix2 _ _ ⟨List.Mem.tail _ (List.Mem.head _), ivH⟩) (ix2 _ _ ⟨List.Mem.tail _ (List.Mem.tail _ (List.Mem.head _)), ivP6⟩) (List.Mem.head _) ?nez164 _ _ _ _ _ _ _ _ _ _ _ _ _ _) (by k_asm) (by k_asm) (by k_asm) (by k_asm) TR ?kUz164 (by rfl) (by ktr_room) (by ktr_units) (real_ledB (by k_mem) (by k_mem) (by k_mem)) (fun rv o9 tl9 h9 tk9 F9 N9 ne9 rn => ?_)
  case kUz164 => k_updF
  case nez164 => k_ne
  refine hdG ?_; intro Xh hXh
  obtain ⟨e9, q9⟩ := rn
  subst e9
  subst q9
  refine hXh ?_; clear hXh
  have N7 := N9.right
  try dsimp only at N7
  clear N9 ne9
  k_steps
  unfold StopHere
  show wpAny _ _ (call (Value.ref 232) [Value.ref MM]) _ _ _
  refine' funA_use (quickC _ _ _ (led := [(MM, instObj 242 dM), (SL, lstO _ _), (OT, lstO vsO nO), (dM, md10 (theBL.w 0) _ _ _ _ _ _ _ _ _ _ (Value.ref SL) (Value.ref OT) (Value.ref FB) _ _ _), (FB, oF)]) (⟨List.Mem.head _, ix6 _ _ _ _ _ _ (ix6 _ _ _ _ _ _ ⟨_, List.Mem.tail _ (List.Mem.tail _ (List.Mem.tail _ (List.Mem.head _)))⟩)⟩) (ix2 oF kF (ia3 (List.Mem.tail _ (List.Mem.tail _ (List.Mem.tail _ (List.Mem.tail _ (List.Mem.head _))))) iF rF lF)) (ix2 _ _ ⟨List.Mem.tail _ (List.Mem.head _), ivP6⟩) (ix2 _ _ ⟨List.Mem.tail _ (List.Mem.tail _ (List.Mem.head _)), ivO⟩) (by omega)) (by k_asm) (by k_asm) (by k_asm) (by k_asm) TR (by rfl) (by ktr_room) (by ktr_units) (quick_led (by k_mem) (by k_mem) (by k_mem) (by k_mem) (by k_mem)) (fun rv tl9 h9 tk9 F9 N9 _ ne9 rn => ?_)
  refine hdG ?_; intro Xh hXh
  obtain ⟨u2, zu2, e9⟩ := rn
  subst e9
  refine hXh ?_; clear hXh
  have N8 := N9.right
  clear N9 ne9
  k_steps
  rename_i k0z0 k0z1 k0z2 k0z3 k0z4 k0z5 k0z6 k0z7 k0z8 k0z9 k0z10 k0z11 k0z12 k0z13 k0z14 k0z15 k0z16 k0z17 k0z18 k0z19 k0z20 k0z21 k0z22 k0z23 k0z24 k0z25 k0z26 k0z27 k0z28 k0z29 k0z30 k0z31 k0z32 k0z33 k0z34 k0z35 k0z36 k0z37 k0z38 k0z39 k0z40 k0z41 k0z42 k0z43 k0z44 k0z45 k0z46 k0z47 k0z48 k0z49 k0z50 k0z51 k0z52 k0z53 k0z54 k0z55 k0z56 k0z57 k0z58 k0z59 k0z60 k0z61 k0z62 k0z63 k0z64 k0z65 k0z66 k0z67 k0z68 k0z69 k0z70 k0z71 k0z72 k0z73 k0z74 k0z75 k0z76 k0z77 k0z78 k0z79 k0z80 k0z81 k0z82 k0z83 k0z84 k0z85 k0z86 k0z87 k0z88 k0z89 k0z90 k0z91 k0z92 k0z93 k0z94 k0z95 k0z96 k0z97 k0z98 k0z99 k0z100 k0z101 k0z102 k0z103 k0z104 k0z105 k0z106 k0z107 k0z108 k0z109 k0z110 k0z111 k0z112 k0z113 k0z114 k0z115 k0z116 k0z117 k0z118 k0z119 k0z120 k0z121 k0z122 k0z123 k0z124 k0z125 k0z126 k0z127 k0z128 k0z129 k0z130 k0z131 k0z132 k0z133 k0z134 k0z135 k0z136 k0z137 k0z138 k0z139 k0z140 k0z141 k0z142 k0z143 k0z144 k0z145 k0z146 k0z147 k0z148 k0z149 k0z150
  clear Xh kp9xq tl9xq k0z145 k0z144 tk9 h9 tl9 tk k0z143 k0z141 k0z139 k0z138 k0z137 k0z136 h'xq k0z135 k0z133 k0z129 k0z128 k0z127 k0z126 k0z125 k0z124 k0z122 lF rF iF kF k0z121 k0z120 k0z119 k0z118 k0z117 k0z116 k0z115 k0z104 k0z103 tk4 h4 tl k0z102 k0z101 k0z100 N'xq F'xq k0z99 k0z98 k0z97 o283 oc2 oc1 k0z96 k0z95 k0z94 k0z93 k0z92 k0z91 k0z90 k0z89 k0z88 k0z87 k0z86 k0z85 k0z84 k0z83 k0z82 k0z81 k0z80 k0z79 k0z78 k0z77 k0z76 k0z75 k0z74 k0z73 k0z72 k0z71 k0z70 k0z69 k0z68 tr2 tk3 h3 tl2 k0z67 k0z66 k0z65 k0z63 k0z62 k0z60 k0z59 k0z58 k0z57 k0z56 k0z55 k0z54 k0z53 k0z52 k0z51 k0z50 k0z49 k0z48 k0z47 k0z46 k0z45 k0z44 k0z43 k0z42 k0z41 k0z40 k0z39 k0z38 k0z37 mB mSH mT1 T1 k0z36 hG1 tr1 gs1 tk2 h2 ps1 k0z35 k0z34 k0z33 k0z32 k0z31 k0z30 k0z29 k0z28 k0z27 k0z26 k0z25 k0z24 k0z23 k0z22 k0z21 b3 b2 b1 k0z20 a3 a2 a1 k0z19 k0z18 k0z17 k0z16 N' F' tk' h' k0z15 iw'xq k0z14 k0z13 e10 iv9 k0z12 h8 h7 h6 h5 k0z11 k0z10 k0z9 h1 h0 k0z8 k0z7 n9xq vs9xq k0z6 k0z5 k0z4 k0z3 k0z2 k0z1 pl0 codeHd lifted pX0 pRight pLeft hD pC2 pC1 pHr2 pHI pR0 pW1 pRa pHL pHl2 pHr1 pHl0 pHs hG hBm hT9 D B T X hg ho G
  revert TR NB pHL1 pX' pT' pK' ivF rowF ivS rowS iB loB k0z64 hG2 iP loP rB rP lP ivH eP lQ ivO eQ d'xq k0z105 k0z106 k0z107 k0z108 k0z109 k0z110 k0z111 k0z112 k0z113 k0z114 odM nMD zu0 k0z123 lP6 lQ6 k0z131 k0z134 ivP6 l1xq k0z142 zu2 z9xq k0z148 k0z149 k0z150
  revert k0z0 D'xq D' ws n' f SE vsS nS g SH BK vsH nH oB kvB k0z61 ps2 gs2 T2 OT PG vsO nO oP kvP fz sP sQ o'xq MM dM t0 t1 t2 t3 t4 t5 t6 t7 t8 t9 jj kk nn u0 FB oF k0z130 k0z132 ws'xq SL k0z140 u2 h9xq tk9xq t9xq k0z146 k0z147
  exact hR
def theP (zC : Bag) : Prop := part.1 (zC.addr 0) (zC.addr 1) (zC.addr 2) (zC.vl 0) (zC.nat 0) (zC.il 0) (zC.addr 3) (zC.vl 1) (zC.nat 1) (zC.il 1) (zC.addr 4) (zC.addr 5) (zC.vl 2) (zC.nat 2) (zC.obj 0) (zC.kvs 0) (zC.obj 1) (zC.arr 0) (zC.gens 0) (zC.addr 6) (zC.addr 7) (zC.addr 8) (zC.vl 3) (zC.nat 3) (zC.obj 2) (zC.kvs 1) (zC.led 0) (zC.il 2) (zC.il 3) (zC.obj 3) (zC.addr 9) (zC.addr 10) (zC.tok 0) (zC.tok 1) (zC.tok 2) (zC.tok 3) (zC.tok 4) (zC.tok 5) (zC.tok 6) (zC.tok 7) (zC.tok 8) (zC.tok 9) (zC.val 0) (zC.val 1) (zC.val 2) (zC.tok 10) (zC.addr 11) (zC.obj 4) (zC.tok 11) (zC.addr 12) (zC.vl 4) (zC.addr 13) (zC.addr 14) (zC.tok 12) (zC.heap 0) (zC.nat 4) (zC.tok 13) (zC.addr 15) (zC.heap 1)
@[irreducible] def tB : Bag := bagOf theP
@[irreducible] def k0z0 := tB.addr 0
@[irreducible] def D'xq := tB.addr 1
@[irreducible] def D' := tB.addr 2
@[irreducible] def ws := tB.vl 0
@[irreducible] def n' := tB.nat 0
@[irreducible] def f := tB.il 0
@[irreducible] def SE := tB.addr 3
@[irreducible] def vsS := tB.vl 1
@[irreducible] def nS := tB.nat 1
@[irreducible] def g := tB.il 1
@[irreducible] def SH := tB.addr 4
@[irreducible] def BK := tB.addr 5
@[irreducible] def vsH := tB.vl 2
@[irreducible] def nH := tB.nat 2
@[irreducible] def oB := tB.obj 0
@[irreducible] def kvB := tB.kvs 0
@[irreducible] def k0z61 := tB.obj 1
@[irreducible] def ps2 := tB.arr 0
@[irreducible] def gs2 := tB.gens 0
@[irreducible] def T2 := tB.addr 6
@[irreducible] def OT := tB.addr 7
@[irreducible] def PG := tB.addr 8
@[irreducible] def vsO := tB.vl 3
@[irreducible] def nO := tB.nat 3
@[irreducible] def oP := tB.obj 2
@[irreducible] def kvP := tB.kvs 1
@[irreducible] def fz := tB.led 0
@[irreducible] def sP := tB.il 2
@[irreducible] def sQ := tB.il 3
@[irreducible] def o'xq := tB.obj 3
@[irreducible] def MM := tB.addr 9
@[irreducible] def dM := tB.addr 10
@[irreducible] def t0 := tB.tok 0
@[irreducible] def t1 := tB.tok 1
@[irreducible] def t2 := tB.tok 2
@[irreducible] def t3 := tB.tok 3
@[irreducible] def t4 := tB.tok 4
@[irreducible] def t5 := tB.tok 5
@[irreducible] def t6 := tB.tok 6
@[irreducible] def t7 := tB.tok 7
@[irreducible] def t8 := tB.tok 8
@[irreducible] def t9 := tB.tok 9
@[irreducible] def jj := tB.val 0
@[irreducible] def kk := tB.val 1
@[irreducible] def nn := tB.val 2
@[irreducible] def u0 := tB.tok 10
@[irreducible] def FB := tB.addr 11
@[irreducible] def oF := tB.obj 4
@[irreducible] def k0z130 := tB.tok 11
@[irreducible] def k0z132 := tB.addr 12
@[irreducible] def ws'xq := tB.vl 4
@[irreducible] def SL := tB.addr 13
@[irreducible] def k0z140 := tB.addr 14
@[irreducible] def u2 := tB.tok 12
@[irreducible] def h9xq := tB.heap 0
@[irreducible] def tk9xq := tB.nat 4
@[irreducible] def t9xq := tB.tok 13
@[irreducible] def k0z146 := tB.addr 15
@[irreducible] def k0z147 := tB.heap 1
theorem up (h : part.1 k0z0 D'xq D' ws n' f SE vsS nS g SH BK vsH nH oB kvB k0z61 ps2 gs2 T2 OT PG vsO nO oP kvP fz sP sQ o'xq MM dM t0 t1 t2 t3 t4 t5 t6 t7 t8 t9 jj kk nn u0 FB oF k0z130 k0z132 ws'xq SL k0z140 u2 h9xq tk9xq t9xq k0z146 k0z147) : law1.1 theBL := part.2 (fun x0 x1 x2 x3 x4 x5 x6 x7 x8 x9 x10 x11 x12 x13 x14 x15 x16 x17 x18 x19 x20 x21 x22 x23 x24 x25 x26 x27 x28 x29 x30 x31 x32 x33 x34 x35 x36 x37 x38 x39 x40 x41 x42 x43 x44 x45 x46 x47 x48 x49 x50 x51 x52 x53 x54 x55 x56 x57 x58 => bag_all (P := theP) (by with_unfolding_all exact h) { bag0 with addr := nth [x0, x1, x2, x6, x10, x11, x19, x20, x21, x30, x31, x46, x49, x51, x52, x57] bag0.addr, vl := nth [x3, x7, x12, x22, x50] bag0.vl, nat := nth [x4, x8, x13, x23, x55] bag0.nat, il := nth [x5, x9, x27, x28] bag0.il, obj := nth [x14, x16, x24, x29, x47] bag0.obj, kvs := nth [x15, x25] bag0.kvs, arr := nth [x17] bag0.arr, gens := nth [x18] bag0.gens, led := nth [x26] bag0.led, tok := nth [x32, x33, x34, x35, x36, x37, x38, x39, x40, x41, x45, x48, x53, x56] bag0.tok, val := nth [x42, x43, x44] bag0.val, heap := nth [x54, x58] bag0.heap })
end LK0
namespace LK1
open LK0
set_option maxHeartbeats 0 in
theorem fin : LK0.part.1 LK0.k0z0 LK0.D'xq LK0.D' LK0.ws LK0.n' LK0.f LK0.SE LK0.vsS LK0.nS LK0.g LK0.SH LK0.BK LK0.vsH LK0.nH LK0.oB LK0.kvB LK0.k0z61 LK0.ps2 LK0.gs2 LK0.T2 LK0.OT LK0.PG LK0.vsO LK0.nO LK0.oP LK0.kvP LK0.fz LK0.sP LK0.sQ LK0.o'xq LK0.MM LK0.dM LK0.t0 LK0.t1 LK0.t2 LK0.t3 LK0.t4 LK0.t5 LK0.t6 LK0.t7 LK0.t8 LK0.t9 LK0.jj LK0.kk LK0.nn LK0.u0 LK0.FB LK0.oF LK0.k0z130 LK0.k0z132 LK0.ws'xq LK0.SL LK0.k0z140 LK0.u2 LK0.h9xq LK0.tk9xq LK0.t9xq LK0.k0z146 LK0.k0z147 := by
 delta LK0.part
 dsimp only
 intro TR NB pHL1 pX' pT' pK' ivF rowF ivS rowS iB loB k0z64 hG2 iP loP rB rP lP ivH eP lQ ivO eQ d'xq k0z105 k0z106 k0z107 k0z108 k0z109 k0z110 k0z111 k0z112 k0z113 k0z114 odM nMD zu0 k0z123 lP6 lQ6 k0z131 k0z134 ivP6 l1xq k0z142 zu2 z9xq k0z148 k0z149 k0z150
 w_on
 k_fill
 rename News _ _ _ _ => N10
 rename Fr _ _ _ _ => F10
 k_here
 refine' extend_lit F10 N10 ?hbz190 ?huz190 ?nez190 ?hzz190 fun h11 F11 N11 => ?_
 case hbz190 => k_mem
 case huz190 => k_updF
 case nez190 => exact Nat.succ_ne_zero _
 case hzz190 => exact Nat.le_of_ble_eq_true rfl
 try dsimp only at N11
 k_steps
 unfold StopHere
 rename IntsAre _ (List.take 6 sQ) => ivQ6
 rename News _ _ _ _ => N12
 refine name_one N12 fun SO qSO => ?_
 subst qSO
 refine' funU_use (set2 _ _ _ (led := [(MM, instObj 242 dM), (OT, lstO vsO nO), (SO, lstO _ _)]) (ix2 _ _ ⟨List.Mem.tail _ (List.Mem.head _), ivO⟩) (ix2 _ _ ⟨List.Mem.tail _ (List.Mem.tail _ (List.Mem.head _)), ivQ6⟩) (by omega) (List.Mem.head _) ?nez202 _ _ _ _ _ _ _ _ _ _ _ _ _ _) (by k_asm) (by k_asm) (by k_asm) (by k_asm) TR ?kUz202 (by rfl) (by ktr_room) (by ktr_units) (real_ledB (by k_mem) (by k_mem) (by k_mem)) (fun rv o9 tl9 h9 tk9 F9 N9 ne9 rn => ?_)
 case kUz202 => k_updF
 case nez202 => k_ne
 refine hdG ?_; intro Xh hXh
 obtain ⟨e9, hZ⟩ := rn
 refine ex3 hZ ?_
 clear hZ
 rintro jj2 kk2 nn2 q9
 subst e9
 subst q9
 refine hXh ?_; clear hXh
 have N13 := N9.right
 try dsimp only at N13
 clear N9 ne9
 k_steps
 unfold StopHere
 show wpAny _ _ (call (Value.ref 232) [Value.ref MM]) _ _ _
 refine' funU_use (quickN _ _ _ (led := [(MM, instObj 242 dM), (SL, lstO _ _), (SO, lstO _ _)]) (List.Mem.head _) (ix2 _ _ ⟨List.Mem.tail _ (List.Mem.head _), ivP6⟩) (ix2 _ _ ⟨List.Mem.tail _ (List.Mem.tail _ (List.Mem.head _)), ivQ6⟩) (by omega) _ _ _ _ _ _ _ _ _ _ _ _ _) (by k_asm) (by k_asm) (by k_asm) (by k_asm) TR ?kUz216 (by rfl) (by ktr_room) (by ktr_units) (real_ledB (by k_mem) (by k_mem) (by k_mem)) (fun rv o9 tl9 h9 tk9 F9 N9 ne9 rn => ?_)
 case kUz216 => k_updF
 refine hdG ?_; intro Xh hXh
 obtain ⟨⟨u3, zu3, e9⟩, hZ⟩ := rn
 obtain ⟨FB2, hZ⟩ := hZ
 obtain ⟨q9, hZ⟩ := hZ
 refine ex2 hZ ?_
 clear hZ
 rintro oF2 kF2 hZ
 refine an3 hZ ?_
 clear hZ
 rintro mF2 iF2 rF2 lF2
 subst e9
 subst q9
 refine hXh ?_; clear hXh
 have N14 := take1 N9 mF2
 try dsimp only at N14
 have nF2 := aparts ne9 mF2
 simp only [List.forall_mem_cons] at nF2
 repeat (rcases nF2 with ⟨_, nF2⟩)
 clear ne9 N9 mF2
 k_steps
 k_here
 rename News _ _ _ _ => N15
 rename Fr _ _ _ _ => F15
 refine' extend_lit F15 N15 ?hbz233 ?huz233 ?nez233 ?hzz233 fun h15 F16 N16 => ?_
 case hbz233 => k_mem
 case huz233 => k_updF
 case nez233 => exact Nat.succ_ne_zero _
 case hzz233 => exact Nat.le_of_ble_eq_true rfl
 try dsimp only at N16
 clear F15 N15
 k_steps
 unfold StopHere
 refine' funU_use (set1 _ _ _ (led := [(MM, instObj 242 dM), (SL, lstO _ _), (SH, lstO vsH nH)]) (ix2 _ _ ⟨List.Mem.tail _ (List.Mem.head _), ivP6⟩) (ix2 _ _ ⟨List.Mem.tail _ (List.Mem.tail _ (List.Mem.head _)), ivH⟩) (List.Mem.head _) ?nez242 _ _ _ _ _ _ _ _ _ _ _ _ _ _) (by k_asm) (by k_asm) (by k_asm) (by k_asm) TR ?kUz242 (by rfl) (by ktr_room) (by ktr_units) (real_ledB (by k_mem) (by k_mem) (by k_mem)) (fun rv o9 tl9 h9 tk9 F9 N9 ne9 rn => ?_)
 case kUz242 => k_updF
 case nez242 => k_ne
 refine hdG ?_; intro Xh hXh
 obtain ⟨e9, q9⟩ := rn
 subst e9
 subst q9
 refine hXh ?_; clear hXh
 have N17 := N9.right
 try dsimp only at N17
 clear N9 ne9
 k_steps
 unfold StopHere
 show wpAny _ _ (call (Value.ref 232) [Value.ref MM]) _ _ _
 refine' funA_use (quickC _ _ _ (led := [(MM, instObj 242 dM), (SH, lstO vsH nH), (SO, lstO _ _), (dM, md10 (theBL.w 0) _ _ _ _ _ _ _ _ _ _ (Value.ref SH) (Value.ref SO) (Value.ref FB2) _ _ _), (FB2, oF2)]) (⟨List.Mem.head _, ix6 _ _ _ _ _ _ (ix6 _ _ _ _ _ _ ⟨_, List.Mem.tail _ (List.Mem.tail _ (List.Mem.tail _ (List.Mem.head _)))⟩)⟩) (ix2 oF2 kF2 (ia3 (List.Mem.tail _ (List.Mem.tail _ (List.Mem.tail _ (List.Mem.tail _ (List.Mem.head _))))) iF2 rF2 lF2)) (ix2 _ _ ⟨List.Mem.tail _ (List.Mem.head _), ivH⟩) (ix2 _ _ ⟨List.Mem.tail _ (List.Mem.tail _ (List.Mem.head _)), ivQ6⟩) (by omega)) (by k_asm) (by k_asm) (by k_asm) (by k_asm) TR (by rfl) (by ktr_room) (by ktr_units) (quick_led (by k_mem) (by k_mem) (by k_mem) (by k_mem) (by k_mem)) (fun rv tl9 h9 tk9 F9 N9 _ ne9 rn => ?_)
 refine hdG ?_; intro Xh hXh
 obtain ⟨u4, zu4, e9⟩ := rn
 subst e9
 refine hXh ?_; clear hXh
 have N18 := N9.right
 clear N9 ne9
 k_steps
 k_here
 rename News _ _ _ _ => N19
 rename Fr _ _ _ _ => F19
 refine' extend_lit F19 N19 ?hbz267 ?huz267 ?nez267 ?hzz267 fun h19 F20 N20 => ?_
 case hbz267 => k_mem
 case huz267 => k_updF
 case nez267 => exact Nat.succ_ne_zero _
 case hzz267 => exact Nat.le_of_ble_eq_true rfl
 try dsimp only at N20
 clear F19 N19
 k_steps
 unfold StopHere
 rename News _ _ _ _ => N21
 refine eq_intsI N21 (a := SE) (b := D') (by k_mem) (by k_mem) ivS ivF (by ktr_units) ?_
 have lF6 : f.length = 6 := rowF.1
 k_steps
 unfold StopHere
 rename IntsAre _ (List.reverse f) => ivR
 rename News _ _ _ _ => N22
 refine eq_intsI N22 (a := SE) (by k_mem) (.head _) ivS ivR (by ktr_units) ?_
 k_steps
 unfold StopHere
 rename News _ _ _ _ => N23
 rename Fr _ _ _ _ => F23
 refine stage9 N23 (by assumption) (by assumption) (by assumption) (by assumption) (by assumption) (by assumption) (by assumption) (by assumption) fun TO GA eTO eGA fl N24 => ?_
 refine hdG ?_; intro Xh hXh
 subst eTO
 subst eGA
 refine hXh ?_; clear hXh
 clear N23
 simp only [lP, lQ, lP6, lQ6] at N24 fl
 repeat (rename ApartN _ _ => hx; clear hx)
 rename Fr _ _ _ _ => F23
 refine' dcomp_items (fun own i r => ∃ k q, (dueF f 6)[i]? = some (k, q) ∧ TupV own r (mirV q)) F23 N24 rfl (by k_mem) iB loB ?lenz298 TR.nolimit ?hEz298 ?hQz298 ?c1z298 ?c2z298 ?c3z298 ?c4z298 ?c5z298 ?c6z298 ?c7z298 ?c8z298 ?c9z298 ?d1z298 ?d2z298 ?d3z298 ?d4z298 ?d5z298 ?d6z298 ?d7z298 ?d8z298 ?d9z298
 case c1z298 => with_unfolding_all rfl
 case c2z298 => rfl
 case c3z298 => rfl
 case c4z298 => with_unfolding_all rfl
 case c5z298 => decide
 case c6z298 => rfl
 case c7z298 => decide
 case c8z298 => rfl
 case c9z298 => rfl
 case d1z298 => decide
 case d2z298 => decide
 case d3z298 => rfl
 case d4z298 => rfl
 case d5z298 => rfl
 case d6z298 => decide
 case d7z298 => rfl
 case d8z298 => rfl
 case d9z298 => intro x; rfl
 case lenz298 =>
  have h1 := rB.length
  have h2 := due_len f
  omega
 case hEz298 =>
  intro i k v tk9 C oC h' tk' m₂ Q' E' e nC hm1 hm2 F' N' off ret
  refine hdG ?_; intro Xh hXh
  obtain ⟨x, hZ⟩ := rB.get e
  obtain ⟨ex, hZ⟩ := hZ
  refine ex3 hZ ?_
  clear hZ
  rintro A vs na hZ
  refine an3 hZ ?_
  clear hZ
  rintro rfl hA ivA lA
  refine ex4 (four lA) ?_
  rintro q0 q1 q2 q3 rfl
  refine ex4 (four_ints ivA) ?_
  rintro p0 p1 p2 p3 rfl
  refine hXh ?_; clear hXh
  have N'' : News _ _ _ ((A, tupO [.int q0 p0, .int q1 p1, .int q2 p2, .int q3 p3] na) :: (C, oC) :: _) := fun p hp => by
   rcases List.mem_cons.mp hp with rfl | hp
   ·exact N' _ (.tail _ (.tail _ (.tail _ (.tail _ (.tail _ (.tail _ (.tail _ (.tail _ (.tail _ (.tail _ hA))))))))))
   ·exact N' _ hp
  clear N'
  k_steps
  unfold StopHere
  refine funA_use (neg_i _ _ _ _ _) (by k_asm) (by k_asm) (by k_asm) (by k_asm) TR (by rfl) (by ktr_room) (by ktr_units) (fun _ h => nomatch h) (fun rv tl9 h9 tk9 F9 N9 kp9 ne9 rn => ?_)
  refine hdG ?_; intro Xh hXh
  obtain ⟨e9, t9, rn⟩ := rn
  subst e9
  subst rn
  refine hXh ?_; clear hXh
  simp only [List.nil_append] at N9
  clear ne9
  walk1
  refine wpAny_newTuple ?_
  have nT : h9.get? h9.objs.size = none := Heap.get?_none_of_le (Nat.le_refl _)
  refine ret (.ref h9.objs.size) _ _ [(h9.objs.size, tupO [.int q0 p0, .int q2 p2, .int q1 p1, .int (-q3) t9] 0)] (ix2 k _ ⟨ex, ix3 h9.objs.size _ 0 (ia3 rfl (.head _) (.cons _ _ (.cons _ _ (.cons _ _ (.cons _ _ .nil)))) rfl)⟩) (fun b o e => Heap.get?_push_of_some _ (kp9 b o e)) (fun p hp => ?_)
  rw [List.mem_singleton.mp hp]
  refine ⟨Heap.get?_push_size _ rfl, ?_⟩
  show h'.get? h9.objs.size = none
  cases e9 : h'.get? h9.objs.size with
  | none => rfl
  | some o9 => exact absurd (kp9 _ _ e9) (by rw [nT]; exact fun q => nomatch q)
 case hQz298 =>
  intro MI oM hM tkM tlM rsM FM NM offM apM iM loM bM
  have rM : Rep (TupV tlM) rsM (mirD (dueF f 6)) := by
   have h1 := built_dict (V' := TupV) (g := mirV) bM rB (fun own i r h => h) (fun l l' v x hv hk => TupV.mono hv hk)
   rw [rB.length, List.take_length] at h1
   exact h1
  refine stage10 NM fun fy hfz htl N30 => ?_
  have rB := rB.mono fun v x hv => TupV.mono hv hfz
  have rP := rP.mono fun v x hv => TupV.mono hv hfz
  have rM := rM.mono fun v x hv => TupV.mono hv htl
  clear N24 F23 bM NM offM apM hfz htl
  k_steps
  unfold StopHere
  rename News _ _ _ _ => N31
  refine eq_dictsB N31 (a := PG) (b := BK) (by k_mem) (by k_mem) iP iB loP loB rP rB (fun p hp => by repeat (first | exact hp | refine List.Mem.tail _ ?_)) (fun p hp => by repeat (first | exact hp | refine List.Mem.tail _ ?_)) ?huz367 (book_eq rowF rowS) ?_
  case huz367 => ktr_units
  k_steps
  unfold StopHere
  rename News _ _ _ _ => N32
  refine eq_dictsB N32 (a := PG) (b := MI) (by k_mem) (by k_mem) iP iM loP loM rP rM (fun p hp => by repeat (first | exact hp | refine List.Mem.tail _ ?_)) (fun p hp => by repeat (first | exact hp | refine List.Mem.tail _ ?_)) ?huz372 (mirror_eq rowF rowS) ?_
  case huz372 => ktr_units
  k_steps
  unfold StopHere
  refine or_two (a := decide (g = f)) (b := decide (g = f.reverse)) (fun Q9 q9 => ?_) (fun Q9 q9 => ?_) ?_
  ·k_steps
   exact q9
  ·k_steps
   exact q9
  k_steps
  unfold StopHere
  refine' ne_same ?Nz383 ?m1z383 ?m2z383 ?hez383 ?huz383 ?_
  case Nz383 => k_asm
  case m1z383 => k_mem
  case m2z383 => k_mem
  case hez383 =>
   rw [eP, eQ]
   exact four_eq (told0 rowF rowS) (told4 rowF rowS)
  case huz383 => ktr_units
  k_steps
  unfold StopHere
  rename News _ _ _ _ => N39
  rename Fr _ _ _ _ => F40
  have N40 := drop3 N39
  clear N39 rM iM loM
  refine' dcomp_items (fun own i r => ∃ k q, (dueF f 6)[i]? = some (k, q) ∧ IntV r (q.getD 0 0)) F40 N40 rfl (by k_mem) iB loB ?lenz398 TR.nolimit ?hEz398 ?hQz398 ?c1z398 ?c2z398 ?c3z398 ?c4z398 ?c5z398 ?c6z398 ?c7z398 ?c8z398 ?c9z398 ?d1z398 ?d2z398 ?d3z398 ?d4z398 ?d5z398 ?d6z398 ?d7z398 ?d8z398 ?d9z398
  case c1z398 => with_unfolding_all rfl
  case c2z398 => rfl
  case c3z398 => rfl
  case c4z398 => with_unfolding_all rfl
  case c5z398 => decide
  case c6z398 => rfl
  case c7z398 => decide
  case c8z398 => rfl
  case c9z398 => rfl
  case d1z398 => decide
  case d2z398 => decide
  case d3z398 => rfl
  case d4z398 => rfl
  case d5z398 => rfl
  case d6z398 => decide
  case d7z398 => rfl
  case d8z398 => rfl
  case d9z398 => intro x; rfl
  case lenz398 =>
   have h1 := rB.length
   have h2 := due_len f
   omega
  case hEz398 =>
   intro i k v tk9 C oC h' tk' m₂ Q' E' e nC hm1 hm2 F' N' off ret
   refine hdG ?_; intro Xh hXh
   obtain ⟨x, hZ⟩ := rB.get e
   obtain ⟨ex, hZ⟩ := hZ
   refine ex3 hZ ?_
   clear hZ
   rintro A vs na hZ
   refine an3 hZ ?_
   clear hZ
   rintro rfl hA ivA lA
   refine ex4 (four lA) ?_
   rintro q0 q1 q2 q3 rfl
   refine ex4 (four_ints ivA) ?_
   rintro p0 p1 p2 p3 rfl
   refine hXh ?_; clear hXh
   have N'' : News _ _ _ ((A, tupO [.int q0 p0, .int q1 p1, .int q2 p2, .int q3 p3] na) :: (C, oC) :: _) := fun p hp => by
    rcases List.mem_cons.mp hp with rfl | hp
    ·exact N' _ (.tail _ (.tail _ (.tail _ (.tail _ (.tail _ (.tail _ (.tail _ (.tail _ (.tail _ (.tail _ hA))))))))))
    ·exact N' _ hp
   clear N'
   k_steps
   exact ret _ _ _ [] (ix2 k _ ⟨ex, ⟨p0, rfl⟩⟩) (fun _ _ e => e) (fun _ h => nomatch h)
  case hQz398 =>
   intro PL oPL hPL tkM tlM rsPL FM NM offM apM iPL loPL bM
   have rPL : Rep IntV rsPL ((dueF f 6).map fun p => (p.1, p.2.getD 0 0)) := by
    have h1 := built_dict (V' := fun _ v x => IntV v x) (g := fun q : List Int => q.getD 0 0) bM rB (fun own i r h => h) (fun _ _ _ _ h _ => h)
    rw [rB.length, List.take_length] at h1
    exact h1
   refine stage11 NM fun N41 => ?_
   clear N40 F40 bM NM offM apM
   k_steps
   unfold StopHere
   rename Fr _ _ _ _ => F41
   refine' dcomp_items (fun own i r => ∃ k q, (dueF g 6)[i]? = some (k, q) ∧ IntV r (-(q.getD 0 0))) F41 N41 rfl (by k_mem) iP loP ?lenz446 TR.nolimit ?hEz446 ?hQz446 ?c1z446 ?c2z446 ?c3z446 ?c4z446 ?c5z446 ?c6z446 ?c7z446 ?c8z446 ?c9z446 ?d1z446 ?d2z446 ?d3z446 ?d4z446 ?d5z446 ?d6z446 ?d7z446 ?d8z446 ?d9z446
   case c1z446 => with_unfolding_all rfl
   case c2z446 => rfl
   case c3z446 => rfl
   case c4z446 => with_unfolding_all rfl
   case c5z446 => decide
   case c6z446 => rfl
   case c7z446 => decide
   case c8z446 => rfl
   case c9z446 => rfl
   case d1z446 => decide
   case d2z446 => decide
   case d3z446 => rfl
   case d4z446 => rfl
   case d5z446 => rfl
   case d6z446 => decide
   case d7z446 => rfl
   case d8z446 => rfl
   case d9z446 => intro x; rfl
   case lenz446 =>
    have h1 := rP.length
    have h2 := due_len g
    omega
   case hEz446 =>
    intro i k v tk9 C oC h' tk' m₂ Q' E' e nC hm1 hm2 F' N' off ret
    refine hdG ?_; intro Xh hXh
    obtain ⟨x, hZ⟩ := rP.get e
    obtain ⟨ex, hZ⟩ := hZ
    refine ex3 hZ ?_
    clear hZ
    rintro A vs na hZ
    refine an3 hZ ?_
    clear hZ
    rintro rfl hA ivA lA
    refine ex4 (four lA) ?_
    rintro q0 q1 q2 q3 rfl
    refine ex4 (four_ints ivA) ?_
    rintro p0 p1 p2 p3 rfl
    refine hXh ?_; clear hXh
    have N'' : News _ _ _ ((A, tupO [.int q0 p0, .int q1 p1, .int q2 p2, .int q3 p3] na) :: (C, oC) :: _) := fun p hp => by
     rcases List.mem_cons.mp hp with rfl | hp
     ·exact N' _ (.tail _ (.tail _ (.tail _ (.tail _ (.tail _ (.tail _ (.tail _ (.tail _ (.tail _ (.tail _ (.tail _ hA)))))))))))
     ·exact N' _ hp
    clear N'
    k_steps
    unfold StopHere
    refine funA_use (neg_i _ _ _ _ _) (by k_asm) (by k_asm) (by k_asm) (by k_asm) TR (by rfl) (by ktr_room) (by ktr_units) (fun _ h => nomatch h) (fun rv tl9 h9 tk9 F9 N9 kp9 ne9 rn => ?_)
    refine hdG ?_; intro Xh hXh
    obtain ⟨e9, t9, rn⟩ := rn
    subst e9
    subst rn
    refine hXh ?_; clear hXh
    exact ret _ _ _ [] (ix2 k _ ⟨ex, ⟨t9, rfl⟩⟩) (fun b o e => kp9 b o e) (fun _ h => nomatch h)
   case hQz446 =>
    intro MN oMN hMN tkN tlN rsMN FM NM offM apM iMN loMN bM
    have rMN : Rep IntV rsMN ((dueF g 6).map fun p => (p.1, -(p.2.getD 0 0))) := by
     have h1 := built_dict (V' := fun _ v x => IntV v x) (g := fun q : List Int => -(q.getD 0 0)) bM rP (fun own i r h => h) (fun _ _ _ _ h _ => h)
     rw [rP.length, List.take_length] at h1
     exact h1
    refine stage11 NM fun N42 => ?_
    clear N41 F41 bM NM offM apM
    k_steps
    unfold StopHere
    refine funA_use (addI _ _ _ (led := [(PL, oPL), (MN, oMN)]) (ix2 oPL rsPL (ia3 (.head _) iPL rPL loPL)) (ix2 oMN rsMN (ia3 (.tail _ (.head _)) iMN rMN loMN)) ?hzz500) (by k_asm) (by k_asm) (by k_asm) (by k_asm) TR (by rfl) (by ktr_room) (by ktr_units) (mem2 (by k_mem) (by k_mem)) (fun rv tl9 h9 tk9 F9 N9 _ ne9 rn => ?_)
    case hzz500 =>
     have h1 := due_len f
     have h2 := due_len g
     rw [List.length_map, List.length_map]
     omega
    refine hdG ?_; intro Xh hXh
    obtain ⟨AP, hZ⟩ := rn
    obtain ⟨e9, hZ⟩ := hZ
    refine ex2 hZ ?_
    clear hZ
    rintro oAP kAP hZ
    refine an3 hZ ?_
    clear hZ
    rintro mAP iAP rAP loAP
    subst e9
    refine hXh ?_; clear hXh
    rw [due_apart, ← eP, ← eQ] at rAP
    have N43 := take1 N9 mAP
    clear N9 ne9 mAP N42
    k_steps
    unfold StopHere
    refine comp_one (by with_unfolding_all rfl) (by decide) (by rfl) (by decide) (by rfl) ?_
    rename Fr _ _ _ _ => F44
    rename News _ _ _ _ => N44
    refine' one_valuesI (fun k => if k < 0 then -k else k) F44 N44 rfl (by k_mem) iAP rAP loAP ?lenz518 ?hEz518 ?hQz518 ?c1z518 ?c2z518 ?c3z518 ?c4z518 ?c5z518 ?c6z518
    case lenz518 => have := less_len lP lQ; omega
    case c1z518 => rfl
    case c2z518 => rfl
    case c3z518 => rfl
    case c4z518 => decide
    case c5z518 => rfl
    case c6z518 => rfl
    case hEz518 =>
     intro k u C oC h' tk' m₂ Q' E' nC hm1 F' N' off ret
     k_steps
     exact ret _ _ _ ⟨_, rfl⟩ (fun _ _ e => e)
    case hQz518 =>
     intro SM h' tk' wsA nA F' N' offA ivA
     clear F44 N44
     k_steps
     unfold StopHere
     refine comp_one (by with_unfolding_all rfl) (by decide) (by rfl) (by decide) (by rfl) ?_
     k_steps
     unfold StopHere
     refine' one_filterI (ns := List.take 6 sP) (fun k => sQ.any fun x => x == k) ?Fz538 ?Nz538 ?mz538 ?ivz538 ?c1z538 ?c2z538 ?c3z538 ?c4z538 ?c5z538 ?hEz538 ?hQz538
     case Fz538 => k_asm
     case Nz538 => k_asm
     case mz538 => k_mem
     case ivz538 => assumption
     case c1z538 => rfl
     case c2z538 => omega
     case c3z538 => rfl
     case c4z538 => rfl
     case c5z538 => decide
     case hEz538 =>
      intro k t C oC h' tk' m₂ Q' E' nC hm1 F' N' off ret
      k_steps
      exact ret _ _ (fun _ _ e => e)
     case hQz538 =>
      intro AM h' tk' wsB nB F' N' offB ivB
      k_steps
      unfold StopHere
      refine' lenIntsM (a := AM) (c := quickM (sP.take 6) sQ) ?Nz556 (List.Mem.head _) ivB (filter_len _ lP6) ?hcz556 fun tL => ?_
      case Nz556 => k_asm
      case hcz556 => rw [eP, eQ]; exact among_len rowF
      k_steps
      unfold StopHere
      refine comp_one (by with_unfolding_all rfl) (by decide) (by rfl) (by decide) (by rfl) ?_
      k_steps
      unfold StopHere
      refine' one_filterI (ns := List.take 6 sP) (fun k => (List.take 6 sQ).any fun x => x == k) ?Fz564 ?Nz564 ?mz564 ?ivz564 ?c1z564 ?c2z564 ?c3z564 ?c4z564 ?c5z564 ?hEz564 ?hQz564
      case Fz564 => k_asm
      case Nz564 => k_asm
      case mz564 => k_mem
      case ivz564 => assumption
      case c1z564 => rfl
      case c2z564 => omega
      case c3z564 => rfl
      case c4z564 => rfl
      case c5z564 => decide
      case hEz564 =>
       intro k t C oC h' tk' m₂ Q' E' nC hm1 F' N' off ret
       k_steps
       exact ret _ _ (by assumption)
      case hQz564 =>
       intro LV h' tk' wsC nC F' N' offC ivC
       k_steps
       unfold StopHere
       refine' lenIntsM (a := LV) (c := quickM (sP.take 6) (sQ.take 6)) ?Nz582 (List.Mem.head _) ivC (filter_len _ lP6) ?hcz582 fun tL => ?_
       case Nz582 => k_asm
       case hcz582 => rw [eP, eQ]; exact level_len rowF
       k_steps
       unfold StopHere
       refine comp_one (by with_unfolding_all rfl) (by decide) (by rfl) (by decide) (by rfl) ?_
       k_steps
       unfold StopHere
       refine' one_filterI (ns := List.take 6 sQ) (fun k => sP.any fun x => x == k) ?Fz590 ?Nz590 ?mz590 ?ivz590 ?c1z590 ?c2z590 ?c3z590 ?c4z590 ?c5z590 ?hEz590 ?hQz590
       case Fz590 => k_asm
       case Nz590 => k_asm
       case mz590 => k_mem
       case ivz590 => assumption
       case c1z590 => rfl
       case c2z590 => omega
       case c3z590 => rfl
       case c4z590 => rfl
       case c5z590 => decide
       case hEz590 =>
        intro k t C oC h' tk' m₂ Q' E' nC hm1 F' N' off ret
        k_steps
        exact ret _ _ (fun _ _ e => e)
       case hQz590 =>
        intro BA h' tk' wsD nD F' N' offD ivD
        k_steps
        unfold StopHere
        refine' lenIntsM (a := BA) (c := quickM sP (sQ.take 6)) ?Nz608 (List.Mem.head _) ivD (filter_len _ lQ6) ?hcz608 fun tL => ?_
        case Nz608 => k_asm
        case hcz608 => rw [eP, eQ]; exact back_len rowS
        walk1
        rename News _ _ _ _ => N49
        rename Fr _ _ _ _ => F50
        have N50 := drop7 N49
        clear N49
        k_steps
        unfold StopHere
        rename News _ _ _ _ => N51
        rename Fr _ _ _ _ => F51
        have hsrc := due_src N51
        refine' comp_pairs (fun j r => ∃ a b u, (dueL f g)[j]? = some (a, b) ∧ TokOk u ∧ r = .float (fracF a b) u) (fun i v0 v1 => ∃ a b t u, (dueL f g)[i]? = some (a, b) ∧ v0 = .int a t ∧ v1 = .int b u) F51 N51 rfl (⟨_, ia2 ((N51 _ (List.Mem.head _)).1) rfl ⟨0, rfl⟩⟩) (Nat.le_of_ble_eq_true rfl) ?hPz622 ?hEz622 ?hQz622 ?c1z622 ?c2z622 ?c3z622 ?c4z622 ?c5z622 ?c6z622 ?c7z622 ?c8z622 ?c9z622 ?d1z622 ?d2z622 ?d3z622
        case c1z622 => rfl
        case c2z622 => with_unfolding_all rfl
        case c3z622 => decide
        case c4z622 => rfl
        case c5z622 => decide
        case c6z622 => rfl
        case c7z622 => rfl
        case c8z622 => decide
        case c9z622 => rfl
        case d1z622 => rfl
        case d2z622 => decide
        case d3z622 => intro z; rfl
        case hPz622 =>
         unfold dueL
         rw [← eP, ← eQ]
         exact hsrc
        case hEz622 =>
         intro i v0 v1 C oC h' tk' m₂ Q' E' hi hPP nC hm1 hm2 F' N' off ret
         refine hdG ?_; intro Xh hXh
         refine ex4 hPP ?_
         try clear hPP
         rintro a b t u hZ
         refine an2 hZ ?_
         clear hZ
         rintro eab rfl rfl
         refine hXh ?_; clear hXh
         have hcalm := due_calm _ (List.mem_of_getElem? eab)
         k_steps
         unfold StopHere
         refine funA_use (divF _ _ _ _ _ _ _ hcalm.1 hcalm.2) (by k_asm) (by k_asm) (by k_asm) (by k_asm) TR (by rfl) (by ktr_room) (by ktr_units) (fun _ h => nomatch h) (fun rv tl9 h9 tk9 F9 N9 kp9 ne9 rn => ?_)
         refine hdG ?_; intro Xh hXh
         obtain ⟨e9, t9, z9, rn⟩ := rn
         subst e9
         subst rn
         refine hXh ?_; clear hXh
         exact ret _ _ _ (ix3 a b t9 (ia2 eab z9 rfl)) (fun b o e => kp9 b o e)
        case hQz622 =>
         intro DV h' tk' rsV F' N' offV lenV hV
         k_steps
         unfold StopHere
         have flV := floats_of _ _ lenV hV
         have ht := told_due (f := f) (g := g)
         generalize hys : (dueL f g).map (fun p => fracF p.1 p.2) = ys at flV ht
         unfold toldL at ht
         rw [← eP, ← eQ] at ht
         rename News _ _ _ _ => N52
         refine' ne_floats N52 (a := _) (b := DV) ?m1z664 (List.Mem.head _) fl flV ?nbz664 ?lenz664 ht ?huz664 ?_
         case m1z664 => k_mem
         case nbz664 => exact NoneBookedK NB (Fr.keep (by k_asm))
         case lenz664 => rw [lenV]; rfl
         case huz664 => ktr_units
         clear hV flV ht hys lenV
         k_steps
         unfold StopHere
         refine comp_one (by with_unfolding_all rfl) (by decide) (by rfl) (by decide) (by rfl) ?_
         k_steps
         unfold StopHere
         refine' one_noneL ?Fz675 ?Nz675 ?m1z675 ?c1z675 ?c2z675 ?hEz675 ?hQz675
         case Fz675 => k_asm
         case Nz675 => k_asm
         case m1z675 => k_mem
         case c1z675 => rfl
         case c2z675 => exact Nat.le_of_ble_eq_true rfl
         case hEz675 =>
          intro i v C oC h' tk' m₂ Q' E' e nC hm1 F' N' off ret
          refine hdG ?_; intro Xh hXh
          obtain ⟨hi, e⟩ := List.getElem?_eq_some_iff.mp e
          refine ex2 (fl.get i hi) ?_
          rintro a t hZ
          refine an2 hZ ?_
          clear hZ
          rintro e1 - -
          rw [e1] at e
          subst e
          refine hXh ?_; clear hXh
          k_steps
          exact ret _ _ (fun _ _ e => e)
         case hQz675 =>
          intro NF h' tk' F' N' offNF
          k_steps
          unfold StopHere
          refine' ne_same ?Nz695 ?m1z695 ?m2z695 rfl ?huz695 ?_
          case Nz695 => k_asm
          case m1z695 => k_mem
          case m2z695 => k_mem
          case huz695 => ktr_units
          k_steps
          unfold StopHere
          refine' ne_same ?Nz702 ?m1z702 ?m2z702 rfl ?huz702 ?_
          case Nz702 => k_asm
          case m1z702 => k_mem
          case m2z702 => k_mem
          case huz702 => ktr_units
          k_steps
          unfold StopHere
          rename News _ _ _ _ => N61
          rename Fr _ _ _ _ => F61
          have lAP := rAP.length
          have lLS := less_len lP lQ
          refine list_items (V := IntV) (rd := PyData.int) (fz := []) rfl F61 N61 (List.Mem.head _) (d := AP) (by k_mem) iAP rAP (by rw [sizeLine_eq]; omega) (fun v x hv => hv.reads) fun B tl hB tkB FB NB' neB rdB => ?_
          refine stage12 [_, _, _, _, _, _, _, _, _, _, _, _, _, _] [_, _, _, _, _, _, _, _, _, _, _, _] _ tl NB' fun fx hfx htl N62 => ?_
          have rdB := rdB.mono (app_nil htl)
          simp only [List.cons_append, List.nil_append] at N62
          clear NB' N61 F61 neB htl
          k_steps
          unfold StopHere
          refine funA_use (less _ _ _ (led := [(SH, lstO vsH nH), (OT, lstO vsO nO)]) (ix2 _ _ ⟨.head _, ivH⟩) (ix2 _ _ ⟨.tail _ (.head _), ivO⟩) (by omega)) (by k_asm) (by k_asm) (by k_asm) (by k_asm) TR (by rfl) (by ktr_room) (by ktr_units) (mem2 (by k_mem) (by k_mem)) (fun rv tl9 h9 tk9 F9 N9 _ ne9 rn => ?_)
          refine hdG ?_; intro Xh hXh
          obtain ⟨LS, hZ⟩ := rn
          obtain ⟨e9, hZ⟩ := hZ
          refine ex2 hZ ?_
          clear hZ
          rintro oLS kLS hZ
          refine an3 hZ ?_
          clear hZ
          rintro mLS iLS rLS loLS
          subst e9
          refine hXh ?_; clear hXh
          have N63 := take1 N9 mLS
          clear N9 ne9 mLS N62
          k_steps
          unfold StopHere
          rename News _ _ _ _ => N64
          rename Fr _ _ _ _ => F64
          have lLS2 := rLS.length
          refine list_items (V := IntV) (rd := PyData.int) (fz := []) rfl F64 N64 (List.Mem.head _) (d := LS) (by k_mem) iLS rLS (by rw [sizeLine_eq]; omega) (fun v x hv => hv.reads) fun B2 tl2 hB2 tkB2 FB2' NB2 neB2 rdB2 => ?_
          refine stage12 [_, _] [_, _, _, _, _, _, _, _, _, _, _, _] _ tl2 NB2 fun fw hfw htl2 N65 => ?_
          have rdB2 := rdB2.mono (app_nil htl2)
          have rdB := rdB.mono hfw
          simp only [List.cons_append, List.nil_append] at N65
          clear NB2 N64 F64 neB2 htl2
          k_steps
          unfold StopHere
          refine' ne_readsB ?Nz740 rdB rdB2 ?k1z740 ?k2z740 (shaped_list_int _) (shaped_list_int _) ?huz740 (eqv_list_int _) ?_
          case Nz740 => k_asm
          case k1z740 => intro p hp; repeat (first | exact hp | refine List.Mem.tail _ ?_)
          case k2z740 => intro p hp; repeat (first | exact hp | refine List.Mem.tail _ ?_)
          case huz740 => ktr_units
          clear rdB rdB2
          k_steps
          unfold StopHere
          rw [due_count] at rPL
          rw [due_minus] at rMN
          have s1 := sum_plain (shades_len f)
          have s2 := sum_minus (shades_len g)
          have s3 := sum_apart lP lQ
          refine funA_use (count _ _ _ (led := [(PL, oPL)]) (ix2 oPL rsPL (ia3 (.head _) iPL rPL loPL))) (by k_asm) (by k_asm) (by k_asm) (by k_asm) TR (by rfl) (by ktr_room) (by ktr_units) (fun p hp => by rw [List.mem_singleton.mp hp]; k_mem) (fun rv tl9 h9 tk9 F9 N9 _ ne9 rn => ?_)
          refine hdG ?_; intro Xh hXh
          obtain ⟨t1, e9⟩ := rn
          rw [s1] at e9
          subst e9
          refine hXh ?_; clear hXh
          have N70 := N9.right
          clear N9 ne9
          k_steps
          unfold StopHere
          refine funA_use (count _ _ _ (led := [(MN, oMN)]) (ix2 oMN rsMN (ia3 (.head _) iMN rMN loMN))) (by k_asm) (by k_asm) (by k_asm) (by k_asm) TR (by rfl) (by ktr_room) (by ktr_units) (fun p hp => by rw [List.mem_singleton.mp hp]; k_mem) (fun rv tl9 h9 tk9 F9 N9 _ ne9 rn => ?_)
          refine hdG ?_; intro Xh hXh
          obtain ⟨t2, e9⟩ := rn
          rw [s2] at e9
          subst e9
          refine hXh ?_; clear hXh
          have N71 := N9.right
          clear N9 ne9
          k_steps
          unfold StopHere
          refine funA_use (count _ _ _ (led := [(AP, oAP)]) (ix2 oAP kAP (ia3 (.head _) iAP rAP loAP))) (by k_asm) (by k_asm) (by k_asm) (by k_asm) TR (by rfl) (by ktr_room) (by ktr_units) (fun p hp => by rw [List.mem_singleton.mp hp]; k_mem) (fun rv tl9 h9 tk9 F9 N9 _ ne9 rn => ?_)
          refine hdG ?_; intro Xh hXh
          obtain ⟨t3, e9⟩ := rn
          rw [s3] at e9
          subst e9
          refine hXh ?_; clear hXh
          have N72 := N9.right
          clear N9 ne9
          k_steps
          unfold StopHere
          refine' eq_intsT ?Nz783 ?m1z783 ?m2z783 (.cons _ _ (.cons _ _ (.cons _ _ .nil))) (.cons _ _ (.cons _ _ (.cons _ _ .nil))) ?huz783 ?hez783 ?_
          case Nz783 => k_asm
          case m1z783 => k_mem
          case m2z783 => k_mem
          case huz783 => ktr_units
          case hez783 => rfl
          k_steps
          unfold StopHere
          refine comp_one (by with_unfolding_all rfl) (by decide) (by rfl) (by decide) (by rfl) ?_
          k_steps
          unfold StopHere
          refine' one_noneL ?Fz794 ?Nz794 ?m1z794 ?c1z794 ?c2z794 ?hEz794 ?hQz794
          case Fz794 => k_asm
          case Nz794 => k_asm
          case m1z794 => k_mem
          case c1z794 => rfl
          case c2z794 => exact Nat.le_of_ble_eq_true rfl
          case hEz794 =>
           intro i v C oC h' tk' m₂ Q' E' e nC hm1 F' N' off ret
           refine hdG ?_; intro Xh hXh
           refine ex2 (three_get e) ?_
           rintro k w9 rfl
           refine hXh ?_; clear hXh
           k_steps
           exact ret _ _ (fun _ _ e => e)
          case hQz794 =>
           intro NI h' tk' F' N' offNI
           k_steps
           unfold StopHere
           refine' eq_intsT ?Nz811 ?m1z811 ?m2z811 .nil .nil ?huz811 rfl ?_
           case Nz811 => k_asm
           case m1z811 => k_mem
           case m2z811 => k_mem
           case huz811 => ktr_units
           unfold EndB
           refine (ia4 rfl (Fr.keep (by k_asm)) rfl hG2 ⟨GrownAt.of (by k_asm) (by k_mem), True.intro⟩)
end LK1
theorem law2 : law1.1 theBL := (LK0.up LK1.fin)
end Mine
theorem PySem.Challenge.cw_wv0062_01_holds : PySem.Challenge.rw_wv0062_01.Holds := by
 exact Mine.law1.2 (by with_unfolding_all exact Mine.law2)
end
end
