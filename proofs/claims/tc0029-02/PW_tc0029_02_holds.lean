import PyProof.Rows.All
import Wide.All
import OpenK.AllK
import Wide.FinOn
import Lean
import PySem.Challenge.RW_tc0029_02
noncomputable section
set_option Elab.async false
set_option genSizeOf false
set_option genInjectivity false
set_option tactic.hygienic false
set_option compiler.extract_closed false
set_option bootstrap.genMatcherCode false
set_option linter.all false
set_option maxRecDepth 100000
open PySem PySem.W PyProof.Rows
namespace Mine
theorem nle {a b c : Nat} (h : a <= b) (k : b <= c) : a <= c := Nat.le_trans h k
def wPu := @wpAny_pure
def wB := @wpAny_bind
theorem cps {P : Prop} (h : ∀ G : Prop, (P -> G) -> G) : P := h P id
theorem za {α : Type} {r : α} {G : Prop} (h : (none : Option α) = some r) : G := nomatch h
theorem zb {α β : Type} {x : Option α} {f : α -> Option β} {b : β} {G : Prop} (h : x.bind f = some b) (k : ∀ a, x = some a -> f a = some b -> G) : G := by
 cases x with
 | none => exact za h
 | some a => exact k a rfl h
theorem zQ {α β : Type} {x : Option α} {f : α -> β} {b : β} {G : Prop} (h : x.map f = some b) (k : ∀ a, x = some a -> f a = b -> G) : G := by
 cases x with
 | none => exact za h
 | some a => exact k a rfl (Option.some.inj h)
theorem ifE {α : Type} {c : Prop} [Decidable c] {x : Option α} {r : α} {G : Prop} (h : (if c then x else none) = some r) (k : c -> x = some r -> G) : G := by
 by_cases hc : c
 ·rw [if_pos hc] at h; exact k hc h
 ·rw [if_neg hc] at h; exact za h
theorem ifN {α : Type} {c : Prop} [Decidable c] {x : Option α} {r : α} {G : Prop} (h : (if c then none else x) = some r) (k : ¬ c -> x = some r -> G) : G := by
 by_cases hc : c
 ·rw [if_pos hc] at h; exact za h
 ·rw [if_neg hc] at h; exact k hc h
@[elab_as_elim] theorem eqE {α : Type} {a a' : α} {P : α -> Prop} (e : some a = some a') (h : P a) : P a' := Option.some.inj e ▸ h
@[elab_as_elim] theorem zky {α : Type} {a a' : α} {P : α -> Prop} (e : a = a') (h : P a) : P a' := e ▸ h
@[elab_as_elim] theorem rwE.{u} {α : Sort u} {a b : α} {P : α -> Prop} (e : a = b) (h : P b) : P a := e ▸ h
@[elab_as_elim] theorem rwB.{u} {α : Sort u} {a b : α} {P : α -> Prop} (e : a = b) (h : P a) : P b := e ▸ h
@[elab_as_elim] theorem zaE {α β : Type} {a a' : α} {b b' : β} {P : α -> β -> Prop} (e : some (a, b) = some (a', b')) (h : P a b) : P a' b' := by
 cases e; exact h
theorem zaf {a b : Bool} {G : Prop} (h : (a && b) = true) (k : a = true -> b = true -> G) : G := by
 rw [Bool.and_eq_true] at h; exact k h.1 h.2
theorem E02 {P Q : Prop} {G : Prop} (h : P /\ Q) (k : P -> Q -> G) : G := k h.1 h.2
theorem I02 {P Q : Prop} (p : P) (q : Q) : P /\ Q := ⟨p, q⟩
theorem E03 {P Q R : Prop} {G : Prop} (h : P /\ Q /\ R) (k : P -> Q -> R -> G) : G := k h.1 h.2.1 h.2.2
theorem I03 {P Q R : Prop} (p : P) (q : Q) (r : R) : P /\ Q /\ R := ⟨p, q, r⟩
theorem E04 {P Q R S : Prop} {G : Prop} (h : P /\ Q /\ R /\ S) (k : P -> Q -> R -> S -> G) : G := k h.1 h.2.1 h.2.2.1 h.2.2.2
theorem I04 {P Q R S : Prop} (p : P) (q : Q) (r : R) (s : S) : P /\ Q /\ R /\ S := ⟨p, q, r, s⟩
theorem E05 {P Q R S T : Prop} {G : Prop} (h : P /\ Q /\ R /\ S /\ T) (k : P -> Q -> R -> S -> T -> G) : G := k h.1 h.2.1 h.2.2.1 h.2.2.2.1 h.2.2.2.2
theorem I05 {P Q R S T : Prop} (p : P) (q : Q) (r : R) (s : S) (t : T) : P /\ Q /\ R /\ S /\ T := ⟨p, q, r, s, t⟩
theorem E06 {P Q R S T U : Prop} {G : Prop} (h : P /\ Q /\ R /\ S /\ T /\ U) (k : P -> Q -> R -> S -> T -> U -> G) : G := k h.1 h.2.1 h.2.2.1 h.2.2.2.1 h.2.2.2.2.1 h.2.2.2.2.2
theorem I06 {P Q R S T U : Prop} (p : P) (q : Q) (r : R) (s : S) (t : T) (u : U) : P /\ Q /\ R /\ S /\ T /\ U := ⟨p, q, r, s, t, u⟩
theorem E07 {P Q R S T U V : Prop} {G : Prop} (h : P /\ Q /\ R /\ S /\ T /\ U /\ V) (k : P -> Q -> R -> S -> T -> U -> V -> G) : G := k h.1 h.2.1 h.2.2.1 h.2.2.2.1 h.2.2.2.2.1 h.2.2.2.2.2.1 h.2.2.2.2.2.2
theorem I07 {P Q R S T U V : Prop} (p : P) (q : Q) (r : R) (s : S) (t : T) (u : U) (v : V) : P /\ Q /\ R /\ S /\ T /\ U /\ V := ⟨p, q, r, s, t, u, v⟩
theorem E08 {P Q R S T U V W : Prop} {G : Prop} (h : P /\ Q /\ R /\ S /\ T /\ U /\ V /\ W) (k : P -> Q -> R -> S -> T -> U -> V -> W -> G) : G := k h.1 h.2.1 h.2.2.1 h.2.2.2.1 h.2.2.2.2.1 h.2.2.2.2.2.1 h.2.2.2.2.2.2.1 h.2.2.2.2.2.2.2
theorem I08 {P Q R S T U V W : Prop} (p : P) (q : Q) (r : R) (s : S) (t : T) (u : U) (v : V) (w : W) : P /\ Q /\ R /\ S /\ T /\ U /\ V /\ W := ⟨p, q, r, s, t, u, v, w⟩
theorem E11 {α : Sort _} {P : α -> Prop} {G : Prop} (h : ∃ a, P a) (k : ∀ a, P a -> G) : G := h.elim fun a h => k a h
theorem I11 {α : Sort _} {P : α -> Prop} (a : α) (p : P a) : ∃ a, P a := ⟨a, p⟩
theorem E12 {α : Sort _} {P Q : α -> Prop} {G : Prop} (h : ∃ a, P a /\ Q a) (k : ∀ a, P a -> Q a -> G) : G := h.elim fun a h => E02 h (k a)
theorem I12 {α : Sort _} {P Q : α -> Prop} (a : α) (p : P a) (q : Q a) : ∃ a, P a /\ Q a := ⟨a, I02 p q⟩
theorem E13 {α : Sort _} {P Q R : α -> Prop} {G : Prop} (h : ∃ a, P a /\ Q a /\ R a) (k : ∀ a, P a -> Q a -> R a -> G) : G := h.elim fun a h => E03 h (k a)
theorem I13 {α : Sort _} {P Q R : α -> Prop} (a : α) (p : P a) (q : Q a) (r : R a) : ∃ a, P a /\ Q a /\ R a := ⟨a, I03 p q r⟩
theorem E14 {α : Sort _} {P Q R S : α -> Prop} {G : Prop} (h : ∃ a, P a /\ Q a /\ R a /\ S a) (k : ∀ a, P a -> Q a -> R a -> S a -> G) : G := h.elim fun a h => E04 h (k a)
theorem I14 {α : Sort _} {P Q R S : α -> Prop} (a : α) (p : P a) (q : Q a) (r : R a) (s : S a) : ∃ a, P a /\ Q a /\ R a /\ S a := ⟨a, I04 p q r s⟩
theorem E15 {α : Sort _} {P Q R S T : α -> Prop} {G : Prop} (h : ∃ a, P a /\ Q a /\ R a /\ S a /\ T a) (k : ∀ a, P a -> Q a -> R a -> S a -> T a -> G) : G := h.elim fun a h => E05 h (k a)
theorem I15 {α : Sort _} {P Q R S T : α -> Prop} (a : α) (p : P a) (q : Q a) (r : R a) (s : S a) (t : T a) : ∃ a, P a /\ Q a /\ R a /\ S a /\ T a := ⟨a, I05 p q r s t⟩
theorem E16 {α : Sort _} {P Q R S T U : α -> Prop} {G : Prop} (h : ∃ a, P a /\ Q a /\ R a /\ S a /\ T a /\ U a) (k : ∀ a, P a -> Q a -> R a -> S a -> T a -> U a -> G) : G := h.elim fun a h => E06 h (k a)
theorem I16 {α : Sort _} {P Q R S T U : α -> Prop} (a : α) (p : P a) (q : Q a) (r : R a) (s : S a) (t : T a) (u : U a) : ∃ a, P a /\ Q a /\ R a /\ S a /\ T a /\ U a := ⟨a, I06 p q r s t u⟩
theorem E17 {α : Sort _} {P Q R S T U V : α -> Prop} {G : Prop} (h : ∃ a, P a /\ Q a /\ R a /\ S a /\ T a /\ U a /\ V a) (k : ∀ a, P a -> Q a -> R a -> S a -> T a -> U a -> V a -> G) : G := h.elim fun a h => E07 h (k a)
theorem I17 {α : Sort _} {P Q R S T U V : α -> Prop} (a : α) (p : P a) (q : Q a) (r : R a) (s : S a) (t : T a) (u : U a) (v : V a) : ∃ a, P a /\ Q a /\ R a /\ S a /\ T a /\ U a /\ V a := ⟨a, I07 p q r s t u v⟩
theorem E18 {α : Sort _} {P Q R S T U V W : α -> Prop} {G : Prop} (h : ∃ a, P a /\ Q a /\ R a /\ S a /\ T a /\ U a /\ V a /\ W a) (k : ∀ a, P a -> Q a -> R a -> S a -> T a -> U a -> V a -> W a -> G) : G := h.elim fun a h => E08 h (k a)
theorem I18 {α : Sort _} {P Q R S T U V W : α -> Prop} (a : α) (p : P a) (q : Q a) (r : R a) (s : S a) (t : T a) (u : U a) (v : V a) (w : W a) : ∃ a, P a /\ Q a /\ R a /\ S a /\ T a /\ U a /\ V a /\ W a := ⟨a, I08 p q r s t u v w⟩
theorem E21 {α β : Sort _} {P : α -> β -> Prop} {G : Prop} (h : ∃ a b, P a b) (k : ∀ a b, P a b -> G) : G := h.elim fun a h => E11 h (k a)
theorem I21 {α β : Sort _} {P : α -> β -> Prop} (a : α) (b : β) (p : P a b) : ∃ a b, P a b := ⟨a, I11 b p⟩
theorem E22 {α β : Sort _} {P Q : α -> β -> Prop} {G : Prop} (h : ∃ a b, P a b /\ Q a b) (k : ∀ a b, P a b -> Q a b -> G) : G := h.elim fun a h => E12 h (k a)
theorem I22 {α β : Sort _} {P Q : α -> β -> Prop} (a : α) (b : β) (p : P a b) (q : Q a b) : ∃ a b, P a b /\ Q a b := ⟨a, I12 b p q⟩
theorem E23 {α β : Sort _} {P Q R : α -> β -> Prop} {G : Prop} (h : ∃ a b, P a b /\ Q a b /\ R a b) (k : ∀ a b, P a b -> Q a b -> R a b -> G) : G := h.elim fun a h => E13 h (k a)
theorem I23 {α β : Sort _} {P Q R : α -> β -> Prop} (a : α) (b : β) (p : P a b) (q : Q a b) (r : R a b) : ∃ a b, P a b /\ Q a b /\ R a b := ⟨a, I13 b p q r⟩
theorem E24 {α β : Sort _} {P Q R S : α -> β -> Prop} {G : Prop} (h : ∃ a b, P a b /\ Q a b /\ R a b /\ S a b) (k : ∀ a b, P a b -> Q a b -> R a b -> S a b -> G) : G := h.elim fun a h => E14 h (k a)
theorem I24 {α β : Sort _} {P Q R S : α -> β -> Prop} (a : α) (b : β) (p : P a b) (q : Q a b) (r : R a b) (s : S a b) : ∃ a b, P a b /\ Q a b /\ R a b /\ S a b := ⟨a, I14 b p q r s⟩
theorem E25 {α β : Sort _} {P Q R S T : α -> β -> Prop} {G : Prop} (h : ∃ a b, P a b /\ Q a b /\ R a b /\ S a b /\ T a b) (k : ∀ a b, P a b -> Q a b -> R a b -> S a b -> T a b -> G) : G := h.elim fun a h => E15 h (k a)
theorem I25 {α β : Sort _} {P Q R S T : α -> β -> Prop} (a : α) (b : β) (p : P a b) (q : Q a b) (r : R a b) (s : S a b) (t : T a b) : ∃ a b, P a b /\ Q a b /\ R a b /\ S a b /\ T a b := ⟨a, I15 b p q r s t⟩
theorem E26 {α β : Sort _} {P Q R S T U : α -> β -> Prop} {G : Prop} (h : ∃ a b, P a b /\ Q a b /\ R a b /\ S a b /\ T a b /\ U a b) (k : ∀ a b, P a b -> Q a b -> R a b -> S a b -> T a b -> U a b -> G) : G := h.elim fun a h => E16 h (k a)
theorem I26 {α β : Sort _} {P Q R S T U : α -> β -> Prop} (a : α) (b : β) (p : P a b) (q : Q a b) (r : R a b) (s : S a b) (t : T a b) (u : U a b) : ∃ a b, P a b /\ Q a b /\ R a b /\ S a b /\ T a b /\ U a b := ⟨a, I16 b p q r s t u⟩
theorem E27 {α β : Sort _} {P Q R S T U V : α -> β -> Prop} {G : Prop} (h : ∃ a b, P a b /\ Q a b /\ R a b /\ S a b /\ T a b /\ U a b /\ V a b) (k : ∀ a b, P a b -> Q a b -> R a b -> S a b -> T a b -> U a b -> V a b -> G) : G := h.elim fun a h => E17 h (k a)
theorem I27 {α β : Sort _} {P Q R S T U V : α -> β -> Prop} (a : α) (b : β) (p : P a b) (q : Q a b) (r : R a b) (s : S a b) (t : T a b) (u : U a b) (v : V a b) : ∃ a b, P a b /\ Q a b /\ R a b /\ S a b /\ T a b /\ U a b /\ V a b := ⟨a, I17 b p q r s t u v⟩
theorem E28 {α β : Sort _} {P Q R S T U V W : α -> β -> Prop} {G : Prop} (h : ∃ a b, P a b /\ Q a b /\ R a b /\ S a b /\ T a b /\ U a b /\ V a b /\ W a b) (k : ∀ a b, P a b -> Q a b -> R a b -> S a b -> T a b -> U a b -> V a b -> W a b -> G) : G := h.elim fun a h => E18 h (k a)
theorem I28 {α β : Sort _} {P Q R S T U V W : α -> β -> Prop} (a : α) (b : β) (p : P a b) (q : Q a b) (r : R a b) (s : S a b) (t : T a b) (u : U a b) (v : V a b) (w : W a b) : ∃ a b, P a b /\ Q a b /\ R a b /\ S a b /\ T a b /\ U a b /\ V a b /\ W a b := ⟨a, I18 b p q r s t u v w⟩
theorem E31 {α β γ : Sort _} {P : α -> β -> γ -> Prop} {G : Prop} (h : ∃ a b c, P a b c) (k : ∀ a b c, P a b c -> G) : G := h.elim fun a h => E21 h (k a)
theorem I31 {α β γ : Sort _} {P : α -> β -> γ -> Prop} (a : α) (b : β) (c : γ) (p : P a b c) : ∃ a b c, P a b c := ⟨a, I21 b c p⟩
theorem E32 {α β γ : Sort _} {P Q : α -> β -> γ -> Prop} {G : Prop} (h : ∃ a b c, P a b c /\ Q a b c) (k : ∀ a b c, P a b c -> Q a b c -> G) : G := h.elim fun a h => E22 h (k a)
theorem I32 {α β γ : Sort _} {P Q : α -> β -> γ -> Prop} (a : α) (b : β) (c : γ) (p : P a b c) (q : Q a b c) : ∃ a b c, P a b c /\ Q a b c := ⟨a, I22 b c p q⟩
theorem E33 {α β γ : Sort _} {P Q R : α -> β -> γ -> Prop} {G : Prop} (h : ∃ a b c, P a b c /\ Q a b c /\ R a b c) (k : ∀ a b c, P a b c -> Q a b c -> R a b c -> G) : G := h.elim fun a h => E23 h (k a)
theorem I33 {α β γ : Sort _} {P Q R : α -> β -> γ -> Prop} (a : α) (b : β) (c : γ) (p : P a b c) (q : Q a b c) (r : R a b c) : ∃ a b c, P a b c /\ Q a b c /\ R a b c := ⟨a, I23 b c p q r⟩
theorem E34 {α β γ : Sort _} {P Q R S : α -> β -> γ -> Prop} {G : Prop} (h : ∃ a b c, P a b c /\ Q a b c /\ R a b c /\ S a b c) (k : ∀ a b c, P a b c -> Q a b c -> R a b c -> S a b c -> G) : G := h.elim fun a h => E24 h (k a)
theorem I34 {α β γ : Sort _} {P Q R S : α -> β -> γ -> Prop} (a : α) (b : β) (c : γ) (p : P a b c) (q : Q a b c) (r : R a b c) (s : S a b c) : ∃ a b c, P a b c /\ Q a b c /\ R a b c /\ S a b c := ⟨a, I24 b c p q r s⟩
theorem I35 {α β γ : Sort _} {P Q R S T : α -> β -> γ -> Prop} (a : α) (b : β) (c : γ) (p : P a b c) (q : Q a b c) (r : R a b c) (s : S a b c) (t : T a b c) : ∃ a b c, P a b c /\ Q a b c /\ R a b c /\ S a b c /\ T a b c := ⟨a, I25 b c p q r s t⟩
theorem E36 {α β γ : Sort _} {P Q R S T U : α -> β -> γ -> Prop} {G : Prop} (h : ∃ a b c, P a b c /\ Q a b c /\ R a b c /\ S a b c /\ T a b c /\ U a b c) (k : ∀ a b c, P a b c -> Q a b c -> R a b c -> S a b c -> T a b c -> U a b c -> G) : G := h.elim fun a h => E26 h (k a)
theorem I36 {α β γ : Sort _} {P Q R S T U : α -> β -> γ -> Prop} (a : α) (b : β) (c : γ) (p : P a b c) (q : Q a b c) (r : R a b c) (s : S a b c) (t : T a b c) (u : U a b c) : ∃ a b c, P a b c /\ Q a b c /\ R a b c /\ S a b c /\ T a b c /\ U a b c := ⟨a, I26 b c p q r s t u⟩
theorem E37 {α β γ : Sort _} {P Q R S T U V : α -> β -> γ -> Prop} {G : Prop} (h : ∃ a b c, P a b c /\ Q a b c /\ R a b c /\ S a b c /\ T a b c /\ U a b c /\ V a b c) (k : ∀ a b c, P a b c -> Q a b c -> R a b c -> S a b c -> T a b c -> U a b c -> V a b c -> G) : G := h.elim fun a h => E27 h (k a)
theorem I37 {α β γ : Sort _} {P Q R S T U V : α -> β -> γ -> Prop} (a : α) (b : β) (c : γ) (p : P a b c) (q : Q a b c) (r : R a b c) (s : S a b c) (t : T a b c) (u : U a b c) (v : V a b c) : ∃ a b c, P a b c /\ Q a b c /\ R a b c /\ S a b c /\ T a b c /\ U a b c /\ V a b c := ⟨a, I27 b c p q r s t u v⟩
theorem E38 {α β γ : Sort _} {P Q R S T U V W : α -> β -> γ -> Prop} {G : Prop} (h : ∃ a b c, P a b c /\ Q a b c /\ R a b c /\ S a b c /\ T a b c /\ U a b c /\ V a b c /\ W a b c) (k : ∀ a b c, P a b c -> Q a b c -> R a b c -> S a b c -> T a b c -> U a b c -> V a b c -> W a b c -> G) : G := h.elim fun a h => E28 h (k a)
theorem I38 {α β γ : Sort _} {P Q R S T U V W : α -> β -> γ -> Prop} (a : α) (b : β) (c : γ) (p : P a b c) (q : Q a b c) (r : R a b c) (s : S a b c) (t : T a b c) (u : U a b c) (v : V a b c) (w : W a b c) : ∃ a b c, P a b c /\ Q a b c /\ R a b c /\ S a b c /\ T a b c /\ U a b c /\ V a b c /\ W a b c := ⟨a, I28 b c p q r s t u v w⟩
theorem E41 {α β γ δ : Sort _} {P : α -> β -> γ -> δ -> Prop} {G : Prop} (h : ∃ a b c d, P a b c d) (k : ∀ a b c d, P a b c d -> G) : G := h.elim fun a h => E31 h (k a)
theorem E42 {α β γ δ : Sort _} {P Q : α -> β -> γ -> δ -> Prop} {G : Prop} (h : ∃ a b c d, P a b c d /\ Q a b c d) (k : ∀ a b c d, P a b c d -> Q a b c d -> G) : G := h.elim fun a h => E32 h (k a)
theorem I42 {α β γ δ : Sort _} {P Q : α -> β -> γ -> δ -> Prop} (a : α) (b : β) (c : γ) (d : δ) (p : P a b c d) (q : Q a b c d) : ∃ a b c d, P a b c d /\ Q a b c d := ⟨a, I32 b c d p q⟩
theorem E43 {α β γ δ : Sort _} {P Q R : α -> β -> γ -> δ -> Prop} {G : Prop} (h : ∃ a b c d, P a b c d /\ Q a b c d /\ R a b c d) (k : ∀ a b c d, P a b c d -> Q a b c d -> R a b c d -> G) : G := h.elim fun a h => E33 h (k a)
theorem I43 {α β γ δ : Sort _} {P Q R : α -> β -> γ -> δ -> Prop} (a : α) (b : β) (c : γ) (d : δ) (p : P a b c d) (q : Q a b c d) (r : R a b c d) : ∃ a b c d, P a b c d /\ Q a b c d /\ R a b c d := ⟨a, I33 b c d p q r⟩
theorem E44 {α β γ δ : Sort _} {P Q R S : α -> β -> γ -> δ -> Prop} {G : Prop} (h : ∃ a b c d, P a b c d /\ Q a b c d /\ R a b c d /\ S a b c d) (k : ∀ a b c d, P a b c d -> Q a b c d -> R a b c d -> S a b c d -> G) : G := h.elim fun a h => E34 h (k a)
theorem I44 {α β γ δ : Sort _} {P Q R S : α -> β -> γ -> δ -> Prop} (a : α) (b : β) (c : γ) (d : δ) (p : P a b c d) (q : Q a b c d) (r : R a b c d) (s : S a b c d) : ∃ a b c d, P a b c d /\ Q a b c d /\ R a b c d /\ S a b c d := ⟨a, I34 b c d p q r s⟩
theorem E46 {α β γ δ : Sort _} {P Q R S T U : α -> β -> γ -> δ -> Prop} {G : Prop} (h : ∃ a b c d, P a b c d /\ Q a b c d /\ R a b c d /\ S a b c d /\ T a b c d /\ U a b c d) (k : ∀ a b c d, P a b c d -> Q a b c d -> R a b c d -> S a b c d -> T a b c d -> U a b c d -> G) : G := h.elim fun a h => E36 h (k a)
theorem I46 {α β γ δ : Sort _} {P Q R S T U : α -> β -> γ -> δ -> Prop} (a : α) (b : β) (c : γ) (d : δ) (p : P a b c d) (q : Q a b c d) (r : R a b c d) (s : S a b c d) (t : T a b c d) (u : U a b c d) : ∃ a b c d, P a b c d /\ Q a b c d /\ R a b c d /\ S a b c d /\ T a b c d /\ U a b c d := ⟨a, I36 b c d p q r s t u⟩
theorem E47 {α β γ δ : Sort _} {P Q R S T U V : α -> β -> γ -> δ -> Prop} {G : Prop} (h : ∃ a b c d, P a b c d /\ Q a b c d /\ R a b c d /\ S a b c d /\ T a b c d /\ U a b c d /\ V a b c d) (k : ∀ a b c d, P a b c d -> Q a b c d -> R a b c d -> S a b c d -> T a b c d -> U a b c d -> V a b c d -> G) : G := h.elim fun a h => E37 h (k a)
theorem I47 {α β γ δ : Sort _} {P Q R S T U V : α -> β -> γ -> δ -> Prop} (a : α) (b : β) (c : γ) (d : δ) (p : P a b c d) (q : Q a b c d) (r : R a b c d) (s : S a b c d) (t : T a b c d) (u : U a b c d) (v : V a b c d) : ∃ a b c d, P a b c d /\ Q a b c d /\ R a b c d /\ S a b c d /\ T a b c d /\ U a b c d /\ V a b c d := ⟨a, I37 b c d p q r s t u v⟩
theorem E48 {α β γ δ : Sort _} {P Q R S T U V W : α -> β -> γ -> δ -> Prop} {G : Prop} (h : ∃ a b c d, P a b c d /\ Q a b c d /\ R a b c d /\ S a b c d /\ T a b c d /\ U a b c d /\ V a b c d /\ W a b c d) (k : ∀ a b c d, P a b c d -> Q a b c d -> R a b c d -> S a b c d -> T a b c d -> U a b c d -> V a b c d -> W a b c d -> G) : G := h.elim fun a h => E38 h (k a)
theorem I48 {α β γ δ : Sort _} {P Q R S T U V W : α -> β -> γ -> δ -> Prop} (a : α) (b : β) (c : γ) (d : δ) (p : P a b c d) (q : Q a b c d) (r : R a b c d) (s : S a b c d) (t : T a b c d) (u : U a b c d) (v : V a b c d) (w : W a b c d) : ∃ a b c d, P a b c d /\ Q a b c d /\ R a b c d /\ S a b c d /\ T a b c d /\ U a b c d /\ V a b c d /\ W a b c d := ⟨a, I38 b c d p q r s t u v w⟩
theorem E51 {α β γ δ ε : Sort _} {P : α -> β -> γ -> δ -> ε -> Prop} {G : Prop} (h : ∃ a b c d e, P a b c d e) (k : ∀ a b c d e, P a b c d e -> G) : G := h.elim fun a h => E41 h (k a)
theorem E53 {α β γ δ ε : Sort _} {P Q R : α -> β -> γ -> δ -> ε -> Prop} {G : Prop} (h : ∃ a b c d e, P a b c d e /\ Q a b c d e /\ R a b c d e) (k : ∀ a b c d e, P a b c d e -> Q a b c d e -> R a b c d e -> G) : G := h.elim fun a h => E43 h (k a)
theorem I53 {α β γ δ ε : Sort _} {P Q R : α -> β -> γ -> δ -> ε -> Prop} (a : α) (b : β) (c : γ) (d : δ) (e : ε) (p : P a b c d e) (q : Q a b c d e) (r : R a b c d e) : ∃ a b c d e, P a b c d e /\ Q a b c d e /\ R a b c d e := ⟨a, I43 b c d e p q r⟩
theorem E54 {α β γ δ ε : Sort _} {P Q R S : α -> β -> γ -> δ -> ε -> Prop} {G : Prop} (h : ∃ a b c d e, P a b c d e /\ Q a b c d e /\ R a b c d e /\ S a b c d e) (k : ∀ a b c d e, P a b c d e -> Q a b c d e -> R a b c d e -> S a b c d e -> G) : G := h.elim fun a h => E44 h (k a)
theorem E56 {α β γ δ ε : Sort _} {P Q R S T U : α -> β -> γ -> δ -> ε -> Prop} {G : Prop} (h : ∃ a b c d e, P a b c d e /\ Q a b c d e /\ R a b c d e /\ S a b c d e /\ T a b c d e /\ U a b c d e) (k : ∀ a b c d e, P a b c d e -> Q a b c d e -> R a b c d e -> S a b c d e -> T a b c d e -> U a b c d e -> G) : G := h.elim fun a h => E46 h (k a)
theorem E57 {α β γ δ ε : Sort _} {P Q R S T U V : α -> β -> γ -> δ -> ε -> Prop} {G : Prop} (h : ∃ a b c d e, P a b c d e /\ Q a b c d e /\ R a b c d e /\ S a b c d e /\ T a b c d e /\ U a b c d e /\ V a b c d e) (k : ∀ a b c d e, P a b c d e -> Q a b c d e -> R a b c d e -> S a b c d e -> T a b c d e -> U a b c d e -> V a b c d e -> G) : G := h.elim fun a h => E47 h (k a)
theorem E58 {α β γ δ ε : Sort _} {P Q R S T U V W : α -> β -> γ -> δ -> ε -> Prop} {G : Prop} (h : ∃ a b c d e, P a b c d e /\ Q a b c d e /\ R a b c d e /\ S a b c d e /\ T a b c d e /\ U a b c d e /\ V a b c d e /\ W a b c d e) (k : ∀ a b c d e, P a b c d e -> Q a b c d e -> R a b c d e -> S a b c d e -> T a b c d e -> U a b c d e -> V a b c d e -> W a b c d e -> G) : G := h.elim fun a h => E48 h (k a)
theorem I58 {α β γ δ ε : Sort _} {P Q R S T U V W : α -> β -> γ -> δ -> ε -> Prop} (a : α) (b : β) (c : γ) (d : δ) (e : ε) (p : P a b c d e) (q : Q a b c d e) (r : R a b c d e) (s : S a b c d e) (t : T a b c d e) (u : U a b c d e) (v : V a b c d e) (w : W a b c d e) : ∃ a b c d e, P a b c d e /\ Q a b c d e /\ R a b c d e /\ S a b c d e /\ T a b c d e /\ U a b c d e /\ V a b c d e /\ W a b c d e := ⟨a, I48 b c d e p q r s t u v w⟩
theorem wpM {α : Type} {M : Model} {A : Around} {E : Value -> Shared -> Prop} {s : Shared} {t : Sem α} {Q Q' : α -> Shared -> Prop} (h : wpAny M A t Q E s) (k : ∀ a s, Q a s -> Q' a s) : wpAny M A t Q' E s := wpAny_mono h k fun _ _ x => x
theorem ztm {M : Model} {A : Around} {s : Shared} {c : Code} {R : Result -> Shared -> Prop} (h : ∀ R' : Result -> Shared -> Prop, (∀ a s, R a s -> R' a s) -> codeAny M A c R' s) : codeAny M A c R s := h R fun _ _ q => q
theorem zu0 {α β : Type} (P : α -> β -> Prop) {G : Prop} (h : ∀ I : α -> β -> Prop, (∀ j s, P j s -> I j s) -> (∀ j s, I j s -> P j s) -> G) : G := h P (fun _ _ h => h) fun _ _ h => h
@[elab_as_elim] theorem ltS {n : Nat} {P : Nat -> Prop} {l : Nat} (h : l < n + 1) (z : P 0) (s : ∀ j, j < n -> P (j + 1)) : P l := by
 induction l using Nat.casesOn with
 | zero => exact z
 | succ j => exact s j (Nat.lt_of_succ_lt_succ h)
@[elab_as_elim] theorem lt3 {P : Nat -> Prop} {l : Nat} (h : l < 3) (a : P 0) (b : P 1) (c : P 2) : P l := ltS h a fun _ h => ltS h b fun _ h => ltS h c fun _ h => absurd h (Nat.not_lt_zero _)
@[elab_as_elim] theorem lt6 {P : Nat -> Prop} {l : Nat} (h : l < 6) (a : P 0) (b : P 1) (c : P 2) (d : P 3) (e : P 4) (f : P 5) : P l := ltS h a fun _ h => ltS h b fun _ h => ltS h c fun _ h => lt3 h d e f
@[elab_as_elim] theorem lt8 {P : Nat -> Prop} {l : Nat} (h : l < 8) (a : P 0) (b : P 1) (c : P 2) (d : P 3) (e : P 4) (f : P 5) (g : P 6) (i : P 7) : P l := ltS h a fun _ h => ltS h b fun _ h => lt6 h c d e f g i
@[elab_as_elim] theorem ztn {α : Type} {a b : α} {P : α -> Prop} (h : b ∈ [a]) (x : P a) : P b := List.mem_singleton.mp h ▸ x
@[elab_as_elim] theorem zaZ {α : Type} {a c b : α} {P : α -> Prop} (h : b ∈ [a, c]) (x : P a) (y : P c) : P b := (List.mem_cons.mp h).elim (fun e => e ▸ x) fun h => ztn h y
@[elab_as_elim] theorem zbt {α : Type} {a b : α} {l : List α} {P : α -> Prop} (h : b ∈ a :: l) (x : P a) (y : b ∈ l -> P b) : P b := (List.mem_cons.mp h).elim (fun e => e ▸ x) y
theorem zvP {α : Type} {a c b : α} (x : b ≠ a) (y : b ≠ c) : b ∉ [a, c] := fun h => zaZ (P := fun b => b ≠ a -> b ≠ c -> False) h (fun h _ => h rfl) (fun _ h => h rfl) x y
theorem zvQ {α : Type} {a c b : α} {G : Prop} (h : b ∉ [a, c]) (k : b ≠ a -> b ≠ c -> G) : G := k (fun e => h (e ▸ .head _)) fun e => h (e ▸ .tail _ (.head _))
theorem nm2 {α : Type} {a c b : α} (h : b ∉ [a, c]) : ¬ b = a /\ ¬ b = c := ⟨fun e => h (e ▸ .head _), fun e => h (e ▸ .tail _ (.head _))⟩
theorem nm3 {α : Type} {a c d b : α} (h : b ∉ [a, c, d]) : ¬ b = a /\ ¬ b = c /\ ¬ b = d := ⟨fun e => h (e ▸ .head _), fun e => h (e ▸ .tail _ (.head _)), fun e => h (e ▸ .tail _ (.tail _ (.head _)))⟩
theorem ifC {α : Type} {c : Prop} [Decidable c] {x y : Option α} {r : α} {G : Prop} (h : (if c then x else y) = some r) (p : c -> x = some r -> G) (n : ¬ c -> y = some r -> G) : G :=
 if k : c then p k ((if_pos k).symm.trans h) else n k ((if_neg k).symm.trans h)
theorem nm4 {α : Type} {a c d e b : α} (h : b ∉ [a, c, d, e]) : ¬ b = a /\ ¬ b = c /\ ¬ b = d /\ ¬ b = e := ⟨fun i => h (i ▸ .head _), nm3 fun m => h (.tail _ m)⟩
open Lean Parser.Tactic in
local macro_rules
  | `(tactic| rw [$rs,*]) => do
    let ts <- rs.getElems.mapM fun r => do
      match r with
      | `(rwRule| $e:term) => `(tactic| first | refine Mine.rwE $e ?_ | rewrite [$e:term])
      | `(rwRule| <- $e:term) => `(tactic| first | refine Mine.rwB $e ?_ | rewrite [<- $e:term])
      | _ => Macro.throwUnsupported
    `(tactic| ($[$ts:tactic];*; try with_reducible rfl))
open Lean Parser.Tactic in
local macro_rules
  | `(tactic| obtain ⟨$ps,*⟩ := $e:term) => do
    let ps := ps.getElems
    let n := ps.size
    if n < 2 then Macro.throwUnsupported
    let mut xs : Array Ident := #[]
    let mut post : Array (TSyntax `tactic) := #[]
    let mut own : Array Name := #[]
    for p in ps do
      match p with
      | `(rcasesPatLo| $x:ident) =>
        if x.getId == `rfl then
          let y <- withFreshMacroScope `(y)
          let y : Ident := ⟨y⟩
          xs := xs.push y; post := post.push (<- `(tactic| obtain $(mkIdent `rfl):ident := $y))
        else
          xs := xs.push x; own := own.push x.getId
      | `(rcasesPatLo| _) => let y <- withFreshMacroScope `(y); xs := xs.push ⟨y⟩
      | `(rcasesPatLo| $q:rcasesPatMed) =>
        let y <- withFreshMacroScope `(y)
        let y : Ident := ⟨y⟩
        xs := xs.push y; post := post.push (<- `(tactic| obtain $q := $y))
      | _ => Macro.throwUnsupported
    let mut alts : Array (TSyntax `tactic) := #[]
    for k in [0:min n 6] do
      let m := n - k
      if m > 8 || (k == 0 && m < 2) then continue
      let f := mkIdent (`Mine ++ Name.mkSimple s!"E{k}{m}")
      alts := alts.push (<- `(tactic| refine $f $e fun $[$xs:ident]* => ?_))
    let fb <- `(tactic| rcases $e:term with ⟨$ps,*⟩)
    let al : TSyntax `tactic <- `(tactic| first $[| $alts:tactic]*)
    let cl <- match e with
      | `($h:ident) => if own.contains h.getId then `(tactic| skip) else `(tactic| try clear $h)
      | _ => `(tactic| skip)
    `(tactic| first | ($al:tactic; $cl:tactic; $[$post:tactic];*) | $fb:tactic)
structure En where
 prog : Program
 w : World
 B : Heap
 os : OsState
noncomputable abbrev En.m (Ω : En) := model Ω.prog Ω.w
structure Fs where
 fns : List (Str × Nat)
 cst : List (Str × PyData)
 gen : Str
 fa : Nat -> Addr
 ga : Addr
noncomputable def Fs.none (Φ : Fs) : Fs := ⟨[], [], Φ.gen, Φ.fa, Φ.ga⟩
def Sub (F G : Heap) : Prop := ∀ b o, F.get? b = some o -> G.get? b = some o
theorem Sub.refl (F : Heap) : Sub F F := fun u v e => e
theorem Sub.trans {F G H : Heap} (a : Sub F G) (b : Sub G H) : Sub F H := fun x o e => b x o (a x o e)
theorem Sub.none {F G : Heap} (a : Sub F G) {b : Addr} (h : G.get? b = none) : F.get? b = none := by
 induction e : F.get? b with
 | none => rfl
 | some o => cases (a b o e).symm.trans h
def zek : Value -> PyData -> Prop
 | v, .int i => ∃ t, v = .int i t
 | v, .str x => ∃ t, v = .str x t
 | _, _ => False
noncomputable def zbU : List (PyData × PyData) -> Int -> Option PyData
 | [], _ => none
 | (.int j, d) :: r, k => if k = j then some d else zbU r k
 | _ :: r, k => zbU r k
def zbp (F : Heap) (a : Addr) (kvs : List (PyData × PyData)) : Prop :=
 (a == sysModules) = false /\ ∃ f : Int -> Option Value, (∀ (p : Program) (w : World), F.MapOf (intKind p w) a f) /\ ∀ k, match zbU kvs k with
  | some d => ∃ v, f k = some v /\ zek v d
  | none => f k = none
mutual
def Rep (F : Heap) : Value -> PyData -> Prop
 | v, .none => v = .none
 | v, .bool b => v = .bool b
 | v, .int i => ∃ t, v = .int i t
 | v, .str x => ∃ t, v = .str x t
 | v, .list xs => ∃ a vs n, v = .ref a /\ F.get? a = some { cls := .type "list", data := .seq vs n } /\ zv F vs.toList xs
 | v, .tuple xs => ∃ a vs n, v = .ref a /\ F.get? a = some { cls := .type "tuple", data := .seq vs n } /\ zv F vs.toList xs
 | v, .dict kvs => ∃ a, v = .ref a /\ zbp F a kvs
def zv (F : Heap) : List Value -> List PyData -> Prop
 | vs, [] => vs = []
 | vs, d :: ds => ∃ v vs', vs = v :: vs' /\ Rep F v d /\ zv F vs' ds
end
theorem zbp.mono {F G : Heap} {a : Addr} {kvs} (h : Sub F G) (x : zbp F a kvs) : zbp G a kvs := by
 obtain ⟨hs, f, hm, hf⟩ := x
 exact ⟨hs, f, fun p w => E32 (hm p w) fun o es ep ho r =>  (I32 o es ep (h _ _ ho) r), hf⟩
mutual
theorem Rep.mono {F G : Heap} (h : Sub F G) : ∀ {v : Value} {d : PyData}, Rep F v d -> Rep G v d
 | _, .none, x => by exact x
 | _, .bool _, x => by exact x
 | _, .int _, x => by exact x
 | _, .str _, x => by exact x
 | _, .list _, x => by
  refine cps fun G0 hG_0 => ?_
  obtain ⟨a, vs, n, e9, e, r⟩ := x; obtain rfl := e9.symm
  refine hG_0 ?_
  exact I33 a vs n rfl (h _ _ e) (zv.mono h r)
 | _, .tuple _, x => by
  refine cps fun G0 hG_0 => ?_
  obtain ⟨a, vs, n, e9, e, r⟩ := x; obtain rfl := e9.symm
  refine hG_0 ?_
  exact I33 a vs n rfl (h _ _ e) (zv.mono h r)
 | _, .dict _, x => by
  obtain ⟨a, e9, r⟩ := x; refine rwE e9 ?_
  exact I12 a rfl (r.mono h)
theorem zv.mono {F G : Heap} (h : Sub F G) : ∀ {vs : List Value} {ds : List PyData}, zv F vs ds -> zv G vs ds
 | _, [], x => by exact x
 | _, _ :: _, x => by
  obtain ⟨v, vs', e9, a, b⟩ := x; refine rwE e9 ?_
  exact I23 v vs' rfl (Rep.mono h a) (zv.mono h b)
end
section
variable {F : Heap} {v : Value} {vs : List Value}
theorem zjl : Rep F v .none ↔ v = .none := Iff.rfl
theorem zx {b} : Rep F v (.bool b) ↔ v = .bool b := Iff.rfl
theorem zo {i} : Rep F v (.int i) ↔ ∃ t, v = .int i t := Iff.rfl
theorem zU {x} : Rep F v (.str x) ↔ ∃ t, v = .str x t := Iff.rfl
theorem zah {xs} : Rep F v (.list xs) ↔ ∃ a vs n, v = .ref a /\ F.get? a = some { cls := .type "list", data := .seq vs n } /\ zv F vs.toList xs := Iff.rfl
theorem zaq {xs} : Rep F v (.tuple xs) ↔ ∃ a vs n, v = .ref a /\ F.get? a = some { cls := .type "tuple", data := .seq vs n } /\ zv F vs.toList xs := Iff.rfl
theorem zcv {kvs} : Rep F v (.dict kvs) ↔ ∃ a, v = .ref a /\ zbp F a kvs := Iff.rfl
theorem zaM : zv F vs [] ↔ vs = [] := Iff.rfl
theorem zy {d ds} : zv F vs (d :: ds) ↔ ∃ v vs', vs = v :: vs' /\ Rep F v d /\ zv F vs' ds := Iff.rfl
theorem zd5 {v vs d ds} : zv F (v :: vs) (d :: ds) ↔ Rep F v d /\ zv F vs ds := by
 constructor
 ·intro h9; obtain ⟨_, _, e, a, b⟩ := h9; cases e; exact ⟨a, b⟩
 ·intro h9; exact I23 _ _ rfl h9.1 h9.2
theorem zv.length : ∀ {ds : List PyData} {vs : List Value}, zv F vs ds -> vs.length = ds.length
 | [], _, x => by subst x; rfl
 | _ :: ds, _, x => by
  refine cps fun G0 hG_0 => ?_
  obtain ⟨v, vs', e9, _, b⟩ := x; obtain rfl := e9.symm
  refine hG_0 ?_
  simp [b.length]
theorem zv.append : ∀ {ds : List PyData} {vs : List Value} {vs' ds'}, zv F vs ds -> zv F vs' ds' -> zv F (vs ++ vs') (ds ++ ds')
 | [], _, _, _, x, y => by subst x; exact y
 | _ :: ds, _, _, _, x, y => by
  obtain ⟨v, vs', e9, a, b⟩ := x; refine rwE e9 ?_
  exact zd5.mpr ⟨a, b.append y⟩
theorem zv.one {v d} (h : Rep F v d) : zv F [v] [d] := zd5.mpr ⟨h, zaM.mpr rfl⟩
theorem zv.nil : zv F [] [] := zaM.mpr rfl
theorem zv.cons {v d vs ds} (h : Rep F v d) (t : zv F vs ds) : zv F (v :: vs) (d :: ds) := zd5.mpr ⟨h, t⟩
theorem zv.get : ∀ {ds : List PyData} {vs : List Value} {i : Nat} {d : PyData}, zv F vs ds -> ds[i]? = some d -> ∃ v, vs[i]? = some v /\ Rep F v d
 | [], _, _, _, _, h => by exact za h
 | _ :: ds, _, 0, d, x, h => by
  obtain ⟨v, vs', e9, a, b⟩ := x; refine rwE e9 ?_
  simp at h; subst h
  exact I12 v rfl a
 | _ :: ds, _, i+1, d, x, h => by
  obtain ⟨v, vs', e9, a, b⟩ := x; refine rwE e9 ?_
  obtain ⟨u, hu, r⟩ := b.get h
  exact I12 u (by simpa using hu) r
theorem zv.of_all : ∀ {ds : List PyData} {vs : List Value}, vs.length = ds.length -> (∀ (i : Nat) v d, vs[i]? = some v -> ds[i]? = some d -> Rep F v d) -> zv F vs ds
 | [], [], _, _ => .nil
 | [], _ :: _, h, _ => by simp at h
 | _ :: _, [], h, _ => by simp at h
 | d :: ds, v :: vs, h, k => .cons (k 0 v d rfl rfl) (zv.of_all (by simpa using h) fun i v d a b => k (i+1) v d (by simpa using a) (by simpa using b))
theorem zv.reverse {ds : List PyData} {vs : List Value} (x : zv F vs ds) : zv F vs.reverse ds.reverse := by
 refine zv.of_all (by simp [x.length]) fun i v d a b => ?_
 have hl := x.length
 have hi : i < vs.reverse.length := by
  refine Or.elim (Nat.lt_or_ge i vs.reverse.length) (fun h => ?_) fun h => ?_
  ·exact h
  ·exact za ((List.getElem?_eq_none h).symm.trans a)
 rw [List.length_reverse] at hi
 rw [List.getElem?_reverse hi] at a
 rw [List.getElem?_reverse (by lia)] at b
 rw [<- hl] at b
 obtain ⟨u, hu, r⟩ := x.get b
 refine eqE (hu.symm.trans a) ?_; exact r
end
structure Ok (Ω : En) (F : Heap) (s : Shared) : Prop where
 sub : Sub F s.heap
 base : Sub Ω.B F
 os : s.os = Ω.os
 gens : AllBare s.gens
def GK (g g' : Array GenState) : Prop := ∀ (i : Nat) (x : GenState), g[i]? = some x -> g'[i]? = some x
theorem GK.refl (g : Array GenState) : GK g g := fun u v e => e
theorem GK.trans {a b c : Array GenState} (x : GK a b) (y : GK b c) : GK a c := fun i z e => y i z (x i z e)
structure Stp (Ω : En) (F : Heap) (s : Shared) (F' : Heap) (s' : Shared) : Prop where
 ok : Ok Ω F' s'
 f : Sub F F'
 new : ∀ b o, s.heap.get? b = some o -> F'.get? b = F.get? b
 h : Sub s.heap s'.heap
 g : GK s.gens s'.gens
section
variable {Ω : En} {F F' F'' : Heap} {s s' s'' : Shared}
theorem Stp.refl (h : Ok Ω F s) : Stp Ω F s F s := ⟨h, .refl _, fun u v w => rfl, .refl _, .refl _⟩
theorem Stp.trans (a : Stp Ω F s F' s') (b : Stp Ω F' s' F'' s'') : Stp Ω F s F'' s'' :=
 ⟨b.ok, a.f.trans b.f, fun x o e => (b.new x o (a.h x o e)).trans (a.new x o e), a.h.trans b.h, a.g.trans b.g⟩
theorem Stp.tok (h : Ok Ω F s) (n : Nat) : Stp Ω F s F { s with toks := n } :=
 ⟨⟨h.sub, h.base, h.os, h.gens⟩, .refl _, fun u v w => rfl, .refl _, .refl _⟩
theorem Stp.grow {h' : Heap} {n : Nat} (h : Ok Ω F s) (k : Sub s.heap h') : Stp Ω F s F { s with heap := h', toks := n } :=
 ⟨⟨h.sub.trans k, h.base, h.os, h.gens⟩, .refl _, fun u v w => rfl, k, .refl _⟩
end
noncomputable def zda (a : Nat) (os : Array Obj) : Array Obj := os ++ Array.replicate (a - os.size) ⟨.none, Option.none, .freed, #[]⟩
noncomputable def zm7 : Option Obj -> Option Obj
 | some ⟨_, _, .freed, _⟩ => none
 | o => o
theorem zaG (h : Heap) (a : Addr) : h.get? a = zm7 h.objs[a]? := rfl
theorem zkz {o : Obj} (hf : o.isFreed = false) : zm7 (some o) = some o := by
 induction o with
 | mk c d dt sl => induction dt <;> first | rfl | (exact Bool.noConfusion hf)
theorem zaL {x : Option Obj} {o : Obj} (h : zm7 x = some o) : o.isFreed = false := by
 induction x with
 | none => exact za h
 | some y =>
  induction y with
  | mk c d dt sl => induction dt <;> first | (refine eqE h ?_; rfl) | exact za h
theorem ziq (F : Heap) (a : Nat) (o : Obj) (hn : F.get? a = none) (hf : o.isFreed = false) :
  ∃ F' : Heap, Sub F F' /\ F'.get? a = some o /\ ∀ b : Nat, b ≠ a -> F'.get? b = F.get? b := by
 have hsz : a < (zda (a+1) F.objs).size := by
  rw [Array.size_append, Array.size_replicate]
  exact Nat.sub_le_iff_le_add'.mp (Nat.le_refl _)
 have old : ∀ b : Nat, b ≠ a -> ({ F with objs := (zda (a+1) F.objs).setIfInBounds a o } : Heap).get? b = F.get? b := by
  intro b hb
  rw [zaG, zaG]
  rw [show ((zda (a+1) F.objs).setIfInBounds a o)[b]? = (zda (a+1) F.objs)[b]? from by
   simp [Ne.symm hb]]
  refine Or.elim (Nat.lt_or_ge b F.objs.size) (fun h => ?_) fun h => ?_
  ·rw [show (zda (a+1) F.objs)[b]? = F.objs[b]? from by unfold zda; rw [Array.getElem?_append_left h]]
  ·rw [show F.objs[b]? = Option.none from Array.getElem?_eq_none h]
   refine Or.elim (Nat.lt_or_ge b (zda (a+1) F.objs).size) (fun h2 => ?_) fun h2 => ?_
   ·rw [show (zda (a+1) F.objs)[b]? = some ⟨.none, Option.none, .freed, #[]⟩ from by
     unfold zda at h2 |-
     rw [Array.size_append, Array.size_replicate] at h2
     rw [Array.getElem?_append_right h, Array.getElem?_replicate]
     rw [if_pos (Nat.sub_lt_left_of_lt_add h h2)]]
    rfl
   ·rw [show (zda (a+1) F.objs)[b]? = Option.none from Array.getElem?_eq_none h2]
 refine I13 ({ F with objs := (zda (a+1) F.objs).setIfInBounds a o }) (fun b o' e => ?_) ?_ old
 ·by_cases hb : b = a
  ·obtain rfl := hb.symm; exact za (hn.symm.trans e)
  ·rw [old b hb]; exact e
 ·rw [zaG]
  simp [hsz, zkz hf]
section
variable {Ω : En} {F : Heap} {s s' : Shared}
theorem Stp.freezeNew {F1 : Heap} {a : Addr} {o : Obj} (S : Stp Ω F s F1 s') (hn : s.heap.get? a = none) (hF : F1.get? a = none) (ho : s'.heap.get? a = some o) :
  ∃ F', Stp Ω F s F' s' /\ F'.get? a = some o /\ Sub F1 F' := by
 have hf : o.isFreed = false := zaL (by rw [<- zaG]; exact ho)
 obtain ⟨F', h1, h2, h3⟩ := ziq F1 a o hF hf
 refine I13 F' ⟨⟨fun b o' e => ?_, S.ok.base.trans h1, S.ok.os, S.ok.gens⟩, S.f.trans h1, fun b o' e => ?_, S.h, S.g⟩ h2 h1
 ·by_cases hb : b = a
  ·subst hb; refine eqE (h2.symm.trans e) ?_; exact ho
  ·rw [h3 b hb] at e; exact S.ok.sub _ _ e
 ·have hb : b ≠ a := by rintro rfl; exact za (hn.symm.trans e)
  rw [h3 b hb]; exact S.new _ _ e
end
inductive Tgt where
 | v (i : Nat)
 | t (ts : List Tgt)
inductive BI where
 | len | sum | hex | divmod | isInt
 deriving DecidableEq
inductive ME where
 | join | split | startswith | endswith | find | index | get | bitLength
 deriving DecidableEq
mutual
inductive PE where
 | c (d : PyData)
 | v (i : Nat)
 | bin (op : Operator) (a b : PE)
 | neg (a : PE)
 | inv (a : PE)
 | not (a : PE)
 | cmp (op : CmpOp) (a b : PE)
 | and (es : List PE)
 | or (es : List PE)
 | ite (t a b : PE)
 | lst (es : List PE)
 | tup (es : List PE)
 | idx (a i : PE)
 | sl (a : PE) (lo hi st : Option PE)
 | call (f : Nat) (es : List PE)
 | bi (b : BI) (es : List PE)
 | me (m : ME) (a : PE) (es : List PE)
 | comp (elt : PE) (gs : List Gn)
 | dcomp (k v : PE) (g : Gn)
 | rng (es : List PE)
 | enm (e : PE)
 | zip (a b : PE)
 | rev (e : PE)
 | gen (e : PE)
inductive Gn where
 | mk (t : Tgt) (it : PE) (ifs : List PE)
end
inductive PS where
 | asg (t : Tgt) (e : PE)
 | asgM (i : Nat) (e : PE)
 | asgs (ts : List (Nat × Bool)) (es : List PE)
 | aug (i : Nat) (op : Operator) (e : PE)
 | iff (t : PE) (a b : List PS)
 | for_ (t : Tgt) (it : PE) (b o : List PS)
 | ret (e : PE)
 | assert (t : PE)
 | brk
 | app (i : Nat) (e : PE)
 | ext (i : Nat) (e : PE)
 | revs (i : Nat)
 | del (i : Nat) (e : PE)
 | frz (i : Nat)
 | fail
inductive PV where
 | d (x : PyData)
 | m (xs : List PyData)
abbrev Rho := List (Option PV)
inductive Fl where
 | next | brk | ret (d : PyData)
noncomputable def zaI (a : Int) : Nat := Builtin.Int.intBits a
noncomputable def big : Nat := 1000000
noncomputable def zbV (x : Str) : List PyData := x.cps.toList.map fun c => .str ⟨#[c]⟩
def za9 : PyData -> Option (List PyData)
 | .list xs => some xs
 | .tuple xs => some xs
 | .str x => some (zbV x)
 | _ => none
noncomputable def zw : PyData -> Option Int
 | .int i => some i
 | _ => none
noncomputable def zaJ : PyData -> Option Str
 | .str x => some x
 | _ => none
noncomputable def zcL : PyData -> Option (List PyData)
 | .list xs => some xs
 | _ => none
noncomputable def zgg : PyData -> Option (List PyData)
 | .tuple xs => some xs
 | _ => none
def ze4 (a b : PyData) (f : Int -> Int -> Option PyData) : Option PyData := (zw a).bind fun i => (zw b).bind fun j => f i j
def zto : PyData -> PyData -> Option PyData
 | .int a, y => (zw y).bind fun b => some (.int (a + b))
 | .str x, y => (zaJ y).bind fun y => if x.length + y.length <= big then some (.str (x ++ y)) else none
 | .list xs, y => (zcL y).bind fun ys => if xs.length + ys.length <= big then some (.list (xs ++ ys)) else none
 | .tuple xs, y => (zgg y).bind fun ys => if xs.length + ys.length <= big then some (.tuple (xs ++ ys)) else none
 | _, _ => none
def zav : Operator -> PyData -> PyData -> Option PyData
 | .Add, x, y => zto x y
 | .Sub, x, y => ze4 x y fun a b => some (.int (a - b))
 | .Mult, x, y => ze4 x y fun a b => if zaI a + zaI b <= 2 ^ 27 then some (.int (a * b)) else none
 | .FloorDiv, x, y => ze4 x y fun a b => if b ≠ 0 /\ Builtin.divisionGoesByPylong a b = false then some (.int (a.fdiv b)) else none
 | .Mod, x, y => ze4 x y fun a b => if b ≠ 0 then some (.int (a.fmod b)) else none
 | .Pow, x, y => ze4 x y fun a n => if 0 <= n /\ (zaI a : Int) * n <= 2 ^ 27 then some (.int (a ^ n.toNat)) else none
 | .LShift, x, y => ze4 x y fun a n => if 0 <= n /\ (zaI a : Int) + n <= 2 ^ 27 then some (.int (a * 2 ^ n.toNat)) else none
 | .RShift, x, y => ze4 x y fun a n => if 0 <= n then some (.int (a.fdiv (2 ^ n.toNat))) else none
 | .BitAnd, x, y => ze4 x y fun a b => some (.int (Builtin.bitAnd a b))
 | .BitOr, x, y => ze4 x y fun a b => some (.int (Builtin.bitOr a b))
 | .BitXor, x, y => ze4 x y fun a b => some (.int (Builtin.bitXor a b))
 | _, _, _ => none
noncomputable def zm8 : PyData -> Bool
 | .none => true
 | .bool _ => true
 | _ => false
def zps (a b : PyData) : Bool := zm8 b && (zm8 a || (match a with | .int _ => true | .list _ => (match b with | .none => true | _ => false) | _ => false))
noncomputable def zlj : PyData -> PyData -> Bool
 | .none, .none => true
 | .bool a, .bool b => a == b
 | _, _ => false
noncomputable def okD (d : PyData) : Bool := d.canLay0 && decide (d.depth <= 64)
def inD (x : PyData) : PyData -> Option Bool
 | .str y => (zaJ x).map fun x => Txt.contains y x
 | .list ys => if okD x && okD (.list ys) then some (ys.any fun y => PyData.eqv y x) else none
 | .tuple ys => if okD x && okD (.tuple ys) then some (ys.any fun y => PyData.eqv y x) else none
 | _ => none
def eqO (a b : PyData) : Option Bool := if okD a && okD b then some (PyData.eqv a b) else none
def eqD : PyData -> PyData -> Option Bool
 | .int a, y => match y with
  | .int b => some (a == b)
  | y => eqO (.int a) y
 | .str a, y => match y with
  | .str b => some (a == b)
  | y => eqO (.str a) y
 | a, b => eqO a b
def ltD : PyData -> PyData -> Option Bool
 | .int a, y => (zw y).map fun b => decide (a < b)
 | .str a, y => (zaJ y).map fun b => decide (a.cps.toList < b.cps.toList)
 | _, _ => none
def zfQ : CmpOp -> PyData -> PyData -> Option Bool
 | .Eq, a, b => eqD a b
 | .NotEq, a, b => (eqD a b).map (!·)
 | .Lt, a, b => ltD a b
 | .LtE, x, y => (zw x).bind fun a => (zw y).map fun b => decide (a <= b)
 | .Gt, x, y => (zw x).bind fun a => (zw y).map fun b => decide (b < a)
 | .GtE, x, y => (zw x).bind fun a => (zw y).map fun b => decide (b <= a)
 | .In, a, b => inD a b
 | .NotIn, a, b => (inD a b).map (!·)
 | .Is, a, b => if zps a b = true then some (zlj a b) else none
 | .IsNot, a, b => if zps a b = true then some (!zlj a b) else none
def zap : PyData -> Option Bool
 | .none => some false
 | .bool b => some b
 | .int i => some (i != 0)
 | .str x => if x.length <= big then some (x.length != 0) else none
 | .list xs => if xs.length <= big then some (!xs.isEmpty) else none
 | .tuple xs => if xs.length <= big then some (!xs.isEmpty) else none
 | _ => none
noncomputable def zbW (xs : List PyData) (lo hi st : Option Int) : List PyData :=
 (sliceRange (sliceBounds lo hi st xs.length).1 (sliceBounds lo hi st xs.length).2.1 (sliceBounds lo hi st xs.length).2.2).filterMap (xs[·]?)
noncomputable def zc0 {α : Type} (xs : List α) (lo hi : Option Int) (st : Int) : List α :=
 let b := Builtin.Slice.sliceAdjust lo hi st xs.length
 (List.range (Builtin.Slice.slicePlaces b.1 b.2 st)).filterMap fun (k : Nat) => xs[(b.1 + (k : Int) * st).toNat]?
def zaz : PyData -> Option Int -> Option Int -> Option Int -> Option PyData
 | .list xs, lo, hi, st => if st ≠ some 0 /\ xs.length <= big then some (.list (zbW xs lo hi st)) else none
 | .tuple xs, lo, hi, st => if st ≠ some 0 /\ xs.length <= big /\ (zc0 xs lo hi (st.getD 1)).length <= big then some (.tuple (zc0 xs lo hi (st.getD 1))) else none
 | .str x, lo, hi, st => if st = none /\ x.length <= big then some (.str (Txt.slice x lo hi)) else none
 | _, _, _, _ => none
def zpt (xs : List PyData) (y : PyData) : Option PyData := (zw y).bind fun i => if xs.length <= big then (seqIndex? i xs.length).bind (xs[·]?) else none
def zbu : PyData -> PyData -> Option PyData
 | .list xs, y => zpt xs y
 | .tuple xs, y => zpt xs y
 | .str x, y => (zw y).bind fun i => if x.length <= big /\ -(2 ^ 62) <= i /\ i <= 2 ^ 62 /\ (Txt.charAt x i).isSome then some (.str (Txt.item x i)) else none
 | .dict kvs, y => (zw y).bind fun i => zbU kvs i
 | _, _ => none
noncomputable def zcM : List PyData -> Int -> Option Int
 | [], a => some a
 | .int i :: r, a => zcM r (a + i)
 | _, _ => none
noncomputable def zd6 : List PyData -> Option (List Str)
 | [] => some []
 | .str x :: r => (zd6 r).map (x :: ·)
 | _ => none
noncomputable def zdb : List PyData -> Option (List Int)
 | [] => some []
 | .int x :: r => (zdb r).map (x :: ·)
 | _ => none
noncomputable def zjm (x : PyData) : List PyData -> Nat -> Option Nat
 | [], _ => none
 | y :: r, k => if PyData.eqv y x then some k else zjm x r (k + 1)
noncomputable def zm9 : List PyData -> Option PyData
 | [d] => some d
 | _ => none
noncomputable def zna : List PyData -> Option (PyData × PyData)
 | [a, b] => some (a, b)
 | _ => none
def zpu : PyData -> Option PyData
 | .list xs => if xs.length <= big then some (.int xs.length) else none
 | .str x => if x.length <= big then some (.int x.length) else none
 | _ => none
noncomputable def zrk : PyData -> Option PyData
 | .int _ => some (.bool true)
 | .list _ => some (.bool false)
 | _ => none
def biD : BI -> List PyData -> Option PyData
 | .len, ds => (zm9 ds).bind zpu
 | .sum, ds => (zm9 ds).bind fun d => (zcL d).bind fun xs => if xs.length <= big then (zcM xs 0).map .int else none
 | .hex, ds => (zm9 ds).bind fun d => (zw d).bind fun i => if (baseText "0x" 16 i).length <= big then some (.str (baseText "0x" 16 i)) else none
 | .divmod, ds => (zna ds).bind fun p => ze4 p.1 p.2 fun a b => if b ≠ 0 /\ Builtin.divisionGoesByPylong a b = false then some (.tuple [.int (a.fdiv b), .int (a.fmod b)]) else none
 | .isInt, ds => (zm9 ds).bind zrk
noncomputable def zbB : List Str -> Nat
 | [] => 0
 | x :: r => x.length + zbB r
noncomputable def zhG (x y : Str) (i j : Int) : Int := match Builtin.Str.occurrences x y (fromIndex x.length i) (min (fromIndex x.length j) x.length) 1 with
 | k :: _ => (k : Int)
 | [] => -1
def znb (x y : PyData) (f : Str -> Str -> Option PyData) : Option PyData := (zaJ x).bind fun x => (zaJ y).bind fun y => f x y
def ztp (x y : PyData) : Option PyData := (zaJ x).bind fun x => (zcL y).bind fun xs => (zd6 xs).bind fun ss => if zbB ss + ss.length * (x.length + 1) <= big then some (.str (Txt.join x ss)) else none
def zrl (x : PyData) : Option PyData := (zaJ x).bind fun x => if x.length <= big then some (.list ((Txt.words x).map .str)) else none
def zrm (x y : PyData) : Option PyData := znb x y fun x y => if x.length <= big /\ y.length ≠ 0 then some (.list ((Txt.split x y).map .str)) else none
def zqL (x y i j : PyData) : Option PyData := znb x y fun x y => ze4 i j fun i j => some (.int (zhG x y i j))
def znc (x : PyData) : PyData -> Option PyData
 | .tuple xs => if xs.length <= big /\ okD x /\ okD (.tuple xs) then (zjm x xs 0).map fun (k : Nat) => PyData.int (k : Int) else none
 | .list xs => if xs.length <= big /\ okD x /\ okD (.list xs) then (zjm x xs 0).map fun (k : Nat) => PyData.int (k : Int) else none
 | _ => none
def ztq (x i d : PyData) : Option PyData := match x with
 | .dict kvs => (zw i).map fun i => (zbU kvs i).getD d
 | _ => none
def me0 (x : PyData) : ME -> Option PyData
 | .split => zrl x
 | .bitLength => (zw x).map fun i => .int (zaI i)
 | _ => none
def me1 (x y : PyData) : ME -> Option PyData
 | .join => ztp x y
 | .split => zrm x y
 | .startswith => znb x y fun x y => some (.bool (Txt.startswith x y))
 | .endswith => znb x y fun x y => some (.bool (Txt.endswith x y))
 | .index => znc y x
 | _ => none
def me2 (x y z : PyData) : ME -> Option PyData
 | .get => ztq x y z
 | _ => none
def me3 (x y i j : PyData) : ME -> Option PyData
 | .find => zqL x y i j
 | _ => none
def meD (m : ME) (x : PyData) : List PyData -> Option PyData
 | [] => me0 x m
 | [a] => me1 x a m
 | [a, b] => me2 x a b m
 | [a, b, c] => me3 x a b c m
 | _ => none
structure Sv where
 ex : Rho -> PE -> Option PyData
 call : Nat -> List PyData -> Option PyData
 blk : Rho -> List PS -> Option (Rho × Fl)
noncomputable def Sv.bot : Sv := ⟨fun _ _ => none, fun _ _ => none, fun _ _ => none⟩
noncomputable def exs (S : Sv) (ρ : Rho) : List PE -> Option (List PyData)
 | [] => some []
 | e :: r => (S.ex ρ e).bind fun d => (exs S ρ r).map (d :: ·)
noncomputable def rcv (S : Sv) (ρ : Rho) : PE -> Option PyData
 | .v i => match ρ[i]? with
  | some (some (.d x)) => some x
  | some (some (.m xs)) => some (.list xs)
  | _ => none
 | e => S.ex ρ e
mutual
noncomputable def zax : Tgt -> PyData -> Rho -> Option Rho
 | .v i, x, ρ => some (ρ.set i (some (.d x)))
 | .t ts, x, ρ => match x with
  | .tuple xs => zcm ts xs ρ
  | .list xs => zcm ts xs ρ
  | _ => none
noncomputable def zcm : List Tgt -> List PyData -> Rho -> Option Rho
 | [], [], ρ => some ρ
 | t :: ts, x :: xs, ρ => (zax t x ρ).bind fun ρ' => zcm ts xs ρ'
 | _, _, _ => none
end
def zcw (S : Sv) (ρ : Rho) (e : PE) : Option Bool := (S.ex ρ e).bind zap
def zfR (S : Sv) (ρ : Rho) : List PE -> Option PyData
 | [] => none
 | [e] => S.ex ρ e
 | e :: r => (S.ex ρ e).bind fun d => (zap d).bind fun b => if b then zfR S ρ r else some d
def orD (S : Sv) (ρ : Rho) : List PE -> Option PyData
 | [] => none
 | [e] => S.ex ρ e
 | e :: r => (S.ex ρ e).bind fun d => (zap d).bind fun b => if b then some d else orD S ρ r
def zrn : List PyData -> Option (List PyData)
 | [a] => (zw a).bind fun n => if -big <= n /\ n <= big then some ((List.range n.toNat).map fun (k : Nat) => .int (k : Int)) else none
 | [a, b] => (zw a).bind fun a => (zw b).bind fun b => if -big <= a /\ a <= big /\ -big <= b /\ b <= big then some ((List.range (b - a).toNat).map fun (k : Nat) => .int (a + (k : Int))) else none
 | _ => none
noncomputable def zd7 : List PyData -> Nat -> List PyData
 | [], _ => []
 | x :: r, k => .tuple [.int k, x] :: zd7 r (k + 1)
noncomputable def zel : List PyData -> List PyData -> List PyData
 | x :: r, y :: t => .tuple [x, y] :: zel r t
 | _, _ => []
noncomputable def zir : PyData -> PyData -> Option (List PyData × List PyData)
 | .list xs, .list ys => some (xs, ys)
 | .tuple xs, .tuple ys => some (xs, ys)
 | _, _ => none
noncomputable def za3 : List Nat -> Nat -> Bool -> List PyData
 | [], pos, esc => if esc then [.tuple [.int pos, .str ⟨#[92]⟩]] else []
 | c :: r, pos, esc =>
  if esc then .tuple [.int pos, .str ⟨#[92, c]⟩] :: escapedN r pos false
  else if c = 92 then escapedN r pos true
  else .tuple [.int pos, .str ⟨#[c]⟩] :: escapedN r pos false
where escapedN : List Nat -> Nat -> Bool -> List PyData
 | [], pos, esc => if esc then [.tuple [.int pos, .str ⟨#[92]⟩]] else []
 | c :: r, pos, esc =>
  if esc then .tuple [.int (pos + 1), .str ⟨#[92, c]⟩] :: escapedN r (pos + 1) false
  else if c = 92 then escapedN r (pos + 1) true
  else .tuple [.int (pos + 1), .str ⟨#[c]⟩] :: escapedN r (pos + 1) false
def znd : PyData -> Option (List PyData)
 | .str x => if x.length <= big then some (za3 x.cps.toList 0 false) else none
 | _ => none
def itD (S : Sv) (ρ : Rho) : PE -> Option (List PyData)
 | .rng es => (exs S ρ es).bind zrn
 | .enm e => (S.ex ρ e).bind fun d => (za9 d).bind fun xs => if xs.length <= big then some (zd7 xs 0) else none
 | .zip a b => (S.ex ρ a).bind fun d => (S.ex ρ b).bind fun d' => (zir d d').bind fun p => if p.1.length <= big /\ p.2.length <= big then some (zel p.1 p.2) else none
 | .rev e => (S.ex ρ e).bind fun d => match d with | .list xs => if xs.length <= big then some xs.reverse else none | _ => none
 | .gen e => (S.ex ρ e).bind znd
 | e => (S.ex ρ e).bind fun d => (za9 d).bind fun xs => if xs.length <= big then some xs else none
def zgh (S : Sv) (ρ : Rho) : List PE -> Option Bool
 | [] => some true
 | e :: r => (zcw S ρ e).bind fun b => if b then zgh S ρ r else some false
noncomputable def zgi {α β : Type} (f : α -> Option (List β)) : List α -> Option (List β)
 | [] => some []
 | x :: r => (f x).bind fun ys => (zgi f r).map (ys ++ ·)
def zcx {β : Type} (S : Sv) (em : Rho -> Option β) : List Gn -> Rho -> Option (List β)
 | [], ρ => (em ρ).map fun d => [d]
 | .mk t it ifs :: gs, ρ => (itD S ρ it).bind fun xs =>
  zgi (fun x => (zax t x ρ).bind fun ρ' => (zgh S ρ' ifs).bind fun ok => if ok then zcx S em gs ρ' else some []) xs
mutual
noncomputable def zO : Tgt -> List Nat
 | .v i => [i]
 | .t ts => zdC ts
noncomputable def zdC : List Tgt -> List Nat
 | [] => []
 | t :: ts => zO t ++ zdC ts
end
def zT : Gn -> List Nat
 | .mk t _ _ => zO t
noncomputable def zR (is : List Nat) (ρ : Rho) : Rho := is.foldl (fun r i => r.set i none) ρ
def zbX (S : Sv) (elt : PE) (gs : List Gn) (ρ : Rho) : Option (List PyData) := zcx S (fun ρ' => S.ex ρ' elt) gs (zR (gs.flatMap zT) ρ)
noncomputable def zne : PyData -> Bool
 | .int _ => true
 | .str _ => true
 | _ => false
def kvD (S : Sv) (k v : PE) (ρ : Rho) : Option (Int × PyData) := (S.ex ρ k).bind fun kd => (S.ex ρ v).bind fun vd => match kd with
 | .int i => if zne vd then some (i, vd) else none
 | _ => none
noncomputable def zbY (outs : List (Int × PyData)) : List (PyData × PyData) := outs.reverse.map fun p => (.int p.1, p.2)
noncomputable def zc7 (S : Sv) (ρ : Rho) : Option PE -> Option (Option Int)
 | none => some none
 | some e => (S.ex ρ e).bind fun d => match d with | .int i => some (some i) | _ => none
def zlk (d : PyData) : Option PyData := match d with
 | .list xs => if xs.length <= big then some d else none
 | d => some d
def zcn (S : Sv) (ρ : Rho) : PE -> Option PyData
 | .c d => some d
 | .v i => match ρ[i]? with
  | some (some (.d x)) => some x
  | _ => none
 | .bin op a b => (S.ex ρ a).bind fun x => (S.ex ρ b).bind fun y => zav op x y
 | .neg a => (S.ex ρ a).bind fun x => match x with | .int i => some (.int (-i)) | _ => none
 | .inv a => (S.ex ρ a).bind fun x => match x with | .int i => some (.int (Builtin.bitNot i)) | _ => none
 | .not a => (zcw S ρ a).map fun b => .bool (!b)
 | .cmp op a b => (rcv S ρ a).bind fun x => (S.ex ρ b).bind fun y => (zfQ op x y).map .bool
 | .and es => zfR S ρ es
 | .or es => orD S ρ es
 | .ite t a b => (zcw S ρ t).bind fun c => if c then S.ex ρ a else S.ex ρ b
 | .lst es => (exs S ρ es).map .list
 | .tup es => (exs S ρ es).map .tuple
 | .idx a i => (rcv S ρ a).bind fun x => (S.ex ρ i).bind fun y => zbu x y
 | .sl a lo hi st => (S.ex ρ a).bind fun x => (zc7 S ρ lo).bind fun l => (zc7 S ρ hi).bind fun h => (zc7 S ρ st).bind fun k => zaz x l h k
 | .call f es => (exs S ρ es).bind fun xs => S.call f xs
 | .bi .len [a] => (rcv S ρ a).bind fun x => biD .len [x]
 | .bi b es => (exs S ρ es).bind fun xs => biD b xs
 | .me m a es => (S.ex ρ a).bind fun x => (exs S ρ es).bind fun xs => meD m x xs
 | .comp elt gs => ((zbX S elt gs ρ).map .list).bind zlk
 | .dcomp k v g => (zcx S (kvD S k v) [g] (zR (zT g) ρ)).bind fun outs => if outs.length <= big then some (.dict (zbY outs)) else none
 | _ => none
noncomputable def zbZ (S : Sv) (t : Tgt) (b o : List PS) : List PyData -> Rho -> Option (Rho × Fl)
 | [], ρ => S.blk ρ o
 | x :: xs, ρ => (zax t x ρ).bind fun ρ' => (S.blk ρ' b).bind fun r => match r with
  | (ρ2, .next) => zbZ S t b o xs ρ2
  | (ρ2, .brk) => some (ρ2, .next)
  | (ρ2, .ret d) => some (ρ2, .ret d)
noncomputable def zis : List (Nat × Bool) -> List PyData -> Rho -> Option Rho
 | [], ds, ρ => match ds with
  | [] => some ρ
  | _ => none
 | p :: ts, ds, ρ => match ds with
  | [] => none
  | d :: ds => if p.2 then none else zis ts ds (ρ.set p.1 (some (.d d)))
noncomputable def znf : Operator -> Bool
 | .Add | .Sub | .LShift | .RShift | .BitAnd | .BitOr | .BitXor => true
 | _ => false
noncomputable def zdX (ρ : Rho) (i : Nat) : Option (List PyData) := match ρ[i]? with
 | some (some (.m xs)) => some xs
 | _ => none
def zjn (ρ : Rho) (i : Nat) : Option Int := match ρ[i]? with
 | some (some (.d d)) => zw d
 | _ => none
def zf (S : Sv) (ρ : Rho) : PS -> Option (Rho × Fl)
 | .asg t e => (S.ex ρ e).bind fun d => (zax t d ρ).map fun ρ' => (ρ', .next)
 | .asgM i e => (S.ex ρ e).bind fun d => (zcL d).map fun xs => (ρ.set i (some (.m xs)), .next)
 | .asgs ts es => (exs S ρ es).bind fun ds => (zis ts ds ρ).map fun ρ' => (ρ', .next)
 | .aug i op e => (zjn ρ i).bind fun a => (S.ex ρ e).bind fun y => (zw y).bind fun b => if znf op then (zav op (.int a) (.int b)).map fun d => (ρ.set i (some (.d d)), .next) else none
 | .iff t a b => (zcw S ρ t).bind fun c => if c then S.blk ρ a else S.blk ρ b
 | .for_ t it b o => (itD S ρ it).bind fun xs => zbZ S t b o xs ρ
 | .ret e => (S.ex ρ e).map fun d => (ρ, .ret d)
 | .assert t => (zcw S ρ t).bind fun c => if c then some (ρ, .next) else none
 | .brk => some (ρ, .brk)
 | .fail => none
 | .app i e => (zdX ρ i).bind fun xs => (S.ex ρ e).bind fun d => if xs.length <= big then some (ρ.set i (some (.m (xs ++ [d]))), .next) else none
 | .ext i e => (zdX ρ i).bind fun xs => (S.ex ρ e).bind fun d => (zcL d).bind fun ys => if xs.length + ys.length <= big then some (ρ.set i (some (.m (xs ++ ys))), .next) else none
 | .revs i => (zdX ρ i).bind fun xs => if xs.length <= big then some (ρ.set i (some (.m xs.reverse)), .next) else none
 | .del i e => (zdX ρ i).bind fun xs => (S.ex ρ e).bind fun d => (zw d).bind fun k => (seqIndex? k xs.length).bind fun j => if xs.length <= big then some (ρ.set i (some (.m (xs.eraseIdx j))), .next) else none
 | .frz i => match zdX ρ i with
  | some xs => some (ρ.set i (some (.d (.list xs))), .next)
  | none => some (ρ, .next)
def zA (S : Sv) : List PS -> Rho -> Option (Rho × Fl)
 | [], ρ => some (ρ, .next)
 | st :: r, ρ => (zf S ρ st).bind fun x => match x with
  | (ρ2, .next) => zA S r ρ2
  | (ρ2, f) => some (ρ2, f)
inductive Fn where
 | code (np ns : Nat) (body : List PS)
 | prim (p : List PyData -> Option PyData)
noncomputable def zdc (tbl : Nat -> Option Fn) (S : Sv) (f : Nat) (args : List PyData) : Option PyData :=
 match tbl f with
 | some (.code np ns body) => if args.length = np then
   match S.blk (args.map (fun d => some (.d d)) ++ List.replicate ns none) body with
   | some (_, .ret d) => some d
   | some (_, .next) => some .none
   | _ => none
  else none
 | some (.prim p) => p args
 | none => none
def step (tbl : Nat -> Option Fn) (S : Sv) : Sv := ⟨zcn S, zdc tbl S, fun ρ b => zA S b ρ⟩
def run (tbl : Nat -> Option Fn) : Nat -> Sv
 | 0 => .bot
 | n + 1 => step tbl (run tbl n)
section
variable {Ω : En} {A : Around} {Z : Heap} {s : Shared}
def Pst (Ω : En) (Z : Heap) (s : Shared) (d : PyData) : Value -> Shared -> Prop :=
 fun v s' => ∃ Z', Stp Ω Z s Z' s' /\ Rep Z' v d
def zc : Value -> Shared -> Prop := fun u v => False
theorem zt (h : Ok Ω Z s) {v d} (n : Nat) (r : Rep Z v d) : Pst Ω Z s d v { s with toks := n } := I12 Z (Stp.tok h n) r
theorem zq (h : Ok Ω Z s) {v d} (r : Rep Z v d) : Pst Ω Z s d v s := I12 Z (Stp.refl h) r
theorem Sub.push (h : Heap) (o : Obj) : Sub h (Heap.push h o) := fun u v e => Heap.get?_push_of_some o e
theorem zj (h : Heap) : h.get? h.objs.size = none := by
 rw [zaG, Array.getElem?_eq_none (Nat.le_refl _)]; rfl
theorem zll (h : Ok Ω Z s) {o : Obj} {n : Nat} {d : PyData} (hf : o.isFreed = false)
  (hr : ∀ F', Sub Z F' -> F'.get? s.heap.objs.size = some o -> Rep F' (.ref s.heap.objs.size) d) :
  Pst Ω Z s d (.ref s.heap.objs.size) { s with heap := s.heap.push o, toks := n } := by
 have S : Stp Ω Z s Z { s with heap := s.heap.push o, toks := n } := Stp.grow h (Sub.push _ _)
 obtain ⟨F', S', e, _⟩ := S.freezeNew (a := s.heap.objs.size) (o := o) (zj _) (h.sub.none (zj _)) (Heap.get?_push_size _ hf)
 exact I12 F' S' (hr F' S'.f e)
theorem zem (h : Ok Ω Z s) {vs : Array Value} {n : Nat} {xs : List PyData} (r : zv Z vs.toList xs) :
  Pst Ω Z s (.list xs) (.ref s.heap.objs.size) { s with heap := s.heap.push { cls := .type "list", data := .seq vs }, toks := n } :=
 zll h rfl fun F' f e => zah.mpr (I33 _ vs 0 rfl e (r.mono f))
theorem zbq (h : Ok Ω Z s) {vs : Array Value} {n : Nat} {xs : List PyData} (r : zv Z vs.toList xs) :
  Pst Ω Z s (.tuple xs) (.ref s.heap.objs.size) { s with heap := s.heap.push { cls := .type "tuple", data := .seq vs }, toks := n } :=
 zll h rfl fun F' f e => zaq.mpr (I33 _ vs 0 rfl e (r.mono f))
theorem zcN {n : Nat} (h : n <= big) : n <= sizeLine := nle h (by decide)
structure Rm (A : Around) (n : Nat) : Prop where
 handled : A.handled = none
 depth : A.depth + n <= 900
 units : A.units + 8 * n <= 8000
theorem zp {vs : Array Value} {xs : List PyData} (r : zv Z vs.toList xs) : vs.size = xs.length := by rw [<- r.length]; rfl
theorem zbh {v : Value} {d : PyData} {i : Int} (h : zw d = some i) (r : Rep Z v d) : ∃ t, v = .int i t := by
 cases d <;> first | exact za h | skip
 refine eqE h ?_; exact zo.mp r
theorem zd8 {v : Value} {d : PyData} {i : Str} (h : zaJ d = some i) (r : Rep Z v d) : ∃ t, v = .str i t := by
 cases d <;> first | exact za h | skip
 refine eqE h ?_; exact zU.mp r
@[elab_as_elim] theorem zgj {P : Value -> Prop} {v : Value} {d : PyData} {i : Int} (h : zw d = some i) (r : Rep Z v d) (k : ∀ t, P (.int i t)) : P v := by
 obtain ⟨t, e9⟩ := zbh h r; refine rwE e9 ?_; exact k t
@[elab_as_elim] theorem zjo {P : Value -> Prop} {v : Value} {d : PyData} {i : Str} (h : zaJ d = some i) (r : Rep Z v d) (k : ∀ t, P (.str i t)) : P v := by
 obtain ⟨t, e9⟩ := zd8 h r; refine rwE e9 ?_; exact k t
@[elab_as_elim] theorem zc1 {P : Value -> Prop} {v : Value} {i : Int} (r : Rep Z v (.int i)) (k : ∀ t, P (.int i t)) : P v := zgj rfl r k
@[elab_as_elim] theorem zdd {P : Value -> Prop} {v : Value} {i : Str} (r : Rep Z v (.str i)) (k : ∀ t, P (.str i t)) : P v := zjo rfl r k
theorem zen {d : PyData} {xs : List PyData} (h : zcL d = some xs) : d = .list xs := by
 cases d <;> first | exact za h | skip
 refine eqE h ?_; rfl
theorem zro {d : PyData} {xs : List PyData} (h : zgg d = some xs) : d = .tuple xs := by
 cases d <;> first | exact za h | skip
 refine eqE h ?_; rfl
theorem zde {ρ : Rho} {i : Nat} {xs : List PyData} (h : zdX ρ i = some xs) : ρ[i]? = some (some (.m xs)) := by
 unfold zdX at h
 rcases e : ρ[i]? with _ | _ | x <;> rw [e] at h
 ·exact za h
 ·exact za h
 ·induction x with
  | d y => exact za h
  | m ys => refine eqE h ?_; rfl
theorem zng {ρ : Rho} {i : Nat} {a : Int} (h : zjn ρ i = some a) : ρ[i]? = some (some (.d (.int a))) := by
 unfold zjn at h
 rcases e : ρ[i]? with _ | _ | x <;> rw [e] at h
 ·exact za h
 ·exact za h
 ·induction x with
  | d y =>
   cases y <;> first | exact za h | skip
   refine eqE h ?_; rfl
  | m ys => exact za h
theorem zco {op : Operator} {va vb : Value} {a b d : PyData} {f : Int -> Int -> Option PyData} (ra : Rep Z va a) (rb : Rep Z vb b) (hd : ze4 a b f = some d)
  (k : ∀ i t j u, f i j = some d -> wpAny Ω.m A (binaryOp op (.int i t) (.int j u)) (Pst Ω Z s d) zc s) : wpAny Ω.m A (binaryOp op va vb) (Pst Ω Z s d) zc s := by
 refine zb hd fun i hi hd => zb hd fun j hj hd => ?_
 refine zgj hi ra fun t => ?_
 refine zgj hj rb fun u => ?_
 exact k i t j u hd
theorem zpv (h : Ok Ω Z s) {va vb : Value} {xs ys : List PyData} (ra : Rep Z va (.tuple xs)) (rb : Rep Z vb (.tuple ys)) (hl : xs.length + ys.length <= big) :
  wpAny Ω.m A (binaryOp .Add va vb) (Pst Ω Z s (.tuple (xs ++ ys))) zc s := by
 refine cps fun G0 hG_0 => ?_
 obtain ⟨a, vs, n, e9, e, r⟩ := zaq.mp ra; obtain rfl := e9.symm
 obtain ⟨a', vs', n', e9, e', r'⟩ := zaq.mp rb; obtain rfl := e9.symm
 refine hG_0 ?_
 have z := zp r
 have z' := zp r'
 by_cases h1 : vs.isEmpty = true
 ·have hx : xs = [] := List.eq_nil_of_length_eq_zero (by rw [<- z]; exact Array.isEmpty_iff_size_eq_zero.mp h1)
  refine concat_meets (I12 _ (h.sub _ _ e) rfl) (I12 _ (h.sub _ _ e') rfl) noFill_tuple_add seq_tuple_add F.slot_tuple_add F.entry_tuple_add (F.args_tuple_add_2 _ _) (AutoSeq1.tuple___add___tuple_tuple_0 a vs n a' vs' n' h1) (I03 (h.sub _ _ e) (h.sub _ _ e') ?_)
  rw [hx]; exact zq h rb
 ·by_cases h2 : vs'.isEmpty = true
  ·have hy : ys = [] := List.eq_nil_of_length_eq_zero (by rw [<- z']; exact Array.isEmpty_iff_size_eq_zero.mp h2)
   refine concat_meets (I12 _ (h.sub _ _ e) rfl) (I12 _ (h.sub _ _ e') rfl) noFill_tuple_add seq_tuple_add F.slot_tuple_add F.entry_tuple_add (F.args_tuple_add_2 _ _) (AutoSeq1.tuple___add___tuple_tuple_1 a vs n a' vs' n' h1 h2) (I03 (h.sub _ _ e) (h.sub _ _ e') ?_)
   rw [hy, List.append_nil]; exact zq h ra
  ·refine P.add_tuple (h.sub _ _ e) (h.sub _ _ e') h1 h2 (zbq (vs := vs ++ vs') (n := s.toks) h (by rw [Array.toList_append]; exact r.append r')) ?_
   rw [z, z']; exact zcN hl
theorem zrp (h : Ok Ω Z s) {va vb : Value} {a b d : PyData} (ra : Rep Z va a) (rb : Rep Z vb b) (hd : zto a b = some d) :
  wpAny Ω.m A (binaryOp .Add va vb) (Pst Ω Z s d) zc s := by
 induction a using PyData.casesOn with
 | int i =>
  refine zb hd fun j hj e => ?_
  refine zc1 ra fun t => ?_
  refine zgj hj rb fun u => ?_
  refine eqE e ?_
  exact PyProof.Rows.add_int (zt h _ (zo.mpr ⟨_, rfl⟩))
 | str x =>
  refine zb hd fun y hj e => ifE e fun hl e => ?_
  refine zdd ra fun t => ?_
  refine zjo hj rb fun u => ?_
  refine eqE e ?_
  exact PyProof.Rows.add_str (fun t' tk => zt h _ (zU.mpr ⟨_, rfl⟩)) (zcN hl)
 | list xs =>
  refine zb hd fun ys hj e => ifE e fun hl e => ?_
  replace rb := (zen hj) ▸ rb
  refine cps fun G0 hG_0 => ?_
  obtain ⟨a, vs, n, e9, e1, r⟩ := zah.mp ra; obtain rfl := e9.symm
  obtain ⟨a', vs', n', e9, e', r'⟩ := zah.mp rb; obtain rfl := e9.symm
  refine hG_0 ?_
  refine eqE e ?_
  refine P.add_list (h.sub _ _ e1) (h.sub _ _ e') (zem (vs := vs ++ vs') (n := s.toks) h (by rw [Array.toList_append]; exact r.append r')) ?_
  rw [zp r, zp r']; exact zcN hl
 | tuple xs =>
  refine zb hd fun ys hj e => ifE e fun hl e => ?_
  have rb := (zro hj) ▸ rb
  refine eqE e ?_
  exact zpv h ra rb hl
 | _ => exact za hd
theorem zpw (h : Ok Ω Z s) {i j : Int} {t u : Tok} (hb : zaI i + zaI j <= 2 ^ 27) : wpAny Ω.m A (binaryOp .Mult (.int i t) (.int j u)) (Pst Ω Z s (.int (i * j))) zc s := by
 refine PyProof.Rows.mul_int (zt h _ (zo.mpr ⟨_, rfl⟩)) ?_
 intro hc
 simp only [Builtin.Int.intTooBig, bitsLine, Bool.and_eq_true, decide_eq_true_eq] at hc
 have h3 := of_decide_eq_true hc.2
 unfold zaI at hb
 omega
theorem zit {op : Operator} (hA : A.handled = none) (h : Ok Ω Z s) {va vb : Value} {a b d : PyData} (ra : Rep Z va a) (rb : Rep Z vb b) (hd : zav op a b = some d) :
  wpAny Ω.m A (binaryOp op va vb) (Pst Ω Z s d) zc s := by
 induction op with
 | Add => exact zrp h ra rb hd
 | Sub => exact zco ra rb hd fun i t j u e => by refine eqE e ?_; exact PyProof.Rows.sub_int (zt h _ (zo.mpr ⟨_, rfl⟩))
 | Mult => exact zco ra rb hd fun i t j u e => ifE e fun hb e => by refine eqE e ?_; exact zpw h hb
 | FloorDiv => exact zco ra rb hd fun i t j u e => ifE e fun hb e => by refine eqE e ?_; exact PyProof.Rows.floordiv_int hb.1 (zt h _ (zo.mpr ⟨_, rfl⟩)) (.inl hb.2)
 | Mod => exact zco ra rb hd fun i t j u e => ifE e fun hb e => by refine eqE e ?_; exact PyProof.Rows.mod_int' hb (zt h _ (zo.mpr ⟨_, rfl⟩))
 | Pow => exact zco ra rb hd fun i t j u e => ifE e fun hb e => by refine eqE e ?_; exact PyProof.Rows.pow_int hb.1 hb.2 (zt h _ (zo.mpr ⟨_, rfl⟩))
 | LShift => exact zco ra rb hd fun i t j u e => ifE e fun hb e => by refine eqE e ?_; exact PyProof.Rows.lshift_int_or hA (fun hn => absurd hb.1 (Int.not_le.mpr hn)) (fun v => hb.2) (fun v => zt h _ (zo.mpr ⟨_, rfl⟩))
 | RShift => exact zco ra rb hd fun i t j u e => ifE e fun hb e => by refine eqE e ?_; exact PyProof.Rows.rshift_int hb (zt h _ (zo.mpr ⟨_, rfl⟩))
 | BitAnd => exact zco ra rb hd fun i t j u e => by refine eqE e ?_; exact PyProof.Rows.and_int (zt h _ (zo.mpr ⟨_, rfl⟩))
 | BitOr => exact zco ra rb hd fun i t j u e => by refine eqE e ?_; exact PyProof.Rows.or_int (zt h _ (zo.mpr ⟨_, rfl⟩))
 | BitXor => exact zco ra rb hd fun i t j u e => by refine eqE e ?_; exact PyProof.Rows.xor_int (zt h _ (zo.mpr ⟨_, rfl⟩))
 | _ => exact za hd
mutual
theorem zbL : ∀ {d : PyData} {v : Value}, d.canLay0 = true -> Rep Z v d -> ∃ as, Reads Z v d as
 | .none, _, _, r => by subst r; exact ⟨_, .none⟩
 | .bool _, _, _, r => by subst r; exact ⟨_, .bool _⟩
 | .int _, _, _, r => by refine zc1 r fun t => ?_; exact ⟨_, .int _ _⟩
 | .str _, _, _, r => by refine zdd r fun t => ?_; exact ⟨_, .str _ _⟩
 | .list xs, _, hc, r => by
  obtain ⟨a, vs, n, e9, e, r⟩ := r; refine rwE e9 ?_
  obtain (⟨as, h⟩) := zb0 (ds := xs) (by simpa [PyData.canLay0] using hc) r
  exact ⟨_, .list e rfl rfl h⟩
 | .tuple xs, _, hc, r => by
  obtain ⟨a, vs, n, e9, e, r⟩ := r; refine rwE e9 ?_
  obtain (⟨as, h⟩) := zb0 (ds := xs) (by simpa [PyData.canLay0] using hc) r
  exact ⟨_, .tuple e rfl rfl h⟩
 | .dict _, _, hc, _ => by exact Bool.noConfusion hc
theorem zb0 : ∀ {ds : List PyData} {vs : List Value}, PyData.canLayAll0 ds = true -> zv Z vs ds -> ∃ as, ReadsAll Z vs ds as
 | [], _, _, r => by refine rwE r ?_; exact ⟨_, .nil⟩
 | d :: ds, _, hc, r => by
  refine cps fun G0 hG_0 => ?_
  obtain ⟨v, vs', e9, a, b⟩ := r; obtain rfl := e9.symm
  have hc' : d.canLay0 = true /\ PyData.canLayAll0 ds = true := by simpa [PyData.canLayAll0] using hc
  obtain ⟨as, x⟩ := zbL hc'.1 a
  obtain ⟨bs, y⟩ := zb0 hc'.2 b
  refine hG_0 ?_
  exact ⟨_, .cons x y⟩
end
def zbi (Z h : Heap) (v : Value) (d : PyData) : Prop :=
 Rep Z v d \/ ∃ a vs n xs, d = .list xs /\ v = .ref a /\ h.get? a = some { cls := .type "list", data := .seq vs n } /\ zv Z vs.toList xs
theorem zbi.mono {Z Z' h h' : Heap} {v d} (f : Sub Z Z') (g : Sub h h') (r : zbi Z h v d) : zbi Z' h' v d := by
 refine Or.elim r (fun r => ?_) fun h9 => ?_
 ·exact .inl (r.mono f)
 ·obtain ⟨a, vs, n, xs, e90, e91, e, r⟩ := h9; refine rwE e90 ?_; refine rwE e91 ?_
  exact .inr (I44 a vs n xs rfl rfl (g _ _ e) (r.mono f))
theorem zbi.list {h : Heap} (g : Sub Z h) {v xs} (r : zbi Z h v (.list xs)) : ∃ a vs n, v = .ref a /\ h.get? a = some { cls := .type "list", data := .seq vs n } /\ zv Z vs.toList xs := by
 refine Or.elim r (fun r => ?_) fun h9 => ?_
 ·obtain ⟨a, vs, n, e9, e, r⟩ := r; refine rwE e9 ?_; exact I33 a vs n rfl (g _ _ e) r
 ·obtain ⟨a, vs, n, xs, e0, e90, e, r⟩ := h9; refine rwB e90.symm ?_
  cases e0; exact I33 a vs n rfl e r
theorem zbi.other {h : Heap} {v d} (r : zbi Z h v d) (hd : ∀ xs, d ≠ .list xs) : Rep Z v d := by
 refine Or.elim r (fun r => ?_) fun h9 => ?_
 ·exact r
 ·obtain ⟨a, vs, n, xs, e90, e91, e, r⟩ := h9; obtain rfl := e90.symm; refine rwE e91.symm ?_
  exact absurd rfl (hd _)
theorem zbi.reads {h : Heap} (g : Sub Z h) {v d} (hc : d.canLay0 = true) (r : zbi Z h v d) : ∃ as, Reads h v d as := by
 rcases r with r | ⟨a, vs, n, xs, rfl, rfl, e, r⟩
 ·obtain ⟨as, x⟩ := zbL hc r
  exact ⟨as, Reads.keeps g x⟩
 ·obtain ⟨as, x⟩ := zb0 (by simpa [PyData.canLay0] using hc) r
  exact ⟨_, .list e rfl rfl (ReadsAll.keeps g x)⟩
theorem zcO {d : PyData} (h : okD d = true) : SeqAt.shaped d = true := h
theorem zal {d : PyData} (h : okD d = true) : d.canLay0 = true := (Bool.and_eq_true_iff.mp h).1
theorem ze5 {d : PyData} (h : okD d = true) : d.depth <= 64 := of_decide_eq_true (Bool.and_eq_true_iff.mp h).2
theorem zbi.int {h : Heap} {v : Value} {d : PyData} {i : Int} (e : zw d = some i) (r : zbi Z h v d) : ∃ t, v = .int i t := zbh e (r.other (by rintro xs rfl; exact za e))
theorem zbi.str {h : Heap} {v : Value} {d : PyData} {i : Str} (e : zaJ d = some i) (r : zbi Z h v d) : ∃ t, v = .str i t := zd8 e (r.other (by rintro xs rfl; exact za e))
def EqW (Ω : En) (A : Around) (Z : Heap) (s : Shared) (o1 o2 : CmpOp) (va vb : Value) (r : Bool) : Prop :=
 wpAny Ω.m A (compareOp o1 va vb) (Pst Ω Z s (.bool r)) zc s /\ wpAny Ω.m A (compareOp o2 va vb) (Pst Ω Z s (.bool (!r))) zc s
theorem zrq (h : Ok Ω Z s) (hu : A.units <= 8000) {va vb : Value} {a b : PyData} {r : Bool} (ra : zbi Z s.heap va a) (rb : Rep Z vb b) (hd : eqO a b = some r) : EqW Ω A Z s .Eq .NotEq va vb r :=
 ifE hd fun hc e => zaf hc fun c1 c2 => by
  refine eqE e ?_
  obtain ⟨as, x⟩ := ra.reads h.sub (zal c1)
  obtain ⟨bs, y⟩ := zbL (zal c2) rb
  have hu' : A.units + 64 < cLine := Nat.lt_of_le_of_lt (Nat.add_le_add_right hu 64) (by decide)
  exact ⟨PyProof.Rows.eq_dataH x (Reads.keeps h.sub y) (zcO c1) (zcO c2) hu' (zq h (zx.mpr rfl)),
   PyProof.Rows.ne_dataH x (Reads.keeps h.sub y) (zcO c1) (zcO c2) hu' (zq h (zx.mpr rfl))⟩
theorem zqM (h : Ok Ω Z s) (hu : A.units <= 8000) {va vb : Value} {a b : PyData} {r : Bool} (ra : zbi Z s.heap va a) (rb : Rep Z vb b) (hd : eqD a b = some r) : EqW Ω A Z s .Eq .NotEq va vb r := by
 have go := fun hd => zrq (Ω := Ω) h hu ra rb (r := r) hd
 induction a using PyData.casesOn with
 | int i =>
  induction b using PyData.casesOn with
  | int j =>
   obtain ⟨t, e9⟩ := ra.int rfl; refine rwE e9 ?_
   refine zc1 rb fun u => ?_
   refine eqE hd ?_
   exact ⟨PyProof.Rows.eq_int (zq h (zx.mpr rfl)), PyProof.Rows.ne_int (zq h (zx.mpr rfl))⟩
  | _ => exact go hd
 | str i =>
  induction b using PyData.casesOn with
  | str j =>
   obtain ⟨t, e9⟩ := ra.str rfl; refine rwE e9 ?_
   refine zdd rb fun u => ?_
   refine eqE hd ?_
   exact ⟨PyProof.Rows.eq_str (zq h (zx.mpr rfl)), PyProof.Rows.ne_str (zq h (zx.mpr rfl))⟩
  | _ => exact go hd
 | _ => exact go hd
theorem zjp (hu : A.units <= 8000) {a : PyData} (h1 : a.depth <= 64) (n : Nat) : A.units + 1 + min n (PyData.depth a) < cLine :=
 Nat.lt_of_le_of_lt (Nat.add_le_add (Nat.add_le_add_right hu 1) (nle (Nat.min_le_right _ _) h1)) (by decide)
theorem zqN (h : Ok Ω Z s) (hu : A.units <= 8000) {va vb : Value} {a b : PyData} {r : Bool} (ra : zbi Z s.heap va a) (rb : Rep Z vb b) (hd : inD a b = some r) : EqW Ω A Z s .In .NotIn va vb r := by
 induction b using PyData.casesOn with
 | str y =>
  refine zQ hd fun x hx e => ?_
  obtain ⟨t, e9⟩ := ra.str hx; refine rwE e9 ?_
  refine zdd rb fun u => ?_
  refine rwB e ?_
  exact ⟨SB.contains (zq h (zx.mpr rfl)), SB.notContains (zq h (zx.mpr rfl))⟩
 | list ys =>
  refine ifE hd fun hc e => zaf hc fun c1 c2 => ?_
  refine eqE e ?_
  obtain (⟨as, x⟩) := ra.reads h.sub (zal c1)
  obtain (⟨bs, y⟩) := zbL (zal c2) rb
  have hu' := zjp hu (ze5 c1)
  exact ⟨SeqAt.in_list_reads (Reads.keeps h.sub y) x (zal c2) (zal c1) (hu' _) (zq h (zx.mpr rfl)),
   SeqAt.notIn_list_reads (Reads.keeps h.sub y) x (zal c2) (zal c1) (hu' _) (zq h (zx.mpr rfl))⟩
 | tuple ys =>
  refine ifE hd fun hc e => zaf hc fun c1 c2 => ?_
  refine eqE e ?_
  obtain (⟨as, x⟩) := ra.reads h.sub (zal c1)
  obtain (⟨bs, y⟩) := zbL (zal c2) rb
  have hu' := zjp hu (ze5 c1)
  exact ⟨SeqAt.in_tuple_reads (Reads.keeps h.sub y) x (zal c2) (zal c1) (hu' _) (zq h (zx.mpr rfl)),
   SeqAt.notIn_tuple_reads (Reads.keeps h.sub y) x (zal c2) (zal c1) (hu' _) (zq h (zx.mpr rfl))⟩
 | _ => exact za hd
theorem ziu {Z : Heap} {v d} (hl : zm8 d = true) (r : Rep Z v d) : (d = .none /\ v = .none) \/ ∃ b, d = .bool b /\ v = .bool b := by
 induction d using PyData.casesOn with
 | none => exact .inl ⟨rfl, r⟩
 | bool b => exact .inr (I12 b rfl r)
 | _ => cases hl
theorem zrr (h : Ok Ω Z s) {va vb : Value} {a b : PyData} (ra : zbi Z s.heap va a) (rb : Rep Z vb b) (hd : zps a b = true) : plainIs va vb = true /\ (va == vb) = zlj a b := by
 refine zaf hd fun hb ha => ?_
 rw [Bool.or_eq_true] at ha
 refine Or.elim (ziu hb rb) (fun h9 => ?_) fun h9 => ?_
 ·obtain ⟨e90, e91⟩ := h9; obtain rfl := e90.symm; obtain rfl := e91.symm
  rcases ha with ha | ha
  ·replace ra := ra.other (by intro xs h9; obtain rfl := h9; cases ha)
   rcases ziu ha ra with ⟨rfl, rfl⟩ | ⟨x, rfl, rfl⟩ <;> exact ⟨rfl, rfl⟩
  ·cases a <;> first | exact Bool.noConfusion ha | skip
   ·obtain ⟨t, rfl⟩ := ra.int rfl
    exact ⟨rfl, rfl⟩
   ·obtain ⟨a, vs, n, e9, _, _⟩ := ra.list h.sub; refine rwE e9 ?_
    exact ⟨rfl, rfl⟩
 ·obtain ⟨y, e9, rfl⟩ := h9; obtain rfl := e9.symm
  rcases ha with ha | ha
  ·replace ra := ra.other (by intro xs h9; obtain rfl := h9; cases ha)
   rcases ziu ha ra with ⟨rfl, rfl⟩ | ⟨x, rfl, rfl⟩
   ·exact ⟨rfl, rfl⟩
   ·exact ⟨rfl, by induction x <;> induction y <;> rfl⟩
  ·cases a <;> first | exact Bool.noConfusion ha | skip
   obtain ⟨t, rfl⟩ := ra.int rfl
   exact ⟨rfl, rfl⟩
theorem zqO (h : Ok Ω Z s) {va vb : Value} {a b : PyData} (ra : zbi Z s.heap va a) (rb : Rep Z vb b) (hd : zps a b = true) : EqW Ω A Z s .Is .IsNot va vb (zlj a b) :=
 have key := zrr h ra rb hd
 ⟨wpAny_is_plain key.1 (key.2 ▸ zq h (zx.mpr rfl)), wpAny_isNot_plain key.1 (key.2 ▸ zq h (zx.mpr rfl))⟩
theorem zf4 {op : CmpOp} {va vb : Value} {a b : PyData} {f : Int -> Int -> Bool} {r : Bool} (ra : zbi Z s.heap va a) (rb : Rep Z vb b) (hd : ((zw a).bind fun i => (zw b).map fun j => f i j) = some r)
  (k : ∀ i t j u, wpAny Ω.m A (compareOp op (.int i t) (.int j u)) (Pst Ω Z s (.bool (f i j))) zc s) : wpAny Ω.m A (compareOp op va vb) (Pst Ω Z s (.bool r)) zc s := by
 refine zb hd fun i hi hd => zQ hd fun j hj e => ?_
 obtain ⟨t, e9⟩ := ra.int hi; refine rwE e9 ?_
 refine zgj hj rb fun u => ?_
 refine rwB e ?_
 exact k i t j u
theorem zgk {o : Option Bool} {r : Bool} (h : o.map (!·) = some r) : ∃ x, o = some x /\ r = !x := zQ h fun x hx e => I12 x hx e.symm
theorem zkA {op : CmpOp} (h : Ok Ω Z s) (hu : A.units <= 8000) {va vb : Value} {a b : PyData} {r : Bool} (ra : zbi Z s.heap va a) (rb : Rep Z vb b) (hd : zfQ op a b = some r) :
  wpAny Ω.m A (compareOp op va vb) (Pst Ω Z s (.bool r)) zc s := by
 induction op with
 | Eq => exact (zqM h hu ra rb hd).1
 | NotEq => obtain ⟨x, hx, e9⟩ := zgk hd; refine rwE e9 ?_; exact (zqM h hu ra rb hx).2
 | Lt =>
  induction a using PyData.casesOn with
  | int i => exact zf4 (a := .int i) (f := fun a b => decide (a < b)) ra rb hd fun i t j u => PyProof.Rows.lt_int (zq h (zx.mpr rfl))
  | str x =>
   refine zQ hd fun y hy e => ?_
   obtain ⟨t, e9⟩ := ra.str rfl; refine rwE e9 ?_
   refine zjo hy rb fun u => ?_
   refine rwB e ?_
   exact PyProof.Rows.lt_str (zq h (zx.mpr rfl))
  | _ => exact za hd
 | LtE => exact zf4 (f := fun a b => decide (a <= b)) ra rb hd fun i t j u => PyProof.Rows.le_int (zq h (zx.mpr rfl))
 | Gt => exact zf4 (f := fun a b => decide (b < a)) ra rb hd fun i t j u => PyProof.Rows.gt_int (zq h (zx.mpr rfl))
 | GtE => exact zf4 (f := fun a b => decide (b <= a)) ra rb hd fun i t j u => PyProof.Rows.ge_int (zq h (zx.mpr rfl))
 | In => exact (zqN h hu ra rb hd).1
 | NotIn => obtain ⟨x, hx, e9⟩ := zgk hd; refine rwE e9 ?_; exact (zqN h hu ra rb hx).2
 | Is => exact ifE hd fun hc e => by refine eqE e ?_; exact (zqO h ra rb hc).1
 | IsNot => exact ifE hd fun hc e => by refine eqE e ?_; exact (zqO h ra rb hc).2
def za4 (Ω : En) (Z : Heap) (s : Shared) (b : Bool) : Bool -> Shared -> Prop :=
 fun c s' => c = b /\ ∃ Z', Stp Ω Z s Z' s'
theorem zfw {vs : Array Value} {xs : List PyData} (r : zv Z vs.toList xs) : vs.isEmpty = xs.isEmpty := by
 have := zp r
 rw [Bool.eq_iff_iff, Array.isEmpty_iff_size_eq_zero, List.isEmpty_iff_length_eq_zero, this]
theorem zeo (h : Ok Ω Z s) {v : Value} {d : PyData} {b : Bool} (r : zbi Z s.heap v d) (hd : zap d = some b) :
  wpAny Ω.m A (truthy v) (za4 Ω Z s b) zc s := by
 induction d using PyData.casesOn with
 | none =>
  replace r := r.other (by intro _ h; cases h)
  subst r; refine eqE hd ?_
  exact PyProof.Rows.truthy_none ⟨rfl, Z, Stp.refl h⟩
 | bool c =>
  replace r := r.other (by intro _ h; cases h)
  subst r; refine eqE hd ?_
  exact wpAny_truthy_bool ⟨rfl, Z, Stp.refl h⟩
 | int i =>
  replace r := r.other (by intro _ h; cases h)
  refine zc1 r fun t => ?_; refine eqE hd ?_
  exact PyProof.Rows.truthy_int ⟨rfl, Z, Stp.refl h⟩
 | str x =>
  replace r := r.other (by intro _ h; cases h)
  refine zdd r fun t => ?_
  refine ifE hd fun hb hd => ?_
  refine eqE hd ?_
  simp only [big] at hb
  refine P.truthy_str (by lia) ⟨?_, Z, Stp.tok h _⟩
  rw [Bool.eq_iff_iff, bne_iff_ne, bne_iff_ne]; simp
 | list xs =>
  obtain ⟨a, vs, n, e9, e, r⟩ := r.list h.sub; refine rwE e9 ?_
  refine ifE hd fun hb hd => ?_
  refine eqE hd ?_
  simp only [big] at hb
  have hz := zp r
  refine wpAny_truthy_list ⟨_, e, rfl, n, rfl⟩ (by rw [hz]; lia) ⟨?_, Z, Stp.tok h _⟩
  rw [zfw r]
 | tuple xs =>
  replace r := r.other (by intro _ h; cases h)
  obtain ⟨a, vs, n, e9, e, r⟩ := r; refine rwE e9 ?_
  refine ifE hd fun hb hd => ?_
  refine eqE hd ?_
  simp only [big] at hb
  have hz := zp r
  refine PyProof.Rows.truthy_tuple ⟨_, h.sub _ _ e, rfl, n, rfl⟩ (by rw [hz]; lia) ⟨?_, Z, Stp.tok h _⟩
  rw [zfw r]
 | _ => exact za hd
theorem zep {i : Int} {n k : Nat} (h : seqIndex? i n = some k) : k < n /\ (0 <= i -> k = i.toNat) /\ (i < 0 -> k = (i + n).toNat /\ -(n : Int) <= i) := by
 unfold seqIndex? at h
 dsimp only at h
 by_cases hi : i < 0
 ·simp only [hi, if_true] at h
  split at h
  ·rename_i hc
   rw [Bool.and_eq_true, decide_eq_true_eq, decide_eq_true_eq] at hc
   refine eqE h ⟨(Int.toNat_lt hc.1).mpr hc.2, fun h => absurd hi (Int.not_lt.mpr h), fun _ => ⟨rfl, by omega⟩⟩
  ·exact za h
 ·simp only [hi, if_false] at h
  split at h
  ·rename_i hc
   rw [Bool.and_eq_true, decide_eq_true_eq, decide_eq_true_eq] at hc
   refine eqE h ⟨(Int.toNat_lt hc.1).mpr hc.2, fun _ => rfl, fun h => absurd h hi⟩
  ·exact za h
theorem zgl {i : Int} {n k : Nat} (h : seqIndex? i n = some k) (hb : n <= 1000000) : -2 ^ 63 <= i /\ i < 2 ^ 63 := by
 obtain ⟨h1, h2, h3⟩ := zep h
 refine Or.elim (Int.lt_or_le i 0) (fun hi => ?_) fun hi => ?_
 ·lia
 ·lia
theorem znh (h : Ok Ω Z s) {v vi : Value} {xs : List PyData} {di x : PyData} (r : zbi Z s.heap v (.list xs)) (ri : Rep Z vi di) (hd : zpt xs di = some x) :
  wpAny Ω.m A (getItem v vi) (Pst Ω Z s x) zc s := by
 refine zb hd fun i hi hd => ifE hd fun hb hd => zb hd fun k hk hx => ?_
 refine cps fun G0 hG_0 => ?_
 obtain (⟨t, rfl⟩) := zbh hi ri
 obtain (⟨a, vs, n, rfl, e, r⟩) := r.list h.sub
 obtain ⟨y, hy, ry⟩ := r.get hx
 obtain ⟨h1, h2, h3⟩ := zep hk
 obtain ⟨f1, f2⟩ := zgl hk hb
 refine hG_0 ?_
 rcases Int.lt_or_le i 0 with hi | hi
 ·have hk' := h3 hi
  have q := hk'.2
  rw [<- zp r] at q
  refine wpAny_getItem_list_neg ⟨_, e, rfl, n, rfl⟩ hi q f1 (x := y) ?_ (zq h ry)
  rw [<- Array.getElem?_toList, zp r, <- hk'.1]; exact hy
 ·refine wpAny_getItem_list ⟨_, e, rfl, n, rfl⟩ hi f2 (x := y) ?_ (zq h ry)
  rw [<- Array.getElem?_toList, <- h2 hi]; exact hy
theorem zpx (h : Ok Ω Z s) {v vi : Value} {xs : List PyData} {di x : PyData} (r : Rep Z v (.tuple xs)) (ri : Rep Z vi di) (hd : zpt xs di = some x) :
  wpAny Ω.m A (getItem v vi) (Pst Ω Z s x) zc s := by
 refine zb hd fun i hi hd => ifE hd fun hb hd => zb hd fun k hk hx => ?_
 refine cps fun G0 hG_0 => ?_
 obtain (⟨t, rfl⟩) := zbh hi ri
 obtain (⟨a, vs, n, rfl, e, r⟩) := zaq.mp r
 obtain ⟨y, hy, ry⟩ := r.get hx
 obtain ⟨f1, f2⟩ := zgl hk hb
 refine hG_0 ?_
 exact P.getItem_tuple (h.sub _ _ e) f1 f2 (k := k) (y := y) (by rw [zp r]; exact hk) (by rw [<- Array.getElem?_toList]; exact hy) (zq h ry)
theorem zjq {v : Value} {d : PyData} (f : zek v d) : Rep Z v d := by
 cases d <;> first | exact f.elim | skip
 ·exact zo.mpr f
 ·exact zU.mpr f
theorem zrs (h : Ok Ω Z s) {v vi : Value} {d di x : PyData} (r : zbi Z s.heap v d) (ri : Rep Z vi di) (hd : zbu d di = some x) :
  wpAny Ω.m A (getItem v vi) (Pst Ω Z s x) zc s := by
 induction d using PyData.casesOn with
 | list xs => exact znh h r ri hd
 | tuple xs => exact zpx h (r.other nofun) ri hd
 | str y =>
  refine zb hd fun i hi hd => ifE hd fun hb hd => ?_
  refine zgj hi ri fun u => ?_
  obtain ⟨t, e9⟩ := r.str rfl; refine rwE e9 ?_
  refine eqE hd ?_
  refine SB.getItem ?_ hb.2.2.2 (zt h _ (zU.mpr ⟨_, rfl⟩))
  unfold fitsSsize
  rw [Bool.not_eq_true', Bool.or_eq_false_iff, decide_eq_false_iff_not, decide_eq_false_iff_not]; lia
 | dict kvs =>
  refine zb hd fun i hi hd => ?_
  refine cps fun G0 hG_0 => ?_
  obtain (⟨u, rfl⟩) := zbh hi ri
  obtain ⟨a, e9, hsys, f, hm, hf⟩ := zcv.mp (r.other nofun); obtain rfl := e9.symm
  have hk := hf i
  rw [hd] at hk
  obtain ⟨y, hy, fl⟩ := hk
  refine hG_0 ?_
  exact wpAny_getItem_intMap (Heap.MapOf.intMap (prog := Ω.prog) (w := Ω.w) (E32 (hm Ω.prog Ω.w) fun o es ep ho q =>  (I32 o es ep (h.sub _ _ ho) q))) hy (zt h _ (zjq fl))
 | _ => exact za hd
theorem zgm {ns : List Nat} {vs : Array Value} {xs : List PyData} (r : zv Z vs.toList xs) : zv Z (ns.filterMap (vs[·]?)) (ns.filterMap (xs[·]?)) := by
 induction ns with
 | nil => exact .nil
 | cons k ns ih =>
  rw [List.filterMap_cons, List.filterMap_cons]
  induction hx : xs[k]? with
  | none =>
   have : vs[k]? = none := by
    have hz := zp r
    rw [List.getElem?_eq_none_iff] at hx
    exact Array.getElem?_eq_none (by lia)
   rw [this]; exact ih
  | some d =>
   obtain ⟨v, hv, rv⟩ := r.get hx
   rw [Array.getElem?_toList] at hv
   rw [hv]
   exact .cons rv ih
theorem zma {vs : Array Value} {xs : List PyData} (r : zv Z vs.toList xs) (lo hi st : Option Int) : zv Z (slicePick vs lo hi st).toList (zbW xs lo hi st) := by
 unfold slicePick zbW
 rw [zp r]
 exact zgm r
theorem zjr {α : Type} (xs : List α) (lo hi : Option Int) (h1 : (Builtin.Slice.sliceAdjust lo hi 1 xs.length).1 = 0) (h2 : Builtin.Slice.slicePlaces (Builtin.Slice.sliceAdjust lo hi 1 xs.length).1 (Builtin.Slice.sliceAdjust lo hi 1 xs.length).2 1 = xs.length) :
  zc0 xs lo hi 1 = xs := by
 unfold zc0
 dsimp only
 rw [h2, h1]
 refine List.ext_getElem? fun k => ?_
 have : ∀ (n : Nat), n <= xs.length -> (List.range n).filterMap (fun (k : Nat) => xs[((0 : Int) + (k : Int) * 1).toNat]?) = xs.take n := by
  intro n hn
  induction n with
  | zero => rfl
  | succ n ih =>
   rw [List.range_succ, List.filterMap_append, ih (by lia)]
   have hl : n < xs.length := by assumption
   simp only [List.filterMap_cons, List.filterMap_nil, (by lia : ((0 : Int) + (n : Int) * 1).toNat = n), List.getElem?_eq_getElem hl]
   rw [List.take_add_one, List.getElem?_eq_getElem hl]; rfl
 rw [this _ (Nat.le_refl _), List.take_length]
theorem zgn {vs : Array Value} {xs : List PyData} (r : zv Z vs.toList xs) (lo hi : Option Int) (st : Int) : zv Z (zc0 vs.toList lo hi st) (zc0 xs lo hi st) := by
 unfold zc0
 rw [r.length]
 dsimp only
 generalize (List.range _) = ns
 induction ns with
 | nil => exact .nil
 | cons k ns ih =>
  rw [List.filterMap_cons, List.filterMap_cons]
  generalize ((Builtin.Slice.sliceAdjust lo hi st ↑xs.length).1 + (k : Int) * st).toNat = j at *
  induction hx : xs[j]? with
  | none =>
   have : vs.toList[j]? = none := by
    have hz := r.length
    rw [List.getElem?_eq_none_iff] at hx |-
    lia
   rw [this]; exact ih
  | some d =>
   obtain ⟨v, hv, rv⟩ := r.get hx
   rw [hv]
   exact .cons rv ih
theorem zcP {v : Value} {k : Option Int} {Q : Option Int -> Shared -> Prop} (hv : IsPart v k) (h : Q k s) : wpAny Ω.m A (Builtin.Slice.slicePartIndex v) Q zc s := by
 induction hv with
 | none => exact slicePart_none h
 | int i t => exact slicePart_int h
theorem zfS {sl : Addr} {n : Int} {vl vu vs : Value} {lo hi st : Option Int} {Q : Int × Int × Nat -> Shared -> Prop} (hs : s.heap.IsSliceOf sl vl vu vs) (pl : IsPart vl lo) (pu : IsPart vu hi) (ps : IsPart vs st) (h0 : st ≠ some 0)
  (h : Q ((Builtin.Slice.sliceAdjust lo hi (st.getD 1) n).1, st.getD 1, Builtin.Slice.slicePlaces (Builtin.Slice.sliceAdjust lo hi (st.getD 1) n).1 (Builtin.Slice.sliceAdjust lo hi (st.getD 1) n).2 (st.getD 1)) s) :
  wpAny Ω.m A (Builtin.Slice.sliceApplied (.ref sl) (pure n)) Q zc s := by
 obtain ⟨os, hos, hcs, hds⟩ := id hs
 refine wB (wB (wpAny_field hos hds (x := vl) rfl (wB (wpAny_field hos hds (x := vu) rfl (wB (wpAny_field hos hds (x := vs) rfl (wPu ?_)))))))
 refine wB (zcP ps ?_)
 have hne : ¬ ((st.getD 1 == 0) = true) := by
  induction st with
  | none => simp
  | some c => simpa using fun e : c = 0 => h0 (by rw [e])
 rw [if_neg hne]
 refine wB (zcP pl (wB (zcP pu (wB (wPu ?_)))))
 exact wPu h
theorem zgo (h : Ok Ω Z s) {v : Value} {xs : List PyData} {sl : Addr} {vl vu vs : Value} {lo hi st : Option Int} (r : Rep Z v (.tuple xs)) (hl : xs.length <= big) (hsz : (zc0 xs lo hi (st.getD 1)).length <= big)
  (hs : s.heap.IsSliceOf sl vl vu vs) (pl : IsPart vl lo) (pu : IsPart vu hi) (ps : IsPart vs st) (h0 : st ≠ some 0) :
  wpAny Ω.m A (getItem v (.ref sl)) (Pst Ω Z s (.tuple (zc0 xs lo hi (st.getD 1)))) zc s := by
 have r0 := r
 obtain (⟨t, items, n, e9, e, r⟩) := r; obtain rfl := e9.symm
 have ht : IsTup s.heap t items := ⟨_, h.sub _ _ e, rfl, n, rfl⟩
 have hz := zp r
 obtain ⟨os, hos, hcs, hds⟩ := id hs
 unfold getItem
 try with_reducible refine wpAny_holding ?_
 first | refine wB (wPu ?_) | skip
 refine wB (wpAny_sequenceKey ht.typeIs (rfl) ?_)
 refine wB (wpAny_callSpecial?_slot (name := Str.ofString "__getitem__") ht.typeIs slot_tuple_getitem
  (wpAny_call_entry slot_tuple_getitem ht.typeIs entry_tuple_getitem ?_ (args_tuple_getitem _ _)))
 show wpAny _ _ (Builtin.Tuple.tupleItemsOf (.ref t) >>= _) _ _ s
 refine wB (tupleItemsOf_ ht ?_)
 refine wB (wpAny_typeOf (I12 os hos hcs) ?_)
 refine wB (zfS hs pl pu ps h0 ?_)
 dsimp only
 have hpick : ((List.range (Builtin.Slice.slicePlaces (Builtin.Slice.sliceAdjust lo hi (st.getD 1) items.size).1 (Builtin.Slice.sliceAdjust lo hi (st.getD 1) items.size).2 (st.getD 1))).filterMap fun (k : Nat) => items[((Builtin.Slice.sliceAdjust lo hi (st.getD 1) items.size).1 + (k : Int) * (st.getD 1)).toNat]?) = zc0 items.toList lo hi (st.getD 1) := by
  unfold zc0
  simp
 by_cases hc : ((Builtin.Slice.sliceAdjust lo hi (st.getD 1) items.size).1 == 0 && st.getD 1 == 1 && Builtin.Slice.slicePlaces (Builtin.Slice.sliceAdjust lo hi (st.getD 1) items.size).1 (Builtin.Slice.sliceAdjust lo hi (st.getD 1) items.size).2 (st.getD 1) == items.size) = true
 ·rw [if_pos hc] at |-
  rw [Bool.and_eq_true, Bool.and_eq_true, beq_iff_eq, beq_iff_eq, beq_iff_eq] at hc
  obtain ⟨⟨c1, c2⟩, c3⟩ := hc
  rw [c2] at c1 c3 |-
  rw [hz] at c1 c3
  rw [zjr xs lo hi c1 c3]
  refine wB (wB (wpAny_typeOf ht.typeIs (wPu ?_)))
  exact wB (wpAny_rule (wPu (I12 _ rfl (wPu (zq h r0)))))
 ·rw [if_neg hc, hpick]
  refine wB (m := Builtin.Tuple.tupleExact _) (wpAny_newObj_type (wPu (I12 _ rfl (wPu ?_))) ?_)
  ·exact zbq (n := s.toks) h (by simpa using zgn r lo hi _)
  ·show (zc0 items.toList lo hi (st.getD 1)).toArray.size <= sizeLine
   rw [List.size_toArray, (zgn r lo hi _).length]
   exact zcN hsz
theorem zcy {v : Value} {k : Option Int} (h : IsPart v k) : ∃ p : Option (Int × Tok), v = partValue p /\ p.map (·.1) = k := by
 induction h with
 | none => exact I12 none rfl rfl
 | int i t => exact I12 (some (i, t)) rfl rfl
theorem ziv (h : Ok Ω Z s) {v : Value} {x' : Str} {sl : Addr} {vl vu : Value} {lo hi : Option Int} (r : Rep Z v (.str x')) (hc : x'.length <= big)
  (hs : s.heap.IsSliceOf sl vl vu .none) (pl : IsPart vl lo) (pu : IsPart vu hi) :
  wpAny Ω.m A (getItem v (.ref sl)) (Pst Ω Z s (.str (Txt.slice x' lo hi))) zc s := by
 refine zdd r fun t => ?_
 refine cps fun G0 hG_0 => ?_
 obtain ⟨p, e9, hp⟩ := zcy pl; subst e9
 obtain ⟨q, e9, hq⟩ := zcy pu; obtain rfl := e9.symm
 refine hG_0 ?_
 refine wpAny_getItem_str_slice (l := p) (u := q) (st := none) hs rfl ?_
 have e : Txt.slice x' lo hi = if ((1 : Int) == 1 && (slicePicked x' p q none).length == x'.length) = true then x' else ⟨((slicePicked x' p q none).filterMap (x'.cps[·]?)).toArray⟩ := by
  unfold Txt.slice slicePicked
  rw [hp, hq]; rfl
 have hle := Txt.slice_le x' lo hi
 unfold sliceMade
 rw [e] at hle |-
 by_cases hc' : ((1 : Int) == 1 && (slicePicked x' p q none).length == x'.length) = true
 ·rw [if_pos hc'] at hle |-
  rw [if_pos (show (((none : Option (Int × Tok)).map (·.1)).getD 1 == 1 && (slicePicked x' p q none).length == x'.length) = true from hc')]
  exact zq h (zU.mpr ⟨_, rfl⟩)
 ·rw [if_neg hc'] at hle |-
  rw [if_neg (show ¬ (((none : Option (Int × Tok)).map (·.1)).getD 1 == 1 && (slicePicked x' p q none).length == x'.length) = true from hc')]
  exact ⟨zcN (nle hle hc), zt h _ (zU.mpr ⟨_, rfl⟩)⟩
theorem zni (h : Ok Ω Z s) {v : Value} {d x : PyData} {sl : Addr} {vl vu vs : Value} {lo hi st : Option Int} (r : Rep Z v d)
  (hs : s.heap.IsSliceOf sl vl vu vs) (pl : IsPart vl lo) (pu : IsPart vu hi) (ps : IsPart vs st) (hd : zaz d lo hi st = some x) :
  wpAny Ω.m A (getItem v (.ref sl)) (Pst Ω Z s x) zc s := by
 induction d using PyData.casesOn with
 | list xs =>
  refine ifE hd fun hc e => ?_
  refine eqE e ?_
  obtain ⟨a, items, n, e9, e, r⟩ := zah.mp r; refine rwE e9 ?_
  refine wpAny_getItem_list_slice ⟨_, h.sub _ _ e, rfl, n, rfl⟩ hs pl pu ps hc.1 (zem (n := s.toks) h (zma r lo hi _)) ?_
  rw [zp r]; exact zcN hc.2
 | tuple xs => exact ifE hd fun hc e => by refine eqE e ?_; exact zgo h r hc.2.1 hc.2.2 hs pl pu ps hc.1
 | str y => exact ifE hd fun hc e => by refine eqE e ?_; cases hc.1; cases ps; exact ziv h r hc.2 hs pl pu
 | _ => exact za hd
end
theorem ze6 : ∀ {xs : List PyData} {is : List Int}, zdb xs = some is -> xs = is.map .int
 | [], _, h => by refine eqE h ?_; rfl
 | d :: r, is, h => by
  cases d <;> first | (exact za h) | skip
  exact zQ h fun js h1 h2 => by rw [<- h2, ze6 h1]; rfl
theorem zhH : ∀ {xs : List PyData} {ss : List Str}, zd6 xs = some ss -> xs = ss.map .str
 | [], _, h => by refine eqE h ?_; rfl
 | d :: r, is, h => by
  cases d <;> first | exact za h | skip
  refine zQ h fun js h1 h2 => ?_
  rw [<- h2, zhH h1]; rfl
section
variable {Ω : En} {A : Around} {Z : Heap} {s : Shared}
theorem zdY : ∀ {is : List Int} {vs : List Value}, zv Z vs (is.map .int) -> ∃ xs : List (Int × Tok), vs = xs.map (fun p => .int p.1 p.2) /\ xs.map (·.1) = is
 | [], _, r => I12 [] (zaM.mp r) rfl
 | i :: is, _, r => by
  obtain ⟨v, vs', e9, a, b⟩ := zy.mp r; refine rwE e9 ?_
  obtain ⟨t, e9⟩ := zo.mp a; refine rwE e9 ?_
  obtain ⟨xs, e9, h⟩ := zdY b; refine rwE e9 ?_
  exact I12 ((i, t) :: xs) rfl (by rw [List.map_cons, h])
theorem znj (h : Ok Ω Z s) {h' : Heap} {n : Nat} {v : Value} {d : PyData} (k : Sub s.heap h') (r : Rep Z v d) : Pst Ω Z s d v { s with heap := h', toks := n } :=
 (I12 Z (Stp.grow h k) r)
set_option tactic.hygienic true in
theorem zgp : ∀ (xs : List PyData) (a r : Int), zcM xs a = some r -> ∃ is : List Int, xs = is.map .int /\ r = a + is.sum
 | [], a, r, h => by refine eqE h ?_; exact I12 [] rfl ((Int.add_zero _).symm)
 | d :: t, a, r, h => by
  cases d <;> first | exact za h | skip
  rename_i i
  obtain ⟨is, e9, h2⟩ := zgp t (a + i) r h; refine rwE e9 ?_
  exact I12 (i :: is) rfl (by rw [h2, List.sum_cons, Int.add_assoc])
theorem zgq (is : List Int) : ∀ n, n <= is.length -> preSum (fun j => is.getD j 0) n = (is.take n).sum
 | 0, _ => by simp [preSum]
 | n + 1, h => by
  rw [preSum, zgq is n (by lia), List.take_add_one, List.getElem?_eq_getElem (by lia), List.sum_append]
  simp [List.getD, List.getElem?_eq_getElem (show n < is.length by lia)]
theorem zkB {xs : List (Int × Tok)} (j : Nat) : numAt xs.toArray j = (xs.map (·.1)).getD j 0 := by
 unfold numAt
 simp [List.getD]
theorem znk (h : Ok Ω Z s) {v : Value} {d x : PyData} (r : zbi Z s.heap v d) (hd : zpu d = some x) :
  wpAny Ω.m A (call (.builtin "len") [v]) (Pst Ω Z s x) zc s := by
 have hbig : ∀ {n : Nat}, n <= big -> (n : Int) < 2 ^ 63 := fun h => Int.lt_of_le_of_lt (Int.ofNat_le.mpr h) (by decide)
 induction d using PyData.casesOn with
 | str y =>
  refine ifE hd fun hb e => ?_
  refine eqE e ?_
  obtain ⟨t, e9⟩ := r.str rfl; refine rwE e9 ?_
  exact P.len_str (Int.not_le.mpr (hbig hb)) (zt h _ (zo.mpr ⟨_, rfl⟩))
 | list xs =>
  refine ifE hd fun hb e => ?_
  refine eqE e ?_
  refine cps fun G0 hG_0 => ?_
  obtain (⟨a, vs, n, rfl, e, r⟩) := r.list h.sub
  refine hG_0 ?_
  refine Calls.call_len_list ⟨_, e, rfl, n, rfl⟩ (by rw [zp r]; exact hbig hb) ?_
  rw [zp r]; exact zt h _ (zo.mpr ⟨_, rfl⟩)
 | _ => exact za hd
end
noncomputable def zgr : ME -> String
 | .join => "str.join" | .split => "str.split" | .startswith => "str.startswith" | .endswith => "str.endswith" | .find => "str.find" | _ => ""
def zkC : ME -> PyData -> Option (String × String)
 | .index, d => match d with
  | .tuple _ => some ("tuple", "tuple.index")
  | .list _ => some ("list", "list.index")
  | _ => none
 | .get, d => match d with
  | .dict _ => some ("dict", "dict.get")
  | _ => none
 | .bitLength, d => (zw d).map fun _ => ("int", "int.bit_length")
 | m, d => (zaJ d).map fun _ => ("str", zgr m)
noncomputable def ziw : ME -> Str
 | .join => "join" | .split => "split" | .startswith => "startswith" | .endswith => "endswith" | .find => "find"
 | .index => "index" | .get => "get" | .bitLength => "bit_length"
theorem zd9 {m : ME} {d : PyData} {x : Str} (h : zaJ d = some x) : ∃ T id, ((zaJ d).map fun _ => ("str", zgr m)) = some (T, id) := I21 _ _ (by rw [h]; rfl)
theorem znl {m : ME} {d : PyData} {ds : List PyData} {x : PyData} (h : meD m d ds = some x) : ∃ T id, zkC m d = some (T, id) := by
 match ds, h with
 | [], h =>
  induction m <;> first | exact za h | skip
  ·exact zb h fun y hy u => zd9 hy
  ·exact zQ h fun i hi u => I21 "int" "int.bit_length" (by show ((zw d).map fun u => ("int", "int.bit_length")) = _; rw [hi]; rfl)
 | [a], h =>
  induction m <;> first | exact za h | exact zb h fun y hy u => zd9 hy | skip
  cases d <;> first | exact za h | exact I21 _ _ rfl
 | [a, b], h =>
  induction m <;> first | exact za h | skip
  cases d <;> first | exact za h | exact I21 _ _ rfl
 | [a, b, c], h =>
  induction m <;> first | exact za h | exact zb h fun y hy u => zd9 hy
 | _ :: _ :: _ :: _ :: _, h => exact za h
section
variable {Ω : En} {A : Around} {Z : Heap} {s : Shared}
def ztr (Ω : En) (s : Shared) (m : ME) (v : Value) (T id : String) : Prop :=
 PlainAttrs T /\ Slot T (ziw m) id /\ typeOf (.builtin id) = pure (.type "method_descriptor") /\ s.TypeIs v T /\ (∀ a, v = .ref a -> ∃ ob, s.heap.get? a = some ob /\ ob.dict = none)
theorem zdf (Ω : En) {m : ME} {d : PyData} {v : Value} {T id : String} (r : Rep Z v d) (hi : ((zaJ d).map fun u => ("str", zgr m)) = some (T, id)) (h1 : Slot "str" (ziw m) (zgr m)) (h2 : typeOf (.builtin (zgr m)) = pure (.type "method_descriptor")) :
  ztr Ω s m v T id := by
 refine zQ hi fun x hx e => ?_
 cases e
 refine zjo hx r fun t => ?_
 exact I05 F.plainAttrs_str h1 h2 (typeIs_str _ _ _) nofun
theorem zlm (Ω : En) (h : Ok Ω Z s) {m : ME} {d : PyData} {v : Value} {T id : String} (r : Rep Z v d) (hi : zkC m d = some (T, id)) : ztr Ω s m v T id := by
 induction m with
 | join => exact zdf Ω r hi F.slot_str_join F.type_str_join
 | split => exact zdf Ω r hi F.slot_str_split F.type_str_split
 | startswith => exact zdf Ω r hi F.slot_str_startswith F.type_str_startswith
 | endswith => exact zdf Ω r hi F.slot_str_endswith F.type_str_endswith
 | find => exact zdf Ω r hi F.slot_str_find F.type_str_find
 | index =>
  induction d using PyData.casesOn with
  | tuple xs =>
   cases hi
   refine cps fun G0 hG_0 => ?_
   obtain (⟨a, vs, n, rfl, e, r⟩) := zaq.mp r
   refine hG_0 ?_
   exact I05 F.plainAttrs_tuple F.slot_tuple_index F.type_tuple_index (I12 _ (h.sub _ _ e) rfl) (fun u q => by cases q; exact I12 _ (h.sub _ _ e) rfl)
  | list xs =>
   cases hi
   refine cps fun G0 hG_0 => ?_
   obtain (⟨a, vs, n, rfl, e, r⟩) := zah.mp r
   refine hG_0 ?_
   exact I05 F.plainAttrs_list F.slot_list_index F.type_list_index (I12 _ (h.sub _ _ e) rfl) (fun u q => by cases q; exact I12 _ (h.sub _ _ e) rfl)
  | _ => exact za hi
 | get =>
  cases d with
  | dict kvs =>
   refine zaE hi ?_
   refine cps fun G0 hG_0 => ?_
   obtain ⟨a, rfl, hsys, f, hm, _⟩ := zcv.mp r
   obtain ⟨o, es, ep, ho, hx, q⟩ := hm Ω.prog Ω.w
   refine hG_0 ?_
   exact I05 F.plainAttrs_dict F.slot_dict_get F.type_dict_get (I12 _ (h.sub _ _ ho) hx.1) (fun u q => by cases q; exact I12 _ (h.sub _ _ ho) hx.2.1)
  | _ => exact za hi
 | bitLength =>
  refine zQ hi fun x hx e => ?_
  cases e
  refine zgj hx r fun t => ?_
  exact I05 F.plainAttrs_int F.slot_int_bit_length F.type_int_bit_length (typeIs_int _ _ _) nofun
def zeq (Ω : En) (Z : Heap) (s : Shared) (xs : List PyData) : Value -> Shared -> Prop :=
 fun v s' => ∃ Z' a vs n, Stp Ω Z s Z' s' /\ v = .ref a /\ s.heap.get? a = none /\ Z'.get? a = none /\ s'.heap.get? a = some { cls := .type "list", data := .seq vs n } /\ zv Z' vs.toList xs
theorem zeq.pst {xs : List PyData} {v : Value} {s' : Shared} (x : zeq Ω Z s xs v s') : Pst Ω Z s (.list xs) v s' := by
 refine cps fun G0 hG_0 => ?_
 obtain ⟨Z', a, vs, n, S, e9, h1, h2, h3, r⟩ := x; obtain rfl := e9.symm
 obtain ⟨F', S', e, f⟩ := S.freezeNew h1 h2 h3
 refine hG_0 ?_
 exact I12 F' S' (zah.mpr (I33 a vs n rfl e (r.mono f)))
theorem zbM (h : Ok Ω Z s) {vs : Array Value} {n : Nat} {xs : List PyData} (r : zv Z vs.toList xs) :
  zeq Ω Z s xs (.ref s.heap.objs.size) { s with heap := s.heap.push { cls := .type "list", data := .seq vs }, toks := n } :=
 (I46 Z _ vs 0 (Stp.grow h (Sub.push _ _)) rfl (zj _) (h.sub.none (zj _)) (Heap.get?_push_size _ rfl) r)
theorem zaH : ∀ (l : List (Str × Tok)), zv Z (strValues l) ((l.map (·.1)).map .str)
 | [] => .nil
 | (x, t) :: r => .cons (zU.mpr ⟨t, rfl⟩) (zaH r)
theorem zhI (h : Ok Ω Z s) {x y : Str} {t u : Tok} (hx : x.length <= big) (hy : y.length ≠ 0) :
  wpAny Ω.m A (call (.builtin "str.split") [.str x t, .str y u]) (zeq Ω Z s ((Txt.split x y).map .str)) zc s := by
 have hy' : (y.length == 0) = false := by simpa using hy
 cases h1 : (decide (x.length < y.length) || decide (Builtin.Str.strKind x < Builtin.Str.strKind y))
 ·cases hf : (Builtin.Str.occurrences x y 0 x.length (x.length + 1)).isEmpty
  ·have e0 : Txt.split x y = Builtin.Str.partsBetween x (Builtin.Str.occurrences x y 0 x.length (x.length + 1)) y.length :=
    (if_neg (ne_true_of_eq_false h1)).trans (if_neg (ne_true_of_eq_false hf))
   have hn : (Builtin.Str.partsBetween x (Builtin.Str.occurrences x y 0 x.length (x.length + 1)) y.length).length <= sizeLine := by
    have := split_le x y
    rw [e0] at this
    refine nle this ?_
    simp only [big] at hx
    rw [sizeLine_eq]; lia
   refine call_meets F.slot_str_split (typeIs_str _ _ _) F.entry_str_split (F.args_str_split_2 _ _) (meets_str_split_sep x y t u h1 hy' hf (zcN hx) hn) ?_
   rw [strsFrom_eq]
   have e := (numbered_texts s.toks (Builtin.Str.partsBetween x (Builtin.Str.occurrences x y 0 x.length (x.length + 1)) y.length)).trans e0.symm
   refine zbM h ?_
   have := zaH (Z := Z) (numbered s.toks (Builtin.Str.partsBetween x (Builtin.Str.occurrences x y 0 x.length (x.length + 1)) y.length))
   rw [e] at this
   exact this
  ·refine call_meets F.slot_str_split (typeIs_str _ _ _) F.entry_str_split (F.args_str_split_2 _ _) (meets_str_split_not_found x y t u h1 hy' hf) ?_
   have e : Txt.split x y = [x] := (if_neg (ne_true_of_eq_false h1)).trans (if_pos hf)
   rw [e]
   exact zbM (n := s.toks) h (zaH (Z := Z) [(x, t)])
 ·refine call_meets F.slot_str_split (typeIs_str _ _ _) F.entry_str_split (F.args_str_split_2 _ _) (meets_str_split_cannot_occur x y t u h1) ?_
  rw [(show Txt.split x y = [x] from if_pos h1)]
  exact zbM (n := s.toks) h (zaH (Z := Z) [(x, t)])
theorem zhJ (h : Ok Ω Z s) {x : Str} {t : Tok} (hx : x.length <= big) :
  wpAny Ω.m A (call (.builtin "str.split") [.str x t]) (zeq Ω Z s ((Txt.words x).map .str)) zc s := by
 have hn : (Builtin.Str.spaceWords x (x.length + 1)).length <= sizeLine := by
  have := StrLaws.words_weight x
  unfold Txt.words at this
  simp only [big] at hx
  rw [sizeLine_eq]
  by_cases hw : (Builtin.Str.spaceWords x (x.length + 1) == [(0, x.length)]) = true
  ·rw [beq_iff_eq.mp hw]; simp
  ·rw [if_neg hw] at this
   unfold PySem.wordsOf at this
   simp only [List.length_map] at this
   lia
 refine call_meets F.slot_str_split (typeIs_str _ _ _) F.entry_str_split (F.args_str_split_1 _) (meets_str_split_space x t (zcN hx) hn) ?_
 cases hw : Builtin.Str.spaceWords x (x.length + 1) == [(0, x.length)]
 ·rw [strsFrom_eq]
  have e := (numbered_texts s.toks (PySem.wordsOf x)).trans (show Txt.words x = PySem.wordsOf x from if_neg (ne_true_of_eq_false hw)).symm
  refine zbM h ?_
  have := zaH (Z := Z) (numbered s.toks (PySem.wordsOf x))
  rw [e] at this
  exact this
 ·rw [(show Txt.words x = [x] from if_pos hw)]
  exact zbM (n := s.toks) h (zaH (Z := Z) [(x, t)])
theorem zjs (x y : Str) (i j : Int) (t u v z : Tok) : Gives (Builtin.«str.find» ⟨[.str x t, .str y u, .int i v, .int j z], []⟩) (.int (zhG x y i j)) := by
 unfold zhG
 show Gives (match Builtin.Str.occurrences x y (fromIndex x.length i) (min (fromIndex x.length j) x.length) 1 with | k :: _ => retInt k | [] => (do rule "str.find.not-found"; retInt (-1))) _
 induction (Builtin.Str.occurrences x y (fromIndex x.length i) (min (fromIndex x.length j) x.length) 1) with
 | nil => exact .rule (.of_eq rfl)
 | cons k _ => exact .of_eq rfl
theorem zer : ∀ {ss : List Str} {vs : List Value}, zv Z vs (ss.map .str) -> ∃ l : List (Str × Tok), vs = strValues l /\ l.map (·.1) = ss
 | [], _, r => I12 [] (zaM.mp r) rfl
 | i :: is, _, r => by
  obtain ⟨v, vs', e9, a, b⟩ := zy.mp r; refine rwE e9 ?_
  obtain ⟨t, e9⟩ := zU.mp a; refine rwE e9 ?_
  obtain ⟨xs, e9, h⟩ := zer b; refine rwE e9 ?_
  exact I12 ((i, t) :: xs) rfl (by rw [List.map_cons, h])
theorem zpy (h : Ok Ω Z s) {sep : Str} {t : Tok} {v : Value} {xs : List PyData} {ss : List Str} (r : Rep Z v (.list xs)) (hs : zd6 xs = some ss)
  (hb : zbB ss + ss.length * (sep.length + 1) <= big) :
  wpAny Ω.m A (call (.builtin "str.join") [.str sep t, v]) (Pst Ω Z s (.str (Txt.join sep ss))) zc s := by
 rw [zhH hs] at r
 obtain ⟨a, vs, n, e9, e, r⟩ := r; refine rwE e9 ?_
 obtain ⟨l, hl, e9⟩ := zer r; obtain rfl := e9.symm
 have hvs : vs = (strValues l).toArray := by rw [<- hl]
 subst hvs
 have hsum : ∀ (l : List Str) (k : Nat), l.toArray.foldl (· + ·.length + sep.length) k = k + zbB l + l.length * sep.length := by
  intro l
  induction l with
  | nil => intro k; simp [zbB]
  | cons x l ih =>
   intro k
   have := ih (k + x.length + sep.length)
   simp only [List.foldl_toArray', List.foldl_cons, zbB, List.length_cons] at this |-
   rw [this, Nat.add_mul]; lia
 simp only [big] at hb
 refine call_meets F.slot_str_join (typeIs_str _ _ _) F.entry_str_join (F.args_str_join_2 _ _) (meets_str_join_list sep t a l ?_) ⟨⟨_, h.sub _ _ e, rfl, n, rfl⟩, ?_⟩
 ·show decide (_ > sizeLine) = false
  rw [sizeLine_eq, hsum]
  refine decide_eq_false ?_
  lia
 ·have hsize : ∀ ss : List Str, (Builtin.Str.glued sep ss).length <= zbB ss + ss.length * sep.length := by
   intro ss
   rw [size_glued]
   have : (ss.map (·.length)).sum = zbB ss := by
    induction ss with
    | nil => rfl
    | cons x r ih => simp [zbB, ih]
   rw [this]
   have := Nat.mul_le_mul_right sep.length (Nat.sub_le ss.length 1)
   lia
  have hsz := hsize (l.map (·.1))
  have hle : (Builtin.Str.glued sep (l.map (·.1))).length <= sizeLine := by rw [sizeLine_eq]; lia
  match l, hle with
  | [], hle => exact ⟨hle, zt h _ (zU.mpr ⟨_, rfl⟩)⟩
  | [p], _ => exact zq h (zU.mpr ⟨p.2, rfl⟩)
  | p :: q :: r, hle => exact ⟨hle, zt h _ (zU.mpr ⟨_, rfl⟩)⟩
theorem zgs (x : PyData) : ∀ (xs : List PyData) (k j : Nat), zjm x xs k = some j -> ∃ i, j = k + i /\ (∃ y, xs[i]? = some y /\ PyData.eqv y x = true) /\ ∀ m, m < i -> ∃ y, xs[m]? = some y /\ PyData.eqv y x = false
 | [], _, _, h => by exact za h
 | y :: r, k, j, h => by
  refine ifC h (fun hy h => ?_) fun hy h => ?_
  ·refine eqE h ?_
   exact I13 0 rfl (I12 y rfl hy) (fun m hm => absurd hm (Nat.not_lt_zero _))
  ·obtain ⟨i, e9, ⟨z, hz, hzx⟩, hno⟩ := zgs x r (k + 1) j h; refine rwE e9 ?_
   refine I13 (i + 1) (Nat.add_right_comm k 1 i) (I12 z hz hzx) (fun m hm => ?_)
   induction m using Nat.casesOn with
   | zero => exact I12 y rfl (Bool.not_eq_true _ ▸ hy)
   | succ m => exact hno m (Nat.lt_of_succ_lt_succ hm)
theorem zgt {t : Addr} {items : Array Value} {x : Value} {e : Value -> Bool} {j : Nat} {Q : Value -> Shared -> Prop} (ht : IsTup s.heap t items)
  (he : ∀ y, y ∈ items -> SeqAt.EqAt A.in1 s y x (e y)) (hj : j < items.size) (hit : e items[j] = true) (hno : ∀ m (hm : m < items.size), m < j -> e items[m] = false)
  (h : Q (.int j s.toks) { s with toks := s.toks + 1 }) : wpAny Ω.m A (call (.builtin "tuple.index") [.ref t, x]) Q zc s := by
 refine wpAny_call_entry F.slot_tuple_index ht.typeIs F.entry_tuple_index ?_ (F.args_tuple_index_2 _ _)
 show wpAny _ _ (Builtin.Tuple.tupleItemsOf (.ref t) >>= _) _ _ s
 refine wB (tupleItemsOf_ ht ?_)
 simp only [bind_pure_comp, pure_bind]
 rw [Nat.min_self]
 refine wB ?_
 rw [Std.Legacy.Range.forIn_eq_forIn_range']
 have H : ∀ (k i : Nat), i + k = items.size -> i <= j -> wpAny Ω.m A.in1
   (forIn (List.range' i k 1) ((none, ()) : Option Fin × Unit) fun (i : Nat) __s =>
      match items[i]? with
      | some y => do
       let __do_lift <- eqBool y x
       if __do_lift = true then (fun a => ForInStep.done (some a, ())) <$> retInt (i : Int)
        else pure (ForInStep.yield (none, ()))
      | x => pure (ForInStep.yield (none, ()))) (fun r s' => r = (some (.done (.ret (.int j s.toks))), ()) /\ s' = { s with toks := s.toks + 1 }) zc s := by
  intro k
  induction k with
  | zero => intro i h1 h2; lia
  | succ k ih =>
   intro i h1 h2
   have hi : i < items.size := by lia
   rw [List.range'_succ, List.forIn_cons]
   simp only [Array.getElem?_eq_getElem hi]
   refine wB (wB (he _ (Array.getElem_mem hi) Ω.prog Ω.w _ _ ?_))
   by_cases hij : i = j
   ·obtain rfl := hij.symm
    rw [hit, if_pos rfl]
    refine wpAny_map ?_
    refine wB (wpAny_mkInt (wPu ?_))
    exact wPu ⟨rfl, rfl⟩
   ·rw [hno i hi (by lia), if_neg (by simp)]
    exact wPu (ih (i + 1) (by lia) (by lia))
 rw [(by simp : [:items.size].size = items.size)]
 refine wpAny_mono (H items.size 0 (by simp) (Nat.zero_le _)) (fun r s' hr => ?_) (fun u v q => q)
 obtain ⟨e9, e9⟩ := hr; subst e9; subst e9
 exact wPu (I12 _ rfl h)
theorem zfx (h : Ok Ω Z s) (hu : A.units <= 8000) {vs : Array Value} {xs : List PyData} {x : Value} {d : PyData} {k : Nat} (r : zv Z vs.toList xs) (rx : Rep Z x d)
  (hx : okD d = true) (hxs : PyData.canLayAll0 xs = true) (hk : zjm d xs 0 = some k) :
  ∃ e : Value -> Bool, (∀ y, y ∈ vs -> SeqAt.EqAt A.in1 s y x (e y)) /\ ∃ hj : k < vs.size, e vs[k] = true /\ ∀ m (hm : m < vs.size), m < k -> e vs[m] = false := by
 obtain ⟨as, rs⟩ := zb0 hxs r
 obtain ⟨bs, rd⟩ := zbL (zal hx) rx
 have rs' := ReadsAll.keeps h.sub rs
 have hmap := SeqAt.readsAll_map xs _ _ hxs rs'
 have at_ : ∀ m (hm : m < vs.size) (y : PyData), xs[m]? = some y -> SeqAt.readOf s.heap vs[m] = y := by
  intro m hm y hy
  have h1 : (vs.toList.map (SeqAt.readOf s.heap))[m]? = some y := by rw [hmap]; exact hy
  rw [List.getElem?_map, Array.getElem?_toList, Array.getElem?_eq_getElem hm] at h1
  simpa using h1
 obtain ⟨i, hi, ⟨y, hy, hyd⟩, hno⟩ := zgs d xs 0 k hk
 have hik : i = k := by lia
 refine rwB hik ?_
 have hz := zp r
 have hlt : i < xs.length := by
  refine Or.elim (Nat.lt_or_ge i xs.length) (fun h' => ?_) fun h' => ?_
  ·exact h'
  ·exact za ((List.getElem?_eq_none h').symm.trans hy)
 have hu' : A.units + 1 + min (PyData.depthAll xs) d.depth < cLine := by
  refine Nat.lt_of_le_of_lt (Nat.add_le_add_left (nle (Nat.min_le_right _ _) (ze5 hx)) _) ?_
  show _ < 9900; lia
 refine ⟨fun y => PyData.eqv (SeqAt.readOf s.heap y) d, SeqAt.items_eqAt rs' (Reads.keeps h.sub rd) hxs (zal hx) hu', by omega, ?_, fun m hm hmi => ?_⟩
 ·show PyData.eqv (SeqAt.readOf s.heap vs[i]) d = true
  rw [at_ i (by omega) y hy]; exact hyd
 ·obtain ⟨u, hu1, hu2⟩ := hno m hmi
  show PyData.eqv (SeqAt.readOf s.heap vs[m]) d = false
  rw [at_ m hm u hu1]; exact hu2
theorem zjt (h : Ok Ω Z s) {a : Addr} {f : Int -> Option Value} {kvs : List (PyData × PyData)} {i : Int} {u : Tok} {v2 : Value} {dd : PyData} (hsys : (a == sysModules) = false)
  (hm : ∀ (p : Program) (w : World), Z.MapOf (intKind p w) a f)
  (hf : ∀ k, match zbU kvs k with | some d => ∃ v, f k = some v /\ zek v d | none => f k = none) (r2 : Rep Z v2 dd) :
  wpAny Ω.m A (call (.builtin "dict.get") [.ref a, .int i u, v2]) (Pst Ω Z s ((zbU kvs i).getD dd)) zc s := by
 have hmp : s.heap.MapOf (intKind Ω.prog Ω.w) a f := E32 (hm Ω.prog Ω.w) fun o es ep ho q =>  (I32 o es ep (h.sub _ _ ho) q)
 have hT : s.TypeIs (.ref a) "dict" := E33 hmp fun o es ep ho hx x =>  (I12 o ho hx.1)
 refine call_meetsIn F.slot_dict_get hT F.entry_dict_get (F.args_dict_get_3 _ _ _) (meets_dict_get_default (intKind Ω.prog Ω.w) a (intKind_is Ω.prog Ω.w i u) hsys v2) (I12 f hmp ?_)
 have hk := hf i
 induction hl : zbU kvs i with
 | none => rw [hl] at hk; rw [hk]; exact zt h _ r2
 | some d' =>
  rw [hl] at hk
  obtain ⟨y, hy, fl⟩ := hk
  rw [hy]; exact zt h _ (zjq fl)
theorem zdg {v : List Value} {d : PyData} (r : zv Z v [d]) : ∃ x, v = [x] /\ Rep Z x d := by
 obtain ⟨x, vs, e9, h, r⟩ := zy.mp r; refine rwE e9 ?_
 rw [zaM.mp r]; exact I12 x rfl h
theorem zgu {v : List Value} {d e : PyData} (r : zv Z v [d, e]) : ∃ x y, v = [x, y] /\ Rep Z x d /\ Rep Z y e := by
 obtain ⟨x, vs, e9, h, r⟩ := zy.mp r; refine rwE e9 ?_
 obtain ⟨y, e9, h2⟩ := zdg r; refine rwE e9 ?_; exact I23 x y rfl h h2
def MeW (Ω : En) (A : Around) (Z : Heap) (s : Shared) (id : String) (vs : List Value) (x : PyData) : Prop := wpAny Ω.m A (call (.builtin id) vs) (Pst Ω Z s x) zc s
theorem zix {id : String} {v v1 : Value} {d d1 x : PyData} {f : Str -> Str -> Option PyData} (r : Rep Z v d) (r1 : Rep Z v1 d1) (hd : znb d d1 f = some x) (k : ∀ a t b u, f a b = some x -> MeW Ω A Z s id [.str a t, .str b u] x) : MeW Ω A Z s id [v, v1] x := by
 refine zb hd fun a ha hd => zb hd fun b hb hd => ?_
 refine zjo ha r fun t => ?_
 refine zjo hb r1 fun u => ?_
 exact k a t b u hd
theorem znm (h : Ok Ω Z s) (hu : A.units <= 8000) {d d1 x : PyData} {v v1 : Value} {T id : String} (hi : zkC .index d = some (T, id)) (r : Rep Z v d) (r1 : Rep Z v1 d1) (hd : znc d1 d = some x) : MeW Ω A Z s id [v, v1] x := by
 induction d using PyData.casesOn with
 | tuple xs =>
  cases hi
  refine ifE hd fun hb hd => zQ hd fun k hk e => ?_
  cases e
  refine cps fun G0 hG_0 => ?_
  obtain (⟨a, its, n, rfl, e, r⟩) := zaq.mp r
  obtain ⟨e', he, hj, hit, hno⟩ := zfx (A := A) h hu r r1 hb.2.1 (zal hb.2.2) hk
  refine hG_0 ?_
  exact zgt ⟨_, h.sub _ _ e, rfl, n, rfl⟩ he hj hit hno (zt h _ (zo.mpr ⟨_, rfl⟩))
 | list xs =>
  cases hi
  refine ifE hd fun hb hd => zQ hd fun k hk e => ?_
  cases e
  refine cps fun G0 hG_0 => ?_
  obtain (⟨a, its, n, rfl, e, r⟩) := zah.mp r
  obtain ⟨e', he, hj, hit, hno⟩ := zfx (A := A) h hu r r1 hb.2.1 (zal hb.2.2) hk
  refine hG_0 ?_
  exact call_meets F.slot_list_index (I12 _ (h.sub _ _ e) rfl) F.entry_list_index (F.args_list_index_2 _ _) (SeqAt.list_indexAt a its n none #[] v1 e' k hj (Int.lt_of_lt_of_le (Int.ofNat_lt.mpr hj) (by rw [zp r]; exact Int.le_trans (Int.ofNat_le.mpr hb.1) (by decide))) hit hno) (I03 (h.sub _ _ e) he (zt h _ (zo.mpr ⟨_, rfl⟩)))
 | _ => exact za hi
theorem zb1 {m : ME} {d : PyData} {T id : String} (h : ((zaJ d).map fun u => ("str", zgr m)) = some (T, id)) : id = zgr m := zQ h fun u v e => by cases e; rfl
theorem zrt (h : Ok Ω Z s) {m : ME} {d x : PyData} {v : Value} {T id : String} (hi : zkC m d = some (T, id)) (r : Rep Z v d) (hd : me0 d m = some x) : MeW Ω A Z s id [v] x := by
 induction m with
 | split =>
  rw [zb1 hi]
  refine zb hd fun y hy hd => ifE hd fun hb e => ?_
  refine eqE e ?_
  refine zjo hy r fun t => ?_
  exact wpAny_mono (zhJ h hb) (fun u w q => q.pst) fun u w q => q
 | bitLength =>
  refine zQ hd fun i hi' e => zQ hi fun u w e2 => ?_
  refine rwB e ?_; cases e2
  refine zgj hi' r fun t => ?_
  exact call_meets F.slot_int_bit_length (typeIs_int _ _ _) F.entry_int_bit_length (F.args_int_bit_length_1 _) (AutoIntG2.int_bit_length_int_0 _ t).meets (zt h _ (zo.mpr ⟨_, rfl⟩))
 | _ => exact za hd
theorem zru (h : Ok Ω Z s) (hu : A.units <= 8000) {m : ME} {d d1 x : PyData} {v v1 : Value} {T id : String} (hi : zkC m d = some (T, id)) (r : Rep Z v d) (r1 : Rep Z v1 d1) (hd : me1 d d1 m = some x) : MeW Ω A Z s id [v, v1] x := by
 induction m with
 | join =>
  rw [zb1 hi]
  refine zb hd fun y hy hd => zb hd fun xs hx hd => zb hd fun ss hs hd => ifE hd fun hb e => ?_
  refine eqE e ?_
  refine zjo hy r fun t => ?_
  rw [zen hx] at r1
  exact zpy h r1 hs hb
 | split =>
  rw [zb1 hi]
  exact zix r r1 hd fun a t b u e => ifE e fun hb e => by refine eqE e ?_; exact wpAny_mono (zhI h hb.1 hb.2) (fun w z q => q.pst) fun w z q => q
 | startswith =>
  rw [zb1 hi]
  exact zix r r1 hd fun a t b u e => by refine eqE e ?_; exact call_meets F.slot_str_startswith (typeIs_str _ _ _) F.entry_str_startswith (F.args_str_startswith_2 _ _) (gives_str_startswith _ _ t u).meets (zq h (zx.mpr rfl))
 | endswith =>
  rw [zb1 hi]
  exact zix r r1 hd fun a t b u e => by refine eqE e ?_; exact call_meets F.slot_str_endswith (typeIs_str _ _ _) F.entry_str_endswith (F.args_str_endswith_2 _ _) (gives_str_endswith _ _ t u).meets (zq h (zx.mpr rfl))
 | index => exact znm h hu hi r r1 hd
 | _ => exact za hd
theorem zpz (h : Ok Ω Z s) {d d1 d2 d3 x : PyData} {v v1 v2 v3 : Value} (r : Rep Z v d) (r1 : Rep Z v1 d1) (r2 : Rep Z v2 d2) (r3 : Rep Z v3 d3) (hd : zqL d d1 d2 d3 = some x) : MeW Ω A Z s "str.find" [v, v1, v2, v3] x := by
 refine zb hd fun a ha hd => zb hd fun b hb hd => zb hd fun i hi hd => zb hd fun j hj hd => ?_
 obtain ⟨t, e9⟩ := zd8 ha r; refine rwE e9 ?_
 obtain (⟨u, e9⟩) := zd8 hb r1; refine rwE e9 ?_
 obtain (⟨u2, rfl⟩) := zbh hi r2
 obtain (⟨u3, rfl⟩) := zbh hj r3
 refine eqE hd ?_
 exact call_meets F.slot_str_find (typeIs_str _ _ _) F.entry_str_find (F.args_str_find_4 _ _ _ _) (zjs _ _ _ _ t u u2 u3).meets (zt h _ (zo.mpr ⟨_, rfl⟩))
theorem zts (h : Ok Ω Z s) (hA : A.handled = none) (hu : A.units <= 8000) {m : ME} {d x : PyData} {ds : List PyData} {v : Value} {vs : List Value} {T id : String} (hi : zkC m d = some (T, id))
  (r : Rep Z v d) (rs : zv Z vs ds) (hd : meD m d ds = some x) : MeW Ω A Z s id (v :: vs) x := by
 match ds, rs, hd with
 | [], rs, hd => rw [zaM.mp rs]; exact zrt h hi r hd
 | [a], rs, hd =>
  obtain ⟨y, e9, r1⟩ := zdg rs; refine rwE e9 ?_
  exact zru h hu hi r r1 hd
 | [a, b], rs, hd =>
  obtain ⟨y, z, e9, r1, r2⟩ := zgu rs; refine rwE e9 ?_
  induction m <;> first | exact za hd | skip
  cases d <;> first | exact za hi | skip
  refine zaE hi ?_
  refine zQ hd fun i hi' e => ?_
  refine rwB e ?_
  obtain ⟨u, e9⟩ := zbh hi' r1; refine rwE e9 ?_
  obtain ⟨a, rfl, hsys, f, hm, hf⟩ := zcv.mp r
  exact zjt h hsys hm hf r2
 | [a, b, c], rs, hd =>
  obtain ⟨y, vs', e9, r1, rs⟩ := zy.mp rs; refine rwE e9 ?_
  obtain ⟨y2, y3, e9, r2, r3⟩ := zgu rs; refine rwE e9 ?_
  induction m <;> first | exact za hd | skip
  rw [zb1 (m := .find) hi]
  exact zpz h r r1 r2 r3 hd
 | _ :: _ :: _ :: _ :: _, rs, hd => exact za hd
noncomputable def biF : BI -> Value
 | .len => .builtin "len"
 | .sum => .builtin "sum"
 | .hex => .builtin "hex"
 | .divmod => .builtin "divmod"
 | .isInt => .builtin "isinstance"
noncomputable def biA : BI -> List Value -> List Value
 | .isInt, vs => vs ++ [.type "int"]
 | _, vs => vs
theorem zf5 {vs : List Value} {ds : List PyData} {d : PyData} (h : zm9 ds = some d) (r : zv Z vs ds) : ∃ v, vs = [v] /\ Rep Z v d := by
 match ds, h with
 | [_], h => refine eqE h ?_; exact zdg r
 | [], h => exact za h
 | _ :: _ :: _, h => exact za h
theorem zkD {ds : List PyData} {p : PyData × PyData} (h : zna ds = some p) : ds = [p.1, p.2] := by
 induction ds using List.casesOn with
 | nil => exact za h
 | cons a l =>
  induction l using List.casesOn with
  | nil => exact za h
  | cons b l =>
   induction l using List.casesOn with
   | nil => exact eqE h rfl
   | cons _ _ => exact za h
theorem zpA {vs : List Value} {ds : List PyData} {p : PyData × PyData} (h : zna ds = some p) (r : zv Z vs ds) : ∃ v v2, vs = [v, v2] /\ Rep Z v p.1 /\ Rep Z v2 p.2 := by
 rw [zkD h] at r
 exact zgu r
theorem zrv (h : Ok Ω Z s) (hA : A.handled = none) {xs : List PyData} {v : Value} {r : Int} (r1 : Rep Z v (.list xs)) (hr : zcM xs 0 = some r) : wpAny Ω.m A (call (.builtin "sum") [v]) (Pst Ω Z s (.int r)) zc s := by
 refine cps fun G0 hG_0 => ?_
 obtain ⟨is, rfl, rfl⟩ := zgp _ _ _ hr
 obtain (⟨a, its, n, rfl, e, r1⟩) := zah.mp r1
 obtain ⟨xs, hx, e9⟩ := zdY r1; subst e9
 refine hG_0 ?_
 have hits : its = intItems xs.toArray := Array.toList_inj.mp (by rw [hx]; simp [intItems])
 subst hits
 refine sum_intListG (xs := xs.toArray) hA ⟨_, h.sub _ _ e, rfl, n, rfl⟩ fun h' tk t' k => ?_
 have hp := zgq (xs.map (·.1)) xs.length (by rw [List.length_map]; exact Nat.le_refl _)
 rw [(funext zkB), List.size_toArray, hp, List.take_of_length_le (by rw [List.length_map]; exact Nat.le_refl _), Int.zero_add]
 exact znj h k (zo.mpr ⟨t', rfl⟩)
theorem zqP (h : Ok Ω Z s) (hA : A.handled = none) {b : BI} {ds : List PyData} {x : PyData} {vs : List Value} (rs : zv Z vs ds) (hd : biD b ds = some x) :
  wpAny Ω.m A (call (biF b) (biA b vs)) (Pst Ω Z s x) zc s := by
 induction b with
 | len =>
  refine zb hd fun d h1 hd => ?_
  obtain ⟨v, e9, r⟩ := zf5 h1 rs; refine rwE e9 ?_
  exact znk h (.inl r) hd
 | sum =>
  refine zb hd fun d h1 hd => zb hd fun xs h2 hd => ifE hd fun hb hd => zQ hd fun r hr e => ?_
  obtain ⟨v, e9, r1⟩ := zf5 h1 rs; refine rwE e9 ?_
  rw [zen h2] at r1
  refine rwB e ?_
  exact zrv h hA r1 hr
 | hex =>
  refine zb hd fun d h1 hd => zb hd fun i h2 hd => ifE hd fun hb e => ?_
  obtain ⟨v, e9, r1⟩ := zf5 h1 rs; refine rwE e9 ?_
  refine zgj h2 r1 fun t => ?_
  refine eqE e ?_
  exact PySem.P.hex_of_int (zt h _ (zU.mpr ⟨_, rfl⟩)) (zcN hb)
 | divmod =>
  refine zb hd fun p h1 hd => zb hd fun i h2 hd => zb hd fun j h3 hd => ifE hd fun hb e => ?_
  obtain ⟨v, v2, e9, r1, r2⟩ := zpA h1 rs; refine rwE e9 ?_
  obtain ⟨t, e9⟩ := zbh h2 r1; refine rwE e9 ?_
  obtain ⟨u, e9⟩ := zbh h3 r2; refine rwE e9 ?_
  refine eqE e ?_
  exact divmod_int hb.1 (zbq (vs := #[.int _ _, .int _ _]) h (.cons (zo.mpr ⟨_, rfl⟩) (.cons (zo.mpr ⟨_, rfl⟩) .nil))) (.inl hb.2)
 | isInt =>
  refine zb hd fun d h1 hd => ?_
  obtain ⟨v, e9, r1⟩ := zf5 h1 rs; refine rwE e9 ?_
  cases d <;> first | exact za hd | skip
  ·refine eqE hd ?_
   refine zc1 r1 fun t => ?_
   exact IsiPair.int_int (zq h (zx.mpr rfl))
  ·refine eqE hd ?_
   refine cps fun G0 hG_0 => ?_
   obtain ⟨a, its, n, e9, e, r1⟩ := zah.mp r1; obtain rfl := e9.symm
   refine hG_0 ?_
   exact IsiPair.list_int (h.sub _ _ e) rfl (zt h _ (zx.mpr rfl))
end
structure TC where
 nm : List (Str × NameKind × Nat)
 fns : List (Str × Nat)
 cst : List (Str × PyData)
 nx : Nat
 mu : List Nat
 gen : Str
 lo : Nat
noncomputable def zC {α β : Type} (f : α -> Option β) : List α -> Option (List β)
 | [] => some []
 | x :: r => (f x).bind fun y => (zC f r).map (y :: ·)
theorem zbj {β : Type} {k : Str} {v : β} : ∀ {l : List (Str × β)}, l.lookup k = some v -> (k, v) ∈ l
 | [], h => za h
 | (x, y) :: r, h => by
  have h : (match k == x with | true => some y | false => r.lookup k) = some v := h
  induction e : k == x with
  | true => rw [e] at h; refine eqE h ?_; rw [eq_of_beq e]; exact List.mem_cons_self ..
  | false => rw [e] at h; exact List.mem_cons_of_mem _ (zbj h)
noncomputable def zln : List (Str × BI × Nat) := [("len", .len, 1), ("sum", .sum, 1), ("hex", .hex, 1), ("divmod", .divmod, 2)]
def zpB (f : Str) (args : List Expr) : Option BI := (zln.lookup f).bind fun p => if args.length = p.2 then some p.1 else none
noncomputable def zlo : List (Str × ME) := [("join", .join), ("split", .split), ("startswith", .startswith), ("endswith", .endswith), ("find", .find), ("index", .index), ("get", .get), ("bit_length", .bitLength)]
def znn (m : Str) : Option ME := zlo.lookup m
noncomputable def one {α : Type} : List α -> Option α
 | [x] => some x
 | _ => none
theorem zdh {α : Type} {l : List α} {x : α} (h : one l = some x) : l = [x] := by
 induction l using List.casesOn with
 | nil => exact za h
 | cons a r =>
  induction r using List.casesOn with
  | nil => exact eqE h rfl
  | cons _ _ => exact za h
theorem zcz {b : Bool} (h : ¬ b = true) : b = false := Bool.not_eq_true _ ▸ h
noncomputable def zbN : Expr -> Bool
 | .Call _ [] _ _ => false
 | _ => true
noncomputable def zdi (c : TC) (x : Str) : Option Nat := if x == ("__classdict__" : Str) then none else match c.nm.lookup x with
 | some (.local, i) => some i
 | some (.cell, i) => some i
 | some (.free, i) => some i
 | _ => none
noncomputable def zN (c : TC) (x : Str) : Option Nat := if x == ("__debug__" : Str) then none else match c.nm.lookup x with
 | some (.local, i) => if c.lo <= i then some i else none
 | some (.cell, i) => if c.lo <= i then some i else none
 | _ => none
noncomputable def zbO (c : TC) : List (Str × NameKind) -> Nat -> Option (List (Str × NameKind × Nat) × Nat)
 | [], k => some ([], k)
 | (x, .local) :: r, k => (zbO c r (k + 1)).map fun p => ((x, .local, k) :: p.1, p.2)
 | (x, .cell) :: r, k => (zbO c r (k + 1)).map fun p => ((x, .cell, k) :: p.1, p.2)
 | (x, .free) :: r, k => match c.nm.lookup x with
  | some (.cell, i) => (zbO c r k).map fun p => ((x, .cell, i) :: p.1, p.2)
  | some (.free, i) => (zbO c r k).map fun p => ((x, .free, i) :: p.1, p.2)
  | _ => none
 | (x, .globalImplicit) :: r, k => (zbO c r k).map fun p => ((x, .globalImplicit, 0) :: p.1, p.2)
 | _ :: _, _ => none
noncomputable def zaA : List Str -> Bool
 | [] => true
 | x :: r => !r.contains x && zaA r
noncomputable def ztt (c : TC) (l : List (Str × NameKind)) : List (Str × NameKind) := l.map fun q => if q.2 == .free && (c.nm.lookup q.1).map (·.1) == some .cell then (q.1, .cell) else q
noncomputable def zqQ (c : TC) (l : List (Str × NameKind)) (k k' : Nat) (q : Str × NameKind × Nat) : Bool :=
 (q.2.1 == .local && decide (k <= q.2.2) && decide (q.2.2 < k') && l.contains (q.1, .local)) || (q.2.1 == .cell && decide (k <= q.2.2) && decide (q.2.2 < k') && l.contains (q.1, .cell)) ||
 (l.contains (q.1, .free) && c.nm.lookup q.1 == some q.2 && (q.2.1 == .cell || q.2.1 == .free)) || (q.2.1 == .globalImplicit && q.2.2 == 0)
noncomputable def zrw (l : List (Str × NameKind)) (k : Nat) (q : Str × NameKind × Nat) : Bool := decide (k <= q.2.2) && !l.contains (q.1, .free) && !(q.2.1 == .globalImplicit)
noncomputable def zno (l : List (Str × NameKind)) (nm : List (Str × NameKind × Nat)) : Bool := (nm.all fun q => l.lookup q.1 == (nm.lookup q.1).map (·.1)) && l.all fun q => (nm.map (·.1)).contains q.1
def znp (c : TC) (l : List (Str × NameKind)) (k : Nat) (nm : List (Str × NameKind × Nat)) (k' : Nat) : Bool :=
 decide (k <= k') && nm.all (zqQ c l k k') && zno (ztt c l) nm && (nm.all fun p => nm.all fun q => !(zrw l k p && zrw l k q && p.2.2 == q.2.2) || p.1 == q.1) &&
 l.all fun q => !(q.2 == .free) || (match c.nm.lookup q.1 with | some r => r.1 == .cell || r.1 == .free | none => false)
def zba (c : TC) (sc : Scope) : Option TC :=
 if sc.kind == .function && zaA (sc.names.map (·.1)) then
  (zbO c sc.names c.nx).bind fun p => if znp c sc.names c.nx p.1 p.2 then some { c with nm := p.1, nx := p.2, mu := [], lo := c.nx } else none
 else none
def trT (c : TC) : Nat -> Expr -> Option Tgt
 | 0, _ => none
 | n + 1, .Name x _ => (zN c x).bind fun i => if c.mu.contains i then none else some (.v i)
 | n + 1, .Tuple es _ _ => (zC (trT c n) es).map .t
 | _ + 1, _ => none
noncomputable def zh (c : TC) (f : Str) : Bool := match c.nm.lookup f with
 | some (.globalImplicit, _) => true
 | _ => false
noncomputable def zaN : List Nat -> Bool
 | [] => true
 | x :: r => !r.contains x && zaN r
noncomputable def zbC : PE -> Tgt -> Bool
 | .enm _, .v _ => false
 | .zip _ _, .v _ => false
 | _, _ => true
noncomputable def zcQ : Expr -> Bool
 | .DictComp .. => true
 | _ => false
noncomputable def zcc : Expr -> Bool
 | .Set .. => true
 | _ => false
noncomputable def zcp : Expr -> Option Str
 | .Name x _ => some x
 | _ => none
theorem zbP {e : PySem.Expr} {x : Str} (h : zcp e = some x) : ∃ p, e = .Name x p := by
 cases e <;> first | exact za h | skip
 refine eqE h ?_; exact ⟨_, rfl⟩
def zgv : Expr -> Option (Str × List Expr)
 | .Call f args kws _ => if kws.isEmpty then (zcp f).map fun x => (x, args) else none
 | _ => none
theorem zju {e : PySem.Expr} {r : Str × List Expr} (h : zgv e = some r) : ∃ p q, e = .Call (.Name r.1 p) r.2 [] q := by
 cases e <;> first | exact za h | skip
 refine ifE h fun hk h => zQ h fun x hx e => ?_
 obtain ⟨p, e9⟩ := zbP hx; refine rwE e9 ?_
 cases List.isEmpty_iff.mp hk; refine rwB e ?_; exact I21 _ _ rfl
noncomputable def ztu (T : TC -> PySem.Expr -> Option PE) (c : TC) : List PySem.Expr -> Option PE
 | [a, b] => (T c a).bind fun x => (T c b).map fun y => .zip x y
 | _ => none
def znq (T : TC -> PySem.Expr -> Option PE) (c : TC) (f : Str) (args : List PySem.Expr) : Option (Option PE) :=
 if f == c.gen then some ((one args).bind fun a => (T c a).map .gen)
 else if f == "range" then some ((zC (T c) args).map .rng)
 else if f == "enumerate" then some ((one args).bind fun a => (T c a).map .enm)
 else if f == "zip" then some (ztu T c args)
 else if f == "reversed" then some ((one args).bind fun a => (T c a).map .rev)
 else none
def zea (T : TC -> PySem.Expr -> Option PE) (c : TC) (e : PySem.Expr) : Option PE :=
 match (zgv e).bind fun p => if zh c p.1 && (c.fns.lookup p.1).isNone then znq T c p.1 p.2 else none with
 | some r => r
 | none => if zcc e then none else T c e
inductive zjv (T : TC -> PySem.Expr -> Option PE) (c : TC) : PySem.Expr -> PE -> Prop
 | plain {e pe} (hs : zcc e = false) (h : T c e = some pe) : zjv T c e pe
 | gen {p a q pa} (hg : zh c c.gen = true) (ha : T c a = some pa) : zjv T c (.Call (.Name c.gen p) [a] [] q) (.gen pa)
 | rng {p args q pes} (hg : zh c "range" = true) (hp : zC (T c) args = some pes) : zjv T c (.Call (.Name "range" p) args [] q) (.rng pes)
 | enm {p a q pa} (hg : zh c "enumerate" = true) (ha : T c a = some pa) : zjv T c (.Call (.Name "enumerate" p) [a] [] q) (.enm pa)
 | zip {p a b q pa pb} (hg : zh c "zip" = true) (ha : T c a = some pa) (hb : T c b = some pb) : zjv T c (.Call (.Name "zip" p) [a, b] [] q) (.zip pa pb)
 | rev {p a q pa} (hg : zh c "reversed" = true) (ha : T c a = some pa) : zjv T c (.Call (.Name "reversed" p) [a] [] q) (.rev pa)
section
variable {T : TC -> PySem.Expr -> Option PE} {c : TC} {pe : PE}
theorem zkE {α : Type} {b : Bool} {x y r : α} {G : Prop} (h : (if b then x else y) = r) (k1 : b = true -> x = r -> G) (k2 : y = r -> G) : G := by
 induction b with
 | true => exact k1 rfl h
 | false => exact k2 h
theorem zmb {f : Str} {args : List PySem.Expr} {p q : Pos} {r : Option PE} (hg : zh c f = true) (h : znq T c f args = some r) (hr : r = some pe) : zjv T c (.Call (.Name f p) args [] q) pe := by
 refine zkE h (fun hf h => ?_) fun h => zkE h (fun hf h => ?_) fun h => zkE h (fun hf h => ?_) fun h => zkE h (fun hf h => ?_) fun h => zkE h (fun hf h => ?_) fun h => za h
 all_goals (rw [<- Option.some.inj h] at hr; clear h; rw [beq_iff_eq] at hf; subst hf)
 ·exact zb hr fun a h1 h => zQ h fun pa ha e => by rw [zdh h1, <- e]; exact .gen hg ha
 ·exact zQ hr fun pes ha e => by rw [<- e]; exact .rng hg ha
 ·exact zb hr fun a h1 h => zQ h fun pa ha e => by rw [zdh h1, <- e]; exact .enm hg ha
 ·induction args using List.casesOn with
  | nil => exact za hr
  | cons a l =>
   induction l using List.casesOn with
   | nil => exact za hr
   | cons b l =>
    induction l using List.casesOn with
    | nil => exact zb hr fun pa ha h => zQ h fun pb hb e => by rw [<- e]; exact .zip hg ha hb
    | cons _ _ => exact za hr
 ·exact zb hr fun a h1 h => zQ h fun pa ha e => by rw [zdh h1, <- e]; exact .rev hg ha
theorem zjw {e : PySem.Expr} (h : zea T c e = some pe) : zjv T c e pe := by
 unfold zea at h
 induction hk : (zgv e).bind fun p => if zh c p.1 && (c.fns.lookup p.1).isNone then znq T c p.1 p.2 else none with
 | none => have h := hk ▸ h; exact ifN h fun hs h => .plain (zcz hs) h
 | some r =>
  rw [hk] at h
  refine zb hk fun a ha hk => ifE hk fun hc hk2 => zaf hc fun hg _ => ?_
  obtain ⟨p, q, e9⟩ := zju ha; refine rwE e9 ?_
  exact zmb hg hk2 h
end
noncomputable def trO (T : TC -> PySem.Expr -> Option PE) (c : TC) : Option PySem.Expr -> Option (Option PE)
 | none => some none
 | some e => (T c e).map some
def trG (T : TC -> PySem.Expr -> Option PE) (c : TC) (g : Comprehension) : Option Gn :=
 if g.is_async == 0 then (trT c 9 g.target).bind fun t => (zea T c g.iter).bind fun it => (zC (T c) g.ifs).bind fun ifs => if zbC it t then some (Gn.mk t it ifs) else none else none
noncomputable def zlp : Const -> Option PE
 | .int i => some (.c (.int i))
 | .str x => some (.c (.str x))
 | .bool b => some (.c (.bool b))
 | .none => some (.c .none)
 | _ => none
def znr (c : TC) (x : Str) : Option PE := if x == "__debug__" then none else match zdi c x with
 | some i => some (.v i)
 | none => if zh c x then (c.cst.lookup x).map .c else none
noncomputable def ztv (a : PE) : UnaryOp -> Option PE
 | .Not => some (.not a)
 | .USub => some (.neg a)
 | .Invert => some (.inv a)
 | _ => none
noncomputable def zrx : BoolOp -> List PE -> PE
 | .And, es => .and es
 | .Or, es => .or es
def zqR (T : TC -> PySem.Expr -> Option PE) (c : TC) (a : PE) : PySem.Expr -> Option PE
 | .Slice lo hi st _ => (trO T c lo).bind fun lo => (trO T c hi).bind fun hi => (trO T c st).map fun st => .sl a lo hi st
 | i => (T c i).map fun i => .idx a i
def zlq (T : TC -> PySem.Expr -> Option PE) (c : TC) : List PySem.Expr -> Option PE
 | [a, t] => (zcp t).bind fun t => if t == "int" && zh c t then (T c a).map fun a => .bi .isInt [a] else none
 | _ => none
def zns (T : TC -> PySem.Expr -> Option PE) (c : TC) (f : Str) (args : List PySem.Expr) : Option PE :=
 if f == "__debug__" || !zh c f then none else match c.fns.lookup f with
 | some k => if args.length <= 30 then (zC (T c) args).map (.call k) else none
 | none => if f == "isinstance" then zlq T c args else (zpB f args).bind fun b => (zC (T c) args).map (.bi b)
def zry (T : TC -> PySem.Expr -> Option PE) (c : TC) (o : PySem.Expr) (m : Str) (apos pos : Pos) (args : List PySem.Expr) : Option PE :=
 if zbN o && (apos.endLine == pos.line) && decide (args.length < 29) then (znn m).bind fun k => (T c o).bind fun a => (zC (T c) args).map (.me k a) else none
def zlr (T : TC -> PySem.Expr -> Option PE) (c : TC) (args : List PySem.Expr) (pos : Pos) : PySem.Expr -> Option PE
 | .Name f _ => zns T c f args
 | .Attribute o m apos => zry T c o m apos pos args
 | _ => none
def ztw (T : TC -> PySem.Expr -> Option PE) (c : TC) (elt : PySem.Expr) (g : Comprehension) (gs : List Comprehension) (sc : Scope) : Option PE :=
 if g.is_async == 0 then (zba c sc).bind fun c' => (trT c' 9 g.target).bind fun t => (zea T c g.iter).bind fun it => (zC (T c') g.ifs).bind fun ifs =>
   (zC (trG T c') gs).bind fun gs => (T c' elt).bind fun elt => if zbC it t && zaN ((Gn.mk t it ifs :: gs).flatMap zT) then some (.comp elt (.mk t it ifs :: gs)) else none else none
def ztx (T : TC -> PySem.Expr -> Option PE) (c : TC) (k v : PySem.Expr) (g : Comprehension) (sc : Scope) : Option PE :=
 if g.is_async == 0 && g.ifs.isEmpty then (zba c sc).bind fun c' => (trT c' 9 g.target).bind fun t => (zea T c g.iter).bind fun it => (T c' k).bind fun k => (T c' v).bind fun v => if zbC it t && zaN (zO t) then some (.dcomp k v (.mk t it [])) else none else none
def znt (T : TC -> PySem.Expr -> Option PE) (c : TC) : PySem.Expr -> Option PE
 | .Constant k _ _ => zlp k
 | .Name x _ => znr c x
 | .BinOp l op r _ => (T c l).bind fun a => (T c r).map fun b => .bin op a b
 | .UnaryOp op x _ => (T c x).bind fun a => ztv a op
 | .BoolOp op es _ => (zC (T c) es).map (zrx op)
 | .Compare l ops rs _ => (one ops).bind fun op => (one rs).bind fun r => if zcc r then none else (T c l).bind fun a => (T c r).map fun b => .cmp op a b
 | .IfExp t a b _ => (T c t).bind fun t => (T c a).bind fun a => (T c b).map fun b => .ite t a b
 | .List es _ => if es.length <= 1000 then (zC (T c) es).map .lst else none
 | .Tuple es _ _ => if es.length <= 1000 then (zC (T c) es).map .tup else none
 | .Subscript v i _ => (T c v).bind fun a => zqR T c a i
 | .Call f args kws pos => if kws.isEmpty then zlr T c args pos f else none
 | .ListComp elt gs sc _ => match gs with
  | g :: gs => ztw T c elt g gs sc
  | [] => none
 | .DictComp k v gs sc _ => (one gs).bind fun g => ztx T c k v g sc
 | _ => none
structure zrz (T : TC -> PySem.Expr -> Option PE) (c : TC) (elt target iter : PySem.Expr) (ifs : List PySem.Expr) (gs : List Comprehension) (sc : Scope) (c' : TC) (t : Tgt) (pit : PE) (pifs : List PE) (pgs : List Gn) (pelt : PE) : Prop where
 ctx : zba c sc = some c'
 tgt : trT c' 9 target = some t
 it : zea T c iter = some pit
 ifs : zC (T c') ifs = some pifs
 gs : zC (trG T c') gs = some pgs
 elt : T c' elt = some pelt
 po : zbC pit t = true
 nd : zaN ((Gn.mk t pit pifs :: pgs).flatMap zT) = true
structure zpC (T : TC -> PySem.Expr -> Option PE) (c : TC) (k v target iter : PySem.Expr) (sc : Scope) (c' : TC) (t : Tgt) (pit pk pv : PE) : Prop where
 ctx : zba c sc = some c'
 tgt : trT c' 9 target = some t
 it : zea T c iter = some pit
 k : T c' k = some pk
 v : T c' v = some pv
 po : zbC pit t = true
 nd : zaN (zO t) = true
inductive zE (T : TC -> PySem.Expr -> Option PE) (c : TC) : PySem.Expr -> PE -> Prop
 | int (i k p) : zE T c (.Constant (.int i) k p) (.c (.int i))
 | str (x k p) : zE T c (.Constant (.str x) k p) (.c (.str x))
 | bool (b k p) : zE T c (.Constant (.bool b) k p) (.c (.bool b))
 | none (k p) : zE T c (.Constant .none k p) (.c .none)
 | name {x p i} (hd : (x == ("__debug__" : Str)) = false) (h : zdi c x = some i) : zE T c (.Name x p) (.v i)
 | glob {x p d} (hd : (x == ("__debug__" : Str)) = false) (h : zdi c x = .none) (hg : zh c x = true) (hc : c.cst.lookup x = some d) : zE T c (.Name x p) (.c d)
 | bin {l op r p a b} (ha : T c l = some a) (hb : T c r = some b) : zE T c (.BinOp l op r p) (.bin op a b)
 | not {x p a} (ha : T c x = some a) : zE T c (.UnaryOp .Not x p) (.not a)
 | neg {x p a} (ha : T c x = some a) : zE T c (.UnaryOp .USub x p) (.neg a)
 | inv {x p a} (ha : T c x = some a) : zE T c (.UnaryOp .Invert x p) (.inv a)
 | and {es p pes} (h : zC (T c) es = some pes) : zE T c (.BoolOp .And es p) (.and pes)
 | or {es p pes} (h : zC (T c) es = some pes) : zE T c (.BoolOp .Or es p) (.or pes)
 | cmp {l op r p a b} (hs : zcc r = false) (ha : T c l = some a) (hb : T c r = some b) : zE T c (.Compare l [op] [r] p) (.cmp op a b)
 | ite {t a b p pt pa pb} (ht : T c t = some pt) (ha : T c a = some pa) (hb : T c b = some pb) : zE T c (.IfExp t a b p) (.ite pt pa pb)
 | lst {es p pes} (hl : es.length <= 1000) (h : zC (T c) es = some pes) : zE T c (.List es p) (.lst pes)
 | tup {es k p pes} (hl : es.length <= 1000) (h : zC (T c) es = some pes) : zE T c (.Tuple es k p) (.tup pes)
 | sl {v lo hi st p q a plo phi pst} (ha : T c v = some a) (h1 : trO T c lo = some plo) (h2 : trO T c hi = some phi) (h3 : trO T c st = some pst) : zE T c (.Subscript v (.Slice lo hi st p) q) (.sl a plo phi pst)
 | idx {v i p a b} (ha : T c v = some a) (hb : T c i = some b) : zE T c (.Subscript v i p) (.idx a b)
 | callF {f p args q k pes} (hd : (f == ("__debug__" : Str)) = false) (hg : zh c f = true) (hk : c.fns.lookup f = some k) (hp : zC (T c) args = some pes) : zE T c (.Call (.Name f p) args [] q) (.call k pes)
 | isint {p a q pos pa} (hg : zh c "isinstance" = true) (hi : zh c "int" = true) (ha : T c a = some pa) : zE T c (.Call (.Name "isinstance" p) [a, .Name "int" q] [] pos) (.bi .isInt [pa])
 | bi {f p args q b pes} (hd : (f == ("__debug__" : Str)) = false) (hg : zh c f = true) (hb : zpB f args = some b) (hp : zC (T c) args = some pes) : zE T c (.Call (.Name f p) args [] q) (.bi b pes)
 | me {o m apos args pos k a pes} (h1 : zbN o = true) (h2 : (apos.endLine == pos.line) = true) (h3 : args.length < 29) (hk : znn m = some k) (ha : T c o = some a) (hp : zC (T c) args = some pes) : zE T c (.Call (.Attribute o m apos) args [] pos) (.me k a pes)
 | comp {elt target iter ifs gs sc p c' t pit pifs pgs pelt} (h : zrz T c elt target iter ifs gs sc c' t pit pifs pgs pelt) : zE T c (.ListComp elt (⟨target, iter, ifs, 0⟩ :: gs) sc p) (.comp pelt (.mk t pit pifs :: pgs))
 | dcomp {k v target iter sc p c' t pit pk pv} (h : zpC T c k v target iter sc c' t pit pk pv) : zE T c (.DictComp k v [⟨target, iter, [], 0⟩] sc p) (.dcomp pk pv (.mk t pit []))
section
variable {T : TC -> PySem.Expr -> Option PE} {c : TC} {pe : PE}
theorem zjx {k : Const} {k' p} (h : zlp k = some pe) : zE T c (.Constant k k' p) pe := by
 induction k <;> first | exact za h | (refine eqE h ?_; constructor)
theorem zkF {x : Str} {p : Pos} (h : znr c x = some pe) : zE T c (.Name x p) pe :=
 ifN h fun hd h => by
  induction e : zdi c x with
  | some i => rw [e] at h; refine eqE h ?_; exact .name (zcz hd) e
  | none => rw [e] at h; exact ifE h fun hg h => zQ h fun d hc h => by refine rwB h ?_; exact .glob (zcz hd) e hg hc
theorem znu {op : UnaryOp} {x : PySem.Expr} {a : PE} {p : Pos} (ha : T c x = some a) (h : ztv a op = some pe) : zE T c (.UnaryOp op x p) pe := by
 induction op <;> first | exact za h | (refine eqE h ?_; constructor; exact ha)
theorem zmc {v i : PySem.Expr} {a : PE} {p : Pos} (ha : T c v = some a) (h : zqR T c a i = some pe) : zE T c (.Subscript v i p) pe := by
 have go : ∀ {i : PySem.Expr}, (T c i).map (fun i => PE.idx a i) = some pe -> zE T c (.Subscript v i p) pe := fun h => zQ h fun b hb h => by refine rwB h ?_; exact .idx ha hb
 cases i with
 | Slice lo hi st q => exact zb h fun lo h1 h => zb h fun hi h2 h => zQ h fun st h3 h => by refine rwB h ?_; exact .sl ha h1 h2 h3
 | _ => exact go h
theorem zjy {p q : Pos} {args : List PySem.Expr} (hg : zh c "isinstance" = true) (h : zlq T c args = some pe) : zE T c (.Call (.Name "isinstance" p) args [] q) pe := by
 match args, h with
 | [a, t], h =>
  refine zb h fun t ht h => ifE h fun hc h => zaf hc fun h1 h2 => zQ h fun b hb e => ?_
  obtain ⟨q, e9⟩ := zbP ht; refine rwE e9 ?_
  rw [beq_iff_eq] at h1
  refine rwB e ?_; cases h1; exact .isint hg h2 hb
 | [], h => exact za h
 | [_], h => exact za h
 | _ :: _ :: _ :: _, h => exact za h
theorem zkG {f : Str} {p q : Pos} {args : List PySem.Expr} (h : zns T c f args = some pe) : zE T c (.Call (.Name f p) args [] q) pe := by
 refine ifN h fun hc h => ?_
 rw [Bool.not_eq_true, Bool.or_eq_false_iff, Bool.not_eq_false'] at hc
 induction hk : c.fns.lookup f with
 | some k => rw [hk] at h; exact ifE h fun _ h => zQ h fun pes hp h => by refine rwB h ?_; exact .callF hc.1 hc.2 hk hp
 | none =>
  rw [hk] at h
  by_cases hf : f = "isinstance"
  ·subst hf; exact zjy hc.2 h
  ·rw [if_neg (by rw [beq_iff_eq]; exact hf)] at h
   exact zb h fun b hb h => zQ h fun pes hp h => by refine rwB h ?_; exact .bi hc.1 hc.2 hb hp
theorem zjz {f : PySem.Expr} {args : List PySem.Expr} {pos : Pos} (h : zlr T c args pos f = some pe) : zE T c (.Call f args [] pos) pe := by
 induction f using PySem.Expr.casesOn with
 | Name f p => exact zkG h
 | Attribute o m apos => exact ifE h fun hc h => zaf hc fun h1 h3 => zaf h1 fun h1 h2 => zb h fun k hk h => zb h fun a ha h => zQ h fun pes hp h => by refine rwB h ?_; exact .me h1 h2 (of_decide_eq_true h3) hk ha hp
 | _ => exact za h
theorem znv {elt : PySem.Expr} {g : Comprehension} {gs : List Comprehension} {sc : Scope} {p : Pos} (h : ztw T c elt g gs sc = some pe) : zE T c (.ListComp elt (g :: gs) sc p) pe :=
 ifE h fun ha h => zb h fun c' h1 h => zb h fun t h2 h => zb h fun pit h3 h => zb h fun pifs h4 h => zb h fun pgs h5 h => zb h fun pelt h6 h => ifE h fun hc h => zaf hc fun h7 h8 => by
  refine eqE h ?_
  obtain ⟨target, iter, ifs, a⟩ := g
  rw [beq_iff_eq] at ha
  cases ha
  exact .comp ⟨h1, h2, h3, h4, h5, h6, h7, h8⟩
theorem znw {k v : PySem.Expr} {g : Comprehension} {sc : Scope} {p : Pos} (h : ztx T c k v g sc = some pe) : zE T c (.DictComp k v [g] sc p) pe :=
 ifE h fun ha h => zaf ha fun ha hi => zb h fun c' h1 h => zb h fun t h2 h => zb h fun pit h3 h => zb h fun pk h4 h => zb h fun pv h5 h => ifE h fun hc h => zaf hc fun h7 h8 => by
  refine eqE h ?_
  obtain ⟨target, iter, ifs, a⟩ := g
  rw [beq_iff_eq] at ha
  cases ha
  cases List.isEmpty_iff.mp hi
  exact .dcomp ⟨h1, h2, h3, h4, h5, h7, h8⟩
theorem zbk {e : PySem.Expr} (h : znt T c e = some pe) : zE T c e pe := by
 induction e using PySem.Expr.casesOn with
 | Constant k k' p => exact zjx h
 | Name x p => exact zkF h
 | BinOp l op r p => exact zb h fun a ha h => zQ h fun b hb h => by refine rwB h ?_; exact .bin ha hb
 | UnaryOp op x p => exact zb h fun a ha h => znu ha h
 | BoolOp op es p => exact zQ h fun pes hp h => by refine rwB h ?_; induction op <;> constructor <;> exact hp
 | Compare l ops rs p =>
  refine zb h fun op h1 h => zb h fun r h2 h => ifN h fun hs h => zb h fun a ha h => zQ h fun b hb h => ?_
  refine rwB h ?_; rw [zdh h1, zdh h2]; exact .cmp (zcz hs) ha hb
 | IfExp t a b p => exact zb h fun pt ht h => zb h fun pa ha h => zQ h fun pb hb h => by refine rwB h ?_; exact .ite ht ha hb
 | List es p => exact ifE h fun hl h => zQ h fun pes hp h => by refine rwB h ?_; exact .lst hl hp
 | Tuple es k p => exact ifE h fun hl h => zQ h fun pes hp h => by refine rwB h ?_; exact .tup hl hp
 | Subscript v i p => exact zb h fun a ha h => zmc ha h
 | Call f args kws pos => exact ifE h fun hk h => by cases List.isEmpty_iff.mp hk; exact zjz h
 | ListComp elt gs sc p =>
  induction gs using List.casesOn with
  | nil => exact za h
  | cons g gs => exact znv h
 | DictComp k v gs sc p => exact zb h fun g hg h => by rw [zdh hg]; exact znw h
 | _ => exact za h
end
def tr : Nat -> TC -> PySem.Expr -> Option PE
 | 0 => fun _ _ => none
 | n + 1 => znt (tr n)
mutual
noncomputable def zaO : PE -> List Nat
 | .c _ => []
 | .v i => [i]
 | .bin _ a b => zaO a ++ zaO b
 | .neg a | .inv a | .not a => zaO a
 | .cmp _ (.v _) (.lst []) => []
 | .cmp _ a b => zaO a ++ zaO b
 | .and es | .or es | .lst es | .tup es | .call _ es => ze7 es
 | .ite t a b => zaO t ++ zaO a ++ zaO b
 | .idx (.v _) i => zaO i
 | .idx a i => zaO a ++ zaO i
 | .sl a lo hi st => zaO a ++ zkH lo ++ zkH hi ++ zkH st
 | .bi .len [.v _] => []
 | .bi _ es => ze7 es
 | .me _ a es => zaO a ++ ze7 es
 | .comp elt gs => zaO elt ++ znx gs
 | .dcomp k v g => zaO k ++ zaO v ++ zqS g
 | .rng es => ze7 es
 | .enm e | .rev e | .gen e => zaO e
 | .zip a b => zaO a ++ zaO b
noncomputable def ze7 : List PE -> List Nat
 | [] => []
 | e :: r => zaO e ++ ze7 r
noncomputable def zkH : Option PE -> List Nat
 | none => []
 | some e => zaO e
noncomputable def znx : List Gn -> List Nat
 | [] => []
 | g :: r => zqS g ++ znx r
noncomputable def zqS : Gn -> List Nat
 | .mk _ it ifs => zaO it ++ ze7 ifs
end
def ze8 (c : TC) (e : PE) : List Nat := (zaO e).filter c.mu.contains
noncomputable def zpD : ME -> Bool
 | .split => true
 | _ => false
def zkI : PE -> Bool
 | .lst _ => true
 | .comp _ _ => true
 | .me m _ _ => zpD m
 | _ => false
noncomputable def zcd (vs : List Expr) : Bool := vs.all (constantsAlone 8) && !vs.all (foldedForSure 8)
noncomputable def zcA : Expr -> Bool
 | .Starred .. => true
 | _ => false
noncomputable def zf6 (c : TC) : List Expr -> Option (List (Nat × Bool))
 | [] => some []
 | e :: r => (zcp e).bind fun x => (zN c x).bind fun i => (zf6 c r).map ((i, c.mu.contains i) :: ·)
noncomputable def zb2 : List (Nat × Bool) -> Bool
 | [] => true
 | (i, _) :: r => !(r.map (·.1)).contains i && zb2 r
abbrev STr := Option (List Nat × PS)
def zny (c : TC) (x : Str) (v : Expr) : STr := if zcQ v then none else (zN c x).bind fun i => (tr 60 c v).bind fun e =>
 if c.mu.contains i then (if zkI e then some (ze8 c e, .asgM i e) else none) else some (ze8 c e, .asg (.v i) e)
def znz (c : TC) (ts vs : List Expr) : STr := (zf6 c ts).bind fun ns => (zC (tr 60 c) vs).bind fun es =>
 if ns.all (fun p => !p.2) && zb2 ns && !zcd vs && decide (vs.length <= 1000) then some (ze8 c (.tup es), .asgs ns es) else none
noncomputable def zjA : Expr -> Option (List Expr)
 | .Tuple vs _ _ => some vs
 | _ => none
def zqT (c : TC) (v : Expr) : Expr -> STr
 | .Name x _ => zny c x v
 | .Tuple ts k p => match zjA v with
  | some vs => znz c ts vs
  | none => (trT c 9 (.Tuple ts k p)).bind fun t => (tr 60 c v).map fun e => (ze8 c e, .asg t e)
 | _ => none
def zty (c : TC) (x m : Str) : List Expr -> STr := fun args => (zN c x).bind fun i => if !c.mu.contains i then none else match args with
 | [] => if m == "reverse" then some ([], .revs i) else none
 | [a] => (tr 60 c a).bind fun e => if m == "append" then some (ze8 c e, .app i e) else if m == "extend" then some (ze8 c e, .ext i e) else none
 | _ => none
def zls (c : TC) : Expr -> STr
 | .Call f args kws pos => match f with
  | .Attribute o m apos => (zcp o).bind fun x => if kws.isEmpty && (apos.endLine == pos.line) then zty c x m args else none
  | _ => none
 | _ => none
def zqU (c : TC) : Expr -> STr
 | .Subscript v k _ => (zcp v).bind fun x => (zN c x).bind fun i => if !c.mu.contains i then none else (tr 60 c k).map fun e => (ze8 c e, .del i e)
 | _ => none
def trS : Nat -> TC -> Stmt -> Option (List Nat × PS)
 | 0, _, _ => none
 | n + 1, c, s =>
  let blk : List Stmt -> Option (List PS) := fun b => (zC (trS n c) b).map fun l => l.flatMap fun p => p.1.map .frz ++ [p.2]
  match s with
  | .Assign ts v _ => (one ts).bind (zqT c v)
  | .AugAssign t op v _ => (zcp t).bind fun x => (zN c x).bind fun i => (tr 60 c v).bind fun e => if c.mu.contains i then none else some (ze8 c e, .aug i op e)
  | .If t a b _ => (tr 60 c t).bind fun t => (blk a).bind fun a => (blk b).map fun b => (ze8 c t, .iff t a b)
  | .For t it a b _ => (trT c 9 t).bind fun t => (zea (tr 60) c it).bind fun it => (blk a).bind fun a => (blk b).bind fun b => if zbC it t then some (ze8 c it, .for_ t it a b) else none
  | .Return e _ => e.bind fun e => (tr 60 c e).map fun e => (ze8 c e, .ret e)
  | .Assert t m _ => if m.isNone then (tr 60 c t).map fun t => (ze8 c t, .assert t) else none
  | .Break _ => some ([], .brk)
  | .Raise _ _ _ => some ([], .fail)
  | .Expr e _ => zls c e
  | .Delete es _ => (one es).bind (zqU c)
  | _ => none
def trB (n : Nat) (c : TC) (b : List Stmt) : Option (List PS) := (zC (trS n c) b).map fun l => l.flatMap fun p => p.1.map .frz ++ [p.2]
noncomputable def zdD : List (Str × NameKind) -> Nat -> List (Str × NameKind × Nat)
 | [], _ => []
 | (x, k) :: r, i => (x, k, i) :: zdD r (i + 1)
def muX : Expr -> List Str
 | .Call f _ _ _ => match f with
  | .Attribute o m _ => if m == "append" || m == "extend" || m == "reverse" then (zcp o).toList else []
  | _ => []
 | _ => []
def muD : Expr -> List Str
 | .Subscript v _ _ => (zcp v).toList
 | _ => []
noncomputable def muS : Nat -> Stmt -> List Str
 | 0, _ => []
 | n + 1, s => match s with
  | .Expr e _ => muX e
  | .Delete es _ => es.flatMap muD
  | .If _ a b _ => (a.flatMap (muS n)) ++ (b.flatMap (muS n))
  | .For _ _ a b _ => (a.flatMap (muS n)) ++ (b.flatMap (muS n))
  | .While _ a _ _ => a.flatMap (muS n)
  | _ => []
def zeb (fns : List (Str × Nat)) (cst : List (Str × PyData)) (gen : Str) (sc : Scope) (body : List Stmt) : TC :=
 let nm := zdD sc.names 0
 ⟨nm, fns, cst, sc.names.length, (body.flatMap (muS 9)).filterMap fun x => (nm.lookup x).map (·.2), gen, 0⟩
def zc8 (Z : Heap) (ad : Nat -> Addr) (i : Nat) (v : Value) : PV -> Prop
 | .d x => Rep Z v x
 | .m _ => v = .ref (ad i)
def zbv (Z h : Heap) (a : Addr) (xs : List PyData) : Prop :=
 ∃ vs n, h.get? a = some { cls := .type "list", data := .seq vs n } /\ zv Z vs.toList xs /\ Z.get? a = none
structure Rel (c : TC) (env : Env) (Z h : Heap) (ρ : Rho) (ad : Nat -> Addr) : Prop where
 kind : env.scope.kind = .function
 names : ∀ x, env.kindOf x = (c.nm.lookup x).map (·.1)
 glob : env.globals = mainGlobals
 blt : env.builtins = builtinsNs
 loc : ∃ m, h.Ns env.locals m /\ ∀ x i pv, c.nm.lookup x = some (.local, i) -> ρ[i]? = some (some pv) -> ∃ v, m x = some v /\ zc8 Z ad i v pv
 cel : ∀ x k i, c.nm.lookup x = some (k, i) -> (k = .cell \/ k = .free) -> ∃ a ov, env.cells.lookup x = some a /\ h.IsCell a ov /\ Z.get? a = none /\ ∀ pv, ρ[i]? = some (some pv) -> ∃ v, ov = some v /\ zc8 Z ad i v pv
 apL : Z.get? env.locals = none
 injS : ∀ x y k k' i, c.nm.lookup x = some (k, i) -> c.nm.lookup y = some (k', i) -> k ≠ .globalImplicit -> k' ≠ .globalImplicit -> x = y
 injC : ∀ x y a, env.cells.lookup x = some a -> env.cells.lookup y = some a -> x = y
 own : ∀ i xs, ρ[i]? = some (some (.m xs)) -> zbv Z h (ad i) xs
 ownInj : ∀ i j xs ys, ρ[i]? = some (some (.m xs)) -> ρ[j]? = some (some (.m ys)) -> ad i = ad j -> i = j
 hi : ∀ i pv, ρ[i]? = some (some pv) -> i < c.nx
 slot : ∀ x k i, c.nm.lookup x = some (k, i) -> k ≠ .globalImplicit -> i < c.nx
 mainL : env.locals ≠ mainGlobals
section
variable {Ω : En} {A : Around} {Z Z' : Heap} {s s' : Shared} {c : TC} {env : Env} {ρ : Rho} {ad : Nat -> Addr}
theorem zc8.mono {i v pv} (f : Sub Z Z') (r : zc8 Z ad i v pv) : zc8 Z' ad i v pv := by
 induction pv with
 | d x => exact Rep.mono f r
 | m xs => exact r
theorem Rel.step {h h' : Heap} (R : Rel c env Z h ρ ad) (f : Sub Z Z') (g : Sub h h') (new : ∀ b o, h.get? b = some o -> Z'.get? b = Z.get? b) : Rel c env Z' h' ρ ad where
 kind := R.kind
 names := R.names
 glob := R.glob
 blt := R.blt
 loc := E12 R.loc fun m hn hm =>  (I12 m (hn.keeps g) (fun x i pv a b => E12 (hm x i pv a b) fun v e r =>  (I12 v e (r.mono f))))
 cel := fun x k i a b => E24 (R.cel x k i a b) fun ca ov e hc hz hv =>     (I24 ca ov e (hc.keeps g) (by obtain ⟨o, ho, _⟩ := hc; rw [new _ _ ho]; exact hz) (fun pv q => E12 (hv pv q) fun v e r =>  (I12 v e (r.mono f))))
 apL := by
  obtain ⟨m, ⟨o, _, _, ho, _⟩, _⟩ := R.loc
  rw [new _ _ ho]; exact R.apL
 injS := R.injS
 injC := R.injC
 own := fun i xs e => E23 (R.own i xs e) fun vs n a b d =>  (I23 vs n (g _ _ a) (b.mono f) (by rw [new _ _ a]; exact d))
 ownInj := R.ownInj
 hi := R.hi
 slot := R.slot
 mainL := R.mainL
theorem Rel.stp (R : Rel c env Z s.heap ρ ad) (S : Stp Ω Z s Z' s') : Rel c env Z' s'.heap ρ ad := R.step S.f S.h S.new
theorem Rel.weaken {h : Heap} {ρ' : Rho} (R : Rel c env Z h ρ ad) (k : ∀ (i : Nat) (pv : PV), ρ'[i]? = some (some pv) -> ρ[i]? = some (some pv)) : Rel c env Z h ρ' ad where
 kind := R.kind
 names := R.names
 glob := R.glob
 blt := R.blt
 loc := E12 R.loc fun m hn hm =>  (I12 m hn (fun x i pv a b => hm x i pv a (k _ _ b)))
 cel := fun x kk i a b => E24 (R.cel x kk i a b) fun ca ov e hc hz hv =>  (I24 ca ov e hc hz (fun pv q => hv pv (k _ _ q)))
 apL := R.apL
 injS := R.injS
 injC := R.injC
 own := fun i xs e => R.own i xs (k _ _ e)
 ownInj := fun i j xs ys a b => R.ownInj i j xs ys (k _ _ a) (k _ _ b)
 hi := fun i pv e => R.hi i pv (k _ _ e)
 slot := R.slot
 mainL := R.mainL
theorem zjB {x : Str} {i : Nat} (h : zdi c x = some i) : (∃ k, c.nm.lookup x = some (k, i) /\ (k = .local \/ k = .cell \/ k = .free)) /\ (x == ("__classdict__" : Str)) = false := by
 refine ifN h fun hcd h => ⟨?_, Bool.not_eq_true _ ▸ hcd⟩
 clear hcd
 revert h
 induction c.nm.lookup x with
 | none => exact fun h => za h
 | some p =>
  induction p with
  | mk k j =>
   induction k using NameKind.casesOn with
   | «local» => exact fun h => eqE h (I12 _ rfl (by decide))
   | cell => exact fun h => eqE h (I12 _ rfl (by decide))
   | free => exact fun h => eqE h (I12 _ rfl (by decide))
   | _ => exact fun h => za h
theorem ze9 (R : Rel c env Z s.heap ρ ad) {x : Str} {i : Nat} {pv : PV} {Q : Value -> Shared -> Prop} {E} (hs : zdi c x = some i) (hx : (x == ("__debug__" : Str)) = false) (hp : ρ[i]? = some (some pv))
  (h : ∀ v, zc8 Z ad i v pv -> Q v s) : wpAny Ω.m A (loadName env x) Q E s := by
 obtain ⟨⟨k, hk, hk'⟩, hcd⟩ := zjB hs
 have hn := R.names x
 rw [hk] at hn
 rcases hk' with rfl | rfl | rfl
 ·refine cps fun G0 hG_0 => ?_
  obtain ⟨m, hns, hm⟩ := R.loc
  obtain ⟨v, hv, r⟩ := hm x i pv hk hp
  refine hG_0 ?_
  exact wpAny_loadName_local R.kind hn hns hv (h v r)
 ·refine cps fun G0 hG_0 => ?_
  obtain (⟨a, ov, ha, hc, _, hv⟩) := R.cel x _ i hk (.inl rfl)
  obtain (⟨v, rfl, r⟩) := hv pv hp
  refine hG_0 ?_
  exact wpAny_loadName_cell R.kind hn ha hc (h v r)
 ·refine cps fun G0 hG_0 => ?_
  obtain (⟨a, ov, ha, hc, _, hv⟩) := R.cel x _ i hk (.inr rfl)
  obtain (⟨v, rfl, r⟩) := hv pv hp
  refine hG_0 ?_
  exact wpAny_loadName_free R.kind hn ha hc (h v r) hcd
theorem zdE {d v} {s_2 : Shared} (S : Stp Ω Z s Z' s') (p : Pst Ω Z' s' d v s_2) : Pst Ω Z s d v s_2 :=
 E12 p fun Z2 S2 r =>  (I12 Z2 (S.trans S2) r)
theorem zkJ {b d} {s_2 : Shared} (S : Stp Ω Z s Z' s') (p : za4 Ω Z' s' b d s_2) : za4 Ω Z s b d s_2 :=
 let ⟨e, Z2, S2⟩ := p; ⟨e, Z2, S.trans S2⟩
noncomputable def zdZ : List (Str × Value) := [("len", .builtin "len"), ("sum", .builtin "sum"), ("hex", .builtin "hex"), ("int", .type "int"),
 ("divmod", .builtin "divmod"), ("isinstance", .builtin "isinstance"), ("range", .type "range"), ("enumerate", .type "enumerate"), ("zip", .type "zip"), ("reversed", .type "reversed")]
structure Gl (B : Heap) (Φ : Fs) : Prop where
 ns : ∃ mg mb, B.Ns mainGlobals mg /\ B.Ns builtinsNs mb /\ (∀ f k, Φ.fns.lookup f = some k -> mg f = some (.ref (Φ.fa k))) /\
  (∀ x d, Φ.cst.lookup x = some d -> ∃ v, mg x = some v /\ Rep B v d) /\ (∀ f v, zdZ.lookup f = some v -> mg f = none /\ mb f = some v)
 fn : ∀ f k, Φ.fns.lookup f = some k -> ∃ o fd, B.get? (Φ.fa k) = some o /\ o.data = .func fd
 lim : B.NoLimit
 sys : ∃ o, B.get? sysModules = some o
variable {Φ : Fs}
theorem Gl.lims (G : Gl Ω.B Φ) (h : Ok Ω Z s) : s.heap.NoLimit :=
 E12 G.lim fun mc a b =>  (I12 mc (a.keeps (h.base.trans h.sub)) b)
theorem zfT {x : Str} (h : zh c x = true) : ∃ i, c.nm.lookup x = some (.globalImplicit, i) := by
 revert h
 unfold zh
 induction c.nm.lookup x with
 | none => exact fun h => nomatch h
 | some p =>
  induction p with
  | mk k j =>
   induction k using NameKind.casesOn with
   | globalImplicit => exact fun _ => ⟨j, rfl⟩
   | _ => exact fun h => nomatch h
theorem zcq (R : Rel c env Z s.heap ρ ad) {x : Str} {Q : Value -> Shared -> Prop} {E} (hx : zh c x = true) (h : wpAny Ω.m A (loadGlobal env x) Q E s) :
  wpAny Ω.m A (loadName env x) Q E s := by
 obtain ⟨i, hi⟩ := zfT hx
 have hn := R.names x
 rw [hi] at hn
 have hn' : env.kindOf x = some .globalImplicit := hn
 unfold loadName
 simp only [Env.blockKind, R.kind, hn', ScopeKind.isAnnotationScope, Bool.false_and, Bool.false_eq_true, if_false]
 exact h
theorem ziy (G : Gl Ω.B Φ) (h : Ok Ω Z s) (R : Rel c env Z s.heap ρ ad) {x : Str} {v : Value} {Q : Value -> Shared -> Prop} {E} (hx : zh c x = true)
  (hv : ∀ mg, Ω.B.Ns mainGlobals mg -> (∀ f k, Φ.fns.lookup f = some k -> mg f = some (.ref (Φ.fa k))) -> (∀ x d, Φ.cst.lookup x = some d -> ∃ v, mg x = some v /\ Rep Ω.B v d) -> ∃ v, mg x = some v /\ Q v s) :
  wpAny Ω.m A (loadName env x) Q E s := by
 obtain ⟨mg, mb, h1, h2, h3, h4, h5⟩ := G.ns
 obtain ⟨v, e, q⟩ := hv mg h1 h3 h4
 refine zcq R hx ?_
 unfold loadGlobal
 rw [R.glob]
 refine wB (wpAny_nsGet (h1.keeps (h.base.trans h.sub)) ?_)
 rw [e]
 exact wPu q
theorem zes (G : Gl Ω.B Φ) (h : Ok Ω Z s) (R : Rel c env Z s.heap ρ ad) {x : Str} {v : Value} {Q : Value -> Shared -> Prop} {E} (hx : zh c x = true)
  (hv : zdZ.lookup x = some v) (q : Q v s) : wpAny Ω.m A (loadName env x) Q E s := by
 obtain ⟨mg, mb, h1, h2, h3, h4, h5⟩ := G.ns
 obtain ⟨e1, e2⟩ := h5 x v hv
 refine zcq R hx ?_
 unfold loadGlobal
 rw [R.glob, R.blt]
 refine wB (wpAny_nsGet (h1.keeps (h.base.trans h.sub)) ?_)
 rw [e1]
 refine wB (wpAny_nsGet (h2.keeps (h.base.trans h.sub)) ?_)
 rw [e2]
 exact wPu q
theorem Pst.bind {β : Type} {t : Sem Value} {f : Value -> Sem β} {d : PyData} {Q : β -> Shared -> Prop} {E : Value -> Shared -> Prop} (h : wpAny Ω.m A t (Pst Ω Z s d) zc s)
  (k : ∀ v s' Z', Stp Ω Z s Z' s' -> Rep Z' v d -> wpAny Ω.m A (f v) Q E s') : wpAny Ω.m A (t >>= f) Q E s :=
 wB (wpAny_mono h (fun v s' p => E12 p fun Z' S r =>  k v s' Z' S r) fun u w x => x.elim)
theorem Pst.then {t : Sem Value} {d : PyData} {Q : Value -> Shared -> Prop} {E : Value -> Shared -> Prop} (h : wpAny Ω.m A t (Pst Ω Z s d) zc s)
  (k : ∀ v s' Z', Stp Ω Z s Z' s' -> Rep Z' v d -> Q v s') : wpAny Ω.m A t Q E s :=
 wpAny_mono h (fun v s' p => E12 p fun Z' S r =>  k v s' Z' S r) fun u w x => x.elim
theorem za4.then {t : Sem Bool} {b : Bool} {Q : Bool -> Shared -> Prop} {E : Value -> Shared -> Prop} (h : wpAny Ω.m A t (za4 Ω Z s b) zc s)
  (k : ∀ s' Z', Stp Ω Z s Z' s' -> Q b s') : wpAny Ω.m A t Q E s :=
 wpAny_mono h (fun v s' p => by obtain ⟨e9, Z', S⟩ := p; refine rwE e9 ?_; exact k s' Z' S) fun u w x => x.elim
theorem z8 {t : Sem Value} {d : PyData} (S : Stp Ω Z s Z' s') (h : wpAny Ω.m A t (Pst Ω Z' s' d) zc s') : wpAny Ω.m A t (Pst Ω Z s d) zc s' :=
 wpM h (fun u v p => zdE S p)
theorem zbQ {t : Sem Bool} {b : Bool} (S : Stp Ω Z s Z' s') (h : wpAny Ω.m A t (za4 Ω Z' s' b) zc s') : wpAny Ω.m A t (za4 Ω Z s b) zc s' :=
 wpM h (fun u v p => zkJ S p)
theorem Rm.le {m n : Nat} (h : Rm A n) (hm : m <= n) : Rm A m := ⟨h.handled, nle (Nat.add_le_add_left hm _) h.depth, nle (Nat.add_le_add_left (Nat.mul_le_mul_left 8 hm) _) h.units⟩
theorem Rm.deep {env : Env} {n : Nat} (h : Rm A (n + 1)) : Rm (A.deeper env) n :=
 ⟨h.handled, nle (Nat.le_of_eq (Nat.add_right_comm _ 1 n)) h.depth, nle (nle (Nat.le_of_eq (Nat.add_right_comm _ 3 (8 * n))) (Nat.add_le_add_left (by decide : 3 <= 8) _)) h.units⟩
theorem Rm.u {n : Nat} (h : Rm A n) : A.units <= 8000 := nle (Nat.le_add_right _ _) h.units
structure GlC (c : TC) (Φ : Fs) : Prop where
 hf : c.fns = Φ.fns
 hc : c.cst = Φ.cst
 hg : c.gen = Φ.gen
end
section
variable (Ω : En) (Φ : Fs)
def zaP (S : Sv) (n : Nat) (T : TC -> PySem.Expr -> Option PE) : Prop :=
 ∀ c e pe ρ d, T c e = some pe -> S.ex ρ pe = some d -> ∀ A env Z s ad, Rm A n -> GlC c Φ -> Ok Ω Z s -> Rel c env Z s.heap ρ ad ->
  wpAny Ω.m A (eval e env) (Pst Ω Z s d) zc s
def zd0 (S : Sv) (n : Nat) (T : TC -> PySem.Expr -> Option PE) : Prop :=
 ∀ c e pe ρ d b, T c e = some pe -> S.ex ρ pe = some d -> zap d = some b -> ∀ A env Z s ad, Rm A n -> GlC c Φ -> Ok Ω Z s -> Rel c env Z s.heap ρ ad ->
  wpAny Ω.m A (isTrue e env (eval e env)) (za4 Ω Z s b) zc s
def zkK (S : Sv) (n : Nat) : Prop :=
 ∀ k args d, S.call k args = some d -> ∀ A Z s vals, (∃ f, Φ.fns.lookup f = some k) -> Rm A n -> Ok Ω Z s -> zv Z vals args -> wpAny Ω.m A (call (.ref (Φ.fa k)) vals) (Pst Ω Z s d) zc s
end
theorem z7 {e : PySem.Expr} {rest : List PySem.Expr} {env : Env} (h : zcA e = false) : starEach (e :: rest) env = (false, eval e env) :: starEach rest env := by
 cases e <;> first | rfl | exact Bool.noConfusion h
theorem zhK {op : CmpOp} {e : PySem.Expr} (h : zcc e = false) : behindInMarks op e = false := by
 cases e <;> first | rfl | exact Bool.noConfusion h
theorem zdF {e : PySem.Expr} {env : Env} (h : zcc e = false) (x : Value) : foldedSetIterable e env x = pure x := by
 cases e <;> first | rfl | exact Bool.noConfusion h
set_option tactic.hygienic true in
theorem zcB {o : PySem.Expr} {m : Str} {env : Env} (h : zbN o = true) (t : Sem Value) : attributeBase o m env t = t := by
 cases o <;> first | rfl | skip
 rename_i f args kws p
 induction args using List.casesOn with
 | nil => exact Bool.noConfusion h
 | cons a as => cases f <;> rfl
theorem zaQ {n : Nat} {c : TC} {e : PySem.Expr} {pe : PE} (h : tr n c e = some pe) : zcA e = false := by
 induction n using Nat.casesOn with
 | zero => exact za h
 | succ n => cases e <;> first | rfl | exact za h
theorem zjC {n : Nat} {c : TC} {e : PySem.Expr} {pe : PE} (h : tr n c e = some pe) : ∀ a b d p, e ≠ .Slice a b d p := by
 rintro a b d p rfl
 induction n <;> exact za h
theorem zu1 {n : Nat} {c : TC} {e : PySem.Expr} {i : Nat} (h : tr n c e = some (.v i)) : ∃ x p, e = .Name x p /\ zdi c x = some i /\ (x == ("__debug__" : Str)) = false := by
 induction n using Nat.casesOn with
 | zero => exact za h
 | succ n => cases zbk h with | name hd h => exact I23 _ _ rfl h hd
section
variable {Ω : En} {A : Around} {Z Z' : Heap} {s s' : Shared} {c : TC} {env : Env} {ρ : Rho} {ad : Nat -> Addr}
 {Φ : Fs} {S : Sv} {n m : Nat}
def zu2 (Ω : En) (Z : Heap) (s : Shared) (ds : List PyData) : List Value -> Shared -> Prop :=
 fun vs s' => ∃ Z', Stp Ω Z s Z' s' /\ zv Z' vs ds
theorem zcR (IH : zaP Ω Φ S n (tr m)) (hA : Rm A n) (hG : GlC c Φ) {pos : Pos} : ∀ {es : List PySem.Expr} {pes : List PE} {ds : List PyData} {s : Shared} {Z : Heap},
  zC (tr m c) es = some pes -> exs S ρ pes = some ds -> Ok Ω Z s -> Rel c env Z s.heap ρ ad ->
  wpAny Ω.m A (spliced (backTo pos (starEach es env))) (zu2 Ω Z s ds) zc s
 | [], pes, ds, s, Z, h1, h2, hO, hR => by
  cases h1; refine eqE h2 ?_
  exact wPu (I12 Z (Stp.refl hO) .nil)
 | e :: es, pes, ds, s, Z, h1, h2, hO, hR => by
  refine zb h1 fun pe he h1 => ?_
  obtain ⟨pes', hes, e9⟩ := Option.map_eq_some_iff.mp h1; subst e9
  refine zb h2 fun d hd h2 => ?_
  obtain ⟨ds', hds, e9⟩ := Option.map_eq_some_iff.mp h2; refine rwE e9.symm ?_
  rw [z7 (zaQ he)]
  show wpAny _ _ (do let v <- eval e env; let here <- pure [v]; return here ++ (<- holding here (spliced (backTo pos (starEach es env))))) _ _ _
  refine Pst.bind (IH c e pe ρ d he hd A env Z s ad hA hG hO hR) fun v s_1 Z_1 S_1 r_1 => ?_
  refine wB (wPu (wB (wpAny_holding (wpM (zcR IH hA hG hes hds S_1.ok (hR.stp S_1)) (fun vs s_2 p => ?_)))))
  obtain ⟨Z_2, S_2, r_2⟩ := p
  exact wPu (I12 Z_2 (S_1.trans S_2) (.cons (r_1.mono S_2.f) r_2))
theorem z9 (IH : zaP Ω Φ S n (tr m)) (hA : Rm A n) (hG : GlC c Φ) {pos : Pos} {f : Value} {es : List PySem.Expr} {pes : List PE} {ds : List PyData} {Q : Args -> Shared -> Prop} {E}
  (h1 : zC (tr m c) es = some pes) (h2 : exs S ρ pes = some ds) (hO : Ok Ω Z s) (hR : Rel c env Z s.heap ρ ad)
  (h : ∀ vs s' Z', Stp Ω Z s Z' s' -> zv Z' vs ds -> Q ⟨vs, []⟩ s') :
  wpAny Ω.m A (evalArgs f true (backTo pos (starEach es env)) []) Q E s := by
 have key := zcR (pos := pos) IH hA hG h1 h2 hO hR
 induction es using List.casesOn with
 | nil =>
  cases h1; cases h2
  exact PySem.evalArgs_none (h [] s Z (Stp.refl hO) .nil)
 | cons e es =>
  have he : zcA e = false := by
   refine zb h1 fun pe he u => ?_
   exact zaQ he
  rw [z7 he] at key |-
  refine Calls.evalArgs_plain (wpAny_mono key (fun vs s' p => ?_) fun u v x => x.elim)
  obtain ⟨Z', S', r⟩ := p
  exact h vs s' Z' S' r
theorem zb3 (pos : Pos) : ∀ {es : List PySem.Expr} {pes : List PE}, zC (tr m c) es = some pes -> (backTo pos (starEach es env)).any (·.1) = false
 | [], _, _ => rfl
 | e :: es, pes, h => by
  refine zb h fun pe he h1 => ?_
  obtain ⟨pes', hes, e9⟩ := Option.map_eq_some_iff.mp h1; refine rwE e9 ?_
  rw [z7 (zaQ he)]
  show (false || (backTo pos (starEach es env)).any (·.1)) = false
  rw [zb3 pos hes]; rfl
set_option tactic.hygienic true in
theorem zkL (IH : zaP Ω Φ S n (tr m)) (hA : Rm A n) (hG : GlC c Φ) (G : Gl Ω.B Φ) {e : PySem.Expr} {pe : PE} {d : PyData} (h1 : tr m c e = some pe) (h2 : rcv S ρ pe = some d)
  (hO : Ok Ω Z s) (hR : Rel c env Z s.heap ρ ad) :
  wpAny Ω.m A (eval e env) (fun v s' => ∃ Z', Stp Ω Z s Z' s' /\ zbi Z' s'.heap v d) zc s := by
 unfold rcv at h2
 split at h2
 ·rename_i i
  refine cps fun G0 hG_0 => ?_
  obtain ⟨x, p, e9, hs, hx⟩ := zu1 h1; obtain rfl := e9.symm
  refine hG_0 ?_
  split at h2
  ·rename_i hp
   refine eqE h2 ?_
   refine wpAny_Name (ze9 hR hs hx hp fun v r => I12 Z (Stp.refl hO) (.inl r)) hx
  ·rename_i xs hp
   refine eqE h2 ?_
   refine wpAny_Name (ze9 hR hs hx hp fun v r => I12 Z (Stp.refl hO) (.inr ?_)) hx
   obtain ⟨vs, n', e', r', _⟩ := hR.own i xs hp
   exact I44 (ad i) vs n' xs rfl r e' r'
  ·exact za h2
 ·exact wpM (IH c e pe ρ d h1 h2 A env Z s ad hA hG hO hR) (fun v s' p => E12 p fun Z' S' r =>  (I12 Z' S' (.inl r)))
theorem zrA (IH : zaP Ω Φ S n (tr m)) (hA : Rm A n) (hG : GlC c Φ) {op l r pos a b d} (h1 : tr m c l = some a) (h2 : tr m c r = some b)
  (hd : ((S.ex ρ a).bind fun x => (S.ex ρ b).bind fun y => zav op x y) = some d) (hO : Ok Ω Z s) (hR : Rel c env Z s.heap ρ ad) :
  wpAny Ω.m A (eval (.BinOp l op r pos) env) (Pst Ω Z s d) zc s := by
 refine zb hd fun x hx hd => ?_
 refine zb hd fun y hy hd => ?_
 refine wpAny_BinOp (Pst.then (IH c l a ρ x h1 hx A env Z s ad hA hG hO hR) fun v s_1 Z_1 S_1 r_1 => ?_)
 refine Pst.then (IH c r b ρ y h2 hy A env Z_1 s_1 ad hA hG S_1.ok (hR.stp S_1)) fun u s_2 Z_2 S_2 r_2 => ?_
 exact z8 (S_1.trans S_2) (zit hA.handled S_2.ok (r_1.mono S_2.f) r_2 hd)
theorem znA (IH : zaP Ω Φ S n (tr m)) (hA : Rm A n) (hG : GlC c Φ) {op x pos a d y} (h1 : tr m c x = some a) (hy : S.ex ρ a = some y)
  (hO : Ok Ω Z s) (hR : Rel c env Z s.heap ρ ad) (k : ∀ v s' Z', Ok Ω Z' s' -> Rep Z' v y -> wpAny Ω.m A (unaryOp op v) (Pst Ω Z' s' d) zc s') :
  wpAny Ω.m A (eval (.UnaryOp op x pos) env) (Pst Ω Z s d) zc s := by
 show wpAny _ _ (do let v <- eval x env; standAt pos; holding [v] (unaryOp op v)) _ _ _
 refine Pst.bind (IH c x a ρ y h1 hy A env Z s ad hA hG hO hR) fun v s_1 Z_1 S_1 r_1 => ?_
 exact wB (wpAny_standAt (wpAny_holding (z8 S_1 (k v s_1 Z_1 S_1.ok r_1))))
theorem znB (IH : zaP Ω Φ S n (tr m)) (hA : Rm A n) (hG : GlC c Φ) (G : Gl Ω.B Φ) {op l r a b d} (hs : zcc r = false) (h1 : tr m c l = some a) (h2 : tr m c r = some b)
  (hd : ((rcv S ρ a).bind fun x => (S.ex ρ b).bind fun y => (zfQ op x y).map PyData.bool) = some d) (hO : Ok Ω Z s) (hR : Rel c env Z s.heap ρ ad) :
  ∃ bb : Bool, d = PyData.bool bb /\ wpAny Ω.m A (eval l env) (fun v s_1 => wpAny Ω.m A (eval r env) (fun u s_2 => wpAny Ω.m A (compareOp op v u) (Pst Ω Z s (.bool bb)) zc s_2) zc s_1) zc s := by
 refine zb hd fun x hx hd => ?_
 refine zb hd fun y hy hd => ?_
 refine zQ hd fun bb hb e_0 => ?_
 (first | refine zky e_0 ?_ | subst e_0)
 refine I12 bb rfl (wpAny_mono (zkL IH hA hG G h1 hx hO hR) (fun v s_1 p => ?_) fun _ _ q => q)
 obtain ⟨Z_1, S_1, r_1⟩ := p
 refine Pst.then (IH c r b ρ y h2 hy A env Z_1 s_1 ad hA hG S_1.ok (hR.stp S_1)) fun u s_2 Z_2 S_2 r_2 => ?_
 exact z8 (S_1.trans S_2) (zkA S_2.ok hA.u (r_1.mono S_2.f S_2.h) r_2 hb)
theorem zrB {o : Option (Option PV)} {d : PyData} (h : (match o with | some (some (.d x)) => some x | _ => none) = some d) : o = some (some (.d d)) := by
 rcases o with _ | _ | x
 ·exact za h
 ·exact za h
 ·induction x with
  | d y => refine eqE h ?_; rfl
  | m xs => exact za h
theorem zrC (hA : Rm A n) {x pos i d} (hx : (x == ("__debug__" : Str)) = false) (hi : zdi c x = some i) (hd : zcn S ρ (.v i) = some d) (hO : Ok Ω Z s) (hR : Rel c env Z s.heap ρ ad) :
  wpAny Ω.m A (eval (.Name x pos) env) (Pst Ω Z s d) zc s :=
 wpAny_Name (ze9 hR hi hx (zrB hd) fun v r => zq hO r) hx
theorem zpE (hG : GlC c Φ) (G : Gl Ω.B Φ) {x pos d0 d} (hx : (x == ("__debug__" : Str)) = false) (hg : zh c x = true) (hc : c.cst.lookup x = some d0)
  (hd : zcn S ρ (.c d0) = some d) (hO : Ok Ω Z s) (hR : Rel c env Z s.heap ρ ad) : wpAny Ω.m A (eval (.Name x pos) env) (Pst Ω Z s d) zc s := by
 refine eqE hd ?_
 refine wpAny_Name (ziy (v := .none) G hO hR hg fun mg _ _ hm => ?_) hx
 obtain ⟨v, hv, r⟩ := hm x _ (by rw [<- hG.hc]; exact hc)
 exact I12 v hv (zq hO (r.mono hO.base))
theorem zjD {e : PySem.Expr} {d b} (h : wpAny Ω.m A (eval e env) (Pst Ω Z s d) zc s) (hb : zap d = some b)
  (he : isTrue e env (eval e env) = (do let v <- eval e env; standAt e.pos; holding [v] (truthy v))) :
  wpAny Ω.m A (isTrue e env (eval e env)) (za4 Ω Z s b) zc s := by
 rw [he]
 refine Pst.bind h fun v s_1 Z_1 S_1 r_1 => ?_
 exact wB (wpAny_standAt (wpAny_holding (zbQ S_1 (zeo S_1.ok (.inl r_1) hb))))
def zet (Ω : En) (s : Shared) (v : Value) : Prop := ∃ T id, s.TypeIs v T /\ typeLookup (.type T) "__getitem__" = pure (some (.builtin id))
theorem zhL {v : Value} {xs : List PyData} (hO : Ok Ω Z s) (r : zbi Z s.heap v (.list xs)) : zet Ω s v := by
 obtain ⟨_, _, _, e9, e, _⟩ := r.list hO.sub; refine rwE e9 ?_
 exact I22 "list" _ (I12 _ e rfl) slot_list_getitem.lookup
theorem zjE {v : Value} {xs : List PyData} (hO : Ok Ω Z s) (r : Rep Z v (.tuple xs)) : zet Ω s v := by
 obtain ⟨a, vs, n, e9, e, _⟩ := zaq.mp r; refine rwE e9 ?_
 exact I22 "tuple" _ (I12 _ (hO.sub _ _ e) rfl) slot_tuple_getitem.lookup
theorem zjF {v : Value} {x : Str} (r : Rep Z v (.str x)) : zet Ω s v := by
 refine zdd r fun t => ?_
 exact I22 "str" _ (typeIs_str _ _ _) F.slot_str_getitem.lookup
theorem ziz (Ω : En) (hO : Ok Ω Z s) {v : Value} {d di x : PyData} (r : zbi Z s.heap v d) (hd : zbu d di = some x) : zet Ω s v := by
 induction d using PyData.casesOn with
 | list xs => exact zhL hO r
 | tuple xs => exact zjE hO (r.other nofun)
 | str y => exact zjF (r.other nofun)
 | dict kvs =>
  obtain ⟨a, e9, _, f, hm, _⟩ := zcv.mp (r.other nofun); refine rwE e9 ?_
  obtain ⟨o, es, ep, ho, hx, _⟩ := hm Ω.prog Ω.w
  exact I22 "dict" _ (I12 _ (hO.sub _ _ ho) hx.1) slot_dict_getitem.lookup
 | _ => exact za hd
theorem zkM (Ω : En) (hO : Ok Ω Z s) {v : Value} {d x : PyData} {lo hi st} (r : Rep Z v d) (hd : zaz d lo hi st = some x) : zet Ω s v := by
 induction d using PyData.casesOn with
 | list xs => exact zhL hO (.inl r)
 | tuple xs => exact zjE hO r
 | str y => exact zjF r
 | _ => exact za hd
theorem zfU {slice : PySem.Expr} (h : ∀ a b d p, slice ≠ .Slice a b d p) (o i : Value) : subscripted slice false o i = operate [o, i] (getItem o i) := by
 cases slice <;> first | rfl | exact absurd rfl (h _ _ _ _)
theorem zrD (IH : zaP Ω Φ S n (tr m)) (hA : Rm A n) (hG : GlC c Φ) (G : Gl Ω.B Φ) {v i pos a b d} (h1 : tr m c v = some a) (h2 : tr m c i = some b)
  (hd : ((rcv S ρ a).bind fun x => (S.ex ρ b).bind fun y => zbu x y) = some d) (hO : Ok Ω Z s) (hR : Rel c env Z s.heap ρ ad) :
  wpAny Ω.m A (eval (.Subscript v i pos) env) (Pst Ω Z s d) zc s := by
 refine zb hd fun x hx hd => zb hd fun y hy hd => Subscript_ (wpAny_mono (zkL IH hA hG G h1 hx hO hR) (fun o s_1 p => ?_) fun w z q => q)
 obtain ⟨Z_1, S_1, r_1⟩ := p
 refine Pst.then (IH c i b ρ y h2 hy A env Z_1 s_1 ad hA hG S_1.ok (hR.stp S_1)) fun u s_2 Z_2 S_2 r_2 => ?_
 have r_1' := r_1.mono S_2.f S_2.h
 obtain ⟨T, id, hT, hl⟩ := ziz Ω S_2.ok r_1' hd
 exact tail_any hT hl (z8 (S_1.trans S_2) (zrs S_2.ok r_1' r_2 hd)) (zfU (zjC h2) _ _)
theorem ziA (IH : zaP Ω Φ S n (tr m)) (hA : Rm A n) (hG : GlC c Φ) {o : Option PySem.Expr} {po : Option PE} {k : Option Int} (h1 : trO (tr m) c o = some po) (h2 : zc7 S ρ po = some k)
  (hO : Ok Ω Z s) (hR : Rel c env Z s.heap ρ ad) :
  wpAny Ω.m A (valueOrNone (evalOpt o env)) (fun v s' => ∃ Z', Stp Ω Z s Z' s' /\ IsPart v k) zc s := by
 induction o with
 | none =>
  cases h1; refine eqE h2 ?_
  exact wPu (I12 Z (Stp.refl hO) .none)
 | some e =>
  refine zQ h1 fun pe he e1 => ?_
  induction e1
  refine zb h2 fun d hd h2 => Pst.then (IH c e pe ρ d he hd A env Z s ad hA hG hO hR) fun v s' Z' S' r => ?_
  cases d <;> first | exact za h2 | skip
  refine eqE h2 ?_
  refine zc1 r fun t => ?_
  exact I12 Z' S' (.int _ _)
theorem ztz (IH : zaP Ω Φ S n (tr m)) (hA : Rm A n) (hG : GlC c Φ) {v lo hi st p pos a plo phi pst d} (h1 : tr m c v = some a) (h2 : trO (tr m) c lo = some plo) (h3 : trO (tr m) c hi = some phi) (h4 : trO (tr m) c st = some pst)
  (hd : ((S.ex ρ a).bind fun x => (zc7 S ρ plo).bind fun l => (zc7 S ρ phi).bind fun h => (zc7 S ρ pst).bind fun k => zaz x l h k) = some d) (hO : Ok Ω Z s) (hR : Rel c env Z s.heap ρ ad) :
  wpAny Ω.m A (eval (.Subscript v (.Slice lo hi st p) pos) env) (Pst Ω Z s d) zc s := by
 refine zb hd fun x hx hd => zb hd fun l hl hd => zb hd fun h hh hd => zb hd fun k hk hd => Subscript_ (Pst.then (IH c v a ρ x h1 hx A env Z s ad hA hG hO hR) fun o s_1 Z_1 S_1 r_1 => ?_)
 show wpAny _ _ (do
  let l <- valueOrNone (evalOpt lo env)
  let u <- holding [l] (valueOrNone (evalOpt hi env))
  let s <- holding [l, u] (valueOrNone (evalOpt st env))
  newFields "slice" [l, u, s]) _ _ _
 refine wB (wpAny_mono (ziA IH hA hG h2 hl S_1.ok (hR.stp S_1)) (fun vl s_2 p => ?_) fun w y q => q.elim)
 obtain ⟨Z_2, S_2, pl⟩ := p
 refine wB (wpAny_holding (wpAny_mono (ziA IH hA hG h3 hh S_2.ok ((hR.stp S_1).stp S_2)) (fun vu s_3 p => ?_) fun w y q => q.elim))
 obtain ⟨Z_3, S_3, pu⟩ := p
 refine wB (wpAny_holding (wpAny_mono (ziA IH hA hG h4 hk S_3.ok (((hR.stp S_1).stp S_2).stp S_3)) (fun vs s_4 p => ?_) fun w y q => q.elim))
 obtain ⟨Z_4, S_4, ps⟩ := p
 refine wpAny_newObj_type ?_ (by show 3 <= sizeLine + 2; decide)
 have S5 : Stp Ω Z_4 s_4 Z_4 { s_4 with heap := s_4.heap.push { cls := .type "slice", data := .fields [vl, vu, vs].toArray } } := Stp.grow (n := s_4.toks) S_4.ok (Sub.push _ _)
 have hs : (s_4.heap.push { cls := .type "slice", data := .fields [vl, vu, vs].toArray }).IsSliceOf s_4.heap.objs.size vl vu vs := I13 _ (Heap.get?_push_size _ rfl) rfl rfl
 have r_4 := ((r_1.mono S_2.f).mono S_3.f).mono S_4.f
 obtain ⟨T, id, hT, hlk⟩ := zkM Ω S5.ok r_4 hd
 have key := zni (Ω := Ω) (A := A) S5.ok r_4 hs pl pu ps hd
 have S15 := (((S_1.trans S_2).trans S_3).trans S_4).trans S5
 induction st with
 | none => exact tail_any hT hlk (z8 S15 key) rfl
 | some e => exact tail_any hT hlk (z8 S15 key) rfl
theorem zkN : ∀ p ∈ zln, zdZ.lookup p.1 = some (biF p.2.1) /\ p.2.1 ≠ .isInt := by decide +kernel
theorem zrE {f : Str} {args : List PySem.Expr} {b : BI} (h : zpB f args = some b) : zdZ.lookup f = some (biF b) /\ b ≠ .isInt :=
 zb h fun p hp h => ifE h fun u e => by refine eqE e ?_; exact zkN _ (zbj hp)
theorem znC (IH : zaP Ω Φ S n (tr m)) (IC : zkK Ω Φ S n) (hA : Rm A n) (hG : GlC c Φ) (G : Gl Ω.B Φ) {f p pos} {args : List PySem.Expr} {pes : List PE} {k : Nat} {d}
  (hdb : (f == ("__debug__" : Str)) = false) (hg : zh c f = true) (hk : c.fns.lookup f = some k)
  (h1 : zC (tr m c) args = some pes) (hd : ((exs S ρ pes).bind fun xs => S.call k xs) = some d) (hO : Ok Ω Z s) (hR : Rel c env Z s.heap ρ ad) :
  wpAny Ω.m A (eval (.Call (.Name f p) args [] pos) env) (Pst Ω Z s d) zc s := by
 refine zb hd fun ds hds hd => ?_
 have hk' : Φ.fns.lookup f = some k := by rw [<- hG.hf]; exact hk
 refine wpAny_Call_NameR (wpAny_Name (ziy (v := .none) G hO hR hg fun mg _ hf _ => I12 (.ref (Φ.fa k)) (hf f k hk') ?_) hdb)
 obtain ⟨o, fd, ho, hof⟩ := G.fn f k hk'
 refine Calls.callWith_function (z9 IH hA hG h1 hds hO hR fun vs s_1 Z_1 S_1 r_1 => ⟨⟨S_1.ok.sub _ _ (S_1.ok.base _ _ ho), hof⟩, ?_⟩)
 exact z8 S_1 (IC k ds d hd A Z_1 s_1 vs ⟨f, hk'⟩ hA S_1.ok r_1)
theorem zmd {b : BI} {pes : List PE} {d} (h : zcn S ρ (.bi b pes) = some d) : (∃ a, b = .len /\ pes = [a] /\ ((rcv S ρ a).bind fun x => biD .len [x]) = some d) \/ ((exs S ρ pes).bind fun xs => biD b xs) = some d := by
 induction b
 case len =>
  match pes, h with
  | [], h => exact .inr h
  | [a], h => exact .inl (I13 a rfl rfl h)
  | _ :: _ :: _, h => exact .inr h
 all_goals exact .inr h
theorem zme {α β : Type} {f : α -> Option β} {l : List α} {y : β} (h : zC f l = some [y]) : ∃ x, l = [x] /\ f x = some y := by
 match l, h with
 | [], h => cases h
 | [x], h => exact zb h fun z hz h => zQ h fun u e e1 => by refine eqE e ?_; cases e1; exact I12 x rfl hz
 | _ :: _ :: _, h => exact zb h fun z u h => zQ h fun u h e1 => zb h fun u v h => zQ h fun u v e2 => by induction e2; exact nomatch e1
theorem zrF (IH : zaP Ω Φ S n (tr m)) (hA : Rm A n) (hG : GlC c Φ) (G : Gl Ω.B Φ) {pos : Pos} {args : List PySem.Expr} {a : PE} {d : PyData} (h1 : zC (tr m c) args = some [a]) (hd : ((rcv S ρ a).bind zpu) = some d) (hO : Ok Ω Z s) (hR : Rel c env Z s.heap ρ ad) :
  wpAny Ω.m A (evalArgs (.builtin "len") true (backTo pos (starEach args env)) []) (fun a s_1 => wpAny Ω.m A (call (.builtin "len") a.pos a.kw) (Pst Ω Z s d) zc s_1) zc s := by
 obtain ⟨e, e9, he⟩ := zme h1; refine rwE e9 ?_
 refine zb hd fun x hx hd => ?_
 rw [z7 (zaQ he)]
 refine Calls.evalArgs_plain ?_
 show wpAny _ _ (do let v <- eval e env; let here <- pure [v]; return here ++ (<- holding here (spliced []))) _ _ _
 refine wB (wpAny_mono (zkL IH hA hG G he hx hO hR) (fun v s_1 p => ?_) fun u w q => q.elim)
 obtain ⟨Z_1, S_1, r_1⟩ := p
 exact wB (wPu (wB (wpAny_holding (wPu (wPu (z8 S_1 (znk S_1.ok r_1 hd)))))))
theorem ztA (IH : zaP Ω Φ S n (tr m)) (hA : Rm A n) (hG : GlC c Φ) (G : Gl Ω.B Φ) {f p pos} {args : List PySem.Expr} {pes : List PE} {b : BI} {d}
  (hdb : (f == ("__debug__" : Str)) = false) (hg : zh c f = true) (hb : zpB f args = some b)
  (h1 : zC (tr m c) args = some pes) (hd : zcn S ρ (.bi b pes) = some d) (hO : Ok Ω Z s) (hR : Rel c env Z s.heap ρ ad) :
  wpAny Ω.m A (eval (.Call (.Name f p) args [] pos) env) (Pst Ω Z s d) zc s := by
 obtain ⟨ht, hni⟩ := zrE hb
 refine wpAny_Call_NameR (wpAny_Name (zes G hO hR hg ht ?_) hdb)
 have hbf : ∃ x, biF b = .builtin x := by induction b <;> exact ⟨_, rfl⟩
 obtain ⟨x, hx⟩ := hbf
 rw [hx]
 refine Calls.callWith_builtin (zb3 pos h1) ?_
 rw [<- hx]
 have main : ((exs S ρ pes).bind fun xs => biD b xs) = some d -> wpAny Ω.m A (evalArgs (biF b) true (backTo pos (starEach args env)) []) (fun a s_1 => wpAny Ω.m A (call (biF b) a.pos a.kw) (Pst Ω Z s d) zc s_1) zc s := fun hd =>
  zb hd fun ds hds hd => z9 IH hA hG h1 hds hO hR fun vs s_1 Z_1 S_1 r_1 => by
   have := zqP (Ω := Ω) (A := A) S_1.ok hA.handled r_1 hd
   rw [show biA b vs = vs by induction b <;> first | rfl | exact absurd rfl hni] at this
   exact z8 S_1 this
 refine Or.elim (zmd hd) (fun h9 => ?_) fun hd => ?_
 ·obtain ⟨a, e90, e91, hd⟩ := h9; obtain rfl := e90.symm; obtain rfl := e91.symm
  exact zrF IH hA hG G h1 hd hO hR
 ·exact main hd
theorem znD (IH : zaP Ω Φ S n (tr m)) (hA : Rm A n) (hG : GlC c Φ) (G : Gl Ω.B Φ) {p pos q} {a : PySem.Expr} {pa : PE} {d}
  (hg : zh c "isinstance" = true) (hg' : zh c "int" = true)
  (h1 : tr m c a = some pa) (hd : ((exs S ρ [pa]).bind fun xs => biD .isInt xs) = some d) (hO : Ok Ω Z s) (hR : Rel c env Z s.heap ρ ad) :
  wpAny Ω.m A (eval (.Call (.Name "isinstance" p) [a, .Name "int" q] [] pos) env) (Pst Ω Z s d) zc s := by
 refine zb hd fun ds hds hd => ?_
 refine wpAny_Call_NameR (wpAny_Name (zes (v := .builtin "isinstance") G hO hR hg (by decide +kernel) ?_) (by decide +kernel))
 refine zb hds fun x hx hds => ?_
 cases hds
 refine Calls.callWith_builtin ?_ ?_
 ·rw [z7 (zaQ h1), z7 rfl]; rfl
 rw [z7 (zaQ h1), z7 rfl]
 refine Calls.evalArgs_plain ?_
 show wpAny _ _ (do let v <- eval a env; let here <- pure [v]; return here ++ (<- holding here (do let v <- eval (.Name "int" q) env; let here <- pure [v]; return here ++ (<- holding here (spliced []))))) _ _ _
 refine Pst.bind (IH c a pa ρ x h1 hx A env Z s ad hA hG hO hR) fun v s_1 Z_1 S_1 r_1 => ?_
 refine wB (wPu (wB (wpAny_holding ?_)))
 refine wB (wpAny_Name (zes (v := .type "int") G S_1.ok (hR.stp S_1) hg' (by decide +kernel) ?_) (by decide +kernel))
 refine wB (wPu (wB (wpAny_holding (wPu (wPu (wPu ?_))))))
 exact z8 S_1 (zqP (b := .isInt) S_1.ok hA.handled (zv.one r_1) hd)
theorem zkO : ∀ p ∈ zlo, p.1 = ziw p.2 := by decide +kernel
theorem zlt {k : Str} {m : ME} (h : znn k = some m) : k = ziw m := zkO _ (zbj h)
theorem ztB (IH : zaP Ω Φ S n (tr m)) (hA : Rm A n) (hG : GlC c Φ) {o : PySem.Expr} {k : Str} {apos pos} {args : List PySem.Expr} {pa : PE} {pes : List PE} {b : ME} {d}
  (hp : zbN o = true) (hl : (apos.endLine == pos.line) = true) (hn : args.length < 29) (hk : znn k = some b) (h0 : tr m c o = some pa) (h1 : zC (tr m c) args = some pes)
  (hd : ((S.ex ρ pa).bind fun x => (exs S ρ pes).bind fun xs => meD b x xs) = some d) (hO : Ok Ω Z s) (hR : Rel c env Z s.heap ρ ad) :
  wpAny Ω.m A (eval (.Call (.Attribute o k apos) args [] pos) env) (Pst Ω Z s d) zc s := by
 refine zb hd fun x hx hd => zb hd fun ds hds hd => ?_
 have hns := zb3 (env := env) pos h1
 refine wpAny_Call_method_lateS (zcB hp _) ?_ hl ?_
 ·have e1 : (backTo pos (starEach args env)).all (fun x => !x.1) = true := by
   rw [List.all_eq_not_any_not]; simp only [Bool.not_not, hns]; rfl
  rw [e1]
  exact decide_eq_true (Nat.lt_succ_of_lt hn)
 refine Pst.then (IH c o pa ρ x h0 hx A env Z s ad hA hG hO hR) fun v s_1 Z_1 S_1 r_1 => ?_
 obtain ⟨T, id, hid⟩ := znl hd
 rw [zlt hk]
 obtain ⟨q1, q2, q3, q4, q5⟩ := zlm Ω S_1.ok r_1 hid
 refine I26 T id q1 q2 q3 q4 q5 ?_
 refine Calls.callWith_builtin hns (z9 IH hA hG h1 hds S_1.ok (hR.stp S_1) fun vs s_2 Z_2 S_2 r_2 => ?_)
 exact z8 (S_1.trans S_2) (zts S_2.ok hA.handled hA.u hid (r_1.mono S_2.f) r_2 hd)
end
theorem zce {α β : Type} {f : α -> Option β} : ∀ {l : List α} {r : List β}, zC f l = some r -> r.length = l.length
 | [], r, h => by refine eqE h ?_; rfl
 | x :: l, r, h => by
  refine zb h fun y _ h => ?_
  obtain ⟨r', h', e9⟩ := Option.map_eq_some_iff.mp h; refine rwE e9.symm ?_
  simp [zce h']
theorem zec {S : Sv} {ρ : Rho} : ∀ {l : List PE} {r : List PyData}, exs S ρ l = some r -> r.length = l.length
 | [], r, h => by refine eqE h ?_; rfl
 | x :: l, r, h => by
  refine zb h fun y _ h => ?_
  obtain ⟨r', h', e9⟩ := Option.map_eq_some_iff.mp h; refine rwE e9.symm ?_
  simp [zec h']
section
variable {Ω : En} {A : Around} {Z Z' : Heap} {s s' : Shared} {c : TC} {env : Env} {ρ : Rho} {ad : Nat -> Addr}
 {Φ : Fs} {S : Sv} {n m : Nat}
theorem zgw {xs : List PyData} {v : Value} {s_2 : Shared} (S' : Stp Ω Z s Z' s') (p : zeq Ω Z' s' xs v s_2) : zeq Ω Z s xs v s_2 := by
 refine cps fun G0 hG_0 => ?_
 obtain ⟨Z2, a, vs, n, S2, e9, h1, h2, h3, r⟩ := p; obtain rfl := e9.symm
 refine hG_0 ?_
 refine I46 Z2 a vs n (S'.trans S2) rfl ?_ h2 h3 r
 induction e : s.heap.get? a with
 | none => rfl
 | some o => cases (S'.h _ _ e).symm.trans h1
theorem zeu (IH : zaP Ω Φ S n (tr m)) (hA : Rm A n) (hG : GlC c Φ) {es pos pes ds} (hl : es.length <= 1000) (h1 : zC (tr m c) es = some pes) (hd : exs S ρ pes = some ds)
  (hO : Ok Ω Z s) (hR : Rel c env Z s.heap ρ ad) :
  wpAny Ω.m A (eval (.List es pos) env) (zeq Ω Z s ds) zc s := by
 refine List_ (wpM (zcR IH hA hG h1 hd hO hR) (fun vs s_1 p => ?_))
 obtain ⟨Z_1, S_1, r_1⟩ := p
 have hlen : vs.length <= sizeLine := by
  rw [r_1.length, zec hd, zce h1]; exact nle hl (by decide)
 refine wpAny_newList ?_ hlen
 exact zgw S_1 (zbM (n := s_1.toks) S_1.ok (vs := vs.toArray) (by simpa using r_1))
theorem zd1 (IH : zaP Ω Φ S n (tr m)) (hA : Rm A n) (hG : GlC c Φ) {es k pos pes ds} (hl : es.length <= 1000) (h1 : zC (tr m c) es = some pes) (hd : exs S ρ pes = some ds)
  (hO : Ok Ω Z s) (hR : Rel c env Z s.heap ρ ad) :
  wpAny Ω.m A (eval (.Tuple es k pos) env) (Pst Ω Z s (.tuple ds)) zc s := by
 refine Tuple_ (wpM (zcR IH hA hG h1 hd hO hR) (fun vs s_1 p => ?_))
 obtain ⟨Z_1, S_1, r_1⟩ := p
 have hlen : vs.length <= sizeLine := by
  rw [r_1.length, zec hd, zce h1]; exact nle hl (by decide)
 refine wpAny_newTuple ?_ hlen
 exact zdE S_1 (zbq S_1.ok (vs := vs.toArray) (n := s_1.toks) (by simpa using r_1))
theorem zgx (IH : zaP Ω Φ S n (tr m)) (hA : Rm A n) (hG : GlC c Φ) {pos : Pos} : ∀ {es : List PySem.Expr} {pes : List PE} {d : PyData} {s : Shared} {Z : Heap},
  zC (tr m c) es = some pes -> zfR S ρ pes = some d -> Ok Ω Z s -> Rel c env Z s.heap ρ ad ->
  wpAny Ω.m A (boolOp pos .And (evalEach es env)) (Pst Ω Z s d) zc s
 | [], pes, d, s, Z, h1, h2, hO, hR => by cases h1; exact za h2
 | [e], pes, d, s, Z, h1, h2, hO, hR => by
  refine zb h1 fun pe he h1 => ?_
  cases h1
  exact IH c e pe ρ d he h2 A env Z s ad hA hG hO hR
 | e :: e' :: es, pes, d, s, Z, h1, h2, hO, hR => by
  refine zb h1 fun pe he h1 => ?_
  refine cps fun G0 hG_0 => ?_
  obtain ⟨pes', hes, e9⟩ := Option.map_eq_some_iff.mp h1; subst e9
  obtain ⟨pe2, pes2, rfl⟩ : ∃ a b, pes' = a :: b := by
   refine zb hes fun a _ h => ?_
   refine zQ h fun b _ e_0 => ?_
   (first | refine zky e_0 ?_ | subst e_0)
   exact I21 _ _ rfl
  refine hG_0 ?_
  change ((S.ex ρ pe).bind fun d => (zap d).bind fun b => if b then zfR S ρ (pe2 :: pes2) else some d) = some d at h2
  refine zb h2 fun x hx h2 => ?_
  refine zb h2 fun b hb h2 => ?_
  show wpAny _ _ (do
   let v <- eval e env
   standAt pos
   let t <- holding [v] (truthy v)
   match BoolOp.And, t with
   | .And, false | .Or, true => pure v
   | _, _ => boolOp pos .And (evalEach (e' :: es) env)) _ _ _
  refine Pst.bind (IH c e pe ρ x he hx A env Z s ad hA hG hO hR) fun v s_1 Z_1 S_1 r_1 => ?_
  refine wB (wpAny_standAt (wB (wpAny_holding (za4.then (zeo S_1.ok (.inl r_1) hb) fun s_2 Z_2 S_2 => ?_))))
  induction b with
  | false =>
   refine eqE h2 ?_
   exact wPu (zdE (S_1.trans S_2) (zq S_2.ok (r_1.mono S_2.f)))
  | true => exact z8 (S_1.trans S_2) (zgx IH hA hG hes h2 S_2.ok ((hR.stp S_1).stp S_2))
theorem zhM (IH : zaP Ω Φ S n (tr m)) (hA : Rm A n) (hG : GlC c Φ) {pos : Pos} : ∀ {es : List PySem.Expr} {pes : List PE} {d : PyData} {s : Shared} {Z : Heap},
  zC (tr m c) es = some pes -> orD S ρ pes = some d -> Ok Ω Z s -> Rel c env Z s.heap ρ ad ->
  wpAny Ω.m A (boolOp pos .Or (evalEach es env)) (Pst Ω Z s d) zc s
 | [], pes, d, s, Z, h1, h2, hO, hR => by cases h1; exact za h2
 | [e], pes, d, s, Z, h1, h2, hO, hR => by
  refine zb h1 fun pe he h1 => ?_
  cases h1
  exact IH c e pe ρ d he h2 A env Z s ad hA hG hO hR
 | e :: e' :: es, pes, d, s, Z, h1, h2, hO, hR => by
  refine zb h1 fun pe he h1 => ?_
  refine cps fun G0 hG_0 => ?_
  obtain ⟨pes', hes, e9⟩ := Option.map_eq_some_iff.mp h1; obtain rfl := e9.symm
  obtain ⟨pe2, pes2, rfl⟩ : ∃ a b, pes' = a :: b := by
   refine zb hes fun a _ h => ?_
   refine zQ h fun b _ e_0 => ?_
   (first | refine zky e_0 ?_ | subst e_0)
   exact I21 _ _ rfl
  refine hG_0 ?_
  change ((S.ex ρ pe).bind fun d => (zap d).bind fun b => if b then some d else orD S ρ (pe2 :: pes2)) = some d at h2
  refine zb h2 fun x hx h2 => ?_
  refine zb h2 fun b hb h2 => ?_
  show wpAny _ _ (do
   let v <- eval e env
   standAt pos
   let t <- holding [v] (truthy v)
   match BoolOp.Or, t with
   | .And, false | .Or, true => pure v
   | _, _ => boolOp pos .Or (evalEach (e' :: es) env)) _ _ _
  refine Pst.bind (IH c e pe ρ x he hx A env Z s ad hA hG hO hR) fun v s_1 Z_1 S_1 r_1 => ?_
  refine wB (wpAny_standAt (wB (wpAny_holding (za4.then (zeo S_1.ok (.inl r_1) hb) fun s_2 Z_2 S_2 => ?_))))
  induction b with
  | true =>
   refine eqE h2 ?_
   exact wPu (zdE (S_1.trans S_2) (zq S_2.ok (r_1.mono S_2.f)))
  | false => exact z8 (S_1.trans S_2) (zhM IH hA hG hes h2 S_2.ok ((hR.stp S_1).stp S_2))
theorem zhN (IT : zd0 Ω Φ S n (tr m)) (hA : Rm A n) (hG : GlC c Φ) : ∀ {es : List PySem.Expr} {pes : List PE} {d : PyData} {b : Bool} {s : Shared} {Z : Heap},
  zC (tr m c) es = some pes -> zfR S ρ pes = some d -> zap d = some b -> Ok Ω Z s -> Rel c env Z s.heap ρ ad ->
  wpAny Ω.m A (allTrue .And es env) (za4 Ω Z s b) zc s
 | [], pes, d, b, s, Z, h1, h2, hb, hO, hR => by cases h1; exact za h2
 | [e], pes, d, b, s, Z, h1, h2, hb, hO, hR => by
  refine zb h1 fun pe he h1 => ?_
  cases h1
  show wpAny _ _ (do
   match BoolOp.And, <- isTrue e env (eval e env) with
   | .And, false => pure false
   | .Or, true => pure true
   | _, _ => allTrue .And [] env) _ _ _
  refine wB (za4.then (IT c e pe ρ d b he h2 hb A env Z s ad hA hG hO hR) fun s_1 Z_1 S_1 => ?_)
  induction b
  ·exact wPu ⟨rfl, Z_1, S_1⟩
  ·exact wPu ⟨rfl, Z_1, S_1⟩
 | e :: e' :: es, pes, d, b, s, Z, h1, h2, hb, hO, hR => by
  refine zb h1 fun pe he h1 => ?_
  refine cps fun G0 hG_0 => ?_
  obtain ⟨pes', hes, e9⟩ := Option.map_eq_some_iff.mp h1; obtain rfl := e9.symm
  obtain ⟨pe2, pes2, rfl⟩ : ∃ a b, pes' = a :: b := by
   refine zb hes fun a _ h => ?_
   refine zQ h fun b _ e_0 => ?_
   (first | refine zky e_0 ?_ | subst e_0)
   exact I21 _ _ rfl
  refine hG_0 ?_
  change ((S.ex ρ pe).bind fun d => (zap d).bind fun b => if b then zfR S ρ (pe2 :: pes2) else some d) = some d at h2
  refine zb h2 fun x hx h2 => ?_
  obtain ⟨b', hb', h2⟩ := Option.bind_eq_some_iff.mp h2
  show wpAny _ _ (do
   match BoolOp.And, <- isTrue e env (eval e env) with
   | .And, false => pure false
   | .Or, true => pure true
   | _, _ => allTrue .And (e' :: es) env) _ _ _
  refine wB (za4.then (IT c e pe ρ x b' he hx hb' A env Z s ad hA hG hO hR) fun s_1 Z_1 S_1 => ?_)
  induction b' with
  | false =>
   cases h2
   refine eqE (hb'.symm.trans hb) ?_
   exact wPu ⟨rfl, Z_1, S_1⟩
  | true => exact zbQ S_1 (zhN IT hA hG hes h2 hb S_1.ok (hR.stp S_1))
theorem zjG (IT : zd0 Ω Φ S n (tr m)) (hA : Rm A n) (hG : GlC c Φ) : ∀ {es : List PySem.Expr} {pes : List PE} {d : PyData} {b : Bool} {s : Shared} {Z : Heap},
  zC (tr m c) es = some pes -> orD S ρ pes = some d -> zap d = some b -> Ok Ω Z s -> Rel c env Z s.heap ρ ad ->
  wpAny Ω.m A (allTrue .Or es env) (za4 Ω Z s b) zc s
 | [], pes, d, b, s, Z, h1, h2, hb, hO, hR => by cases h1; exact za h2
 | [e], pes, d, b, s, Z, h1, h2, hb, hO, hR => by
  refine zb h1 fun pe he h1 => ?_
  cases h1
  show wpAny _ _ (do
   match BoolOp.Or, <- isTrue e env (eval e env) with
   | .And, false => pure false
   | .Or, true => pure true
   | _, _ => allTrue .Or [] env) _ _ _
  refine wB (za4.then (IT c e pe ρ d b he h2 hb A env Z s ad hA hG hO hR) fun s_1 Z_1 S_1 => ?_)
  induction b
  ·exact wPu ⟨rfl, Z_1, S_1⟩
  ·exact wPu ⟨rfl, Z_1, S_1⟩
 | e :: e' :: es, pes, d, b, s, Z, h1, h2, hb, hO, hR => by
  refine zb h1 fun pe he h1 => ?_
  refine cps fun G0 hG_0 => ?_
  obtain ⟨pes', hes, e9⟩ := Option.map_eq_some_iff.mp h1; obtain rfl := e9.symm
  obtain ⟨pe2, pes2, rfl⟩ : ∃ a b, pes' = a :: b := by
   refine zb hes fun a _ h => ?_
   refine zQ h fun b _ e_0 => ?_
   (first | refine zky e_0 ?_ | subst e_0)
   exact I21 _ _ rfl
  refine hG_0 ?_
  change ((S.ex ρ pe).bind fun d => (zap d).bind fun b => if b then some d else orD S ρ (pe2 :: pes2)) = some d at h2
  refine zb h2 fun x hx h2 => ?_
  obtain ⟨b', hb', h2⟩ := Option.bind_eq_some_iff.mp h2
  show wpAny _ _ (do
   match BoolOp.Or, <- isTrue e env (eval e env) with
   | .And, false => pure false
   | .Or, true => pure true
   | _, _ => allTrue .Or (e' :: es) env) _ _ _
  refine wB (za4.then (IT c e pe ρ x b' he hx hb' A env Z s ad hA hG hO hR) fun s_1 Z_1 S_1 => ?_)
  induction b' with
  | true =>
   cases h2
   refine eqE (hb'.symm.trans hb) ?_
   exact wPu ⟨rfl, Z_1, S_1⟩
  | false => exact zbQ S_1 (zjG IT hA hG hes h2 hb S_1.ok (hR.stp S_1))
end
def Own (c : TC) (env : Env) (ρ : Rho) (ad : Nat -> Addr) (a : Addr) : Prop :=
 a = env.locals \/ (∃ x k i, c.nm.lookup x = some (k, i) /\ (k = .cell \/ k = .free) /\ c.lo <= i /\ env.cells.lookup x = some a) \/ (∃ i xs, ρ[i]? = some (some (.m xs)) /\ c.lo <= i /\ a = ad i)
def zaw (c : TC) (env : Env) (ρ : Rho) (ad : Nat -> Addr) (a : Addr) : Prop :=
 a = env.locals \/ (∃ x k i, c.nm.lookup x = some (k, i) /\ (k = .cell \/ k = .free) /\ env.cells.lookup x = some a) \/ (∃ i xs, ρ[i]? = some (some (.m xs)) /\ a = ad i)
structure StX (W : Addr -> Prop) (GI : Nat -> Prop) (Ω : En) (Z : Heap) (s : Shared) (Z' : Heap) (s' : Shared) : Prop where
 ok : Ok Ω Z' s'
 f : Sub Z Z'
 new : ∀ b o, ¬ W b -> s.heap.get? b = some o -> Z'.get? b = Z.get? b
 h : ∀ b o, ¬ W b -> s.heap.get? b = some o -> s'.heap.get? b = some o
 g : ∀ (i : Nat) (x : GenState), ¬ GI i -> s.gens[i]? = some x -> s'.gens[i]? = some x
 gs : s.gens.size <= s'.gens.size
section
variable {Ω : En} {A : Around} {Z Z' Z'' : Heap} {s s' s'' : Shared} {c : TC} {env : Env} {ρ : Rho} {ad : Nat -> Addr}
 {W W' : Addr -> Prop} {GI GI' : Nat -> Prop}
theorem GK.size {g g' : Array GenState} (h : GK g g') : g.size <= g'.size := by
 refine Or.elim (Nat.eq_zero_or_pos g.size) (fun e => ?_) fun e => ?_
 ·lia
 ·have := h (g.size - 1) g[g.size - 1] (by rw [Array.getElem?_eq_getElem (by omega)])
  have : g.size - 1 < g'.size := by
   refine Or.elim (Nat.lt_or_ge (g.size - 1) g'.size) (fun q => ?_) fun q => ?_
   ·exact q
   ·exact za ((Array.getElem?_eq_none q).symm.trans this)
  omega
theorem Stp.x (S : Stp Ω Z s Z' s') : StX W GI Ω Z s Z' s' :=
 ⟨S.ok, S.f, fun b o u e => S.new b o e, fun b o u e => S.h b o e, fun i x u e => S.g i x e, GK.size S.g⟩
theorem StX.stp (S : StX (fun u => False) (fun u => False) Ω Z s Z' s') : Stp Ω Z s Z' s' :=
 ⟨S.ok, S.f, fun b o e => S.new b o id e, fun b o e => S.h b o id e, fun i x e => S.g i x id e⟩
theorem StX.refl (h : Ok Ω Z s) : StX W GI Ω Z s Z s := (Stp.refl h).x
theorem StX.trans (a : StX W GI Ω Z s Z' s') (b : StX W' GI' Ω Z' s' Z'' s'') (hW : ∀ x, W' x -> W x \/ s.heap.get? x = none) (hG : ∀ i, GI' i -> GI i \/ s.gens.size <= i) : StX W GI Ω Z s Z'' s'' where
 ok := b.ok
 f := a.f.trans b.f
 new := fun x o n e => by
  have n' : ¬ W' x := fun q => by
   rcases hW x q with q | q
   ·exact n q
   ·rw [q] at e; exact za e
  exact (b.new x o n' (a.h x o n e)).trans (a.new x o n e)
 h := fun x o n e => by
  have n' : ¬ W' x := fun q => by
   rcases hW x q with q | q
   ·exact n q
   ·rw [q] at e; exact za e
  exact b.h x o n' (a.h x o n e)
 g := fun i x n e => by
  have n' : ¬ GI' i := fun q => by
   refine Or.elim (hG i q) (fun q => ?_) fun q => ?_
   ·exact n q
   ·exact za ((Array.getElem?_eq_none q).symm.trans e)
  exact b.g i x n' (a.g i x n e)
 gs := nle a.gs b.gs
theorem StX.mono (a : StX W GI Ω Z s Z' s') (hW : ∀ x, W x -> W' x \/ s.heap.get? x = none) (hG : ∀ i, GI i -> GI' i \/ s.gens.size <= i) : StX W' GI' Ω Z s Z' s' where
 ok := a.ok
 f := a.f
 new := fun x o n e => a.new x o (fun q => by
  rcases hW x q with q | q
  ·exact n q
  ·rw [q] at e; exact za e) e
 h := fun x o n e => a.h x o (fun q => by
  rcases hW x q with q | q
  ·exact n q
  ·rw [q] at e; exact za e) e
 g := fun i x n e => a.g i x (fun q => by
  refine Or.elim (hG i q) (fun q => ?_) fun q => ?_
  ·exact n q
  ·exact za ((Array.getElem?_eq_none q).symm.trans e)) e
 gs := a.gs
theorem StX.fresh (a : StX W GI Ω Z s Z' s') {x : Addr} (h : s'.heap.get? x = none) : W x \/ s.heap.get? x = none := by
 by_cases w : W x
 ·exact .inl w
 refine .inr ?_
 induction e : s.heap.get? x with
 | none => rfl
 | some o => cases (a.h x o w e).symm.trans h
theorem Stp.fresh (a : Stp Ω Z s Z' s') {x : Addr} (h : s'.heap.get? x = none) : s.heap.get? x = none := ((a.x (W := fun u => False) (GI := fun u => False)).fresh h).resolve_left id
theorem StX.write (hO : Ok Ω Z s) {a : Addr} {h' : Heap} {n : Nat} (hz : Z.get? a = none) (hW : W a) (hs : Heap.SameBut a s.heap h') :
  StX W GI Ω Z s Z { s with heap := h', toks := n } where
 ok := ⟨fun b o e => by
  have hb : b ≠ a := by rintro rfl; exact za (hz.symm.trans e)
  exact (hs.2 b hb).trans (hO.sub b o e), hO.base, hO.os, hO.gens⟩
 f := .refl _
 new := fun u v w x => rfl
 h := fun b o nb e => by
  have hb : b ≠ a := by rintro rfl; exact nb hW
  exact (hs.2 b hb).trans e
 g := fun u v w e => e
 gs := Nat.le_refl _
theorem Rel.stX (R : Rel c env Z s.heap ρ ad) (S : StX W GI Ω Z s Z' s') (d : ∀ a, zaw c env ρ ad a -> ¬ W a) : Rel c env Z' s'.heap ρ ad where
 kind := R.kind
 names := R.names
 glob := R.glob
 blt := R.blt
 loc := by
  refine cps fun G0 hG_0 => ?_
  obtain ⟨m, ⟨o, es, ep, ho, r⟩, hm⟩ := R.loc
  refine hG_0 ?_
  exact I12 m (I32 o es ep (S.h _ _ (d _ (.inl rfl)) ho) r) (fun x i pv a b => E12 (hm x i pv a b) fun v e r =>  (I12 v e (r.mono S.f)))
 cel := fun x k i a b => by
  obtain ⟨ca, ov, e, ⟨o, ho, hd⟩, hz, hv⟩ := R.cel x k i a b
  have hn := d ca (.inr (.inl (I33 x k i a b e)))
  exact I24 ca ov e (I12 o (S.h _ _ hn ho) hd) (by rw [S.new _ _ hn ho]; exact hz) (fun pv q => E12 (hv pv q) fun v e r =>  (I12 v e (r.mono S.f)))
 apL := by
  refine cps fun G0 hG_0 => ?_
  obtain ⟨m, ⟨o, _, _, ho, _⟩, _⟩ := R.loc
  refine hG_0 ?_
  rw [S.new _ _ (d _ (.inl rfl)) ho]; exact R.apL
 injS := R.injS
 injC := R.injC
 own := fun i xs e => by
  obtain ⟨vs, n, a, b, z⟩ := R.own i xs e
  have hn := d (ad i) (.inr (.inr (I22 i xs e rfl)))
  exact I23 vs n (S.h _ _ hn a) (b.mono S.f) (by rw [S.new _ _ hn a]; exact z)
 ownInj := R.ownInj
 hi := R.hi
 slot := R.slot
 mainL := R.mainL
theorem Rel.foot_live {h : Heap} (R : Rel c env Z h ρ ad) {a : Addr} (f : zaw c env ρ ad a) : (∃ o, h.get? a = some o) /\ Z.get? a = none := by
 rcases f with rfl | ⟨x, k, i, e, hk, hc⟩ | ⟨i, xs, e, rfl⟩
 ·refine cps fun G0 hG_0 => ?_
  obtain ⟨m, ⟨o, _, _, ho, _⟩, _⟩ := R.loc
  refine hG_0 ?_
  exact ⟨⟨o, ho⟩, R.apL⟩
 ·obtain ⟨ca, ov, e', ⟨o, ho, _⟩, hz, _⟩ := R.cel x k i e hk
  cases hc.symm.trans e'
  exact ⟨⟨o, ho⟩, hz⟩
 ·obtain ⟨vs, n, a, b, z⟩ := R.own i xs e
  exact ⟨⟨_, a⟩, z⟩
theorem Own.foot {a : Addr} (o : Own c env ρ ad a) : zaw c env ρ ad a := by
 rcases o with h | ⟨x, k, i, e, hk, _, hc⟩ | ⟨i, xs, e, _, h⟩
 ·exact .inl h
 ·exact .inr (.inl (I33 x k i e hk hc))
 ·exact .inr (.inr (I22 i xs e h))
theorem zlu {h : Heap} {a b : Addr} {m v} (x : h.Ns a m) (y : h.IsCell b v) : b ≠ a := by
 rintro rfl
 obtain ⟨o, es, ep, ho, hd, _⟩ := x
 obtain ⟨o', ho', hd'⟩ := y
 cases ho.symm.trans ho'
 cases hd.symm.trans hd'
theorem ziB {h : Heap} {a b : Addr} {m xs} (x : h.Ns a m) (y : zbv Z h b xs) : b ≠ a := by
 rintro rfl
 obtain ⟨o, es, ep, ho, hd, _⟩ := x
 obtain ⟨vs, n, ho', _⟩ := y
 cases ho.symm.trans ho'
 cases hd
theorem zev {h : Heap} {a b : Addr} {v xs} (x : h.IsCell a v) (y : zbv Z h b xs) : b ≠ a := by
 rintro rfl
 obtain ⟨o, ho, hd⟩ := x
 obtain ⟨vs, n, ho', _⟩ := y
 cases ho.symm.trans ho'
 cases hd
theorem zbv.but {h h' : Heap} {a b : Addr} {xs} (x : zbv Z h b xs) (hs : Heap.SameBut a h h') (hb : b ≠ a) : zbv Z h' b xs :=
 E23 x fun vs n e r z =>  (I23 vs n ((hs.2 b hb).trans e) r z)
theorem zew {x : Str} {i : Nat} (h : zN c x = some i) : c.lo <= i /\ (c.nm.lookup x = some (.local, i) \/ c.nm.lookup x = some (.cell, i)) := by
 refine ifN h fun hcd h => ?_
 clear hcd
 revert h
 induction c.nm.lookup x with
 | none => exact fun h => za h
 | some p =>
  induction p with
  | mk k j =>
   induction k using NameKind.casesOn with
   | «local» => exact fun h => ifE h fun hl h => eqE h ⟨hl, .inl rfl⟩
   | cell => exact fun h => ifE h fun hl h => eqE h ⟨hl, .inr rfl⟩
   | _ => exact fun h => za h
theorem zcf {x : Str} {i : Nat} (h : zN c x = some i) : (x == ("__debug__" : Str)) = false := by
 exact ifN h fun hcd _ => Bool.not_eq_true _ ▸ hcd
theorem zr {ρ : Rho} {i j : Nat} {pv pv' : PV} (h : (ρ.set i (some pv))[j]? = some (some pv')) : (j = i /\ pv' = pv) \/ (j ≠ i /\ ρ[j]? = some (some pv')) := by
 have h := List.getElem?_set ▸ h
 split at h
 ·refine ifE h fun _ h => ?_
  cases h; exact .inl ⟨by lia, rfl⟩
 ·exact .inr ⟨by lia, h⟩
theorem zf7 {ad ad' : Nat -> Addr} {i : Nat} {v : Value} {pv : PV} (h : ad' i = ad i) (r : zc8 Z ad i v pv) : zc8 Z ad' i v pv := by
 induction pv with
 | d x => exact r
 | m xs => exact r.trans (by rw [h])
theorem zdj {x : Str} {i : Nat} {v : Value} {pv : PV} {ad' : Nat -> Addr} (hs : zN c x = some i) (hO : Ok Ω Z s) (R : Rel c env Z s.heap ρ ad)
  (had : ∀ j, j ≠ i -> ad' j = ad j) (hv : zc8 Z ad' i v pv) (hm : ∀ xs, pv = .m xs -> zbv Z s.heap (ad' i) xs /\ ∀ j ys, j ≠ i -> ρ[j]? = some (some (.m ys)) -> ad j ≠ ad' i)
  {Q : Unit -> Shared -> Prop} {E} (h : ∀ s', StX (Own c env ρ ad) GI Ω Z s Z s' -> Rel c env Z s'.heap (ρ.set i (some pv)) ad' -> Q () s') :
  wpAny Ω.m A (storeName env x v) Q E s := by
 obtain ⟨hlo, hx⟩ := zew hs
 have hn := R.names x
 obtain ⟨m, hns, hml⟩ := R.loc
 have slotx : ∀ y k j, c.nm.lookup y = some (k, j) -> k ≠ .globalImplicit -> j = i -> y = x := fun y k j e hk ej => by
  obtain rfl := ej.symm
  refine Or.elim hx (fun hx => ?_) fun hx => ?_
  ·exact R.injS y x _ _ _ e hx hk (by decide)
  ·exact R.injS y x _ _ _ e hx hk (by decide)
 have hi : i < c.nx := by
  refine Or.elim hx (fun hx => ?_) fun hx => ?_
  ·exact R.slot _ _ _ hx (by decide)
  ·exact R.slot _ _ _ hx (by decide)
 rcases hx with hx | hx
 ·
  have hn := hx ▸ hn
  refine wpAny_storeName_local hn hns (fun h' hns' hs' => h _ (StX.write (W := Own c env ρ ad) hO R.apL (.inl rfl) hs') ?_) (by rw [R.kind]; rfl)
  refine { R with loc := I12 _ hns' ?_, cel := ?_, own := ?_, ownInj := ?_, hi := ?_ }
  ·intro y j pv' e q
   refine Or.elim (zr q) (fun h9 => ?_) fun h9 => ?_
   ·obtain ⟨e90, e91⟩ := h9; obtain rfl := e90.symm; refine rwB e91.symm ?_
    cases slotx y _ _ e (by decide) rfl
    exact I12 v (if_pos rfl) hv
   ·obtain ⟨hj, q⟩ := h9
    obtain ⟨u, hu, r⟩ := hml y j pv' e q
    have hy : y ≠ x := by intro h9; obtain rfl := h9.symm; cases hx.symm.trans e; exact hj rfl
    exact I12 u ((if_neg hy).trans hu) (zf7 (had j hj) r)
  ·intro y k j e hk
   obtain ⟨ca, ov, e', hc, hz, hv'⟩ := R.cel y k j e hk
   refine I24 ca ov e' (hc.sameBut hs' (zlu hns hc)) hz (fun pv' q => ?_)
   refine Or.elim (zr q) (fun h9 => ?_) fun h9 => ?_
   ·obtain ⟨e90, e91⟩ := h9; obtain rfl := e90.symm; refine rwE e91.symm ?_
    obtain rfl := slotx y _ _ e (by rcases hk with rfl | rfl <;> decide) rfl
    cases hx.symm.trans e
    rcases hk with h | h <;> cases h
   ·obtain ⟨hj, q⟩ := h9
    obtain ⟨u, hu, r⟩ := hv' pv' q
    exact I12 u hu (zf7 (had j hj) r)
  ·intro j xs q
   refine Or.elim (zr q) (fun h9 => ?_) fun h9 => ?_
   ·obtain ⟨e90, e⟩ := h9; refine rwE e90 ?_
    have hm' := (hm xs e.symm).1
    exact hm'.but hs' (ziB hns hm')
   ·obtain ⟨hj, q⟩ := h9
    rw [had j hj]
    exact (R.own j xs q).but hs' (ziB hns (R.own j xs q))
  ·intro j k xs ys q q' e
   refine Or.elim (zr q) (fun h9 => ?_) fun h9 => ?_
   ·obtain ⟨e90, e1⟩ := h9; obtain rfl := e90.symm
    refine Or.elim (zr q') (fun h9 => ?_) fun h9 => ?_
    ·obtain ⟨e90, e2⟩ := h9; refine rwE e90.symm ?_
     rfl
    ·obtain ⟨hk, q'⟩ := h9
     have e := (had k hk) ▸ e
     exact absurd e.symm ((hm xs e1.symm).2 k ys hk q')
   ·obtain ⟨hj, q⟩ := h9
    rcases zr q' with ⟨ek, e2⟩ | ⟨hk, q'⟩
    ·obtain rfl := ek.symm
     rw [had j hj] at e
     exact absurd e ((hm ys e2.symm).2 j xs hj (by assumption))
    ·rw [had j hj, had k hk] at e
     exact R.ownInj j k xs ys q q' e
  ·intro j pv' q
   refine Or.elim (zr q) (fun h9 => ?_) fun h9 => ?_
   ·obtain ⟨e90, e91⟩ := h9; refine rwB e90.symm ?_; refine rwE e91.symm ?_
    exact hi
   ·obtain ⟨hj, q⟩ := h9
    exact R.hi j pv' q
 ·
  have hn := hx ▸ hn
  obtain ⟨ca, ov, hca, hc, hz, hv'⟩ := R.cel x _ i hx (.inl rfl)
  refine wpAny_storeName_cell R.kind hn hca hc (fun h' hc' hs' => h _ (StX.write (n := s.toks) (W := Own c env ρ ad) hO hz (.inr (.inl (I34 x _ i hx (.inl rfl) hlo hca))) hs') ?_)
  refine { R with loc := I12 _ (hns.sameBut hs' (zlu hns hc).symm) ?_, cel := ?_, own := ?_, ownInj := ?_, hi := ?_ }
  ·intro y j pv' e q
   refine Or.elim (zr q) (fun h9 => ?_) fun h9 => ?_
   ·obtain ⟨e90, e91⟩ := h9; obtain rfl := e90.symm; refine rwE e91.symm ?_
    cases slotx y _ _ e (by decide) rfl
    cases hx.symm.trans e
   ·obtain ⟨hj, q⟩ := h9
    obtain ⟨u, hu, r⟩ := hml y j pv' e q
    exact I12 u hu (zf7 (had j hj) r)
  ·intro y k j e hk
   obtain ⟨cb, ob, e', hc2, hz2, hv2⟩ := R.cel y k j e hk
   by_cases hy : y = x
   ·obtain rfl := hy.symm
    refine eqE (hca.symm.trans e') ?_
    refine zaE (hx.symm.trans e) ?_
    refine I24 ca (some v) hca hc' hz (fun pv' q => ?_)
    refine Or.elim (zr q) (fun h9 => ?_) fun h9 => ?_
    ·obtain ⟨_, e90⟩ := h9; refine rwB e90.symm ?_
     exact I12 v rfl hv
    ·obtain ⟨hj, q⟩ := h9
     exact absurd rfl hj
   ·have hne : cb ≠ ca := by intro h9; obtain rfl := h9.symm; exact hy (R.injC y x _ e' hca)
    refine I24 cb ob e' (hc2.sameBut hs' hne) hz2 (fun pv' q => ?_)
    refine Or.elim (zr q) (fun h9 => ?_) fun h9 => ?_
    ·obtain ⟨e90, e91⟩ := h9; obtain rfl := e90.symm; refine rwE e91.symm ?_
     exact absurd (slotx y _ _ e (by rcases hk with rfl | rfl <;> decide) rfl) hy
    ·obtain ⟨hj, q⟩ := h9
     obtain ⟨u, hu, r⟩ := hv2 pv' q
     exact I12 u hu (zf7 (had j hj) r)
  ·intro j xs q
   refine Or.elim (zr q) (fun h9 => ?_) fun h9 => ?_
   ·obtain ⟨e90, e⟩ := h9; refine rwE e90 ?_
    have hm' := (hm xs e.symm).1
    exact hm'.but hs' (zev hc hm')
   ·obtain ⟨hj, q⟩ := h9
    rw [had j hj]
    exact (R.own j xs q).but hs' (zev hc (R.own j xs q))
  ·intro j k xs ys q q' e
   refine Or.elim (zr q) (fun h9 => ?_) fun h9 => ?_
   ·obtain ⟨e90, e1⟩ := h9; obtain rfl := e90.symm
    refine Or.elim (zr q') (fun h9 => ?_) fun h9 => ?_
    ·obtain ⟨e90, e2⟩ := h9; refine rwE e90.symm ?_
     rfl
    ·obtain ⟨hk, q'⟩ := h9
     rw [had k hk] at e
     exact absurd e.symm ((hm xs e1.symm).2 k ys hk q')
   ·obtain ⟨hj, q⟩ := h9
    rcases zr q' with ⟨ek, e2⟩ | ⟨hk, q'⟩
    ·obtain rfl := ek.symm
     rw [had j hj] at e
     exact absurd e ((hm ys e2.symm).2 j xs hj (by assumption))
    ·rw [had j hj, had k hk] at e
     exact R.ownInj j k xs ys q q' e
  ·intro j pv' q
   refine Or.elim (zr q) (fun h9 => ?_) fun h9 => ?_
   ·obtain ⟨e90, e91⟩ := h9; refine rwB e90.symm ?_; refine rwE e91.symm ?_
    exact hi
   ·obtain ⟨hj, q⟩ := h9
    exact R.hi j pv' q
end
section
variable {Ω : En} {A : Around} {Z Z' Z'' : Heap} {s s' s'' : Shared} {c : TC} {env : Env} {ρ : Rho} {ad : Nat -> Addr}
 {W W' : Addr -> Prop} {GI GI' : Nat -> Prop} {E : Value -> Shared -> Prop}
theorem zhO {it l : Addr} {items : Array Value} (hne : l ≠ it) : ∀ (n i : Nat) (s : Shared) (Q : List Value -> Shared -> Prop), s.heap.IsListIter it l i -> s.heap.IsList l items -> i + n <= items.size ->
  (∀ h', h'.IsListIter it l (i + n) -> Heap.SameBut it s.heap h' -> Q ((items.toList.drop i).take n) { s with heap := h' }) -> wpAny Ω.m A (draw (.ref it) n) Q E s
 | 0, i, s, Q, hit, _, _, hQ => by
  exact wPu (by simpa using hQ s.heap hit (Heap.SameBut.refl ..))
 | n + 1, i, s, Q, hit, ht, hle, hQ => by
  have hlt : i < items.size := by lia
  refine wB (wpAny_pyNext_list_item hit ht (x := items[i]) (by simp) fun h_1 hit_1 hs_1 => ?_)
  refine wB (wpAny_holding (zhO hne n (i + 1) _ _ hit_1 (ht.extBut hs_1.extBut hne) (by lia) fun h_2 hit_2 hs_2 => wPu ?_))
  have := hQ h_2 (by rw [show i + (n + 1) = i + 1 + n by lia]; exact hit_2) (hs_1.trans hs_2)
  rw [(by simp [List.drop_eq_getElem_cons, hlt] : items.toList.drop i = items[i] :: items.toList.drop (i + 1)), List.take_succ_cons] at this
  exact this
theorem zjH {t : Addr} {items : Array Value} {Q : List Value -> Shared -> Prop} (hh : A.handled = none) (ht : s.heap.IsList t items)
  (hQ : ∀ h', Heap.ExtBut s.heap.objs.size s.heap h' -> Q items.toList { s with heap := h' }) : wpAny Ω.m A (unpackItems (.ref t) items.size none) Q E s := by
 have hlt : t ≠ s.heap.objs.size := by obtain ⟨o, ho, _⟩ := ht; exact Nat.ne_of_lt (Heap.lt_size ho)
 refine wB ?_
 ·refine wB (wpAny_specialOf ht.typeIs PySem.slot_list_iter.lookup ?_)
  refine wPu ?_
  refine wB (wpAny_holding (wpAny_pyIter_list ht ?_))
  refine wB (wpAny_holding (zhO hlt items.size 0 _ _ (I13 _ (Heap.get?_push_size _ rfl) rfl rfl) (ht.push _) (by simp) fun h_1 hit_1 hs_1 => ?_))
  have hall : List.take items.size (List.drop 0 items.toList) = items.toList := by
   exact List.take_of_length_le (by simp)
  rw [hall]
  rw [if_neg (by simp)]
  refine wB (wpAny_holding (wpAny_pyNext_list_end hh hit_1 ((ht.push _).extBut hs_1.extBut hlt) (by simp) fun h_2 he_2 => ?_))
  refine wPu (hQ h_2 fun b o hb e => he_2 b o hb (hs_1.extBut b o hb (Heap.get?_push_of_some _ e)))
theorem zgy {h h' : Heap} (x : Heap.ExtBut h.objs.size h h') : Sub h h' := fun b o e => x b o (Nat.ne_of_lt (Heap.lt_size e)) e
theorem zf8 {i : Nat} {d : PyData} {a : Addr} (o : Own c env (ρ.set i (some (.d d))) ad a) : Own c env ρ ad a := by
 rcases o with h | h | ⟨j, xs, e, hl, h⟩
 ·exact .inl h
 ·exact .inr (.inl h)
 ·rcases zr e with ⟨_, e⟩ | ⟨_, e⟩
  ·cases e
  ·exact .inr (.inr (I23 j xs e hl h))
mutual
theorem zbR : ∀ {t : Tgt} {x : PyData} {ρ ρ' : Rho} {a : Addr}, zax t x ρ = some ρ' -> Own c env ρ' ad a -> Own c env ρ ad a
 | .v i, x, ρ, ρ', a, h, o => by
  exact zf8 ((Option.some.inj h).symm ▸ o)
 | .t ts, x, ρ, ρ', a, h, o => by
  induction x using PyData.casesOn with
  | tuple xs => exact zed h o
  | list xs => exact zed h o
  | _ => exact za h
theorem zed : ∀ {ts : List Tgt} {xs : List PyData} {ρ ρ' : Rho} {a : Addr}, zcm ts xs ρ = some ρ' -> Own c env ρ' ad a -> Own c env ρ ad a
 | [], xs, ρ, ρ', a, h, o => by
  induction xs using List.casesOn with
  | nil => cases h; exact o
  | cons x xs => exact za h
 | t :: ts, xs, ρ, ρ', a, h, o => by
  induction xs using List.casesOn with
  | nil => exact za h
  | cons x xs =>
   refine zb h fun ρ1 h1 h2 => ?_
   exact zbR h1 (zed h2 o)
end
mutual
theorem zfa : ∀ {t : Tgt} {x : PyData} {ρ ρ' : Rho} {j : Nat}, zax t x ρ = some ρ' -> j ∉ zO t -> ρ'[j]? = ρ[j]?
 | .v i, x, ρ, ρ', j, h, o => by
  refine eqE h ?_
  simp only [zO, List.mem_singleton] at o
  rw [List.getElem?_set, if_neg (fun e => o e.symm)]
 | .t ts, x, ρ, ρ', a, h, o => by
  induction x using PyData.casesOn with
  | tuple xs => exact zee h o
  | list xs => exact zee h o
  | _ => exact za h
theorem zee : ∀ {ts : List Tgt} {xs : List PyData} {ρ ρ' : Rho} {j : Nat}, zcm ts xs ρ = some ρ' -> j ∉ zdC ts -> ρ'[j]? = ρ[j]?
 | [], xs, ρ, ρ', a, h, o => by
  induction xs using List.casesOn with
  | nil => refine eqE h ?_; rfl
  | cons x xs => exact za h
 | t :: ts, xs, ρ, ρ', a, h, o => by
  induction xs using List.casesOn with
  | nil => exact za h
  | cons x xs =>
   simp only [zdC, List.mem_append, not_or] at o
   refine zb h fun ρ1 h1 h2 => ?_
   rw [zee h2 o.2, zfa h1 o.1]
end
theorem zfy {n : Nat} {e : PySem.Expr} {t : Tgt} (h : trT c n e = some t) : zcA e = false := by
 induction n using Nat.casesOn with
 | zero => exact za h
 | succ n => cases e <;> first | rfl | (exact za h)
theorem zc2 {e : PySem.Expr} {rest : List PySem.Expr} (h : zcA e = false) : assignEach (e :: rest) env = (false, assign e env) :: assignEach rest env := by
 cases e <;> first | rfl | (exact Bool.noConfusion h)
theorem zdk {n : Nat} : ∀ {es : List PySem.Expr} {ts : List Tgt}, zC (trT c n) es = some ts -> (assignEach es env).length = ts.length /\ (assignEach es env).findIdx? (·.1) = none
 | [], ts, h => by refine eqE h ?_; exact ⟨rfl, rfl⟩
 | e :: es, ts, h => by
  refine zb h fun t ht h => ?_
  obtain ⟨ts', hts, e9⟩ := Option.map_eq_some_iff.mp h; refine rwE e9.symm ?_
  obtain (⟨h1, h2⟩) := zdk hts
  rw [zc2 (zfy ht)]
  refine ⟨by simp [h1], ?_⟩
  rw [List.findIdx?_cons]
  simp [h2]
theorem zcS : ∀ {ts : List Tgt} {xs : List PyData} {ρ ρ' : Rho}, zcm ts xs ρ = some ρ' -> ts.length = xs.length
 | [], xs, ρ, ρ', h => by
  induction xs using List.casesOn with
  | nil => rfl
  | cons x xs => exact za h
 | t :: ts, xs, ρ, ρ', h => by
  induction xs using List.casesOn with
  | nil => exact za h
  | cons x xs =>
   refine zb h fun ρ1 h1 h2 => ?_
   simp [zcS h2]
def zqV (Ω : En) (A : Around) (GI : Nat -> Prop) (c : TC) (env : Env) (ad : Nat -> Addr) (e : PySem.Expr) (t : Tgt) : Prop :=
 ∀ x v ρ ρ' s Z, zax t x ρ = some ρ' -> Ok Ω Z s -> Rel c env Z s.heap ρ ad -> Rep Z v x ->
  wpAny Ω.m A (assign e env v) (fun u s' => StX (Own c env ρ ad) GI Ω Z s Z s' /\ Rel c env Z s'.heap ρ' ad) zc s
theorem zgz {n : Nat} (IH : ∀ e t, trT c n e = some t -> zqV Ω A GI c env ad e t) : ∀ (es : List PySem.Expr) (ts : List Tgt) (xs : List PyData) (vs : List Value) (ρ ρ' : Rho) (s : Shared),
  zC (trT c n) es = some ts -> zcm ts xs ρ = some ρ' -> Ok Ω Z s -> Rel c env Z s.heap ρ ad -> zv Z vs xs ->
  wpAny Ω.m A (assignInOrder ((assignEach es env).map (·.2)) vs) (fun u s' => StX (Own c env ρ ad) GI Ω Z s Z s' /\ Rel c env Z s'.heap ρ' ad) zc s
 | [], ts, xs, vs, ρ, ρ', s, h1, h2, hO, hR, hr => by
  cases h1
  obtain rfl : xs = [] := List.length_eq_zero_iff.mp (by simpa using (zcS h2).symm)
  refine eqE h2 ?_
  exact wPu ⟨StX.refl hO, hR⟩
 | e :: es, ts, xs, vs, ρ, ρ', s, h1, h2, hO, hR, hr => by
  refine zb h1 fun t ht h1 => ?_
  obtain ⟨ts', hts, e9⟩ := Option.map_eq_some_iff.mp h1; obtain rfl := e9.symm
  induction xs using List.casesOn with
  | nil => exact za h2
  | cons x xs =>
   refine zb h2 fun ρ1 hb1 hb2 => ?_
   obtain ⟨v, vs', e9, r1, r2⟩ := zy.mp hr; refine rwE e9 ?_
   rw [zc2 (zfy ht)]
   show wpAny _ _ (do holding vs' (assign e env v); assignInOrder ((assignEach es env).map (·.2)) vs') _ _ _
   refine wB (wpAny_holding (wpAny_mono (IH e t ht x v ρ ρ1 s Z hb1 hO hR r1) (fun u s_1 p => ?_) fun u w q => q))
   refine wpAny_mono (zgz IH es ts' xs vs' ρ1 ρ' s_1 hts hb2 p.1.ok p.2 r2) (fun u s_2 p => ?_) fun u w q => q
   obtain ⟨S_2, R_2⟩ := p
   exact ⟨p.1.trans S_2 (fun a o => .inl (zbR hb1 o)) (fun i g => .inl g), R_2⟩
theorem zbS (hA : A.handled = none) : ∀ (n : Nat) (e : PySem.Expr) (t : Tgt), trT c n e = some t -> zqV Ω A GI c env ad e t
 | 0, e, t, h => by exact za h
 | n + 1, e, t, h => by
  intro x v ρ ρ' s Z hb hO hR r
  induction e using PySem.Expr.casesOn with
  | Name y p =>
   refine zb h fun i hi h => ?_
   refine ifN h fun _ h => ?_
   cases h
   refine eqE hb ?_
   exact wpAny_assign_Name (zdj (ad' := ad) (pv := .d x) hi hO hR (fun u w => rfl) r (fun xs e => nomatch e) fun s' S R => ⟨S, R⟩)
  | Tuple es k p =>
   refine zQ h fun ts hts e_0 => ?_
   subst e_0
   obtain (⟨hl, hst⟩) := zdk (env := env) hts
   refine wB (wpAny_standAt ?_)
   unfold unpack
   rw [hst]
   have fin : ∀ {xs vs h'}, zcm ts xs ρ = some ρ' -> zv Z vs xs -> Heap.ExtBut s.heap.objs.size s.heap h' ->
     wpAny Ω.m A (assignInOrder ((assignEach es env).map (·.2)) vs) (fun u s' => StX (Own c env ρ ad) GI Ω Z s Z s' /\ Rel c env Z s'.heap ρ' ad) zc { s with heap := h' } := by
    intro xs vs h' hb rs hx
    have S_1 : Stp Ω Z s Z { s with heap := h' } := Stp.grow (n := s.toks) hO (zgy hx)
    refine wpAny_mono (zgz (zbS hA n) es ts xs vs ρ ρ' _ hts hb S_1.ok (hR.stp S_1) rs) (fun u s_2 p => ?_) fun u w q => q
    exact ⟨S_1.x.trans p.1 (fun a o => .inl o) (fun i g => .inl g), p.2⟩
   induction x using PyData.casesOn with
   | tuple xs =>
    obtain (⟨a, vs, k, rfl, e, r⟩) := r
    have hn : (assignEach es env).length = vs.size := by rw [hl, zcS hb, zp r] at |-
    rw [hn] at |-
    exact wB (wpAny_holding (wpAny_unpackItems_tuple hA ⟨_, hO.sub _ _ e, rfl, k, rfl⟩ fun h' hx => fin hb r hx))
   | list xs =>
    obtain (⟨a, vs, k, rfl, e, r⟩) := r
    have hn : (assignEach es env).length = vs.size := by rw [hl, zcS hb, zp r] at |-
    rw [hn] at |-
    exact wB (wpAny_holding (zjH hA ⟨_, hO.sub _ _ e, rfl, k, rfl⟩ fun h' hx => fin hb r hx))
   | _ => exact za hb
  | _ => exact za h
end
noncomputable def zpF : List String := ["enumerate", "zip", "dict_itemiterator", "dict_reverseitemiterator", "odict_iterator", "itertools.zip_longest", "itertools.pairwise"]
section
variable {Ω : En} {A : Around} {Z Z' Z'' : Heap} {s s' s'' : Shared} {c : TC} {env : Env} {ρ : Rho} {ad : Nat -> Addr}
 {W W' : Addr -> Prop} {GI GI' : Nat -> Prop} {E : Value -> Shared -> Prop}
set_option tactic.hygienic true in
theorem zfz {target : PySem.Expr} {I : Addr} {v : Value} {o : Obj} {T : String} {Q : Unit -> Shared -> Prop} (ho : s.heap.get? I = some o) (hc : o.cls = .type T) (hT : zpF.contains T = false) (h : Q () s) :
  wpAny Ω.m A (letOwnedTupleGo target (.ref I) v) Q E s := by
 have main : ∀ a, wpAny Ω.m A (do
   let o <- load I
   match o.cls, o.data with
   | .type n, .fields vs =>
    if ["enumerate", "zip", "dict_itemiterator", "dict_reverseitemiterator", "odict_iterator", "itertools.zip_longest", "itertools.pairwise"].contains n && vs[0]? == some (rawInt a) then
     rule "for.unpacks-the-owned-tuple"
     updateField I 0 .none
   | _, _ => pure ()) Q E s := by
  intro a
  refine wB (wpAny_load ho ?_)
  rw [hc]
  cases hd : o.data <;> try exact wPu h
  rename_i vs
  show wpAny _ _ (if (zpF.contains T && vs[0]? == some (rawInt a)) = true then _ else _) Q E s
  rw [hT]
  exact wPu h
 cases target <;> first
  | exact wPu h
  | (induction v <;> first
    | exact wPu h
    | exact main _)
theorem StX.freezeNew {Z_1 : Heap} {a : Addr} {o : Obj} (S : StX W GI Ω Z s Z_1 s') (hn : s.heap.get? a = none) (hF : Z_1.get? a = none) (ho : s'.heap.get? a = some o) :
  ∃ Z', StX W GI Ω Z s Z' s' /\ Z'.get? a = some o /\ Sub Z_1 Z' /\ ∀ b, b ≠ a -> Z'.get? b = Z_1.get? b := by
 have hf : o.isFreed = false := zaL (by rw [<- zaG]; exact ho)
 obtain ⟨F', h1, h2, h3⟩ := ziq Z_1 a o hF hf
 refine I14 F' ⟨⟨fun b o' e => ?_, S.ok.base.trans h1, S.ok.os, S.ok.gens⟩, S.f.trans h1, fun b o' n e => ?_, S.h, S.g, S.gs⟩ h2 h1 h3
 ·by_cases hb : b = a
  ·obtain rfl := hb.symm; refine eqE (h2.symm.trans e) ?_; exact ho
  ·rw [h3 b hb] at e; exact S.ok.sub _ _ e
 ·have hb : b ≠ a := by rintro rfl; exact za (hn.symm.trans e)
  rw [h3 b hb]; exact S.new _ _ n e
theorem StX.at {h' : Heap} {n : Nat} (hO : Ok Ω Z s) (hz : ∀ b, W b -> Z.get? b = none) (hk : ∀ b o, ¬ W b -> s.heap.get? b = some o -> h'.get? b = some o) :
  StX W GI Ω Z s Z { s with heap := h', toks := n } where
 ok := ⟨fun b o e => hk b o (fun q => by exact za ((hz b q).symm.trans e)) (hO.sub b o e), hO.base, hO.os, hO.gens⟩
 f := .refl _
 new := fun u v w x => rfl
 h := hk
 g := fun u v w e => e
 gs := Nat.le_refl _
end
structure ziC (Ω : En) (it : Value) (fp wr : List Addr) (GI : Nat -> Prop) (pair : Bool)
  (St : List PyData -> Heap -> Shared -> Prop) (Mid : Value -> List PyData -> Heap -> Shared -> Prop) (n : Nat) : Prop where
 sub : ∀ b ∈ wr, b ∈ fp
 live : ∀ xs Z s, St xs Z s -> (∀ b ∈ fp, ∃ o, s.heap.get? b = some o) /\ (∀ b ∈ wr, Z.get? b = none) /\ ∀ i, GI i -> ∃ x, s.gens[i]? = some x
 frame : ∀ xs Z s W' GI' Z' s', St xs Z s -> StX W' GI' Ω Z s Z' s' -> (∀ b ∈ fp, ¬ W' b) -> (∀ i, GI i -> ¬ GI' i) -> St xs Z' s'
 next : ∀ A, Rm A n -> ∀ x xs Z s, St (x :: xs) Z s -> Ok Ω Z s -> wpAny Ω.m A (pyNext it) (fun r s_1 => ∃ v Z_1, r = some v /\ StX (· ∈ wr) GI Ω Z s Z_1 s_1 /\ Rep Z_1 v x /\ Mid v xs Z_1 s_1) zc s
 go : ∀ A, Rm A n -> ∀ target v xs Z s, Mid v xs Z s -> Ok Ω Z s -> (pair = true -> ∃ es k p, target = .Tuple es k p) -> wpAny Ω.m A (letOwnedTupleGo target it v) (fun _ s_1 => StX (· ∈ wr) GI Ω Z s Z s_1 /\ St xs Z s_1) zc s
 done : ∀ A, Rm A n -> ∀ Z s, St [] Z s -> Ok Ω Z s -> wpAny Ω.m A (pyNext it) (fun r s_1 => r = none /\ ∃ Z_1, StX (· ∈ wr) GI Ω Z s Z_1 s_1) zc s
 self : ∀ A, Rm A n -> ∀ xs Z s, St xs Z s -> Ok Ω Z s -> wpAny Ω.m A (pyIter it) (fun v s_1 => v = it /\ s_1 = s) zc s
abbrev DSt := List Addr -> List Addr -> List PyData -> Heap -> Shared -> Prop
abbrev zrG := List Addr -> List Addr -> Value -> List PyData -> Heap -> Shared -> Prop
structure zjI (Ω : En) (A : Around) (it : Value) (GI : Nat -> Prop) (pair : Bool) (St : DSt) (Mid : zrG) : Prop where
 sub : ∀ fp wr xs Z s, St fp wr xs Z s -> ∀ b ∈ wr, b ∈ fp
 live : ∀ fp wr xs Z s, St fp wr xs Z s -> (∀ b ∈ fp, ∃ o, s.heap.get? b = some o) /\ (∀ b ∈ wr, Z.get? b = none) /\ ∀ i, GI i -> ∃ x, s.gens[i]? = some x
 frame : ∀ fp wr xs Z s W' GI' Z' s', St fp wr xs Z s -> StX W' GI' Ω Z s Z' s' -> (∀ b ∈ fp, ¬ W' b) -> (∀ i, GI i -> ¬ GI' i) -> St fp wr xs Z' s'
 next : ∀ fp wr x xs Z s, St fp wr (x :: xs) Z s -> Ok Ω Z s -> wpAny Ω.m A (pyNext it) (fun r s_1 => ∃ v Z_1 fp' wr', r = some v /\ StX (· ∈ wr) GI Ω Z s Z_1 s_1 /\ Rep Z_1 v x /\ Mid fp' wr' v xs Z_1 s_1 /\
  (∀ b ∈ fp', b ∈ fp \/ s.heap.get? b = none) /\ ∀ b ∈ wr', b ∈ fp' /\ (b ∈ wr \/ s.heap.get? b = none)) zc s
 go : ∀ fp wr target v xs Z s, Mid fp wr v xs Z s -> Ok Ω Z s -> (pair = true -> ∃ es k p, target = .Tuple es k p) -> wpAny Ω.m A (letOwnedTupleGo target it v) (fun _ s_1 => StX (· ∈ wr) GI Ω Z s Z s_1 /\ St fp wr xs Z s_1) zc s
 done : ∀ fp wr Z s, St fp wr [] Z s -> Ok Ω Z s -> wpAny Ω.m A (pyNext it) (fun r s_1 => r = none /\ ∃ Z_1, StX (· ∈ wr) GI Ω Z s Z_1 s_1) zc s
 self : ∀ fp wr xs Z s, St fp wr xs Z s -> Ok Ω Z s -> wpAny Ω.m A (pyIter it) (fun v s_1 => v = it /\ s_1 = s) zc s
theorem ziC.at {Ω : En} {A : Around} {n : Nat} {it : Value} {fp wr : List Addr} {GI : Nat -> Prop} {pair : Bool} {St : List PyData -> Heap -> Shared -> Prop} {Mid : Value -> List PyData -> Heap -> Shared -> Prop}
  (X : ziC Ω it fp wr GI pair St Mid n) (hA : Rm A n) : zjI Ω A it GI pair (fun f r xs Z s => f = fp /\ r = wr /\ St xs Z s) (fun f r v xs Z s => f = fp /\ r = wr /\ Mid v xs Z s) where
 sub := fun f r xs Z s ⟨a, b, _⟩ => by refine rwE a ?_; refine rwE b ?_; exact X.sub
 live := fun f r xs Z s ⟨a, b, h⟩ => by refine rwE a ?_; refine rwE b ?_; exact X.live xs Z s h
 frame := fun f r xs Z s W' GI' Z' s' ⟨a, b, h⟩ S h1 h2 => by subst a; refine rwE b ?_; exact I03 rfl rfl (X.frame xs Z s W' GI' Z' s' h S h1 h2)
 next := fun f r x xs Z s ⟨a, b, h⟩ hO => by
  refine rwE a ?_; refine rwE b ?_
  exact wpM (X.next A hA x xs Z s h hO) (fun r s_1 ⟨v, Z_1, h1, h2, h3, h4⟩ => I46 v Z_1 _ _ h1 h2 h3 (I03 rfl rfl h4) (fun b hb => .inl hb) (fun b hb => ⟨X.sub b hb, .inl hb⟩))
 go := fun f r target v xs Z s ⟨a, b, h⟩ hO hp => by
  refine rwE a ?_; refine rwE b ?_
  exact wpM (X.go A hA target v xs Z s h hO hp) (fun _ s_1 ⟨h1, h2⟩ => I04 h1 rfl rfl h2)
 done := fun f r Z s ⟨a, b, h⟩ hO => by refine rwE a ?_; refine rwE b ?_; exact X.done A hA Z s h hO
 self := fun f r xs Z s ⟨a, b, h⟩ hO => X.self A hA xs Z s h hO
section
variable {Ω : En} {Z Z' Z'' : Heap} {s s' s'' : Shared} {n m : Nat}
theorem ziC.ofWalks {I : Addr} {fp wr : List Addr} {N : Nat} {P : Nat -> Value -> Prop} {St : Nat -> Heap -> Prop} {xs : List PyData} {Z₀ : Heap}
  (W : ∀ A : Around, A.handled = none -> Walks Ω.prog Ω.w A I fp wr N P St) (hN : xs.length = N) (hI : I ∈ fp) (hP : ∀ i v x, P i v -> xs[i]? = some x -> Rep Z₀ v x)
  (hc : ∀ i h, St i h -> ∃ o T, h.get? I = some o /\ o.cls = .type T /\ zpF.contains T = false) (hl : ∀ i h, St i h -> ∀ b ∈ fp, ∃ o, h.get? b = some o) :
  ziC Ω (.ref I) fp wr (fun u => False) false
   (fun rem Z s => ∃ i, i <= xs.length /\ rem = xs.drop i /\ St i s.heap /\ Sub Z₀ Z /\ ∀ b ∈ wr, Z.get? b = none)
   (fun v rem Z s => ∃ i, i <= xs.length /\ rem = xs.drop i /\ St i s.heap /\ Sub Z₀ Z /\ ∀ b ∈ wr, Z.get? b = none) n where
 sub := (W {} rfl).sub
 live := fun xs Z s ⟨i, hi, _, st, _, hw⟩ => I03 (hl i _ st) hw (fun u h => h.elim)
 frame := fun rem Z s W' GI' Z' s' ⟨i, hi, e, st, f, hw⟩ S hd _ => I15 i hi e ((W {} rfl).frame i _ _ st fun b hb o eo => S.h b o (hd b hb) eo) (f.trans S.f) (fun b hb => by
   have hb' := (W {} rfl).sub b hb
   obtain ⟨o, ho⟩ := hl i _ st b hb'
   rw [S.new b o (hd b hb') ho]; exact hw b hb)
 next := fun A hA x rem Z s ⟨i, hi, e, st, f, hw⟩ hO => by
  have hlt : i < xs.length := by
   refine Or.elim (Nat.lt_or_ge i xs.length) (fun h => ?_) fun h => ?_
   ·exact h
   ·have e := (List.drop_eq_nil_of_le h) ▸ e; cases e
  rw [List.drop_eq_getElem_cons hlt] at e
  injection e with e1 e2
  refine rwE e1 ?_
  refine (W A hA.handled).item i s _ _ (hN ▸ hlt) st fun v h' tk hv st' hk => ?_
  refine ⟨v, Z, rfl, StX.at (W := (· ∈ wr)) hO (fun b hb => hw b hb) hk, Rep.mono f (hP i v _ hv (List.getElem?_eq_getElem hlt)), i + 1, hlt, e2, st', f, hw⟩
 go := fun A hA target v rem Z s ⟨i, hi, e, st, f, hw⟩ hO _ => by
  obtain ⟨o, T, ho, hcl, hT⟩ := hc i _ st
  exact zfz ho hcl hT ⟨StX.refl hO, i, hi, e, st, f, hw⟩
 done := fun A hA Z s ⟨i, hi, e, st, f, hw⟩ hO => by
  have hi' : i = N := by
   refine Or.elim (Nat.lt_or_ge i xs.length) (fun h => ?_) fun h => ?_
   ·have e := (List.drop_eq_getElem_cons h) ▸ e; cases e
   ·lia
  obtain rfl := hi'.symm
  exact (W A hA.handled).done s _ _ st fun h' tk hk => ⟨rfl, Z, StX.at (W := (· ∈ wr)) hO (fun b hb => hw b hb) hk⟩
 self := fun A hA rem Z s ⟨i, hi, e, st, f, hw⟩ hO => (W A hA.handled).self i s _ _ st ⟨rfl, rfl⟩
end
def zd2 (Ω : En) (A : Around) (pair : Bool) (Z : Heap) (s : Shared) (xs : List PyData) : Value -> Shared -> Prop := fun it s_2 =>
 ∃ fp wr GI St Mid Z_2, Stp Ω Z s Z_2 s_2 /\ zjI Ω A it GI pair St Mid /\ St fp wr xs Z_2 s_2 /\ (∀ b ∈ wr, s.heap.get? b = none) /\ (∀ i, GI i -> s.gens.size <= i) /\
  (∀ b ∈ fp, s.heap.get? b = none \/ ∃ o, Z_2.get? b = some o)
section
variable {Ω : En} {A : Around} {Z Z' Z'' : Heap} {s s' s'' : Shared} {c : TC} {env : Env} {ρ : Rho} {ad : Nat -> Addr} {n m : Nat} {pair : Bool}
theorem zcg {xs : List PyData} {it : Value} (S : Stp Ω Z s Z' s') (p : zd2 Ω A pair Z' s' xs it s'') : zd2 Ω A pair Z s xs it s'' := by
 refine cps fun G0 hG_0 => ?_
 obtain ⟨fp, wr, GI, St, Mid, Z_2, S_2, M, st, h1, h2, h3⟩ := p
 refine hG_0 ?_
 refine ⟨fp, wr, GI, St, Mid, Z_2, S.trans S_2, M, st, fun b hb => S.fresh (h1 b hb), fun i g => nle (GK.size S.g) (h2 i g), fun b hb => ?_⟩
 refine Or.elim (h3 b hb) (fun h => ?_) fun h => ?_
 ·exact .inl (S.fresh h)
 ·exact .inr h
theorem zcC (hA : Rm A n) (hO : Ok Ω Z s) {o : Obj} {fp : List Addr} {N tk : Nat} {P : Nat -> Value -> Prop} {St : Nat -> Heap -> Prop} {xs : List PyData}
  (W : ∀ A : Around, A.handled = none -> Walks Ω.prog Ω.w A s.heap.objs.size fp [s.heap.objs.size] N P St) (hN : xs.length = N) (hI : s.heap.objs.size ∈ fp)
  (hP : ∀ i v x, P i v -> xs[i]? = some x -> Rep Z v x) (hc : ∀ i h, St i h -> ∃ o T, h.get? s.heap.objs.size = some o /\ o.cls = .type T /\ zpF.contains T = false)
  (hl : ∀ i h, St i h -> ∀ b ∈ fp, ∃ o, h.get? b = some o) (h0 : St 0 (s.heap.push o)) (hfp : ∀ b ∈ fp, b = s.heap.objs.size \/ ∃ o, Z.get? b = some o) :
  zd2 Ω A false Z s xs (.ref s.heap.objs.size) { s with heap := s.heap.push o, toks := tk } := by
 have hn : s.heap.get? s.heap.objs.size = none := zj _
 refine ⟨fp, [s.heap.objs.size], _, _, _, Z, Stp.grow hO (Sub.push _ _), (ziC.ofWalks W hN hI hP hc hl).at hA, ⟨rfl, rfl, 0, Nat.zero_le _, rfl, h0, .refl _, ?_⟩, ?_, fun u h => h.elim, ?_⟩
 ·intro b hb
  rw [List.mem_singleton] at hb; subst hb
  exact hO.sub.none hn
 ·intro b hb
  rw [List.mem_singleton] at hb; subst hb
  exact hn
 ·intro b hb
  rcases hfp b hb with rfl | h
  ·exact .inl hn
  ·exact .inr h
theorem zcD {vs : Array Value} {xs : List PyData} (r : zv Z vs.toList xs) (i : Nat) (v : Value) (x : PyData) (h : vs[i]? = some v) (hx : xs[i]? = some x) : Rep Z v x := by
 obtain ⟨u, hu, ru⟩ := r.get hx
 rw [Array.getElem?_toList] at hu
 refine eqE (hu.symm.trans h) ?_; exact ru
theorem zhP {x : Str} {i : Nat} {d : PyData} (h : (zbV x)[i]? = some d) : ∃ c, x.cps[i]? = some c /\ d = .str ⟨#[c]⟩ := by
 have h := List.getElem?_map ▸ h
 induction e : x.cps.toList[i]? with
 | none => rw [e] at h; exact za h
 | some c => rw [e] at h; refine eqE h ?_; exact I12 c (by simpa using e) rfl
set_option tactic.hygienic true in
theorem znE (hA : Rm A n) (hO : Ok Ω Z s) {v : Value} {d : PyData} {xs : List PyData} (r : Rep Z v d) (hi : za9 d = some xs) :
  wpAny Ω.m A (pyIter v) (zd2 Ω A false Z s xs) zc s := by
 unfold za9 at hi
 split at hi
 ·refine eqE hi ?_
  obtain (⟨a, vs, k, rfl, e, r⟩) := r
  have hs := hO.sub _ _ e
  have hne : a ≠ s.heap.objs.size := Nat.ne_of_lt (Heap.lt_size hs)
  refine wpAny_pyIter_list (items := vs) ⟨_, hs, rfl, k, rfl⟩ ?_
  refine zcC (tk := s.toks) hA hO (fun A hA => Walks.list hA _ a hne vs) (zp r).symm (by simp) (fun i v x h hx => zcD r i v x h hx) ?_ ?_ ⟨(I13 _ (Heap.get?_push_size _ rfl) rfl rfl), ⟨_, Heap.get?_push_of_some _ hs, rfl, k, rfl⟩⟩ ?_
  ·intro i h h9; obtain ⟨⟨o, ho, hc, _⟩, _⟩ := h9
   exact ⟨o, _, ho, hc, by decide +kernel⟩
  ·intro i h h9 b hb; obtain ⟨⟨o, ho, hc, _⟩, ⟨o', ho', _⟩⟩ := h9
   refine zaZ hb ?_ ?_
   ·exact ⟨_, ho⟩
   ·exact ⟨_, ho'⟩
  ·intro b hb
   refine zaZ hb ?_ ?_
   ·exact .inl rfl
   ·exact .inr ⟨_, e⟩
 ·refine eqE hi ?_
  obtain (⟨a, vs, k, rfl, e, r⟩) := r
  have hs := hO.sub _ _ e
  have hne : a ≠ s.heap.objs.size := Nat.ne_of_lt (Heap.lt_size hs)
  refine wpAny_pyIter_tuple (items := vs) ⟨_, hs, rfl, k, rfl⟩ ?_
  refine zcC (tk := s.toks) hA hO (fun A hA => Walks.tuple hA _ a hne vs) (zp r).symm (by simp) (fun i v x h hx => zcD r i v x h hx) ?_ ?_ ⟨(I13 _ (Heap.get?_push_size _ rfl) rfl rfl), ⟨_, Heap.get?_push_of_some _ hs, rfl, k, rfl⟩⟩ ?_
  ·intro i h h9; obtain ⟨⟨o, ho, hc, _⟩, _⟩ := h9
   exact ⟨o, _, ho, hc, by decide +kernel⟩
  ·intro i h h9 b hb; obtain ⟨⟨o, ho, hc, _⟩, ⟨o', ho', _⟩⟩ := h9
   refine zaZ hb ?_ ?_
   ·exact ⟨_, ho⟩
   ·exact ⟨_, ho'⟩
  ·intro b hb
   refine zaZ hb ?_ ?_
   ·exact .inl rfl
   ·exact .inr ⟨_, e⟩
 ·refine eqE hi ?_
  rename_i x
  refine zdd r fun t => ?_
  have hlen : (zbV x).length = x.cps.size := by simp [zbV]
  have hPs : ∀ i v d, SignAt x i v -> (zbV x)[i]? = some d -> Rep Z v d := by
   intro i v d h9 hd; obtain ⟨c, u, hc, rfl⟩ := h9
   obtain ⟨c', hc', e9⟩ := zhP hd; refine rwE e9 ?_
   refine eqE (hc.symm.trans hc') ?_
   exact zU.mpr ⟨u, rfl⟩
  cases ha : x.cps.all (· < 128)
  ·refine wpAny_pyIter_wide ha ?_
   refine zcC (tk := s.toks) hA hO (fun A hA => Walks.strWide hA _ x t) hlen (by simp) hPs ?_ ?_ (I13 _ (Heap.get?_push_size _ rfl) rfl rfl) ?_
   ·intro i h h9; obtain ⟨o, ho, hc, _⟩ := h9
    exact ⟨o, _, ho, hc, by decide +kernel⟩
   ·intro i h h9 b hb; obtain ⟨o, ho, hc, _⟩ := h9
    rw [List.mem_singleton] at hb; subst hb; exact ⟨_, ho⟩
   ·intro b hb
    rw [List.mem_singleton] at hb; exact .inl hb
  ·refine wpAny_pyIter_ascii ha ?_
   refine zcC (tk := s.toks) hA hO (fun A hA => Walks.strAscii hA _ x t) hlen (by simp) hPs ?_ ?_ (I13 _ (Heap.get?_push_size _ rfl) rfl rfl) ?_
   ·intro i h h9; obtain ⟨o, ho, hc, _⟩ := h9
    exact ⟨o, _, ho, hc, by decide +kernel⟩
   ·intro i h h9 b hb; obtain ⟨o, ho, hc, _⟩ := h9
    rw [List.mem_singleton] at hb; subst hb; exact ⟨_, ho⟩
   ·intro b hb
    rw [List.mem_singleton] at hb; exact .inl hb
 ·exact za hi
theorem zgA (hA : Rm A n) (hO : Ok Ω Z s) {r : Addr} {a b : Int} {t u v : Tok} (hr : IsRange s.heap r a b 1 t u v) (h1 : -(2 ^ 62) <= a) (h2 : a < 2 ^ 62) (h3 : -(2 ^ 62) <= b) (h4 : b < 2 ^ 62) :
  wpAny Ω.m A (pyIter (.ref r)) (zd2 Ω A false Z s ((List.range (b - a).toNat).map fun (k : Nat) => PyData.int (a + (k : Int)))) zc s := by
 refine wpAny_pyIter_range hr (small_one h1 h2 h3 h4) ?_
 have hsz : Builtin.Range.rangeSize a b 1 = ((b - a).toNat : Int) := by rw [rangeSize_one]; split <;> lia
 refine zcC (tk := s.toks) hA hO (fun A hA => Walks.range hA _ a 1 (b - a).toNat) (by simp) (by simp) ?_ ?_ ?_ ?_ ?_
 ·intro i v x h9 hx; obtain ⟨t, e9⟩ := h9; subst e9
  rw [List.getElem?_map] at hx
  rcases Nat.lt_or_ge i (b - a).toNat with hi | hi
  ·rw [List.getElem?_range hi] at hx
   refine eqE hx ?_
   exact zo.mpr ⟨t, by simp⟩
  ·rw [List.getElem?_eq_none (by simpa using hi)] at hx; exact za hx
 ·rintro i h ho
  exact I23 _ _ ho rfl (by decide +kernel)
 ·rintro i h ho b hb
  rw [List.mem_singleton] at hb; subst hb; exact ⟨_, ho⟩
 ·have e2 : (((b - a).toNat : Int) - ((0 : Nat) : Int)) = Builtin.Range.rangeSize a b 1 := by rw [hsz]; rfl
  rw [(by simp : (a + ((0 : Nat) : Int) * 1) = a), e2]
  exact Heap.get?_push_size _ rfl
 ·intro b hb
  rw [List.mem_singleton] at hb; exact .inl hb
theorem znF (hA : Rm A n) (hO : Ok Ω Z s) {l : Addr} {vs : Array Value} {k : Nat} {xs : List PyData} {I : Addr} (e : Z.get? l = some { cls := .type "list", data := .seq vs k }) (r : zv Z vs.toList xs)
  (s_0 : Shared) (Z₀ : Heap) (S : Stp Ω Z₀ s_0 Z s) (hI : s.heap.IsRevIter I l ((vs.size : Int) - 1)) (hn : s_0.heap.get? I = none) (hz : Z.get? I = none) :
  wpAny Ω.m A (pyIter (.ref I)) (zd2 Ω A false Z₀ s_0 xs.reverse) zc s := by
 have hne : l ≠ I := by intro h9; obtain rfl := h9; exact za (hz.symm.trans e)
 refine wpAny_pyIter_revIter hI ?_
 refine ⟨[I, l], [I], _, _, _, Z, S, (ziC.ofWalks (fun A hA => Walks.listRev hA I l hne vs) (xs := xs.reverse) (Z₀ := Z) (by simp [zp r]) (by simp) ?_ ?_ ?_).at hA, ⟨rfl, rfl, 0, Nat.zero_le _, rfl, (I03 (Nat.zero_le _) (by simpa using hI) ⟨_, (hO.sub _ _ e), rfl, k, rfl⟩), .refl _, ?_⟩, ?_, fun u h => h.elim, ?_⟩
 ·intro i v x h hx
  have hi : i < xs.length := by
   refine Or.elim (Nat.lt_or_ge i xs.reverse.length) (fun h => ?_) fun h => ?_
   ·simpa using h
   ·rw [List.getElem?_eq_none h] at hx; exact za hx
  rw [List.getElem?_reverse hi] at hx
  rw [(zp r)] at h
  exact zcD r _ v x h hx
 ·intro i h h9; obtain ⟨_, ⟨o, ho, hc, _⟩, _⟩ := h9
  exact I23 o _ ho hc (by decide +kernel)
 ·intro i h h9 b hb; obtain ⟨_, ⟨o, ho, hc, _⟩, ⟨o', ho', _⟩⟩ := h9
  refine zaZ hb ?_ ?_
  ·exact ⟨_, ho⟩
  ·exact ⟨_, ho'⟩
 ·intro b hb
  rw [List.mem_singleton] at hb; refine rwE hb ?_; exact hz
 ·intro b hb
  rw [List.mem_singleton] at hb; refine rwE hb ?_; exact hn
 ·intro b hb
  refine zaZ hb ?_ ?_
  ·exact .inl hn
  ·exact .inr ⟨_, e⟩
end
section
open PySem.AutoSeq1 (wpAny_loadPart')
section
variable {Ω : En} {A : Around} {E : Value -> Shared -> Prop} {s : Shared}
theorem zex {it l : Addr} {i : Nat} {items} {x : Value} {Q : Value -> Shared -> Prop} (hit : s.heap.IsTupleIter it l i)
  (hl : s.heap.IsTuple l items) (hx : items[i]? = some x)
  (hQ : ∀ h', h'.IsTupleIter it l (i + 1) -> Heap.SameBut it s.heap h' -> Q x { s with heap := h' }) :
  wpAny Ω.m A (Builtin.SmallTypes.nextOf (.ref it)) Q E s := by
 refine cps fun G0 hG_0 => ?_
 obtain ⟨o, ho, hc, hd⟩ := id hit
 obtain ⟨ol, hol, _, nl, hdl⟩ := hl
 refine hG_0 ?_
 refine wB (wpAny_callSpecial?_slot (name := Str.ofString "__next__") hit.typeIs F.slot_tuple_iterator_next
  (wpAny_call_entry F.slot_tuple_iterator_next hit.typeIs F.entry_tuple_iterator_next ?_ (F.args_tuple_iterator_next_1 _)))
 show wpAny _ _ (field (.ref it) 0 >>= _) _ _ s
 refine wB (wpAny_field ho hd (x := .ref l) rfl ?_)
 refine wB (wpAny_field ho hd (x := .int i 0) rfl ?_)
 refine wB (wpAny_seqItems hol hdl ?_)
 simp only [Int.toNat_natCast, hx]
 refine wB (wpAny_setField ho hd (by simp) (wPu (I12 x rfl (wPu (hQ _ ?_ (Heap.SameBut.update ..))))))
 exact I13 _ (Heap.get?_update_self _ ho (Obj.isFreed_of_fields (Obj.data_mapFields hd _))) ((Obj.cls_mapFields ..).trans hc) (by
  rw [Obj.data_mapFields hd]; rfl)
theorem zfb {it l : Addr} {i : Nat} {items} {Q : Value -> Shared -> Prop} (hh : A.handled = none)
  (hit : s.heap.IsTupleIter it l i) (hl : s.heap.IsTuple l items) (hx : items[i]? = none)
  (hE : ∀ h' e, Heap.ExtBut it s.heap h' -> (∃ o, h'.get? e = some o /\ o.cls = .type "StopIteration") -> E (.ref e) { s with heap := h' }) :
  wpAny Ω.m A (Builtin.SmallTypes.nextOf (.ref it)) Q E s := by
 refine cps fun G0 hG_0 => ?_
 obtain ⟨o, ho, hc, hd⟩ := id hit
 obtain ⟨ol, hol, _, nl, hdl⟩ := hl
 refine hG_0 ?_
 refine wB (wpAny_callSpecial?_slot (name := Str.ofString "__next__") hit.typeIs F.slot_tuple_iterator_next
  (wpAny_call_entry F.slot_tuple_iterator_next hit.typeIs F.entry_tuple_iterator_next ?_ (F.args_tuple_iterator_next_1 _)))
 show wpAny _ _ (field (.ref it) 0 >>= _) _ _ s
 refine wB (wpAny_field ho hd (x := .ref l) rfl ?_)
 refine wB (wpAny_field ho hd (x := .int i 0) rfl ?_)
 refine wB (wpAny_seqItems hol hdl ?_)
 simp only [Int.toNat_natCast, hx]
 refine wB (wpAny_rule (wB (wpAny_setField ho hd (by simp) ?_)))
 refine wB ?_
 refine wB (wpAny_newObj_type ?_ (by size_fits))
 refine wB (m := firstArgMember _ _) (wpAny_of_eq (a := Value.none) (by first | rfl | (rfl; rfl)) ?_)
 refine wpAny_newObj_type ?_ (by size_fits)
 refine wB (wpAny_handled ?_)
 first | rw [show A.in1.handled = none from hh] | rw [hh]
 refine wB (wPu (wpAny_throw ?_))
 exact hE _ _ (((Heap.SameBut.update ..).extBut.push _).push _) (I12 _ (Heap.get?_push_size _ rfl) rfl)
theorem zkP (hh : A.handled = none) (it l : Addr) (hne : l ≠ it) (items : Array Value) :
  Draws Ω.prog Ω.w A it [it, l] items.size (fun i v => items[i]? = some v) (fun i h => h.IsTupleIter it l i /\ h.IsTuple l items) where
 live := fun u y st => E12 st.1 fun o ho u =>  ⟨o, ho⟩
 frame := fun u y z st hk => ⟨st.1.at fun o e => hk it (by simp) o e, E12 st.2 fun o ho r =>  (I12 o (hk l (by simp) o ho) r)⟩
 item := fun i s Q E hi st hQ => by
  refine zex st.1 st.2 (x := items[i]) (by simp) fun h' hit' hs' => ?_
  exact hQ _ h' s.toks (by simp) ⟨hit', st.2.extBut hs'.extBut hne⟩ hs'
 done := fun s Q E st hE => zfb hh st.1 st.2 (by simp) hE
set_option tactic.hygienic true in
theorem zfc (l : Addr) (items : Array Value) (n : Nat) :
  Meets (Builtin.«enumerate.__new__» ⟨[.type "enumerate", .ref l], []⟩) (fun u R s => s.heap.get? l = some { cls := .type "tuple", data := .seq items n } /\
   R (.ok (.ret (.ref (s.heap.push { cls := .type "tuple_iterator", data := .fields #[.ref l, .int 0 0] }).objs.size)))
    {s with heap := (s.heap.push { cls := .type "tuple_iterator", data := .fields #[.ref l, .int 0 0] }).push { cls := .type "enumerate", data := .fields #[.none, .bool false, .ref s.heap.objs.size, rawInt 0, .none, .none] } }) :=
 .of_wp fun prog w A R s h => by
  obtain ⟨hp, g, d, tk, os⟩ := s; obtain ⟨hl, h⟩ := h
  have hsub := sub_enumerate
  have hL : Heap.IsTuple (Shared.heap ⟨hp, g, d, tk, os⟩) l items := ⟨_, hl, rfl, n, rfl⟩
  wp_walk using wpAny_loadPart' hl
  refine wpAny_stack_any fun st => wPu ?_
  split
  ·rename_i c _ _ _ _ _
   cases (c == Value.type "enumerate")
   ·wp_walk using wpAny_loadPart' hl, wpAny_pyIter_tuple hL
    exact ⟨_, rfl, h⟩
   ·wp_walk using wpAny_loadPart' hl, wpAny_pyIter_tuple hL
    exact ⟨_, rfl, h⟩
  ·wp_walk using wpAny_loadPart' hl, wpAny_pyIter_tuple hL
   exact I12 _ rfl h
theorem zfV {l : Addr} {items : Array Value} {n : Nat} {Q : Value -> Shared -> Prop} (hl : s.heap.get? l = some { cls := .type "tuple", data := .seq items n })
  (h : ∀ h', IsEnum h' (s.heap.objs.size + 1) s.heap.objs.size 0 .none -> h'.IsTupleIter s.heap.objs.size l 0 -> h'.objs.size = s.heap.objs.size + 2 ->
   (∀ b o, s.heap.get? b = some o -> h'.get? b = some o) -> Q (.ref (s.heap.objs.size + 1)) { s with heap := h' }) :
  wpAny Ω.m A (call (.type "enumerate") [.ref l]) Q E s := by
 refine callType_new F.called_enumerate (rfl) (F.typeCall_enumerate_1 _) (F.newCall_enumerate_1 _) (fun obj => F.args_object_init_2 obj _) F.entry_enumerate_new
  (zfc l items n) ⟨hl, ?_⟩
 have hz : (s.heap.push { cls := .type "tuple_iterator", data := .fields #[.ref l, .int 0 0] }).objs.size = s.heap.objs.size + 1 := Heap.size_push ..
 rw [hz]
 have he : IsEnum ((s.heap.push { cls := .type "tuple_iterator", data := .fields #[.ref l, .int 0 0] }).push
   {cls := .type "enumerate", data := .fields #[.none, .bool false, .ref s.heap.objs.size, rawInt 0, .none, .none] }) (s.heap.objs.size + 1) s.heap.objs.size 0 .none := by
  have := Heap.get?_push_size (s.heap.push { cls := .type "tuple_iterator", data := .fields #[.ref l, .int 0 0] })
   (o := { cls := .type "enumerate", data := .fields #[.none, .bool false, .ref s.heap.objs.size, rawInt 0, .none, .none] }) rfl
  rw [hz] at this; exact this
 refine ⟨(I12 _ he rfl), h _ he (I13 _ (Heap.get?_push_of_some _ (Heap.get?_push_size _ rfl)) rfl rfl) (by rw [Heap.size_push, hz]) fun b o x => Heap.get?_push_of_some _ (Heap.get?_push_of_some _ x)⟩
end
section
variable {Ω : En} {A : Around} {Z Z' Z'' : Heap} {s s' s'' : Shared} {n m : Nat}
structure Src (Ω : En) (Z : Heap) (xs : List PyData) (it : Addr) (fp : List Addr) (P : Nat -> Value -> Prop) (St : Nat -> Heap -> Prop) : Prop where
 draws : ∀ A : Around, A.handled = none -> Draws Ω.prog Ω.w A it fp xs.length P St
 mem : it ∈ fp
 rep : ∀ i v x, P i v -> xs[i]? = some x -> Rep Z v x
 live : ∀ i h, St i h -> ∀ b ∈ fp, ∃ o, h.get? b = some o
 old : ∀ b ∈ fp, b = it \/ ∃ o, Z.get? b = some o
theorem zgB {l it : Addr} {vs : Array Value} {k : Nat} {xs : List PyData} (hne : l ≠ it) (e : Z.get? l = some { cls := .type "list", data := .seq vs k }) (r : zv Z vs.toList xs) :
  Src Ω Z xs it [it, l] (fun i v => vs[i]? = some v) (fun i h => h.IsListIter it l i /\ h.IsList l vs) where
 draws := fun A hA => by rw [<- zp r]; exact Draws.list hA it l hne vs
 mem := by simp
 rep := fun i v x h hx => zcD r i v x h hx
 live := by
  intro i h h9 b hb; obtain ⟨⟨o, ho, hc, _⟩, ⟨o', ho', _⟩⟩ := h9
  refine zaZ hb ?_ ?_
  ·exact ⟨_, ho⟩
  ·exact ⟨_, ho'⟩
 old := fun b hb => by
  refine zaZ hb ?_ ?_
  ·exact .inl rfl
  ·exact .inr ⟨_, e⟩
theorem zfd {l it : Addr} {vs : Array Value} {k : Nat} {xs : List PyData} (hne : l ≠ it) (e : Z.get? l = some { cls := .type "tuple", data := .seq vs k }) (r : zv Z vs.toList xs) :
  Src Ω Z xs it [it, l] (fun i v => vs[i]? = some v) (fun i h => h.IsTupleIter it l i /\ h.IsTuple l vs) where
 draws := fun A hA => by rw [<- zp r]; exact zkP hA it l hne vs
 mem := by simp
 rep := fun i v x h hx => zcD r i v x h hx
 live := by
  intro i h h9 b hb; obtain ⟨⟨o, ho, hc, _⟩, ⟨o', ho', _⟩⟩ := h9
  refine zaZ hb ?_ ?_
  ·exact ⟨_, ho⟩
  ·exact ⟨_, ho'⟩
 old := fun b hb => by
  refine zaZ hb ?_ ?_
  ·exact .inl rfl
  ·exact .inr ⟨_, e⟩
theorem zlv {it : Addr} {x : Str} {t : Tok} :
  Src Ω Z (zbV x) it [it] (fun i v => ∃ c u, x.cps[i]? = some c /\ v = .str ⟨#[c]⟩ u) (fun i h => h.IsStrIter it (strIterType x) x t i) where
 draws := fun A hA => by
  rw [(by simp [zbV] : (zbV x).length = x.cps.size)]
  unfold strIterType
  cases ha : x.cps.all (· < 128)
  ·exact Draws.strWide hA it x t
  ·exact Draws.strAscii hA it x t
 mem := by simp
 rep := by
  intro i v d h9 hd; obtain ⟨c, u, hc, rfl⟩ := h9
  obtain ⟨c', hc', e9⟩ := zhP hd; refine rwE e9 ?_
  refine eqE (hc.symm.trans hc') ?_
  exact zU.mpr ⟨u, rfl⟩
 live := by
  intro i h h9 b hb; obtain ⟨o, ho, hc, _⟩ := h9
  rw [List.mem_singleton] at hb; refine rwE hb ?_; exact ⟨_, ho⟩
 old := fun b hb => by
  rw [List.mem_singleton] at hb; exact .inl hb
def zlw (Ω : En) (Z : Heap) (s : Shared) (xs : List PyData) : Value -> Shared -> Prop := fun u s' =>
 ∃ e it fp P St, u = .ref e /\ Stp Ω Z s Z s' /\ s.heap.get? e = none /\ s.heap.get? it = none /\ e ≠ it /\ e ∉ fp /\ Src Ω Z xs it fp P St /\ St 0 s'.heap /\ IsEnum s'.heap e it 0 .none
theorem zaa {h : Heap} {a : Addr} (ha : h.objs.size <= a) : h.get? a = none := by
 induction e : h.get? a with
 | none => rfl
 | some o' => exact absurd (Heap.lt_size e) (Nat.not_lt.mpr ha)
theorem zmf (hO : Ok Ω Z s) {v : Value} {d : PyData} {xs : List PyData} (r : Rep Z v d) (hi : za9 d = some xs) :
  wpAny Ω.m A (call (.type "enumerate") [v]) (zlw Ω Z s xs) zc s := by
 have f1 : s.heap.get? (s.heap.objs.size + 1) = none := zaa (Nat.le_succ _)
 have f0 : s.heap.get? s.heap.objs.size = none := zj _
 have hne : s.heap.objs.size + 1 ≠ s.heap.objs.size := Nat.succ_ne_self _
 have ef : ∀ {l o}, s.heap.get? l = some o -> s.heap.objs.size + 1 ∉ [s.heap.objs.size, l] := by
  intro l o hs hb
  simp only [List.mem_cons, List.not_mem_nil, or_false] at hb
  refine Or.elim hb (fun h => ?_) fun h => ?_
  ·exact hne h
  ·rw [<- h] at hs; exact za (f1.symm.trans hs)
 unfold za9 at hi
 split at hi
 ·refine eqE hi ?_
  obtain (⟨a, vs, k, rfl, e, r⟩) := r
  have hs := hO.sub _ _ e
  have hna : a ≠ s.heap.objs.size := Nat.ne_of_lt (Heap.lt_size hs)
  refine call_enumerate_list (items := vs) ⟨_, hs, rfl, k, rfl⟩ fun h' he hit u hk => ?_
  exact ⟨_, _, _, _, _, rfl, Stp.grow (n := s.toks) hO hk, f1, f0, hne, ef hs, zgB hna e r, ⟨hit, _, hk _ _ hs, rfl, k, rfl⟩, he⟩
 ·refine eqE hi ?_
  obtain (⟨a, vs, k, rfl, e, r⟩) := r
  have hs := hO.sub _ _ e
  have hna : a ≠ s.heap.objs.size := Nat.ne_of_lt (Heap.lt_size hs)
  refine zfV hs fun h' he hit u hk => ?_
  exact ⟨_, _, _, _, _, rfl, Stp.grow (n := s.toks) hO hk, f1, f0, hne, ef hs, zfd hna e r, ⟨hit, _, hk _ _ hs, rfl, k, rfl⟩, he⟩
 ·refine eqE hi ?_
  refine zdd r fun t => ?_
  refine call_enumerate_str fun h' he hit u hk => ?_
  exact ⟨_, _, _, _, _, rfl, Stp.grow (n := s.toks) hO hk, f1, f0, hne, by simp, zlv, hit, he⟩
 ·exact za hi
theorem zgC : ∀ {xs : List PyData} {k i : Nat}, (zd7 xs k)[i]? = xs[i]?.map fun x => PyData.tuple [.int ((k + i : Nat) : Int), x]
 | [], k, i => rfl
 | x :: xs, k, 0 => rfl
 | x :: xs, k, i + 1 => by
  show (zd7 xs (k + 1))[i]? = _
  rw [zgC, List.getElem?_cons_succ]
  congr 1; funext y; congr 3; lia
theorem zey : ∀ {xs : List PyData} {k : Nat}, (zd7 xs k).length = xs.length
 | [], k => rfl
 | x :: xs, k => congrArg (· + 1) zey
theorem zhQ {xs : List PyData} {e it : Addr} {fp : List Addr} {P : Nat -> Value -> Prop} {St : Nat -> Heap -> Prop} {Z₀ : Heap} (X : Src Ω Z₀ xs it fp P St) (hne : e ≠ it) (hef : e ∉ fp) :
  ziC Ω (.ref e) (e :: fp) [e, it] (fun w => False) true
   (fun rem Z s => ∃ i old, i <= xs.length /\ rem = (zd7 xs 0).drop i /\ St i s.heap /\ IsEnum s.heap e it i old /\ Sub Z₀ Z /\ Z.get? e = none /\ Z.get? it = none)
   (fun v rem Z s => ∃ (i : Nat) (T : Addr) (x : Value), v = .ref T /\ i + 1 <= xs.length /\ rem = (zd7 xs 0).drop (i + 1) /\ St (i + 1) s.heap /\ IsEnumOut s.heap e it ((i : Int) + 1) x T /\ Sub Z₀ Z /\ Z.get? e = none /\ Z.get? it = none) n where
 sub := fun b hb => by
  refine zaZ hb ?_ ?_
  ·simp
  ·exact List.mem_cons_of_mem _ X.mem
 live := by
  intro rem Z s h9; obtain ⟨i, old, hi, _, st, he, f, z1, z2⟩ := h9
  refine I03 (fun b hb => ?_) (fun b hb => ?_) (fun w h => h.elim)
  ·rcases List.mem_cons.mp hb with rfl | hb
   ·exact ⟨_, he⟩
   ·exact X.live i _ st b hb
  ·refine zaZ hb ?_ ?_
   ·exact z1
   ·exact z2
 frame := by
  intro rem Z s W' GI' Z' s' h9 S hd _; obtain ⟨i, old, hi, er, st, he, f, z1, z2⟩ := h9
  obtain ⟨oi, ho⟩ := (X.live i _ st it X.mem)
  refine I27 i old hi er ((X.draws {} rfl).frame i _ _ st fun b hb o eo => S.h b o (hd b (List.mem_cons_of_mem _ hb)) eo) (S.h _ _ (hd e (by simp)) he) (f.trans S.f) ?_ ?_
  ·rw [S.new _ _ (hd e (by simp)) he]; exact z1
  ·rw [S.new _ _ (hd it (List.mem_cons_of_mem _ X.mem)) ho]; exact z2
 next := by
  intro A hA x rem Z s h9 hO; obtain ⟨i, old, hi, er, st, he, f, z1, z2⟩ := h9
  have hlt : i < xs.length := by
   refine Or.elim (Nat.lt_or_ge i xs.length) (fun h => ?_) fun h => ?_
   ·exact h
   ·rw [List.drop_eq_nil_of_le (by rw [zey]; exact h)] at er; exact nomatch er
  have hx := List.getElem?_eq_getElem hlt
  have hg : (zd7 xs 0)[i]? = some (PyData.tuple [.int (i : Int), xs[i]]) := by rw [zgC, hx]; simp
  obtain (⟨hlt', hg'⟩) := List.getElem?_eq_some_iff.mp hg
  rw [List.drop_eq_getElem_cons hlt', hg'] at er
  injection er with e1 e2
  refine rwE e1 ?_
  refine wpAny_pyNext_enum_itemD (X.draws A.in1 hA.handled) he st hlt hne hef fun u h' tk hu ho st' hT w hk => ?_
  have S_1 : StX (· ∈ [e, it]) (fun w => False) Ω Z s Z { s with heap := h', toks := tk + 1 } := StX.at hO (fun b hb => by
   refine zaZ hb ?_ ?_
   ·exact z1
   ·exact z2) fun b o nb eo => by
    have nb := nm2 nb
    exact hk b o nb.1 nb.2 eo
  obtain ⟨Z', S_2, hz, f', hoff⟩ := S_1.freezeNew (a := s.heap.objs.size) (zj _) (hO.sub.none (zj _)) hT
  have his : it ≠ s.heap.objs.size := by obtain ⟨o, ho⟩ := X.live i _ st it X.mem; exact Nat.ne_of_lt (Heap.lt_size ho)
  refine ⟨_, Z', rfl, S_2, zaq.mpr (I33 _ _ 0 rfl hz ?_), i, _, u, rfl, hlt, e2, st', ho, f.trans f', by rw [hoff _ (Nat.ne_of_lt (Heap.lt_size he))]; exact z1, by rw [hoff _ his]; exact z2⟩
  exact .cons (zo.mpr ⟨_, rfl⟩) (.one ((X.rep i u _ hu hx).mono (f.trans f')))
 go := by
  intro A hA target v rem Z s h9 hO hp; obtain ⟨i, T, x, rfl, hi, er, st, he, f, z1, z2⟩ := h9
  obtain ⟨es, k, p, e9⟩ := hp rfl; refine rwE e9 ?_
  refine wpAny_letOwnedTupleGo_enum he fun h' he' hs' => ?_
  refine ⟨StX.at (n := s.toks) hO (fun b hb => by
   refine zaZ hb ?_ ?_
   ·exact z1
   ·exact z2) fun b o nb eo => by
    have nb := nm2 nb
    exact (hs'.2 b nb.1).trans eo, i + 1, x, hi, er, ?_, by simpa using he', f, z1, z2⟩
  exact (X.draws {} rfl).frame (i + 1) _ _ st fun b hb o eo => (hs'.2 b (fun q => hef (q ▸ hb))).trans eo
 done := by
  intro A hA Z s h9 hO; obtain ⟨i, old, hi, er, st, he, f, z1, z2⟩ := h9
  have hi' : i = xs.length := by
   refine Or.elim (Nat.lt_or_ge i xs.length) (fun h => ?_) fun h => ?_
   ·have := congrArg List.length er
    rw [List.length_drop, zey] at this
    simp at this; lia
   ·lia
  subst hi'
  refine wpAny_pyNext_enum_endD (X.draws A.in1 hA.handled) he st fun h' he' => ⟨rfl, Z, ?_⟩
  exact StX.at (n := s.toks) hO (fun b hb => by
   refine zaZ hb ?_ ?_
   ·exact z1
   ·exact z2) fun b o nb eo => by
    have nb := nm2 nb
    exact he' b o nb.2 eo
 self := by
  intro A hA rem Z s h9 hO; obtain ⟨i, old, hi, er, st, he, f, z1, z2⟩ := h9
  exact wpAny_pyIter_enum he ⟨rfl, rfl⟩
theorem zmg (hA : Rm A n) {s_0 : Shared} {Z₀ : Heap} (S : Stp Ω Z₀ s_0 Z s) {u : Value} {xs : List PyData} (h : zlw Ω Z s xs u s') :
  wpAny Ω.m A (pyIter u) (zd2 Ω A true Z₀ s_0 (zd7 xs 0)) zc s' := by
 refine cps fun G0 hG_0 => ?_
 obtain ⟨e, it, fp, P, St, e9, S', h1, h2, h3, h4, X, st, he⟩ := h; subst e9
 refine hG_0 ?_
 refine wpAny_pyIter_enum he ?_
 have z2 : Z.get? it = none := S.ok.sub.none h2
 refine ⟨_, _, _, _, _, Z, S.trans S', (zhQ X h3 h4).at hA, ⟨rfl, rfl, 0, .none, Nat.zero_le _, rfl, st, he, .refl _, (S.ok.sub.none h1), z2⟩, ?_, fun v h => h.elim, ?_⟩
 ·intro b hb
  refine zaZ hb ?_ ?_
  ·exact S.fresh h1
  ·exact S.fresh h2
 ·intro b hb
  rcases List.mem_cons.mp hb with rfl | hb
  ·exact .inl (S.fresh h1)
  ·rcases X.old b hb with rfl | h
   ·exact .inl (S.fresh h2)
   ·exact .inr h
end
end
structure Zap (z TI TO i1 i2 : Addr) (fp1 fp2 : List Addr) : Prop where
 m1 : i1 ∈ fp1
 m2 : i2 ∈ fp2
 z1 : z ∉ fp1
 z2 : z ∉ fp2
 o1 : TO ∉ fp1
 o2 : TO ∉ fp2
 x12 : i1 ∉ fp2
 x21 : i2 ∉ fp1
 TIz : TI ≠ z
 TITO : TI ≠ TO
 TIi1 : TI ≠ i1
 TIi2 : TI ≠ i2
 TOz : TO ≠ z
namespace Zap
variable {z TI TO i1 i2 : Addr} {fp1 fp2 : List Addr}
theorem i1z (D : Zap z TI TO i1 i2 fp1 fp2) : i1 ≠ z := fun e => D.z1 (e ▸ D.m1)
theorem i2z (D : Zap z TI TO i1 i2 fp1 fp2) : i2 ≠ z := fun e => D.z2 (e ▸ D.m2)
theorem i1o (D : Zap z TI TO i1 i2 fp1 fp2) : i1 ≠ TO := fun e => D.o1 (e ▸ D.m1)
theorem i2o (D : Zap z TI TO i1 i2 fp1 fp2) : i2 ≠ TO := fun e => D.o2 (e ▸ D.m2)
end Zap
section
variable {Ω : En} {A : Around} {E : Value -> Shared -> Prop} {s : Shared}
theorem zao {it : Addr} {fp : List Addr} {n : Nat} {P : Nat -> Value -> Prop} {St : Nat -> Heap -> Prop} (D : Draws Ω.prog Ω.w A it fp n P St) {a : Addr} {i : Nat} {h h' : Heap} (st : St i h) (hs : Heap.ExtBut a h h') (ha : a ∉ fp) : St i h' :=
 D.frame i h h' st fun b hb o e => hs b o (fun q => ha (q ▸ hb)) e
theorem zmh {z TI TO i1 i2 : Addr} {fp1 fp2 : List Addr} {n1 n2 k : Nat} {P1 P2 : Nat -> Value -> Prop} {St1 St2 : Nat -> Heap -> Prop} {a b : Value} {Q : Value -> Shared -> Prop}
  (D : Zap z TI TO i1 i2 fp1 fp2) (D1 : Draws Ω.prog Ω.w A i1 fp1 n1 P1 St1) (D2 : Draws Ω.prog Ω.w A i2 fp2 n2 P2 St2)
  (hz : IsZip s.heap z TI TO .none) (hTI : IsPair s.heap TI (.ref i1) (.ref i2)) (hTO : IsPair s.heap TO a b) (h1 : St1 k s.heap) (h2 : St2 k s.heap) (k1 : k < n1) (k2 : k < n2)
  (hQ : ∀ x y h' tk, P1 k x -> P2 k y -> IsZip h' z TI TO (rawInt s.heap.objs.size) -> IsPair h' TO x y -> St1 (k + 1) h' -> St2 (k + 1) h' -> IsPair h' s.heap.objs.size x y ->
   (∀ c o, c ≠ z -> c ≠ TO -> c ≠ i1 -> c ≠ i2 -> s.heap.get? c = some o -> h'.get? c = some o) -> Q (.ref s.heap.objs.size) { s with heap := h', toks := tk }) :
  wpAny Ω.m A (Builtin.«zip.__next__» ⟨[.ref z], []⟩) (fun fin s' => ∃ v, fin = .done (.ret v) /\ Q v s') E s := by
 obtain ⟨hp, g, d, tk_0, os⟩ := s
 show wpAny _ _ (field (.ref z) 2 >>= _) _ _ _
 refine wB (wpAny_field hz rfl (x := .bool false) rfl ?_)
 refine wB (wpAny_field hz rfl (x := .ref TI) rfl ?_)
 refine wB (wpAny_seqItems hTI rfl ?_)
 refine wB ?_
 refine wB (wpAny_field hz rfl (x := .none) rfl (wPu ?_))
 refine wB (wpAny_rule ?_)
 refine wB (wpAny_field hz rfl (x := .ref TO) rfl ?_)
 refine wB (wpAny_setField_rec hz (by simp) fun h_1 hz_1 hs_1 => ?_)
 refine wB ?_
 refine wB (wB (wpAny_onRaise ?_))
 refine wB (D1.item k _ _ _ k1 (zao D1 h1 hs_1.extBut D.z1) fun x h_2 tk_1 px h1_2 hs_2 => wPu ?_)
 replace hs_2 : Heap.SameBut i1 h_1 h_2 := hs_2
 have hTO_2 : IsPair h_2 TO a b := hs_2.extBut _ _ D.i1o.symm (hs_1.extBut _ _ D.TOz hTO)
 refine wB (wpAny_seqItems hTO_2 rfl ?_)
 refine wB (wpAny_updateSeq_pair hTO_2 fun h_3 hTO_3 hs_3 => ?_)
 replace hs_3 : Heap.SameBut TO h_2 h_3 := hs_3
 refine wB (wpAny_letGo (wPu ?_))
 refine wB (wB (wpAny_onRaise ?_))
 show wpAny _ _ (Builtin.SmallTypes.nextOf (.ref i2) >>= _) _ _ ⟨h_3, g, d, tk_1, os⟩
 refine wB (D2.item k _ _ _ k2 (zao D2 (zao D2 (zao D2 h2 hs_1.extBut D.z2) hs_2.extBut D.x12) hs_3.extBut D.o2) fun y h_4 tk_2 py h2_4 hs_4 => wPu ?_)
 replace hs_4 : Heap.SameBut i2 h_3 h_4 := hs_4
 have hTO_4 : IsPair h_4 TO x b := hs_4.extBut _ _ D.i2o.symm hTO_3
 refine wB (wpAny_seqItems hTO_4 rfl ?_)
 refine wB (wpAny_updateSeq_pair hTO_4 fun h_5 hTO_5 hs_5 => ?_)
 replace hTO_5 : IsPair h_5 TO x y := hTO_5
 refine wB (wpAny_letGo (wPu (wPu ?_)))
 refine wB (wpAny_seqItems hTO_5 rfl ?_)
 refine wB (wpAny_newTuple ?_)
 have hsz : h_5.objs.size = hp.objs.size := by rw [hs_5.1, hs_4.1, hs_3.1, hs_2.1, hs_1.1]
 have hz_5 : IsZip h_5 z TI TO .ellipsis := hs_5.extBut _ _ D.TOz.symm (hs_4.extBut _ _ D.i2z.symm (hs_3.extBut _ _ D.TOz.symm (hs_2.extBut _ _ D.i1z.symm hz_1)))
 have hk_5 : ∀ c o, c ≠ z -> c ≠ TO -> c ≠ i1 -> c ≠ i2 -> hp.get? c = some o -> h_5.get? c = some o := fun c o c1 c2 c3 c4 e =>
  hs_5.extBut _ _ c2 (hs_4.extBut _ _ c4 (hs_3.extBut _ _ c2 (hs_2.extBut _ _ c3 (hs_1.extBut _ _ c1 e))))
 have h1_5 : St1 (k + 1) h_5 := zao D1 (zao D1 (zao D1 h1_2 hs_3.extBut D.o1) hs_4.extBut D.x21) hs_5.extBut D.o1
 have h2_5 : St2 (k + 1) h_5 := zao D2 h2_4 hs_5.extBut D.o2
 have hzlt : z < h_5.objs.size := Heap.lt_size hz_5
 refine wB ?_
 have hz_6 : IsZip (h_5.push { cls := .type "tuple", data := .seq #[x, y] }) z TI TO .ellipsis := Heap.get?_push_of_some _ hz_5
 refine wB (wpAny_setField_rec hz_6 (by simp) fun h_7 hz_7 hs_7 => ?_)
 refine wpAny_setField_rec hz_7 (by simp) fun h_8 hz_8 hs_8 => ?_
 have up : ∀ c o, c ≠ z -> h_5.get? c = some o -> h_8.get? c = some o := fun c o c1 e => hs_8.extBut _ _ c1 (hs_7.extBut _ _ c1 (Heap.get?_push_of_some _ e))
 have hT_8 : IsPair h_8 h_5.objs.size x y := hs_8.extBut _ _ (Nat.ne_of_gt hzlt) (hs_7.extBut _ _ (Nat.ne_of_gt hzlt) (Heap.get?_push_size _ rfl))
 rw [hsz] at hz_8 hT_8
 refine wPu (I12 _ rfl ?_)
 rw [hsz]
 exact hQ x y h_8 tk_2 px py hz_8 (up _ _ D.TOz hTO_5) (D1.frame _ _ _ h1_5 fun c hc o e => up c o (fun q => D.z1 (q ▸ hc)) e) (D2.frame _ _ _ h2_5 fun c hc o e => up c o (fun q => D.z2 (q ▸ hc)) e) hT_8 fun c o c1 c2 c3 c4 e => up c o c1 (hk_5 c o c1 c2 c3 c4 e)
theorem znG {z TI TO i1 i2 : Addr} {fp1 fp2 : List Addr} {n1 n2 k : Nat} {P1 P2 : Nat -> Value -> Prop} {St1 St2 : Nat -> Heap -> Prop} {a b : Value} {Q : Fin -> Shared -> Prop}
  (D : Zap z TI TO i1 i2 fp1 fp2) (D1 : Draws Ω.prog Ω.w A i1 fp1 n1 P1 St1) (D2 : Draws Ω.prog Ω.w A i2 fp2 n2 P2 St2)
  (hz : IsZip s.heap z TI TO .none) (hTI : IsPair s.heap TI (.ref i1) (.ref i2)) (hTO : IsPair s.heap TO a b) (h1 : St1 k s.heap) (h2 : St2 k s.heap) (k1 : k <= n1) (k2 : k <= n2) (hend : k = n1 \/ k = n2)
  (hE : ∀ h' tk e, (∀ c o, c ≠ z -> c ≠ TO -> c ≠ i1 -> c ≠ i2 -> s.heap.get? c = some o -> h'.get? c = some o) -> (∃ o, h'.get? e = some o /\ o.cls = .type "StopIteration") -> E (.ref e) { s with heap := h', toks := tk }) :
  wpAny Ω.m A (Builtin.«zip.__next__» ⟨[.ref z], []⟩) Q E s := by
 obtain ⟨hp, g, d, tk_0, os⟩ := s
 show wpAny _ _ (field (.ref z) 2 >>= _) _ _ _
 refine wB (wpAny_field hz rfl (x := .bool false) rfl ?_)
 refine wB (wpAny_field hz rfl (x := .ref TI) rfl ?_)
 refine wB (wpAny_seqItems hTI rfl ?_)
 refine wB ?_
 refine wB (wpAny_field hz rfl (x := .none) rfl (wPu ?_))
 refine wB (wpAny_rule ?_)
 refine wB (wpAny_field hz rfl (x := .ref TO) rfl ?_)
 refine wB (wpAny_setField_rec hz (by simp) fun h_1 hz_1 hs_1 => ?_)
 refine wB ?_
 refine wB (wB (wpAny_onRaise ?_))
 have h1_1 : St1 k h_1 := zao D1 h1 hs_1.extBut D.z1
 by_cases hk1 : k = n1
 ·subst hk1
  refine wB (D1.done _ _ _ h1_1 fun h_2 e hs_2 he => ?_)
  obtain ⟨oe, hoe, hce⟩ := he
  have hz_2 : IsZip h_2 z TI TO .ellipsis := hs_2 _ _ D.i1z.symm hz_1
  have hez : e ≠ z := fun x => by obtain rfl := x.symm; rw [hz_2] at hoe; cases hoe; simp at hce
  refine wpAny_setField_rec hz_2 (by simp) fun h_3 u hs_3 => hE h_3 tk_0 e (fun c o c1 u c3 v x => hs_3.extBut _ _ c1 (hs_2 _ _ c3 (hs_1.extBut _ _ c1 x))) ⟨oe, hs_3.extBut _ _ hez hoe, hce⟩
 ·have hk2 : k = n2 := by lia
  subst hk2
  refine wB (D1.item k _ _ _ (by lia) h1_1 fun x h_2 tk_1 px h1_2 hs_2 => wPu ?_)
  have hTO_2 : IsPair h_2 TO a b := hs_2.extBut _ _ D.i1o.symm (hs_1.extBut _ _ D.TOz hTO)
  refine wB (wpAny_seqItems hTO_2 rfl ?_)
  refine wB (wpAny_updateSeq_pair hTO_2 fun h_3 hTO_3 hs_3 => ?_)
  replace hs_3 : Heap.SameBut TO h_2 h_3 := hs_3
  refine wB (wpAny_letGo (wPu ?_))
  refine wB (wB (wpAny_onRaise ?_))
  show wpAny _ _ (Builtin.SmallTypes.nextOf (.ref i2) >>= _) _ _ ⟨h_3, g, d, tk_1, os⟩
  refine wB (D2.done _ _ _ (zao D2 (zao D2 (zao D2 h2 hs_1.extBut D.z2) hs_2.extBut D.x12) hs_3.extBut D.o2) fun h_4 e hs_4 he => ?_)
  obtain ⟨oe, hoe, hce⟩ := he
  have hz_4 : IsZip h_4 z TI TO .ellipsis := hs_4 _ _ D.i2z.symm (hs_3.extBut _ _ D.TOz.symm (hs_2.extBut _ _ D.i1z.symm hz_1))
  have hez : e ≠ z := fun x => by obtain rfl := x.symm; rw [hz_4] at hoe; cases hoe; simp at hce
  refine wpAny_setField_rec hz_4 (by simp) fun h_5 u hs_5 => hE h_5 tk_1 e (fun c o c1 c2 c3 c4 x => hs_5.extBut _ _ c1 (hs_4 _ _ c4 (hs_3.extBut _ _ c2 (hs_2.extBut _ _ c3 (hs_1.extBut _ _ c1 x))))) ⟨oe, hs_5.extBut _ _ hez hoe, hce⟩
end
noncomputable abbrev zt1 (h : Heap) (l1 : Addr) : Heap := h.push { cls := .type "tuple_iterator", data := .fields #[.ref l1, .int 0 0] }
abbrev zt2 (h : Heap) (l1 l2 : Addr) : Heap := (zt1 h l1).push { cls := .type "tuple_iterator", data := .fields #[.ref l2, .int 0 0] }
abbrev zt3 (h : Heap) (l1 l2 : Addr) : Heap := (zt2 h l1 l2).push { cls := .type "tuple", data := .seq #[.ref h.objs.size, .ref (zt1 h l1).objs.size] }
abbrev zt4 (h : Heap) (l1 l2 : Addr) : Heap := (zt3 h l1 l2).push { cls := .type "tuple", data := .seq #[.none, .none] }
abbrev zt5 (h : Heap) (l1 l2 : Addr) : Heap := (zt4 h l1 l2).push { cls := .type "zip", data := .fields #[.none, .bool false, .bool false, .ref (zt2 h l1 l2).objs.size, .ref (zt3 h l1 l2).objs.size] }
theorem zhs (l1 l2 : Addr) (xs ys : Array Value) :
  Meets (Builtin.«zip.__new__» ⟨[.type "zip", .ref l1, .ref l2], []⟩) (fun u R s => s.heap.IsTuple l1 xs /\ s.heap.IsTuple l2 ys /\
   R (.ok (.ret (.ref (zt4 s.heap l1 l2).objs.size))) { s with heap := zt5 s.heap l1 l2 }) :=
 .of_wp fun prog w A R s h => by
  obtain ⟨hp, g, d, tk, os⟩ := s; obtain ⟨hl1, hl2, h⟩ := h
  have hsub := sub_zip
  have hL2 : Heap.IsTuple (Shared.heap ⟨hp.push { cls := .type "tuple_iterator", data := .fields #[.ref l1, .int 0 0] }, g, d, tk, os⟩) l2 ys := Heap.IsTuple.push hl2 _
  wp_walk using wpAny_pyIter_tuple hl1, wpAny_pyIter_tuple hL2
  exact I12 _ rfl h
section
variable {Ω : En} {A : Around} {E : Value -> Shared -> Prop} {s : Shared}
theorem ziD {l1 l2 : Addr} {xs ys : Array Value} {Q : Value -> Shared -> Prop} (hl1 : s.heap.IsTuple l1 xs) (hl2 : s.heap.IsTuple l2 ys)
  (h : ∀ h', IsZip h' (s.heap.objs.size + 4) (s.heap.objs.size + 2) (s.heap.objs.size + 3) .none -> IsPair h' (s.heap.objs.size + 2) (.ref s.heap.objs.size) (.ref (s.heap.objs.size + 1)) ->
   IsPair h' (s.heap.objs.size + 3) .none .none -> h'.IsTupleIter s.heap.objs.size l1 0 -> h'.IsTupleIter (s.heap.objs.size + 1) l2 0 -> h'.objs.size = s.heap.objs.size + 5 ->
   (∀ c o, s.heap.get? c = some o -> h'.get? c = some o) -> Q (.ref (s.heap.objs.size + 4)) { s with heap := h' }) :
  wpAny Ω.m A (call (.type "zip") [.ref l1, .ref l2]) Q E s := by
 refine callType_new F.called_zip (rfl) (F.typeCall_zip_2 _ _) (F.newCall_zip_2 _ _) (fun obj => F.args_object_init_3 obj _ _) F.entry_zip_new
  (zhs l1 l2 xs ys) (I03 hl1 hl2 ?_)
 have z1 : (zt1 s.heap l1).objs.size = s.heap.objs.size + 1 := Heap.size_push ..
 have z2 : (zt2 s.heap l1 l2).objs.size = s.heap.objs.size + 2 := by rw [Heap.size_push, z1]
 have z3 : (zt3 s.heap l1 l2).objs.size = s.heap.objs.size + 3 := by rw [Heap.size_push, z2]
 have z4 : (zt4 s.heap l1 l2).objs.size = s.heap.objs.size + 4 := by rw [Heap.size_push, z3]
 have g5 : (zt5 s.heap l1 l2).get? (zt4 s.heap l1 l2).objs.size = some _ := Heap.get?_push_size _ rfl
 have g4 : (zt5 s.heap l1 l2).get? (zt3 s.heap l1 l2).objs.size = some _ := Heap.get?_push_of_some _ (Heap.get?_push_size _ rfl)
 have g3 : (zt5 s.heap l1 l2).get? (zt2 s.heap l1 l2).objs.size = some _ := Heap.get?_push_of_some _ (Heap.get?_push_of_some _ (Heap.get?_push_size _ rfl))
 have g2 : (zt5 s.heap l1 l2).get? (zt1 s.heap l1).objs.size = some _ := Heap.get?_push_of_some _ (Heap.get?_push_of_some _ (Heap.get?_push_of_some _ (Heap.get?_push_size _ rfl)))
 have g1 : (zt5 s.heap l1 l2).get? s.heap.objs.size = some _ := Heap.get?_push_of_some _ (Heap.get?_push_of_some _ (Heap.get?_push_of_some _ (Heap.get?_push_of_some _ (Heap.get?_push_size _ rfl))))
 rw [z2, z3, z4] at g5
 rw [z1, z2] at g3
 rw [z3] at g4
 rw [z1] at g2
 rw [z4]
 exact ⟨(I12 _ g5 rfl), h _ g5 g3 g4 (I13 _ g1 rfl rfl) (I13 _ g2 rfl rfl) (by rw [Heap.size_push, z4]) fun c o x =>
  Heap.get?_push_of_some _ (Heap.get?_push_of_some _ (Heap.get?_push_of_some _ (Heap.get?_push_of_some _ (Heap.get?_push_of_some _ x))))⟩
end
section
variable {Ω : En} {A : Around} {Z Z' Z'' : Heap} {s s' s'' : Shared} {n m : Nat}
def znH (Ω : En) (Z : Heap) (s : Shared) (xs ys : List PyData) : Value -> Shared -> Prop := fun u s' =>
 ∃ z TI TO i1 i2 fp1 fp2 P1 P2 St1 St2 a b, u = .ref z /\ Stp Ω Z s Z s' /\ (∀ c ∈ [z, TI, TO, i1, i2], s.heap.get? c = none) /\ Zap z TI TO i1 i2 fp1 fp2 /\
  Src Ω Z xs i1 fp1 P1 St1 /\ Src Ω Z ys i2 fp2 P2 St2 /\ St1 0 s'.heap /\ St2 0 s'.heap /\ IsZip s'.heap z TI TO .none /\ IsPair s'.heap TI (.ref i1) (.ref i2) /\ IsPair s'.heap TO a b
theorem zlx {k : Nat} {a b : Nat} (ha : a < k) (hb : b < k) : Zap (k + 4) (k + 2) (k + 3) k (k + 1) [k, a] [k + 1, b] := by
 have nin : ∀ x y z : Nat, x ≠ y -> x ≠ z -> x ∉ [y, z] := by intro x y z h1 h2 h; simp at h; lia
 have ne : ∀ x y : Nat, x ≠ y -> (x : Addr) ≠ y := fun u v h => h
 exact ⟨by simp, by simp, nin _ _ _ (by lia) (by lia), nin _ _ _ (by simp) (by lia), nin _ _ _ (by simp) (by lia), nin _ _ _ (by simp) (by lia), nin _ _ _ (by simp) (by lia), nin _ _ _ (by simp) (by lia),
  ne _ _ (by simp), ne _ _ (by simp), ne _ _ (by simp), ne _ _ (by simp), ne _ _ (by simp)⟩
theorem znI (hO : Ok Ω Z s) {v v' : Value} {d d' : PyData} {p : List PyData × List PyData} (r : Rep Z v d) (r' : Rep Z v' d') (hi : zir d d' = some p) :
  wpAny Ω.m A (call (.type "zip") [v, v']) (znH Ω Z s p.1 p.2) zc s := by
 have hf : ∀ c ∈ [s.heap.objs.size + 4, s.heap.objs.size + 2, s.heap.objs.size + 3, s.heap.objs.size, s.heap.objs.size + 1], s.heap.get? c = none := by
  intro c hc
  simp only [List.mem_cons, List.not_mem_nil, or_false] at hc
  exact zaa (by rcases hc with h | h | h | h | h <;> lia)
 unfold zir at hi
 split at hi
 ·refine eqE hi ?_
  refine cps fun G0 hG_0 => ?_
  obtain (⟨a, vs, k, rfl, e, r⟩) := r
  obtain (⟨b, us, k', rfl, e', r'⟩) := r'
  refine hG_0 ?_
  have hs := hO.sub _ _ e
  have hs' := hO.sub _ _ e'
  have la := Heap.lt_size hs
  have lb := Heap.lt_size hs'
  refine call_zip_2 (xs := vs) (ys := us) ⟨_, hs, rfl, k, rfl⟩ ⟨_, hs', rfl, k', rfl⟩ fun h' hz hTI hTO h1 h2 u hk => ?_
  exact ⟨_, _, _, _, _, _, _, _, _, _, _, _, _, rfl, Stp.grow (n := s.toks) hO hk, hf, zlx la lb, zgB (Nat.ne_of_lt la) e r, zgB (Nat.ne_of_lt (Nat.lt_succ_of_lt lb)) e' r',
   ⟨h1, _, hk _ _ hs, rfl, k, rfl⟩, ⟨h2, _, hk _ _ hs', rfl, k', rfl⟩, hz, hTI, hTO⟩
 ·refine eqE hi ?_
  refine cps fun G0 hG_0 => ?_
  obtain (⟨a, vs, k, rfl, e, r⟩) := r
  obtain (⟨b, us, k', rfl, e', r'⟩) := r'
  refine hG_0 ?_
  have hs := hO.sub _ _ e
  have hs' := hO.sub _ _ e'
  have la := Heap.lt_size hs
  have lb := Heap.lt_size hs'
  refine ziD (xs := vs) (ys := us) ⟨_, hs, rfl, k, rfl⟩ ⟨_, hs', rfl, k', rfl⟩ fun h' hz hTI hTO h1 h2 u hk => ?_
  exact ⟨_, _, _, _, _, _, _, _, _, _, _, _, _, rfl, Stp.grow (n := s.toks) hO hk, hf, zlx la lb, zfd (Nat.ne_of_lt la) e r, zfd (Nat.ne_of_lt (Nat.lt_succ_of_lt lb)) e' r',
   ⟨h1, _, hk _ _ hs, rfl, k, rfl⟩, ⟨h2, _, hk _ _ hs', rfl, k', rfl⟩, hz, hTI, hTO⟩
 ·exact za hi
theorem zjJ : ∀ {xs ys : List PyData} {i : Nat} {x y : PyData}, xs[i]? = some x -> ys[i]? = some y -> (zel xs ys)[i]? = some (.tuple [x, y])
 | [], ys, i, x, y, h, _ => by exact za h
 | _ :: _, [], i, x, y, _, h => by exact za h
 | a :: xs, b :: ys, 0, x, y, h, h' => by simp at h h'; subst h; subst h'; rfl
 | a :: xs, b :: ys, i + 1, x, y, h, h' => by
  show (zel xs ys)[i]? = _
  exact zjJ h h'
theorem zgD : ∀ {xs ys : List PyData}, (zel xs ys).length = min xs.length ys.length
 | [], ys => rfl
 | _ :: _, [] => rfl
 | a :: xs, b :: ys => (congrArg (· + 1) zgD).trans (Nat.succ_min_succ ..).symm
structure ZS (xs ys : List PyData) (z TI TO i1 i2 : Addr) (St1 St2 : Nat -> Heap -> Prop) (Z₀ : Heap) (v : Value) (i : Nat) (rem : List PyData) (Z : Heap) (s : Shared) : Prop where
 hi : i <= xs.length
 hj : i <= ys.length
 er : rem = (zel xs ys).drop i
 st1 : St1 i s.heap
 st2 : St2 i s.heap
 hz : IsZip s.heap z TI TO v
 hTI : IsPair s.heap TI (.ref i1) (.ref i2)
 hTO : ∃ a b, IsPair s.heap TO a b
 f : Sub Z₀ Z
 zz : ∀ b ∈ [z, TO, i1, i2], Z.get? b = none
theorem zly {xs ys : List PyData} {z TI TO i1 i2 : Addr} {fp1 fp2 : List Addr} {P1 P2 : Nat -> Value -> Prop} {St1 St2 : Nat -> Heap -> Prop} {Z₀ : Heap} (X : Src Ω Z₀ xs i1 fp1 P1 St1) (Y : Src Ω Z₀ ys i2 fp2 P2 St2) (D : Zap z TI TO i1 i2 fp1 fp2)
  {v : Value} {i : Nat} {rem : List PyData} (H : ZS xs ys z TI TO i1 i2 St1 St2 Z₀ v i rem Z s) {c : Addr} (hc : c ∈ [z, TO, i1, i2]) : ∃ o, s.heap.get? c = some o := by
 refine zbt hc ?_ fun hc => zbt hc ?_ fun hc => zaZ hc ?_ ?_
 ·exact ⟨_, H.hz⟩
 ·exact H.hTO.elim fun _ h => h.elim fun _ h => ⟨_, h⟩
 ·exact X.live i _ H.st1 _ D.m1
 ·exact Y.live i _ H.st2 _ D.m2
theorem znJ {xs ys : List PyData} {z TI TO i1 i2 : Addr} {fp1 fp2 : List Addr} {P1 P2 : Nat -> Value -> Prop} {St1 St2 : Nat -> Heap -> Prop} {Z₀ : Heap}
  (X : Src Ω Z₀ xs i1 fp1 P1 St1) (Y : Src Ω Z₀ ys i2 fp2 P2 St2) (D : Zap z TI TO i1 i2 fp1 fp2) :
  ziC Ω (.ref z) ([z, TI, TO] ++ (fp1 ++ fp2)) [z, TO, i1, i2] (fun w => False) true
   (fun rem Z s => ∃ i, ZS xs ys z TI TO i1 i2 St1 St2 Z₀ .none i rem Z s)
   (fun v rem Z s => ∃ (i : Nat) (T : Addr), v = .ref T /\ ZS xs ys z TI TO i1 i2 St1 St2 Z₀ (rawInt T) (i + 1) rem Z s) n where
 sub := fun b hb => by
  simp only [List.mem_cons, List.not_mem_nil, or_false] at hb
  have := D.m1; have := D.m2
  rcases hb with rfl | rfl | rfl | rfl <;> simp [*]
 live := fun rem Z s h => E11 h fun i H => by
  refine I03 (fun b hb => ?_) H.zz (fun w h => h.elim)
  refine Or.elim (List.mem_append.mp hb) (fun hb => ?_) fun hb => ?_
  ·refine zbt hb ?_ fun hb => zaZ hb ?_ ?_
   ·exact ⟨_, H.hz⟩
   ·exact ⟨_, H.hTI⟩
   ·exact H.hTO.elim fun _ h => h.elim fun _ h => ⟨_, h⟩
  ·refine Or.elim (List.mem_append.mp hb) (fun hb => ?_) fun hb => ?_
   ·exact X.live i _ H.st1 b hb
   ·exact Y.live i _ H.st2 b hb
 frame := fun rem Z s W' GI' Z' s' h S hd _ => E11 h fun i H => by
  have d1 : ∀ b ∈ fp1, ¬ W' b := fun b hb => hd b (List.mem_append_right _ (List.mem_append_left _ hb))
  have d2 : ∀ b ∈ fp2, ¬ W' b := fun b hb => hd b (List.mem_append_right _ (List.mem_append_right _ hb))
  refine ⟨i, H.hi, H.hj, H.er, (X.draws {} rfl).frame i _ _ H.st1 fun b hb o eo => S.h b o (d1 b hb) eo, (Y.draws {} rfl).frame i _ _ H.st2 fun b hb o eo => S.h b o (d2 b hb) eo,
   S.h _ _ (hd z (by simp)) H.hz, S.h _ _ (hd TI (by simp)) H.hTI, E21 H.hTO fun a b h => I21 a b (S.h _ _ (hd TO (by simp)) h), H.f.trans S.f, fun c hc => ?_⟩
  have hw : ¬ W' c := by
   refine zbt hc ?_ fun hc => zbt hc ?_ fun hc => zaZ hc ?_ ?_
   ·exact hd _ (by simp)
   ·exact hd _ (by simp)
   ·exact d1 _ D.m1
   ·exact d2 _ D.m2
  exact E11 (zly X Y D H hc) fun o ho => (S.new _ _ hw ho).trans (H.zz c hc)
 next := fun A hA x rem Z s h hO => E11 h fun i H => by
  have er := H.er
  have hlen : i < (zel xs ys).length := by
   refine Or.elim (Nat.lt_or_ge i (zel xs ys).length) (fun h => h) fun h => ?_
   rw [List.drop_eq_nil_of_le h] at er; exact nomatch er
  have hmin := hlen
  rw [zgD] at hmin
  have hlt : i < xs.length := by lia
  have hlt' : i < ys.length := by lia
  have hx := List.getElem?_eq_getElem hlt
  have hy := List.getElem?_eq_getElem hlt'
  obtain ⟨_, hg'⟩ := List.getElem?_eq_some_iff.mp (zjJ hx hy)
  rw [List.drop_eq_getElem_cons hlen, hg'] at er
  injection er with e1 e2
  refine rwE e1 ?_
  have hT : s.TypeIs (.ref z) "zip" := I12 _ H.hz rfl
  refine E21 H.hTO fun a b hTO => wB (wpAny_attempt (wpAny_callSpecial?_slot (name := Str.ofString "__next__") hT F.slot_zip_next
   (wpAny_call_entry F.slot_zip_next hT F.entry_zip_next
    (zmh (Q := fun v s_1 => wpAny Ω.m A _ _ _ s_1) D (X.draws A.in1 hA.handled) (Y.draws A.in1 hA.handled) H.hz H.hTI hTO H.st1 H.st2 hlt hlt' fun u v h' tk pu pv hz' hTO' st1' st2' hT' hk => wPu ?_) (F.args_zip_next_1 _))))
  have S_1 : StX (· ∈ [z, TO, i1, i2]) (fun w => False) Ω Z s Z { s with heap := h', toks := tk } := StX.at hO H.zz fun c o nb eo => by
   have nb := nm4 nb
   exact hk c o nb.1 nb.2.1 nb.2.2.1 nb.2.2.2 eo
  obtain ⟨Z', S_2, hzz, f', hoff⟩ := S_1.freezeNew (a := s.heap.objs.size) (zj _) (hO.sub.none (zj _)) hT'
  have f := H.f.trans f'
  refine ⟨_, Z', rfl, S_2, zaq.mpr (I33 _ _ 0 rfl hzz ?_), i, _, rfl, hlt, hlt', e2, st1', st2', hz', hk TI _ D.TIz D.TITO D.TIi1 D.TIi2 H.hTI, I21 _ _ hTO', f, fun c hc => (hoff _ (E11 (zly X Y D H hc) fun o ho => Nat.ne_of_lt (Heap.lt_size ho))).trans (H.zz c hc)⟩
  exact .cons ((X.rep i u _ pu hx).mono f) (.one ((Y.rep i v _ pv hy).mono f))
 go := fun A hA target v rem Z s h hO hp => E22 h fun i T ev H => by
  obtain ⟨es, k, p, e9⟩ := hp rfl; refine rwE e9 ?_
  refine rwE ev ?_
  refine wpAny_letOwnedTupleGo_zip H.hz fun h' hz' hs' => ?_
  exact ⟨StX.at (n := s.toks) hO H.zz fun c o nb eo => by
    have nb := nm4 nb
    exact hs'.extBut _ _ nb.1 eo, i + 1, H.hi, H.hj, H.er, zao (X.draws {} rfl) H.st1 hs'.extBut D.z1, zao (Y.draws {} rfl) H.st2 hs'.extBut D.z2, hz', hs'.extBut _ _ D.TIz H.hTI, E21 H.hTO fun a b h => I21 a b (hs'.extBut _ _ D.TOz h), H.f, H.zz⟩
 done := fun A hA Z s h hO => E11 h fun i H => by
  have hi := H.hi; have hj := H.hj
  have hlen : (zel xs ys).length <= i := by
   refine Or.elim (Nat.lt_or_ge i (zel xs ys).length) (fun h => ?_) fun h => h
   have := congrArg List.length H.er
   simp at this; lia
  rw [zgD] at hlen
  have hT : s.TypeIs (.ref z) "zip" := I12 _ H.hz rfl
  refine E21 H.hTO fun a b hTO => wB (wpAny_attempt (wpAny_callSpecial?_slot (name := Str.ofString "__next__") hT F.slot_zip_next
   (wpAny_call_entry F.slot_zip_next hT F.entry_zip_next (znG D (X.draws A.in1 hA.handled) (Y.draws A.in1 hA.handled) H.hz H.hTI hTO H.st1 H.st2 H.hi H.hj (by lia) fun h' tk e hk he => ?_) (F.args_zip_next_1 _))))
  refine E12 he fun o ho hc => wB (wpAny_isInstance (T := "StopIteration") (b := true) (I12 o ho hc) isSubtype_stop ?_)
  exact wPu ⟨rfl, Z, StX.at hO H.zz fun c o nb eo => by
    have nb := nm4 nb
    exact hk c o nb.1 nb.2.1 nb.2.2.1 nb.2.2.2 eo⟩
 self := fun A hA rem Z s h hO => E11 h fun i H => wpAny_pyIter_zip H.hz ⟨rfl, rfl⟩
theorem znK (hA : Rm A n) {s_0 : Shared} {Z₀ : Heap} (S : Stp Ω Z₀ s_0 Z s) {u : Value} {xs ys : List PyData} (h : znH Ω Z s xs ys u s') :
  wpAny Ω.m A (pyIter u) (zd2 Ω A true Z₀ s_0 (zel xs ys)) zc s' := by
 refine cps fun G0 hG_0 => ?_
 obtain ⟨z, TI, TO, i1, i2, fp1, fp2, P1, P2, St1, St2, a, b, e9, S', hf, D, X, Y, st1, st2, hz, hTI, hTO⟩ := h; obtain rfl := e9.symm
 refine hG_0 ?_
 refine wpAny_pyIter_zip hz ?_
 have hz0 : ∀ c ∈ [z, TO, i1, i2], Z.get? c = none := fun c hc => S.ok.sub.none (hf c (by
  simp only [List.mem_cons, List.not_mem_nil, or_false] at hc |-
  rcases hc with h | h | h | h <;> simp [h]))
 refine ⟨_, _, _, _, _, Z, S.trans S', (znJ X Y D).at hA, ⟨rfl, rfl, 0, Nat.zero_le _, Nat.zero_le _, rfl, st1, st2, hz, hTI, (I21 a b hTO), .refl _, hz0⟩, ?_, fun v h => h.elim, ?_⟩
 ·intro c hc
  refine S.fresh (hf c ?_)
  simp only [List.mem_cons, List.not_mem_nil, or_false] at hc |-
  rcases hc with h | h | h | h <;> simp [h]
 ·intro c hc
  refine Or.elim (List.mem_append.mp hc) (fun hc => ?_) fun hc => ?_
  ·refine .inl (S.fresh (hf c ?_))
   simp only [List.mem_cons, List.not_mem_nil, or_false] at hc |-
   rcases hc with h | h | h <;> simp [h]
  ·refine Or.elim (List.mem_append.mp hc) (fun hc => ?_) fun hc => ?_
   ·rcases X.old c hc with rfl | h
    ·exact .inl (S.fresh (hf c (by simp)))
    ·exact .inr h
   ·rcases Y.old c hc with rfl | h
    ·exact .inl (S.fresh (hf c (by simp)))
    ·exact .inr h
end
noncomputable def zrH : PE -> Bool
 | .rng _ => true
 | .enm _ => true
 | .zip _ _ => true
 | .rev _ => true
 | .gen _ => true
 | _ => false
noncomputable def ziE : PE -> Bool
 | .enm _ => true
 | .zip _ _ => true
 | _ => false
theorem zpG {n : Nat} {c : TC} {e : PySem.Expr} {pe : PE} (h : tr n c e = some pe) : zrH pe = false := by
 induction n using Nat.casesOn with
 | zero => exact za h
 | succ n => cases zbk h <;> rfl
theorem zmi {S : Sv} {ρ : Rho} {pe : PE} (h : zrH pe = false) : itD S ρ pe = (S.ex ρ pe).bind fun d => (za9 d).bind fun xs => if xs.length <= big then some xs else none := by
 cases pe <;> first | rfl | exact Bool.noConfusion h
theorem ziF {pe : PE} (h : zrH pe = false) : ziE pe = false := by
 cases pe <;> first | rfl | exact Bool.noConfusion h
theorem zdl {n : Nat} {c : TC} {e : PySem.Expr} {pe : PE} (h : zea (tr n) c e = some pe) : zcc e = false := by
 cases zjw h <;> first | rfl | assumption
section
variable {Ω : En} {A : Around} {Z Z' : Heap} {s s' : Shared} {c : TC} {env : Env} {ρ : Rho} {ad : Nat -> Addr}
 {Φ : Fs} {S : Sv} {n m : Nat}
structure GlG (B : Heap) (gen : Str) (ga : Addr) : Prop where
 ns : ∃ mg, B.Ns mainGlobals mg /\ mg gen = some (.ref ga)
 fn : ∃ o fd, B.get? ga = some o /\ o.data = .func fd
def zc3 (Ω : En) (ga : Addr) (n : Nat) : Prop :=
 ∀ A Z s v d xs, Rm A n -> Ok Ω Z s -> Rep Z v d -> znd d = some xs ->
  wpAny Ω.m A (call (.ref ga) [v]) (fun u s' => wpAny Ω.m A (pyIter u) (zd2 Ω A false Z s xs) zc s') zc s
theorem znL {g : Str} {ga : Addr} (GG : GlG Ω.B g ga) (h : Ok Ω Z s) (R : Rel c env Z s.heap ρ ad) {Q : Value -> Shared -> Prop} {E} (hx : zh c g = true)
  (q : Q (.ref ga) s) : wpAny Ω.m A (loadName env g) Q E s := by
 obtain ⟨mg, h1, h2⟩ := GG.ns
 refine zcq R hx ?_
 unfold loadGlobal
 rw [R.glob]
 refine wB (wpAny_nsGet (h1.keeps (h.base.trans h.sub)) ?_)
 rw [h2]
 exact wPu q
def zlz (Ω : En) (A : Around) (pair : Bool) (Z : Heap) (s : Shared) (xs : List PyData) : Value -> Shared -> Prop :=
 fun xv s_1 => wpAny Ω.m A (pyIter xv) (zd2 Ω A pair Z s xs) zc s_1
theorem zjK {xs : List PyData} {pair} {t : Sem Value} (S' : Stp Ω Z s Z' s') (h : wpAny Ω.m A t (zlz Ω A pair Z' s' xs) zc s') :
  wpAny Ω.m A t (zlz Ω A pair Z s xs) zc s' :=
 wpAny_mono h (fun u v p => wpAny_mono p (fun u v q => zcg S' q) fun u v x => x) fun u v x => x
theorem zlA {f : Str} {T : String} {p q : Pos} {args : List PySem.Expr} {pes : List PE} {ds : List PyData} {Q : Value -> Shared -> Prop} (IH : zaP Ω Φ S n (tr m)) (hA : Rm A n) (hG : GlC c Φ) (G : Gl Ω.B Φ)
  (hO : Ok Ω Z s) (hR : Rel c env Z s.heap ρ ad) (hx : zh c f = true) (hv : zdZ.lookup f = some (.type T)) (hdb : (f == ("__debug__" : Str)) = false) (h1 : zC (tr m c) args = some pes) (h2 : exs S ρ pes = some ds)
  (k : ∀ vs s' Z', Stp Ω Z s Z' s' -> zv Z' vs ds -> wpAny Ω.m A (call (.type T) vs) Q zc s') :
  wpAny Ω.m A (eval (.Call (.Name f p) args [] q) env) Q zc s :=
 wpAny_Call_NameR (wpAny_Name (zes G hO hR hx hv (PySem.callWith_type (zb3 q h1) (z9 IH hA hG h1 h2 hO hR fun vs s' Z' S' r => k vs s' Z' S' r))) hdb)
theorem ziG {α β : Type} {f : α -> Option β} {a : α} {b : β} {l : List α} {bs : List β} (h : f a = some b) (t : zC f l = some bs) : zC f (a :: l) = some (b :: bs) :=
 (congrArg (fun o => o.bind fun b => (zC f l).map (b :: ·)) h).trans (congrArg (Option.map (b :: ·)) t)
theorem zjL {pe : PE} {pes : List PE} {d : PyData} {ds : List PyData} (h : S.ex ρ pe = some d) (t : exs S ρ pes = some ds) : exs S ρ (pe :: pes) = some (d :: ds) :=
 (congrArg (fun o => o.bind fun b => (exs S ρ pes).map (b :: ·)) h).trans (congrArg (Option.map (d :: ·)) t)
theorem zgE {α β : Type} {f : α -> Option β} {a : α} {b : β} (h : f a = some b) : zC f [a] = some [b] := ziG h rfl
theorem zdm {α β : Type} {f : α -> Option β} {a a' : α} {b b' : β} (h : f a = some b) (h' : f a' = some b') : zC f [a, a'] = some [b, b'] := ziG h (ziG h' rfl)
theorem ziH {pe : PE} {d : PyData} (h : S.ex ρ pe = some d) : exs S ρ [pe] = some [d] := zjL h rfl
theorem zcT {pe pe' : PE} {d d' : PyData} (h : S.ex ρ pe = some d) (h' : S.ex ρ pe' = some d') : exs S ρ [pe, pe'] = some [d, d'] := zjL h (zjL h' rfl)
def ItW (Ω : En) (A : Around) (env : Env) (Z : Heap) (s : Shared) (xs : List PyData) (e : PySem.Expr) (pair : Bool) : Prop :=
 wpAny Ω.m A (eval e env) (zlz Ω A pair Z s xs) zc s
theorem znM (IH : zaP Ω Φ S n (tr m)) (hA : Rm A n) (hG : GlC c Φ) {e : PySem.Expr} {pe : PE} {xs : List PyData}
  (h1 : tr m c e = some pe) (h2 : itD S ρ pe = some xs) (hO : Ok Ω Z s) (hR : Rel c env Z s.heap ρ ad) : ItW Ω A env Z s xs e (ziE pe) := by
 have hn := zpG h1
 rw [zmi hn] at h2
 rw [ziF hn]
 refine zb h2 fun d hd h2 => zb h2 fun ys hy h2 => ifE h2 fun u e1 => ?_
 refine eqE e1 ?_
 exact Pst.then (IH c e pe ρ d h1 hd A env Z s ad hA hG hO hR) fun v s' Z' S' r => wpM (znE hA S'.ok r hy) (fun u w q => zcg S' q)
theorem zrI (IH : zaP Ω Φ S n (tr m)) (hA : Rm A n) (hG : GlC c Φ) (GG : GlG Ω.B c.gen Φ.ga) (hGn : zc3 Ω Φ.ga n) (hgd : (c.gen == ("__debug__" : Str)) = false) {a : PySem.Expr} {pa : PE} {xs : List PyData} {p q : Pos}
  (hg : zh c c.gen = true) (ha : tr m c a = some pa) (h2 : itD S ρ (.gen pa) = some xs) (hO : Ok Ω Z s) (hR : Rel c env Z s.heap ρ ad) : ItW Ω A env Z s xs (.Call (.Name c.gen p) [a] [] q) false := by
 refine zb h2 fun d hd h2 => ?_
 obtain ⟨o, fd, ho, hof⟩ := GG.fn
 refine wpAny_Call_NameR (wpAny_Name (znL GG hO hR hg ?_) hgd)
 refine Calls.callWith_function (z9 IH hA hG (zgE ha) (ziH hd) hO hR fun vs s_1 Z_1 S_1 r_1 => ⟨⟨S_1.ok.sub _ _ (S_1.ok.base _ _ ho), hof⟩, ?_⟩)
 obtain ⟨v, e9, r⟩ := zdg r_1; refine rwE e9 ?_
 exact zjK S_1 (hGn A Z_1 s_1 v d xs hA S_1.ok r h2)
theorem zrJ (IH : zaP Ω Φ S n (tr m)) (hA : Rm A n) (hG : GlC c Φ) (G : Gl Ω.B Φ) {args : List PySem.Expr} {pes : List PE} {xs : List PyData} {p q : Pos}
  (hg : zh c "range" = true) (hp : zC (tr m c) args = some pes) (h2 : itD S ρ (.rng pes) = some xs) (hO : Ok Ω Z s) (hR : Rel c env Z s.heap ρ ad) : ItW Ω A env Z s xs (.Call (.Name "range" p) args [] q) false := by
 refine zb h2 fun ds hds h2 => zlA IH hA hG G hO hR hg (T := "range") (by decide +kernel) (by decide +kernel) hp hds fun vs s' Z' S' r => ?_
 match ds, r, h2 with
 | [a], r, h2 =>
  refine zb h2 fun k hk h2 => ifE h2 fun hb e => ?_
  obtain ⟨v, e9, r1⟩ := zdg r; refine rwE e9 ?_
  refine zgj hk r1 fun t => ?_
  refine eqE e ?_
  refine call_range_1 ?_
  have S_2 : Stp Ω Z' s' Z' { s' with heap := s'.heap.push { cls := .type "range", data := .fields #[.int 0 s'.toks, .int k t, .int 1 (s'.toks + 1)] }, toks := s'.toks + 1 + 1 } := Stp.grow S'.ok (Sub.push _ _)
  have := zgA (Ω := Ω) (A := A) (n := n) hA S_2.ok (IsRange.new s'.heap 0 k 1 s'.toks t (s'.toks + 1)) (by simp) (by simp) (by have : big = 1000000 := rfl; lia) (by have : big = 1000000 := rfl; lia)
  refine wpM this (fun u w q => zcg (S'.trans S_2) ?_)
  simpa using q
 | [a, b], r, h2 =>
  refine zb h2 fun a ha h2 => zb h2 fun b hb h2 => ifE h2 fun hk e => ?_
  obtain ⟨v, v', e9, r1, r2⟩ := zgu r; refine rwE e9 ?_
  obtain ⟨t, e9⟩ := zbh ha r1; refine rwE e9 ?_
  obtain ⟨t', e9⟩ := zbh hb r2; refine rwE e9 ?_
  refine eqE e ?_
  refine call_range_2 ?_
  have S_2 : Stp Ω Z' s' Z' { s' with heap := s'.heap.push { cls := .type "range", data := .fields #[.int a t, .int b t', .int 1 s'.toks] }, toks := s'.toks + 1 } := Stp.grow S'.ok (Sub.push _ _)
  have := zgA (Ω := Ω) (A := A) (n := n) hA S_2.ok (IsRange.new s'.heap a b 1 t t' s'.toks) (by have : big = 1000000 := rfl; lia) (by have : big = 1000000 := rfl; lia) (by have : big = 1000000 := rfl; lia) (by have : big = 1000000 := rfl; lia)
  exact wpM this (fun u w q => zcg (S'.trans S_2) q)
 | [], r, h2 => exact za h2
 | _ :: _ :: _ :: _, r, h2 => exact za h2
theorem zrK (IH : zaP Ω Φ S n (tr m)) (hA : Rm A n) (hG : GlC c Φ) (G : Gl Ω.B Φ) {a : PySem.Expr} {pa : PE} {xs : List PyData} {p q : Pos}
  (hg : zh c "enumerate" = true) (ha : tr m c a = some pa) (h2 : itD S ρ (.enm pa) = some xs) (hO : Ok Ω Z s) (hR : Rel c env Z s.heap ρ ad) : ItW Ω A env Z s xs (.Call (.Name "enumerate" p) [a] [] q) true := by
 refine zb h2 fun d hd h2 => zb h2 fun ys hy h2 => ifE h2 fun w e => zlA IH hA hG G hO hR hg (T := "enumerate") (by decide +kernel) (by decide +kernel) (zgE ha) (ziH hd) fun vs s' Z' S' r => ?_
 refine eqE e ?_
 obtain ⟨v, e9, r1⟩ := zdg r; refine rwE e9 ?_
 exact wpM (zmf S'.ok r1 hy) (fun u s_1 p => zmg hA S' p)
theorem zrL (IH : zaP Ω Φ S n (tr m)) (hA : Rm A n) (hG : GlC c Φ) (G : Gl Ω.B Φ) {a b : PySem.Expr} {pa pb : PE} {xs : List PyData} {p q : Pos}
  (hg : zh c "zip" = true) (ha : tr m c a = some pa) (hb : tr m c b = some pb) (h2 : itD S ρ (.zip pa pb) = some xs) (hO : Ok Ω Z s) (hR : Rel c env Z s.heap ρ ad) : ItW Ω A env Z s xs (.Call (.Name "zip" p) [a, b] [] q) true := by
 refine zb h2 fun d hd h2 => zb h2 fun d' hd' h2 => zb h2 fun ys hy h2 => ifE h2 fun w e => zlA IH hA hG G hO hR hg (T := "zip") (by decide +kernel) (by decide +kernel) (zdm ha hb) (zcT hd hd') fun vs s' Z' S' r => ?_
 refine eqE e ?_
 obtain ⟨v, v', e9, r1, r2⟩ := zgu r; refine rwE e9 ?_
 exact wpM (znI S'.ok r1 r2 hy) (fun u s_1 p => znK hA S' p)
theorem zrM (IH : zaP Ω Φ S n (tr m)) (hA : Rm A n) (hG : GlC c Φ) (G : Gl Ω.B Φ) {a : PySem.Expr} {pa : PE} {xs : List PyData} {p q : Pos}
  (hg : zh c "reversed" = true) (ha : tr m c a = some pa) (h2 : itD S ρ (.rev pa) = some xs) (hO : Ok Ω Z s) (hR : Rel c env Z s.heap ρ ad) : ItW Ω A env Z s xs (.Call (.Name "reversed" p) [a] [] q) false := by
 refine zb h2 fun d hd h2 => zlA IH hA hG G hO hR hg (T := "reversed") (by decide +kernel) (by decide +kernel) (zgE ha) (ziH hd) fun vs s' Z' S' r => ?_
 obtain ⟨v, e9, r1⟩ := zdg r; refine rwE e9 ?_
 cases d <;> first | exact za h2 | skip
 refine ifE h2 fun u e => ?_
 refine eqE e ?_
 obtain ⟨l, us, k, e9, el, r1⟩ := zah.mp r1; refine rwE e9 ?_
 refine call_reversed_list (items := us) ⟨_, S'.ok.sub _ _ el, rfl, k, rfl⟩ ?_
 have S_2 : Stp Ω Z' s' Z' { s' with heap := s'.heap.push (revObj l ((us.size : Int) - 1)) } := Stp.grow (n := s'.toks) S'.ok (Sub.push _ _)
 exact znF (n := n) hA S_2.ok el r1 s Z (S'.trans S_2) (I13 _ (Heap.get?_push_size _ rfl) rfl rfl) (S'.fresh (zj _)) (S'.ok.sub.none (zj _))
theorem znN (IH : zaP Ω Φ S n (tr m)) (hA : Rm A n) (hG : GlC c Φ) (G : Gl Ω.B Φ) (GG : GlG Ω.B Φ.gen Φ.ga) (hGn : zc3 Ω Φ.ga n) (hgd : (Φ.gen == ("__debug__" : Str)) = false) {e : PySem.Expr} {pe : PE} {xs : List PyData}
  (h1 : zea (tr m) c e = some pe) (h2 : itD S ρ pe = some xs) (hO : Ok Ω Z s) (hR : Rel c env Z s.heap ρ ad) :
  wpAny Ω.m A (eval e env) (zlz Ω A (ziE pe) Z s xs) zc s := by
 rw [<- hG.hg] at GG hgd
 have h9 := zjw h1; induction h9 with
 | plain hs h => exact znM IH hA hG h h2 hO hR
 | gen hg ha => exact zrI IH hA hG GG hGn hgd hg ha h2 hO hR
 | rng hg hp => exact zrJ IH hA hG G hg hp h2 hO hR
 | enm hg ha => exact zrK IH hA hG G hg ha h2 hO hR
 | zip hg ha hb => exact zrL IH hA hG G hg ha hb h2 hO hR
 | rev hg ha => exact zrM IH hA hG G hg ha h2 hO hR
end
theorem zd3 {is : List Nat} : ∀ {ρ : Rho} {j : Nat} {pv : PV}, (zR is ρ)[j]? = some (some pv) -> ρ[j]? = some (some pv) /\ j ∉ is := by
 induction is with
 | nil => intro ρ j pv h; exact ⟨h, by simp⟩
 | cons i is ih =>
  intro ρ j pv h
  obtain ⟨h1, h2⟩ := ih (ρ := ρ.set i none) h
  rw [List.getElem?_set] at h1
  split at h1
  ·split at h1 <;> exact nomatch h1
  ·rename_i hne
   exact ⟨h1, by simp; exact ⟨fun e => hne e.symm, h2⟩⟩
noncomputable def z5 (env : Env) : List (Str × NameKind) -> List (Str × Addr) -> List (Str × Addr)
 | [], acc => acc
 | (x, k) :: r, acc => if k == .free then z5 env r ((x, (env.cells.lookup x).getD 0) :: acc) else z5 env r acc
theorem zht {scope : Scope} {env : Env} (h : ∀ x, (x, NameKind.free) ∈ scope.names -> ∃ a, env.cells.lookup x = some a) : closureFor scope env = pure (z5 env scope.names []) := by
 have go : ∀ (f : Str × NameKind -> List (Str × Addr) -> Sem (ForInStep (List (Str × Addr)))) (hf : ∀ x k r, (∀ a, cellOf env x = pure a -> k = NameKind.free -> f (x, k) r = pure (.yield ((x, a) :: r))) /\ (k ≠ NameKind.free -> f (x, k) r = pure (.yield r)))
   (l : List (Str × NameKind)) (acc : List (Str × Addr)), (∀ x, (x, NameKind.free) ∈ l -> ∃ a, env.cells.lookup x = some a) -> (forIn l acc f : Sem (List (Str × Addr))) = pure (z5 env l acc) := by
  intro f hf l
  induction l with
  | nil => intro acc _; rfl
  | cons p l ih =>
   intro acc hl
   obtain ⟨x, k⟩ := p
   rw [List.forIn_cons]
   have hl' : ∀ y, (y, NameKind.free) ∈ l -> ∃ a, env.cells.lookup y = some a := fun y hy => hl y (List.mem_cons_of_mem _ hy)
   by_cases hk : k = NameKind.free
   ·subst hk
    obtain ⟨a, ha⟩ := hl x List.mem_cons_self
    have hc : cellOf env x = pure a := by unfold cellOf; rw [ha]
    rw [(hf x .free acc).1 a hc rfl]
    unfold z5
    rw [if_pos (by rfl), ha]
    exact ih _ hl'
   ·rw [(hf x k acc).2 hk]
    unfold z5
    rw [if_neg (by simpa using hk)]
    exact ih _ hl'
 simp only [closureFor]
 rw [go _ ?_ scope.names [] h] at |-
 ·rfl
 ·intro x k r
  refine ⟨fun a ha hk => ?_, fun hk => ?_⟩
  ·refine rwB hk ?_; simp [ha]
  ·have : (k == NameKind.free) = false := by simpa using hk
   simp [this]
theorem zbb {env : Env} : ∀ {l : List (Str × NameKind)} {acc : List (Str × Addr)} {x : Str} {a : Addr}, (∀ x, (x, NameKind.free) ∈ l -> ∃ a, env.cells.lookup x = some a) ->
  (z5 env l acc).lookup x = some a -> (((x, NameKind.free) ∈ l /\ env.cells.lookup x = some a) \/ acc.lookup x = some a)
 | [], acc, x, a, _, h => .inr h
 | (y, k) :: r, acc, x, a, hl, h => by
  unfold z5 at h
  have hl' : ∀ y, (y, NameKind.free) ∈ r -> ∃ a, env.cells.lookup y = some a := fun y hy => hl y (List.mem_cons_of_mem _ hy)
  split at h
  ·rename_i hk
   have : k = .free := by simpa using hk
   subst this
   obtain ⟨b, hb⟩ := hl y List.mem_cons_self
   rcases zbb hl' h with ⟨h1, h2⟩ | h1
   ·exact .inl ⟨List.mem_cons_of_mem _ h1, h2⟩
   ·rw [List.lookup_cons] at h1
    split at h1
    ·rename_i e
     have : x = y := by simpa using e
     refine rwE this ?_
     rw [hb] at h1 |-
     exact .inl ⟨List.mem_cons_self, h1⟩
    ·exact .inr h1
  ·rcases zbb hl' h with ⟨h1, h2⟩ | h1
   ·exact .inl ⟨List.mem_cons_of_mem _ h1, h2⟩
   ·exact .inr h1
theorem zcr {env : Env} : ∀ {l : List (Str × NameKind)} {acc : List (Str × Addr)} {x : Str}, ((x, NameKind.free) ∈ l \/ ∃ a, acc.lookup x = some a) -> ∃ a, (z5 env l acc).lookup x = some a
 | [], acc, x, h => by
  refine Or.elim h (fun h => ?_) fun h => ?_
  ·cases h
  ·exact h
 | (y, k) :: r, acc, x, h => by
  unfold z5
  split
  ·refine zcr ?_
   by_cases e : x = y
   ·refine rwE e ?_; exact .inr ⟨_, by simp; rfl⟩
   ·rcases h with h | h
    ·refine Or.elim (List.mem_cons.mp h) (fun h => ?_) fun h => ?_
     ·cases h; exact absurd rfl e
     ·exact .inl h
    ·refine .inr ?_
     obtain ⟨a, ha⟩ := h
     refine ⟨a, ?_⟩
     rw [List.lookup_cons]
     have : (x == y) = false := by simpa using e
     rw [this]; exact ha
  ·rename_i hk
   refine zcr ?_
   rcases h with h | h
   ·refine Or.elim (List.mem_cons.mp h) (fun h => ?_) fun h => ?_
    ·cases h; simp at hk
    ·exact .inl h
   ·exact .inr h
theorem zcE : ∀ (names : List (Str × NameKind)) (h : Heap) (acc : List (Str × Addr)),
  (∀ x a, (cellsFrom h.objs.size names acc).lookup x = some a -> ((x, NameKind.cell) ∈ names /\ h.objs.size <= a /\ (pushCells h names).get? a = some { cls := .type "cell", data := .cell none }) \/ acc.lookup x = some a) /\
  (∀ x, ((x, NameKind.cell) ∈ names \/ ∃ a, acc.lookup x = some a) -> ∃ a, (cellsFrom h.objs.size names acc).lookup x = some a) /\
  (∀ x y a, h.objs.size <= a -> (∀ z b, acc.lookup z = some b -> b < h.objs.size) -> (cellsFrom h.objs.size names acc).lookup x = some a -> (cellsFrom h.objs.size names acc).lookup y = some a -> x = y)
 | [], h, acc => I03 (fun x a e => .inr e) (fun x e => by
   refine Or.elim e (fun e => ?_) fun e => ?_
   ·cases e
   ·exact e) (fun x y a ha hacc e e' => absurd (hacc x a e) (Nat.not_lt.mpr ha))
 | (n, k) :: r, h, acc => by
  unfold cellsFrom pushCells
  split
  ·rename_i hk
   refine rwE (by simpa using hk : k = .cell) ?_
   have hsz : (h.push { cls := .type "cell", data := .cell none }).objs.size = h.objs.size + 1 := Heap.size_push ..
   obtain ⟨i1, i2, i3⟩ := zcE r (h.push { cls := .type "cell", data := .cell none }) ((n, h.objs.size) :: acc)
   rw [hsz] at i1 i2 i3
   have new : (pushCells (h.push { cls := .type "cell", data := .cell none }) r).get? h.objs.size = some { cls := .type "cell", data := .cell none } := pushCells_keeps r _ _ _ (Heap.get?_push_size _ rfl)
   refine I03 (fun x a e => ?_) (fun x e => i2 x ?_) (fun x y a ha hacc e e' => ?_)
   ·refine Or.elim (i1 x a e) (fun h9 => ?_) fun h1 => ?_
    ·obtain ⟨h1, h2, h3⟩ := h9
     exact .inl (I03 (List.mem_cons_of_mem _ h1) (Nat.le_of_succ_le h2) h3)
    ·rw [List.lookup_cons] at h1
     split at h1
     ·rename_i e
      have : x = n := by simpa using e
      refine rwE this ?_
      refine eqE h1 ?_
      exact .inl (I03 List.mem_cons_self (Nat.le_refl _) new)
     ·exact .inr h1
   ·by_cases q : x = n
    ·refine rwE q ?_; exact .inr ⟨_, by simp; rfl⟩
    ·rcases e with e | ⟨a, ha⟩
     ·refine Or.elim (List.mem_cons.mp e) (fun e => ?_) fun e => ?_
      ·cases e; exact absurd rfl q
      ·exact .inl e
     ·refine .inr ⟨a, ?_⟩
      rw [List.lookup_cons]
      have : (x == n) = false := by simpa using q
      rw [this]; exact ha
   ·refine Or.elim (Nat.eq_or_lt_of_le ha) (fun q => ?_) fun q => ?_
    ·subst q
     have at0 : ∀ x, (cellsFrom (h.objs.size + 1) r ((n, h.objs.size) :: acc)).lookup x = some h.objs.size -> x = n := by
      intro x e
      refine Or.elim (i1 x _ e) (fun h9 => ?_) fun h1 => ?_
      ·obtain ⟨_, h2, _⟩ := h9
       exact absurd h2 (Nat.not_succ_le_self _)
      ·rw [List.lookup_cons] at h1
       split at h1
       ·rename_i e; simpa using e
       ·exact absurd (hacc _ _ h1) (Nat.lt_irrefl _)
     exact rwE (at0 x e) (rwE (at0 y e') rfl)
    ·refine i3 x y a q (fun z b hz => ?_) e e'
     rw [List.lookup_cons] at hz
     split at hz
     ·refine eqE hz ?_; exact Nat.lt_succ_self _
     ·exact Nat.lt_succ_of_lt (hacc z b hz)
  ·rename_i hk
   obtain ⟨i1, i2, i3⟩ := zcE r h acc
   refine I03 (fun x a e => ?_) (fun x e => i2 x ?_) i3
   ·rcases i1 x a e with ⟨h1, h2⟩ | h1
    ·exact .inl ⟨List.mem_cons_of_mem _ h1, h2⟩
    ·exact .inr h1
   ·rcases e with e | e
    ·refine Or.elim (List.mem_cons.mp e) (fun e => ?_) fun e => ?_
     ·cases e; simp at hk
     ·exact .inl e
    ·exact .inr e
section
variable {M : Model} {A : Around} {E : Value -> Shared -> Prop} {s : Shared}
theorem zkQ {scope : Scope} {env : Env} {cl : List (Str × Addr)} {Q : Env -> Shared -> Prop}
  (h : Q { scope := scope, locals := s.heap.objs.size, globals := env.globals, cells := cellsFrom (s.heap.objs.size + 1) scope.names cl, qual := env.qual, func := none, code := env.code, frame := env.frame, builtins := env.builtins }
   {s with heap := pushCells (s.heap.push { cls := .type "dict", data := .dict #[] }) scope.names }) :
  wpAny M A (newFunctionEnv scope env.globals cl [] env.qual none .none (some env)) Q E s := by
 simp only [newFunctionEnv, Option.isSome_some, if_true]
 refine wB (wpAny_alloc ?_)
 refine wB (wpAny_layCells _ (fun name kind cells => by cases hkc : kind == NameKind.cell <;> rfl) _ _ _ _ ?_)
 rw [show ({ s with heap := s.heap.push { cls := .type "dict", data := .dict #[] } } : Shared).heap.objs.size = s.heap.objs.size + 1 from Heap.size_push ..]
 exact wB (by exact wPu (wPu h))
end
theorem za0 {l : List (Str × NameKind)} {x : Str} {k : NameKind} : zaA (l.map (·.1)) = true -> (x, k) ∈ l -> l.lookup x = some k := by
 induction l with
 | nil => exact fun _ m => absurd m List.not_mem_nil
 | cons a l ih =>
  refine fun h m => zaf h fun h1 h2 => Or.elim (List.mem_cons.mp m) (fun e => e ▸ List.lookup_cons_self) fun m2 => ?_
  have c : (x == a.1) = false := beq_eq_false_iff_ne.mpr fun e => Bool.noConfusion ((congrArg not (List.contains_iff_mem.mpr (List.mem_map.mpr (I12 _ m2 e)))).symm.trans h1)
  rw [List.lookup_cons, c]; exact ih h2 m2
theorem zZ {l : List (Str × NameKind)} {x : Str} {k k' : NameKind} (h : zaA (l.map (·.1)) = true) (m : (x, k) ∈ l) (m' : (x, k') ∈ l) : k = k' := Option.some.inj ((za0 h m).symm.trans (za0 h m'))
noncomputable def ztC (env : Env) (l : List (Str × NameKind)) : List (Str × NameKind) := l.map fun (n, k) => if (k == .free && env.scope.kind == .function && env.kindOf n == some .cell) then (n, .cell) else (n, k)
structure ztD (c : TC) (env : Env) (l : List (Str × NameKind)) (k : Nat) (nm : List (Str × NameKind × Nat)) (k' : Nat) : Prop where
 le : k <= k'
 cases : ∀ x kd i, nm.lookup x = some (kd, i) -> (kd = .local /\ k <= i /\ i < k' /\ (x, NameKind.local) ∈ l) \/ (kd = .cell /\ k <= i /\ i < k' /\ (x, NameKind.cell) ∈ l) \/ ((x, NameKind.free) ∈ l /\ c.nm.lookup x = some (kd, i) /\ (kd = .cell \/ kd = .free)) \/ (kd = .globalImplicit /\ i = 0)
 names : ∀ x, (ztC env l).lookup x = (nm.lookup x).map (·.1)
 inj : ∀ x y kd kd' i, k <= i -> nm.lookup x = some (kd, i) -> nm.lookup y = some (kd', i) -> ((x, NameKind.free) ∉ l) -> ((y, NameKind.free) ∉ l) -> kd ≠ .globalImplicit -> kd' ≠ .globalImplicit -> x = y
 free : ∀ x, (x, NameKind.free) ∈ l -> ∃ kd i, c.nm.lookup x = some (kd, i) /\ (kd = .cell \/ kd = .free)
theorem zdn {α : Type} : ∀ {l : List (Str × α)} {x : Str}, x ∉ l.map (·.1) -> l.lookup x = none
 | [], x, _ => rfl
 | (y, a) :: l, x, h => by
  simp only [List.map_cons, List.mem_cons, not_or] at h
  rw [List.lookup_cons, beq_false_of_ne h.1]
  exact zdn h.2
theorem zfA {nm : List (Str × NameKind × Nat)} {l : List (Str × NameKind)} (h : ∀ x ∈ nm.map (·.1), l.lookup x = (nm.lookup x).map (·.1)) (h' : ∀ x ∈ l.map (·.1), x ∈ nm.map (·.1)) (x : Str) : l.lookup x = (nm.lookup x).map (·.1) := by
 by_cases hx : x ∈ nm.map (·.1)
 ·exact h x hx
 ·rw [zdn hx, zdn fun q => hx (h' x q)]; rfl
theorem zpH {c : TC} {env : Env} (hk : env.scope.kind = .function) (hn : ∀ x, env.kindOf x = (c.nm.lookup x).map (·.1)) (l : List (Str × NameKind)) : ztC env l = ztt c l := by
 refine List.map_congr_left fun q _ => ?_
 obtain ⟨n, kd⟩ := q
 show (if (kd == .free && env.scope.kind == .function && env.kindOf n == some .cell) then (n, NameKind.cell) else (n, kd)) = _
 rw [hk, hn n]
 induction kd <;> rfl
theorem zch {l : List (Str × NameKind)} {p : Str × NameKind} (h : l.contains p = true) : p ∈ l := List.contains_iff_mem.mp h
theorem znO {c : TC} {l : List (Str × NameKind)} {k k' : Nat} {x : Str} {kd : NameKind} {i : Nat} (h : zqQ c l k k' (x, kd, i) = true) : (kd = .local /\ k <= i /\ i < k' /\ (x, NameKind.local) ∈ l) \/ (kd = .cell /\ k <= i /\ i < k' /\ (x, NameKind.cell) ∈ l) \/ ((x, NameKind.free) ∈ l /\ c.nm.lookup x = some (kd, i) /\ (kd = .cell \/ kd = .free)) \/ (kd = .globalImplicit /\ i = 0) := by
 refine Or.elim (Bool.or_eq_true_iff.mp h) (fun h => ?_) fun h => ?_
 ·refine Or.elim (Bool.or_eq_true_iff.mp h) (fun h => ?_) fun h => ?_
  ·refine Or.elim (Bool.or_eq_true_iff.mp h) (fun h => ?_) fun h => ?_
   ·exact zaf h fun h h4 => zaf h fun h h3 => zaf h fun h1 h2 => .inl (I04 (eq_of_beq h1) (of_decide_eq_true h2) (of_decide_eq_true h3) (zch h4))
   ·exact zaf h fun h h4 => zaf h fun h h3 => zaf h fun h1 h2 => .inr (.inl (I04 (eq_of_beq h1) (of_decide_eq_true h2) (of_decide_eq_true h3) (zch h4)))
  ·exact zaf h fun h h3 => zaf h fun h1 h2 => .inr (.inr (.inl (I03 (zch h1) (eq_of_beq h2) ((Bool.or_eq_true_iff.mp h3).imp eq_of_beq eq_of_beq))))
 ·exact zaf h fun h1 h2 => .inr (.inr (.inr ⟨eq_of_beq h1, eq_of_beq h2⟩))
theorem zb4 {c : TC} {env : Env} (hk : env.scope.kind = .function) (hn : ∀ x, env.kindOf x = (c.nm.lookup x).map (·.1)) {l : List (Str × NameKind)} {k : Nat} {nm : List (Str × NameKind × Nat)} {k' : Nat} (h : znp c l k nm k' = true) : ztD c env l k nm k' :=
 zaf h fun h b5 => zaf h fun h b4 => zaf h fun h b3 => zaf h fun b1 b2 =>
 {le := of_decide_eq_true b1
  cases := fun x kd i e => znO (List.all_eq_true.mp b2 _ (zbj e))
  names := fun x => by
   rw [zpH hk hn]
   exact zaf b3 fun n1 n2 => zfA (fun x hx => by
    obtain ⟨q, hq, e9⟩ := List.mem_map.mp hx; refine rwB e9 ?_
    exact eq_of_beq (List.all_eq_true.mp n1 q hq)) (fun x hx => by
    obtain ⟨q, hq, e9⟩ := List.mem_map.mp hx; refine rwE e9.symm ?_
    exact List.contains_iff_mem.mp (List.all_eq_true.mp n2 q hq)) x
  inj := fun x y kd kd' i hi hx hy fx fy gx gy => by
   have z := List.all_eq_true.mp (List.all_eq_true.mp b4 _ (zbj hx)) _ (zbj hy)
   have ow : ∀ {z : Str} {kz : NameKind}, (z, NameKind.free) ∉ l -> kz ≠ .globalImplicit -> zrw l k (z, kz, i) = true := fun {z kz} f g => by
    have g : (kz == .globalImplicit) = false := Bool.eq_false_iff.mpr fun q => g (eq_of_beq q)
    show (decide (k <= i) && !l.contains (z, NameKind.free) && !(kz == .globalImplicit)) = true
    rw [decide_eq_true hi, (Bool.eq_false_iff.mpr fun q => f (zch q)), g]; rfl
   rw [ow fx gx, ow fy gy, beq_self_eq_true] at z
   exact eq_of_beq z
  free := fun x hx => by
   have z : (!(NameKind.free == .free) || (match c.nm.lookup x with | some r => r.1 == .cell || r.1 == .free | none => false)) = true := List.all_eq_true.mp b5 _ hx
   induction e : c.nm.lookup x with
   | none => have z := e ▸ z; cases z
   | some r =>
    have z := e ▸ z
    exact I22 r.1 r.2 rfl ((Bool.or_eq_true_iff.mp (show (r.1 == NameKind.cell || r.1 == NameKind.free) = true from z)).imp eq_of_beq eq_of_beq) }
def znP (scope : Scope) (env : Env) (h : Heap) : Env :=
 {scope := relabel scope env, locals := h.objs.size, globals := env.globals, cells := cellsFrom (h.objs.size + 1) scope.names (z5 env scope.names []), qual := env.qual, func := none, code := env.code, frame := env.frame, builtins := env.builtins }
noncomputable def zjM (scope : Scope) (h : Heap) : Heap := pushCells (h.push { cls := .type "dict", data := .dict #[] }) scope.names
section
variable {Z Z' : Heap} {s s' : Shared} {c c' : TC} {env : Env} {ρ : Rho} {ad : Nat -> Addr} {scope : Scope}
theorem zdG : Sub s.heap (zjM scope s.heap) := fun b o e => pushCells_keeps _ _ b o (Heap.get?_push_of_some _ e)
theorem zbG (h : zba c scope = some c') : scope.kind = .function /\ zaA (scope.names.map (·.1)) = true /\ ∃ p : List (Str × NameKind × Nat) × Nat, znp c scope.names c.nx p.1 p.2 = true /\ c' = { c with nm := p.1, nx := p.2, mu := [], lo := c.nx } :=
 ifE h fun hk h => zaf hk fun h1 h2 => zb h fun p _ h => ifE h fun hs e => ⟨eq_of_beq h1, h2, p, hs, (Option.some.inj e).symm⟩
theorem zfe (R : Rel c env Z s.heap ρ ad) (h : zba c scope = some c') : ∀ x, (x, NameKind.free) ∈ scope.names -> ∃ a, env.cells.lookup x = some a := by
 refine cps fun G0 hG_0 => ?_
 obtain ⟨hk, hd, p, hp, rfl⟩ := zbG h
 refine hG_0 ?_
 intro x hx
 obtain ⟨kd, i, e, hkd⟩ := (zb4 R.kind R.names hp).free x hx
 obtain ⟨ca, ov, ec, _⟩ := R.cel x kd i e hkd
 exact ⟨ca, ec⟩
theorem znQ (hO : Ok Ω Z s) (R : Rel c env Z s.heap ρ ad) (hm : ∃ o, s.heap.get? mainGlobals = some o) (h : zba c scope = some c') :
  Rel c' (znP scope env s.heap) Z (zjM scope s.heap) ρ ad /\ (∀ a, Own c' (znP scope env s.heap) ρ ad a -> s.heap.objs.size <= a) := by
 obtain ⟨hk, hd, p, hp, e9⟩ := zbG h; refine rwE e9 ?_
 have C := zb4 R.kind R.names hp
 have hsz : (s.heap.push { cls := .type "dict", data := .dict #[] }).objs.size = s.heap.objs.size + 1 := Heap.size_push ..
 obtain ⟨n1, n2, n3⟩ := zcE scope.names (s.heap.push { cls := .type "dict", data := .dict #[] }) (z5 env scope.names [])
 rw [hsz] at n1 n2 n3
 have clLook : ∀ {x a}, (z5 env scope.names []).lookup x = some a -> (x, NameKind.free) ∈ scope.names /\ env.cells.lookup x = some a := by
  intro x a e
  refine Or.elim (zbb (zfe R h) e) (fun h => ?_) fun h => ?_
  ·exact h
  ·exact za h
 have clLt : ∀ z b, (z5 env scope.names []).lookup z = some b -> b < s.heap.objs.size := by
  intro z b e
  obtain ⟨hz, ez⟩ := clLook e
  obtain ⟨kd, i, e, hkd⟩ := C.free z hz
  obtain ⟨ca, ov, ec, ⟨o, ho, _⟩, _⟩ := R.cel z kd i e hkd
  cases ez.symm.trans ec
  exact Heap.lt_size ho
 have hsub : Sub s.heap (zjM scope s.heap) := zdG
 have fresh : ∀ a, s.heap.objs.size <= a -> Z.get? a = none := fun a ha => hO.sub.none (zaa ha)
 refine ⟨?_, ?_⟩
 ·refine { kind := hk, names := C.names, glob := R.glob, blt := R.blt, loc := ?_, cel := ?_, apL := fresh _ (Nat.le_refl _), injS := ?_, injC := ?_, own := ?_, ownInj := R.ownInj, hi := ?_, slot := ?_, mainL := ?_ }
  ·refine I12 (fun _ => none) ((Heap.Ns.new s.heap (.type "dict")).keeps (pushCells_keeps _ _)) (fun x i pv e q => ?_)
   have := R.hi i pv q
   rcases C.cases x _ i e with ⟨_, b, _⟩ | ⟨q, _⟩ | ⟨_, _, q | q⟩ | ⟨q, _⟩
   ·lia
   ·cases q
   ·cases q
   ·cases q
   ·cases q
  ·intro x kd i e hkd
   have new : kd = .cell -> (x, NameKind.cell) ∈ scope.names -> c.nx <= i -> ∃ a ov, (znP scope env s.heap).cells.lookup x = some a /\ (zjM scope s.heap).IsCell a ov /\ Z.get? a = none /\ ∀ pv, ρ[i]? = some (some pv) -> ∃ v, ov = some v /\ zc8 Z ad i v pv := by
    intro _ hx hi
    obtain ⟨a, ha⟩ := n2 x (.inl hx)
    rcases n1 x a ha with ⟨_, hge, ho⟩ | h
    ·exact I24 a none ha (I12 _ ho rfl) (fresh _ (Nat.le_of_succ_le hge)) (fun pv q => absurd (R.hi i pv q) (by lia))
    ·have := (clLook h).1
     cases zZ hd hx this
   rcases C.cases x kd i e with ⟨q, _⟩ | ⟨q, b, _, hx⟩ | ⟨hx, e', _⟩ | ⟨q, _⟩
   ·subst q; rcases hkd with q | q <;> cases q
   ·exact new q hx b
   ·obtain ⟨ca, ov, ec, hc, hz, hv⟩ := R.cel x kd i e' hkd
    obtain ⟨a, ha⟩ := n2 x (.inr (zcr (.inl hx)))
    rcases n1 x a ha with ⟨hx', _, _⟩ | h
    ·cases zZ hd hx hx'
    ·have := (clLook h).2
     replace this := ec ▸ this; cases this
     exact I24 ca ov ha (hc.keeps hsub) hz hv
   ·subst q; rcases hkd with q | q <;> cases q
  ·intro x y kd kd' i hx hy gx gy
   rcases C.cases x kd i hx with ⟨qx, bx, _, mx⟩ | ⟨qx, bx, _, mx⟩ | ⟨fx, ex, _⟩ | ⟨q, _⟩
   ·rcases C.cases y kd' i hy with ⟨qy, by', _, my⟩ | ⟨qy, by', _, my⟩ | ⟨fy, ey, _⟩ | ⟨q, _⟩
    ·exact C.inj x y kd kd' i bx hx hy (fun q => by cases zZ hd mx q) (fun q => by cases zZ hd my q) gx gy
    ·exact C.inj x y kd kd' i bx hx hy (fun q => by cases zZ hd mx q) (fun q => by cases zZ hd my q) gx gy
    ·exact absurd (R.slot y kd' i ey gy) (by lia)
    ·exact absurd q gy
   ·rcases C.cases y kd' i hy with ⟨qy, by', _, my⟩ | ⟨qy, by', _, my⟩ | ⟨fy, ey, _⟩ | ⟨q, _⟩
    ·exact C.inj x y kd kd' i bx hx hy (fun q => by cases zZ hd mx q) (fun q => by cases zZ hd my q) gx gy
    ·exact C.inj x y kd kd' i bx hx hy (fun q => by cases zZ hd mx q) (fun q => by cases zZ hd my q) gx gy
    ·exact absurd (R.slot y kd' i ey gy) (by lia)
    ·exact absurd q gy
   ·rcases C.cases y kd' i hy with ⟨qy, by', _, my⟩ | ⟨qy, by', _, my⟩ | ⟨fy, ey, _⟩ | ⟨q, _⟩
    ·exact absurd (R.slot x kd i ex gx) (by lia)
    ·exact absurd (R.slot x kd i ex gx) (by lia)
    ·exact R.injS x y kd kd' i ex ey gx gy
    ·exact absurd q gy
   ·exact absurd q gx
  ·intro x y a ex ey
   by_cases ha : s.heap.objs.size + 1 <= a
   ·exact n3 x y a ha (fun z b hz => Nat.lt_succ_of_lt (clLt z b hz)) ex ey
   ·rcases n1 x a ex with ⟨_, h, _⟩ | h1
    ·exact absurd h ha
    ·rcases n1 y a ey with ⟨_, h, _⟩ | h2
     ·exact absurd h ha
     ·exact R.injC x y a (clLook h1).2 (clLook h2).2
  ·intro i xs e
   obtain ⟨vs, n, a, b, z⟩ := R.own i xs e
   exact I23 vs n (hsub _ _ a) b z
  ·intro i pv e
   exact Nat.lt_of_lt_of_le (R.hi i pv e) C.le
  ·intro x kd i e g
   rcases C.cases x kd i e with ⟨_, _, q, _⟩ | ⟨_, _, q, _⟩ | ⟨_, e', _⟩ | ⟨q, _⟩
   ·exact q
   ·exact q
   ·exact Nat.lt_of_lt_of_le (R.slot x kd i e' g) C.le
   ·exact absurd q g
  ·intro e
   obtain ⟨o, ho⟩ := hm
   have : s.heap.objs.size = mainGlobals := e
   have h1 := Heap.lt_size ho
   have h1 := this ▸ h1
   exact Nat.lt_irrefl _ h1
 ·rintro a (rfl | ⟨x, kd, i, e, hkd, hlo, hc⟩ | ⟨i, xs, e, hlo, _⟩)
  ·exact Nat.le_refl _
  ·rcases n1 x a hc with ⟨_, hge, _⟩ | h
   ·exact Nat.le_of_succ_le hge
   ·have hx := (clLook h).1
    rcases C.cases x kd i e with ⟨_, _, _, mx⟩ | ⟨_, _, _, mx⟩ | ⟨_, ex, _⟩ | ⟨q, _⟩
    ·cases zZ hd hx mx
    ·cases zZ hd hx mx
    ·exact absurd (R.slot x kd i ex (by rcases hkd with rfl | rfl <;> decide)) (by lia)
    ·subst q; rcases hkd with q | q <;> cases q
  ·exact absurd (R.hi i _ e) (by lia)
end
noncomputable def ziI (ifs : List PySem.Expr) (env : Env) : Sem Bool := forIn ifs true fun c r => if r = true then do let ok <- isTrue c env (eval c env); pure (ForInStep.yield ok) else pure (ForInStep.yield r)
def znR (Ω : En) (A : Around) (E : Value -> Shared -> Prop) (target : PySem.Expr) (ifs : List PySem.Expr) (next : Option PySem.Expr) (emit : Sem Unit) (start : Value -> Code) (back : Code) (it : Value) (env : Env)
  (Q : Fin -> Shared -> Prop) (s : Shared) : Prop :=
 wpAny Ω.m A (pyNext it) (fun r s_1 => match r with
  | none => Q (.done .next) s_1
  | some v => wpAny Ω.m A (letOwnedTupleGo target it v) (fun u s_2 => wpAny Ω.m A (assign target env v) (fun u s_3 => wpAny Ω.m A (ziI ifs env) (fun ok s_4 =>
    if ok = true then (match next with
     | none => wpAny Ω.m A emit (fun u s_5 => Q (.again back) s_5) E s_4
     | some iter' => wpAny Ω.m A (eval iter' env) (fun x s_5 => wpAny Ω.m A (pyIter x) (fun it' s_6 => wpAny Ω.m A (runOwn (start it') env) (fun u s_7 => Q (.again back) s_7) E s_6) E s_5) E s_4)
    else Q (.again back) s_4) E s_3) E s_2) E s_1) E s
section
variable {Ω : En} {A : Around} {E : Value -> Shared -> Prop} {s : Shared} {env : Env}
noncomputable def zez (acc : Value) (elt : PySem.Expr) (env : Env) : Sem Unit := do let _ <- call (.builtin "list.append") [acc, <- eval elt env]
noncomputable def zeA (acc : Value) (k v : PySem.Expr) (env : Env) : Sem Unit := do
    let kv <- eval k env
    let vv <- holding [kv] (eval v env)
    match acc with
    | .ref d => do
     standAt { k.pos with endLine := v.pos.endLine, endCol := v.pos.endCol }
     holding [kv, vv] (dictSet d kv vv)
    | _ => unsupported "internal:dictcomp"
theorem zmj {elt target iter : PySem.Expr} {ifs : List PySem.Expr} {gens : List Comprehension} {scope : Scope} {pos : Pos} {k : Nat} {it acc : Value} {Q : Fin -> Shared -> Prop} {next : Option PySem.Expr}
  (hg : gens[k]? = some ⟨target, iter, ifs, 0⟩) (hn : match next with | none => gens[k + 1]? = none | some i => zcc i = false /\ ∃ t l, gens[k + 1]? = some ⟨t, i, l, 0⟩)
  (h : znR Ω A E target ifs next (zez acc elt env) (fun it' => .compStart (.ListComp elt gens scope pos) (k + 1) it' acc env) (.compLoop (.ListComp elt gens scope pos) k it acc env) it env Q s) :
  wpAny Ω.m A (compTurn (.ListComp elt gens scope pos) k it acc env) Q E s := by
 unfold compTurn
 simp only [hg]
 refine wB (wpAny_standAt (wB (wpAny_mono h (fun r s_1 h_1 => ?_) fun u w e => e)))
 induction r with
 | none => exact wPu h_1
 | some v =>
  refine wB (wpAny_mono h_1 (fun u s_2 h_2 => wB (wpAny_mono h_2 (fun u s_3 h_3 => ?_) fun u w e => e)) fun u w e => e)
  refine wB (wpAny_mono h_3 (fun ok s_4 h_4 => ?_) fun u w e => e)
  induction ok with
  | false => exact wPu h_4
  | true =>
   induction next with
   | none =>
    rw [hn]
    exact wB (wpAny_mono h_4 (fun u s_5 h_5 => wPu h_5) fun u w e => e)
   | some i =>
    obtain ⟨hs, t, l, hn⟩ := hn
    rw [hn]
    refine wB (wpAny_mono h_4 (fun x s_5 h_5 => ?_) fun u w e => e)
    refine wB (wpAny_standAt (wB (wpAny_of_eq (zdF hs x) (wB (wpAny_holding (wpAny_mono h_5 (fun it' s_6 h_6 => ?_) fun u w e => e))))))
    exact wB (wpAny_mono h_6 (fun u s_7 h_7 => wPu h_7) fun u w e => e)
theorem zmk {k0 v0 target iter : PySem.Expr} {ifs : List PySem.Expr} {gens : List Comprehension} {scope : Scope} {pos : Pos} {k : Nat} {it acc : Value} {Q : Fin -> Shared -> Prop} {next : Option PySem.Expr}
  (hg : gens[k]? = some ⟨target, iter, ifs, 0⟩) (hn : match next with | none => gens[k + 1]? = none | some i => zcc i = false /\ ∃ t l, gens[k + 1]? = some ⟨t, i, l, 0⟩)
  (h : znR Ω A E target ifs next (zeA acc k0 v0 env) (fun it' => .compStart (.DictComp k0 v0 gens scope pos) (k + 1) it' acc env) (.compLoop (.DictComp k0 v0 gens scope pos) k it acc env) it env Q s) :
  wpAny Ω.m A (compTurn (.DictComp k0 v0 gens scope pos) k it acc env) Q E s := by
 unfold compTurn
 simp only [hg]
 refine wB (wpAny_standAt (wB (wpAny_mono h (fun r s_1 h_1 => ?_) fun u w e => e)))
 induction r with
 | none => exact wPu h_1
 | some v =>
  refine wB (wpAny_mono h_1 (fun u s_2 h_2 => wB (wpAny_mono h_2 (fun u s_3 h_3 => ?_) fun u w e => e)) fun u w e => e)
  refine wB (wpAny_mono h_3 (fun ok s_4 h_4 => ?_) fun u w e => e)
  induction ok with
  | false => exact wPu h_4
  | true =>
   induction next with
   | none =>
    rw [hn]
    exact wB (wpAny_mono h_4 (fun u s_5 h_5 => wPu h_5) fun u w e => e)
   | some i =>
    obtain ⟨hs, t, l, hn⟩ := hn
    rw [hn]
    refine wB (wpAny_mono h_4 (fun x s_5 h_5 => ?_) fun u w e => e)
    refine wB (wpAny_standAt (wB (wpAny_of_eq (zdF hs x) (wB (wpAny_holding (wpAny_mono h_5 (fun it' s_6 h_6 => ?_) fun u w e => e))))))
    exact wB (wpAny_mono h_6 (fun u s_7 h_7 => wPu h_7) fun u w e => e)
theorem zdo {e : PySem.Expr} {k : Nat} {it acc : Value} {R : Result -> Shared -> Prop} (he : (Code.compStart e k it acc env).isFrame = false) (ha : ((clausesOf e)[k]?).elim false (·.is_async != 0) = false)
  (hq : ∀ it', (Code.compLoop e k it' acc env).quiet = true)
  (hfr : A.under (.compStart e k it acc env) = A)
  (h0 : codeAny Ω.m A (.compLoop e k it acc env) R s)
  (h : wpAny Ω.m A (pyIter it) (fun it' s' => codeAny Ω.m A (.compLoop e k it' acc env) R s') zc s) :
  codeAny Ω.m A (.compStart e k it acc env) R s := by
 refine codeAny_of_tree ?_
 rw [hfr]
 show wpAny _ _ (if (Code.compStart e k it acc env).isFrame then (compStart e k it acc env).onRaise (leaving env) else (compStart e k it acc env).onRaise (fun x => do noteFrame x env; standAt theWindowsPlace)) _ _ s
 rw [he]
 refine wpAny_notedAt ?_
 unfold compStart
 rw [ha]
 refine wB (wpAny_askSetting (wpAny_ite ?_))
 have h' := wpAny_mono h (fun it' s' p => p) (E' := notedBy Ω.m A env fun x s' => R (.error x) s') fun u v x => x.elim
 split
 ·first
   | exact wB (wPu (wPu (And.intro (hq it) h0)))
   | exact wPu (And.intro (hq it) h0)
 ·refine wB (wpAny_rule ?_)
  split
  ·exact wB (wpAny_standAt (wB (wpM h' (fun it' s' h' => wPu (And.intro (hq it') h')))))
  ·exact wB (wpM h' (fun it' s' h' => wPu (And.intro (hq it') h')))
end
section
variable {Ω : En} {A : Around} {Z Z' : Heap} {s s' : Shared} {c : TC} {env : Env} {ρ : Rho} {ad : Nat -> Addr}
 {Φ : Fs} {S : Sv} {n m : Nat}
theorem zfB (env : Env) : ∀ (ifs : List PySem.Expr) {s : Shared} {Q : Bool -> Shared -> Prop} {E}, Q false s ->
  wpAny Ω.m A (forIn ifs false fun c r => if r = true then do let ok <- isTrue c env (eval c env); pure (ForInStep.yield ok) else pure (ForInStep.yield r)) Q E s
 | [], s, Q, E, h => by exact wPu h
 | e :: es, s, Q, E, h => by
  rw [List.forIn_cons]
  exact wB (wPu (zfB env es h))
theorem zjN (IT : zd0 Ω Φ S n (tr m)) (hA : Rm A n) (hG : GlC c Φ) : ∀ {ifs : List PySem.Expr} {pifs : List PE} {ok : Bool} {s : Shared} {Z : Heap},
  zC (tr m c) ifs = some pifs -> zgh S ρ pifs = some ok -> Ok Ω Z s -> Rel c env Z s.heap ρ ad ->
  wpAny Ω.m A (ziI ifs env) (za4 Ω Z s ok) zc s
 | [], pifs, ok, s, Z, h1, h2, hO, hR => by
  cases h1; refine eqE h2 ?_
  unfold ziI
  exact wPu ⟨rfl, Z, Stp.refl hO⟩
 | e :: es, pifs, ok, s, Z, h1, h2, hO, hR => by
  refine zb h1 fun pe he h1 => ?_
  refine zQ h1 fun pes hes e_0 => ?_
  subst e_0
  refine zb h2 fun b hb h2 => ?_
  refine zb hb fun d hd hb => ?_
  unfold ziI
  rw [List.forIn_cons]
  refine wB (wB (za4.then (IT c e pe ρ d b he hd hb A env Z s ad hA hG hO hR) fun s_1 Z_1 S_1 => wPu ?_))
  induction b with
  | true =>
   exact zbQ S_1 (zjN IT hA hG hes h2 S_1.ok (hR.stp S_1))
  | false =>
   refine eqE h2 ?_
   refine eqE h2 ?_
   exact zfB env es ⟨rfl, Z_1, S_1⟩
theorem zml {k : Nat} {e : PySem.Expr} {ts : List Tgt} (h : trT c k e = some (.t ts)) : ∃ es j p, e = .Tuple es j p := by
 induction k using Nat.casesOn with
 | zero => exact za h
 | succ k =>
  induction e using PySem.Expr.casesOn with
  | Name y p => exact zb h fun i hi h => ifN h fun _ h => nomatch h
  | Tuple es j p => exact I31 _ _ _ rfl
  | _ => exact za h
theorem zef {k : Nat} {e : PySem.Expr} {t : Tgt} {it : PE} (h : trT c k e = some t) (hp : zbC it t = true) (hi : ziE it = true) : ∃ es j p, e = .Tuple es j p := by
 induction t using Tgt.casesOn with
 | v i => cases it <;> first | (exact Bool.noConfusion hi) | (exact Bool.noConfusion hp)
 | t ts => exact zml h
def znS (gens : List Comprehension) (k : Nat) : Option PySem.Expr -> Prop
 | none => gens[k + 1]? = none
 | some i => zcc i = false /\ ∃ t l, gens[k + 1]? = some ⟨t, i, l, 0⟩
structure zjO (Ω : En) (A : Around) (e : PySem.Expr) (gens : List Comprehension) (emit : Sem Unit) (D : Addr) (cenv : Env) : Prop where
 turn : ∀ k target iter ifs next it Q E s, gens[k]? = some ⟨target, iter, ifs, 0⟩ -> znS gens k next ->
  znR Ω A E target ifs next emit (fun it' => .compStart e (k + 1) it' (.ref D) cenv) (.compLoop e k it (.ref D) cenv) it cenv Q s -> wpAny Ω.m A (compTurn e k it (.ref D) cenv) Q E s
 start : ∀ k it R s, (∃ g, gens[k]? = some g /\ g.is_async = 0) -> codeAny Ω.m A (.compLoop e k it (.ref D) cenv) R s -> wpAny Ω.m A (pyIter it) (fun it' s' => codeAny Ω.m A (.compLoop e k it' (.ref D) cenv) R s') zc s ->
  codeAny Ω.m A (.compStart e k it (.ref D) cenv) R s
 loop : ∀ k it (R : Result -> Shared -> Prop) (I : Nat -> Shared -> Prop), (∀ n s, I n s -> wpAny Ω.m A (compTurn e k it (.ref D) cenv) (fun fin s' => match fin with | .done f => R (.ok f) s' | .again c' => c' = .compLoop e k it (.ref D) cenv /\ ∃ m, m < n /\ I m s') zc s) ->
  ∀ n s, I n s -> codeAny Ω.m A (.compLoop e k it (.ref D) cenv) R s
structure za7 {β : Type} (Ω : En) (c : TC) (env : Env) (ad : Nat -> Addr) (D : Addr) (AccI : Heap -> Heap -> List β -> Prop) (Z : Heap) (s : Shared) (ρ : Rho) (acc : List β) : Prop where
 ok : Ok Ω Z s
 rel : Rel c env Z s.heap ρ ad
 acc : AccI Z s.heap acc
 live : ∃ o, s.heap.get? D = some o
 out : Z.get? D = none
def WC (c : TC) (env : Env) (D : Addr) (a : Addr) : Prop := a = D \/ a = env.locals \/ ∃ x k i, c.nm.lookup x = some (k, i) /\ (k = .cell \/ k = .free) /\ c.lo <= i /\ env.cells.lookup x = some a
variable {β : Type} {D : Addr} {AccI : Heap -> Heap -> List β -> Prop} {W : Addr -> Prop} {GI : Nat -> Prop}
theorem za7.stX (hAcc : ∀ Z h acc Z' h', AccI Z h acc -> Sub Z Z' -> (∀ o, h.get? D = some o -> h'.get? D = some o) -> AccI Z' h' acc) {acc : List β} (I : za7 Ω c env ad D AccI Z s ρ acc) (S : StX W GI Ω Z s Z' s')
  (hf : ∀ a, zaw c env ρ ad a -> ¬ W a) (hD : ¬ W D) : za7 Ω c env ad D AccI Z' s' ρ acc := by
 obtain ⟨o, ho⟩ := I.live
 exact ⟨S.ok, I.rel.stX S hf, hAcc _ _ _ _ _ I.acc S.f (fun o e => S.h _ _ hD e), ⟨o, S.h _ _ hD ho⟩, by rw [S.new _ _ hD ho]; exact I.out⟩
theorem zrN (hM : ∀ i xs, c.lo <= i -> ρ[i]? ≠ some (some (.m xs))) {a : Addr} (h : Own c env ρ ad a) : WC c env D a := by
 rcases h with h | ⟨x, k, i, a1, a2, a3, a4⟩ | ⟨i, xs, e, hl, _⟩
 ·exact .inr (.inl h)
 ·exact .inr (.inr (I34 x k i a1 a2 a3 a4))
 ·exact absurd e (hM i xs hl)
theorem zlB {a : Addr} (h : WC c env D a) : a = D \/ zaw c env ρ ad a := by
 rcases h with h | h | ⟨x, k, i, a1, a2, _, a4⟩
 ·exact .inl h
 ·exact .inr (.inl h)
 ·exact .inr (.inr (.inl (I33 x k i a1 a2 a4)))
mutual
theorem ziJ : ∀ {t : Tgt} {x : PyData} {ρ ρ' : Rho} {i : Nat} {xs : List PyData}, zax t x ρ = some ρ' -> ρ'[i]? = some (some (.m xs)) -> ρ[i]? = some (some (.m xs))
 | .v j, x, ρ, ρ', i, xs, h, e => by
  cases h
  rcases zr e with ⟨_, e⟩ | ⟨_, e⟩
  ·cases e
  ·exact e
 | .t ts, x, ρ, ρ', i, xs, h, e => by
  simp only [zax] at h
  split at h
  ·exact zgF h e
  ·exact zgF h e
  ·exact za h
theorem zgF : ∀ {ts : List Tgt} {ds : List PyData} {ρ ρ' : Rho} {i : Nat} {xs : List PyData}, zcm ts ds ρ = some ρ' -> ρ'[i]? = some (some (.m xs)) -> ρ[i]? = some (some (.m xs))
 | [], ds, ρ, ρ', i, xs, h, e => by
  induction ds using List.casesOn with
  | nil => cases h; exact e
  | cons x ds => exact za h
 | t :: ts, ds, ρ, ρ', i, xs, h, e => by
  induction ds using List.casesOn with
  | nil => exact za h
  | cons x ds =>
   refine zb h fun ρ1 h1 h2 => ?_
   exact ziJ h1 (zgF h2 e)
end
theorem zkR {t : Tgt} {x : PyData} {ρ ρ' : Rho} {a : Addr} (h : zax t x ρ = some ρ') (o : zaw c env ρ' ad a) : zaw c env ρ ad a := by
 rcases o with o | o | ⟨i, xs, e, o⟩
 ·exact .inl o
 ·exact .inr (.inl o)
 ·exact .inr (.inr (I22 i xs (ziJ h e) o))
def znT {β : Type} (S : Sv) (em : Rho -> Option β) (t : Tgt) (ifs : List PE) (gs : List Gn) (ρ : Rho) (x : PyData) : Option (List β) :=
 (zax t x ρ).bind fun ρ' => (zgh S ρ' ifs).bind fun ok => if ok then zcx S em gs ρ' else some []
theorem zeB {a b : List Nat} (h : zaN (a ++ b) = true) : zaN b = true /\ ∀ x ∈ a, x ∉ b := by
 induction a with
 | nil => exact ⟨h, fun u h => nomatch h⟩
 | cons y a ih =>
  simp only [List.cons_append, zaN, Bool.and_eq_true, Bool.not_eq_true', List.contains_eq_mem, decide_eq_false_iff_not, List.mem_append, not_or] at h
  obtain ⟨h1, h2⟩ := ih h.2
  refine ⟨h1, fun x hx => ?_⟩
  rcases List.mem_cons.mp hx with rfl | hx
  ·exact h.1.2
  ·exact h2 x hx
def zpI {β : Type} (Ω : En) (A : Around) (c : TC) (env : Env) (ad : Nat -> Addr) (D : Addr) (AccI : Heap -> Heap -> List β -> Prop) (S : Sv) (em : Rho -> Option β) (emit : Sem Unit) (e : PySem.Expr) (k : Nat)
  (prest : List Gn) (next : Option PySem.Expr) : Prop :=
 ∀ (ρ : Rho) (ys acc : List β) (Z : Heap) (s : Shared) (Q : Shared -> Prop), zcx S em prest ρ = some ys -> (∀ j ∈ prest.flatMap zT, ∀ pv, ρ[j]? ≠ some (some pv)) -> (∀ i xs, c.lo <= i -> ρ[i]? ≠ some (some (.m xs))) -> ¬ zaw c env ρ ad D ->
  za7 Ω c env ad D AccI Z s ρ acc -> acc.length + ys.length <= big -> (∀ s' Z', StX (WC c env D) (fun u => False) Ω Z s Z' s' -> za7 Ω c env ad D AccI Z' s' ρ (acc ++ ys) -> Q s') ->
  (match next with
   | none => wpAny Ω.m A emit (fun u s_5 => Q s_5) zc s
   | some iter' => wpAny Ω.m A (eval iter' env) (fun x s_5 => wpAny Ω.m A (pyIter x) (fun it' s_6 => wpAny Ω.m A (runOwn (.compStart e (k + 1) it' (.ref D) env) env) (fun u s_7 => Q s_7) zc s_6) zc s_5) zc s)
theorem zgG (IT : zd0 Ω Φ S n (tr m)) (hA : Rm A n) (hG : GlC c Φ) {e : PySem.Expr} {gens : List Comprehension} {emit : Sem Unit} (X : zjO Ω A e gens emit D env) {em : Rho -> Option β}
  (hAcc : ∀ Z h acc Z' h', AccI Z h acc -> Sub Z Z' -> (∀ o, h.get? D = some o -> h'.get? D = some o) -> AccI Z' h' acc)
  {k : Nat} {prest : List Gn} {next : Option PySem.Expr} {target iter : PySem.Expr} {ifs : List PySem.Expr} {t : Tgt} {pifs : List PE} (hIn : zpI Ω A c env ad D AccI S em emit e k prest next)
  (hk : gens[k]? = some ⟨target, iter, ifs, 0⟩) (hnext : znS gens k next)
  (ht : trT c 9 target = some t) (hifs : zC (tr m c) ifs = some pifs) (hnd : zaN (zO t ++ prest.flatMap zT) = true)
  {ρ : Rho} {xs : List PyData} {outs acc : List β} {Z : Heap} {s : Shared} {it : Value} {fp wr : List Addr} {GI : Nat -> Prop} {pair : Bool} {St : DSt} {Mid : zrG}
  (houts : zgi (znT S em t pifs prest ρ) xs = some outs) (hfre : ∀ j ∈ zO t ++ prest.flatMap zT, ∀ pv, ρ[j]? ≠ some (some pv)) (hM : ∀ i xs, c.lo <= i -> ρ[i]? ≠ some (some (.m xs))) (hfD : ¬ zaw c env ρ ad D)
  (M : zjI Ω A it GI pair St Mid) (hpair : pair = true -> ∃ es k p, target = .Tuple es k p) (hst : St fp wr xs Z s) (hI : za7 Ω c env ad D AccI Z s ρ acc) (hfp : ∀ b ∈ fp, ¬ zaw c env ρ ad b /\ b ≠ D) (hsz : acc.length + outs.length <= big) :
  codeAny Ω.m A (.compLoop e k it (.ref D) env) (fun r s' => (∃ f, r = .ok f) /\ ∃ Z', StX (fun a => WC c env D a \/ a ∈ wr) GI Ω Z s Z' s' /\ za7 Ω c env ad D AccI Z' s' ρ (acc ++ outs)) s := by
 have mk : ∀ {fp wr : List Addr} {s_0 : Shared} {Z₀ : Heap} {ys : List PyData}, St fp wr ys Z₀ s_0 -> (∀ b ∈ fp, ¬ zaw c env ρ ad b /\ b ≠ D) -> (∀ a, zaw c env ρ ad a -> ¬ a ∈ wr) /\ (¬ D ∈ wr) /\ ∀ b ∈ fp, ¬ WC c env D b := by
  intro fp wr s_0 Z₀ ys h hfp
  refine I03 (fun a fa ha => (hfp a (M.sub _ _ _ _ _ h a ha)).1 fa) (fun hd => (hfp D (M.sub _ _ _ _ _ h D hd)).2 rfl) (fun b hb h => ?_)
  refine Or.elim (zlB (ρ := ρ) (ad := ad) h) (fun h => ?_) fun h => ?_
  ·exact (hfp b hb).2 h
  ·exact (hfp b hb).1 h
 refine ztm fun Q hQ => ?_
 refine zu0 (fun j s' => ∃ fp1 wr1 ys Z' acc' outs', j = ys.length /\ zgi (znT S em t pifs prest ρ) ys = some outs' /\ acc' ++ outs' = acc ++ outs /\ St fp1 wr1 ys Z' s' /\ za7 Ω c env ad D AccI Z' s' ρ acc' /\
  StX (fun a => WC c env D a \/ a ∈ wr) GI Ω Z s Z' s' /\ (∀ b ∈ fp1, ¬ zaw c env ρ ad b /\ b ≠ D) /\ ∀ b ∈ wr1, (WC c env D b \/ b ∈ wr) \/ s.heap.get? b = none) fun I hi ho => ?_
 refine X.loop k it _ I ?_ xs.length s (hi _ _ ⟨fp, wr, xs, Z, acc, outs, rfl, houts, rfl, hst, hI, StX.refl hI.ok, hfp, fun b hb => .inl (.inr hb)⟩)
 intro j s_0 hj
 refine X.turn k target iter ifs next it _ _ s_0 hk hnext ?_
 refine cps fun G kG => ?_
 obtain (⟨fp1, wr1, ys, Z₀, acc', outs', ej, ho, hacc, hst_0, I0, S_0, hfp1, hwr1⟩) := ho _ _ hj
 obtain ⟨wrF, wrD, fpWC⟩ := mk hst_0 hfp1
 refine kG ?_
 induction ys using List.casesOn with
 | nil =>
  cases ho
  refine wpM (M.done _ _ Z₀ s_0 hst_0 I0.ok) (fun r s_1 p => ?_)
  obtain ⟨rfl, Z_1, S_1⟩ := p
  refine hQ _ _ ⟨⟨_, rfl⟩, Z_1, S_0.trans S_1 (fun a ha => hwr1 a ha) (fun i g => .inl g), ?_⟩
  rw [<- hacc, List.append_nil] at |-
  exact I0.stX hAcc S_1 wrF wrD
 | cons y ys =>
  refine cps fun G kG => ?_
  refine zb ho fun o1 ho1 ho => ?_
  refine zQ ho fun o2 ho2 e_0 => ?_
  subst e_0
  refine zb ho1 fun ρ_1 hb ho1 => ?_
  refine zb ho1 fun ok hok ho1 => ?_
  refine kG ?_
  refine wpM (M.next _ _ y ys Z₀ s_0 hst_0 I0.ok) (fun r s_1 p => ?_)
  refine cps fun G kG => ?_
  obtain (⟨v, Z_1, fp2, wr2, hr, S_1, rv, hmid, hf2, hw2⟩) := p
  refine kG (rwE hr ?_)
  have I1 := I0.stX hAcc S_1 wrF wrD
  have hfp2 : ∀ b ∈ fp2, ¬ zaw c env ρ ad b /\ b ≠ D := by
   intro b hb
   refine Or.elim (hf2 b hb) (fun h => ?_) fun h => ?_
   ·exact hfp1 b h
   ·refine ⟨fun hF => ?_, fun hD => ?_⟩
    ·obtain (⟨⟨o, ho⟩, _⟩) := I0.rel.foot_live hF
     exact za (h.symm.trans ho)
    ·obtain ⟨o, ho⟩ := I0.live
     rw [hD] at h
     exact za (h.symm.trans ho)
  have hwr2 : ∀ b ∈ wr2, (WC c env D b \/ b ∈ wr) \/ s.heap.get? b = none := by
   intro b hb
   refine Or.elim ((hw2 b hb).2) (fun h => ?_) fun h => ?_
   ·exact hwr1 b h
   ·refine Or.elim (Classical.em (WC c env D b \/ b ∈ wr)) (fun q => ?_) fun q => ?_
    ·exact .inl q
    ·induction e : s.heap.get? b with
     | none => exact .inr rfl
     | some o => cases (S_0.h b o q e).symm.trans h
  have wrD2 : ¬ D ∈ wr2 := fun h => (hfp2 D (hw2 D h).1).2 rfl
  have fpWC2 : ∀ b ∈ fp2, ¬ WC c env D b := fun b hb h => by
   refine Or.elim (zlB (ρ := ρ) (ad := ad) h) (fun h => ?_) fun h => ?_
   ·exact (hfp2 b hb).2 h
   ·exact (hfp2 b hb).1 h
  refine wpM (M.go _ _ target v ys Z_1 s_1 hmid I1.ok hpair) (fun u s_2 p => ?_)
  have I2 := I1.stX hAcc p.1 (fun a fa ha => (hfp2 a (hw2 a ha).1).1 fa) wrD2
  refine wpM (zbS (GI := fun u => False) hA.handled 9 target t ht y v ρ ρ_1 s_2 Z_1 hb I2.ok I2.rel rv) (fun u s_3 p => ?_)
  obtain ⟨S_3, R_3⟩ := p
  have nD : ¬ Own c env ρ ad D := fun h => hfD h.foot
  have I3 : za7 Ω c env ad D AccI Z_1 s_3 ρ_1 acc' := by
   obtain ⟨o, ho⟩ := I2.live
   exact ⟨S_3.ok, R_3, hAcc _ _ _ _ _ I2.acc (.refl _) (fun o e => S_3.h _ _ nD e), ⟨o, S_3.h _ _ nD ho⟩, I2.out⟩
  refine wpM (zjN IT hA hG hifs hok S_3.ok R_3) (fun ok' s_4 p => ?_)
  refine cps fun G kG => ?_
  obtain (⟨hr, Z_2, S_4⟩) := p
  refine kG (rwE hr ?_)
  have foot1 : ∀ a, zaw c env ρ_1 ad a -> zaw c env ρ ad a := fun a h => zkR hb h
  have I4 : za7 Ω c env ad D AccI Z_2 s_4 ρ_1 acc' := I3.stX hAcc (W := fun u => False) (GI := fun u => False) S_4.x (fun u w h => h) (fun h => h)
  have hst_4 : St fp2 wr2 ys Z_2 s_4 := M.frame _ _ _ _ _ (fun u => False) (fun u => False) _ _ (M.frame _ _ _ _ _ _ _ _ _ p.2 S_3 (fun b hb h => (hfp2 b hb).1 h.foot) (fun u w h => h)) S_4.x (fun u w h => h) (fun u w h => h)
  have S04 : StX (fun a => WC c env D a \/ a ∈ wr) GI Ω Z s Z_2 s_4 :=
   (((S_0.trans S_1 (fun a ha => hwr1 a ha) (fun i g => .inl g)).trans p.1 (fun a ha => hwr2 a ha) (fun i g => .inl g)).trans S_3 (fun a ha => .inl (.inl (zrN hM ha))) (fun i g => g.elim)).trans
    (S_4.x (W := fun u => False) (GI := fun u => False)) (fun u h => h.elim) (fun u h => h.elim)
  have back : ∀ {Z s acc}, za7 Ω c env ad D AccI Z s ρ_1 acc -> za7 Ω c env ad D AccI Z s ρ acc := fun I =>
   ⟨I.ok, I.rel.weaken fun i pv e => by
    rw [zfa hb (fun hi => hfre i (List.mem_append_left _ hi) pv e)] at |-; exact e, I.acc, I.live, I.out⟩
  induction ok with
  | false =>
   simp only [Bool.false_eq_true, if_false] at ho1 |-
   obtain rfl := Option.some.inj ho1
   exact ⟨trivial, ys.length, by rw [ej]; exact Nat.lt_succ_self _, hi _ _ ⟨fp2, wr2, ys, Z_2, acc', o2, rfl, ho2, hacc, hst_4, back I4, S04, hfp2, hwr2⟩⟩
  | true =>
   simp only [if_true] at ho1 |-
   have hlen : acc'.length + o1.length <= big := by
    have := congrArg List.length hacc
    simp only [List.length_append] at this
    lia
   have key := hIn ρ_1 o1 acc' Z_2 s_4 (fun s' => ∃ m, m < j /\ I m s') ho1
    (fun j hj pv e => by
     rw [zfa hb (fun h => (zeB hnd).2 j h hj)] at e
     exact hfre j (List.mem_append_right _ hj) pv e)
    (fun i xs hl e => hM i xs hl (ziJ hb e)) (fun h => hfD (foot1 _ h)) I4 hlen
    (fun s' Z' S' I' => ⟨ys.length, by rw [ej]; exact Nat.lt_succ_self _, hi _ _ ⟨fp2, wr2, ys, Z', acc' ++ o1, o2, rfl, ho2, by rw [List.append_assoc] at |-; exact hacc, M.frame _ _ _ _ _ _ _ _ _ hst_4 S' fpWC2 (fun u w h => h), back I',
     S04.trans S' (fun a ha => .inl (.inl ha)) (fun u h => h.elim), hfp2, hwr2⟩⟩)
   induction next with
   | none => exact wpM key (fun u s_5 h => ⟨trivial, h⟩)
   | some i => exact wpAny_mono key (fun x s_5 h => wpAny_mono h (fun it' s_6 h => wpAny_mono h (fun u s_7 h => ⟨trivial, h⟩) fun u w x => x) fun u w x => x) fun u w x => x
theorem znU {g : Comprehension} {pg : Gn} (h : trG (tr m) c g = some pg) : ∃ target iter ifs t it pifs, g = ⟨target, iter, ifs, 0⟩ /\ pg = .mk t it pifs /\ trT c 9 target = some t /\ zea (tr m) c iter = some it /\ zC (tr m c) ifs = some pifs /\ zbC it t = true := by
 obtain ⟨target, iter, ifs, a⟩ := g
 refine ifE h fun ha h => ?_
 have : a = 0 := by simpa using ha
 refine rwE this ?_
 refine zb h fun t ht h => ?_
 refine zb h fun it hit h => ?_
 refine zb h fun pifs hifs h => ?_
 split at h
 ·refine eqE h ?_
  exact ⟨target, iter, ifs, t, it, pifs, rfl, rfl, ht, hit, hifs, by assumption⟩
 ·exact za h
theorem ztE (IH : zaP Ω Φ S n (tr m)) (IT : zd0 Ω Φ S n (tr m)) (hA : Rm A n) (hG : GlC c Φ) (G : Gl Ω.B Φ) (GG : GlG Ω.B Φ.gen Φ.ga) (hGn : zc3 Ω Φ.ga n)
  (hgd : (Φ.gen == ("__debug__" : Str)) = false) {e : PySem.Expr} {gens : List Comprehension} {emit : Sem Unit} (X : zjO Ω A e gens emit D env) {em : Rho -> Option β}
  (hAcc : ∀ Z h acc Z' h', AccI Z h acc -> Sub Z Z' -> (∀ o, h.get? D = some o -> h'.get? D = some o) -> AccI Z' h' acc)
  (hEm : ∀ ρ d acc Z s, em ρ = some d -> acc.length < big -> za7 Ω c env ad D AccI Z s ρ acc -> ¬ zaw c env ρ ad D -> wpAny Ω.m A emit (fun u s' => ∃ Z', StX (WC c env D) (fun u => False) Ω Z s Z' s' /\ za7 Ω c env ad D AccI Z' s' ρ (acc ++ [d])) zc s) :
  ∀ (rest : List Comprehension) (prest : List Gn) (k : Nat) (target iter : PySem.Expr) (ifs : List PySem.Expr) (t : Tgt) (pifs : List PE),
   gens.drop k = ⟨target, iter, ifs, 0⟩ :: rest -> trT c 9 target = some t -> zC (tr m c) ifs = some pifs -> zC (trG (tr m) c) rest = some prest -> zaN (zO t ++ prest.flatMap zT) = true ->
  ∀ (ρ : Rho) (xs : List PyData) (outs acc : List β) (Z : Heap) (s : Shared) (it : Value) (fp wr : List Addr) (GI : Nat -> Prop) (pair : Bool) (St : DSt) (Mid : zrG),
   zgi (znT S em t pifs prest ρ) xs = some outs -> (∀ j ∈ zO t ++ prest.flatMap zT, ∀ pv, ρ[j]? ≠ some (some pv)) -> (∀ i xs, c.lo <= i -> ρ[i]? ≠ some (some (.m xs))) -> ¬ zaw c env ρ ad D ->
   zjI Ω A it GI pair St Mid -> (pair = true -> ∃ es k p, target = .Tuple es k p) -> St fp wr xs Z s -> za7 Ω c env ad D AccI Z s ρ acc -> (∀ b ∈ fp, ¬ zaw c env ρ ad b /\ b ≠ D) -> acc.length + outs.length <= big ->
   codeAny Ω.m A (.compLoop e k it (.ref D) env) (fun r s' => (∃ f, r = .ok f) /\ ∃ Z', StX (fun a => WC c env D a \/ a ∈ wr) GI Ω Z s Z' s' /\ za7 Ω c env ad D AccI Z' s' ρ (acc ++ outs)) s := by
 intro rest
 induction rest with
 | nil =>
  intro prest k target iter ifs t pifs hk ht hifs hpr hnd ρ xs outs acc Z s it fp wr GI pair St Mid houts hfre hM hfD M hpair hst hI hfp hsz
  cases hpr
  have hk0 : gens[k]? = some ⟨target, iter, ifs, 0⟩ := by
   have := congrArg (·[0]?) hk
   simpa using this
  have hk1 : gens[k + 1]? = none := by
   have := congrArg (·[1]?) hk
   simpa using this
  refine zgG IT hA hG X hAcc (next := none) ?_ hk0 hk1 ht hifs hnd houts hfre hM hfD M hpair hst hI hfp hsz
  intro ρ ys acc Z s Q hys _ hM hfD I hl hQ
  refine zQ hys fun d hd e_0 => ?_
  subst e_0
  exact wpM (hEm ρ d acc Z s hd (by assumption) I hfD) (fun u s' p => E12 p fun Z' S' I' =>  hQ s' Z' S' I')
 | cons g rest ih =>
  intro prest k target iter ifs t pifs hk ht hifs hpr hnd ρ xs outs acc Z s it fp wr GI pair St Mid houts hfre hM hfD M hpair hst hI hfp hsz
  refine zb hpr fun pg hpg hpr => ?_
  refine cps fun G0 hG_0 => ?_
  obtain ⟨prest', hpr', e9⟩ := Option.map_eq_some_iff.mp hpr; obtain rfl := e9.symm
  obtain ⟨target', iter', ifs', t', it', pifs', rfl, rfl, ht', hit', hifs', hpo⟩ := znU hpg
  refine hG_0 ?_
  have hk0 : gens[k]? = some ⟨target, iter, ifs, 0⟩ := by
   have := congrArg (·[0]?) hk
   simpa using this
  have hk1 : gens[k + 1]? = some ⟨target', iter', ifs', 0⟩ := by
   have := congrArg (·[1]?) hk
   simpa using this
  have hkd : gens.drop (k + 1) = ⟨target', iter', ifs', 0⟩ :: rest := by
   rw [<- List.drop_drop, hk] at |-; rfl
  have hns : zcc iter' = false := zdl hit'
  refine zgG IT hA hG X hAcc (next := some iter') ?_ hk0 ⟨hns, _, _, hk1⟩ ht hifs hnd houts hfre hM hfD M hpair hst hI hfp hsz
  intro ρ ys acc Z s Q hys hfre hM hfD I hl hQ
  obtain ⟨xs', hxs', hys⟩ := Option.bind_eq_some_iff.mp hys
  refine wpAny_mono (znN IH hA hG G GG hGn hgd hit' hxs' I.ok I.rel) (fun x s_5 p => wpAny_mono p (fun iv s_6 p => ?_) fun u w x => x) fun u w x => x
  refine cps fun G0 hG_0 => ?_
  obtain ⟨fp', wr', GI', St', Mid', Z_2, S_2, M', hst', hw', hg', hf'⟩ := p
  refine hG_0 ?_
  have I2 : za7 Ω c env ad D AccI Z_2 s_6 ρ acc := I.stX hAcc (W := fun u => False) (GI := fun u => False) S_2.x (fun u w h => h) (fun h => h)
  have hfp' : ∀ b ∈ fp', ¬ zaw c env ρ ad b /\ b ≠ D := by
   intro b hb
   refine ⟨fun hF => ?_, fun hD => ?_⟩
   ·obtain (⟨⟨o, ho⟩, hz⟩) := I.rel.foot_live hF
    rcases hf' b hb with h | ⟨o', h⟩
    ·exact za (h.symm.trans ho)
    ·exact za (hz.symm.trans ((S_2.new _ _ ho).symm.trans h))
   ·subst hD
    obtain ⟨o, ho⟩ := I.live
    rcases hf' b hb with h | ⟨o', h⟩
    ·exact za (h.symm.trans ho)
    ·exact za (I.out.symm.trans ((S_2.new _ _ ho).symm.trans h))
  have key := ih prest' (k + 1) target' iter' ifs' t' pifs' hkd ht' hifs' hpr' (by simpa [zT] using (zeB hnd).1) ρ xs' ys acc Z_2 s_6 iv fp' wr' GI' _ St' Mid' hys (fun j hj => hfre j (by simpa [zT] using hj)) hM hfD M'
   (fun h => zef ht' hpo h) hst' I2 hfp' hl
  refine wpAny_runOwn (A := A) ?_
  have hfin : ∀ (r : Result) s', ((∃ f, r = Except.ok f) /\ ∃ Z', StX (fun a => WC c env D a \/ a ∈ wr') GI' Ω Z_2 s_6 Z' s' /\ za7 Ω c env ad D AccI Z' s' ρ (acc ++ ys)) ->
    (match r with | .ok f => Q s' | .error e => cameBackBy Ω.m A env zc e s') := by
   rintro r s' ⟨⟨f, rfl⟩, Z', S', I'⟩
   exact hQ s' Z' ((S_2.x (W := WC c env D) (GI := fun u => False)).trans S' (fun a ha => ha.elim .inl (fun h => .inr (hw' a h))) (fun i h => .inr (hg' i h))) I'
  refine codeAny_mono (X.start (k + 1) iv _ _ (I12 _ hk1 rfl) key ?_) hfin
  refine wpM (M'.self _ _ xs' Z_2 s_6 hst' I2.ok) (fun v s_7 p => ?_)
  obtain (⟨e9, rfl⟩) := p; refine rwE e9 ?_
  exact key
end
section
variable {Ω : En} {A : Around}
theorem zlC {e : PySem.Expr} {k : Nat} {it acc : Value} {env : Env} {R : Result -> Shared -> Prop} (hq : (Code.compLoop e k it acc env).quiet = true) (hf : (Code.compLoop e k it acc env).isFrame = false) (hu : A.under (.compLoop e k it acc env) = A)
  (I : Nat -> Shared -> Prop) (h : ∀ n s, I n s -> wpAny Ω.m A (compTurn e k it acc env) (fun fin s' => match fin with | .done f => R (.ok f) s' | .again c' => c' = .compLoop e k it acc env /\ ∃ m, m < n /\ I m s') zc s)
  (n : Nat) (s : Shared) (hI : I n s) : codeAny Ω.m A (.compLoop e k it acc env) R s := by
 refine codeAny_loop hq I (fun n s hI => ?_) n hI
 rw [hu]
 show wpAny _ _ (if (Code.compLoop e k it acc env).isFrame then (compTurn e k it acc env).onRaise (leaving env) else (compTurn e k it acc env).onRaise (fun x => do noteFrame x env; theTreesLotGoes x)) _ _ s
 rw [hf]
 exact wpAny_noted (wpAny_mono (h n s hI) (fun _ _ p => p) fun _ _ x => x.elim)
theorem zpJ (elt : PySem.Expr) (gens : List Comprehension) (scope : Scope) (pos : Pos) (D : Addr) (cenv : Env) : zjO Ω A (.ListComp elt gens scope pos) gens (zez (.ref D) elt cenv) D cenv where
 turn := fun k target iter ifs next it Q E s hg hn h => zmj hg (by induction next <;> exact hn) h
 start := fun k it R s ⟨g, hg, ha⟩ h0 h => zdo rfl (by rw [hg]; simp [ha]) (fun _ => rfl) rfl h0 h
 loop := fun k it R I h n s hI => zlC rfl rfl rfl I h n s hI
theorem zpK (k0 v0 : PySem.Expr) (gens : List Comprehension) (scope : Scope) (pos : Pos) (D : Addr) (cenv : Env) : zjO Ω A (.DictComp k0 v0 gens scope pos) gens (zeA (.ref D) k0 v0 cenv) D cenv where
 turn := fun k target iter ifs next it Q E s hg hn h => zmk hg (by induction next <;> exact hn) h
 start := fun k it R s ⟨g, hg, ha⟩ h0 h => zdo rfl (by rw [hg]; simp [ha]) (fun _ => rfl) rfl h0 h
 loop := fun k it R I h n s hI => zlC rfl rfl rfl I h n s hI
end
section
variable {Ω : En} {A : Around} {Z Z' : Heap} {s s' : Shared} {c c' : TC} {env : Env} {ρ : Rho} {ad : Nat -> Addr} {scope : Scope}
 {Φ : Fs} {S : Sv} {n m : Nat}
theorem zhR (hO : Ok Ω Z s) (R : Rel c env Z s.heap ρ ad) (h : zba c scope = some c') {a : Addr} (f : zaw c' (znP scope env s.heap) ρ ad a) : s.heap.objs.size <= a \/ zaw c env ρ ad a := by
 have hfree := zfe R h
 refine cps fun G0 hG_0 => ?_
 obtain ⟨hk, hd, p, hp, e9⟩ := zbG h; refine rwE e9 ?_
 have hsz : (s.heap.push { cls := .type "dict", data := .dict #[] }).objs.size = s.heap.objs.size + 1 := Heap.size_push ..
 obtain ⟨n1, n2, n3⟩ := zcE scope.names (s.heap.push { cls := .type "dict", data := .dict #[] }) (z5 env scope.names [])
 refine hG_0 ?_
 rw [hsz] at n1 n2 n3
 rcases f with rfl | ⟨x, kd, i, e, hkd, hc⟩ | ⟨i, xs, e, h⟩
 ·exact .inl (Nat.le_refl _)
 ·rcases n1 x a hc with ⟨_, hge, _⟩ | h
  ·exact .inl (Nat.le_of_succ_le hge)
  ·rcases zbb hfree h with ⟨hx, ex⟩ | h
   ·obtain ⟨kd', j, ej, hkd'⟩ := (zb4 R.kind R.names hp).free x hx
    exact .inr (.inr (.inl (I33 x kd' j ej hkd' ex)))
   ·exact za h
 ·exact .inr (.inr (.inr (I22 i xs e h)))
theorem zhS {β : Type} (IH : zaP Ω Φ S n (tr m)) (IT : zd0 Ω Φ S n (tr m)) (hA : Rm A n) (hG : GlC c Φ) (G : Gl Ω.B Φ) (GG : GlG Ω.B Φ.gen Φ.ga) (hGn : zc3 Ω Φ.ga n)
  (hgd : (Φ.gen == ("__debug__" : Str)) = false) {e : PySem.Expr} {target iter : PySem.Expr} {ifs : List PySem.Expr} {rest : List Comprehension} {pos : Pos} {newAcc : Sem Value} {emit : Addr -> Env -> Sem Unit} {AccI : Addr -> Heap -> Heap -> List β -> Prop}
  {t : Tgt} {pit : PE} {pifs : List PE} {prest : List Gn} {em : Rho -> Option β} {outs : List β} {use : Option (Value -> Sem Unit)} {Q : Value -> Shared -> Prop}
  (hcl : clausesOf e = ⟨target, iter, ifs, 0⟩ :: rest) (X : ∀ D cenv, zjO Ω A e (⟨target, iter, ifs, 0⟩ :: rest) (emit D cenv) D cenv)
  (hctx : zba c scope = some c') (ht : trT c' 9 target = some t) (hit : zea (tr m) c iter = some pit) (hifs : zC (tr m c') ifs = some pifs) (hrest : zC (trG (tr m) c') rest = some prest) (hpo : zbC pit t = true)
  (hnd : zaN ((Gn.mk t pit pifs :: prest).flatMap zT) = true) (hout : zcx S em (.mk t pit pifs :: prest) (zR ((Gn.mk t pit pifs :: prest).flatMap zT) ρ) = some outs) (hlen : outs.length <= big)
  (hO : Ok Ω Z s) (hR : Rel c env Z s.heap ρ ad)
  (hAcc : ∀ D Z h acc Z' h', AccI D Z h acc -> Sub Z Z' -> (∀ o, h.get? D = some o -> h'.get? D = some o) -> AccI D Z' h' acc)
  (hNew : ∀ (s : Shared) (Q : Value -> Shared -> Prop), (∀ o, (∀ Z, AccI s.heap.objs.size Z (s.heap.push o) []) -> (s.heap.push o).get? s.heap.objs.size = some o -> Q (.ref s.heap.objs.size) { s with heap := s.heap.push o }) -> wpAny Ω.m A newAcc Q zc s)
  (hEm : ∀ D cenv ρ d acc Z s, em ρ = some d -> acc.length < big -> za7 Ω c' cenv ad D (AccI D) Z s ρ acc -> ¬ zaw c' cenv ρ ad D -> GlC c' Φ ->
   wpAny Ω.m A (emit D cenv) (fun w s' => ∃ Z', StX (WC c' cenv D) (fun w => False) Ω Z s Z' s' /\ za7 Ω c' cenv ad D (AccI D) Z' s' ρ (acc ++ [d])) zc s)
  (hfin : ∀ (C D : Addr) (s' : Shared) (Z' : Heap), Stp Ω Z s Z' s' -> s.heap.get? C = none -> s.heap.get? D = none -> C ≠ D -> Z'.get? C = none -> Z'.get? D = none -> (∃ o, s'.heap.get? D = some o) -> AccI D Z' s'.heap outs ->
   match use with
   | none => ∀ h', Heap.SameBut C s'.heap h' -> Q (.ref D) { s' with heap := h' }
   | some u => wpAny Ω.m A (u (.ref D)) (fun w s'' => (∀ o, s'.heap.get? C = some o -> s''.heap.get? C = some o) /\ ∀ h', Heap.SameBut C s''.heap h' -> Q .none { s'' with heap := h' }) zc s') :
  wpAny Ω.m A (comprehension e scope env pos newAcc false (eval iter env) use) Q zc s := by
 have hspec := zbG hctx
 have hlo : c'.lo = c.nx /\ c'.fns = c.fns /\ c'.cst = c.cst /\ c'.gen = c.gen := by
  obtain ⟨_, _, p, _, e9⟩ := hspec; refine rwE e9 ?_
  exact I04 rfl rfl rfl rfl
 have hG' : GlC c' Φ := ⟨hlo.2.1.trans hG.hf, hlo.2.2.1.trans hG.hc, hlo.2.2.2.trans hG.hg⟩
 let ρ_0 := zR ((Gn.mk t pit pifs :: prest).flatMap zT) ρ
 have hR_0 : Rel c env Z s.heap ρ_0 ad := hR.weaken fun i pv e => (zd3 e).1
 have hM : ∀ i xs, c'.lo <= i -> ρ_0[i]? ≠ some (some (.m xs)) := fun i xs hl e => by
  have := hR_0.hi i _ e
  rw [hlo.1] at hl
  lia
 refine zb hout fun xs hxs hout => ?_
 refine wpAny_comprehension_free hcl (fun x => zdF (zdl hit) x) (zht (zfe hR hctx)) hspec.1 (fun x hx hk => by
   refine rwB hk ?_
   exact za0 hspec.2.1 hx) ?_
 refine wpAny_mono (znN IH hA hG G GG hGn hgd hit hxs hO hR_0) (fun xv s_1 p => wpAny_mono p (fun iv s_2 p => ?_) fun w y x => x) fun w y x => x
 refine cps fun G0 hG_0 => ?_
 obtain ⟨fp, wr, GI, St, Mid, Z_2, S_2, M, hst, hw, hg, hf⟩ := p
 refine hG_0 ?_
 refine hNew s_2 _ fun o hA0 hoD => ?_
 let s_3 : Shared := { s_2 with heap := s_2.heap.push o }
 have S_3 : Stp Ω Z_2 s_2 Z_2 s_3 := Stp.grow (n := s_2.toks) S_2.ok (Sub.push _ _)
 have hsz_3 : s_3.heap.objs.size = s_2.heap.objs.size + 1 := Heap.size_push ..
 have R_3 : Rel c env Z_2 s_3.heap ρ_0 ad := (hR_0.stp S_2).stp S_3
 have hmain : ∃ o, s_3.heap.get? mainGlobals = some o := by
  obtain ⟨mg, mb, ⟨o, _, _, ho, _⟩, _⟩ := G.ns
  exact ⟨o, S_3.ok.sub _ _ (S_3.ok.base _ _ ho)⟩
 obtain ⟨R4, hown⟩ := znQ S_3.ok R_3 hmain hctx
 refine zkQ ?_
 let s_4 : Shared := { s_3 with heap := zjM scope s_3.heap }
 have S_4 : Stp Ω Z_2 s_3 Z_2 s_4 := Stp.grow (n := s_3.toks) S_3.ok zdG
 let cenv := znP scope env s_3.heap
 let D := s_2.heap.objs.size
 have hD_4 : s_4.heap.get? D = some o := zdG _ _ hoD
 have hDfresh : s.heap.get? D = none := S_2.fresh (zj _)
 have I4 : za7 Ω c' cenv ad D (AccI D) Z_2 s_4 ρ_0 [] :=
  ⟨S_4.ok, R4, hAcc D _ _ _ _ _ (hA0 Z_2) (.refl _) (fun o e => zdG _ _ e), ⟨o, hD_4⟩, S_2.ok.sub.none (zj _)⟩
 have footS : ∀ a, zaw c env ρ_0 ad a -> (∃ o, s.heap.get? a = some o) /\ Z.get? a = none := fun a h => hR_0.foot_live h
 have hfD : ¬ zaw c' cenv ρ_0 ad D := fun h => by
  refine Or.elim (zhR S_3.ok R_3 hctx h) (fun h => ?_) fun h => ?_
  ·rw [hsz_3] at h; exact absurd h (Nat.not_succ_le_self _)
  ·obtain ⟨⟨o, ho⟩, _⟩ := footS _ h
   exact za (hDfresh.symm.trans ho)
 have hfp : ∀ b ∈ fp, ¬ zaw c' cenv ρ_0 ad b /\ b ≠ D := by
  intro b hb
  obtain ⟨o, ho⟩ := (M.live _ _ _ _ _ hst).1 b hb
  have hlt := Heap.lt_size ho
  refine ⟨fun h => ?_, Nat.ne_of_lt hlt⟩
  refine Or.elim (zhR S_3.ok R_3 hctx h) (fun h => ?_) fun h => ?_
  ·rw [hsz_3] at h
   exact absurd (Nat.lt_of_lt_of_le hlt (Nat.le_of_succ_le h)) (Nat.lt_irrefl _)
  ·obtain ⟨⟨o', ho'⟩, hz⟩ := footS _ h
   rcases hf b hb with q | ⟨o2, q⟩
   ·exact za (q.symm.trans ho')
   ·exact za (hz.symm.trans ((S_2.new _ _ ho').symm.trans q))
 have hst_4 : St fp wr xs Z_2 s_4 := M.frame _ _ _ _ _ (fun w => False) (fun w => False) _ _ hst ((S_3.trans S_4).x) (fun w y h => h) (fun w y h => h)
 have key := ztE IH IT hA hG' G GG hGn hgd (X D cenv) (hAcc D) (fun ρ d acc Z s a b d e => hEm D cenv ρ _ acc Z s a b d e hG') rest prest 0 target iter ifs t pifs rfl ht hifs hrest (by simpa [zT] using hnd) ρ_0 xs outs [] Z_2 s_4 iv fp wr GI _ St Mid
  hout (fun j hj pv e => (zd3 e).2 (by simpa [zT] using hj)) hM hfD M (fun h => zef ht hpo h) hst_4 I4 hfp (by simpa using hlen)
 have hpost : ∀ (r : Result) s', ((∃ f, r = Except.ok f) /\ ∃ Z', StX (fun a => WC c' cenv D a \/ a ∈ wr) GI Ω Z_2 s_4 Z' s' /\ za7 Ω c' cenv ad D (AccI D) Z' s' ρ_0 ([] ++ outs)) ->
   compPost Ω.m A zc use Q (.ref D) s_3.heap.objs.size r s' := by
  rintro r s' ⟨⟨f, rfl⟩, Z', S', I'⟩
  have hWf : ∀ a, WC c' cenv D a \/ a ∈ wr -> s.heap.get? a = none := by
   rintro a (h | h)
   ·rcases h with h | h | ⟨x, k, i, a1, a2, a3, a4⟩
    ·refine rwE h ?_; exact hDfresh
    ·exact S_2.fresh (S_3.fresh (zaa (hown a (.inl h))))
    ·exact S_2.fresh (S_3.fresh (zaa (hown a (.inr (.inl (I34 x k i a1 a2 a3 a4))))))
   ·exact hw a h
  have hC0 : s.heap.get? s_3.heap.objs.size = none := S_2.fresh (S_3.fresh (zj _))
  have hCD : s_3.heap.objs.size ≠ D := by rw [hsz_3]; exact Nat.succ_ne_self _
  have hCz : Z'.get? s_3.heap.objs.size = none := I'.rel.apL
  obtain ⟨m', hns, _⟩ := I'.rel.loc
  have F := hfin s_3.heap.objs.size D s' Z' ((StX.trans (W := fun w => False) (GI := fun w => False) (((S_2.trans S_3).trans S_4).x) S' (fun a h => .inr (hWf a h)) (fun i g => .inr (hg i g))).stp) hC0 hDfresh hCD hCz I'.out I'.live (by simpa using I'.acc)
  induction use with
  | none => exact I12 m' hns F
  | some u =>
   refine wpM F (fun w s'' p => ?_)
   obtain ⟨e, q⟩ := p
   exact I12 m' (hns.at' (fun o ho => e o ho)) q
 refine codeAny_mono ((X D cenv).start 0 iv _ s_4 (I12 _ rfl rfl) key ?_) hpost
 refine wpM (M.self _ _ xs Z_2 s_4 hst_4 I4.ok) (fun v s_7 p => ?_)
 obtain (⟨e9, rfl⟩) := p; refine rwE e9 ?_
 exact key
def zhu (D : Addr) (Z h : Heap) (outs : List PyData) : Prop := ∃ vs n, h.get? D = some { cls := .type "list", data := .seq vs n } /\ zv Z vs.toList outs
theorem zhT (D : Addr) (Z h : Heap) (acc : List PyData) (Z' h' : Heap) (a : zhu D Z h acc) (f : Sub Z Z') (k : ∀ o, h.get? D = some o -> h'.get? D = some o) : zhu D Z' h' acc :=
 E22 a fun vs n e r =>  (I22 vs n (k _ e) (r.mono f))
theorem znV (s : Shared) (Q : Value -> Shared -> Prop) (h : ∀ o, (∀ Z, zhu s.heap.objs.size Z (s.heap.push o) []) -> (s.heap.push o).get? s.heap.objs.size = some o -> Q (.ref s.heap.objs.size) { s with heap := s.heap.push o }) :
  wpAny Ω.m A (newList []) Q zc s := by
 refine wpAny_newList ?_
 exact h _ (fun Z => I22 #[] 0 (Heap.get?_push_size _ rfl) .nil) (Heap.get?_push_size _ rfl)
theorem zgH {β : Type} {D : Addr} {AccI : Heap -> Heap -> List β -> Prop} {acc acc' : List β} {h' : Heap} {tk : Nat} (I : za7 Ω c env ad D AccI Z s ρ acc) (hfD : ¬ zaw c env ρ ad D) (hs : Heap.SameBut D s.heap h') (ho : ∃ o, h'.get? D = some o) (ha : AccI Z h' acc') :
  StX (WC c env D) (fun u => False) Ω Z s Z { s with heap := h', toks := tk } /\ za7 Ω c env ad D AccI Z { s with heap := h', toks := tk } ρ acc' := by
 have S : StX (fun a => a = D) (fun u => False) Ω Z s Z { s with heap := h', toks := tk } := StX.write I.ok I.out rfl hs
 refine ⟨S.mono (fun a h => .inl (.inl h)) (fun u h => h.elim), S.ok, I.rel.stX S (fun a fa e => hfD (e ▸ fa)), ha, ho, I.out⟩
theorem zmm (IH : zaP Ω Φ S n (tr m)) (hA : Rm A n) (hG : GlC c Φ) {elt : PySem.Expr} {pelt : PE} (he : tr m c elt = some pelt) {D : Addr} {d : PyData} {acc : List PyData}
  (hd : S.ex ρ pelt = some d) (hl : acc.length < big) (I : za7 Ω c env ad D (zhu D) Z s ρ acc) (hfD : ¬ zaw c env ρ ad D) :
  wpAny Ω.m A (zez (.ref D) elt env) (fun u s' => ∃ Z', StX (WC c env D) (fun u => False) Ω Z s Z' s' /\ za7 Ω c env ad D (zhu D) Z' s' ρ (acc ++ [d])) zc s := by
 refine Pst.bind (IH c elt pelt ρ d he hd A env Z s ad hA hG I.ok I.rel) fun v s_1 Z_1 S_1 r_1 => ?_
 have I1 : za7 Ω c env ad D (zhu D) Z_1 s_1 ρ acc := I.stX (zhT D) (W := fun u => False) (GI := fun u => False) S_1.x (fun u w h => h) (fun h => h)
 obtain ⟨vs, k, e, r⟩ := I1.acc
 have hsz : vs.size <= sizeLine := by rw [zp r]; exact nle (Nat.le_of_lt hl) (by decide)
 refine wB (wpAny_list_append_plain (hsz := hsz) (items := vs) ⟨k, e⟩ fun h' hp hs => wPu ?_)
 obtain ⟨k', e'⟩ := hp
 obtain ⟨S_2, I2⟩ := zgH (tk := s_1.toks) (acc' := acc ++ [d]) I1 hfD hs ⟨_, e'⟩ (I22 _ k' e' (by rw [Array.toList_push]; exact r.append (.one r_1)))
 exact I12 Z_1 ((S_1.x (W := WC c env D) (GI := fun u => False)).trans S_2 (fun u h => .inl h) (fun u h => h.elim)) I2
theorem zlD (IH : zaP Ω Φ S n (tr m)) (IT : zd0 Ω Φ S n (tr m)) (hA : Rm A n) (hG : GlC c Φ) (G : Gl Ω.B Φ) (GG : GlG Ω.B Φ.gen Φ.ga) (hGn : zc3 Ω Φ.ga n)
  (hgd : (Φ.gen == ("__debug__" : Str)) = false) {target iter elt : PySem.Expr} {ifs : List PySem.Expr} {rest : List Comprehension} {pos pos' : Pos}
  {t : Tgt} {pit pelt : PE} {pifs : List PE} {prest : List Gn} {outs : List PyData} {use : Option (Value -> Sem Unit)} {Q : Value -> Shared -> Prop}
  (hctx : zba c scope = some c') (ht : trT c' 9 target = some t) (hit : zea (tr m) c iter = some pit) (hifs : zC (tr m c') ifs = some pifs) (hrest : zC (trG (tr m) c') rest = some prest) (he : tr m c' elt = some pelt) (hpo : zbC pit t = true)
  (hnd : zaN ((Gn.mk t pit pifs :: prest).flatMap zT) = true) (hout : zbX S pelt (.mk t pit pifs :: prest) ρ = some outs) (hlen : outs.length <= big)
  (hO : Ok Ω Z s) (hR : Rel c env Z s.heap ρ ad)
  (hfin : ∀ (C D : Addr) (s' : Shared) (Z' : Heap), Stp Ω Z s Z' s' -> s.heap.get? C = none -> s.heap.get? D = none -> C ≠ D -> Z'.get? C = none -> Z'.get? D = none -> (∃ o, s'.heap.get? D = some o) -> zhu D Z' s'.heap outs ->
   match use with
   | none => ∀ h', Heap.SameBut C s'.heap h' -> Q (.ref D) { s' with heap := h' }
   | some u => wpAny Ω.m A (u (.ref D)) (fun v s'' => (∀ o, s'.heap.get? C = some o -> s''.heap.get? C = some o) /\ ∀ h', Heap.SameBut C s''.heap h' -> Q .none { s'' with heap := h' }) zc s') :
  wpAny Ω.m A (comprehension (.ListComp elt (⟨target, iter, ifs, 0⟩ :: rest) scope pos) scope env pos' (newList []) false (eval iter env) use) Q zc s :=
 zhS (AccI := zhu) (emit := fun D cenv => zez (.ref D) elt cenv) (em := fun ρ' => S.ex ρ' pelt) IH IT hA hG G GG hGn hgd rfl (fun D cenv => zpJ elt _ scope pos D cenv) hctx ht hit hifs hrest hpo hnd hout hlen hO hR zhT (fun s Q h => znV s Q h)
  (fun D cenv ρ d acc Z s a b I f hG' => zmm IH hA hG' he a b I f) hfin
theorem zlE {C : Addr} {h' : Heap} (S : Stp Ω Z s Z' s') (hC : s.heap.get? C = none) (hz : Z'.get? C = none) (hs : Heap.SameBut C s'.heap h') : Stp Ω Z s Z' { s' with heap := h' } :=
 (StX.trans (W := fun u => False) (GI := fun u => False) S.x (StX.write (W := fun a => a = C) (GI := fun u => False) (n := s'.toks) S.ok hz rfl hs) (fun a e => .inr (by refine rwE e ?_; exact hC)) (fun u h => h.elim)).stp
theorem zmn {C D : Addr} {outs : List PyData} {h' : Heap} (S : Stp Ω Z s Z' s') (hC : s.heap.get? C = none) (hD : s.heap.get? D = none) (hCD : C ≠ D) (hCz : Z'.get? C = none) (hDz : Z'.get? D = none) (a : zhu D Z' s'.heap outs) (hs : Heap.SameBut C s'.heap h') :
  zeq Ω Z s outs (.ref D) { s' with heap := h' } := by
 obtain ⟨vs, k, e, r⟩ := a
 exact I46 Z' D vs k (zlE S hC hCz hs) rfl hD hDz ((hs.2 D (Ne.symm hCD)).trans e) r
end
section
variable {K : Type} [DecidableEq K]
theorem zgI (kvs : List (K × Value)) (k x : K) (v : Value) : valueAt (stored kvs k v) x = if x = k then some v else valueAt kvs x := by
 unfold stored
 split
 ·rename_i h
  induction kvs with
  | nil => simp at h
  | cons p kvs ih =>
   unfold valueAt at ih |-
   rw [List.map_cons, List.find?_cons, List.find?_cons]
   by_cases hp : p.1 = k
   ·rw [if_pos hp]
    by_cases hx : x = k
    ·refine rwE hx ?_; simp [hp]
    ·have : ¬ p.1 = x := fun e => hx (e ▸ hp)
     simp only [this, decide_false, if_neg hx]
     have key : ∀ l : List (K × Value), (List.find? (fun kv => decide (kv.1 = x)) (l.map fun kv => if kv.1 = k then (kv.1, v) else kv)).map (·.2) = (List.find? (fun kv => decide (kv.1 = x)) l).map (·.2) := by
      intro l
      induction l with
      | nil => rfl
      | cons q l ih =>
       rw [List.map_cons, List.find?_cons, List.find?_cons]
       by_cases hq : q.1 = k
       ·have hqx : ¬ q.1 = x := fun e => hx (e ▸ hq)
        rw [if_pos hq]; simp only [hqx, decide_false]; exact ih
       ·rw [if_neg hq]
        by_cases hqx : q.1 = x
        ·simp [hqx]
        ·simp only [hqx, decide_false]; exact ih
     exact key kvs
   ·rw [if_neg hp]
    have h' : (kvs.any fun kv => decide (kv.1 = k)) = true := by simpa [hp] using h
    by_cases hpx : p.1 = x
    ·have : ¬ x = k := fun e => hp (hpx.trans e)
     simp [hpx, this]
    ·simp only [hpx, decide_false]; exact ih h'
 ·rename_i h
  have hn : ∀ p ∈ kvs, ¬ p.1 = k := by
   intro p hp e
   exact h (List.any_eq_true.mpr (I12 p hp (by simp [e])))
  unfold valueAt
  rw [List.find?_append]
  by_cases hx : x = k
  ·subst hx
   have : List.find? (fun kv => decide (kv.1 = x)) kvs = none := List.find?_eq_none.mpr fun p hp => by simp [hn p hp]
   rw [this]; simp
  ·rw [if_neg hx]
   induction (List.find? (fun kv => decide (kv.1 = x)) kvs) with
   | some p => rfl
   | none =>
    have : ¬ k = x := fun e => hx e.symm
    simp [this]
end
section
variable {Ω : En} {A : Around} {Z Z' : Heap} {s s' : Shared} {c c' : TC} {env : Env} {ρ : Rho} {ad : Nat -> Addr} {scope : Scope}
 {Φ : Fs} {S : Sv} {n m : Nat}
def znW (kvs : List (Int × Value)) (outs : List (Int × PyData)) : Prop := ∀ k, match zbU (zbY outs) k with
 | some d => ∃ v, valueAt kvs k = some v /\ zek v d
 | none => valueAt kvs k = none
def ziK (Ω : En) (D : Addr) (Z h : Heap) (outs : List (Int × PyData)) : Prop := ∃ kvs : List (Int × Value), h.DictOf (intKind Ω.prog Ω.w) D kvs /\ kvs.length <= outs.length /\ znW kvs outs
theorem zhU (D : Addr) (Z h : Heap) (acc : List (Int × PyData)) (Z' h' : Heap) (a : ziK Ω D Z h acc) (f : Sub Z Z') (k : ∀ o, h.get? D = some o -> h'.get? D = some o) : ziK Ω D Z' h' acc :=
 E12 a fun kvs e r =>  (I12 kvs (e.at k) r)
theorem znX (s : Shared) (Q : Value -> Shared -> Prop) (h : ∀ o, (∀ Z, ziK Ω s.heap.objs.size Z (s.heap.push o) []) -> (s.heap.push o).get? s.heap.objs.size = some o -> Q (.ref s.heap.objs.size) { s with heap := s.heap.push o }) :
  wpAny Ω.m A (newDict) Q zc s := by
 refine wpAny_newObj_type ?_
 exact h _ (fun Z => I13 [] (Heap.DictOf.new _) (Nat.zero_le _) (fun k => rfl)) (Heap.get?_push_size _ rfl)
theorem zkS {kvs : List (Int × Value)} {outs : List (Int × PyData)} {i : Int} {v : Value} {d : PyData} (L : znW kvs outs) (hv : zek v d) : znW (stored kvs i v) (outs ++ [(i, d)]) := by
 intro k
 rw [(by simp [zbY] : zbY (outs ++ [(i, d)]) = (.int i, d) :: zbY outs), zgI]
 by_cases hk : k = i
 ·rw [if_pos hk, show zbU ((.int i, d) :: zbY outs) k = some d from if_pos hk]
  exact I12 v rfl hv
 ·rw [if_neg hk, show zbU ((.int i, d) :: zbY outs) k = zbU (zbY outs) k from if_neg hk]
  exact L k
theorem zjP {v : Value} {d : PyData} (h : zne d = true) (r : Rep Z v d) : zek v d := by
 cases d <;> first | (exact Bool.noConfusion h) | skip
 ·exact zo.mp r
 ·exact zU.mp r
theorem zmo (IH : zaP Ω Φ S n (tr m)) (hA : Rm A n) (hG : GlC c Φ) {k0 v0 : PySem.Expr} {pk pv : PE} (hk : tr m c k0 = some pk) (hv : tr m c v0 = some pv) {D : Addr} {d : Int × PyData} {acc : List (Int × PyData)}
  (hd : kvD S pk pv ρ = some d) (hl : acc.length < big) (I : za7 Ω c env ad D (ziK Ω D) Z s ρ acc) (hfD : ¬ zaw c env ρ ad D) :
  wpAny Ω.m A (zeA (.ref D) k0 v0 env) (fun u s' => ∃ Z', StX (WC c env D) (fun u => False) Ω Z s Z' s' /\ za7 Ω c env ad D (ziK Ω D) Z' s' ρ (acc ++ [d])) zc s := by
 refine zb hd fun kd hkd hd => ?_
 refine zb hd fun vd hvd hd => ?_
 refine Pst.bind (IH c k0 pk ρ kd hk hkd A env Z s ad hA hG I.ok I.rel) fun kv s_1 Z_1 S_1 r_1 => ?_
 refine wB (wpAny_holding (Pst.then (IH c v0 pv ρ vd hv hvd A env Z_1 s_1 ad hA hG S_1.ok (I.rel.stp S_1)) fun vv s_2 Z_2 S_2 r_2 => ?_))
 split at hd
 ·rename_i i _hq
  refine ifE hd fun hf hd => ?_
  refine eqE hd ?_
  have S12 := S_1.trans S_2
  have I2 : za7 Ω c env ad D (ziK Ω D) Z_2 s_2 ρ acc := I.stX accD_mono' (W := fun u => False) (GI := fun u => False) S12.x (fun u v h => h) (fun h => h)
  refine zc1 r_1 fun t => ?_
  obtain ⟨kvs, e, hlen, L⟩ := I2.acc
  refine wB (wpAny_standAt (wpAny_holding (wpAny_dictSet_pairs (knd := intKind Ω.prog Ω.w) (k := i) (by simp [intKind, Value.isInt]) e (fun h' hm hs => ?_) (nle (nle hlen (Nat.le_of_lt hl)) (by decide)))))
  have ho : ∃ o, h'.get? D = some o := E32 hm fun o u v ho y =>  ⟨o, ho⟩
  obtain ⟨S_3, I3⟩ := zgH (tk := s_2.toks + 1) (acc' := acc ++ [(i, vd)]) I2 hfD hs ho (I13 _ hm (by
   have := stored_length_le kvs i vv
   simp only [List.length_append, List.length_cons, List.length_nil]; lia) (zkS L (zjP hf r_2)))
  exact I12 Z_2 ((S12.x (W := WC c env D) (GI := fun u => False)).trans S_3 (fun u h => .inl h) (fun u h => h.elim)) I3
 ·exact za hd
where accD_mono' {D : Addr} : ∀ Z h acc Z' h', ziK Ω D Z h acc -> Sub Z Z' -> (∀ o, h.get? D = some o -> h'.get? D = some o) -> ziK Ω D Z' h' acc := fun Z h acc Z' h' => zhU D Z h acc Z' h'
theorem znY (IH : zaP Ω Φ S n (tr m)) (IT : zd0 Ω Φ S n (tr m)) (hA : Rm A n) (hG : GlC c Φ) (G : Gl Ω.B Φ) (GG : GlG Ω.B Φ.gen Φ.ga) (hGn : zc3 Ω Φ.ga n)
  (hgd : (Φ.gen == ("__debug__" : Str)) = false) {target iter k0 v0 : PySem.Expr} {pos pos' : Pos}
  {t : Tgt} {pit pk pv : PE} {outs : List (Int × PyData)}
  (hctx : zba c scope = some c') (ht : trT c' 9 target = some t) (hit : zea (tr m) c iter = some pit) (hk : tr m c' k0 = some pk) (hv : tr m c' v0 = some pv) (hpo : zbC pit t = true)
  (hnd : zaN (zO t) = true) (hout : zcx S (kvD S pk pv) [.mk t pit []] (zR (zO t) ρ) = some outs) (hlen : outs.length <= big)
  (hO : Ok Ω Z s) (hR : Rel c env Z s.heap ρ ad) :
  wpAny Ω.m A (comprehension (.DictComp k0 v0 [⟨target, iter, [], 0⟩] scope pos) scope env pos' newDict false (eval iter env) none) (Pst Ω Z s (.dict (zbY outs))) zc s := by
 refine zhS (AccI := ziK Ω) (emit := fun D cenv => zeA (.ref D) k0 v0 cenv) (em := kvD S pk pv) (use := none) IH IT hA hG G GG hGn hgd rfl (fun D cenv => zpK k0 v0 _ scope pos D cenv) hctx ht hit rfl rfl hpo (prest := [])
  (by simpa [zT] using hnd) (by simpa [zT] using hout) hlen hO hR zhU (fun s Q h => znX s Q h) (fun D cenv ρ d acc Z s a b I f hG' => zmo IH hA hG' hk hv a b I f) ?_
 intro C D s' Z' S' hC hD hCD hCz hDz _ ha h' hs
 obtain ⟨kvs, ⟨o, es, ep, ho, hx, hdd, hks, hps, hnn⟩, _, L⟩ := ha
 have ho' : h'.get? D = some o := (hs.2 D (Ne.symm hCD)).trans ho
 obtain ⟨F, S_3, hz, f⟩ := (zlE S' hC hCz hs).freezeNew (a := D) hD hDz ho'
 refine I12 F S_3 (zcv.mpr ⟨D, rfl, ?_, valueAt kvs, fun p w' => ?_, L⟩)
 ·rw [beq_eq_false_iff_ne]
  rintro rfl
  obtain ⟨o', ho'⟩ := G.sys
  cases (hO.sub _ _ (hO.base _ _ ho')).symm.trans hD
 ·exact (Heap.DictOf.mapOf (I36 o es ep hz hx hdd hks hps hnn) : F.MapOf (intKind Ω.prog Ω.w) D (valueAt kvs))
structure Held (Ω : En) (Φ : Fs) (S : Sv) (n : Nat) : Prop where
 ex : ∀ m, zaP Ω Φ S n (tr m)
 tst : ∀ m, zd0 Ω Φ S n (tr m)
 call : zkK Ω Φ S n
 gl : Gl Ω.B Φ
 glg : GlG Ω.B Φ.gen Φ.ga
 gok : zc3 Ω Φ.ga n
 gd : (Φ.gen == ("__debug__" : Str)) = false
 bin : Ω.B.get? mainGlobals ≠ none
theorem znZ (hO : Ok Ω Z' s') {v : Value} {y : PyData} {b : Bool} (r : Rep Z' v y) (hb : zap y = some b) : wpAny Ω.m A (unaryOp .Not v) (Pst Ω Z' s' (.bool (!b))) zc s' :=
 not_of (za4.then (zeo hO (.inl r) hb) fun s_1 Z_1 S_1 => I12 Z_1 S_1 (zx.mpr rfl))
theorem zkT {outs : List PyData} {d : PyData} (h : zlk (.list outs) = some d) : d = .list outs /\ outs.length <= big := ifE (c := outs.length <= big) (x := some (PyData.list outs)) h fun hl e => ⟨(Option.some.inj e).symm, hl⟩
theorem zgJ (H : Held Ω Φ S n) (hA : Rm A n) (hG : GlC c Φ) {e : PySem.Expr} {elt : PE} {gs : List Gn} {outs : List PyData}
  (h : zE (tr m) c e (.comp elt gs)) (hd : zbX S elt gs ρ = some outs) (hl : outs.length <= big) (hO : Ok Ω Z s) (hR : Rel c env Z s.heap ρ ad) :
  wpAny Ω.m A (eval e env) (zeq Ω Z s outs) zc s := by
 cases h with
 | comp h =>
  exact zlD (H.ex m) (H.tst m) hA hG H.gl H.glg H.gok H.gd (use := none) h.ctx h.tgt h.it h.ifs h.gs h.elt h.po h.nd hd hl hO hR fun C D s' Z' S' hC hD hCD hCz hDz _ ha h' hs => zmn S' hC hD hCD hCz hDz ha hs
theorem zmp (H : Held Ω Φ S n) (hA : Rm A n) (hG : GlC c Φ) {e : PySem.Expr} {es : List PE} {outs : List PyData}
  (h : zE (tr m) c e (.lst es)) (hd : exs S ρ es = some outs) (hO : Ok Ω Z s) (hR : Rel c env Z s.heap ρ ad) :
  wpAny Ω.m A (eval e env) (zeq Ω Z s outs) zc s := by
 cases h with
 | lst hl hp => exact zeu (H.ex m) hA hG hl hp hd hO hR
theorem zff {elt : PE} {gs : List Gn} {d : PyData} {G : Prop} (hd : ((zbX S elt gs ρ).map PyData.list).bind zlk = some d) (k : ∀ outs, zbX S elt gs ρ = some outs -> d = .list outs -> outs.length <= big -> G) : G :=
 zb hd fun q hq hd => zQ hq fun outs hout e => by
  subst e
  obtain ⟨e, hl⟩ := zkT hd
  exact k outs hout e hl
def ExW (Ω : En) (A : Around) (env : Env) (Z : Heap) (s : Shared) (e : PySem.Expr) (d : PyData) : Prop := wpAny Ω.m A (eval e env) (Pst Ω Z s d) zc s
theorem zrO (H : Held Ω Φ S n) (hA : Rm A n) (hG : GlC c Φ) {t a b : PySem.Expr} {p : Pos} {pt pa pb : PE} {d : PyData} (ht : tr m c t = some pt) (ha : tr m c a = some pa) (hb : tr m c b = some pb)
  (hd : zcn S ρ (.ite pt pa pb) = some d) (hO : Ok Ω Z s) (hR : Rel c env Z s.heap ρ ad) : ExW Ω A env Z s (.IfExp t a b p) d :=
 zb hd fun cb hc hd => zb hc fun y hy hc => by
  refine wpAny_IfExp (za4.then (H.tst m c _ pt ρ y cb ht hy hc A env Z s ad hA hG hO hR) fun s_1 Z_1 S_1 => ?_)
  induction cb with
  | true => exact z8 S_1 (H.ex m c _ pa ρ d ha hd A env Z_1 s_1 ad hA hG S_1.ok (hR.stp S_1))
  | false => exact z8 S_1 (H.ex m c _ pb ρ d hb hd A env Z_1 s_1 ad hA hG S_1.ok (hR.stp S_1))
theorem zrP (H : Held Ω Φ S n) (hA : Rm A n) (hG : GlC c Φ) {e : PySem.Expr} {pe : PE} {d : PyData} (h : zE (tr m) c e pe)
  (hd : zcn S ρ pe = some d) (hO : Ok Ω Z s) (hR : Rel c env Z s.heap ρ ad) : ExW Ω A env Z s e d := by
 induction h with
 | int i k p => refine eqE hd ?_; exact wpAny_Constant_int (zt hO _ (zo.mpr ⟨_, rfl⟩))
 | str x k p => refine eqE hd ?_; exact wpAny_Constant_str (zt hO _ (zU.mpr ⟨_, rfl⟩))
 | bool b k p => refine eqE hd ?_; exact wpAny_Constant_bool (zq hO (zx.mpr rfl))
 | none k p => refine eqE hd ?_; exact wpAny_Constant_none (zq hO (zjl.mpr rfl))
 | name hx h => exact zrC hA hx h hd hO hR
 | glob hx h hg hc => exact zpE hG H.gl hx hg hc hd hO hR
 | bin ha hb => exact zrA (H.ex m) hA hG ha hb hd hO hR
 | not ha => exact zQ hd fun b hb e => by subst e; exact zb hb fun y hy hb => znA (H.ex m) hA hG ha hy hO hR fun v s' Z' hO' r => znZ hO' r hb
 | neg ha =>
  refine zb hd fun y hy hd => ?_
  cases y <;> first | exact za hd | skip
  refine eqE hd ?_
  refine znA (H.ex m) hA hG ha hy hO hR fun v s' Z' hO' r => ?_
  refine zc1 r fun t => ?_
  exact PyProof.Rows.neg_int (zt hO' _ (zo.mpr ⟨_, rfl⟩))
 | inv ha =>
  refine zb hd fun y hy hd => ?_
  cases y <;> first | exact za hd | skip
  refine eqE hd ?_
  refine znA (H.ex m) hA hG ha hy hO hR fun v s' Z' hO' r => ?_
  refine zc1 r fun t => ?_
  exact PyProof.Rows.invert_int (zt hO' _ (zo.mpr ⟨_, rfl⟩))
 | and hp => exact zgx (H.ex m) hA hG hp hd hO hR
 | or hp => exact zhM (H.ex m) hA hG hp hd hO hR
 | cmp hs ha hb =>
  obtain ⟨bb, e9, hw⟩ := znB (H.ex m) hA hG H.gl hs ha hb hd hO hR; refine rwE e9 ?_
  exact wpAny_Compare1 hw (zhK hs)
 | ite ht ha hb => exact zrO H hA hG ht ha hb hd hO hR
 | lst hl hp => exact zQ hd fun ds hds e => by refine rwB e ?_; exact wpM (zeu (H.ex m) hA hG hl hp hds hO hR) (fun u w p => p.pst)
 | tup hl hp => exact zQ hd fun ds hds e => by refine rwB e ?_; exact zd1 (H.ex m) hA hG hl hp hds hO hR
 | sl ha h1 h2 h3 => exact ztz (H.ex m) hA hG ha h1 h2 h3 hd hO hR
 | idx ha hb => exact zrD (H.ex m) hA hG H.gl ha hb hd hO hR
 | callF hx hg hk hp => exact znC (H.ex m) H.call hA hG H.gl hx hg hk hp hd hO hR
 | isint hg hi ha => exact znD (H.ex m) hA hG H.gl hg hi ha hd hO hR
 | bi hx hg hb hp => exact ztA (H.ex m) hA hG H.gl hx hg hb hp hd hO hR
 | me h1 h2 h3 hk ha hp => exact ztB (H.ex m) hA hG h1 h2 h3 hk ha hp hd hO hR
 | comp h => exact zff hd fun outs hout e hl => by refine rwE e ?_; exact wpM (zgJ H hA hG (.comp h) hout hl hO hR) (fun u w p => p.pst)
 | dcomp h =>
  refine zb hd fun outs hout hd => ifE hd fun hl e => ?_
  refine eqE e ?_
  exact znY (H.ex m) (H.tst m) hA hG H.gl H.glg H.gok H.gd h.ctx h.tgt h.it h.k h.v h.po h.nd hout hl hO hR
theorem zlF (H : Held Ω Φ S n) (tbl : Nat -> Option Fn) : ∀ m, zaP Ω Φ (step tbl S) (n + 1) (tr m)
 | 0 => fun c e pe ρ d h => za h
 | m + 1 => fun c e pe ρ d h hd A env Z s ad hA' hG hO hR => zrP H (hA'.le (Nat.le_succ n)) hG (zbk h) hd hO hR
theorem zbw {b : Bool} {Q : Bool -> Shared -> Prop} {E} (h : Q b s) : wpAny Ω.m A (truthy (.bool b)) Q E s := fun u v w => h
theorem zn0 (H : Held Ω Φ S n) (tbl : Nat -> Option Fn) : ∀ m, zd0 Ω Φ (step tbl S) (n + 1) (tr m)
 | 0 => fun c e pe ρ d b h => za h
 | m + 1 => fun c e pe ρ d b h hd hb A env Z s ad hA' hG hO hR => by
  have dflt : isTrue e env (eval e env) = (do let v <- eval e env; standAt e.pos; holding [v] (truthy v)) -> wpAny Ω.m A (isTrue e env (eval e env)) (za4 Ω Z s b) zc s :=
   fun he => zjD (zlF H tbl (m + 1) c e pe ρ d h hd A env Z s ad hA' hG hO hR) hb he
  have hA : Rm A n := hA'.le (Nat.le_succ n)
  have hd' : zcn S ρ pe = some d := hd
  have h9 := zbk h; induction h9 with
  | not ha =>
   refine zQ hd' fun b0 hb0 e => zb hb0 fun y hy hb0 => ?_
   induction e; refine eqE hb ?_
   exact wpAny_isTrue_Not (za4.then (H.tst m c _ _ ρ y b0 ha hy hb0 A env Z s ad hA hG hO hR) fun s_1 Z_1 S_1 => ⟨rfl, Z_1, S_1⟩)
  | and hp => exact wpAny_isTrue_BoolOp (zhN (H.tst m) hA hG hp hd' hb hO hR)
  | or hp => exact wpAny_isTrue_BoolOp (zjG (H.tst m) hA hG hp hd' hb hO hR)
  | @ite t a b' pos pt pa pb ht ha hb' =>
   refine zb hd' fun cb hc hd' => zb hc fun y hy hc => ?_
   refine wB (za4.then (H.tst m c _ pt ρ y cb ht hy hc A env Z s ad hA hG hO hR) fun s_1 Z_1 S_1 => ?_)
   induction cb with
   | true => exact zbQ S_1 (H.tst m c _ pa ρ d b ha hd' hb A env Z_1 s_1 ad hA hG S_1.ok (hR.stp S_1))
   | false => exact zbQ S_1 (H.tst m c _ pb ρ d b hb' hd' hb A env Z_1 s_1 ad hA hG S_1.ok (hR.stp S_1))
  | cmp hs ha hb' =>
   obtain ⟨bb, e9, hw⟩ := znB (H.ex m) hA hG H.gl hs ha hb' hd' hO hR; obtain rfl := e9.symm
   refine eqE hb ?_
   refine wpAny_isTrue_Compare1 (wpAny_mono hw (fun v s_1 p => wpAny_mono p (fun u s_2 q => wpAny_mono q (fun r s_3 q => ?_) fun w z x => x) fun w z x => x) fun w z x => x) (zhK hs)
   obtain ⟨Z', S', r'⟩ := q
   rw [zx.mp r']
   exact zbw ⟨rfl, Z', S'⟩
  | _ => exact dflt rfl
end
structure Adv (Ω : En) (c : TC) (env : Env) (ρ : Rho) (ad : Nat -> Addr) (Z : Heap) (s : Shared) (ρ' : Rho) (ad' : Nat -> Addr) (Z' : Heap) (s' : Shared) : Prop where
 stx : StX (Own c env ρ ad) (fun _ => False) Ω Z s Z' s'
 rel : Rel c env Z' s'.heap ρ' ad'
 own : ∀ a, Own c env ρ' ad' a -> Own c env ρ ad a \/ s.heap.get? a = none
def zcs (Ω : En) (c : TC) (env : Env) (ρ : Rho) (ad : Nat -> Addr) (Z : Heap) (s : Shared) (ρ' : Rho) (fl : Fl) : Flow -> Shared -> Prop := fun f s' =>
 match fl with
 | .next => f = .next /\ ∃ Z' ad', Adv Ω c env ρ ad Z s ρ' ad' Z' s'
 | .brk => f = .brk /\ ∃ Z' ad', Adv Ω c env ρ ad Z s ρ' ad' Z' s'
 | .ret d => ∃ Z' v, f = .ret v /\ StX (Own c env ρ ad) (fun u => False) Ω Z s Z' s' /\ Rep Z' v d
section
variable {Ω : En} {A : Around} {Z Z' Z'' : Heap} {s s' s'' : Shared} {c : TC} {env : Env} {ρ ρ' ρ'' : Rho} {ad ad' ad'' : Nat -> Addr}
 {Φ : Fs} {S : Sv} {n m : Nat}
theorem Adv.refl (hO : Ok Ω Z s) (R : Rel c env Z s.heap ρ ad) : Adv Ω c env ρ ad Z s ρ ad Z s := ⟨StX.refl hO, R, fun u o => .inl o⟩
theorem Adv.ofStp (S : Stp Ω Z s Z' s') (R : Rel c env Z s.heap ρ ad) : Adv Ω c env ρ ad Z s ρ ad Z' s' := ⟨S.x, R.stp S, fun u o => .inl o⟩
theorem Adv.trans (a : Adv Ω c env ρ ad Z s ρ' ad' Z' s') (b : Adv Ω c env ρ' ad' Z' s' ρ'' ad'' Z'' s'') : Adv Ω c env ρ ad Z s ρ'' ad'' Z'' s'' :=
 ⟨a.stx.trans b.stx a.own (fun u h => h.elim), b.rel, fun x o => (b.own x o).elim (a.own x) fun h => a.stx.fresh h⟩
theorem zbl {fl : Fl} {f : Flow} (a : Adv Ω c env ρ ad Z s ρ' ad' Z' s') (p : zcs Ω c env ρ' ad' Z' s' ρ'' fl f s'') : zcs Ω c env ρ ad Z s ρ'' fl f s'' := by
 induction fl with
 | next => exact ⟨p.1, let ⟨Z2, ad2, b⟩ := p.2; ⟨Z2, ad2, a.trans b⟩⟩
 | brk => exact ⟨p.1, let ⟨Z2, ad2, b⟩ := p.2; ⟨Z2, ad2, a.trans b⟩⟩
 | ret d => exact E23 p fun Z2 v e S r =>  (I23 Z2 v e (a.stx.trans S a.own (fun u h => h.elim)) r)
theorem Own.mk_m (hlo : c.lo = 0) {i : Nat} {xs} (e : ρ[i]? = some (some (.m xs))) : Own c env ρ ad (ad i) := .inr (.inr (I23 i xs e (by rw [hlo]; exact Nat.zero_le _) rfl))
theorem zpL (hlo : c.lo = 0) (hO : Ok Ω Z s) (R : Rel c env Z s.heap ρ ad) {i : Nat} {xs : List PyData} (e : ρ[i]? = some (some (.m xs))) :
  ∃ Z', Adv Ω c env ρ ad Z s (ρ.set i (some (.d (.list xs)))) ad Z' s := by
 obtain ⟨vs, k, ho, r, hz⟩ := R.own i xs e
 obtain ⟨Z', h1, h2, h3⟩ := ziq Z (ad i) _ hz (zaL (by exact ho))
 have hrep : Rep Z' (.ref (ad i)) (.list xs) := zah.mpr (I33 _ vs k rfl h2 (r.mono h1))
 have hok : Ok Ω Z' s := ⟨fun b o eb => by
  by_cases hb : b = ad i
  ·subst hb; refine eqE (h2.symm.trans eb) ?_; exact ho
  ·rw [h3 b hb] at eb; exact hO.sub _ _ eb, hO.base.trans h1, hO.os, hO.gens⟩
 have off : ∀ b, b ≠ ad i -> Z.get? b = none -> Z'.get? b = none := fun b hb h => (h3 b hb).trans h
 obtain ⟨m, hns, hm⟩ := R.loc
 have hown := R.own i xs e
 have prep : ∀ j v pv, (ρ.set i (some (.d (.list xs))))[j]? = some (some pv) -> (∀ pv', ρ[j]? = some (some pv') -> ∃ v', v = v' /\ zc8 Z ad j v' pv') -> zc8 Z' ad j v pv := by
  intro j v pv q hv
  rcases zr q with ⟨rfl, rfl⟩ | ⟨hj, q⟩
  ·obtain ⟨v', e9, hp⟩ := hv _ e; refine rwE e9 ?_
   rw [hp]; exact hrep
  ·obtain ⟨v', e9, hp⟩ := hv _ q; refine rwE e9 ?_
   exact hp.mono h1
 refine ⟨Z', ⟨hok, h1, fun b o nb eb => ?_, fun u w y h => h, fun u w y h => h, Nat.le_refl _⟩, ?_, fun a o => .inl (zf8 o)⟩
 ·exact h3 b fun hb => nb (hb ▸ Own.mk_m hlo e)
 ·refine { R with loc := I12 m hns (fun x j pv hx q => ?_), cel := fun x k j hx hk => ?_, apL := off _ (Ne.symm (ziB hns hown)) R.apL, own := fun j ys q => ?_, ownInj := fun j k ys zs q q' => ?_, hi := fun j pv q => ?_ }
  ·rcases zr q with ⟨ej, rfl⟩ | ⟨hj, q'⟩
   ·obtain rfl := ej.symm
    obtain ⟨v, hv, hp⟩ := hm x _ _ hx e
    exact I12 v hv (by rw [hp]; exact hrep)
   ·obtain ⟨v, hv, hp⟩ := hm x _ _ hx q'
    exact I12 v hv (hp.mono h1)
  ·obtain ⟨ca, ov, a, hc, hz', hv⟩ := R.cel x k j hx hk
   refine I24 ca ov a hc (off _ (Ne.symm (zev hc hown)) hz') (fun pv q => ?_)
   rcases zr q with ⟨ej, rfl⟩ | ⟨hj, q'⟩
   ·obtain rfl := ej.symm
    obtain ⟨v, hv, hp⟩ := hv _ e
    exact I12 v hv (by rw [hp]; exact hrep)
   ·obtain ⟨v, hv, hp⟩ := hv _ q'
    exact I12 v hv (hp.mono h1)
  ·rcases zr q with ⟨_, q⟩ | ⟨hj, q⟩
   ·cases q
   ·obtain ⟨us, k', a, b, z⟩ := R.own j ys q
    exact I23 us k' a (b.mono h1) (off _ (fun e' => hj (R.ownInj j i ys xs q e e')) z)
  ·rcases zr q with ⟨_, q⟩ | ⟨_, q⟩
   ·cases q
   ·rcases zr q' with ⟨_, q'⟩ | ⟨_, q'⟩
    ·cases q'
    ·exact R.ownInj j k ys zs q q'
  ·refine Or.elim (zr q) (fun h9 => ?_) fun h9 => ?_
   ·obtain ⟨e90, _⟩ := h9; refine rwB e90.symm ?_
    exact R.hi _ _ e
   ·obtain ⟨_, q⟩ := h9
    exact R.hi _ _ q
theorem zgK (hlo : c.lo = 0) (S : Sv) : ∀ (fz : List Nat) {rest : List PS} {ρ : Rho} {r : Rho × Fl} {Z : Heap}, zA S (fz.map .frz ++ rest) ρ = some r -> Ok Ω Z s -> Rel c env Z s.heap ρ ad ->
  ∃ ρ' Z', Adv Ω c env ρ ad Z s ρ' ad Z' s /\ zA S rest ρ' = some r
 | [], rest, ρ, r, Z, h, hO, R => I22 ρ Z (Adv.refl hO R) h
 | i :: fz, rest, ρ, r, Z, h, hO, R => by
  refine zb h fun x hx h => ?_
  have hx : (match zdX ρ i with | some xs => some (ρ.set i (some (.d (.list xs))), Fl.next) | none => some (ρ, Fl.next)) = some x := hx
  induction e : zdX ρ i with
  | some xs =>
   rw [e] at hx
   cases hx
   refine cps fun G0 hG_0 => ?_
   obtain ⟨Z1, a1⟩ := zpL hlo hO R (zde e)
   obtain ⟨ρ2, Z2, a2, h2⟩ := zgK hlo S fz h a1.stx.ok a1.rel
   refine hG_0 ?_
   exact I22 ρ2 Z2 (a1.trans a2) h2
  | none =>
   have hx := e ▸ hx
   cases hx
   exact zgK hlo S fz h hO R
theorem zdH {i : Nat} {xs xs' : List PyData} {h' : Heap} {tk : Nat} (hlo : c.lo = 0) (hO : Ok Ω Z s) (R : Rel c env Z s.heap ρ ad) (e : ρ[i]? = some (some (.m xs))) (hs : Heap.SameBut (ad i) s.heap h')
  (ho : ∃ vs n, h'.get? (ad i) = some { cls := .type "list", data := .seq vs n } /\ zv Z vs.toList xs') : Adv Ω c env ρ ad Z s (ρ.set i (some (.m xs'))) ad Z { s with heap := h', toks := tk } := by
 obtain ⟨vs, k, ho', r⟩ := ho
 have hown := R.own i xs e
 have hz : Z.get? (ad i) = none := E23 hown fun u w y d z =>  z
 obtain ⟨m, hns, hm⟩ := R.loc
 have back : ∀ j pv, (ρ.set i (some (.m xs')))[j]? = some (some pv) -> ∃ pv', ρ[j]? = some (some pv') /\ ∀ v, zc8 Z ad j v pv' -> zc8 Z ad j v pv := by
  intro j pv q
  refine Or.elim (zr q) (fun h9 => ?_) fun h9 => ?_
  ·obtain ⟨e90, e91⟩ := h9; refine rwB e90.symm ?_; refine rwB e91.symm ?_
   exact I12 _ e (fun v h => h)
  ·obtain ⟨_, q⟩ := h9
   exact I12 _ q (fun v h => h)
 refine ⟨StX.write hO hz (Own.mk_m hlo e) hs, ?_, fun a o => .inl ?_⟩
 ·refine { R with loc := I12 m (hns.sameBut hs (Ne.symm (ziB hns hown))) (fun x j pv hx q => ?_), cel := fun x k j hx hk => ?_, own := fun j ys q => ?_, ownInj := fun j k ys zs q q' => ?_, hi := fun j pv q => ?_ }
  ·obtain ⟨pv', q', hp⟩ := back j pv q
   obtain ⟨v, hv, r⟩ := hm x j pv' hx q'
   exact I12 v hv (hp v r)
  ·obtain ⟨ca, ov, a, hc, hz', hv⟩ := R.cel x k j hx hk
   refine I24 ca ov a (hc.sameBut hs (Ne.symm (zev hc hown))) hz' (fun pv q => ?_)
   obtain ⟨pv', q', hp⟩ := back j pv q
   obtain ⟨v, hv, r⟩ := hv pv' q'
   exact I12 v hv (hp v r)
  ·rcases zr q with ⟨ej, q2⟩ | ⟨hj, q⟩
   ·refine rwE ej ?_
    injection q2 with q2
    refine rwE q2 ?_
    exact I23 vs k ho' r hz
   ·obtain ⟨us, k', a, b, z⟩ := R.own j ys q
    exact I23 us k' ((hs.2 _ (fun e' => hj (R.ownInj j i ys xs q e e'))).trans a) b z
  ·have mk : ∀ (j : Nat) (ys : List PyData), (ρ.set i (some (PV.m xs')))[j]? = some (some (PV.m ys)) -> ∃ ys' : List PyData, ρ[j]? = some (some (PV.m ys')) := by
    intro j ys q
    refine Or.elim (zr q) (fun h9 => ?_) fun h9 => ?_
    ·obtain ⟨e90, _⟩ := h9; refine rwB e90.symm ?_
     exact ⟨_, e⟩
    ·obtain ⟨_, q⟩ := h9
     exact ⟨_, q⟩
   obtain ⟨_, q⟩ := mk _ _ q
   obtain ⟨_, q'⟩ := mk _ _ q'
   exact R.ownInj j k _ _ q q'
  ·obtain ⟨pv', q', _⟩ := back j pv q
   exact R.hi _ _ q'
 ·rcases o with o | o | ⟨j, ys, q, hl, rfl⟩
  ·exact .inl o
  ·exact .inr (.inl o)
  ·refine Or.elim (zr q) (fun h9 => ?_) fun h9 => ?_
   ·obtain ⟨e90, _⟩ := h9; refine rwB e90.symm ?_
    exact Own.mk_m hlo e
   ·obtain ⟨_, q⟩ := h9
    exact .inr (.inr (I23 j ys q hl rfl))
theorem zjQ {C : Addr} {h' : Heap} (a : Adv Ω c env ρ ad Z s ρ' ad' Z' s') (hC : s.heap.get? C = none) (hz : Z'.get? C = none) (hf : ¬ zaw c env ρ' ad' C) (hs : Heap.SameBut C s'.heap h') :
  Adv Ω c env ρ ad Z s ρ' ad' Z' { s' with heap := h' } := by
 have S := StX.write (W := fun a => a = C) (GI := fun _ => False) (n := s'.toks) a.stx.ok hz rfl hs
 exact ⟨a.stx.trans S (fun x e => .inr (by refine rwE e ?_; exact hC)) (fun _ h => h.elim), a.rel.stX S (fun x fx e => hf (e ▸ fx)), a.own⟩
theorem zbT {C : Addr} (R : Rel c env Z s.heap ρ ad) (hC : s.heap.get? C = none) : ¬ zaw c env ρ ad C := fun h => by
 obtain ⟨⟨o, ho⟩, _⟩ := R.foot_live h
 exact za (hC.symm.trans ho)
theorem zbc {x : Str} {i : Nat} {v : Value} {d : PyData} (hs : zN c x = some i) (hO : Ok Ω Z s) (R : Rel c env Z s.heap ρ ad) (r : Rep Z v d) {Q : Unit -> Shared -> Prop} {E}
  (h : ∀ s', Adv Ω c env ρ ad Z s (ρ.set i (some (.d d))) ad Z s' -> Q () s') : wpAny Ω.m A (storeName env x v) Q E s :=
 zdj (GI := fun u => False) (ad' := ad) (pv := .d d) hs hO R (fun u w => rfl) r (fun xs e => nomatch e) fun s' S R' => h s' ⟨S, R', fun a o => .inl (zf8 o)⟩
theorem zpM {x : Str} {i : Nat} {a : Addr} {xs : List PyData} {vs : Array Value} {k : Nat} (hlo : c.lo = 0) {s_0 : Shared} {Z₀ : Heap} (T : Stp Ω Z₀ s_0 Z s) (hs : zN c x = some i) (R : Rel c env Z₀ s_0.heap ρ ad)
  (hn : s_0.heap.get? a = none) (hz : Z.get? a = none) (ho : s.heap.get? a = some { cls := .type "list", data := .seq vs k }) (r : zv Z vs.toList xs) {Q : Unit -> Shared -> Prop} {E}
  (h : ∀ s', Adv Ω c env ρ ad Z₀ s_0 (ρ.set i (some (.m xs))) (fun j => if j = i then a else ad j) Z s' -> Q () s') : wpAny Ω.m A (storeName env x (.ref a)) Q E s := by
 refine zdj (GI := fun u => False) (ad' := fun j => if j = i then a else ad j) (pv := .m xs) hs T.ok (R.stp T) (fun j hj => if_neg hj) (by show Value.ref a = .ref (if i = i then a else ad i); rw [if_pos rfl]) (fun ys e => ?_) fun s' S R_2 => h s' ?_
 ·cases e
  refine ⟨by rw [if_pos rfl]; exact I23 vs k ho r hz, fun j ys hj e => ?_⟩
  rw [if_pos rfl]
  intro e'
  obtain ⟨us, k', ho', _⟩ := R.own j ys e
  rw [e', hn] at ho'; exact za ho'
 ·refine ⟨T.x.trans S (fun a o => .inl o) (fun u h => h.elim), R_2, fun b o => ?_⟩
  rcases o with o | o | ⟨j, ys, q, hl, rfl⟩
  ·exact .inl (.inl o)
  ·exact .inl (.inr (.inl o))
  ·rcases zr q with ⟨rfl, _⟩ | ⟨hj, q⟩
   ·have e : (if j = j then a else ad j) = a := if_pos rfl
    show Own c env ρ ad (if j = j then a else ad j) \/ s_0.heap.get? (if j = j then a else ad j) = none
    rw [e]; exact .inr hn
   ·show Own c env ρ ad (if j = i then a else ad j) \/ s_0.heap.get? (if j = i then a else ad j) = none
    rw [(if_neg hj)]; exact .inl (.inr (.inr (I23 j ys q hl rfl)))
theorem zjR (x : Str) (p : Pos) (v : PySem.Expr) (pos : Pos) : exec (.Assign [.Name x p] v pos) env = (do
   standAt pos
   if <- swapsWith v (some (.Name x p)) pos.line env then
    evalThenUse v env (assign (.Name x p) env)
    return .next
   let v <- eval v env
   standAt p
   bindName env x v
   pure .next) := rfl
theorem zhV {x : Str} {p pos : Pos} {v : PySem.Expr} {Q : Flow -> Shared -> Prop} (hsw : swapsWith v (some (.Name x p)) pos.line env = pure false)
  (h : wpAny Ω.m A (eval v env) (fun u s_1 => wpAny Ω.m A (storeName env x u) (fun w s_2 => Q .next s_2) zc s_1) zc s) :
  wpAny Ω.m A (exec (.Assign [.Name x p] v pos) env) Q zc s := by
 rw [zjR, hsw]
 refine wB (wpAny_standAt ?_)
 show wpAny _ _ (eval v env >>= fun v => standAt p >>= fun w => bindName env x v >>= fun w => pure Flow.next) _ _ _
 exact wB (wpAny_mono h (fun u s_1 h_1 => wB (wpAny_standAt (wB (wpAny_bindName (wpAny_mono h_1 (fun w s_2 h_2 => wPu h_2) fun w y x => x))))) fun w y x => x)
theorem zjS {x : Str} {p pos : Pos} {v : PySem.Expr} {Q : Flow -> Shared -> Prop} (hsw : swapsWith v (some (.Name x p)) pos.line env = pure true)
  (h : wpAny Ω.m A (evalThenUse v env (assign (.Name x p) env)) (fun u s_2 => Q .next s_2) zc s) : wpAny Ω.m A (exec (.Assign [.Name x p] v pos) env) Q zc s := by
 rw [zjR, hsw]
 refine wB (wpAny_standAt ?_)
 show wpAny _ _ (evalThenUse v env (assign (.Name x p) env) >>= fun u => pure Flow.next) _ _ _
 exact wB (wpM h (fun u s_2 h_2 => wPu h_2))
noncomputable def zgL : PySem.Expr -> Bool
 | .ListComp .. => true
 | _ => false
set_option tactic.hygienic true in
theorem zfC {v : PySem.Expr} {pe : PE} (h : tr m c v = some pe) (hd : zcQ v = false) (x : Str) (p : Pos) (l : Nat) : swapsWith v (some (.Name x p)) l env = pure false \/ (zgL v = true /\ swapsWith v (some (.Name x p)) l env = pure true) := by
 cases v <;> first
  | exact .inl rfl
  | exact Bool.noConfusion hd
  | (induction m <;> exact za h)
  | skip
 rename_i elt gens sc pos
 rw [(show swapsWith (.ListComp elt gens sc pos) (some (.Name x p)) l env = pure (env.blockKind == .function && env.kindOf x == some .local && p.line == pos.line && !(sc.names.any fun (n, k) => n == x && (k == .local || k == .cell))) from rfl)]
 cases (env.blockKind == .function && env.kindOf x == some .local && p.line == pos.line && !(sc.names.any fun (n, k) => n == x && (k == .local || k == .cell)))
 ·exact .inl rfl
 ·exact .inr ⟨rfl, rfl⟩
end
section
variable (Ω : En) (Φ : Fs)
def zlG (S : Sv) (n : Nat) : Prop :=
 ∀ m c e pe ρ d, tr m c e = some pe -> zkI pe = true -> S.ex ρ pe = some d -> ∃ xs, d = .list xs /\ ∀ A env Z s ad, Rm A n -> GlC c Φ -> Ok Ω Z s -> Rel c env Z s.heap ρ ad ->
  wpAny Ω.m A (eval e env) (zeq Ω Z s xs) zc s
def zqW (S : Sv) (n : Nat) : Prop :=
 ∀ m c e pe ρ d, tr m c e = some pe -> zgL e = true -> S.ex ρ pe = some d -> ∃ xs, d = .list xs /\ ∀ A env Z s ad, Rm A n -> GlC c Φ -> Ok Ω Z s -> Rel c env Z s.heap ρ ad ->
  ∀ (u : Value -> Sem Unit) (Q : Shared -> Prop), (∀ (C D : Addr) (s' : Shared) (Z' : Heap), Stp Ω Z s Z' s' -> s.heap.get? C = none -> s.heap.get? D = none -> C ≠ D -> Z'.get? C = none -> Z'.get? D = none -> zhu D Z' s'.heap xs ->
   wpAny Ω.m A (u (.ref D)) (fun v s'' => (∀ o, s'.heap.get? C = some o -> s''.heap.get? C = some o) /\ ∀ h', Heap.SameBut C s''.heap h' -> Q { s'' with heap := h' }) zc s') ->
  wpAny Ω.m A (evalThenUse e env u) (fun v s' => Q s') zc s
structure zag (S : Sv) (n : Nat) : Prop extends Held Ω Φ S n where
 fresh : zlG Ω Φ S n
 use : zqW Ω Φ S n
end
section
variable {Ω : En} {A : Around} {Z Z' Z'' : Heap} {s s' s'' : Shared} {c : TC} {env : Env} {ρ ρ' ρ'' : Rho} {ad ad' ad'' : Nat -> Addr}
 {Φ : Fs} {S : Sv} {n m : Nat}
theorem zmq {x : PyData} {ds : List PyData} {y : PyData} (h : meD .split x ds = some y) : ∃ xs, y = .list xs := by
 match ds, h with
 | [], h => exact zb h fun u v h => ifE h fun u e => ⟨_, (Option.some.inj e).symm⟩
 | [_], h => exact zb h fun u v h => zb h fun u v h => ifE h fun u e => ⟨_, (Option.some.inj e).symm⟩
 | [_, _], h => exact za h
 | [_, _, _], h => exact za h
 | _ :: _ :: _ :: _ :: _, h => exact za h
theorem zmr (hO : Ok Ω Z s) {id T : String} {v : Value} {vs : List Value} {x : PyData} {ds xs : List PyData} (hid : zkC .split x = some (T, id)) (r : Rep Z v x) (rs : zv Z vs ds) (h : meD .split x ds = some (.list xs)) :
  wpAny Ω.m A (call (.builtin id) (v :: vs)) (zeq Ω Z s xs) zc s := by
 rw [zb1 (m := .split) hid]
 match ds, rs, h with
 | [], rs, h =>
  refine zb h fun t ht h => ifE h fun hl e => ?_
  cases e
  obtain ⟨u, e9⟩ := zd8 ht r; refine rwE e9 ?_
  rw [zaM.mp rs]
  exact zhJ hO hl
 | [d], rs, h =>
  refine zb h fun t ht h => zb h fun u hu h => ifE h fun hl e => ?_
  cases e
  obtain ⟨t', e9⟩ := zd8 ht r; refine rwE e9 ?_
  obtain ⟨v1, e9, r1⟩ := zdg rs; refine rwE e9 ?_
  obtain ⟨u', e9⟩ := zd8 hu r1; refine rwE e9 ?_
  exact zhI hO hl.1 hl.2
 | [_, _], rs, h => exact za h
 | [_, _, _], rs, h => exact za h
 | _ :: _ :: _ :: _ :: _, rs, h => exact za h
theorem zjT (IH : zaP Ω Φ S n (tr m)) (hA : Rm A n) (hG : GlC c Φ) {o : PySem.Expr} {k : Str} {apos pos} {args : List PySem.Expr} {pa : PE} {pes : List PE} {xs : List PyData}
  (hp : zbN o = true) (hl : (apos.endLine == pos.line) = true) (hn : args.length < 29) (hk : znn k = some .split) (h0 : tr m c o = some pa) (h1 : zC (tr m c) args = some pes)
  (hd : ((S.ex ρ pa).bind fun x => (exs S ρ pes).bind fun xs => meD .split x xs) = some (.list xs)) (hO : Ok Ω Z s) (hR : Rel c env Z s.heap ρ ad) :
  wpAny Ω.m A (eval (.Call (.Attribute o k apos) args [] pos) env) (zeq Ω Z s xs) zc s := by
 refine zb hd fun x hx hd => zb hd fun ds hds hd => ?_
 have hns := zb3 (env := env) pos h1
 refine wpAny_Call_method_lateS (zcB hp _) ?_ hl ?_
 ·have e1 : (backTo pos (starEach args env)).all (fun x => !x.1) = true := by
   rw [List.all_eq_not_any_not]; simp only [Bool.not_not, hns]; rfl
  rw [e1]
  exact decide_eq_true (Nat.lt_succ_of_lt hn)
 refine Pst.then (IH c o pa ρ x h0 hx A env Z s ad hA hG hO hR) fun v s_1 Z_1 S_1 r_1 => ?_
 obtain ⟨T, id, hid⟩ := znl hd
 rw [zlt hk]
 obtain ⟨q1, q2, q3, q4, q5⟩ := zlm Ω S_1.ok r_1 hid
 refine I26 T id q1 q2 q3 q4 q5 ?_
 refine Calls.callWith_builtin hns (z9 IH hA hG h1 hds S_1.ok (hR.stp S_1) fun vs s_2 Z_2 S_2 r_2 => ?_)
 exact wpM (zmr S_2.ok hid (r_1.mono S_2.f) r_2 hd) (fun _ _ p => zgw (S_1.trans S_2) p)
set_option tactic.hygienic true in
theorem zkU (H : Held Ω Φ S n) (tbl : Nat -> Option Fn) : zlG Ω Φ (step tbl S) (n + 1) := by
 intro m c e pe ρ d h hf hd
 induction m using Nat.casesOn with
 | zero => exact za h
 | succ m =>
  replace h := zbk h
  cases pe <;> first | exact Bool.noConfusion hf | skip
  ·refine zQ hd fun ds hds e => ?_
   exact I12 ds e.symm (fun A env Z s ad hA hG hO hR => zmp H (hA.le (Nat.le_succ n)) hG h hds hO hR)
  ·rename_i k a es
   induction k <;> first | exact Bool.noConfusion hf | skip
   refine zb hd fun x hx hd1 => zb hd1 fun ds hds hd1 => ?_
   obtain ⟨xs, e9⟩ := zmq hd1; subst e9
   refine I12 xs rfl (fun A env Z s ad hA hG hO hR => ?_)
   cases h with
   | me h1 h2 h3 hk ha hp => exact zjT (H.ex m) (hA.le (Nat.le_succ n)) hG h1 h2 h3 hk ha hp hd hO hR
  ·exact zff hd fun outs hout e hl => I12 outs e (fun A env Z s ad hA hG hO hR => zgJ H (hA.le (Nat.le_succ n)) hG h hout hl hO hR)
set_option tactic.hygienic true in
theorem zn1 (H : Held Ω Φ S n) (tbl : Nat -> Option Fn) : zqW Ω Φ (step tbl S) (n + 1) := by
 intro m c e pe ρ d h hl hd
 induction m using Nat.casesOn with
 | zero => exact za h
 | succ m =>
  have h2 := zbk h
  clear h
  induction h2 <;> first | exact Bool.noConfusion hl | skip
  rename_i h
  refine zff hd fun outs hout e hlen => ?_
  refine rwE e ?_
  refine I12 outs rfl (fun A env Z s ad hA' hG hO hR u Q hu => ?_)
  refine wB (wpM (zlD (H.ex m) (H.tst m) (hA'.le (Nat.le_succ n)) hG H.gl H.glg H.gok H.gd (use := some u) (Q := fun v s' => Q s') h.ctx h.tgt h.it h.ifs h.gs h.elt h.po h.nd hout hlen hO hR ?_) (fun v s' q => wPu q))
  intro C D s' Z' S' hC hD hCD hCz hDz _ ha
  exact hu C D s' Z' S' hC hD hCD hCz hDz ha
end
def zeC (Ω : En) (Φ : Fs) (S : Sv) (n : Nat) : Prop :=
 ∀ k c body pb ρ ρ' fl, trB k c body = some pb -> S.blk ρ pb = some (ρ', fl) -> c.lo = 0 -> ∀ A env Z s ad, Rm A n -> GlC c Φ -> Ok Ω Z s -> Rel c env Z s.heap ρ ad ->
  wpAny Ω.m A (execs body env) (zcs Ω c env ρ ad Z s ρ' fl) zc s
section
variable {Ω : En} {A : Around} {Z Z' Z'' : Heap} {s s' s'' : Shared} {c : TC} {env : Env} {ρ ρ' ρ'' : Rho} {ad ad' ad'' : Nat -> Addr} {fl : Fl}
 {Φ : Fs} {S : Sv} {n m : Nat}
theorem zeD (hlo : c.lo = 0) {a : Addr} (f : zaw c env ρ ad a) : Own c env ρ ad a := by
 rcases f with f | ⟨x, k, i, a1, a2, a3⟩ | ⟨i, xs, e, h⟩
 ·exact .inl f
 ·exact .inr (.inl (I34 x k i a1 a2 (by rw [hlo]; exact Nat.zero_le _) a3))
 ·exact .inr (.inr (I23 i xs e (by rw [hlo]; exact Nat.zero_le _) h))
theorem zrQ (H : zag Ω Φ S n) (hA : Rm A n) (hG : GlC c Φ) {e : PySem.Expr} {pe : PE} {pos : Pos} (he : tr 60 c e = some pe) (hd : zf S ρ (.ret pe) = some (ρ', fl))
  (hO : Ok Ω Z s) (hR : Rel c env Z s.heap ρ ad) : wpAny Ω.m A (exec (.Return (some e) pos) env) (zcs Ω c env ρ ad Z s ρ' fl) zc s := by
 refine zQ hd fun d hd' e => ?_
 cases e
 exact wpAny_Return_some (Pst.then (H.ex 60 c _ pe ρ d he hd' A env Z s ad hA hG hO hR) fun v s_1 Z_1 S_1 r => I23 Z_1 v rfl S_1.x r)
theorem zms (H : zag Ω Φ S n) (hA : Rm A n) (hG : GlC c Φ) {e : PySem.Expr} {pe : PE} {pos : Pos} (he : tr 60 c e = some pe) (hd : zf S ρ (.assert pe) = some (ρ', fl))
  (hO : Ok Ω Z s) (hR : Rel c env Z s.heap ρ ad) : wpAny Ω.m A (exec (.Assert e none pos) env) (zcs Ω c env ρ ad Z s ρ' fl) zc s := by
 refine zb hd fun b hb hd => zb hb fun d hd' hb => ifE hd fun hbt e => ?_
 refine zaE e ?_
 subst hbt
 exact wpAny_Assert_holds (za4.then (H.tst 60 c _ pe ρ d true he hd' hb A env Z s ad hA hG hO hR) fun s_1 Z_1 S_1 => ⟨rfl, rfl, Z_1, ad, Adv.ofStp S_1 hR⟩)
theorem zrR (hA : A.handled = none) (hO : Ok Ω Z s) {op : Operator} {a b : Int} {t u : Tok} {d : PyData} (ho : znf op = true) (hd : zav op (.int a) (.int b) = some d) :
  wpAny Ω.m A (inplaceOp op (.int a t) (.int b u)) (Pst Ω Z s d) zc s := by
 induction op <;> first | exact Bool.noConfusion ho | skip
 ·refine eqE hd ?_; exact PyProof.Rows.iadd_int (zt hO _ (zo.mpr ⟨_, rfl⟩))
 ·refine eqE hd ?_; exact PyProof.Rows.isub_int (zt hO _ (zo.mpr ⟨_, rfl⟩))
 ·exact ifE (c := 0 <= b /\ (zaI a : Int) + b <= 2 ^ 27) hd fun hc e => by refine eqE e ?_; exact PyProof.Rows.ilshift_int hc.1 hc.2 (zt hO _ (zo.mpr ⟨_, rfl⟩))
 ·exact ifE (c := 0 <= b) hd fun hc e => by refine eqE e ?_; exact PyProof.Rows.irshift_int hc (zt hO _ (zo.mpr ⟨_, rfl⟩))
 ·refine eqE hd ?_; exact PyProof.Rows.ior_int (zt hO _ (zo.mpr ⟨_, rfl⟩))
 ·refine eqE hd ?_; exact PyProof.Rows.ixor_int (zt hO _ (zo.mpr ⟨_, rfl⟩))
 ·refine eqE hd ?_; exact PyProof.Rows.iand_int (zt hO _ (zo.mpr ⟨_, rfl⟩))
theorem zaF (R : Rel c env Z s.heap ρ ad) {x : Str} {i : Nat} {pv : PV} {Q : Value -> Shared -> Prop} {E} (hs : zN c x = some i) (hp : ρ[i]? = some (some pv))
  (h : ∀ v, zc8 Z ad i v pv -> Q v s) : wpAny Ω.m A (loadName env x) Q E s := by
 obtain ⟨_, hk⟩ := zew hs
 have hn := R.names x
 rcases hk with hk | hk
 ·rw [hk] at hn
  refine cps fun G0 hG_0 => ?_
  obtain ⟨m, hns, hm⟩ := R.loc
  obtain ⟨v, hv, r⟩ := hm x i pv hk hp
  refine hG_0 ?_
  exact wpAny_loadName_local R.kind hn hns hv (h v r)
 ·rw [hk] at hn
  refine cps fun G0 hG_0 => ?_
  obtain ⟨a, ov, ha, hc, _, hv⟩ := R.cel x _ i hk (.inl rfl)
  obtain ⟨v, e9, r⟩ := hv pv hp; obtain rfl := e9.symm
  refine hG_0 ?_
  exact wpAny_loadName_cell R.kind hn ha hc (h v r)
theorem zrS (H : zag Ω Φ S n) (hA : Rm A n) (hG : GlC c Φ) {x : Str} {i : Nat} {op : Operator} {e : PySem.Expr} {pe : PE} {p pos : Pos} (hi : zN c x = some i) (he : tr 60 c e = some pe) (hd : zf S ρ (.aug i op pe) = some (ρ', fl))
  (hO : Ok Ω Z s) (hR : Rel c env Z s.heap ρ ad) : wpAny Ω.m A (exec (.AugAssign (.Name x p) op e pos) env) (zcs Ω c env ρ ad Z s ρ' fl) zc s := by
 refine zb hd fun a hp hd => zb hd fun y hy hd => zb hd fun b hyb hd => ifE hd fun ho hd => zQ hd fun d hb e' => ?_
 cases e'
 refine wpAny_AugAssign_Name (zaF hR hi (zng hp) fun v r => ?_)
 obtain ⟨t, e9⟩ := zo.mp (show Rep Z v (.int a) from r); refine rwE e9 ?_
 refine Pst.then (H.ex 60 c e pe ρ _ he hy A env Z s ad hA hG hO hR) fun u s_1 Z_1 S_1 r_1 => ?_
 refine zgj hyb r_1 fun t' => ?_
 exact Pst.then (zrR hA.handled S_1.ok ho hb) fun u s_2 Z_2 S_2 r_2 => zbc hi S_2.ok ((hR.stp S_1).stp S_2) r_2 fun s_3 a_3 => ⟨rfl, Z_2, ad, (Adv.ofStp (S_1.trans S_2) hR).trans a_3⟩
theorem ztF (H : zag Ω Φ S n) (HB : zeC Ω Φ S n) (hA : Rm A n) (hG : GlC c Φ) (hlo : c.lo = 0) {k : Nat} {t : PySem.Expr} {a b : List Stmt} {pt : PE} {pa pb : List PS} {pos : Pos}
  (ht : tr 60 c t = some pt) (ha : trB k c a = some pa) (hb : trB k c b = some pb) (hd : zf S ρ (.iff pt pa pb) = some (ρ', fl))
  (hO : Ok Ω Z s) (hR : Rel c env Z s.heap ρ ad) : wpAny Ω.m A (exec (.If t a b pos) env) (zcs Ω c env ρ ad Z s ρ' fl) zc s := by
 refine zb hd fun cb hc hd => zb hc fun y hy hc => ?_
 refine wpAny_If (za4.then (H.tst 60 c _ pt ρ y cb ht hy hc A env Z s ad hA hG hO hR) fun s_1 Z_1 S_1 => ?_)
 have a_1 := Adv.ofStp (c := c) (env := env) S_1 hR
 induction cb with
 | true => exact wpM (HB k c a pa ρ ρ' fl ha hd hlo A env Z_1 s_1 ad hA hG S_1.ok (hR.stp S_1)) (fun f s_2 p => zbl a_1 p)
 | false => exact wpM (HB k c b pb ρ ρ' fl hb hd hlo A env Z_1 s_1 ad hA hG S_1.ok (hR.stp S_1)) (fun f s_2 p => zbl a_1 p)
theorem zrT (H : zag Ω Φ S n) (HB : zeC Ω Φ S n) (hA : Rm A n) (hG : GlC c Φ) (hlo : c.lo = 0) {k : Nat} {target it : PySem.Expr} {a b : List Stmt} {t : Tgt} {pit : PE} {pa pb : List PS} {pos : Pos}
  (ht : trT c 9 target = some t) (hit : zea (tr 60) c it = some pit) (ha : trB k c a = some pa) (hb : trB k c b = some pb) (hpo : zbC pit t = true) (hd : zf S ρ (.for_ t pit pa pb) = some (ρ', fl))
  (hO : Ok Ω Z s) (hR : Rel c env Z s.heap ρ ad) : wpAny Ω.m A (exec (.For target it a b pos) env) (zcs Ω c env ρ ad Z s ρ' fl) zc s := by
 refine zb hd fun xs hxs hd => ?_
 refine wpAny_For ?_ (fun x => zdF (zdl hit) x)
 refine wpAny_mono (znN (H.ex 60) hA hG H.gl H.glg H.gok H.gd hit hxs hO hR) (fun x s_1 p => wpAny_mono p (fun iv s_2 p => ?_) fun u w x => x) fun u w x => x
 refine cps fun G0 hG_0 => ?_
 obtain ⟨fp, wr, GI, St, Mid, Z_2, S_2, M, hst, hw, hg, hf⟩ := p
 refine hG_0 ?_
 have hfp : ∀ b ∈ fp, ¬ Own c env ρ ad b := by
  intro b hb hF
  obtain ⟨⟨o, ho⟩, hz⟩ := hR.foot_live hF.foot
  rcases hf b hb with h | ⟨o', h⟩
  ·exact za (h.symm.trans ho)
  ·exact za (hz.symm.trans ((S_2.new _ _ ho).symm.trans h))
 refine codeAny_mono (codeAny_forLoop_any (R := fun r s' => ∃ f, r = .ok f /\ zcs Ω c env ρ ad Z s ρ' fl f s')
  (fun j s' => ∃ fp1 wr1 ys ρ1 ad1 Z1, j = ys.length /\ zbZ S t pa pb ys ρ1 = some (ρ', fl) /\ Adv Ω c env ρ ad Z s ρ1 ad1 Z1 s' /\ St fp1 wr1 ys Z1 s' /\ (∀ b ∈ fp1, ¬ Own c env ρ1 ad1 b) /\ ∀ b ∈ wr1, Own c env ρ ad b \/ s.heap.get? b = none) ?_ xs.length
   ⟨fp, wr, xs, ρ, ad, Z_2, rfl, hd, (Adv.ofStp (c := c) (env := env) S_2 hR), hst, hfp, fun b hb => .inr (hw b hb)⟩) ?_
 ·intro j s_1 h9; obtain ⟨fp1, wr1, ys, ρ1, ad1, Z1, rfl, hl, a1, hst1, hfp1, hwr1⟩ := h9
  have wrF : ∀ a, zaw c env ρ1 ad1 a -> ¬ a ∈ wr1 := fun a fa ha => hfp1 a (M.sub _ _ _ _ _ hst1 a ha) (zeD hlo fa)
  have adv_it : ∀ {s_3 : Shared} {Z3 : Heap} {s_4 : Shared} {Z4 : Heap} {wr2 : List Addr}, Adv Ω c env ρ ad Z s ρ1 ad1 Z3 s_3 -> StX (· ∈ wr2) GI Ω Z3 s_3 Z4 s_4 -> (∀ a, zaw c env ρ1 ad1 a -> ¬ a ∈ wr2) -> (∀ b ∈ wr2, Own c env ρ ad b \/ s.heap.get? b = none) -> Adv Ω c env ρ ad Z s ρ1 ad1 Z4 s_4 := fun a S' hF hW =>
   ⟨a.stx.trans S' (fun x hx => hW x hx) (fun i gi => .inr (hg i gi)), a.rel.stX S' hF, a.own⟩
  induction ys using List.casesOn with
  | nil =>
   refine wpAny_mono (M.done _ _ Z1 s_1 hst1 a1.stx.ok) (fun r s_3 p => ?_) fun u w x => x.elim
   obtain ⟨rfl, Z3, S3⟩ := p
   have a3 := adv_it a1 S3 wrF hwr1
   exact wpAny_mono (HB k c b pb ρ1 ρ' fl hb hl hlo A env Z3 s_3 ad1 hA hG a3.stx.ok a3.rel) (fun f s_4 p => I12 f rfl (zbl a3 p)) fun u w x => x.elim
  | cons y ys =>
   refine zb hl fun ρ2 hbind hl => ?_
   obtain ⟨⟨ρ3, f3⟩, hblk, hl⟩ := Option.bind_eq_some_iff.mp hl
   refine wpAny_mono (M.next _ _ y ys Z1 s_1 hst1 a1.stx.ok) (fun r s_3 p => ?_) fun u w x => x.elim
   obtain ⟨v, Z3, fp2, wr2, e9, S3, rv, hmid, hf2, hw2⟩ := p; refine rwE e9 ?_
   have a3 := adv_it a1 S3 wrF hwr1
   have hfp2' : ∀ b ∈ fp2, ¬ Own c env ρ1 ad1 b := by
    intro b hb hF
    refine Or.elim (hf2 b hb) (fun h => ?_) fun h => ?_
    ·exact hfp1 b h hF
    ·obtain ⟨⟨o, ho⟩, _⟩ := a1.rel.foot_live hF.foot
     exact za (h.symm.trans ho)
   have hwr2 : ∀ b ∈ wr2, Own c env ρ ad b \/ s.heap.get? b = none := by
    intro b hb
    refine Or.elim ((hw2 b hb).2) (fun h => ?_) fun h => ?_
    ·exact hwr1 b h
    ·rcases Classical.em (Own c env ρ ad b) with q | q
     ·exact .inl q
     ·induction e : s.heap.get? b with
      | none => exact .inr rfl
      | some o => cases (a1.stx.h b o q e).symm.trans h
   refine wpAny_mono (M.go _ _ target v ys Z3 s_3 hmid a3.stx.ok (fun h => zef ht hpo h)) (fun u s_4 p => ?_) fun u w x => x.elim
   obtain (⟨S4, hst4⟩) := p
   have a4 : Adv Ω c env ρ ad Z s ρ1 ad1 Z3 s_4 := adv_it a3 S4 (fun a fa ha => hfp2' a (hw2 a ha).1 (zeD hlo fa)) hwr2
   refine wpAny_mono (zbS (GI := fun u => False) hA.handled 9 target t ht y v ρ1 ρ2 s_4 Z3 hbind a4.stx.ok a4.rel rv) (fun u s_5 p => ?_) fun u w x => x.elim
   have hst5 : St fp2 wr2 ys Z3 s_5 := M.frame _ _ _ _ _ _ _ _ _ hst4 p.1 (fun b hb h => hfp2' b hb h) (fun u w h => h)
   have hfp2 : ∀ b ∈ fp2, ¬ Own c env ρ2 ad1 b := fun b hb h => hfp2' b hb (zbR hbind h)
   have a45 := a4.trans ⟨p.1, p.2, fun a o => .inl (zbR hbind o)⟩
   refine wpAny_mono (HB k c a pa ρ2 ρ3 f3 ha hblk hlo A env Z3 s_5 ad1 hA hG p.1.ok p.2) (fun f s_6 p => ?_) fun u w x => x.elim
   induction f3 with
   | next =>
    obtain ⟨rfl, Z6, ad6, a6⟩ := p
    refine ⟨ys.length, Nat.lt_succ_self _, fp2, wr2, ys, ρ3, ad6, Z6, rfl, hl, a45.trans a6, M.frame _ _ _ _ _ _ _ _ _ hst5 a6.stx hfp2 (fun u w h => h), fun b hb h => ?_, hwr2⟩
    refine Or.elim (a6.own b h) (fun h => ?_) fun h => ?_
    ·exact hfp2 b hb h
    ·obtain ⟨o, ho⟩ := (M.live _ _ _ _ _ hst5).1 b hb
     exact za (h.symm.trans ho)
   | brk =>
    obtain ⟨rfl, Z6, ad6, a6⟩ := p
    refine zaE hl ?_
    exact ⟨.next, rfl, rfl, Z6, ad6, a45.trans a6⟩
   | ret d =>
    refine zaE hl ?_
    refine cps fun G0 hG_0 => ?_
    obtain ⟨Z6, v', e9, S6, r6⟩ := p; obtain rfl := e9.symm
    refine hG_0 ?_
    exact I12 (.ret v') rfl (zbl a45 (I23 Z6 v' rfl S6 r6))
 ·intro r s' h9; obtain ⟨f, rfl, h⟩ := h9
  exact h
theorem Adv.cons (a : Adv Ω c env ρ ad Z s ρ' ad' Z' s') (S : StX (Own c env ρ' ad') (fun u => False) Ω Z' s' Z'' s'') (R : Rel c env Z'' s''.heap ρ'' ad'') (h : ∀ b, Own c env ρ'' ad'' b -> Own c env ρ' ad' b \/ s.heap.get? b = none) :
  Adv Ω c env ρ ad Z s ρ'' ad'' Z'' s'' :=
 ⟨a.stx.trans S a.own (fun u h => h.elim), R, fun b o => (h b o).elim (a.own b) .inr⟩
noncomputable def zhW (ad : Nat -> Addr) (i : Nat) (a : Addr) : Nat -> Addr := fun j => if j = i then a else ad j
theorem zhX {x : Str} {i : Nat} {a : Addr} {xs : List PyData} {vs : Array Value} {k : Nat} (hO : Ok Ω Z s) (hs : zN c x = some i) (R : Rel c env Z s.heap ρ ad)
  (hf : ¬ zaw c env ρ ad a) (hz : Z.get? a = none) (ho : s.heap.get? a = some { cls := .type "list", data := .seq vs k }) (r : zv Z vs.toList xs) {Q : Unit -> Shared -> Prop} {E}
  (h : ∀ s', StX (Own c env ρ ad) (fun u => False) Ω Z s Z s' -> Rel c env Z s'.heap (ρ.set i (some (.m xs))) (zhW ad i a) -> (∀ b, Own c env (ρ.set i (some (.m xs))) (zhW ad i a) b -> Own c env ρ ad b \/ b = a) -> Q () s') :
  wpAny Ω.m A (storeName env x (.ref a)) Q E s := by
 have e1 : zhW ad i a i = a := if_pos rfl
 refine zdj (GI := fun u => False) (ad' := zhW ad i a) (pv := .m xs) hs hO R (fun j hj => if_neg hj) (by show Value.ref a = .ref (zhW ad i a i); rw [e1]) (fun ys e => ?_) fun s' S R_2 => h s' S R_2 fun b o => ?_
 ·cases e
  rw [e1]
  refine ⟨(I23 vs k ho r hz), fun j ys hj e e' => hf ?_⟩
  exact .inr (.inr (I22 j ys e e'.symm))
 ·rcases o with o | o | ⟨j, ys, q, hl, e⟩
  ·exact .inl (.inl o)
  ·exact .inl (.inr (.inl o))
  ·rcases zr q with ⟨ej, _⟩ | ⟨hj, q⟩
   ·obtain rfl := ej.symm; rw [e1] at e; exact .inr e
   ·rw [(show zhW ad i a j = ad j from if_neg hj)] at e
    exact .inl (.inr (.inr (I23 j ys q hl e)))
theorem zrU (H : zag Ω Φ S n) (hA : Rm A n) (hG : GlC c Φ) (hlo : c.lo = 0) {x : Str} {i : Nat} {v : PySem.Expr} {pe : PE} {p pos : Pos} (hdc : zcQ v = false) (hi : zN c x = some i) (he : tr 60 c v = some pe)
  (hd : zf S ρ (.asg (.v i) pe) = some (ρ', fl)) (hO : Ok Ω Z s) (hR : Rel c env Z s.heap ρ ad) : wpAny Ω.m A (exec (.Assign [.Name x p] v pos) env) (zcs Ω c env ρ ad Z s ρ' fl) zc s := by
 refine zb hd fun d hd' hd => ?_
 refine zaE hd ?_
 rcases zfC he hdc x p pos.line (env := env) with hsw | ⟨hlc, hsw⟩
 ·refine zhV hsw (Pst.then (H.ex 60 c v pe ρ d he hd' A env Z s ad hA hG hO hR) fun u s_1 Z_1 S_1 r => ?_)
  exact zbc hi S_1.ok (hR.stp S_1) r fun s_2 a_2 => ⟨rfl, Z_1, ad, (Adv.ofStp S_1 hR).trans a_2⟩
 ·obtain ⟨xs, e9, hu⟩ := H.use 60 c v pe ρ d he hlc hd'; refine rwE e9 ?_
  refine zjS hsw (wpM (hu A env Z s ad hA hG hO hR (assign (.Name x p) env) (fun s' => zcs Ω c env ρ ad Z s (ρ.set i (some (.d (.list xs)))) .next .next s') ?_) (fun w s' q => q))
  intro C D s' Z' S' hC hD hCD hCz hDz ha
  obtain ⟨vs, k, ho, r⟩ := ha
  obtain ⟨Z2, S2, hz2, f2, off⟩ := (S'.x (W := fun w => False) (GI := fun w => False)).freezeNew (a := D) hD hDz ho
  have S2 := S2.stp
  refine wpAny_assign_Name (zbc hi S2.ok (hR.stp S2) (zah.mpr (I33 D vs k rfl hz2 (r.mono f2))) fun s_2 a_2 => ⟨fun o ho => a_2.stx.h C o (fun q => zbT hR hC q.foot) ho, fun h' hs => ?_⟩)
  exact ⟨rfl, Z2, ad, zjQ ((Adv.ofStp S2 hR).trans a_2) hC ((off C hCD).trans hCz) (fun q => zbT hR hC (zf8 (zeD hlo q)).foot) hs⟩
theorem zpN (H : zag Ω Φ S n) (hA : Rm A n) (hG : GlC c Φ) (hlo : c.lo = 0) {x : Str} {i : Nat} {v : PySem.Expr} {pe : PE} {p pos : Pos} (hdc : zcQ v = false) (hi : zN c x = some i) (he : tr 60 c v = some pe) (hfr : zkI pe = true)
  (hd : zf S ρ (.asgM i pe) = some (ρ', fl)) (hO : Ok Ω Z s) (hR : Rel c env Z s.heap ρ ad) : wpAny Ω.m A (exec (.Assign [.Name x p] v pos) env) (zcs Ω c env ρ ad Z s ρ' fl) zc s := by
 refine zb hd fun d hd' hd => ?_
 rcases zfC he hdc x p pos.line (env := env) with hsw | ⟨hlc, hsw⟩
 ·obtain ⟨xs, e9, hF⟩ := H.fresh 60 c v pe ρ d he hfr hd'; obtain rfl := e9.symm
  refine zaE hd ?_
  refine zhV hsw (wpM (hF A env Z s ad hA hG hO hR) (fun u s_1 q => ?_))
  refine cps fun G0 hG_0 => ?_
  obtain ⟨Z1, a, vs, k, S1, e9, h1, h2, h3, r⟩ := q; obtain rfl := e9.symm
  refine hG_0 ?_
  exact zhX S1.ok hi (hR.stp S1) (fun q => zbT hR h1 q) h2 h3 r fun s_2 S2 R2 ho => ⟨rfl, Z1, _, (Adv.ofStp S1 hR).cons S2 R2 fun b o => (ho b o).imp id fun e => by refine rwE e ?_; exact h1⟩
 ·obtain ⟨xs, e9, hu⟩ := H.use 60 c v pe ρ d he hlc hd'; obtain rfl := e9.symm
  refine zaE hd ?_
  refine zjS hsw (wpM (hu A env Z s ad hA hG hO hR (assign (.Name x p) env) (fun s' => zcs Ω c env ρ ad Z s (ρ.set i (some (.m xs))) .next .next s') ?_) (fun w s' q => q))
  intro C D s' Z' S' hC hD hCD hCz hDz ha
  obtain ⟨vs, k, ho, r⟩ := ha
  refine wpAny_assign_Name (zhX S'.ok hi (hR.stp S') (fun q => zbT hR hD q) hDz ho r fun s_2 S2 R2 hown => ⟨fun o ho => S2.h C o (fun q => zbT hR hC q.foot) ho, fun h' hs => ?_⟩)
  refine ⟨rfl, Z', _, zjQ ((Adv.ofStp S' hR).cons S2 R2 fun b o => (hown b o).imp id fun e => by refine rwE e ?_; exact hD) hC hCz (fun q => ?_) hs⟩
  refine Or.elim (hown C (zeD hlo q)) (fun q => ?_) fun q => ?_
  ·exact zbT hR hC q.foot
  ·exact hCD q
noncomputable def ziL : PySem.Expr -> Bool
 | .Tuple .. => true
 | _ => false
theorem zhY {ts : List PySem.Expr} {k : Nat} {p : Pos} {v : PySem.Expr} {pos : Pos} {Q : Flow -> Shared -> Prop}
  (h : wpAny Ω.m A (eval v env) (fun u s_1 => wpAny Ω.m A (swappedStores [.Tuple ts k p] v env) (fun sw s_2 => wpAny Ω.m A (assignStores env u sw [assign (.Tuple ts k p) env]) Q zc s_2) zc s_1) zc s) :
  wpAny Ω.m A (exec (.Assign [.Tuple ts k p] v pos) env) Q zc s := by
 have hsw : swapsWithSole [.Tuple ts k p] v pos.line env = pure false := by cases v <;> rfl
 show wpAny _ _ (do
  standAt pos
  if <- swapsWithSole [.Tuple ts k p] v pos.line env then do
   evalThenUse v env fun v => assignAll v ((assignEach [.Tuple ts k p] env).map (·.2))
   pure .next
  else do
   let u <- eval v env
   assignStores env u (<- swappedStores [.Tuple ts k p] v env) ((assignEach [.Tuple ts k p] env).map (·.2))) _ _ _
 rw [hsw]
 refine wB (wpAny_standAt ?_)
 show wpAny _ _ (eval v env >>= fun u => swappedStores [.Tuple ts k p] v env >>= fun sw => assignStores env u sw [assign (.Tuple ts k p) env]) _ _ _
 exact wB (wpM h (fun u s_1 h_1 => wB h_1))
theorem ziM {ts : List PySem.Expr} {k : Nat} {p : Pos} {v : PySem.Expr} (h : ziL v = false) : swappedStores [.Tuple ts k p] v env = pure none := by
 cases v <;> first | rfl | (exact Bool.noConfusion h)
theorem zpO (H : zag Ω Φ S n) (hA : Rm A n) (hG : GlC c Φ) {ts : List PySem.Expr} {k : Nat} {t : Tgt} {v : PySem.Expr} {pe : PE} {p pos : Pos} (hnt : ziL v = false) (ht : trT c 9 (.Tuple ts k p) = some t) (he : tr 60 c v = some pe)
  (hd : zf S ρ (.asg t pe) = some (ρ', fl)) (hO : Ok Ω Z s) (hR : Rel c env Z s.heap ρ ad) : wpAny Ω.m A (exec (.Assign [.Tuple ts k p] v pos) env) (zcs Ω c env ρ ad Z s ρ' fl) zc s := by
 refine zb hd fun d hd' hd => ?_
 obtain ⟨ρ1, hb, e⟩ := Option.map_eq_some_iff.mp hd
 cases e
 refine zhY (Pst.then (H.ex 60 c v pe ρ d he hd' A env Z s ad hA hG hO hR) fun u s_1 Z_1 S_1 r => ?_)
 rw [ziM hnt]
 refine wPu ?_
 show wpAny _ _ (do assign (.Tuple ts k p) env u; pure Flow.next) _ _ _
 refine wB (wpM (zbS (GI := fun w => False) hA.handled 9 _ t ht d u ρ _ s_1 Z_1 hb S_1.ok (hR.stp S_1) r) (fun w s_2 q => wPu ?_))
 exact ⟨rfl, Z_1, ad, (Adv.ofStp S_1 hR).trans ⟨q.1, q.2, fun a o => .inl (zbR hb o)⟩⟩
theorem zfg {x : Str} {i : Nat} {xs : List PyData} {k : Str} {p apos pos pos' : Pos} {args : List PySem.Expr} {id : String} {Q : Flow -> Shared -> Prop} (hl : (apos.endLine == pos.line) = true) (hn : args.length < 29)
  (hns : (backTo pos (starEach args env)).any (·.1) = false)
  (hx : (x == ("__debug__" : Str)) = false) (hi : zN c x = some i) (hp : ρ[i]? = some (some (.m xs))) (hR : Rel c env Z s.heap ρ ad) (hmod : env.scope.kind = .function)
  (hs : Slot "list" k id) (ht : typeOf (.builtin id) = pure (.type "method_descriptor"))
  (h : wpAny Ω.m A (callWith pos (.builtin id) [.ref (ad i)] (backTo pos (starEach args env)) []) (fun u => Q .next) zc s) :
  wpAny Ω.m A (exec (.Expr (.Call (.Attribute (.Name x p) k apos) args [] pos) pos') env) Q zc s := by
 obtain ⟨vs, n', ho, r, hz⟩ := hR.own i xs hp
 refine wpAny_Expr_any (wpAny_Call_method_lateS rfl ?_ hl ?_) (by unfold interactive; rw [hmod]; rfl) rfl
 ·have e1 : (backTo pos (starEach args env)).all (fun x => !x.1) = true := by
   rw [List.all_eq_not_any_not]; simp only [Bool.not_not, hns]; rfl
  rw [e1]
  exact decide_eq_true (Nat.lt_succ_of_lt hn)
 refine wpAny_Name (zaF hR hi hp fun v e => ?_) hx
 refine rwE e ?_
 exact I26 "list" id F.plainAttrs_list hs ht (I12 _ ho rfl) (fun a e => by cases e; exact I12 _ ho rfl) h
theorem ziN {a : Addr} {f : Array Value -> Array Value} {h : Heap} : Heap.SameBut a h (h.update a (Obj.mapSeq f)) := Heap.SameBut.update ..
theorem ziO {a : Addr} {f : Array Value -> Array Value} {h : Heap} {vs : Array Value} {k : Nat} (ho : h.get? a = some { cls := .type "list", data := .seq vs k }) : ∃ k', (h.update a (Obj.mapSeq f)).get? a = some { cls := .type "list", data := .seq (f vs) k' } :=
 ⟨_, IsL.update (n := k) ho _⟩
theorem zeE {pos : Pos} {a : PySem.Expr} {pa : PE} (ha : tr m c a = some pa) : backTo pos (starEach [a] env) = [(false, eval a env)] := by
 rw [z7 (zaQ ha)]; rfl
theorem zrV (H : zag Ω Φ S n) (hA : Rm A n) (hG : GlC c Φ) (hlo : c.lo = 0) {x : Str} {i : Nat} {a : PySem.Expr} {pe : PE} {p apos pos pos' : Pos} (hl : (apos.endLine == pos.line) = true) (hx : (x == ("__debug__" : Str)) = false)
  (hi : zN c x = some i) (he : tr 60 c a = some pe) (hd : zf S ρ (.app i pe) = some (ρ', fl)) (hO : Ok Ω Z s) (hR : Rel c env Z s.heap ρ ad) :
  wpAny Ω.m A (exec (.Expr (.Call (.Attribute (.Name x p) "append" apos) [a] [] pos) pos') env) (zcs Ω c env ρ ad Z s ρ' fl) zc s := by
 refine zb hd fun xs hp hd => zb hd fun d hd' hd => ifE hd fun hsz e => zaE e ?_
 have hp := zde hp
 refine zfg (id := "list.append") hl (by show (1 : Nat) < 29; simp) (by rw [zeE he]; rfl) hx hi hp hR hR.kind F.slot_list_append F.type_list_append ?_
 rw [zeE he]
 refine P.append_list (Pst.then (H.ex 60 c a pe ρ d he hd' A env Z s ad hA hG hO hR) fun v s_1 Z_1 S_1 r_1 => ?_)
 have R1 := hR.stp S_1
 obtain ⟨vs, k, ho, r, hz⟩ := R1.own i xs hp
 obtain ⟨k', ho'⟩ := ziO (f := fun xs => xs.push v) ho
 refine ⟨vs, k, by rw [zp r]; exact nle hsz (by decide), ho, rfl, Z_1, ad, (Adv.ofStp S_1 hR).trans (zdH (tk := s_1.toks) hlo S_1.ok R1 hp ziN (I22 _ k' ho' ?_))⟩
 rw [Array.toList_push]; exact r.append (.one r_1)
theorem zrW (H : zag Ω Φ S n) (hA : Rm A n) (hG : GlC c Φ) (hlo : c.lo = 0) {x : Str} {i : Nat} {a : PySem.Expr} {pe : PE} {p apos pos pos' : Pos} (hl : (apos.endLine == pos.line) = true) (hx : (x == ("__debug__" : Str)) = false)
  (hi : zN c x = some i) (he : tr 60 c a = some pe) (hd : zf S ρ (.ext i pe) = some (ρ', fl)) (hO : Ok Ω Z s) (hR : Rel c env Z s.heap ρ ad) :
  wpAny Ω.m A (exec (.Expr (.Call (.Attribute (.Name x p) "extend" apos) [a] [] pos) pos') env) (zcs Ω c env ρ ad Z s ρ' fl) zc s := by
 refine zb hd fun xs hp hd => zb hd fun d hd' hd => zb hd fun ys hy hd => ifE hd fun hsz e => zaE e ?_
 have hp := zde hp
 rw [zen hy] at hd'
 refine zfg (id := "list.extend") hl (by show (1 : Nat) < 29; simp) (by rw [zeE he]; rfl) hx hi hp hR hR.kind F.slot_list_extend F.type_list_extend ?_
 rw [zeE he]
 refine P.extend_list (Pst.then (H.ex 60 c a pe ρ _ he hd' A env Z s ad hA hG hO hR) fun v s_1 Z_1 S_1 r_1 => ?_)
 have R1 := hR.stp S_1
 refine cps fun G0 hG_0 => ?_
 obtain ⟨vs, k, ho, r, hz⟩ := R1.own i xs hp
 obtain ⟨b, us, kb, e9, eb, rb⟩ := zah.mp r_1; obtain rfl := e9.symm
 obtain ⟨k', ho'⟩ := ziO (f := fun xs => xs ++ us) ho
 refine hG_0 ?_
 have e2 := zp rb
 have hs' : vs.size + us.size <= big := by rw [(zp r), e2]; exact hsz
 have hbig : big <= sizeLine := by decide
 refine ⟨b, vs, us, k, kb, by lia, by lia, ?_, rfl, ho, S_1.ok.sub _ _ eb, rfl, Z_1, ad, (Adv.ofStp S_1 hR).trans (zdH (tk := s_1.toks) hlo S_1.ok R1 hp ziN (I22 _ k' ho' ?_))⟩
 ·simp [(show Builtin.List.listTooLong (vs.size + us.size) = false from decide_eq_false (Nat.not_lt.mpr (nle hs' (by decide))))]
 ·rw [Array.toList_append]; exact r.append rb
theorem zrX (hA : Rm A n) (hlo : c.lo = 0) {x : Str} {i : Nat} {p apos pos pos' : Pos} (hl : (apos.endLine == pos.line) = true) (hx : (x == ("__debug__" : Str)) = false)
  (hi : zN c x = some i) (hd : zf S ρ (.revs i) = some (ρ', fl)) (hO : Ok Ω Z s) (hR : Rel c env Z s.heap ρ ad) :
  wpAny Ω.m A (exec (.Expr (.Call (.Attribute (.Name x p) "reverse" apos) [] [] pos) pos') env) (zcs Ω c env ρ ad Z s ρ' fl) zc s := by
 refine zb hd fun xs hp hd => ifE hd fun hsz e => zaE e ?_
 have hp := zde hp
 refine zfg (id := "list.reverse") hl (by simp) rfl hx hi hp hR hR.kind F.slot_list_reverse F.type_list_reverse ?_
 obtain ⟨vs, k, ho, r, hz⟩ := hR.own i xs hp
 obtain ⟨k', ho'⟩ := ziO (f := fun xs => xs.reverse) ho
 refine P.reverse_list (items := vs) (n := k) ho ⟨rfl, Z, ad, zdH (tk := s.toks) hlo hO hR hp ziN (I22 _ k' ho' ?_)⟩ (by rw [zp r]; exact nle hsz (by decide))
 rw [Array.toList_reverse]; exact r.reverse
theorem zgM : ∀ {xs : List PyData} {vs : List Value} {j : Nat}, zv Z vs xs -> zv Z (vs.eraseIdx j) (xs.eraseIdx j)
 | [], vs, j, r => by refine rwE r ?_; exact .nil
 | x :: xs, vs, 0, r => by
  obtain ⟨v, vs', e9, _, r⟩ := zy.mp r; refine rwE e9 ?_
  exact r
 | x :: xs, vs, j + 1, r => by
  obtain ⟨v, vs', e9, h, r⟩ := zy.mp r; refine rwE e9 ?_
  exact .cons h (zgM r)
theorem zrY (H : zag Ω Φ S n) (hA : Rm A n) (hG : GlC c Φ) (hlo : c.lo = 0) {x : Str} {i : Nat} {a : PySem.Expr} {pe : PE} {p q pos : Pos} (hx : (x == ("__debug__" : Str)) = false)
  (hi : zN c x = some i) (he : tr 60 c a = some pe) (hd : zf S ρ (.del i pe) = some (ρ', fl)) (hO : Ok Ω Z s) (hR : Rel c env Z s.heap ρ ad) :
  wpAny Ω.m A (exec (.Delete [.Subscript (.Name x p) a q] pos) env) (zcs Ω c env ρ ad Z s ρ' fl) zc s := by
 refine zb hd fun xs hp hd => zb hd fun d hd' hd => zb hd fun z hz0 hd => zb hd fun j hj hd => ifE hd fun hsz e => zaE e ?_
 have hp := zde hp
 refine wpAny_Delete (wpAny_deleteEach_cons (wpAny_delete_Subscript (wpAny_Name (zaF hR hi hp fun v e => ?_) hx)))
 refine rwE e ?_
 refine Pst.then (H.ex 60 c a pe ρ _ he hd' A env Z s ad hA hG hO hR) fun v s_1 Z_1 S_1 r_1 => ?_
 obtain ⟨t, e9⟩ := zbh hz0 r_1; refine rwE e9 ?_
 have R1 := hR.stp S_1
 obtain ⟨vs, k, ho, r, hz⟩ := R1.own i xs hp
 have e1 := zp r
 obtain ⟨f1, f2⟩ := zgl hj hsz
 have hfit : Builtin.List.listFitsIndex z = true := by
  unfold Builtin.List.listFitsIndex
  lia
 refine wpAny_delItem_plain ⟨k, ho⟩ hfit (k := j) (by rw [e1]; exact hj) (fun h' hp' hs => ?_) (by rw [e1]; exact nle hsz (by decide))
 obtain ⟨k', ho'⟩ := hp'
 refine wpAny_deleteEach_nil ⟨rfl, Z_1, ad, (Adv.ofStp S_1 hR).trans (zdH (tk := s_1.toks) hlo S_1.ok R1 hp hs (I22 _ k' ho' ?_))⟩
 have : (vs.eraseIdxIfInBounds j).toList = vs.toList.eraseIdx j := by simp
 rw [this]
 exact zgM r
end
noncomputable def zfW : List Nat -> List PyData -> Rho -> Rho
 | i :: is, d :: ds, ρ => zfW is ds (ρ.set i (some (.d d)))
 | _, _, ρ => ρ
theorem zhZ : ∀ {is : List Nat} {ds : List PyData} {ρ : Rho} {i : Nat} {a : Option PV}, i ∉ is -> zfW is ds (ρ.set i a) = (zfW is ds ρ).set i a
 | [], ds, ρ, i, a, _ => rfl
 | j :: is, [], ρ, i, a, _ => rfl
 | j :: is, d :: ds, ρ, i, a, h => by
  show zfW is ds ((ρ.set i a).set j (some (.d d))) = _
  rw [List.set_comm _ _ fun e => h (List.mem_cons.mpr (.inl e)), zhZ fun m => h (.tail _ m)]; rfl
theorem zh0 : ∀ {is : List Nat} {ds : List PyData} {ρ : Rho} {i : Nat} {d : PyData}, is.length = ds.length -> zfW (is ++ [i]) (ds ++ [d]) ρ = (zfW is ds ρ).set i (some (.d d))
 | [], [], ρ, i, d, _ => rfl
 | [], _ :: _, ρ, i, d, h => by simp at h
 | _ :: _, [], ρ, i, d, h => by simp at h
 | j :: is, e :: ds, ρ, i, d, h => by
  simp
  exact zh0 (by simpa using h)
theorem zjU : ∀ {is : List Nat} {ds : List PyData} {ρ : Rho}, is.length = ds.length -> zaN is = true -> zfW is.reverse ds.reverse ρ = zfW is ds ρ
 | [], [], ρ, _, _ => rfl
 | [], _ :: _, ρ, h, _ => by simp at h
 | _ :: _, [], ρ, h, _ => by simp at h
 | i :: is, d :: ds, ρ, h, hn => by
  simp only [zaN, Bool.and_eq_true, Bool.not_eq_true', List.contains_eq_mem, decide_eq_false_iff_not] at hn
  rw [List.reverse_cons, List.reverse_cons, zh0 (by simpa using h), zjU (by simpa using h) hn.2]
  rw [zhZ hn.1]
theorem zfD : ∀ {ns : List (Nat × Bool)} {ds : List PyData} {ρ ρ' : Rho}, zis ns ds ρ = some ρ' -> ρ' = zfW (ns.map (·.1)) ds ρ /\ ns.length = ds.length
 | [], [], ρ, ρ', h => by refine eqE h ?_; exact ⟨rfl, rfl⟩
 | [], _ :: _, ρ, ρ', h => za h
 | p :: ns, d :: ds, ρ, ρ', h => ifN h fun _ h => E02 (zfD (ns := ns) (ds := ds) h) fun e hl =>  ⟨e, congrArg Nat.succ hl⟩
 | p :: ns, [], ρ, ρ', h => za h
theorem zc4 : ∀ {ns : List (Nat × Bool)}, zb2 ns = true -> zaN (ns.map (·.1)) = true
 | [], _ => rfl
 | (i, b) :: r, h => by
  simp only [zb2, Bool.and_eq_true] at h
  simp only [List.map_cons, zaN, Bool.and_eq_true]
  exact ⟨h.1, zc4 h.2⟩
theorem zfE {α β : Type} {f : α -> Option β} : ∀ {l l' : List α} {r r' : List β}, zC f l = some r -> zC f l' = some r' -> zC f (l ++ l') = some (r ++ r')
 | [], l', r, r', h, h' => by refine eqE h ?_; exact h'
 | x :: l, l', r, r', h, h' => by
  refine zb h fun y hy h => ?_
  refine zQ h fun r0 h0 e_0 => ?_
  (first | refine zky e_0 ?_ | subst e_0)
  simp only [List.cons_append, zC, hy, Option.bind_some, zfE h0 h', Option.map_some]
theorem zeF {α β : Type} {f : α -> Option β} : ∀ {l : List α} {r : List β}, zC f l = some r -> zC f l.reverse = some r.reverse
 | [], r, h => by refine eqE h ?_; rfl
 | x :: l, r, h => by
  refine zb h fun y hy h => ?_
  refine zQ h fun r0 h0 e_0 => ?_
  (first | refine zky e_0 ?_ | subst e_0)
  rw [List.reverse_cons, List.reverse_cons]
  exact zfE (zeF h0) (by simp [zC, hy])
theorem zeG {c : TC} : ∀ {ts : List PySem.Expr} {ns : List (Nat × Bool)}, zf6 c ts = some ns -> ∃ l : List (Str × Pos), ts = l.map (fun q => PySem.Expr.Name q.1 q.2) /\ zC (zN c) (l.map (·.1)) = some (ns.map (·.1)) /\ ∀ p ∈ ns, p.2 = c.mu.contains p.1
 | [], ns, h => by refine eqE h ?_; exact I13 [] rfl rfl nofun
 | e :: ts, ns, h => by
  refine zb h fun x hx h => zb h fun i hi h => zQ h fun ns' hns e => ?_
  obtain ⟨p, e9⟩ := zbP hx; refine rwE e9 ?_
  obtain ⟨l, e9, hl, hm⟩ := zeG hns; refine rwE e9 ?_
  refine rwB e ?_
  refine I13 ((x, p) :: l) rfl (by show ((zN c x).bind fun y => _) = _; rw [hi, Option.bind_some, hl]; rfl) (fun q hq => ?_)
  rcases List.mem_cons.mp hq with rfl | hq
  ·rfl
  ·exact hm q hq
set_option tactic.hygienic true in
theorem zeH {env : Env} {line : Nat} : ∀ {l : List (Str × Pos)} {ns : List Str}, ns = (l.map (fun q => PySem.Expr.Name q.1 q.2)).filterMap (fun | .Name id pos => if env.kindOf id == some .local && pos.line == line then some id else none | _ => none) -> ns.length = l.length -> ns = l.map (·.1)
 | [], ns, h, _ => by simpa using h
 | (x, p) :: l, ns, h, hl => by
  simp only [List.map_cons, List.filterMap_cons] at h
  have hle : ((l.map (fun q => PySem.Expr.Name q.1 q.2)).filterMap (fun | .Name id pos => if env.kindOf id == some .local && pos.line == line then some id else none | _ => none)).length <= l.length := by
   have := List.length_filterMap_le (f := fun (e : PySem.Expr) => match e with | .Name id pos => if env.kindOf id == some .local && pos.line == line then some id else none | _ => none) (l := l.map (fun q => PySem.Expr.Name q.1 q.2))
   simpa using this
  split at h
  ·replace hl := h ▸ hl
   simp only [List.length_cons] at hl
   omega
  ·rename_i y hy
   refine ifE hy fun _ hy => ?_
   cases hy
   rw [h] at hl |-
   simp only [List.length_cons, Nat.add_right_cancel_iff] at hl
   exact rwE List.map_cons (rwE (zeH rfl hl) rfl)
section
variable {Ω : En} {A : Around} {Z Z' Z'' : Heap} {s s' s'' : Shared} {c : TC} {env : Env} {ρ ρ' ρ'' : Rho} {ad ad' ad'' : Nat -> Addr} {fl : Fl}
 {Φ : Fs} {S : Sv} {n m : Nat}
theorem zgN : ∀ {vs : List PySem.Expr} {es : List PE}, zC (tr m c) vs = some es -> (vs.any fun | .Starred .. => true | _ => false) = false
 | [], _, _ => rfl
 | v :: vs, es, h => by
  refine zb h fun pe he h => ?_
  obtain ⟨es', hes, _⟩ := Option.map_eq_some_iff.mp h
  have := zaQ he
  rw [List.any_cons, zgN hes]
  cases v <;> first | rfl | (exact Bool.noConfusion this)
theorem zhv {l : List (Str × Pos)} {k k' : Nat} {p p' : Pos} {vs : List PySem.Expr} {es : List PE} (hv : zC (tr m c) vs = some es) (hc : zcd vs = false) :
  swappedStores [.Tuple (l.map (fun q => PySem.Expr.Name q.1 q.2)) k p] (.Tuple vs k' p') env = pure none \/ (swappedStores [.Tuple (l.map (fun q => PySem.Expr.Name q.1 q.2)) k p] (.Tuple vs k' p') env = pure (some (l.map (·.1)))) := by
 unfold swappedStores
 dsimp only
 split
 ·exact .inl rfl
 split
 ·rename_i hst
  exact absurd (show (vs.any fun | .Starred .. => true | _ => false) = true from hst) (by rw [zgN hv]; simp)
 split
 ·exact .inl rfl
 rename_i hn
 split
 ·exact .inl rfl
 rename_i hf
 split
 ·rename_i hca
  unfold zcd at hc
  simp [hca, hf] at hc
 ·refine .inr ?_
  congr 2
  refine zeH rfl ?_
  simp only [Bool.or_eq_true, bne_iff_ne, ne_eq, not_or, Decidable.not_not] at hn
  rw [hn.1]; simp
theorem zh1 : ∀ (xs : List Str) (is : List Nat) (vs : List Value) (ds : List PyData) (ρ : Rho) (s : Shared), zC (zN c) xs = some is -> zv Z vs ds -> Ok Ω Z s -> Rel c env Z s.heap ρ ad -> xs.length = ds.length ->
  wpAny Ω.m A (assignInOrder (xs.map fun x => bindName env x) vs) (fun _ s' => Adv Ω c env ρ ad Z s (zfW is ds ρ) ad Z s') zc s
 | [], is, vs, ds, ρ, s, h, r, hO, hR, hl => by
  refine eqE h ?_
  obtain rfl : ds = [] := List.length_eq_zero_iff.mp (by simpa using hl.symm)
  exact wPu (Adv.refl hO hR)
 | x :: xs, is, vs, ds, ρ, s, h, r, hO, hR, hl => by
  refine zb h fun i hi h => ?_
  obtain ⟨is', his, e9⟩ := Option.map_eq_some_iff.mp h; refine rwE e9.symm ?_
  induction ds using List.casesOn with
  | nil => simp at hl
  | cons d ds =>
   obtain ⟨v, vs', e9, r1, r2⟩ := zy.mp r; refine rwE e9 ?_
   show wpAny _ _ (do holding vs' (bindName env x v); assignInOrder (xs.map fun x => bindName env x) vs') _ _ _
   refine wB (wpAny_holding (wpAny_bindName (zbc hi hO hR r1 fun s_1 a_1 => ?_)))
   exact wpM (zh1 xs is' vs' ds _ s_1 his r2 a_1.stx.ok a_1.rel (by simpa using hl)) (fun _ s_2 a_2 => a_1.trans a_2)
theorem zh2 : ∀ {l : List (Str × Pos)} {ns : List (Nat × Bool)}, zC (zN c) (l.map (·.1)) = some (ns.map (·.1)) -> (∀ p ∈ ns, p.2 = c.mu.contains p.1) -> ns.all (fun p => !p.2) = true ->
  zC (trT c 8) (l.map (fun q => PySem.Expr.Name q.1 q.2)) = some (ns.map fun q => Tgt.v q.1)
 | [], [], _, _, _ => rfl
 | [], _ :: _, h, _, _ => by simp [zC] at h
 | (x, p) :: l, ns, h, hm, hf => by
  refine zb h fun i hi h => ?_
  obtain ⟨is', his, e⟩ := Option.map_eq_some_iff.mp h
  induction ns using List.casesOn with
  | nil => simp at e
  | cons q ns =>
   simp only [List.map_cons, List.cons.injEq] at e
   obtain ⟨e1, e2⟩ := e
   simp only [List.all_cons, Bool.and_eq_true, Bool.not_eq_true'] at hf
   have hq := hm q List.mem_cons_self
   rw [hf.1, <- e1] at hq
   have hnc : ¬ (c.mu.contains i = true) := by rw [<- hq]; simp
   have h1 : trT c 8 (.Name x p) = some (.v i) := by
    show ((zN c x).bind fun i => if c.mu.contains i then none else some (Tgt.v i)) = _
    rw [hi]
    show (if c.mu.contains i = true then none else some (Tgt.v i)) = _
    rw [if_neg hnc]
   simp only [List.map_cons, zC, h1, (zh2 (l := l) (ns := ns) (by rw [his, e2]) (fun p hp => hm p (List.mem_cons_of_mem _ hp)) hf.2), Option.bind_some, Option.map_some, e1]
theorem zgO : ∀ {is : List Nat} {ds : List PyData} {ρ : Rho}, is.length = ds.length -> zcm (is.map Tgt.v) ds ρ = some (zfW is ds ρ)
 | [], [], ρ, _ => rfl
 | [], _ :: _, ρ, h => by simp at h
 | _ :: _, [], ρ, h => by simp at h
 | i :: is, d :: ds, ρ, h => by
  simp
  rw [zgO (by simpa using h)]; rfl
theorem ziP (H : zag Ω Φ S n) (hA : Rm A n) (hG : GlC c Φ) {ts vs : List PySem.Expr} {k k' : Nat} {p p' pos : Pos} {ns : List (Nat × Bool)} {es : List PE}
  (hn : zf6 c ts = some ns) (hv : zC (tr 60 c) vs = some es) (hf : ns.all (fun p => !p.2) = true) (hsn : zb2 ns = true) (hc : zcd vs = false) (hlen : vs.length <= 1000)
  (hd : zf S ρ (.asgs ns es) = some (ρ', fl)) (hO : Ok Ω Z s) (hR : Rel c env Z s.heap ρ ad) : wpAny Ω.m A (exec (.Assign [.Tuple ts k p] (.Tuple vs k' p') pos) env) (zcs Ω c env ρ ad Z s ρ' fl) zc s := by
 refine zb hd fun ds hds hd => zQ hd fun ρ1 hs e => ?_
 cases e
 obtain ⟨e9, hl⟩ := zfD hs; refine rwE e9 ?_
 obtain ⟨l, hts, hm, hmu⟩ := zeG hn
 have hll : l.length = ns.length := by have := zce hm; simpa using this.symm
 refine zhY (Pst.then (zd1 (H.ex 60) hA hG hlen hv hds hO hR) fun u s_1 Z_1 S_1 r => ?_)
 have R1 := hR.stp S_1
 have hcases := zhv (env := env) (l := l) (k := k) (p := p) (k' := k') (p' := p') hv hc
 rw [<- hts] at hcases
 have hnl : (l.map (·.1)).length = ns.length := by rw [List.length_map, hll]
 have hm2 := hm
 generalize l.map (·.1) = names at hcases hm2 hnl
 rcases hcases with hsw | hsw
 ·rw [hsw]
  refine wPu ?_
  show wpAny _ _ (do assign (.Tuple ts k p) env u; pure Flow.next) _ _ _
  have ht : trT c 9 (.Tuple ts k p) = some (.t (ns.map fun q => Tgt.v q.1)) := by
   show (zC (trT c 8) ts).map Tgt.t = _
   rw [hts, zh2 hm hmu hf]; rfl
  have hb : zax (.t (ns.map fun q => Tgt.v q.1)) (.tuple ds) ρ = some (zfW (ns.map (·.1)) ds ρ) := by
   have := zgO (is := ns.map (·.1)) (ds := ds) (ρ := ρ) (by simpa using hl)
   rw [List.map_map] at this
   exact this
  refine wB (wpM (zbS (GI := fun w => False) hA.handled 9 _ _ ht _ u ρ _ s_1 Z_1 hb S_1.ok R1 r) (fun w s_2 q => wPu ?_))
  exact ⟨rfl, Z_1, ad, (Adv.ofStp S_1 hR).trans ⟨q.1, q.2, fun a o => .inl (zbR hb o)⟩⟩
 ·rw [hsw]
  refine wPu ?_
  obtain ⟨a, us, k2, e9, e2, r⟩ := zaq.mp r; refine rwE e9 ?_
  show wpAny _ _ (do rule "assign.swapped-stores"; let items <- unpackItems (.ref a) names.length none; assignInOrder (names.reverse.map fun n => bindName env n) items.reverse; pure Flow.next) _ _ _
  rw [(by rw [zp r, <- hl, hnl] at |- : names.length = us.size)]
  refine wB (wpAny_rule (wB (wpAny_unpackItems_tuple hA.handled ⟨_, S_1.ok.sub _ _ e2, rfl, k2, rfl⟩ fun h' hx => ?_)))
  have S_2 : Stp Ω Z_1 s_1 Z_1 { s_1 with heap := h' } := Stp.grow (n := s_1.toks) S_1.ok (zgy hx)
  refine wB (wpM (zh1 _ _ us.toList.reverse ds.reverse ρ _ (zeF hm2) r.reverse S_2.ok (R1.stp S_2) (by simp [hnl, hl])) (fun w s_3 a_3 => wPu ?_))
  rw [zjU (by simpa using hl) (zc4 hsn)] at a_3
  exact ⟨rfl, Z_1, ad, (Adv.ofStp (S_1.trans S_2) hR).trans a_3⟩
def StW (Ω : En) (A : Around) (c : TC) (env : Env) (ρ : Rho) (ad : Nat -> Addr) (Z : Heap) (s : Shared) (ρ' : Rho) (fl : Fl) (st : Stmt) : Prop := wpAny Ω.m A (exec st env) (zcs Ω c env ρ ad Z s ρ' fl) zc s
theorem zpP (H : zag Ω Φ S n) (hA : Rm A n) (hG : GlC c Φ) (hlo : c.lo = 0) {x : Str} {v : PySem.Expr} {p pos : Pos} {r : List Nat × PS} (h : zny c x v = some r)
  (hd : zf S ρ r.2 = some (ρ', fl)) (hO : Ok Ω Z s) (hR : Rel c env Z s.heap ρ ad) : StW Ω A c env ρ ad Z s ρ' fl (.Assign [.Name x p] v pos) :=
 ifN h fun hdc h => zb h fun i hi h => zb h fun e he h => zkE h
  (fun u h => ifE h fun hf e => by cases e; exact zpN H hA hG hlo (zcz hdc) hi he hf hd hO hR)
  fun e => by cases e; exact zrU H hA hG hlo (zcz hdc) hi he hd hO hR
theorem zpQ {v : PySem.Expr} {vs : List PySem.Expr} (h : zjA v = some vs) : ∃ k p, v = .Tuple vs k p := by
 cases v <;> first | exact za h | skip
 refine eqE h ?_; exact I21 _ _ rfl
theorem zmt {v : PySem.Expr} (h : zjA v = none) : ziL v = false := by
 cases v <;> first | rfl | cases h
theorem zmu (H : zag Ω Φ S n) (hA : Rm A n) (hG : GlC c Φ) (hlo : c.lo = 0) {t v : PySem.Expr} {pos : Pos} {r : List Nat × PS} (h : zqT c v t = some r)
  (hd : zf S ρ r.2 = some (ρ', fl)) (hO : Ok Ω Z s) (hR : Rel c env Z s.heap ρ ad) : StW Ω A c env ρ ad Z s ρ' fl (.Assign [t] v pos) := by
 induction t using PySem.Expr.casesOn with
 | Name x p => exact zpP H hA hG hlo h hd hO hR
 | Tuple ts k p =>
  have h : (match zjA v with
   | some vs => znz c ts vs
   | none => (trT c 9 (.Tuple ts k p)).bind fun t => (tr 60 c v).map fun e => (ze8 c e, PS.asg t e)) = some r := h
  induction hv : zjA v with
  | some vs =>
   rw [hv] at h
   obtain ⟨k', p', e9⟩ := zpQ hv; refine rwE e9 ?_
   refine zb h fun ns hn h => zb h fun es he h => ifE h fun hc e => zaf hc fun hc hlen => zaf hc fun hc hca => zaf hc fun hf hsn => ?_
   cases e
   exact ziP H hA hG hn he hf hsn (by rw [Bool.not_eq_true'] at hca; exact hca) (of_decide_eq_true hlen) hd hO hR
  | none =>
   have h := hv ▸ h
   refine zb h fun t ht h => zQ h fun e he e' => ?_
   induction e'
   exact zpO H hA hG (zmt hv) ht he hd hO hR
 | _ => exact za h
theorem zpR (H : zag Ω Φ S n) (hA : Rm A n) (hG : GlC c Φ) (hlo : c.lo = 0) {x m : Str} {args : List PySem.Expr} {p apos pos pos' : Pos} (hl : (apos.endLine == pos.line) = true) {r : List Nat × PS} (h : zty c x m args = some r)
  (hd : zf S ρ r.2 = some (ρ', fl)) (hO : Ok Ω Z s) (hR : Rel c env Z s.heap ρ ad) : StW Ω A c env ρ ad Z s ρ' fl (.Expr (.Call (.Attribute (.Name x p) m apos) args [] pos) pos') := by
 refine zb h fun i hi h => ifN h fun u h => ?_
 induction args using List.casesOn with
 | nil => exact ifE h fun hm e => by cases eq_of_beq hm; cases e; exact zrX hA hlo hl (zcf hi) hi hd hO hR
 | cons a r =>
  induction r using List.casesOn with
  | nil => exact zb h fun e he h => zkE h (fun hm e => by cases eq_of_beq hm; cases e; exact zrV H hA hG hlo hl (zcf hi) hi he hd hO hR) fun h => ifE h fun hm e => by cases eq_of_beq hm; cases e; exact zrW H hA hG hlo hl (zcf hi) hi he hd hO hR
  | cons _ _ => exact za h
set_option tactic.hygienic true in
theorem zpS (H : zag Ω Φ S n) (hA : Rm A n) (hG : GlC c Φ) (hlo : c.lo = 0) {e : PySem.Expr} {pos' : Pos} {r : List Nat × PS} (h : zls c e = some r)
  (hd : zf S ρ r.2 = some (ρ', fl)) (hO : Ok Ω Z s) (hR : Rel c env Z s.heap ρ ad) : StW Ω A c env ρ ad Z s ρ' fl (.Expr e pos') := by
 cases e <;> first | exact za h | skip
 rename_i f args kws pos
 cases f <;> first | exact za h | skip
 refine zb h fun x hx h => ifE h fun hc h2 => zaf hc fun hk hl => ?_
 obtain ⟨p, e9⟩ := zbP hx; refine rwE e9 ?_
 cases List.isEmpty_iff.mp hk
 exact zpR H hA hG hlo hl h2 hd hO hR
theorem zmv (H : zag Ω Φ S n) (hA : Rm A n) (hG : GlC c Φ) (hlo : c.lo = 0) {e : PySem.Expr} {pos' : Pos} {r : List Nat × PS} (h : zqU c e = some r)
  (hd : zf S ρ r.2 = some (ρ', fl)) (hO : Ok Ω Z s) (hR : Rel c env Z s.heap ρ ad) : StW Ω A c env ρ ad Z s ρ' fl (.Delete [e] pos') := by
 cases e <;> first | exact za h | skip
 refine zb h fun x hx h => zb h fun i hi h => ifN h fun u h => zQ h fun e he e' => ?_
 obtain ⟨p, e9⟩ := zbP hx; refine rwE e9 ?_
 induction e'
 exact zrY H hA hG hlo (zcf hi) hi he hd hO hR
theorem zrZ (H : zag Ω Φ S n) (HB : zeC Ω Φ S n) (hA : Rm A n) (hG : GlC c Φ) (hlo : c.lo = 0) {k : Nat} {st : Stmt} {r : List Nat × PS}
  (h : trS k c st = some r) (hd : zf S ρ r.2 = some (ρ', fl)) (hO : Ok Ω Z s) (hR : Rel c env Z s.heap ρ ad) : StW Ω A c env ρ ad Z s ρ' fl st := by
 induction k using Nat.casesOn with
 | zero => exact za h
 | succ k =>
  cases st with
  | Assign ts v pos => exact zb h fun t ht h => by rw [zdh ht]; exact zmu H hA hG hlo h hd hO hR
  | AugAssign t op v pos =>
   refine zb h fun x hx h => zb h fun i hi h => zb h fun e he h => ifN h fun u e' => ?_
   obtain ⟨p, e9⟩ := zbP hx; refine rwE e9 ?_
   cases e'
   exact zrS H hA hG hi he hd hO hR
  | If t a b pos => exact zb h fun t ht h => zb h fun a ha h => zQ h fun b hb e => by induction e; exact ztF H HB hA hG hlo ht ha hb hd hO hR
  | For t it a b pos => exact zb h fun t ht h => zb h fun it hit h => zb h fun a ha h => zb h fun b hb h => ifE h fun hp e => by cases e; exact zrT H HB hA hG hlo ht hit ha hb hp hd hO hR
  | Return e pos => exact zb h fun e h1 h => zQ h fun pe he e' => by induction e'; rw [h1]; exact zrQ H hA hG he hd hO hR
  | Assert t m pos =>
   refine ifE h fun hm h => zQ h fun pe he e' => ?_
   induction e'
   rw [Option.isNone_iff_eq_none.mp hm]
   exact zms H hA hG he hd hO hR
  | Break pos => cases h; refine zaE hd ?_; exact wpAny_Break ⟨rfl, Z, ad, Adv.refl hO hR⟩
  | Raise a b pos => cases h; exact za hd
  | Expr e pos => exact zpS H hA hG hlo h hd hO hR
  | Delete es pos => exact zb h fun e he h => by rw [zdh he]; exact zmv H hA hG hlo h hd hO hR
  | _ => exact za h
theorem ztG (H : zag Ω Φ S n) (HB : zeC Ω Φ S n) (hA : Rm A n) (hG : GlC c Φ) (hlo : c.lo = 0) {k : Nat} {st : Stmt} {fz : List Nat} {ps : PS}
  (h : trS k c st = some (fz, ps)) (hd : zf S ρ ps = some (ρ', fl)) (hO : Ok Ω Z s) (hR : Rel c env Z s.heap ρ ad) :
  wpAny Ω.m A (exec st env) (zcs Ω c env ρ ad Z s ρ' fl) zc s := zrZ H HB hA hG hlo h hd hO hR
theorem zn2 (H : zag Ω Φ S n) (HB : zeC Ω Φ S n) (tbl : Nat -> Option Fn) : zeC Ω Φ (step tbl S) (n + 1) := by
 intro k c body
 induction body with
 | nil =>
  intro pb ρ ρ' fl hb hd hlo A env Z s ad hA' hG hO hR
  cases hb
  refine zaE hd ?_
  exact wpAny_execs_nil ⟨rfl, Z, ad, Adv.refl hO hR⟩
 | cons st body ih =>
  intro pb ρ ρ' fl hb hd hlo A env Z s ad hA' hG hO hR
  refine zQ hb fun l hl e => zb hl fun q hst hl => zQ hl fun l' hl' e2 => ?_
  subst e2; subst e
  have hd : zA S ((q.1.map .frz ++ [q.2]) ++ l'.flatMap fun p => p.1.map .frz ++ [p.2]) ρ = some (ρ', fl) := hd
  rw [List.append_assoc] at hd
  obtain ⟨ρ1, Z1, a1, hd⟩ := zgK hlo S q.1 hd hO hR
  refine zb hd fun q hs hd => ?_
  obtain ⟨ρ2, f2⟩ := q
  have hrest : trB k c body = some (l'.flatMap fun p => p.1.map .frz ++ [p.2]) := by unfold trB; rw [hl']; rfl
  refine wpAny_execs_cons (wpM (ztG H HB (hA'.le (Nat.le_succ n)) hG hlo hst hs a1.stx.ok a1.rel) (fun f s_2 p => ?_))
  induction f2 with
  | next =>
   obtain ⟨rfl, Z2, ad2, a2⟩ := p
   have a12 := a1.trans a2
   exact wpM (ih _ ρ2 ρ' fl hrest hd hlo A env Z2 s_2 ad2 hA' hG a12.stx.ok a12.rel) (fun f s_3 p => zbl a12 p)
  | brk =>
   refine zaE hd ?_
   obtain ⟨rfl, Z2, ad2, a2⟩ := p
   exact ⟨rfl, Z2, ad2, a1.trans a2⟩
  | ret d =>
   refine zaE hd ?_
   obtain ⟨Z2, v, e9, S2, r⟩ := p; refine rwE e9 ?_
   exact zbl (f := .ret v) a1 (I23 Z2 v rfl S2 r)
end
theorem zh3 {kindOf : Str -> Option NameKind} : ∀ {r : List (Str × Value)} {m : Str -> Option Value} {x : Str}, x ∉ r.map (·.1) -> bindL kindOf r m x = m x
 | [], m, x, _ => rfl
 | (n, v) :: r, m, x, h => by
  simp only [List.map_cons, List.mem_cons, not_or] at h
  rw [zh3 h.2]
  split
  ·exact if_neg h.1
  ·rfl
theorem zh4 {kindOf : Str -> Option NameKind} : ∀ {r : List (Str × Value)} {m : Str -> Option Value} {x : Str}, x ∉ r.map (·.1) -> bindC kindOf r m x = m x
 | [], m, x, _ => rfl
 | (n, v) :: r, m, x, h => by
  simp only [List.map_cons, List.mem_cons, not_or] at h
  rw [zh4 h.2]
  split
  ·rfl
  ·exact if_neg h.1
theorem zlH {ps : List Str} {vals : List Value} {x : Str} (h : x ∈ (ps.zip vals).map (·.1)) : x ∈ ps := by
 obtain ⟨p, hp, e9⟩ := List.mem_map.mp h; obtain rfl := e9.symm
 exact (List.of_mem_zip hp).1
theorem zgP {kindOf : Str -> Option NameKind} : ∀ {ps : List Str} {vals : List Value} {m : Str -> Option Value} {j : Nat} {x : Str} {v : Value}, zaA ps = true -> ps[j]? = some x -> vals[j]? = some v -> kindOf x = some .local ->
  bindL kindOf (ps.zip vals) m x = some v
 | [], vals, m, j, x, v, _, h, _, _ => by exact za h
 | _ :: _, [], m, j, x, v, _, _, h, _ => by exact za h
 | p :: ps, u :: vals, m, 0, x, v, hn, h, h', hk => by
  simp at h h'; subst h; subst h'
  simp only [zaA, Bool.and_eq_true, Bool.not_eq_true', List.contains_eq_mem, decide_eq_false_iff_not] at hn
  simp
  rw [zh3 (fun q => hn.1 (zlH q)), if_pos hk]; simp
 | p :: ps, u :: vals, m, j + 1, x, v, hn, h, h', hk => by
  simp only [zaA, Bool.and_eq_true] at hn
  unfold bindL
  exact zgP hn.2 (by simpa using h) (by simpa using h') hk
theorem zgQ {kindOf : Str -> Option NameKind} : ∀ {ps : List Str} {vals : List Value} {m : Str -> Option Value} {j : Nat} {x : Str} {v : Value}, zaA ps = true -> ps[j]? = some x -> vals[j]? = some v -> kindOf x ≠ some .local ->
  bindC kindOf (ps.zip vals) m x = some v
 | [], vals, m, j, x, v, _, h, _, _ => by exact za h
 | _ :: _, [], m, j, x, v, _, _, h, _ => by exact za h
 | p :: ps, u :: vals, m, 0, x, v, hn, h, h', hk => by
  simp at h h'; subst h; subst h'
  simp only [zaA, Bool.and_eq_true, Bool.not_eq_true', List.contains_eq_mem, decide_eq_false_iff_not] at hn
  simp
  rw [zh4 (fun q => hn.1 (zlH q)), if_neg hk]; simp
 | p :: ps, u :: vals, m, j + 1, x, v, hn, h, h', hk => by
  simp only [zaA, Bool.and_eq_true] at hn
  unfold bindC
  exact zgQ hn.2 (by simpa using h) (by simpa using h') hk
theorem zbx : ∀ {l : List (Str × NameKind)} {k0 : Nat} {x : Str} {k : NameKind} {i : Nat}, (zdD l k0).lookup x = some (k, i) -> k0 <= i /\ l[i - k0]? = some (x, k)
 | [], k0, x, k, i, h => by exact za h
 | (y, j) :: l, k0, x, k, i, h => by
  have h : ((y, j, k0) :: zdD l (k0 + 1)).lookup x = some (k, i) := h
  rw [List.lookup_cons] at h
  split at h
  ·rename_i e
   have : x = y := by simpa using e
   refine rwE this ?_
   refine zaE h ?_
   exact ⟨Nat.le_refl _, by simp⟩
  ·obtain ⟨h1, h2⟩ := zbx h
   refine ⟨Nat.le_of_succ_le h1, ?_⟩
   rw [show i - k0 = (i - (k0 + 1)) + 1 from (Nat.succ_pred_eq_of_pos (Nat.sub_pos_of_lt h1)).symm]
   exact h2
theorem zbH : ∀ {l : List (Str × NameKind)} {k0 : Nat} {x : Str}, l.lookup x = ((zdD l k0).lookup x).map (·.1)
 | [], k0, x => rfl
 | (y, j) :: l, k0, x => by
  rw [List.lookup_cons, List.lookup_cons]
  cases x == y
  ·exact zbH
  ·rfl
structure zkV (B : Heap) (Φ : Fs) (a : Addr) (np : Nat) (pb : List PS) : Prop where
 ex : ∃ o fd src kk ps, B.get? a = some o /\ o.data = .func fd /\ fd.body = .stmts src /\ trB kk (zeb Φ.fns Φ.cst Φ.gen fd.scope src) src = some pb /\ fd.closure = [] /\ fd.globals = mainGlobals /\ fd.builtins = builtinsNs /\ B.CodeRec fd.code fd.qualname /\
  fd.scope.kind = .function /\ fd.scope.isCoroutine = false /\ fd.scope.isGenerator = false /\ zaA (fd.scope.names.map (·.1)) = true /\ (fd.scope.names.all fun p => p.2 == NameKind.local || p.2 == NameKind.cell || p.2 == NameKind.globalImplicit) = true /\
  ps.length = np /\ (∀ vals : List Value, vals.length = np -> bindArgs fd ⟨vals, []⟩ = pure (ps.zip vals)) /\ zaA ps = true /\ (∀ (j : Nat) (x : Str), ps[j]? = some x -> ∃ k : NameKind, fd.scope.names[j]? = some (x, k) /\ (k = NameKind.local \/ k = NameKind.cell))
section
variable {Ω : En} {A : Around} {Z Z' Z'' : Heap} {s s' s'' : Shared} {c : TC} {env : Env} {ρ ρ' ρ'' : Rho} {ad ad' ad'' : Nat -> Addr} {fl : Fl}
 {Φ : Fs} {S : Sv} {n m : Nat}
theorem zar {args : List PyData} {ns i : Nat} {pv : PV} (h : (args.map (fun d => some (PV.d d)) ++ List.replicate ns none)[i]? = some (some pv)) : ∃ d, args[i]? = some d /\ pv = .d d := by
 refine Or.elim (Nat.lt_or_ge i args.length) (fun hi => ?_) fun hi => ?_
 ·rw [List.getElem?_append_left (by simpa using hi)] at h; have h := List.getElem?_map ▸ h
  induction e : args[i]? with
  | none => rw [e] at h; exact za h
  | some d => have h := e ▸ h; cases h; exact I12 d rfl rfl
 ·rw [List.getElem?_append_right (by simpa using hi), List.getElem?_replicate] at h
  split at h <;> exact nomatch h
theorem zh5 (HB : zeC Ω Φ S n) (G : Gl Ω.B Φ) (hA : Rm A (n + 1)) {a : Addr} {np ns : Nat} {pb : List PS} (F : zkV Ω.B Φ a np pb) {args : List PyData} {vals : List Value} {d : PyData} {ρ' : Rho} {fl : Fl}
  (hl : args.length = np) (hd : S.blk (args.map (fun d => some (.d d)) ++ List.replicate ns none) pb = some (ρ', fl)) (hfl : (fl = .next /\ d = .none) \/ fl = .ret d) (hO : Ok Ω Z s) (r : zv Z vals args) :
  wpAny Ω.m A (call (.ref a) vals) (Pst Ω Z s d) zc s := by
 refine cps fun G0 hG_0 => ?_
 obtain ⟨o, fd, src, kk, ps, ho, hof, hbody, htr, hclo, hgl, hbl, hcd, hk, hco, hge, hnd, hkinds, hpl, hbind, hpn, hps⟩ := F.ex
 refine hG_0 ?_
 have hlim := G.lims hO
 have hvl : vals.length = np := by rw [r.length, hl] at |-
 have hkd : ∀ x k, (x, k) ∈ fd.scope.names -> k = .local \/ k = .cell \/ k = .globalImplicit := by
  intro x k hm
  have := List.all_eq_true.mp hkinds _ hm
  simp only [Bool.or_eq_true, beq_iff_eq] at this
  rcases this with (h | h) | h
  ·exact .inl h
  ·exact .inr (.inl h)
  ·exact .inr (.inr h)
 have hlook : ∀ x k, (x, k) ∈ fd.scope.names -> fd.scope.names.lookup x = some k := fun x k hm => za0 hnd hm
 have cells := zcE fd.scope.names (s.heap.push { cls := .type "frame", data := .dict #[] }) []
 rw [show (s.heap.push { cls := .type "frame", data := .dict #[] }).objs.size = s.heap.objs.size + 1 from Heap.size_push ..] at cells
 obtain ⟨c1, c2, c3⟩ := cells
 refine wpAny_call (codeAny_call_cells (binds := ps.zip vals) (Nat.lt_of_le_of_lt (nle (Nat.le_add_right _ _) hA.depth) (by decide)) (hO.sub _ _ (hO.base _ _ ho)) hof hlim (hcd.keeps (hO.base.trans hO.sub)) hbody (hbind vals hvl) hclo ?_ (fun s_1 X => ?_) hco hge hk)
 ·intro x hx
  refine cps fun G0 hG_0 => ?_
  obtain (⟨hx1, _⟩) := List.of_mem_zip hx
  obtain ⟨j, hj⟩ := List.getElem?_of_mem hx1
  obtain ⟨k, hk', hkk⟩ := hps j _ hj
  refine hG_0 ?_
  have hm := List.mem_of_getElem? hk'
  rcases hkk with rfl | rfl
  ·exact .inl (hlook _ _ hm)
  ·refine .inr ⟨hlook _ _ hm, ?_⟩
   obtain ⟨a', ha'⟩ := c2 x.1 (.inl hm)
   rw [ha'] at |-; rfl
 ·
  let env := callEnvC fd s.heap.objs.size a
  obtain ⟨h_1, tk, e9⟩ := X.toInCall.same; obtain rfl := e9.symm
  have S_1 : Stp Ω Z s Z { s with heap := h_1, toks := tk } := Stp.grow hO X.toInCall.keep
  let c := zeb Φ.fns Φ.cst Φ.gen fd.scope src
  have hbind' : ∀ (i : Nat) (x : Str) (k : NameKind), fd.scope.names[i]? = some (x, k) -> ∀ (pv : PV), (args.map (fun d => some (PV.d d)) ++ List.replicate ns none)[i]? = some (some pv) -> ∃ v d, ps[i]? = some x /\ vals[i]? = some v /\ pv = PV.d d /\ Rep Z v d := by
   intro i x k hx pv hp
   obtain ⟨d, hd, e9⟩ := zar hp; refine rwE e9 ?_
   obtain ⟨v, hv, rv⟩ := r.get hd
   have hi : i < ps.length := by
    rw [hpl, <- hvl] at |-
    refine Or.elim (Nat.lt_or_ge i vals.length) (fun h => ?_) fun h => ?_
    ·exact h
    ·exact za ((List.getElem?_eq_none h).symm.trans hv)
   obtain ⟨k', hk', _⟩ := hps i _ (List.getElem?_eq_getElem hi)
   have hk' := hx ▸ hk'; cases hk'
   exact I24 v d (List.getElem?_eq_getElem hi) hv rfl rv
  have hslot : ∀ x k i, c.nm.lookup x = some (k, i) -> fd.scope.names[i]? = some (x, k) := fun x k i h => by
   have := (zbx h).2
   simpa using this
  have fresh : ∀ b, s.heap.objs.size <= b -> Z.get? b = none := fun b hb => hO.sub.none (zaa hb)
  have R : Rel c env Z h_1 (args.map (fun d => some (.d d)) ++ List.replicate ns none) (fun u => 0) := by
   refine { kind := hk, names := fun x => zbH, glob := hgl, blt := hbl, loc := I12 _ X.toInCall.ns ?_, cel := ?_, apL := fresh _ (Nat.le_refl _), injS := ?_, injC := ?_, own := ?_, ownInj := ?_, hi := ?_, slot := ?_, mainL := ?_ }
   ·intro x i pv e q
    have hx := hslot x _ i e
    refine cps fun G0 hG_0 => ?_
    obtain ⟨v, d, h1, h2, e9, rv⟩ := hbind' i x _ hx pv q; obtain rfl := e9.symm
    refine hG_0 ?_
    exact I12 v (zgP hpn h1 h2 (hlook _ _ (List.mem_of_getElem? hx))) rv
   ·intro x k i e hkk
    have hx := hslot x k i e
    have hm := List.mem_of_getElem? hx
    have hkc : k = .cell := by
     refine Or.elim hkk (fun h => ?_) fun h => ?_
     ·exact h
     ·rcases hkd x k hm with h' | h' | h' <;> rw [h'] at h <;> cases h
    subst hkc
    obtain (⟨a', ha'⟩) := c2 x (.inl hm)
    refine I24 a' _ ha' (X.cell x a' ha') ?_ (fun pv q => ?_)
    ·rcases c1 x a' ha' with ⟨_, h, _⟩ | h
     ·exact fresh _ (Nat.le_of_succ_le h)
     ·exact za h
    ·refine cps fun G0 hG_0 => ?_
     obtain ⟨v, d, h1, h2, e9, rv⟩ := hbind' i x _ hx pv q; obtain rfl := e9.symm
     refine hG_0 ?_
     refine I12 v (zgQ hpn h1 h2 ?_) rv
     show fd.scope.names.lookup x ≠ some .local
     rw [hlook _ _ hm] at |-; decide
   ·intro x y k k' i hx hy _ _
    have h1 := hslot x k i hx
    refine zaE (h1.symm.trans (hslot y k' i hy)) ?_; rfl
   ·intro x y b hx hy
    exact name_of_addr X.apart (mem_of_lookup hx) (mem_of_lookup hy)
   ·intro i xs e
    obtain ⟨d, _, h⟩ := zar e
    cases h
   ·intro i j xs ys e
    obtain ⟨d, _, h⟩ := zar e
    cases h
   ·intro i pv e
    obtain ⟨d, h, _⟩ := zar e
    have : i < args.length := by
     refine Or.elim (Nat.lt_or_ge i args.length) (fun h' => ?_) fun h' => ?_
     ·exact h'
     ·exact za ((List.getElem?_eq_none h').symm.trans h)
    have hi : i < ps.length := by rw [hpl, <- hl] at |-; exact this
    obtain ⟨k', hk', _⟩ := hps i _ (List.getElem?_eq_getElem hi)
    refine Or.elim (Nat.lt_or_ge i fd.scope.names.length) (fun h' => ?_) fun h' => ?_
    ·exact h'
    ·exact za ((List.getElem?_eq_none h').symm.trans hk')
   ·intro x k i e _
    have h := hslot x k i e
    refine Or.elim (Nat.lt_or_ge i fd.scope.names.length) (fun h' => ?_) fun h' => ?_
    ·exact h'
    ·exact za ((List.getElem?_eq_none h').symm.trans h)
   ·intro e
    obtain ⟨mg, mb, ⟨o', _, _, hm, _⟩, _⟩ := G.ns
    have h1 := Heap.lt_size (hO.sub _ _ (hO.base _ _ hm))
    have h1 := e ▸ h1
    exact Nat.lt_irrefl _ h1
  have hA' : Rm (A.deeper env) n := hA.deep
  refine wpAny_mono (HB kk c src pb _ ρ' fl htr hd rfl (A.deeper env) env Z _ _ hA' ⟨rfl, rfl, rfl⟩ S_1.ok R) (fun f s_2 p => ?_) fun u w x => x.elim
  have hfo : ∀ b, Own c env (args.map (fun d => some (PV.d d)) ++ List.replicate ns none) (fun u => 0) b -> s.heap.get? b = none := by
   rintro b (h | ⟨x, k, i, e, _, _, hc⟩ | ⟨i, xs, e, _⟩)
   ·refine rwE h ?_; exact zj _
   ·rcases c1 x b hc with ⟨_, h, _⟩ | h
    ·exact zaa (Nat.le_of_succ_le h)
    ·exact za h
   ·obtain ⟨d, _, h⟩ := zar e
    cases h
  have fin : ∀ {Z' s_2}, StX (Own c env (args.map (fun d => some (PV.d d)) ++ List.replicate ns none) (fun u => 0)) (fun u => False) Ω Z { s with heap := h_1, toks := tk } Z' s_2 -> Stp Ω Z s Z' s_2 := fun T =>
   ((S_1.x (W := fun u => False) (GI := fun u => False)).trans T (fun b o => .inr (hfo b o)) (fun u h => h.elim)).stp
  rcases hfl with ⟨rfl, rfl⟩ | rfl
  ·obtain ⟨rfl, Z2, ad2, a2⟩ := p
   exact I12 Z2 (fin a2.stx) (zjl.mpr rfl)
  ·obtain ⟨Z2, v, e9, S2, r2⟩ := p; refine rwE e9 ?_
   exact I12 Z2 (fin S2) r2
theorem zc3.up (h : n <= m) (X : zc3 Ω Φ.ga n) : zc3 Ω Φ.ga m := fun A Z s v d xs hA hO r hd => X A Z s v d xs (hA.le h) hO r hd
def ziQ (Ω : En) (off : Nat) (a : Addr) (p : List PyData -> Option PyData) : Prop :=
 ∀ args d, p args = some d -> ∀ A Z s vals, Rm A off -> Ok Ω Z s -> zv Z vals args -> wpAny Ω.m A (call (.ref a) vals) (Pst Ω Z s d) zc s
structure zpT (Ω : En) (Φ : Fs) (tbl : Nat -> Option Fn) (off : Nat) : Prop where
 h40 : 40 <= off
 gl : Gl Ω.B Φ
 glg : GlG Ω.B Φ.gen Φ.ga
 gok : zc3 Ω Φ.ga 40
 gd : (Φ.gen == ("__debug__" : Str)) = false
 code : ∀ f k np ns pb, Φ.fns.lookup f = some k -> tbl k = some (.code np ns pb) -> zkV Ω.B Φ (Φ.fa k) np pb
 prim : ∀ f k p, Φ.fns.lookup f = some k -> tbl k = some (.prim p) -> ziQ Ω off (Φ.fa k) p
theorem zmw {off : Nat} (T : zpT Ω Φ tbl off) (HB : zeC Ω Φ S (n + off)) : zkK Ω Φ (step tbl S) (n + 1 + off) := by
 intro k args d hd A Z s vals h9 hA hO r; obtain ⟨f, hf⟩ := h9
 have hd : (match tbl k with
  | some (.code np ns body) => if args.length = np then (match S.blk (args.map (fun d => some (.d d)) ++ List.replicate ns none) body with
   | some (_, .ret d) => some d
   | some (_, .next) => some .none
   | _ => none) else none
  | some (.prim p) => p args
  | none => none) = some d := hd
 induction ht : tbl k with
 | none => have hd := ht ▸ hd; exact za hd
 | some fn =>
  rw [ht] at hd
  induction fn with
  | prim p => exact T.prim f k p hf ht args d hd A Z s vals (hA.le (Nat.le_add_left _ _)) hO r
  | code np ns body =>
   refine ifE hd fun hl hd => ?_
   have hA' : Rm A (n + off + 1) := hA.le (Nat.le_of_eq (Nat.add_right_comm _ _ _))
   rcases hb : S.blk (args.map (fun d => some (.d d)) ++ List.replicate ns none) body with _ | ⟨ρ', fl⟩
   ·have hd := hb ▸ hd; exact za hd
   ·have hd := hb ▸ hd
    induction fl with
    | ret d' => refine eqE hd ?_; exact zh5 HB T.gl hA' (T.code f k np ns body hf ht) hl hb (.inr rfl) hO r
    | next => refine eqE hd ?_; exact zh5 HB T.gl hA' (T.code f k np ns body hf ht) hl hb (.inl ⟨rfl, rfl⟩) hO r
    | brk => exact za hd
theorem zeI {off : Nat} (T : zpT Ω Φ tbl off) : ∀ n, zag Ω Φ (run tbl n) (n + off) /\ zeC Ω Φ (run tbl n) (n + off)
 | 0 => by
  have hb : Ω.B.get? mainGlobals ≠ none := by
   obtain ⟨mg, h1, _⟩ := T.glg.ns
   obtain ⟨o, _, _, ho, _⟩ := h1
   rw [ho]; exact fun h => (nomatch h)
  refine ⟨{ ex := fun m c e pe ρ d u h => (nomatch h), tst := fun m c e pe ρ d b u h => (nomatch h), call := fun k args d h => (nomatch h), gl := T.gl, glg := T.glg, gok := T.gok.up (by have := T.h40; lia), gd := T.gd, bin := hb, fresh := fun m c e pe ρ d u v h => (nomatch h), use := fun m c e pe ρ d u v h => (nomatch h) }, fun k c body pb ρ ρ' fl u h => (nomatch h)⟩
 | n + 1 => by
  obtain ⟨H, HB⟩ := zeI T n
  have h1 := zlF H.toHeld tbl
  have h2 := zn0 H.toHeld tbl
  have h3 := zkU H.toHeld tbl
  have h4 := zn1 H.toHeld tbl
  have h5 := zn2 H HB tbl
  rw [(by lia : n + off + 1 = n + 1 + off)] at h1 h2 h3 h4 h5
  exact ⟨{ ex := h1, tst := h2, call := zmw T HB, gl := T.gl, glg := T.glg, gok := T.gok.up (by have := T.h40; lia), gd := T.gd, bin := H.bin, fresh := h3, use := h4 }, h5⟩
end
section
variable {M : Model} {A : Around} {R : GenEnd} {Y : Protocol} {n : Nat} {s_0 : Shared} {c : Code} {fs : List Frame} {s : Shared} {env : Env}
 {gd : Bool -> Bool} {lv : List Value -> List Value}
theorem zas {α β : Type} {m : Sem α} {f : α -> Sem β} {K : β -> Sem Fin} {H : Value -> Sem Fin} (h : wpAny M (A.over c fs) m (fun a s' => Seg M A R Y n s_0 c ((f a).wrap K H gd lv) fs s') zc s) :
  Seg M A R Y n s_0 c ((m >>= f).wrap K H gd lv) fs s := by
 rw [Sem.bind_eq_wrap', Sem.wrap_wrap]
 exact seg_wrap (wpAny_mono h (fun u v x => x) fun u v x => x.elim)
theorem zgR {m : Sem Flow} {K : Flow -> Sem Fin} {H : Value -> Sem Fin} (h : wpAny M (A.over c fs) m (fun a s' => Seg M A R Y n s_0 c (K a) fs s') zc s) : Seg M A R Y n s_0 c (m.wrap K H gd lv) fs s :=
 seg_wrap (wpAny_mono h (fun u v x => x) fun u v x => x.elim)
theorem zkW {test : PySem.Expr} {body orelse : List Stmt} {pos : Pos} {K : Flow -> Sem Fin} {H : Value -> Sem Fin}
  (h : wpAny M (A.over c fs) (isTrue test env (eval test env)) (fun b s' => if b = true then Seg M A R Y n s_0 c ((execs body env).wrap K H gd lv) fs s' else Seg M A R Y n s_0 c ((execs orelse env).wrap K H gd lv) fs s') zc s) :
  Seg M A R Y n s_0 c ((exec (.If test body orelse pos) env).wrap K H gd lv) fs s := by
 refine zas (wpAny_standAt (zas (wpM h (fun b s' hb => ?_))))
 induction b with
 | true => exact hb
 | false => exact hb
theorem zpU {target iter : PySem.Expr} {body orelse : List Stmt} {pos : Pos} {K : Flow -> Sem Fin} {H : Value -> Sem Fin}
  (h : wpAny M (A.over c fs) (eval iter env) (fun x s_1 => wpAny M (A.over c fs) (pyIter x) (fun it s_2 => ∀ k p, k (.ok .next) = K .next ->
   Seg M A R Y n s_0 (.forLoop target it body orelse env) (M.den (.forLoop target it body orelse env)) (.ret k none (gd false) (lv []) c p [] :: fs) s_2) zc s_1) zc s)
  (hs : ∀ x, foldedSetIterable iter env x = pure x) :
  Seg M A R Y n s_0 c ((exec (.For target iter body orelse pos) env).wrap K H gd lv) fs s := by
 refine zas (wpAny_standAt (zas (wpAny_mono h (fun x s_1 h_1 => zas (wpAny_of_eq (hs x) (zas (wpAny_standAt (zas (wpAny_holding (wpAny_mono h_1 (fun it s_2 h_2 => ?_) fun u v x => x))))))) fun u v x => x)))
 exact seg_call fun p => h_2 _ p rfl
end
section
variable {Ω : En} {A : Around} {R : GenEnd} {Y : Protocol} {n : Nat} {s_0 : Shared} {fs : List Frame} {s : Shared} {env : Env}
theorem zfF {target : PySem.Expr} {it : Value} {body orelse : List Stmt}
  (h : wpAny Ω.m (A.over (.forLoop target it body orelse env) fs) (pyNext it) (fun r s_1 => match r with
   | none => Seg Ω.m A R Y n s_0 (.block orelse env) (Ω.m.den (.block orelse env)) fs s_1
   | some v => wpAny Ω.m (A.over (.forLoop target it body orelse env) fs) (letOwnedTupleGo target it v) (fun u s_2 =>
     wpAny Ω.m (A.over (.forLoop target it body orelse env) fs) (assign target env v) (fun u s_3 => ∀ K H, K .next = .pure (.again (.forLoop target it body orelse env)) ->
      Seg Ω.m A R Y n s_0 (.forLoop target it body orelse env) ((execs body env).wrap K H id id) fs s_3) zc s_2) zc s_1) zc s) :
  Seg Ω.m A R Y n s_0 (.forLoop target it body orelse env) (Ω.m.den (.forLoop target it body orelse env)) fs s := by
 show Seg _ A R Y n s_0 _ ((forTurn target it body orelse env).onRaise (fun x => do noteFrame x env; theTreesLotGoes x)) fs s
 rw [Sem.onRaise_eq_wrap]
 refine zas (wpAny_standAt (zas (wpAny_onRaise (wpAny_mono h (fun r s_1 h_1 => ?_) fun u w x => x.elim))))
 induction r with
 | none => exact seg_again rfl h_1
 | some v =>
  refine zas (wpAny_mono h_1 (fun u s_2 h_2 => zas (wpAny_mono h_2 (fun u s_3 h_3 => ?_) fun u w x => x)) fun u w x => x)
  rw [Sem.bind_eq_wrap', Sem.wrap_wrap]
  exact h_3 _ _ rfl
theorem ziR {K : Flow -> Sem Fin} {c : Code} {k : Result -> Sem Fin} {g : Bool} {l kp : List Value} {p : Pos} (hk : k (.ok .next) = K .next) (h : Seg Ω.m A R Y n s_0 c (K .next) fs s) :
  Seg Ω.m A R Y n s_0 (.block [] env) (Ω.m.den (.block [] env)) (.ret k none g l c p kp :: fs) s :=
 seg_leaf (.ok .next) (by rw [hk]; exact h)
end
noncomputable def zbd : Scope := {
 kind := .function,
 names := [(Str.ofString "addr", .local), (Str.ofString "pos", .local), (Str.ofString "escape", .local), (Str.ofString "ch", .local), (Str.ofString "enumerate", .globalImplicit)],
 isGenerator := true, isCoroutine := false, more := [] }
noncomputable def zjV (p : Nat -> Pos) : PySem.Expr := .Tuple [.Name "pos" (p 6), .Name "ch" (p 7)] 0 (p 8)
noncomputable def gY1 (p : Nat -> Pos) : Stmt := .Expr (.Yield (some (.Tuple [.Name "pos" (p 14), .BinOp (.Constant (.str "\\") 0 (p 15)) .Add (.Name "ch" (p 16)) (p 17)] 0 (p 18))) (p 19)) (p 20)
noncomputable def gY2 (p : Nat -> Pos) : Stmt := .Expr (.Yield (some (.Tuple [.Name "pos" (p 32), .Name "ch" (p 33)] 0 (p 34))) (p 35)) (p 36)
def zu3 (p : Nat -> Pos) : Stmt := .If (.Compare (.Name "ch" (p 25)) [.Eq] [.Constant (.str "\\") 0 (p 26)] (p 27)) [.Assign [.Name "escape" (p 28)] (.Constant (.bool true) 0 (p 29)) (p 30)] [gY2 p] (p 37)
def gIf (p : Nat -> Pos) : Stmt := .If (.Name "escape" (p 13)) [gY1 p, .Assign [.Name "escape" (p 22)] (.Constant (.bool false) 0 (p 23)) (p 24)] [zu3 p] (p 38)
noncomputable def gY3 (p : Nat -> Pos) : Stmt := .Expr (.Yield (some (.Tuple [.Name "pos" (p 41), .Constant (.str "\\") 0 (p 42)] 0 (p 43))) (p 44)) (p 45)
def zdp (p : Nat -> Pos) : List Stmt := [
 .Assign [.Name "pos" (p 0)] (.Constant (.int 0) 0 (p 1)) (p 2),
 .Assign [.Name "escape" (p 3)] (.Constant (.bool false) 0 (p 4)) (p 5),
 .For (zjV p) (.Call (.Name "enumerate" (p 9)) [.Name "addr" (p 10)] [] (p 11)) [gIf p] [] (p 39),
 .If (.Name "escape" (p 40)) [gY3 p] [] (p 46)]
def gTC : TC := ⟨zdD zbd.names 0, [], [], 5, [], "", 0⟩
noncomputable def lo : List Nat -> Nat -> Nat -> Bool -> List (Nat × Str)
 | [], i, p, esc => if esc then [(p, ⟨#[92]⟩)] else []
 | c :: r, i, p, esc => if esc then (i, ⟨#[92, c]⟩) :: lo r (i + 1) i false else if c = 92 then lo r (i + 1) i true else (i, ⟨#[c]⟩) :: lo r (i + 1) i false
noncomputable def zF : List Nat -> Bool -> Bool
 | [], esc => esc
 | c :: r, esc => if esc then zF r false else if c = 92 then zF r true else zF r false
noncomputable def zeJ (p : Nat × Str) : PyData := .tuple [.int p.1, .str p.2]
theorem zeK : ∀ (r : List Nat) (p : Nat) (esc : Bool), za3.escapedN r p esc = (lo r (p + 1) p esc).map zeJ
 | [], p, esc => by induction esc <;> rfl
 | c :: r, p, esc => by
  unfold za3.escapedN lo
  induction esc with
  | true => rw [zeK]; rfl
  | false =>
   simp
   split
   ·exact zeK ..
   ·rw [zeK]; rfl
theorem zr0 (r : List Nat) : za3 r 0 false = (lo r 0 0 false).map zeJ := by
 induction r using List.casesOn with
 | nil => rfl
 | cons c r =>
  unfold za3 lo
  simp only [Bool.false_eq_true, if_false]
  split
  ·exact zeK ..
  ·rw [zeK]; rfl
theorem zgS : ∀ (r : List Nat) (i p : Nat) (esc : Bool), lo r i p esc = [] -> zF r esc = false
 | [], i, p, esc, h => by induction esc with
  | true => exact nomatch h
  | false => rfl
 | c :: r, i, p, esc, h => by
  induction esc with
  | true => exact nomatch h
  | false =>
   show (if c = 92 then zF r true else zF r false) = false
   by_cases e : c = 92
   ·rw [if_pos e]; exact zgS r (i + 1) i true ((if_pos e).symm.trans h)
   ·exact nomatch (if_neg e).symm.trans h
def Imm (ρ : Rho) : Prop := ∀ (i : Nat) (pv : PV), ρ[i]? = some (some pv) -> ∃ d : PyData, pv = .d d /\ ∀ Z Z' v, Rep Z v d -> Rep Z' v d
theorem ziS {ρ : Rho} {i : Nat} {d : PyData} (h : Imm ρ) (hd : ∀ Z Z' v, Rep Z v d -> Rep Z' v d) : Imm (ρ.set i (some (.d d))) := by
 intro j pv e
 rcases zr e with ⟨_, rfl⟩ | ⟨_, e⟩
 ·exact I12 d rfl hd
 ·exact h j pv e
theorem zjW {i : Int} : ∀ Z Z' v, Rep Z v (.int i) -> Rep Z' v (.int i) := fun u w x r => zo.mpr (zo.mp r)
theorem zh6 {b : Bool} : ∀ Z Z' v, Rep Z v (.bool b) -> Rep Z' v (.bool b) := fun u w x r => zx.mpr (zx.mp r)
theorem zgT {x : Str} : ∀ Z Z' v, Rep Z v (.str x) -> Rep Z' v (.str x) := fun u w y r => zU.mpr (zU.mp r)
section
variable {Ω : En} {A : Around} {Z Z' : Heap} {s s' : Shared} {env : Env} {ρ : Rho} {ad : Nat -> Addr}
theorem zdq {x : Str} {k : NameKind} {i : Nat} (h : gTC.nm.lookup x = some (k, i)) : k = .local \/ k = .globalImplicit := by
 have h := (zbx h).2
 have : (x, k) ∈ zbd.names := List.mem_of_getElem? h
 simp only [zbd, List.mem_cons, List.not_mem_nil, or_false, Prod.mk.injEq] at this
 rcases this with ⟨_, h⟩ | ⟨_, h⟩ | ⟨_, h⟩ | ⟨_, h⟩ | ⟨_, h⟩ <;> lia
theorem zdI {h h' : Heap} (R : Rel gTC env Z h ρ ad) (I : Imm ρ) (hz : Z'.get? env.locals = none) (k : ∀ o, h.get? env.locals = some o -> h'.get? env.locals = some o) : Rel gTC env Z' h' ρ ad := by
 refine { R with loc := ?_, cel := ?_, apL := hz, own := ?_, ownInj := ?_ }
 ·obtain ⟨m, hn, hv⟩ := R.loc
  refine I12 m (hn.at' k) (fun x i pv e q => ?_)
  obtain ⟨v, e1, r⟩ := hv x i pv e q
  obtain ⟨d, e9, hd⟩ := I i pv q; obtain rfl := e9.symm
  exact I12 v e1 (hd _ _ _ r)
 ·intro x k i e hk
  rcases zdq e with rfl | rfl <;> rcases hk with h | h <;> cases h
 ·intro i xs e
  obtain ⟨d, h, _⟩ := I i _ e
  cases h
 ·intro i j xs ys e
  obtain ⟨d, h, _⟩ := I i _ e
  cases h
theorem zmx (I : Imm ρ) {b : Addr} (h : Own gTC env ρ ad b) : b = env.locals := by
 rcases h with h | ⟨x, k, i, e, hk, _⟩ | ⟨i, xs, e, _⟩
 ·exact h
 ·rcases zdq e with rfl | rfl <;> rcases hk with h | h <;> cases h
 ·obtain ⟨d, h, _⟩ := I i _ e
  cases h
theorem zqX (I : Imm ρ) {b : Addr} (h : zaw gTC env ρ ad b) : b = env.locals := by
 rcases h with h | ⟨x, k, i, e, hk, _⟩ | ⟨i, xs, e, _⟩
 ·exact h
 ·rcases zdq e with rfl | rfl <;> rcases hk with h | h <;> cases h
 ·obtain ⟨d, h, _⟩ := I i _ e
  cases h
theorem ztH {n : Nat} {b : List Stmt} (hA : Rm A (n + 2)) : Rm (A.in1.over (.func b env) []) n := by
 refine ⟨hA.handled, ?_, ?_⟩
 ·have := hA.depth
  show A.depth + 0 + 1 + n <= 900
  lia
 ·have := hA.units
  show A.units + 1 + 0 + 3 + 8 * n <= 8000
  lia
theorem zn3 {n : Nat} {b b' : List Stmt} {t : PySem.Expr} {it : Value} {k : Result -> Sem Fin} {l kp : List Value} {p : Pos} (hA : Rm A (n + 2)) : Rm (A.in1.over (.forLoop t it b' [] env) [.ret k none false l (.func b env) p kp]) n := by
 refine ⟨hA.handled, ?_, ?_⟩
 ·have := hA.depth
  show A.depth + 1 + 0 + n <= 900
  lia
 ·have := hA.units
  show A.units + 1 + 3 + 0 + 8 * n <= 8000
  lia
end
noncomputable def fqs (fin : Bool) (L e it : Addr) (m : Nat) : List Addr := if m = 0 /\ fin = true then [L] else [L, e, it]
def ztI (Ω : En) (fq : List Addr) (s_1 s'' : Shared) : Prop := Ok Ω Ω.B s'' /\ ∀ b ∈ fq, ∀ o, s_1.heap.get? b = some o -> s''.heap.get? b = some o
def zhw (Ω : En) (fin : Bool) (L e it : Addr) : GenEnd := fun n s_0 r s_1 => r = .ok (.ret .none) /\ (n = 0 /\ ∃ Z_1, StX (· ∈ fqs fin L e it 0) (fun _ => False) Ω Ω.B s_0 Z_1 s_1)
def zfh (Ω : En) (fin : Bool) (L e it : Addr) (full : List (Nat × Str)) : Protocol := fun n s_0 v s_1 kap =>
 ∃ t q y t1 t2 k Z_1, full[full.length - 1 - n]? = some (q, y) /\ v = .ref t /\ s_0.heap.get? t = none /\ t ∉ [L, e, it] /\ s_1.heap.get? t = some { cls := .type "tuple", data := .seq #[.int (q : Int) t1, .str y t2] k } /\
  StX (· ∈ [L, e, it]) (fun _ => False) Ω Ω.B s_0 Z_1 s_1 /\ (∀ b ∈ fqs fin L e it n, ∃ o, s_1.heap.get? b = some o) /\ ∀ s'', ztI Ω (fqs fin L e it n) s_1 s'' -> kap (.send .none) s''
theorem zeL {fin : Bool} {L e it : Addr} {m : Nat} {b : Addr} (h : b ∈ fqs fin L e it m) : b ∈ [L, e, it] := by
 unfold fqs at h
 split at h
 ·simp at h; simp [h]
 ·exact h
section
variable {Ω : En} {A : Around} {Z Z' : Heap} {s s' s_0 : Shared} {env : Env} {ρ : Rho} {ad : Nat -> Addr} {fin : Bool} {e it : Addr} {full : List (Nat × Str)} {c : Code} {fs : List Frame}
 {K : Flow -> Sem Fin} {H : Value -> Sem Fin} {gd : Bool -> Bool} {lv : List Value -> List Value}
theorem ziT {m q : Nat} {y : Str} {e2 : PySem.Expr} {p1 p2 p3 p4 : Pos} (hgd : gd false = false) (hfs : splitAtGen fs = none) (hfg : fs.any Frame.guarded = false) (hsc : env.scope = zbd)
  (hR : Rel gTC env Z s.heap ρ ad) (hp : ρ[1]? = some (some (.d (.int (q : Int))))) (SX : StX (· ∈ [env.locals, e, it]) (fun w => False) Ω Ω.B s_0 Z s)
  (live : ∀ b ∈ fqs fin env.locals e it m, ∃ o, s.heap.get? b = some o) (live' : ∀ b ∈ [env.locals, e, it], ∃ b' o, b <= b' /\ s.heap.get? b' = some o)
  (h2 : ∀ s' Z', Stp Ω Z s Z' s' -> wpAny Ω.m (A.in1.over c fs) (eval e2 env) (Pst Ω Z' s' (.str y)) zc s')
  (he2 : starEach [e2] env = (false, eval e2 env) :: starEach [] env) (hidx : full[full.length - 1 - m]? = some (q, y))
  (cont : ∀ s'', Ok Ω Ω.B s'' -> (∀ b ∈ fqs fin env.locals e it m, ∀ o, s.heap.get? b = some o -> s''.heap.get? b = some o) -> Seg Ω.m A.in1 (zhw Ω fin env.locals e it) (zfh Ω fin env.locals e it full) m s'' c (K .next) fs s'') :
  Seg Ω.m A.in1 (zhw Ω fin env.locals e it) (zfh Ω fin env.locals e it full) (m + 1) s_0 c ((exec (.Expr (.Yield (some (.Tuple [.Name "pos" p1, e2] 0 p2)) p3) p4) env).wrap K H gd lv) fs s := by
 have hin : interactive env = false := by unfold interactive; rw [hR.kind]; rfl
 refine seg_Expr_Yield hfs hgd hfg ?_ (by rw [hsc]; rfl) hin
 refine wpAny_mono (Q := fun v s' => ∀ kap : Resume -> Shared -> Prop, (∀ x s'', (match x with | .ref _ => False | _ => Seg Ω.m A.in1 (zhw Ω fin env.locals e it) (zfh Ω fin env.locals e it full) m s'' c (K .next) fs s'') -> kap (.send x) s'') ->
  zfh Ω fin env.locals e it full m s_0 v s' kap) (E := zc) ?_ (fun w z x => x) fun w z x => x.elim
 refine wpAny_Tuple (wpAny_items_cons (wpAny_Name (zaF (i := 1) hR (by decide +kernel) hp fun v r => ?_) (by decide +kernel)))
 have r : Rep Z v (.int (q : Int)) := r
 refine zc1 r fun t1 => ?_
 refine wpAny_items_cons (Pst.then (h2 s Z (Stp.refl SX.ok)) fun u s_2 Z_2 S_2 r_2 => ?_) he2
 refine zdd r_2 fun t2 => ?_
 refine wpAny_items_nil ⟨by show 2 <= sizeLine; decide, ?_⟩
 intro kap hkap
 have S_3 : Stp Ω Z_2 s_2 Z_2 { s_2 with heap := s_2.heap.push { cls := .type "tuple", data := .seq #[.int (q : Int) t1, .str y t2] } } := Stp.grow (n := s_2.toks) S_2.ok (Sub.push _ _)
 have S23 := S_2.trans S_3
 refine ⟨s_2.heap.objs.size, q, y, t1, t2, 0, Z_2, hidx, rfl, ?_, fun hb => ?_, Heap.get?_push_size _ rfl, SX.trans (S23.x (W := fun w => False) (GI := fun w => False)) (fun w h => h.elim) (fun w h => h.elim), fun b hb => ?_, fun s'' ha => ?_⟩
 ·induction e0 : s_0.heap.get? s_2.heap.objs.size with
  | none => rfl
  | some o =>
   by_cases hb : s_2.heap.objs.size ∈ [env.locals, e, it]
   ·obtain ⟨b', o', h1, h2⟩ := live' _ hb
    exact absurd (Nat.lt_of_le_of_lt h1 (Heap.lt_size (S_2.h _ _ h2))) (Nat.lt_irrefl _)
   ·exact absurd (Heap.lt_size (S_2.h _ _ (SX.h _ _ hb e0))) (Nat.lt_irrefl _)
 ·obtain ⟨b', o', h1, h2⟩ := live' _ hb
  exact absurd (Nat.lt_of_le_of_lt h1 (Heap.lt_size (S_2.h _ _ h2))) (Nat.lt_irrefl _)
 ·obtain ⟨o, ho⟩ := live b hb
  exact ⟨o, S23.h _ _ ho⟩
 ·exact hkap .none s'' (cont s'' ha.1 fun b hb o ho => ha.2 b hb o (S23.h _ _ ho))
end
section
variable {Ω : En} {A : Around} {Z Z' : Heap} {s s' s_0 : Shared} {env : Env} {ρ : Rho} {ad : Nat -> Addr} {fin : Bool} {e it : Addr} {full : List (Nat × Str)} {p : Nat -> Pos}
 {K : Flow -> Sem Fin} {H : Value -> Sem Fin}
theorem zr1 {n q : Nat} {esc : Bool} (hA : Rm A 40) (hsc : env.scope = zbd) (hK : K .next = leafOf (.ok (.ret .none))) (hR : Rel gTC env Z s.heap ρ ad) (hp : ρ[1]? = some (some (.d (.int (q : Int))))) (hpe : ρ[2]? = some (some (.d (.bool esc))))
  (SX : StX (· ∈ [env.locals, e, it]) (fun _ => False) Ω Ω.B s_0 Z s) (live : ∃ o, s.heap.get? env.locals = some o) (live' : ∃ o, s.heap.get? e = some o) (hle : it < e)
  (hlo : lo [] 0 q esc = full.drop (full.length - n)) (hn : n <= full.length) (hfin : fin = esc) :
  Seg Ω.m A.in1 (zhw Ω fin env.locals e it) (zfh Ω fin env.locals e it full) n s_0 (.func (zdp p) env)
   ((execs [.If (.Name "escape" (p 40)) [gY3 p] [] (p 46)] env).wrap K H id id) [] s := by
 have hlen := congrArg List.length hlo
 refine seg_execs_cons (zkW (wpAny_isTrue_value (wpAny_Name (zaF (i := 2) hR (by decide +kernel) hpe fun v r => ?_) (by decide +kernel)) rfl))
 have r : Rep Z v (.bool esc) := r
 refine rwE r ?_
 refine zbw ?_
 induction esc with
 | true =>
  have h1 : n = 1 := by simp [lo] at hlen; omega
  subst h1
  have hidx : full[full.length - 1 - 0]? = some (q, (⟨#[92]⟩ : Str)) := by
   have := congrArg (·[0]?) hlo
   simp [lo] at this
   simpa using this.symm
  refine seg_execs_cons (ziT (m := 0) rfl rfl rfl hsc hR hp SX (fun b hb => ?_) (fun b hb => ?_) (fun s' Z' S' => ?_) rfl hidx fun s'' hO hk => ?_)
  ·rw [hfin] at *
   simp [fqs] at hb; refine rwE hb ?_; exact live
  ·obtain ⟨oe, hoe⟩ := live'
   obtain ⟨ol, hol⟩ := live
   refine zbt hb ?_ fun hb => zaZ hb ?_ ?_
   ·exact I22 _ _ (Nat.le_refl _) hol
   ·exact I22 _ _ (Nat.le_refl _) hoe
   ·exact I22 _ _ (Nat.le_of_lt hle) hoe
  ·refine wpAny_Constant_str (I12 Z' (Stp.grow S'.ok (.refl _)) (zU.mpr ⟨s'.toks, ?_⟩))
   rw [show ("\\" : Str) = ⟨#[92]⟩ by decide +kernel]
  ·refine seg_execs_nil ?_
   refine seg_execs_nil ?_
   rw [hK]
   exact seg_end _ ⟨rfl, rfl, Ω.B, StX.refl hO⟩
 | false =>
  have h0 : n = 0 := by simp [lo] at hlen; omega
  refine rwE h0 ?_
  refine seg_execs_nil ?_
  refine seg_execs_nil ?_
  rw [hK]
  refine seg_end _ ⟨rfl, rfl, Z, ?_⟩
  subst hfin
  exact SX
theorem zpV (c : Nat) : (("\\" : Str) ++ (⟨#[c]⟩ : Str)) = ⟨#[92, c]⟩ := by
 rfl
theorem zh7 {α : Type} {full : List α} {n : Nat} {a : α} {l : List α} (h : a :: l = full.drop (full.length - n)) (hn : n <= full.length) :
  ∃ m, n = m + 1 /\ full[full.length - 1 - m]? = some a /\ l = full.drop (full.length - m) := by
 have e : n = l.length + 1 := ((congrArg List.length h).trans ((List.length_drop ..).trans (Nat.sub_sub_self hn))).symm
 refine I13 l.length e ?_ ?_
 ·rw [show full.length - 1 - l.length = full.length - n from (Nat.sub_sub ..).trans (congrArg (full.length - ·) ((Nat.add_comm ..).trans e.symm))]
  exact List.getElem?_drop.symm.trans (congrArg (·[0]?) h.symm)
 ·refine (congrArg List.tail h).trans (List.tail_drop.trans (congrArg (List.drop · full) ?_))
  rw [e]; exact Nat.succ_pred_eq_of_pos (Nat.sub_pos_of_lt (nle (Nat.le_of_eq e.symm) hn))
theorem zpW {a b c : Nat} (h : c - a = c - b) (ha : a <= c) (hb : b <= c) : a = b := by omega
theorem ztJ (c : Nat) : ((⟨#[c]⟩ : Str) == ("\\" : Str)) = decide (c = 92) := by
 rw [show ("\\" : Str) = ⟨#[92]⟩ by decide +kernel]
 by_cases h : c = 92
 ·refine rwE h ?_; rfl
 ·rw [decide_eq_false h, beq_eq_false_iff_ne]
  intro e
  have := congrArg (fun x : Str => x.cps[0]?) e
  simp at this
  exact h this
theorem zr2 {x : Str} {t : Tok} (hA : Rm A 40) (hsc : env.scope = zbd) (hK : K .next = leafOf (.ok (.ret .none))) (hle : it < e) (hLe : env.locals ≠ e) (hLi : env.locals ≠ it)
  (zL : Ω.B.get? env.locals = none) (ze : Ω.B.get? e = none) (zi : Ω.B.get? it = none) {k : Result -> Sem Fin} {p0 : Pos}
  (hk : k (.ok .next) = (execs [.If (.Name "escape" (p 40)) [gY3 p] [] (p 46)] env).wrap K H id id) :
  ∀ (r : List Nat) (i q : Nat) (esc : Bool) (n : Nat) (s_0 s : Shared) (Z : Heap) (ρ : Rho) (old : Value),
   r = x.cps.toList.drop i -> i <= x.cps.size -> lo r i q esc = full.drop (full.length - n) -> n <= full.length -> fin = zF r esc ->
   StX (· ∈ [env.locals, e, it]) (fun w => False) Ω Ω.B s_0 Z s -> Rel gTC env Z s.heap ρ ad -> Imm ρ -> ρ[1]? = some (some (.d (.int (q : Int)))) -> ρ[2]? = some (some (.d (.bool esc))) -> ρ.length = 4 ->
   IsEnum s.heap e it i old -> s.heap.IsStrIter it (strIterType x) x t i -> Z.get? e = none -> Z.get? it = none ->
   Seg Ω.m A.in1 (zhw Ω fin env.locals e it) (zfh Ω fin env.locals e it full) n s_0 (.forLoop (zjV p) (.ref e) [gIf p] [] env)
    (Ω.m.den (.forLoop (zjV p) (.ref e) [gIf p] [] env)) [.ret k none false [] (.func (zdp p) env) p0 []] s := by
 have hA' : Rm (A.in1.over (.forLoop (zjV p) (.ref e) [gIf p] [] env) [.ret k none false [] (.func (zdp p) env) p0 []]) 38 := zn3 hA
 have X : Src Ω Ω.B (zbV x) it [it] _ _ := zlv (t := t)
 have hlen : (zbV x).length = x.cps.size := by simp [zbV]
 have hef : e ∉ [it] := by simp; exact fun h => absurd h (Nat.ne_of_gt hle)
 have M : ziC Ω (.ref e) [e, it] [e, it] (fun w => False) true _ _ 38 := zhQ X (Nat.ne_of_gt hle) hef
 intro r
 induction r with
 | nil =>
  intro i q esc n s_0 s Z ρ old hr hi hlo hn hfin SX hR hI hp hpe hrl he hit zze zzi
  have hi' : i = x.cps.size := Nat.le_antisymm hi (Array.length_toList ▸ List.drop_eq_nil_iff.mp hr.symm)
  refine zfF (wpAny_pyNext_enum_endD (X.draws _ hA'.handled) he (by rw [hlen, <- hi']; exact hit) fun h' he' => ?_)
  have SE : StX (· ∈ [env.locals, e, it]) (fun w => False) Ω Z s Z { s with heap := h', toks := s.toks } := StX.at SX.ok (fun b hb => by
   refine zbt hb ?_ fun hb => zaZ hb ?_ ?_
   ·exact hR.apL
   ·exact zze
   ·exact zzi) fun b o nb eo => by
    have nb := nm3 nb
    exact he' b o nb.2.2 eo
  have hR' : Rel gTC env Z h' ρ ad := zdI hR hI hR.apL fun o ho => he' _ o hLi ho
  refine ziR (K := fun f => match f with | .next => (execs [.If (.Name "escape" (p 40)) [gY3 p] [] (p 46)] env).wrap K H id id | f => K f) hk ?_
  refine cps fun G0 hG_0 => ?_
  obtain ⟨m, hns, _⟩ := hR'.loc
  obtain ⟨ol, es, ep, hol, _⟩ := hns
  refine hG_0 ?_
  exact zr1 hA hsc hK hR' hp hpe (SX.trans SE (fun b hb => .inl hb) fun w h => h.elim) ⟨ol, hol⟩ ⟨_, he' e _ (Nat.ne_of_gt hle) he⟩ hle hlo hn hfin
 | cons ch r ih =>
  intro i q esc n s_0 s Z ρ old hr hi hlo hn hfin SX hR hI hp hpe hrl he hit zze zzi
  have hlt : i < x.cps.size := Nat.lt_of_not_le fun k => nomatch hr.trans (List.drop_eq_nil_of_le (Array.length_toList.symm ▸ k))
  have hch : x.cps[i]? = some ch /\ r = x.cps.toList.drop (i + 1) := by
   rw [List.drop_eq_getElem_cons (by simpa using hlt)] at hr
   injection hr with h1 h2
   refine ⟨?_, h2⟩
   rw [Array.getElem?_eq_getElem hlt, h1]; rfl
  have hst : (zd7 (zbV x) 0).drop i = .tuple [.int (i : Int), .str ⟨#[ch]⟩] :: (zd7 (zbV x) 0).drop (i + 1) := by
   have hg : (zd7 (zbV x) 0)[i]? = some (.tuple [.int (i : Int), .str ⟨#[ch]⟩]) := by
    have hx : (zbV x)[i]? = some (.str ⟨#[ch]⟩) := by
     rw [List.getElem?_map, Array.getElem?_toList, hch.1]; rfl
    rw [zgC, hx]; simp
   obtain ⟨h1, h2⟩ := List.getElem?_eq_some_iff.mp hg
   rw [List.drop_eq_getElem_cons h1, h2]
  refine zfF (wpM (M.next _ hA' _ _ Z s (I27 i old (nle hi (Nat.le_of_eq hlen.symm)) hst.symm hit he SX.ok.base zze zzi) SX.ok) (fun r0 s_1 p1 => ?_))
  obtain ⟨v, Z_1, e9, S_1, rv, hmid⟩ := p1; refine rwE e9 ?_
  refine wpM (M.go _ hA' (zjV p) v _ Z_1 s_1 hmid S_1.ok fun w => I31 _ _ _ rfl) (fun w s_2 p2 => ?_)
  refine cps fun G0 hG_0 => ?_
  obtain ⟨S_2, i2, old2, hi2, er2, hit2, he2, _, z2e, z2i⟩ := p2
  refine hG_0 ?_
  have hi2' : i2 = i + 1 := by
   have := congrArg List.length er2
   rw [List.length_drop, List.length_drop, zey] at this
   exact (zpW this (nle hlt (Nat.le_of_eq hlen.symm)) hi2).symm
  subst hi2'
  have nF : ∀ a, zaw gTC env ρ ad a -> ¬ a ∈ [e, it] := by
   intro a ha hb
   rw [zqX hI ha] at hb
   simp only [List.mem_cons, List.not_mem_nil, or_false] at hb
   refine Or.elim hb (fun h => ?_) fun h => ?_
   ·exact hLe h
   ·exact hLi h
  refine wpM (zbS (GI := fun w => False) hA'.handled 9 (zjV p) (.t [.v 1, .v 3]) (by rfl) (.tuple [.int (i : Int), .str ⟨#[ch]⟩]) v ρ _ s_2 Z_1 rfl S_2.ok ((hR.stX S_1 nF).stX S_2 nF) rv) (fun w s_3 p3 => ?_)
  obtain ⟨S_3, R_3⟩ := p3
  intro K_2 H2 hK_2
  let ρ_3 : Rho := (ρ.set 1 (some (.d (.int (i : Int))))).set 3 (some (.d (.str ⟨#[ch]⟩)))
  have R_3 : Rel gTC env Z_1 s_3.heap ρ_3 ad := R_3
  have hI_3 : Imm ρ_3 := ziS (ziS hI zjW) zgT
  have g1 : ρ_3[1]? = some (some (.d (.int (i : Int)))) := by simp [ρ_3, hrl]
  have g2 : ρ_3[2]? = some (some (.d (.bool esc))) := by simp [ρ_3, hpe]
  have g3 : ρ_3[3]? = some (some (.d (.str ⟨#[ch]⟩))) := by simp [ρ_3, hrl]
  have gl : ρ_3.length = 4 := by simp [ρ_3, hrl]
  have wr2 : ∀ b, b ∈ [e, it] -> b ∈ [env.locals, e, it] := fun b hb => List.mem_cons_of_mem _ hb
  have wr3 : ∀ b, Own gTC env ρ ad b -> b ∈ [env.locals, e, it] := fun b hb => by rw [zmx hI hb]; simp
  have SX3 : StX (· ∈ [env.locals, e, it]) (fun w => False) Ω Ω.B s_0 Z_1 s_3 :=
   ((SX.trans S_1 (fun b hb => .inl (wr2 b hb)) fun w h => h.elim).trans S_2 (fun b hb => .inl (wr2 b hb)) fun w h => h.elim).trans S_3 (fun b hb => .inl (wr3 b hb)) fun w h => h.elim
  have he3 : IsEnum s_3.heap e it ((i + 1 : Nat) : Int) old2 := S_3.h _ _ (fun h => hLe (zmx hI h).symm) he2
  have hit3 : s_3.heap.IsStrIter it (strIterType x) x t (i + 1) := by
   obtain ⟨o, ho, r⟩ := hit2
   exact I12 o (S_3.h _ _ (fun h => hLi (zmx hI h).symm) ho) r
  have liveA : ∀ b ∈ [env.locals, e, it], ∃ o, s_3.heap.get? b = some o := by
   intro b hb
   refine zbt hb ?_ fun hb => zaZ hb ?_ ?_
   ·obtain ⟨m, ⟨o, _, _, ho, _⟩, _⟩ := R_3.loc; exact ⟨o, ho⟩
   ·exact ⟨_, he3⟩
   ·obtain ⟨o, ho, _⟩ := hit3; exact ⟨o, ho⟩
  have liveB : ∀ b ∈ [env.locals, e, it], ∃ b' o, b <= b' /\ s_3.heap.get? b' = some o := fun b hb => E11 (liveA b hb) fun o ho =>  (I22 b o (Nat.le_refl _) ho)
  have keepAll : ∀ {m : Nat} {rr : List Nat} {ii qq : Nat} {ee : Bool}, lo rr ii qq ee = full.drop (full.length - m) -> m <= full.length -> fin = zF rr ee -> fqs fin env.locals e it m = [env.locals, e, it] := by
   intro m rr ii qq ee h1 h2 h3
   unfold fqs
   split
   ·rename_i hc
    obtain (⟨rfl, hc⟩) := hc
    have : lo rr ii qq ee = [] := by rw [h1]; simp
    cases (zgS _ _ _ _ this).symm.trans (h3.symm.trans hc)
   ·rfl
  have again : ∀ {m q' esc' s_0' s' Z' ρ' old'}, lo r (i + 1) q' esc' = full.drop (full.length - m) -> m <= full.length -> fin = zF r esc' ->
    StX (· ∈ [env.locals, e, it]) (fun w => False) Ω Ω.B s_0' Z' s' -> Rel gTC env Z' s'.heap ρ' ad -> Imm ρ' -> ρ'[1]? = some (some (.d (.int ((q' : Nat) : Int)))) -> ρ'[2]? = some (some (.d (.bool esc'))) -> ρ'.length = 4 ->
    IsEnum s'.heap e it ((i + 1 : Nat) : Int) old' -> s'.heap.IsStrIter it (strIterType x) x t (i + 1) -> Z'.get? e = none -> Z'.get? it = none ->
    Seg Ω.m A.in1 (zhw Ω fin env.locals e it) (zfh Ω fin env.locals e it full) m s_0' (.forLoop (zjV p) (.ref e) [gIf p] [] env) (K_2 .next) [.ret k none false [] (.func (zdp p) env) p0 []] s' := by
   intro m q' esc' s_0' s' Z' ρ' old' a1 a2 a3 a4 a5 a6 a7 a8 a9 a10 a11 a12 a13
   rw [hK_2]
   exact seg_again rfl (ih (i + 1) q' esc' m s_0' s' Z' ρ' old' hch.2 hlt a1 a2 a3 a4 a5 a6 a7 a8 a9 a10 a11 a12 a13)
  refine seg_execs_cons (zkW (wpAny_isTrue_value (wpAny_Name (zaF (i := 2) R_3 (by decide +kernel) g2 fun v rv0 => ?_) (by decide +kernel)) rfl))
  have r0 : Rep Z_1 v (.bool esc) := rv0
  refine rwE r0 ?_
  refine zbw ?_
  have setEsc : ∀ {v : Bool} {a b d : Pos} {m : Nat} {s_0' s' : Shared} {Z' : Heap} {K' : Flow -> Sem Fin} {H' : Value -> Sem Fin} {g' : Bool -> Bool} {l' : List Value -> List Value}, lo r (i + 1) i v = full.drop (full.length - m) -> m <= full.length -> fin = zF r v ->
    StX (· ∈ [env.locals, e, it]) (fun w => False) Ω Ω.B s_0' Z' s' -> Rel gTC env Z' s'.heap ρ_3 ad -> (∃ old', IsEnum s'.heap e it ((i + 1 : Nat) : Int) old') -> s'.heap.IsStrIter it (strIterType x) x t (i + 1) -> Z'.get? e = none -> Z'.get? it = none -> K' .next = K_2 .next ->
    Seg Ω.m A.in1 (zhw Ω fin env.locals e it) (zfh Ω fin env.locals e it full) m s_0' (.forLoop (zjV p) (.ref e) [gIf p] [] env)
     ((exec (.Assign [.Name "escape" a] (.Constant (.bool v) 0 b) d) env).wrap K' H' g' l') [.ret k none false [] (.func (zdp p) env) p0 []] s' := by
   intro v a b d m s_0' s' Z' K' H' g' l' a1 a2 a3 a4 a5 a6 a7 a8 a9 aK
   obtain ⟨old', a6⟩ := a6
   refine zgR (wpAny_Assign_Name (wpAny_Constant_bool (zdj (GI := fun w => False) (ad' := ad) (i := 2) (pv := .d (.bool v)) (by decide +kernel) a4.ok a5 (fun w y => rfl) (show Rep Z' (.bool v) (.bool v) from zx.mpr rfl) (fun xs e => nomatch e) fun s_6 S_6 R6 => ?_)) rfl)
   rw [aK]
   refine again a1 a2 a3 (a4.trans S_6 (fun b hb => .inl (by rw [zmx hI_3 hb]; simp)) fun w h => h.elim) R6 (ziS hI_3 zh6) ?_ ?_ ?_ (S_6.h _ _ (fun h => hLe (zmx hI_3 h).symm) a6) ?_ a8 a9
   ·rw [List.getElem?_set_ne (by simp)]; exact g1
   ·rw [List.getElem?_set_self (by rw [gl]; simp)]
   ·simp [gl]
   ·obtain ⟨o, ho, r⟩ := a7
    exact I12 o (S_6.h _ _ (fun h => hLi (zmx hI_3 h).symm) ho) r
  induction esc with
  | true =>
   have hlo' : (i, (⟨#[92, ch]⟩ : Str)) :: lo r (i + 1) i false = full.drop (full.length - n) := by rw [<- hlo]; rfl
   obtain ⟨m, e9, hidx, hrest⟩ := zh7 hlo' hn; obtain rfl := e9.symm
   have hfin' : fin = zF r false := by rw [hfin]; rfl
   have hq := keepAll hrest (Nat.le_of_succ_le hn) hfin'
   refine seg_execs_cons (ziT (m := m) rfl rfl rfl hsc R_3 g1 SX3 (by rw [hq]; exact liveA) liveB (fun s' Z' S' => ?_) rfl hidx fun s'' hO hk => ?_)
   ·refine wpAny_BinOp (wpAny_Constant_str (wpAny_Name (zaF (i := 3) ((R_3.stp S').stp (Stp.grow (n := s'.toks + 1) S'.ok (.refl _))) (by decide +kernel) g3 fun u ru => ?_) (by decide +kernel)))
    have Sg : Stp Ω Z' s' Z' { s' with toks := s'.toks + 1 } := Stp.grow S'.ok (.refl _)
    refine z8 Sg (zit (a := .str "\\") (b := .str ⟨#[ch]⟩) hA'.handled Sg.ok (zU.mpr ⟨_, rfl⟩) ru ?_)
    show (if ("\\" : Str).length + (⟨#[ch]⟩ : Str).length <= big then some (PyData.str (("\\" : Str) ++ (⟨#[ch]⟩ : Str))) else none) = _
    rw [zpV, if_pos]
    show ("\\" : Str).cps.size + 1 <= big
    decide
   ·have hk := hq ▸ hk
    have R'' : Rel gTC env Ω.B s''.heap ρ_3 ad := zdI R_3 hI_3 zL fun o ho => hk _ (by simp) o ho
    refine seg_execs_cons (setEsc hrest (Nat.le_of_succ_le hn) hfin' (StX.refl hO) R'' ⟨_, hk e (by simp) _ he3⟩ ?_ ze zi rfl)
    obtain ⟨o, ho, r⟩ := hit3
    exact I12 o (hk it (by simp) _ ho) r
  | false =>
   refine seg_execs_cons (zkW (wpAny_isTrue_Compare1 (wpAny_Name (zaF (i := 3) R_3 (by decide +kernel) g3 fun u ru => wpAny_Constant_str ?_) (by decide +kernel))))
   have S_4 : Stp Ω Z_1 s_3 Z_1 { s_3 with toks := s_3.toks + 1 } := Stp.grow SX3.ok (.refl _)
   refine Pst.then (zkA (a := .str ⟨#[ch]⟩) (b := .str "\\") S_4.ok hA'.u (.inl ru) (zU.mpr ⟨_, rfl⟩) (show zfQ .Eq (.str ⟨#[ch]⟩) (.str "\\") = some ((⟨#[ch]⟩ : Str) == ("\\" : Str)) from rfl)) fun vb s_5 Z5 S5 r5 => ?_
   refine rwE r5 ?_
   refine zbw ?_
   rw [ztJ]
   have S45 := S_4.trans S5
   have SX5 : StX (· ∈ [env.locals, e, it]) (fun w => False) Ω Ω.B s_0 Z5 s_5 := SX3.trans (S45.x (W := fun w => False) (GI := fun w => False)) (fun w h => h.elim) fun w h => h.elim
   have R5 := R_3.stp S45
   have he5 := S45.h _ _ he3
   have hit5 : s_5.heap.IsStrIter it (strIterType x) x t (i + 1) := by
    obtain ⟨o, ho, r⟩ := hit3
    exact I12 o (S45.h _ _ ho) r
   have z5e : Z5.get? e = none := by rw [S45.new _ _ he3]; exact z2e
   have z5i : Z5.get? it = none := by
    obtain ⟨o, ho, _⟩ := hit3
    rw [S45.new _ _ ho]; exact z2i
   by_cases hc : ch = 92
   ·rw [decide_eq_true hc, if_pos rfl]
    have hlo' : lo r (i + 1) i true = full.drop (full.length - n) := by rw [<- hlo]; simp [lo, hc]
    have hfin' : fin = zF r true := by rw [hfin]; simp [zF, hc]
    exact seg_execs_cons (setEsc hlo' hn hfin' SX5 R5 ⟨_, he5⟩ hit5 z5e z5i rfl)
   ·rw [decide_eq_false hc, if_neg Bool.false_ne_true]
    have hlo' : (i, (⟨#[ch]⟩ : Str)) :: lo r (i + 1) i false = full.drop (full.length - n) := by rw [<- hlo]; simp [lo, hc]
    have hfin' : fin = zF r false := by rw [hfin]; simp [zF, hc]
    obtain ⟨m, e9, hidx, hrest⟩ := zh7 hlo' hn; obtain rfl := e9.symm
    have hq := keepAll hrest (Nat.le_of_succ_le hn) hfin'
    refine seg_execs_cons (ziT (m := m) rfl rfl rfl hsc R5 g1 SX5 (by rw [hq]; exact fun b hb => E11 (liveA b hb) fun o ho =>  ⟨o, S45.h _ _ ho⟩) (fun b hb => E22 (liveB b hb) fun b' o h1 ho =>  (I22 b' o h1 (S45.h _ _ ho))) (fun s' Z' S' => ?_) rfl hidx fun s'' hO hk => ?_)
    ·refine wpAny_Name (zaF (i := 3) (R5.stp S') (by decide +kernel) g3 fun u ru => I12 Z' (Stp.refl S'.ok) ru) (by decide +kernel)
    ·have hk := hq ▸ hk
     refine seg_execs_nil ?_
     refine seg_execs_nil ?_
     refine again hrest (Nat.le_of_succ_le hn) hfin' (StX.refl hO) (zdI R5 hI_3 zL fun o ho => hk _ (by simp) o ho) hI_3 g1 ?_ gl (hk e (by simp) _ he5) ?_ ze zi
     ·exact g2
     ·obtain ⟨o, ho, r⟩ := hit5
      exact I12 o (hk it (by simp) _ ho) r
end
section
variable {Ω : En} {A : Around} {E : Value -> Shared -> Prop} {s : Shared}
theorem zci {a : Addr} {g n : Nat} {gs : GenState} {P : Nat -> Shared -> Shared -> Prop} {Y : Protocol} {Q : Option Value -> Shared -> Prop} (hh : A.handled = none)
  (hl : s.heap.NoLimit) (hroom : A.depth < recursionLimit) (hg : s.heap.IsGen a g) (hgs : s.gens[g]? = some gs)
  (hgo : gs.Goes Ω.m A.in1 (fun n s_0 r s_1 => r = .ok (.ret .none) /\ P n s_0 s_1) Y n (.send .none) (s.setGen g .running))
  (hY : ∀ v s_1 gs', gs'.bare = true -> Y (n - 1) (s.setGen g .running) v s_1 (fun r' s'' => match n with
    | 0 => False
    | m + 1 => gs'.Goes Ω.m A.in1 (fun n s_0 r s_1 => r = .ok (.ret .none) /\ P n s_0 s_1) Y m r' s'') -> Q (some v) (s_1.setGen g gs'))
  (hP : ∀ s_1, P n (s.setGen g .running) s_1 -> ∀ h', (∀ b o, s_1.heap.get? b = some o -> h'.get? b = some o) -> Q none { s_1.setGen g .finished with heap := h' }) :
  wpAny Ω.m A (pyNext (.ref a)) Q E s := by
 refine wB (wpAny_attempt (wpAny_callSpecial?_slot (name := Str.ofString "__next__") hg.typeIs slot_gen_next
  (wpAny_call_entry slot_gen_next hg.typeIs entry_gen_next ?_ (args_gen_next _))))
 show wpAny _ A.in1 (Builtin.Generator.genWake (.ref a) (.send .none)) _ _ s
 refine wB (wpAny_holding (wpAny_genNumber hg (wB (wpAny_genState hgs ?_))))
 induction gs with
 | running => exact hgo.elim
 | finished => exact hgo.elim
 | _ =>
  refine wB (wpAny_roomToWake hl hroom ?_)
  refine wpAny_resumeQ hgs hgo (fun x s_1 hx => ?_) (fun v s_1 gs' hb hv => wPu (I12 v rfl (wPu (hY v s_1 gs' hb hv))))
  obtain ⟨e9, hp⟩ := hx; refine rwE e9 ?_
  show wpAny _ A.in1 (newExc (.type "StopIteration") [] >>= _) _ _ _
  refine wB ?_
  refine wB (wpAny_newObj_type ?_ (by size_fits))
  refine wB (m := firstArgMember _ _) (wpAny_of_eq (a := Value.none) (by first | rfl | (rfl; rfl)) ?_)
  refine wpAny_newObj_type ?_ (by size_fits)
  refine wB (wB (wpAny_handled ?_))
  rw [show A.in1.handled = none from hh]
  refine wpAny_throw ?_
  refine wB (wpAny_isInstance (T := "StopIteration") (b := true) (I12 _ (Heap.get?_push_size _ rfl) rfl) isSubtype_stop ?_)
  exact wPu (hP s_1 hp _ fun b o hb => Heap.get?_push_of_some _ (Heap.get?_push_of_some _ hb))
end
section
variable {Ω : En} {A : Around} {Z Z' : Heap} {s s' s_0 : Shared} {env : Env} {ρ : Rho} {ad : Nat -> Addr} {p : Nat -> Pos}
 {Φ : Fs}
theorem zgU {x : Str} {k : NameKind} {i : Nat} (h : gTC.nm.lookup x = some (k, i)) : zbd.names[i]? = some (x, k) := by
 simpa using (zbx h).2
def zab (x : Str) : List (Nat × Str) := lo x.cps.toList 0 0 false
theorem zlI {x : Str} (hA : Rm A 40) (G : Gl Ω.B Φ) (hsc : env.scope = zbd) (hO : Ok Ω Ω.B s_0) (hR : Rel gTC env Ω.B s_0.heap [some (.d (.str x)), none, none, none] ad) :
  Seg Ω.m A.in1 (zhw Ω (zF x.cps.toList false) env.locals (s_0.heap.objs.size + 1) s_0.heap.objs.size) (zfh Ω (zF x.cps.toList false) env.locals (s_0.heap.objs.size + 1) s_0.heap.objs.size (zab x)) (zab x).length s_0
   (.func (zdp p) env) (Ω.m.den (.func (zdp p) env)) [] s_0 := by
 obtain ⟨m, hns, hm⟩ := hR.loc
 obtain ⟨va, hva, ra⟩ := hm "addr" 0 _ (by decide +kernel) rfl
 have kp : env.kindOf "pos" = some .local := (hR.names "pos").trans (by decide +kernel)
 have ke : env.kindOf "escape" = some .local := (hR.names "escape").trans (by decide +kernel)
 have hpp : (env.scope.kind == .class || (env.scope.kind == .module && env.locals != env.globals)) = false := by rw [hR.kind]; rfl
 refine seg_func (seg_execs_cons (zgR (wpAny_Assign_Name (wpAny_Constant_int (wpAny_storeName_local kp hns (fun h1 hns1 hs1 => ?_) hpp)) rfl)))
 refine seg_execs_cons (zgR (wpAny_Assign_Name (wpAny_Constant_bool (wpAny_storeName_local ke hns1 (fun h2 hns2 hs2 => ?_) hpp)) rfl))
 have hs12 : Heap.SameBut env.locals s_0.heap h2 := hs1.trans hs2
 have hsz : h2.objs.size = s_0.heap.objs.size := hs12.1
 have hkeep : ∀ b o, b ≠ env.locals -> s_0.heap.get? b = some o -> h2.get? b = some o := fun b o nb eo => (hs12.2 b nb).trans eo
 obtain ⟨oL, esL, epL, hoL, rL⟩ := id hns
 have hLlt : env.locals < s_0.heap.objs.size := Heap.lt_size hoL
 let ρ_1 : Rho := [some (.d (.str x)), some (.d (.int ((0 : Nat) : Int))), some (.d (.bool false)), none]
 have hI : Imm ρ_1 := by
  intro i pv e
  match i, e with
  | 0, e => cases e; exact I12 _ rfl zgT
  | 1, e => cases e; exact I12 _ rfl zjW
  | 2, e => cases e; exact I12 _ rfl zh6
  | 3, e => cases e
  | (n + 4), e => exact za e
 have hR_1 : Rel gTC env Ω.B h2 ρ_1 ad := by
  refine { hR with loc := ⟨_, hns2, ?_⟩, cel := ?_, own := ?_, ownInj := ?_, hi := ?_ }
  ·intro y i pv e q
   have hy := zgU e
   match i, hy, q with
   | 0, hy, q =>
    refine zaE hy ?_; cases q
    exact I12 va (by exact hva) ra
   | 1, hy, q =>
    refine zaE hy ?_; cases q
    exact I12 (.int 0 s_0.toks) (by rw [if_neg (by decide +kernel), if_pos (by decide +kernel)]) (show Rep Ω.B (.int 0 s_0.toks) (.int ((0 : Nat) : Int)) from zo.mpr ⟨_, rfl⟩)
   | 2, hy, q =>
    refine zaE hy ?_; cases q
    exact I12 (.bool false) (by rw [if_pos (by decide +kernel)]) (show Rep Ω.B (.bool false) (.bool false) from zx.mpr rfl)
   | 3, hy, q => exact nomatch q
   | (n + 4), hy, q => exact za q
  ·intro y k i e hk
   rcases zdq e with rfl | rfl <;> rcases hk with h | h <;> cases h
  ·intro i xs e
   obtain ⟨d, h, _⟩ := hI i _ e
   cases h
  ·intro i j xs ys e
   obtain ⟨d, h, _⟩ := hI i _ e
   cases h
  ·intro i pv e
   show i < 5
   refine Or.elim (Nat.lt_or_ge i 4) (fun h => ?_) fun h => ?_
   ·lia
   ·exact za ((List.getElem?_eq_none (by simpa [ρ_1] using h)).symm.trans e)
 have S_1 : StX (fun b => b = env.locals) (fun u => False) Ω Ω.B s_0 Ω.B { s_0 with heap := h2, toks := s_0.toks + 1 + 1 + 1 } := StX.at hO (fun b hb => by rw [hb]; exact hR.apL) fun b o nb eo => hkeep b o nb eo
 refine seg_execs_cons (zpU (wpAny_Call_NameR (wpAny_Name (zes G S_1.ok hR_1 (x := "enumerate") (v := .type "enumerate") (by decide +kernel) (by decide +kernel)
  (PySem.callWith_type rfl (Calls.evalArgs_plain (Calls.spliced_cons (wpAny_Name (zaF (i := 0) hR_1 (by decide +kernel) rfl fun v r => Calls.spliced_nil ?_) (by decide +kernel)))))) (by decide +kernel))) fun x => rfl)
 have r : Rep Ω.B v (.str x) := r
 refine zdd r fun t => ?_
 refine call_enumerate_str fun h3 he hit u hk3 => ?_
 simp only [hsz] at he hit |-
 refine wpAny_pyIter_enum he ?_
 intro k p0 hk
 have fe : Ω.B.get? (s_0.heap.objs.size + 1) = none := hO.sub.none (zaa (Nat.le_succ _))
 have fi : Ω.B.get? s_0.heap.objs.size = none := hO.sub.none (zj _)
 have SX : StX (· ∈ [env.locals, s_0.heap.objs.size + 1, s_0.heap.objs.size]) (fun u => False) Ω Ω.B s_0 Ω.B { s_0 with heap := h3, toks := s_0.toks + 1 + 1 + 1 } := StX.at hO (fun b hb => by
   refine zbt hb ?_ fun hb => zaZ hb ?_ ?_
   ·exact hR.apL
   ·exact fe
   ·exact fi) fun b o nb eo => by
    have nb := nm3 nb
    exact (fun b o nb eo => hk3 b o (hkeep b o nb eo)) b o nb.1 eo
 exact zr2 (x := x) (t := t) hA hsc rfl (Nat.lt_succ_self _) (Nat.ne_of_lt (Nat.lt_succ_of_lt hLlt)) (Nat.ne_of_lt hLlt) hR.apL fe fi hk x.cps.toList 0 0 false _ s_0 _ Ω.B ρ_1 .none rfl (Nat.zero_le _) (by simp [zab]) (Nat.le_refl _) rfl
  SX (zdI hR_1 hI hR.apL fun o ho => hk3 _ _ ho) hI rfl rfl rfl he hit fe fi
end
theorem zfG {gens : Array GenState} {g : Nat} {gs : GenState} (h : AllBare gens) (hb : gs.bare = true) : AllBare (gens.setIfInBounds g gs) := by
 intro y hy
 obtain ⟨i, hi, rfl⟩ := Array.mem_iff_getElem.mp hy
 rw [Array.getElem_setIfInBounds]
 split
 ·exact hb
 ·exact h _ (Array.getElem_mem _)
 ·simpa using hi
structure GA (env : Env) (ad : Nat -> Addr) (p : Nat -> Pos) (a : Addr) (g : Nat) (x : Str) (xs : List PyData) (Z : Heap) (s : Shared) : Prop where
 ex : xs = (zab x).map zeJ
 hg : s.gens[g]? = some (.fresh (.func (zdp p) env))
 ho : s.heap.IsGen a g
 hR : Rel gTC env Z s.heap [some (.d (.str x)), none, none, none] ad
structure GB (Ω : En) (A : Around) (env : Env) (a : Addr) (g : Nat) (x : Str) (e it : Addr) (m : Nat) (gs : GenState) (xs : List PyData) (Z : Heap) (s : Shared) : Prop where
 hm : m <= (zab x).length
 ex : xs = ((zab x).drop ((zab x).length - m)).map zeJ
 ho : s.heap.IsGen a g
 hg : s.gens[g]? = some gs
 hae : a ∉ [env.locals, e, it]
 hq : m ≠ 0 -> ∀ b ∈ [env.locals, e, it], b ∈ fqs (zF x.cps.toList false) env.locals e it m
 hz : ∀ b ∈ fqs (zF x.cps.toList false) env.locals e it m, (∃ o, s.heap.get? b = some o) /\ Z.get? b = none
 hgo : ∀ s'', ztI Ω (fqs (zF x.cps.toList false) env.locals e it m) s s'' -> gs.Goes Ω.m A.in1 (zhw Ω (zF x.cps.toList false) env.locals e it) (zfh Ω (zF x.cps.toList false) env.locals e it (zab x)) m (.send .none) s''
def GSt (Ω : En) (A : Around) (env : Env) (ad : Nat -> Addr) (p : Nat -> Pos) (a : Addr) (g : Nat) (x : Str) : DSt := fun fp wr xs Z s =>
 (fp = [a, env.locals] /\ wr = [env.locals] /\ GA env ad p a g x xs Z s) \/ ∃ e it m gs, fp = a :: fqs (zF x.cps.toList false) env.locals e it m /\ wr = fqs (zF x.cps.toList false) env.locals e it m /\ GB Ω A env a g x e it m gs xs Z s
@[elab_as_elim] theorem zn4 {Ω : En} {A : Around} {env : Env} {ad : Nat -> Addr} {p : Nat -> Pos} {a : Addr} {g : Nat} {x : Str} {M : List Addr -> List Addr -> Prop} {fp wr : List Addr} {xs : List PyData} {Z : Heap} {s : Shared} (h : GSt Ω A env ad p a g x fp wr xs Z s)
  (k1 : GA env ad p a g x xs Z s -> M [a, env.locals] [env.locals]) (k2 : ∀ e it m gs, GB Ω A env a g x e it m gs xs Z s -> M (a :: fqs (zF x.cps.toList false) env.locals e it m) (fqs (zF x.cps.toList false) env.locals e it m)) : M fp wr :=
 h.elim (fun h => E03 h fun e1 e2 h => rwE e1 (rwE e2 (k1 h))) fun h => E43 h fun e it m gs e1 e2 h => rwE e1 (rwE e2 (k2 e it m gs h))
section
variable {Ω : En} {A : Around} {Z Z' : Heap} {s s' s_0 s_1 : Shared} {env : Env} {ρ : Rho} {ad : Nat -> Addr} {p : Nat -> Pos} {a : Addr} {g : Nat} {x : Str}
 {Φ : Fs}
theorem zn5 : Imm [some (.d (.str x)), none, none, none] := by
 intro i pv e
 match i, e with
 | 0, e => cases e; exact I12 _ rfl zgT
 | 1, e => cases e
 | 2, e => cases e
 | 3, e => cases e
 | (n + 4), e => exact za e
theorem gOk (hO : Ok Ω Z s) : Ok Ω Ω.B (s.setGen g .running) := ⟨hO.base.trans hO.sub, .refl _, hO.os, zfG hO.gens rfl⟩
theorem zn6 {W3 wr : List Addr} {Z_1 h' : Heap} {gs' : GenState} (hO : Ok Ω Z s) (SX : StX (· ∈ W3) (fun u => False) Ω Ω.B (s.setGen g .running) Z_1 s_1) (hb : gs'.bare = true) (hW : ∀ b ∈ W3, b ∈ wr \/ s.heap.get? b = none)
  (hz : ∀ b ∈ wr, Z.get? b = none) (hk : ∀ b o, s_1.heap.get? b = some o -> h'.get? b = some o) : StX (· ∈ wr) (· = g) Ω Z s Z { s_1.setGen g gs' with heap := h' } := by
 have keep : ∀ b o, b ∉ wr -> s.heap.get? b = some o -> s_1.heap.get? b = some o := fun b o nb eo => SX.h b o (fun hb => by
  refine Or.elim (hW b hb) (fun h => ?_) fun h => ?_
  ·exact nb h
  ·exact za (h.symm.trans eo)) eo
 have hgk : ∀ (i : Nat) (y : GenState), i ≠ g -> s.gens[i]? = some y -> s_1.gens[i]? = some y := fun i y hi ey => SX.g i y (fun h => h) (by
  rw [Array.getElem?_setIfInBounds_ne (Ne.symm hi)]; exact ey)
 refine ⟨⟨fun b o eo => hk _ _ (keep b o (fun hb => by exact za ((hz b hb).symm.trans eo)) (hO.sub b o eo)), hO.base, SX.ok.os, zfG SX.ok.gens hb⟩, .refl _, fun u v w x => rfl, fun b o nb eo => hk _ _ (keep b o nb eo), fun i y ni ey => ?_, ?_⟩
 ·rw [Array.getElem?_setIfInBounds_ne (Ne.symm ni)]
  exact hgk i y ni ey
 ·have := SX.gs
  show s.gens.size <= (s_1.gens.setIfInBounds g gs').size
  have h2 : (s.setGen g .running).gens.size = s.gens.size := by simp [Shared.setGen]
  simp only [Array.size_setIfInBounds]
  lia
theorem zn7 {m : Nat} {e it : Addr} {fp wr : List Addr} {v : Value} {gs gs' : GenState} (hO : Ok Ω Z s) (hg : s.heap.IsGen a g) (hgs : s.gens[g]? = some gs) (hW : ∀ b ∈ [env.locals, e, it], b ∈ wr \/ s.heap.get? b = none)
  (hz : ∀ b ∈ wr, Z.get? b = none) (hsub : ∀ b ∈ wr, b ∈ fp) (haf : a ∈ fp) (ha : a ∉ [env.locals, e, it]) (hm : m < (zab x).length) (hb : gs'.bare = true)
  (hy : zfh Ω (zF x.cps.toList false) env.locals e it (zab x) m (s.setGen g .running) v s_1 fun r' s'' => gs'.Goes Ω.m A.in1 (zhw Ω (zF x.cps.toList false) env.locals e it) (zfh Ω (zF x.cps.toList false) env.locals e it (zab x)) m r' s'') :
  ∃ Z_1 fp' wr' q, (zab x)[(zab x).length - 1 - m]? = some q /\ StX (· ∈ wr) (· = g) Ω Z s Z_1 (s_1.setGen g gs') /\ Rep Z_1 v (zeJ q) /\
   GSt Ω A env ad p a g x fp' wr' (((zab x).drop ((zab x).length - m)).map zeJ) Z_1 (s_1.setGen g gs') /\ (∀ b ∈ fp', b ∈ fp \/ s.heap.get? b = none) /\ ∀ b ∈ wr', b ∈ fp' /\ (b ∈ wr \/ s.heap.get? b = none) := by
 refine cps fun G0 hG_0 => ?_
 obtain ⟨t, q, y, t1, t2, k, Z_1, hidx, e9, hn, htn, ht, SX, hlive, hkap⟩ := hy; obtain rfl := e9.symm
 have zW : ∀ b ∈ [env.locals, e, it], Z.get? b = none := fun b hb => by
  refine Or.elim (hW b hb) (fun h => ?_) fun h => ?_
  ·exact hz b h
  ·exact hO.sub.none h
 obtain ⟨Z_2, S_2, hz2, f2, hoff⟩ := (zn6 (gs' := gs') (h' := s_1.heap) hO SX hb hW hz (fun u w e => e)).freezeNew (a := t) hn (hO.sub.none hn) ht
 refine hG_0 ?_
 have htW : ∀ b ∈ fqs (zF x.cps.toList false) env.locals e it m, b ≠ t -> Z_2.get? b = none := fun b hb nb => by rw [hoff b nb]; exact zW b (zeL hb)
 have hgs_1 : s_1.gens[g]? = some .running := SX.g g _ (fun h => h) (setGen_self hgs)
 have hne : ∀ b ∈ fqs (zF x.cps.toList false) env.locals e it m, b ≠ t := fun b hb e => htn (e ▸ zeL hb)
 refine I46 Z_2 _ _ (q, y) hidx S_2 (zaq.mpr (I33 t _ k rfl hz2 (.cons (zo.mpr ⟨_, rfl⟩) (.one (zU.mpr ⟨_, rfl⟩))))) (.inr ⟨e, it, m, gs', rfl, rfl, Nat.le_of_lt hm, rfl, (E32 hg fun o nm qn ho r =>  (I32 o nm qn (SX.h a o ha ho) r)), setGen_self hgs_1, ha, ?_, fun b hb => ⟨hlive b hb, htW b hb (hne b hb)⟩, fun s'' h => ?_⟩) ?_ ?_
 ·intro h0 b hb
  unfold fqs
  rw [if_neg (fun h => h0 h.1)]; exact hb
 ·exact hkap s'' ⟨h.1, fun b hb o ho => h.2 b hb o ho⟩
 ·intro b hb
  rcases List.mem_cons.mp hb with rfl | hb
  ·exact .inl haf
  ·exact (hW b (zeL hb)).imp (hsub b) id
 ·intro b hb
  exact ⟨List.mem_cons_of_mem _ hb, hW b (zeL hb)⟩
theorem zfH {W : Addr -> Prop} {GI : Nat -> Prop} (h : s.heap.IsGen a g) (S : StX W GI Ω Z s Z' s') (ha : ¬ W a) : s'.heap.IsGen a g :=
 E32 h fun o nm qn ho r =>  (I32 o nm qn (S.h a o ha ho) r)
theorem zn8 {fp wr : List Addr} {xs : List PyData} (h : GSt Ω A env ad p a g x fp wr xs Z s) : s.heap.IsGen a g := h.elim (fun h => h.2.2.ho) fun h => E43 h fun _ _ _ _ _ _ h => h.ho
theorem zgV (h : s.heap.IsGen a g) : ∃ o, s.heap.get? a = some o := E32 h fun o _ _ ho _ => ⟨o, ho⟩
theorem zqY (b : Addr) (hb : b ∈ [env.locals, s.heap.objs.size + 1, s.heap.objs.size]) : b ∈ [env.locals] \/ s.heap.get? b = none := by
 simp only [List.mem_cons, List.not_mem_nil, or_false] at hb
 rcases hb with h | h | h
 ·exact .inl (by simp [h])
 ·exact .inr (zaa (h ▸ Nat.le_succ _))
 ·exact .inr (zaa (h ▸ Nat.le_refl _))
theorem ztK {fin : Bool} {m : Nat} {L e it : Addr} {full : List (Nat × Str)} {v : Value} (hy : zfh Ω fin L e it full m s_0 v s_1 fun _ _ => False) : False := by
 obtain ⟨t, q, y, t1, t2, k, Z_1, _, _, _, _, _, SX, _, hkap⟩ := hy
 exact hkap s_1 ⟨⟨SX.ok.base.trans SX.ok.sub, .refl _, SX.ok.os, SX.ok.gens⟩, fun b hb o eo => eo⟩
theorem zh8 {xh : PyData} {xs : List PyData} {q : Nat × Str} (h : xh :: xs = ((zab x).drop ((zab x).length - (xs.length + 1))).map zeJ) (hl : xs.length < (zab x).length) (hq : (zab x)[(zab x).length - 1 - xs.length]? = some q) :
  xh = zeJ q /\ xs = ((zab x).drop ((zab x).length - xs.length)).map zeJ := by
 constructor
 ·have := congrArg (·[0]?) h
  simp at this
  rw [show (zab x).length - (xs.length + 1) = (zab x).length - 1 - xs.length by lia, hq] at this
  simpa using this
 ·have := congrArg List.tail h
  rw [List.tail_cons, List.map_drop, List.tail_drop] at this
  rw [List.map_drop]
  exact this.trans (by congr 1; lia)
theorem zqZ (hO : Ok Ω Z s) (hR : Rel gTC env Z s.heap [some (.d (.str x)), none, none, none] ad) : Rel gTC env Ω.B (s.setGen g .running).heap [some (.d (.str x)), none, none, none] ad := zdI hR zn5 (by
 induction e0 : Ω.B.get? env.locals with
 | none => rfl
 | some o => exact absurd (hO.base _ _ e0) (by rw [hR.apL]; exact fun h => nomatch h)) fun o eo => eo
theorem zr3 (hA : Rm A 40) (G : Gl Ω.B Φ) (hsc : env.scope = zbd) (haL : a ≠ env.locals) : zjI Ω A (.ref a) (· = g) false (GSt Ω A env ad p a g x) (fun fp wr _ xs Z s => GSt Ω A env ad p a g x fp wr xs Z s) where
 sub := fun fp wr xs Z s h => by
  refine zn4 h (fun H b hb => ?_) fun e it m gs H b hb => ?_
  ·exact List.mem_cons_of_mem _ hb
  ·exact List.mem_cons_of_mem _ hb
 live := fun fp wr xs Z s h => by
  refine zn4 h (fun H => ?_) fun e it m gs H => ?_
  ·refine I03 (fun b hb => ?_) (fun b hb => ?_) fun i hi => ⟨_, hi ▸ H.hg⟩
   ·simp only [List.mem_cons, List.not_mem_nil, or_false] at hb
    refine hb.elim (fun h => h ▸ zgV H.ho) fun h => ?_
    obtain ⟨m, ⟨o, _, _, ho, _⟩, _⟩ := H.hR.loc; exact ⟨o, h ▸ ho⟩
   ·rw [List.mem_singleton] at hb; exact hb ▸ H.hR.apL
  ·refine I03 (fun b hb => ?_) (fun b hb => (H.hz b hb).2) fun i hi => ⟨_, hi ▸ H.hg⟩
   exact (List.mem_cons.mp hb).elim (fun h => h ▸ zgV H.ho) fun hb => (H.hz b hb).1
 frame := fun fp wr xs Z s W' GI' Z' s' h => by
  refine zn4 h (fun H S hd hgi => ?_) fun e it m gs H S hd hgi => ?_
  ·refine .inl ⟨rfl, rfl, H.ex, S.g g _ (hgi g rfl) H.hg, zfH H.ho S (hd a (by simp)), H.hR.stX S fun b hb => ?_⟩
   rw [zqX zn5 hb]; exact hd _ (by simp)
  ·refine .inr ⟨e, it, m, gs, rfl, rfl, H.hm, H.ex, zfH H.ho S (hd a (by simp)), S.g g _ (hgi g rfl) H.hg, H.hae, H.hq, fun b hb => ?_, fun s'' h => H.hgo s'' ⟨h.1, fun b hb o eo => h.2 b hb o (S.h b o (hd b (List.mem_cons_of_mem _ hb)) eo)⟩⟩
   have h1 := hd b (List.mem_cons_of_mem _ hb)
   exact E11 (H.hz b hb).1 fun o eo => ⟨⟨o, S.h b o h1 eo⟩, (S.new b o h1 eo).trans (H.hz b hb).2⟩
 next := fun fp wr xh xs Z s h hO => by
  have hl := G.lims hO
  have hroom : A.depth < recursionLimit := Nat.lt_of_le_of_lt (nle (Nat.le_add_right _ _) hA.depth) (by decide)
  refine zn4 h (fun H => ?_) fun e it m gs H => ?_
  ·
   have hal := E11 (zgV H.ho) fun _ h => Heap.lt_size h
   have hlen : (zab x).length = xs.length + 1 := by
    have := congrArg List.length H.ex
    simp at this; lia
   refine zci (P := fun n s_0 s_1 => n = 0 /\ ∃ Z_1, StX (· ∈ fqs (zF x.cps.toList false) env.locals (s.heap.objs.size + 1) s.heap.objs.size 0) (fun u => False) Ω Ω.B s_0 Z_1 s_1) hA.handled hl hroom H.ho H.hg
    ⟨rfl, zlI hA G hsc (gOk hO) (zqZ hO H.hR)⟩ (fun v s_1 gs' hb hy => ?_) (fun s_1 hp h' hk => absurd hp.1 (by lia))
   rw [hlen] at hy
   refine E46 (zn7 (fp := [a, env.locals]) (wr := [env.locals]) (ad := ad) (p := p) (m := xs.length) hO H.ho H.hg zqY (fun b hb => by rw [List.mem_singleton] at hb; exact hb ▸ H.hR.apL) (fun b hb => List.mem_cons_of_mem _ hb) (by simp) (by
     simp
     exact I03 haL (Nat.ne_of_lt (Nat.lt_succ_of_lt hal)) (Nat.ne_of_lt hal)) (by lia) hb hy) fun Z_1 fp' wr' q hidx S r hs h1 h2 => ?_
   obtain ⟨e1, e2⟩ := zh8 (by rw [<- hlen, Nat.sub_self]; exact H.ex) (by lia) hidx
   exact I46 v Z_1 fp' wr' rfl S (rwE e1 r) (rwE e2 hs) h1 h2
  ·
   have hlen : m = xs.length + 1 := by
    have := congrArg List.length H.ex
    have := H.hm
    simp at *; lia
   subst hlen
   have hm := H.hm
   refine zci (P := fun n s_0 s_1 => n = 0 /\ ∃ Z_1, StX (· ∈ fqs (zF x.cps.toList false) env.locals e it 0) (fun u => False) Ω Ω.B s_0 Z_1 s_1) hA.handled hl hroom H.ho H.hg
    (H.hgo _ ⟨gOk hO, fun b hb o eo => eo⟩) (fun v s_1 gs' hb hy => ?_) (fun s_1 hp h' hk => nomatch hp.1)
   refine E46 (zn7 (fp := a :: fqs (zF x.cps.toList false) env.locals e it (xs.length + 1)) (wr := fqs (zF x.cps.toList false) env.locals e it (xs.length + 1)) (ad := ad) (p := p) (m := xs.length) hO H.ho H.hg (fun b hb => .inl (H.hq (Nat.succ_ne_zero _) b hb))
     (fun b hb => (H.hz b hb).2) (fun b hb => List.mem_cons_of_mem _ hb) (by simp) H.hae hm hb hy) fun Z_1 fp' wr' q hidx S r hs h1 h2 => ?_
   obtain ⟨e1, e2⟩ := zh8 H.ex hm hidx
   exact I46 v Z_1 fp' wr' rfl S (rwE e1 r) (rwE e2 hs) h1 h2
 go := fun fp wr target v xs Z s h hO _ => by
  obtain ⟨o, nm, qn, ho, hc, _⟩ := zn8 h
  exact zfz ho hc (by decide +kernel) ⟨StX.refl hO, h⟩
 done := fun fp wr Z s h hO => by
  have hl := G.lims hO
  have hroom : A.depth < recursionLimit := Nat.lt_of_le_of_lt (nle (Nat.le_add_right _ _) hA.depth) (by decide)
  refine zn4 h (fun H => ?_) fun e it m gs H => ?_
  ·have hlen : (zab x).length = 0 := by
    have := congrArg List.length H.ex
    simp at this; simp [this]
   refine zci (P := fun n s_0 s_1 => n = 0 /\ ∃ Z_1, StX (· ∈ fqs (zF x.cps.toList false) env.locals (s.heap.objs.size + 1) s.heap.objs.size 0) (fun u => False) Ω Ω.B s_0 Z_1 s_1) hA.handled hl hroom H.ho H.hg
    ⟨rfl, zlI hA G hsc (gOk hO) (zqZ hO H.hR)⟩ (fun v s_1 gs' hb hy => ?_) (fun s_1 hp h' hk => ?_)
   ·rw [hlen] at hy
    exact (ztK hy).elim
   ·exact E11 hp.2 fun Z_1 SX => ⟨rfl, Z, zn6 (gs' := .finished) hO SX rfl (fun b hb => zqY b (zeL hb)) (fun b hb => by rw [List.mem_singleton] at hb; exact hb ▸ H.hR.apL) hk⟩
  ·have hlen : m = 0 := by
    have := congrArg List.length H.ex
    have := H.hm
    simp at *; lia
   subst hlen
   refine zci (P := fun n s_0 s_1 => n = 0 /\ ∃ Z_1, StX (· ∈ fqs (zF x.cps.toList false) env.locals e it 0) (fun u => False) Ω Ω.B s_0 Z_1 s_1) hA.handled hl hroom H.ho H.hg
    (H.hgo _ ⟨gOk hO, fun b hb o eo => eo⟩) (fun v s_1 gs' hb hy => (ztK hy).elim) (fun s_1 hp h' hk => ?_)
   exact E11 hp.2 fun Z_1 SX => ⟨rfl, Z, zn6 (gs' := .finished) hO SX rfl (fun b hb => .inl hb) (fun b hb => (H.hz b hb).2) hk⟩
 self := fun fp wr xs Z s h hO => wpAny_pyIter_gen (zn8 h) ⟨rfl, rfl⟩
end
structure zfI (B : Heap) (ga : Addr) : Prop where
 ex : ∃ o fd p, B.get? ga = some o /\ o.data = .func fd /\ fd.body = .stmts (zdp p) /\ fd.scope = zbd /\ fd.closure = [] /\ fd.globals = mainGlobals /\ fd.builtins = builtinsNs /\ B.CodeRec fd.code fd.qualname /\
  ∀ v : Value, bindArgs fd ⟨[v], []⟩ = pure [(("addr" : Str), v)]
section
variable {Ω : En} {A : Around} {Z Z' : Heap} {s s' s_0 s_1 : Shared}
 {Φ : Fs}
set_option tactic.hygienic true in
theorem zn9 (G : Gl Ω.B Φ) (F : zfI Ω.B Φ.ga) : zc3 Ω Φ.ga 40 := by
 intro A Z s v d xs hA hO r hd
 refine cps fun G0 hG_0 => ?_
 obtain ⟨o, fd, p, hof, hdf, hbody, hsc, hclo, hgl, hbl, hcd, hbind⟩ := F.ex
 refine hG_0 ?_
 have ho := hO.sub _ _ (hO.base _ _ hof)
 unfold znd at hd
 split at hd
 ·rename_i x
  refine ifE hd fun _ hd => ?_
  refine eqE hd ?_
  refine wpAny_call (codeAny_call_generator (Nat.lt_of_le_of_lt (nle (Nat.le_add_right _ _) hA.depth) (by decide)) ho hdf (by rw [hsc]; rfl) (by rw [hsc]; rfl) hbody (hcd.keeps (hO.base.trans hO.sub)) ?_)
  rw [hbind v]
  refine wPu (wpAny_newFunctionEnv (by rw [hsc]; decide) (by rw [hsc]; intro y hy; simp at hy; refine rwE hy ?_; show zbd.names.lookup (Str.ofString "addr") = _; decide +kernel) (fun h' hns hsb => ?_) (by rw [hsc]; rfl))
  let L := s.heap.objs.size
  let env : Env := newEnv fd.scope s.heap.objs.size fd.globals fd.closure (fd.qualname ++ ".<locals>.") (some Φ.ga) fd.code none fd.builtins
  have keep : ∀ b o, s.heap.get? b = some o -> h'.get? b = some o := fun b o eo => by
   rw [hsb.2 b (Nat.ne_of_lt (Heap.lt_size eo))]; exact Heap.get?_push_of_some _ eo
  have hsz : h'.objs.size = s.heap.objs.size + 1 := by rw [hsb.1, Heap.size_push]
  have hlim' : h'.NoLimit := E12 (G.lims hO) fun mc a b =>  (I12 mc (a.keeps keep) b)
  refine ⟨hlim', ?_⟩
  have hgen : ∀ {ob : Obj}, ob.cls = .type "generator" -> (∃ nm qn, ob.data = .fields #[.int s.gens.size 0, nm, qn]) -> ob.slots = #[] -> ob.isFreed = false -> (h'.push ob).IsGen h'.objs.size s.gens.size := fun h1 ⟨nm, qn, h2⟩ h3 h4 => I34 _ nm qn (Heap.get?_push_size _ h4) h1 h2 h3
  have keep2 : ∀ (ob : Obj) b o, s.heap.get? b = some o -> (h'.push ob).get? b = some o := fun ob b o eo => Heap.get?_push_of_some _ (keep b o eo)
  refine wpAny_pyIter_gen (g := s.gens.size) (hgen rfl (I21 _ _ rfl) rfl rfl) ?_
  have zL : Z.get? s.heap.objs.size = none := hO.sub.none (zj _)
  have R : Rel gTC env Z h' [some (.d (.str x)), none, none, none] (fun u => 0) := by
   refine { kind := by show fd.scope.kind = _; rw [hsc]; rfl, names := fun y => ?_, glob := hgl, blt := hbl, loc := I12 _ hns ?_, cel := ?_, apL := zL, injS := ?_, injC := ?_, own := ?_, ownInj := ?_, hi := ?_, slot := ?_, mainL := ?_ }
   ·show fd.scope.names.lookup y = _
    rw [hsc]; exact zbH
   ·intro y i pv e q
    have hy := zgU e
    match i, hy, q with
    | 0, hy, q =>
     refine zaE hy ?_; cases q
     exact I12 v (rfl) r
    | 1, hy, q => cases q
    | 2, hy, q => cases q
    | 3, hy, q => cases q
    | (n + 4), hy, q => exact za q
   ·intro y k i e hk
    rcases zdq e with rfl | rfl <;> rcases hk with h | h <;> cases h
   ·intro y z k k' i h1 h2 _ _
    have h1 := zgU h1
    have h2 := zgU h2
    refine zaE (h1.symm.trans h2) ?_; rfl
   ·intro y z b h1 h2
    have h1 : fd.closure.lookup y = some b := h1
    rw [hclo] at h1; exact za h1
   ·intro i xs e
    obtain ⟨d, h, _⟩ := zn5 i _ e
    cases h
   ·intro i j xs ys e
    obtain ⟨d, h, _⟩ := zn5 i _ e
    cases h
   ·intro i pv e
    show i < 5
    refine Or.elim (Nat.lt_or_ge i 4) (fun h => ?_) fun h => ?_
    ·lia
    ·exact za ((List.getElem?_eq_none (by simpa using h)).symm.trans e)
   ·intro y k i e _
    have h := zgU e
    refine Or.elim (Nat.lt_or_ge i 5) (fun h' => ?_) fun h' => ?_
    ·exact h'
    ·exact za ((List.getElem?_eq_none (by simpa [zbd] using h')).symm.trans h)
   ·intro e
    obtain ⟨mg, mb, ⟨o', _, _, hm, _⟩, _⟩ := G.ns
    have h1 := Heap.lt_size (hO.sub _ _ (hO.base _ _ hm))
    rw [<- e] at h1
    exact Nat.lt_irrefl _ h1
  refine ⟨[h'.objs.size, env.locals], [env.locals], (· = s.gens.size), _, _, Z, ⟨⟨hO.sub.trans (keep2 _), hO.base, hO.os, hO.gens.push rfl⟩, .refl _, fun u w c => rfl, keep2 _, fun i y e => ?_⟩, zr3 (env := env) (ad := fun u => 0) (p := p) (g := s.gens.size) (x := x) hA G hsc ?_, .inl ⟨rfl, rfl, zr0 _, Array.getElem?_push_size .., hgen rfl (I21 _ _ rfl) rfl rfl, ?_⟩, ?_, fun i hi => Nat.le_of_eq hi.symm, ?_⟩
  ·have hi : i < s.gens.size := by
    refine Or.elim (Nat.lt_or_ge i s.gens.size) (fun h => ?_) fun h => ?_
    ·exact h
    ·exact za ((Array.getElem?_eq_none h).symm.trans e)
   rw [Array.getElem?_push_lt hi]
   rw [<- Array.getElem?_eq_getElem hi]; exact e
  ·rw [hsz]; exact Nat.succ_ne_self _
  ·exact zdI R zn5 zL fun o ho => Heap.get?_push_of_some _ ho
  ·intro b hb
   rw [List.mem_singleton] at hb; refine rwE hb ?_; exact zj _
  ·intro b hb
   refine zaZ hb ?_ ?_
   ·exact .inl (zaa (by rw [hsz]; exact Nat.le_succ _))
   ·exact .inl (zj _)
 ·exact za hd
end
noncomputable def zdJ (name qual : Str) (params : Arguments) (body : List Stmt) (scope : Scope) (g : Addr) (cl : List (Str × Addr)) (pm : Value) (c' T : Addr) : FuncData :=
 {name := name, qualname := qual, params := params, body := .stmts body, scope := scope, globals := g, closure := cl, defaults := .none, kwdefaults := .none, doc := .none, pyModule := pm, annotations := none,
  code := .ref c', closureTuple := .ref T, builtins := builtinsNs }
def zbe (h : Heap) (c P : Addr) (pos : Pos) (q : Str) (hit : Bool) : Prop :=
 if hit = true then ∃ ps c', h.IsCode c P ps /\ h.TableAt c P ps /\ codeAmong pos ps.toList = some (.ref c') /\ h.CodeRec (.ref c') q
 else h.IsCode c P #[] /\ h.TableAt c P #[]
section
variable {Ω : En} {A : Around} {E : Value -> Shared -> Prop} {s : Shared} {env : Env}
theorem z0 {h h' : Heap} {c P : Addr} {pos : Pos} {q : Str} {hit : Bool} (x : zbe h c P pos q hit) (k : ∀ b o, h.get? b = some o -> h'.get? b = some o) : zbe h' c P pos q hit := by
 unfold zbe at x |-
 split
 ·rename_i e
  rw [if_pos e] at x
  obtain ⟨ps, c', a, b, d, e⟩ := x
  exact I24 ps c' (a.keeps k) (b.keeps k) d (e.keeps k)
 ·rename_i e
  rw [if_neg e] at x
  exact ⟨x.1.keeps k, x.2.keeps k⟩
theorem zdS {c P : Addr} {pos : Pos} {firstLine : Nat} {name q : Str} {p : Arguments} {scope : Scope} {body : FuncBody} {hit : Bool} {Q : Value -> Shared -> Prop}
  (hc : env.code = .ref c) (X : zbe s.heap c P pos q hit)
  (h : ∀ c' h' tk, (∀ b o, (hit = false -> b ≠ P) -> s.heap.get? b = some o -> h'.get? b = some o) -> zbe h' c P pos q true -> h'.CodeRec (.ref c') q ->
   (hit = false -> s.heap.get? c' = none /\ ∃ l, h'.TableAt c P l /\ ∃ more, l = #[] ++ more) -> Q (.ref c') { s with heap := h', toks := tk }) :
  wpAny Ω.m A (functionCode env pos firstLine name q p scope body) Q E s := by
 induction hit with
 | true =>
  obtain ⟨ps, c', a, b, d, e⟩ := X
  exact wpAny_functionCode_hit hc a d (h c' s.heap s.toks (fun u v w e => e) (I24 ps c' a b d e) e (fun h => nomatch h))
 | false =>
  obtain ⟨a, b⟩ := X
  refine wpAny_functionCodeX hc a b rfl fun c' h' tk hx hge hlt hok hrec htb u => ?_
  refine h c' h' tk (fun b o hb e => hx b o (hb rfl) e) (I24 _ c' hok htb ?_ hrec) hrec fun u => ⟨?_, _, htb, _, rfl⟩
  ·have := codeAmong_snoc (pos := pos) (c := .ref c') [] trivial rfl
   simpa using this
  ·exact zaa hge
theorem zfX {c P : Addr} {pos : Pos} {name q : Str} {params : Arguments} {body : List Stmt} {scope : Scope} {cl : List (Str × Addr)} {mg : Str -> Option Value} {hit : Bool} {Q : Value -> Shared -> Prop}
  (hcl : closureFor scope env = pure cl) (hne : cl.isEmpty = false) (hdoc : docOf body = none) (hkw : params.kwonlyargs = []) (hg : s.heap.Ns env.globals mg) (hc : env.code = .ref c) (X : zbe s.heap c P pos q hit)
  (hgP : env.globals ≠ P) (hb : s.heap.BuiltinsAt mg P)
  (h : ∀ c' F T h' tk pm, (∀ b o, (hit = false -> b ≠ P) -> s.heap.get? b = some o -> h'.get? b = some o) -> zbe h' c P pos q true -> h'.CodeRec (.ref c') q -> (hit = false -> s.heap.get? c' = none /\ ∃ l, h'.TableAt c P l /\ ∃ more, l = #[] ++ more) ->
   s.heap.get? F = none -> (hit = false -> F ≠ P) -> h'.get? F = some { cls := .type "function", data := .func (zdJ name q params body scope env.globals cl pm c' T) } -> Q (.ref F) { s with heap := h', toks := tk }) :
  wpAny Ω.m A (makeFunction name q params (.stmts body) scope env [] [] [] pos pos.line) Q E s := by
 simp only [makeFunction, hkw, List.zip_nil_left, List.filterMap_nil, List.isEmpty_nil, if_true, pure_bind, hcl, hdoc, hne, Bool.false_eq_true, if_false]
 have hPlt : P < s.heap.objs.size := by
  induction hit with
  | true => obtain ⟨ps, c', a, b, _⟩ := X; exact Heap.lt_size b.2
  | false => exact Heap.lt_size X.2.2
 refine wB (wB (wpAny_alloc (wPu ?_)))
 refine wB (zdS hc (z0 X fun b o e => Heap.get?_push_of_some _ e) fun c' h' tk hk hX hrec hmiss => ?_)
 obtain ⟨bm, o, hbm, hne0, hneg, hneP, hbo, hcls, hdict, hdata⟩ := hb
 have hg' : h'.Ns env.globals mg := hg.at' fun o e => hk _ _ (fun u => hgP) (Heap.get?_push_of_some _ e)
 refine wB (wpAny_builtinsFor hg' hbm hne0 (hk _ _ (fun u => hneP) (Heap.get?_push_of_some _ hbo)) hcls hdict hdata ?_)
 refine wB (wpAny_nsGet hg' ?_)
 simp
 have hT : h'.get? s.heap.objs.size ≠ none := by
  rw [hk _ _ (fun u => (Nat.ne_of_gt hPlt)) (Heap.get?_push_size _ rfl)]
  exact fun h => nomatch h
 have hTlt : s.heap.objs.size < h'.objs.size := by
  induction e : h'.get? s.heap.objs.size with
  | none => exact absurd e hT
  | some o => exact Heap.lt_size e
 refine wB (wpAny_alloc (wPu ?_))
 refine h c' h'.objs.size s.heap.objs.size _ _ _ (fun b o hb e => Heap.get?_push_of_some _ (hk b o hb (Heap.get?_push_of_some _ e))) (z0 hX fun b o e => Heap.get?_push_of_some _ e) (hrec.push _) (fun hh => ?_) (zaa (Nat.le_of_lt hTlt)) (fun u => Nat.ne_of_gt (Nat.lt_trans hPlt hTlt)) (Heap.get?_push_size _ rfl)
 refine cps fun G0 hG_0 => ?_
 obtain ⟨a, l, b, m, e⟩ := hmiss hh
 refine hG_0 ?_
 refine ⟨?_, l, b.keeps fun b o e => Heap.get?_push_of_some _ e, m, e⟩
 induction e0 : s.heap.get? c' with
 | none => rfl
 | some o => cases (show (s.heap.push _).get? c' = some o from Heap.get?_push_of_some _ e0).symm.trans a
theorem zgW {c P : Addr} {pos : Pos} {name q : Str} {params : Arguments} {body : List Stmt} {scope : Scope} {cl : List (Str × Addr)} {mg : Str -> Option Value} {hit : Bool} {Q : Flow -> Shared -> Prop} {ci : Addr} {v₀ : Option Value}
  (hexec : exec (.FunctionDef name params body [] none [] scope none name pos) env = (do standAt pos; let f <- holding [] (makeFunction name (qualnameIn env name name) params (.stmts body) scope env [] [] [] pos pos.line); standAt pos; bindName env name f; pure .next))
  (hq : qualnameIn env name name = q)
  (hcl : closureFor scope env = pure cl) (hne : cl.isEmpty = false) (hdoc : docOf body = none) (hkw : params.kwonlyargs = []) (hg : s.heap.Ns env.globals mg) (hc : env.code = .ref c) (X : zbe s.heap c P pos q hit)
  (hgP : env.globals ≠ P) (hb : s.heap.BuiltinsAt mg P) (hk : env.scope.kind = .function) (hl : env.kindOf name = some .cell) (hcc : env.cells.lookup name = some ci) (hv : s.heap.IsCell ci v₀) (hciP : ci ≠ P) (hcic : ci ≠ c)
  (h : ∀ c' F T h' tk pm, (∀ b o, b ≠ ci -> (hit = false -> b ≠ P) -> s.heap.get? b = some o -> h'.get? b = some o) -> h'.IsCell ci (some (.ref F)) -> h'.CodeRec (.ref c') q -> (hit = false -> s.heap.get? c' = none /\ ∃ l, h'.TableAt c P l /\ ∃ more, l = #[] ++ more) ->
   zbe h' c P pos q true -> s.heap.get? F = none -> h'.get? F = some { cls := .type "function", data := .func (zdJ name q params body scope env.globals cl pm c' T) } -> Q .next { s with heap := h', toks := tk }) :
  wpAny Ω.m A (exec (.FunctionDef name params body [] none [] scope none name pos) env) Q E s := by
 rw [hexec, hq]
 refine wB (wpAny_standAt (wB (wpAny_holding (zfX hcl hne hdoc hkw hg hc X hgP hb fun c' F T h' tk pm hk' hX hrec hmiss hF hFP hf => ?_))))
 obtain ⟨o, ho, hd⟩ := id hv
 have hv' : h'.IsCell ci v₀ := I12 o (hk' _ _ (fun u => hciP) ho) hd
 have hFc : F ≠ ci := by rintro rfl; exact za (hF.symm.trans ho)
 have hc'c : ∀ {o'}, h'.get? c' = some o' -> (∃ vs, o'.data = .fields vs) -> c' ≠ ci := by
  rintro o' e ⟨vs, hvs⟩ rfl
  obtain ⟨o2, ho2, hd2⟩ := hv'
  cases e.symm.trans ho2
  cases hvs.symm.trans hd2
 refine wB (wpAny_standAt (wB (wpAny_bindName (wpAny_storeName_cell hk hl hcc hv' fun h'' hcell hs => wPu ?_))))
 have kk : ∀ b o, b ≠ ci -> h'.get? b = some o -> h''.get? b = some o := fun b o hb e => (hs.2 b hb).trans e
 have recK : ∀ {c2 : Addr}, h'.CodeRec (.ref c2) q -> h''.CodeRec (.ref c2) q := fun hr => by
  obtain ⟨c2, o2, vs2, t2, e2, g2, d2, r2⟩ := hr
  refine rwE e2 ?_
  refine I44 _ o2 vs2 t2 rfl (kk _ _ ?_ g2) d2 r2
  rintro rfl
  obtain ⟨o3, ho3, hd3⟩ := hv'
  cases g2.symm.trans ho3
  cases d2.symm.trans hd3
 have tabK : ∀ {ps}, h'.TableAt c P ps -> h''.TableAt c P ps := fun ht => let ⟨⟨o, vs, e, r⟩, e'⟩ := ht; ⟨(I22 o vs (kk _ _ (Ne.symm hcic) e) r), kk _ _ (Ne.symm hciP) e'⟩
 refine h c' F T h'' tk pm (fun b o hb hb' e => kk b o hb (hk' b o hb' e)) hcell (recK hrec) (fun hh => ?_) ?_ hF (kk _ _ hFc hf)
 ·obtain ⟨a, l, b, m⟩ := hmiss hh
  exact ⟨a, l, tabK b, m⟩
 ·obtain ⟨ps, c2, a, b, d, e⟩ := hX
  refine I24 ps c2 ?_ (tabK b) d (recK e)
  refine cps fun G0 hG_0 => ?_
  obtain ⟨o, vs, file, tf, flags, tg, inF, text, tt, op, ho, r1, r2, r3, r4, r5, r6, hop, r⟩ := a
  refine hG_0 ?_
  exact ⟨o, vs, file, tf, flags, tg, inF, text, tt, op, kk _ _ (Ne.symm hcic) ho, r1, r2, r3, r4, r5, r6, kk _ _ (Ne.symm hciP) hop, r⟩
end
structure FnB (B : Heap) (a : Addr) (np : Nat) (fd : FuncData) (src : List Stmt) : Prop where
 ex : ∃ o ps, B.get? a = some o /\ o.data = .func fd /\ fd.body = .stmts src /\ fd.closure = [] /\ fd.globals = mainGlobals /\ fd.builtins = builtinsNs /\ B.CodeRec fd.code fd.qualname /\
  fd.scope.kind = .function /\ fd.scope.isCoroutine = false /\ fd.scope.isGenerator = false /\ zaA (fd.scope.names.map (·.1)) = true /\ (fd.scope.names.all fun p => p.2 == NameKind.local || p.2 == NameKind.cell || p.2 == NameKind.globalImplicit) = true /\
  ps.length = np /\ (∀ vals : List Value, vals.length = np -> bindArgs fd ⟨vals, []⟩ = pure (ps.zip vals)) /\ zaA ps = true /\ (∀ (j : Nat) (x : Str), ps[j]? = some x -> ∃ k : NameKind, fd.scope.names[j]? = some (x, k) /\ (k = NameKind.local \/ k = NameKind.cell))
section
variable {Ω : En} {A : Around} {Z Z' Z'' : Heap} {s s' s'' : Shared} {c : TC} {env : Env} {ρ ρ' ρ'' : Rho} {ad ad' ad'' : Nat -> Addr} {fl : Fl}
 {Φ : Fs} {S : Sv} {n m : Nat}
theorem zfi (G : Gl Ω.B Φ) (hA : Rm A (n + 1)) {a : Addr} {np ns : Nat} {fd : FuncData} {src : List Stmt} (F : FnB Ω.B a np fd src) {args : List PyData} {vals : List Value} {Q : Value -> Shared -> Prop}
  (hl : args.length = np) (hO : Ok Ω Z s) (r : zv Z vals args)
  (hrun : ∀ h_1 tk, Stp Ω Z s Z { s with heap := h_1, toks := tk } -> Rel (zeb Φ.fns Φ.cst Φ.gen fd.scope src) (callEnvC fd s.heap.objs.size a) Z h_1 (args.map (fun d => some (.d d)) ++ List.replicate ns none) (fun u => 0) ->
   (∀ b, Own (zeb Φ.fns Φ.cst Φ.gen fd.scope src) (callEnvC fd s.heap.objs.size a) (args.map (fun d => some (.d d)) ++ List.replicate ns none) (fun u => 0) b -> s.heap.get? b = none) -> Rm (A.deeper (callEnvC fd s.heap.objs.size a)) n ->
   wpAny Ω.m (A.deeper (callEnvC fd s.heap.objs.size a)) (execs src (callEnvC fd s.heap.objs.size a)) (fun f s_2 => Q (match f with | .ret v => v | _ => .none) s_2) zc { s with heap := h_1, toks := tk }) :
  wpAny Ω.m A (call (.ref a) vals) Q zc s := by
 refine cps fun G0 hG_0 => ?_
 obtain ⟨o, ps, ho, hof, hbody, hclo, hgl, hbl, hcd, hk, hco, hge, hnd, hkinds, hpl, hbind, hpn, hps⟩ := F.ex
 refine hG_0 ?_
 have hlim := G.lims hO
 have hvl : vals.length = np := by rw [r.length, hl]
 have hkd : ∀ x k, (x, k) ∈ fd.scope.names -> k = .local \/ k = .cell \/ k = .globalImplicit := by
  intro x k hm
  have := List.all_eq_true.mp hkinds _ hm
  simp only [Bool.or_eq_true, beq_iff_eq] at this
  rcases this with (h | h) | h
  ·exact .inl h
  ·exact .inr (.inl h)
  ·exact .inr (.inr h)
 have hlook : ∀ x k, (x, k) ∈ fd.scope.names -> fd.scope.names.lookup x = some k := fun x k hm => za0 hnd hm
 have cells := zcE fd.scope.names (s.heap.push { cls := .type "frame", data := .dict #[] }) []
 rw [show (s.heap.push { cls := .type "frame", data := .dict #[] }).objs.size = s.heap.objs.size + 1 from Heap.size_push ..] at cells
 obtain ⟨c1, c2, c3⟩ := cells
 refine wpAny_call (codeAny_call_cells (binds := ps.zip vals) (Nat.lt_of_le_of_lt (nle (Nat.le_add_right _ _) hA.depth) (by decide)) (hO.sub _ _ (hO.base _ _ ho)) hof hlim (hcd.keeps (hO.base.trans hO.sub)) hbody (hbind vals hvl) hclo ?_ (fun s_1 X => ?_) hco hge hk)
 ·intro x hx
  refine cps fun G0 hG_0 => ?_
  obtain ⟨hx1, _⟩ := List.of_mem_zip hx
  obtain ⟨j, hj⟩ := List.getElem?_of_mem hx1
  obtain ⟨k, hk', hkk⟩ := hps j _ hj
  refine hG_0 ?_
  have hm := List.mem_of_getElem? hk'
  rcases hkk with rfl | rfl
  ·exact .inl (hlook _ _ hm)
  ·refine .inr ⟨hlook _ _ hm, ?_⟩
   obtain ⟨a', ha'⟩ := c2 x.1 (.inl hm)
   rw [ha']; rfl
 ·
  let env := callEnvC fd s.heap.objs.size a
  obtain ⟨h_1, tk, e9⟩ := X.toInCall.same; obtain rfl := e9.symm
  have S_1 : Stp Ω Z s Z { s with heap := h_1, toks := tk } := Stp.grow hO X.toInCall.keep
  let c := zeb Φ.fns Φ.cst Φ.gen fd.scope src
  have hbind' : ∀ (i : Nat) (x : Str) (k : NameKind), fd.scope.names[i]? = some (x, k) -> ∀ (pv : PV), (args.map (fun d => some (PV.d d)) ++ List.replicate ns none)[i]? = some (some pv) -> ∃ v d, ps[i]? = some x /\ vals[i]? = some v /\ pv = PV.d d /\ Rep Z v d := by
   intro i x k hx pv hp
   obtain ⟨d, hd, e9⟩ := zar hp; refine rwE e9 ?_
   obtain ⟨v, hv, rv⟩ := r.get hd
   have hi : i < ps.length := by
    rw [hpl, <- hvl]
    refine Or.elim (Nat.lt_or_ge i vals.length) (fun h => ?_) fun h => ?_
    ·exact h
    ·exact za ((List.getElem?_eq_none h).symm.trans hv)
   obtain ⟨k', hk', _⟩ := hps i _ (List.getElem?_eq_getElem hi)
   have hk' := hx ▸ hk'; cases hk'
   exact I24 v d (List.getElem?_eq_getElem hi) hv rfl rv
  have hslot : ∀ x k i, c.nm.lookup x = some (k, i) -> fd.scope.names[i]? = some (x, k) := fun x k i h => by
   have := (zbx h).2
   simpa using this
  have fresh : ∀ b, s.heap.objs.size <= b -> Z.get? b = none := fun b hb => hO.sub.none (zaa hb)
  have R : Rel c env Z h_1 (args.map (fun d => some (.d d)) ++ List.replicate ns none) (fun u => 0) := by
   refine { kind := hk, names := fun x => zbH, glob := hgl, blt := hbl, loc := I12 _ X.toInCall.ns ?_, cel := ?_, apL := fresh _ (Nat.le_refl _), injS := ?_, injC := ?_, own := ?_, ownInj := ?_, hi := ?_, slot := ?_, mainL := ?_ }
   ·intro x i pv e q
    have hx := hslot x _ i e
    obtain ⟨v, d, h1, h2, e9, rv⟩ := hbind' i x _ hx pv q; refine rwE e9 ?_
    exact I12 v (zgP hpn h1 h2 (hlook _ _ (List.mem_of_getElem? hx))) rv
   ·intro x k i e hkk
    have hx := hslot x k i e
    have hm := List.mem_of_getElem? hx
    have hkc : k = .cell := by
     refine Or.elim hkk (fun h => ?_) fun h => ?_
     ·exact h
     ·rcases hkd x k hm with h' | h' | h' <;> rw [h'] at h <;> cases h
    subst hkc
    obtain (⟨a', ha'⟩) := c2 x (.inl hm)
    refine I24 a' _ ha' (X.cell x a' ha') ?_ (fun pv q => ?_)
    ·refine Or.elim (c1 x a' ha') (fun h9 => ?_) fun h => ?_
     ·obtain ⟨_, h, _⟩ := h9
      exact fresh _ (Nat.le_of_succ_le h)
     ·exact za h
    ·refine cps fun G0 hG_0 => ?_
     obtain ⟨v, d, h1, h2, e9, rv⟩ := hbind' i x _ hx pv q; obtain rfl := e9.symm
     refine hG_0 ?_
     refine I12 v (zgQ hpn h1 h2 ?_) rv
     show fd.scope.names.lookup x ≠ some .local
     rw [hlook _ _ hm]; decide
   ·intro x y k k' i hx hy _ _
    have h1 := hslot x k i hx
    refine zaE (h1.symm.trans (hslot y k' i hy)) ?_; rfl
   ·intro x y b hx hy
    exact name_of_addr X.apart (mem_of_lookup hx) (mem_of_lookup hy)
   ·intro i xs e
    obtain ⟨d, _, h⟩ := zar e
    cases h
   ·intro i j xs ys e
    obtain ⟨d, _, h⟩ := zar e
    cases h
   ·intro i pv e
    obtain ⟨d, h, _⟩ := zar e
    have : i < args.length := by
     refine Or.elim (Nat.lt_or_ge i args.length) (fun h' => ?_) fun h' => ?_
     ·exact h'
     ·exact za ((List.getElem?_eq_none h').symm.trans h)
    have hi : i < ps.length := by rw [hpl, <- hl]; exact this
    obtain ⟨k', hk', _⟩ := hps i _ (List.getElem?_eq_getElem hi)
    refine Or.elim (Nat.lt_or_ge i fd.scope.names.length) (fun h' => ?_) fun h' => ?_
    ·exact h'
    ·exact za ((List.getElem?_eq_none h').symm.trans hk')
   ·intro x k i e _
    have h := hslot x k i e
    refine Or.elim (Nat.lt_or_ge i fd.scope.names.length) (fun h' => ?_) fun h' => ?_
    ·exact h'
    ·exact za ((List.getElem?_eq_none h').symm.trans h)
   ·intro e
    obtain ⟨mg, mb, ⟨o', _, _, hm, _⟩, _⟩ := G.ns
    have h1 := Heap.lt_size (hO.sub _ _ (hO.base _ _ hm))
    have h1 := e ▸ h1
    exact Nat.lt_irrefl _ h1
  have hA' : Rm (A.deeper env) n := hA.deep
  have hfo : ∀ b, Own c env (args.map (fun d => some (PV.d d)) ++ List.replicate ns none) (fun u => 0) b -> s.heap.get? b = none := by
   intro b h9; rcases h9 with h | ⟨x, k, i, e, _, _, hc⟩ | ⟨i, xs, e, _⟩
   ·refine rwE h ?_; exact zj _
   ·refine Or.elim (c1 x b hc) (fun h9 => ?_) fun h => ?_
    ·obtain ⟨_, h, _⟩ := h9
     exact zaa (Nat.le_of_succ_le h)
    ·exact za h
   ·obtain ⟨d, _, h⟩ := zar e
    cases h
  exact wpAny_mono (hrun h_1 tk S_1 R hfo hA') (fun f s_2 p => p) fun u w x => x.elim
end
section
variable (p : Nat -> Pos)
noncomputable abbrev eN (x : Str) (i : Nat) : PySem.Expr := .Name x (p i)
noncomputable abbrev eI (k : Int) (i : Nat) : PySem.Expr := .Constant (.int k) 0 (p i)
noncomputable abbrev eB (a : PySem.Expr) (o : Operator) (b : PySem.Expr) (i : Nat) : PySem.Expr := .BinOp a o b (p i)
noncomputable abbrev eC (f : PySem.Expr) (as : List PySem.Expr) (i : Nat) : PySem.Expr := .Call f as [] (p i)
noncomputable abbrev sA (x : Str) (i : Nat) (e : PySem.Expr) (j : Nat) : Stmt := .Assign [.Name x (p i)] e (p j)
noncomputable abbrev zjX (x : Str) (i : Nat) : Arg := { arg := x, annotation := none, pos := p i }
noncomputable abbrev zoa (as : List Arg) : Arguments := { posonlyargs := [], args := as, vararg := none, kwonlyargs := [], kw_defaults := [], kwarg := none, defaults := [] }
end
noncomputable abbrev zf9 (ns : List (Str × NameKind)) : Scope := { kind := .function, names := ns, isGenerator := false, isCoroutine := false, more := [] }
abbrev zlJ (p : Nat -> Pos) (i : Nat) (then_ : List Stmt) (j : Nat) : Stmt :=
 .If (.Compare (eB p (eN p "L" i) .Add (eI p 1 (i + 1)) (i + 2)) [.Eq] [eN p "R" (i + 3)] (p (i + 4))) then_ [] (p j)
abbrev zq0 (p : Nat -> Pos) (i : Nat) : Stmt := sA p "mid" i (eB p (eB p (eN p "L" (i + 1)) .Add (eN p "R" (i + 2)) (i + 3)) .RShift (eI p 1 (i + 4)) (i + 5)) (i + 6)
abbrev zlK (p : Nat -> Pos) (i : Nat) : Stmt := sA p "shift" i (eB p (eB p (eN p "mid" (i + 1)) .Sub (eN p "L" (i + 2)) (i + 3)) .Mult (eN p "n" (i + 4)) (i + 5)) (i + 6)
abbrev ztL (p : Nat -> Pos) (i : Nat) (a b : Str) : PySem.Expr := eC p (eN p "inner" i) [eN p a (i + 1), eN p b (i + 2)] (i + 3)
abbrev zq1 (p : Nat -> Pos) (i : Nat) (x a b : Str) : Stmt := .Expr (eC p (eN p "inner" i) [eN p x (i + 1), eN p a (i + 2), eN p b (i + 3)] (i + 4)) (p (i + 5))
def zfj (p : Nat -> Pos) : Arguments := zoa [zjX p "L" 2, zjX p "R" 3]
def zcF (p : Nat -> Pos) : List Stmt := [
 zlJ p 4 [.Return (some (.Subscript (eN p "digits" 9) (eN p "L" 10) (p 11))) (p 12)] 13,
 zq0 p 14, zlK p 21,
 .Return (some (eB p (eB p (ztL p 28 "mid" "R") .LShift (eN p "shift" 32) 33) .Add (ztL p 34 "L" "mid") 38)) (p 39)]
def zaR : Scope := zf9 [("L", .local), ("R", .local), ("mid", .local), ("shift", .local), ("digits", .free), ("inner", .free), ("n", .free)]
noncomputable def zb5 (p : Nat -> Pos) : Pos := p 40
def zbf (p : Nat -> Pos) : List Stmt := [
 .FunctionDef "inner" (zfj p) (zcF p) [] none [] zaR none "inner" (p 40),
 .Return (some (.IfExp (eN p "digits" 41) (eC p (eN p "inner" 42) [eI p 0 43, eC p (eN p "len" 44) [eN p "digits" 45] 46] 47) (eI p 0 48) (p 49))) (p 50)]
def za1 : Scope := zf9 [("digits", .cell), ("n", .cell), ("inner", .cell), ("len", .globalImplicit)]
def zfk (p : Nat -> Pos) : Arguments := zoa [zjX p "x" 16, zjX p "L" 17, zjX p "R" 18]
def zcG (p : Nat -> Pos) : List Stmt := [
 zlJ p 19 [.Assign [.Subscript (eN p "a_digits" 24) (eN p "L" 25) (p 26)] (eN p "x" 27) (p 28), .Return none (p 29)] 30,
 zq0 p 31, zlK p 38,
 sA p "upper" 45 (eB p (eN p "x" 46) .RShift (eN p "shift" 47) 48) 49,
 sA p "lower" 50 (eB p (eN p "x" 51) .BitXor (eB p (eN p "upper" 52) .LShift (eN p "shift" 53) 54) 55) 56,
 zq1 p 57 "lower" "L" "mid", zq1 p 63 "upper" "mid" "R"]
def zaB : Scope := zf9 [("x", .local), ("L", .local), ("R", .local), ("mid", .local), ("shift", .local), ("upper", .local), ("lower", .local), ("a_digits", .free), ("inner", .free), ("n", .free)]
noncomputable def zb6 (p : Nat -> Pos) : Pos := p 69
def zbr (p : Nat -> Pos) : List Stmt := [
 sA p "a_digits" 2 (eB p (.List [eI p 0 3] (p 4)) .Mult (eB p (eB p (eB p (eC p (.Attribute (eN p "a" 5) "bit_length" (p 6)) [] 7) .Add (eN p "n" 8) 9) .Sub (eI p 1 10) 11) .FloorDiv (eN p "n" 12) 13) 14) 15,
 .FunctionDef "inner" (zfk p) (zcG p) [] none [] zaB none "inner" (p 69),
 .If (eN p "a" 70) [.Expr (eC p (eN p "inner" 71) [eN p "a" 72, eI p 0 73, eC p (eN p "len" 74) [eN p "a_digits" 75] 76] 77) (p 78)] [] (p 79),
 .Return (some (eN p "a_digits" 80)) (p 81)]
def zbg : Scope := zf9 [("a", .local), ("n", .cell), ("a_digits", .cell), ("inner", .cell), ("len", .globalImplicit)]
noncomputable def za8 (n : Nat) : List Int -> Int
 | [] => 0
 | d :: r => d + za8 n r * 2 ^ n
theorem zfJ (n : Nat) : ∀ (xs ys : List Int), za8 n (xs ++ ys) = za8 n xs + za8 n ys * 2 ^ (n * xs.length)
 | [], ys => by
  show za8 n ys = 0 + za8 n ys * 1
  rw [Int.mul_one, Int.zero_add]
 | d :: xs, ys => by
  show d + za8 n (xs ++ ys) * 2 ^ n = d + za8 n xs * 2 ^ n + za8 n ys * 2 ^ (n * (xs.length + 1))
  rw [zfJ n xs ys, Int.add_mul, Int.mul_assoc, <- Int.pow_add, show n * xs.length + n = n * (xs.length + 1) by rw [Nat.mul_succ]]
  lia
theorem zgX {n : Nat} : ∀ {xs : List Int}, (∀ d ∈ xs, 0 <= d /\ d < 2 ^ n) -> 0 <= za8 n xs /\ za8 n xs < 2 ^ (n * xs.length)
 | [], _ => ⟨Int.le_refl 0, show (0 : Int) < 1 by decide⟩
 | d :: xs, h => by
  obtain ⟨h1, h2⟩ := h d (List.mem_cons_self ..)
  obtain ⟨h3, h4⟩ := zgX (xs := xs) fun e he => h e (List.mem_cons_of_mem _ he)
  have hp : (0 : Int) < 2 ^ n := Int.pow_pos (by simp)
  refine ⟨Int.add_nonneg h1 (Int.mul_nonneg h3 (Int.le_of_lt hp)), ?_⟩
  rw [(by rw [List.length_cons, Nat.mul_succ, Int.pow_add] : (2 : Int) ^ (n * (d :: xs).length) = 2 ^ (n * xs.length) * 2 ^ n)]
  have : za8 n xs * 2 ^ n + 2 ^ n <= 2 ^ (n * xs.length) * 2 ^ n := by
   have := Int.mul_le_mul_of_nonneg_right (show za8 n xs + 1 <= 2 ^ (n * xs.length) by assumption) (Int.le_of_lt hp)
   rw [Int.add_mul, Int.one_mul] at this
   exact this
  show d + za8 n xs * 2 ^ n < _
  lia
theorem zlL {a : Int} {k : Nat} (h0 : 0 <= a) (h : a < 2 ^ k) : zaI a <= k := by
 refine intBits_le_iff.mpr ?_
 have : ((a.natAbs : Nat) : Int) < ((2 ^ k : Nat) : Int) := by
  rw [Int.natAbs_of_nonneg h0]
  exact h
 exact_mod_cast this
theorem zby {k m : Nat} (h : k < 2 ^ m) : zaI (k : Int) <= m := zlL (Int.natCast_nonneg _) (by exact_mod_cast h)
theorem zob (L R : Nat) : (((L : Int) + (R : Int)).fdiv (2 ^ (1 : Int).toNat)) = (((L + R) / 2 : Nat) : Int) := by
 rw [Int.fdiv_eq_ediv_of_nonneg _ (by simp)]
 norm_cast
noncomputable def za5 : Nat -> Option Fn := fun u => none
noncomputable def zr4 : List (Str × NameKind × Nat) -> Bool
 | [] => true
 | p :: r => (r.all fun q => !(q.2.2 == p.2.2)) && zr4 r
theorem zpX {l : List (Str × NameKind × Nat)} : zr4 l = true -> ∀ {p q}, p ∈ l -> q ∈ l -> p.2.2 = q.2.2 -> p = q := by
 induction l with
 | nil => exact fun _ _ _ hp => absurd hp List.not_mem_nil
 | cons a l ih =>
  exact fun h {p q} hp hq e => zaf h fun h1 h2 => by
   have ne : ∀ {x}, x ∈ l -> x.2.2 ≠ a.2.2 := fun hx e => Bool.noConfusion ((congrArg not (beq_iff_eq.mpr e)).symm.trans (List.all_eq_true.mp h1 _ hx))
   revert e
   refine zbt hp (zbt hq (fun _ => rfl) fun hq' e => absurd e.symm (ne hq')) fun hp' => zbt hq (fun e => absurd e (ne hp')) fun hq' e => ih h2 hp' hq' e
noncomputable def ztM (n : Nat) (nm : List (Str × NameKind × Nat)) : Bool := nm.all fun q => decide (q.2.2 < n)
noncomputable def zr5 : Rho -> Bool
 | [] => true
 | o :: r => (match o with | some (.m _) => false | _ => true) && zr5 r
def NoM (ρ : Rho) : Prop := ∀ (i : Nat) (xs : List PyData), ρ[i]? ≠ some (some (.m xs))
theorem zga : ∀ {ρ : Rho}, zr5 ρ = true -> NoM ρ
 | [], _, i, xs, e => by exact za (List.getElem?_nil.symm.trans e)
 | o :: r, h, 0, xs, e => zaf h fun h1 u => by
  cases e; cases h1
 | o :: r, h, i + 1, xs, e => zaf h fun u h2 => zga h2 i xs e
theorem z6 {α : Type} {l : List (Str × α)} {x : Str} {a : α} (h : l.lookup x = some a) : (x, a) ∈ l := zbj h
theorem zoc {c : TC} {env : Env} {Z h : Heap} {ρ : Rho} {ad : Nat -> Addr} (kind : env.scope.kind = .function) (names : zno env.scope.names c.nm = true) (glob : env.globals = mainGlobals) (blt : env.builtins = builtinsNs)
  (loc : ∃ m, h.Ns env.locals m /\ ∀ x i pv, c.nm.lookup x = some (.local, i) -> ρ[i]? = some (some pv) -> ∃ v, m x = some v /\ zc8 Z ad i v pv)
  (cel : ∀ x k i, c.nm.lookup x = some (k, i) -> (k = .cell \/ k = .free) -> ∃ a ov, env.cells.lookup x = some a /\ h.IsCell a ov /\ Z.get? a = none /\ ∀ pv, ρ[i]? = some (some pv) -> ∃ v, ov = some v /\ zc8 Z ad i v pv)
  (apL : Z.get? env.locals = none) (inj : zr4 c.nm = true) (injC : ∀ x y a, env.cells.lookup x = some a -> env.cells.lookup y = some a -> x = y) (no : zr5 ρ = true) (hl : ρ.length <= c.nx) (sl : ztM c.nx c.nm = true) (mainL : env.locals ≠ mainGlobals) : Rel c env Z h ρ ad :=
 {kind := kind, glob := glob, blt := blt, loc := loc, cel := cel, apL := apL, injC := injC, mainL := mainL
  names := fun x => zaf names fun n1 n2 => zfA (fun x hx => by
    obtain ⟨q, hq, e9⟩ := List.mem_map.mp hx; subst e9
    exact eq_of_beq (List.all_eq_true.mp n1 q hq)) (fun x hx => by
    obtain ⟨q, hq, e9⟩ := List.mem_map.mp hx; refine rwE e9.symm ?_
    exact List.contains_iff_mem.mp (List.all_eq_true.mp n2 q hq)) x
  injS := fun x y k k' i h1 h2 u w => congrArg Prod.fst (zpX inj (z6 h1) (z6 h2) rfl)
  own := fun i xs e => absurd e (zga no i xs), ownInj := fun i j xs ys e => absurd e (zga no i xs)
  hi := fun i pv e => Nat.lt_of_lt_of_le (List.getElem?_eq_some_iff.mp e).1 hl
  slot := fun x k i e u => of_decide_eq_true (List.all_eq_true.mp sl _ (z6 e)) }
theorem zod {x y z : Str} {a b c : Addr} (h1 : a ≠ b) (h2 : a ≠ c) (h3 : b ≠ c) {u v : Str} {d : Addr} (hu : [(x, a), (y, b), (z, c)].lookup u = some d) (hv : [(x, a), (y, b), (z, c)].lookup v = some d) : u = v := by
 have hu := z6 hu
 have hv := z6 hv
 simp only [List.mem_cons, Prod.mk.injEq, List.not_mem_nil, or_false] at hu hv
 rcases hu with ⟨rfl, rfl⟩ | ⟨rfl, rfl⟩ | ⟨rfl, rfl⟩ <;> rcases hv with ⟨rfl, h⟩ | ⟨rfl, h⟩ | ⟨rfl, h⟩ <;> first | rfl | exact absurd h h1 | exact absurd h h2 | exact absurd h h3 | exact absurd h.symm h1 | exact absurd h.symm h2 | exact absurd h.symm h3
theorem zb7 {Z : Heap} {ad : Nat -> Addr} {i : Nat} {a : Int} {t : Tok} : zc8 Z ad i (.int a t) (.d (.int a)) := (zo (F := Z)).mpr ⟨t, rfl⟩
noncomputable def dTC (gen : Str) : TC := ⟨[("digits", (.free, 0)), ("inner", (.free, 1)), ("n", (.free, 2)), ("L", (.local, 3)), ("R", (.local, 4)), ("mid", (.local, 5)), ("shift", (.local, 6))], [], [], 7, [], gen, 3⟩
section
variable {Ω : En} {A : Around} {Z Z' : Heap} {s s' : Shared} {Φ : Fs} {p : Nat -> Pos} {q : Str} {pm : Value} {c' T F cd ci cn : Addr}
def dFd (p : Nat -> Pos) (q : Str) (pm : Value) (c' T cd ci cn : Addr) : FuncData := zdJ "inner" q (zfj p) (zcF p) zaR mainGlobals [("n", cn), ("inner", ci), ("digits", cd)] pm c' T
structure DOn (Z h : Heap) (p : Nat -> Pos) (q : Str) (pm : Value) (c' T F cd ci cn : Addr) (is : List Int) (n : Nat) : Prop where
 fn : h.get? F = some { cls := .type "function", data := .func (dFd p q pm c' T cd ci cn) }
 cr : h.CodeRec (.ref c') q
 dig : ∃ v, h.IsCell cd (some v) /\ Rep Z v (.list (is.map .int))
 num : ∃ t, h.IsCell cn (some (.int (n : Int) t))
 inn : h.IsCell ci (some (.ref F))
 zd : Z.get? cd = none
 zn : Z.get? cn = none
 zi : Z.get? ci = none
 ap : cd ≠ ci /\ cd ≠ cn /\ ci ≠ cn
 lt : cd < h.objs.size /\ ci < h.objs.size /\ cn < h.objs.size
theorem zac {h h' : Heap} {a : Addr} {v : Option Value} (x : h.IsCell a v) (k : ∀ o, h.get? a = some o -> h'.get? a = some o) : h'.IsCell a v := E12 x fun o e d =>  (I12 o (k o e) d)
theorem zdK {h : Heap} {a : Addr} {v : Option Value} (x : h.IsCell a v) : a < h.objs.size := E12 x fun o e d =>  Heap.lt_size e
theorem DOn.stp {is : List Int} {n : Nat} (D : DOn Z s.heap p q pm c' T F cd ci cn is n) (S : Stp Ω Z s Z' s') : DOn Z' s'.heap p q pm c' T F cd ci cn is n where
 fn := S.h _ _ D.fn
 cr := D.cr.keeps S.h
 dig := E12 D.dig fun v a b =>  (I12 v (zac a fun o e => S.h _ _ e) (b.mono S.f))
 num := E11 D.num fun t a =>  ⟨t, zac a fun o e => S.h _ _ e⟩
 inn := zac D.inn fun o e => S.h _ _ e
 zd := by obtain ⟨v, ⟨o, e, _⟩, _⟩ := D.dig; rw [S.new _ _ e]; exact D.zd
 zn := by obtain ⟨t, ⟨o, e, _⟩⟩ := D.num; rw [S.new _ _ e]; exact D.zn
 zi := by obtain ⟨o, e, _⟩ := D.inn; rw [S.new _ _ e]; exact D.zi
 ap := D.ap
 lt := I03 (E12 D.dig fun v a b =>  zdK (zac a fun o e => S.h _ _ e)) (zdK (zac D.inn fun o e => S.h _ _ e)) (E11 D.num fun t a =>  zdK (zac a fun o e => S.h _ _ e))
theorem ziU {x : Str} {k : NameKind} {i : Nat} (h : (dTC Φ.gen).nm.lookup x = some (k, i)) :
  (x = "digits" /\ k = .free /\ i = 0) \/ (x = "inner" /\ k = .free /\ i = 1) \/ (x = "n" /\ k = .free /\ i = 2) \/ (x = "L" /\ k = .local /\ i = 3) \/ (x = "R" /\ k = .local /\ i = 4) \/ (x = "mid" /\ k = .local /\ i = 5) \/ (x = "shift" /\ k = .local /\ i = 6) := by
 have := z6 h
 simpa [dTC] using this
theorem ztN {is : List Int} {n L R : Nat} {tl tr : Tok} {h : Heap} {L0 : Addr} (D : DOn Z h p q pm c' T F cd ci cn is n) (hns : h.Ns L0 (fun x => [(("L" : Str), Value.int (L : Int) tl), ("R", .int (R : Int) tr)].reverse.lookup x)) (zL : Z.get? L0 = none) (hm : L0 ≠ mainGlobals) :
  Rel (dTC Φ.gen) (callEnv (dFd p q pm c' T cd ci cn) L0 F) Z h [some (.d (.list (is.map .int))), none, some (.d (.int (n : Int))), some (.d (.int (L : Int))), some (.d (.int (R : Int))), none, none] (fun u => 0) := by
 obtain ⟨a1, a2, a3⟩ := D.ap
 refine zoc rfl (by kernel_rfl) rfl rfl (I12 _ hns ?_) ?_ zL (by kernel_rfl) (fun x y b h1 h2 => zod (x := "n") (y := "inner") (z := "digits") a3.symm a2.symm a1.symm h1 h2) rfl (Nat.le_refl _) (by kernel_rfl) hm
 ·intro x i pv e hp
  rcases ziU e with ⟨rfl, h1, rfl⟩ | ⟨rfl, h1, rfl⟩ | ⟨rfl, h1, rfl⟩ | ⟨rfl, _, rfl⟩ | ⟨rfl, _, rfl⟩ | ⟨rfl, _, rfl⟩ | ⟨rfl, _, rfl⟩
  ·cases h1
  ·cases h1
  ·cases h1
  ·cases hp; exact I12 (.int (L : Int) tl) rfl zb7
  ·cases hp; exact I12 (.int (R : Int) tr) rfl zb7
  ·cases hp
  ·cases hp
 ·intro x k i e hk
  rcases ziU e with ⟨rfl, h1, rfl⟩ | ⟨rfl, h1, rfl⟩ | ⟨rfl, h1, rfl⟩ | ⟨rfl, h1, rfl⟩ | ⟨rfl, h1, rfl⟩ | ⟨rfl, h1, rfl⟩ | ⟨rfl, h1, rfl⟩
  ·obtain ⟨v, a, r⟩ := D.dig
   exact I24 cd _ rfl a D.zd (fun pv hp => by cases hp; exact I12 v rfl r)
  ·exact I24 ci _ rfl D.inn D.zi (fun pv hp => by cases hp)
  ·obtain ⟨t, a⟩ := D.num
   exact I24 cn _ rfl a D.zn (fun pv hp => by cases hp; exact I12 _ rfl zb7)
  all_goals (subst h1; rcases hk with h | h <;> exact nomatch h)
end
theorem zgb {xs : List PyData} {L : Nat} {d : PyData} (h : xs[L]? = some d) (hb : xs.length <= big) : zbu (.list xs) (.int (L : Int)) = some d := by
 have hL : L < xs.length := by
  rcases Nat.lt_or_ge L xs.length with h' | h'
  ·exact h'
  ·exact za ((List.getElem?_eq_none h').symm.trans h)
 show (if xs.length <= big then (seqIndex? (L : Int) xs.length).bind (xs[·]?) else none) = _
 rw [if_pos hb]
 have e : seqIndex? (L : Int) xs.length = some L := by
  unfold seqIndex?
  have h0 : ¬ ((L : Int) < 0) := by lia
  simp [h0, hL]
 rw [e]; exact h
section
variable {Ω : En} {A : Around} {Z Z' : Heap} {s s' : Shared} {Φ : Fs} {p : Nat -> Pos} {q : Str} {pm : Value} {c' T F cd ci cn : Addr} {env : Env} {ρ : Rho} {ad : Nat -> Addr}
theorem zeM {i : Nat} {d : PyData} (h : NoM ρ) : NoM (ρ.set i (some (.d d))) := by
 intro j xs e
 rcases zr e with ⟨_, e⟩ | ⟨_, e⟩
 ·cases e
 ·exact h j xs e
theorem zlM (h : NoM ρ) {b : Addr} (o : Own (dTC Φ.gen) env ρ ad b) : b = env.locals := by
 rcases o with o | ⟨x, k, i, e, hk, hl, _⟩ | ⟨i, xs, e, _⟩
 ·exact o
 ·have hl : 3 <= i := hl
  rcases ziU e with ⟨_, h1, rfl⟩ | ⟨_, h1, rfl⟩ | ⟨_, h1, rfl⟩ | ⟨_, h1, rfl⟩ | ⟨_, h1, rfl⟩ | ⟨_, h1, rfl⟩ | ⟨_, h1, rfl⟩
  ·lia
  ·lia
  ·lia
  all_goals (subst h1; rcases hk with h | h <;> cases h)
 ·exact absurd e (h i xs)
theorem zcU {c : TC} {s0 : Shared} {Z0 : Heap} {ρ' : Rho} {ad' : Nat -> Addr} (T : Stp Ω Z0 s0 Z s) (a : Adv Ω c env ρ ad Z s ρ' ad' Z' s') (h : ∀ b, Own c env ρ ad b -> s0.heap.get? b = none) : Stp Ω Z0 s0 Z' s' :=
 ((T.x (W := fun _ => False) (GI := fun _ => False)).trans a.stx (fun b o => .inr (h b o)) (fun _ h => h.elim)).stp
set_option maxRecDepth 100000 in
theorem zpY (a b : Value) : bindArgs (dFd p q pm c' T cd ci cn) ⟨[a, b], []⟩ = pure [(("L" : Str), a), ("R", b)] := by rfl
def zoe (Ω : En) (p : Nat -> Pos) (q : Str) (pm : Value) (c' T F cd ci cn : Addr) (is : List Int) (n k : Nat) : Prop :=
 ∀ (A : Around) (Z : Heap) (s : Shared) (L R : Nat) (tl tr : Tok), Rm A (k + 50) -> Ok Ω Z s -> DOn Z s.heap p q pm c' T F cd ci cn is n -> L < R -> R <= is.length -> R - L <= 2 ^ k ->
  wpAny Ω.m A (call (.ref F) [.int (L : Int) tl, .int (R : Int) tr]) (Pst Ω Z s (.int (za8 n ((is.drop L).take (R - L))))) zc s
theorem zfl {L M R : Nat} (h1 : L <= M) (h2 : M <= R) : R - L = (M - L) + (R - M) := (Nat.sub_add_sub_cancel h2 h1).symm.trans (Nat.add_comm ..)
theorem zof {is : List Int} {L M R : Nat} (h1 : L <= M) (h2 : M <= R) : (is.drop L).take (R - L) = (is.drop L).take (M - L) ++ (is.drop M).take (R - M) := by
 rw [show R - L = (M - L) + (R - M) from zfl h1 h2, List.take_add, List.drop_drop, Nat.add_sub_cancel' h1]
theorem zog {L M n : Nat} (h : L <= M) (hM : M <= big) (hn : n <= 2 ^ 24) : zav .Mult (.int ((M : Int) - (L : Int))) (.int (n : Int)) = some (.int (((M - L) * n : Nat) : Int)) := by
 rw [<- Int.ofNat_sub h]
 exact if_pos (nle (Nat.add_le_add (zby (m := 20) (Nat.lt_of_le_of_lt (nle (Nat.sub_le ..) hM) (by decide))) (zby (m := 25) (Nat.lt_of_le_of_lt hn (by decide)))) (by decide))
theorem zoh {v : Int} {k : Nat} (h1 : zaI v <= 2 ^ 24) (h3 : k <= 2 ^ 24) : zav .LShift (.int v) (.int (k : Int)) = some (.int (v * 2 ^ k)) :=
 if_pos ⟨Int.natCast_nonneg _, Int.le_trans (Int.ofNat_le.mpr (nle (Nat.add_le_add h1 h3) (show 2 ^ 24 + 2 ^ 24 <= 134217728 by decide))) (by decide)⟩
theorem ziV {L R : Nat} (h : L < R) (hc : L + 1 ≠ R) : L < (L + R) / 2 /\ (L + R) / 2 < R := by omega
theorem zoi {L R c : Nat} (h : R - L <= 2 * c) : (L + R) / 2 - L <= c := by omega
theorem zoj {L R c : Nat} (h : R - L <= 2 * c) : R - (L + R) / 2 <= c := by omega
set_option maxRecDepth 100000 in
theorem zjY (H : zag Ω Φ.none (run za5 6) 46) {is : List Int} {n k : Nat} (hb : ∀ d ∈ is, 0 <= d /\ d < 2 ^ n) (hsz : is.length * n <= 2 ^ 24) (hlen : is.length <= big)
  (ih : k = 0 \/ zoe Ω p q pm c' T F cd ci cn is n (k - 1)) : zoe Ω p q pm c' T F cd ci cn is n k := by
 intro A Z s L R tl tR hA hO D hLR hR hk
 have hroom : A.depth < recursionLimit := Nat.lt_of_le_of_lt (nle (Nat.le_add_right _ _) hA.depth) (by decide)
 refine wpAny_call (codeAny_call_def hroom D.fn (fd := dFd p q pm c' T cd ci cn) rfl (H.gl.lims hO) D.cr (body := zcF p) rfl (BindsTo.of_eq (zpY _ _)) (by show ∀ x ∈ zaR.names, x.2 ≠ .cell; decide +kernel)
  (by
   intro x hx
   refine zaZ hx ?_ ?_
   ·show zaR.names.lookup (Str.ofString "L") = _; decide +kernel
   ·show zaR.names.lookup (Str.ofString "R") = _; decide +kernel) (fun h_0 hns hkp => ?_) rfl rfl rfl)
 let env : Env := callEnv (dFd p q pm c' T cd ci cn) s.heap.objs.size F
 let A' : Around := A.deeper env
 have hA1 : Rm A' (k + 49) := hA.deep
 have hA' : Rm A' 46 := hA1.le (nle (by decide) (Nat.le_add_left 49 k))
 have hG : GlC (dTC Φ.gen) Φ.none := ⟨rfl, rfl, rfl⟩
 have S_1 : Stp Ω Z s Z { s with heap := h_0, toks := s.toks + 2 } := Stp.grow hO hkp
 have hm : s.heap.objs.size ≠ mainGlobals := by
  intro e
  obtain ⟨mg, mb, ⟨o', _, _, hm, _⟩, _⟩ := H.gl.ns
  have h1 := Heap.lt_size (hO.sub _ _ (hO.base _ _ hm))
  rw [<- e] at h1
  exact Nat.lt_irrefl _ h1
 have R0 : Rel (dTC Φ.gen) env Z h_0 _ (fun _ => 0) := ztN (D.stp S_1) hns (hO.sub.none (zj _)) hm
 show wpAny Ω.m A' (execs (zcF p) env) (fun f s' => Pst Ω Z s (.int (za8 n ((is.drop L).take (R - L)))) (match f with | .ret v => v | _ => .none) s') _ _
 refine wpAny_mono (E := zc) ?_ (fun _ _ x => x) fun _ _ x => x.elim
 refine wpAny_execs_cons (wpAny_If (za4.then (H.tst 60 (dTC Φ.gen) _ (.cmp .Eq (.bin .Add (.v 3) (.c (.int 1))) (.v 4)) _ (.bool ((L : Int) + 1 == (R : Int))) ((L : Int) + 1 == (R : Int)) (by rfl) (by rfl) rfl A' env Z _ _ hA' hG S_1.ok R0) fun s_1 Z_1 S_2 => ?_))
 have R1 := R0.stp S_2
 have T1 := S_1.trans S_2
 by_cases hc : L + 1 = R
 ·have hc' : ((L : Int) + 1 == (R : Int)) = true := beq_iff_eq.mpr (congrArg (fun n : Nat => (n : Int)) hc)
  rw [hc', if_pos rfl]
  have hL : L < is.length := nle (Nat.le_of_eq hc) hR
  have hex : (run za5 6).ex [some (PV.d (PyData.list (is.map .int))), none, some (.d (.int (n : Int))), some (.d (.int (L : Int))), some (.d (.int (R : Int))), none, none] (.idx (.v 0) (.v 3)) = some (.int (is[L])) := by
   exact zgb (by rw [List.getElem?_map, List.getElem?_eq_getElem hL]; rfl) (by simpa using hlen)
  refine wpAny_execs_cons (wpAny_Return_some (Pst.then (H.ex 60 (dTC Φ.gen) _ (.idx (.v 0) (.v 3)) _ (.int (is[L])) (by rfl) hex A' env Z_1 s_1 _ hA' hG S_2.ok R1) fun v s_2 Z_2 S_3 r => ?_))
  refine I12 Z_2 (T1.trans S_3) ?_
  have e : za8 n ((is.drop L).take (R - L)) = is[L] := by
   rw [<- hc, Nat.add_sub_cancel_left, List.drop_eq_getElem_cons hL]
   show is[L] + 0 * 2 ^ n = is[L]
   rw [Int.zero_mul, Int.add_zero]
  rw [e]; exact r
 ·have hc' : ((L : Int) + 1 == (R : Int)) = false := beq_eq_false_iff_ne.mpr fun h => hc (Int.ofNat_inj.mp h)
  rw [hc', if_neg Bool.false_ne_true]
  refine wpAny_execs_nil ?_
  have hk0 : k ≠ 0 := fun e => hc (Nat.le_antisymm hLR (nle (Nat.sub_le_iff_le_add.mp (nle hk (Nat.le_of_eq (congrArg (2 ^ ·) e)))) (Nat.le_of_eq (Nat.add_comm 1 L))))
  have kp : k - 1 + 1 = k := Nat.sub_add_cancel (Nat.pos_of_ne_zero hk0)
  have ih := ih.resolve_left hk0
  let M := (L + R) / 2
  have hM1 : L < M := (ziV hLR hc).1
  have hM2 : M < R := (ziV hLR hc).2
  have hMl : M <= is.length := nle (Nat.le_of_lt hM2) hR
  let ρ_0 : Rho := [some (PV.d (PyData.list (is.map .int))), none, some (.d (.int (n : Int))), some (.d (.int (L : Int))), some (.d (.int (R : Int))), none, none]
  have n0 : NoM ρ_0 := fun i xs e => by
   match i, e with
   | 0, e => cases e
   | 1, e => cases e
   | 2, e => cases e
   | 3, e => cases e
   | 4, e => cases e
   | 5, e => cases e
   | 6, e => cases e
   | (n + 7), e => exact za e
  have hex1 : (run za5 6).ex ρ_0 (.bin .RShift (.bin .Add (.v 3) (.v 4)) (.c (.int 1))) = some (.int (M : Int)) := by
   have := zob L R
   rw [show ((M : Nat) : Int) = (((L + R) / 2 : Nat) : Int) from rfl, <- this]; rfl
  refine wpAny_execs_cons (wpAny_Assign_Name (Pst.then (H.ex 60 (dTC Φ.gen) _ _ ρ_0 (.int (M : Int)) (by rfl) hex1 A' env Z_1 s_1 _ hA' hG S_2.ok R1) fun v s_2 Z_2 S_3 r => zbc (c := dTC Φ.gen) (i := 5) (by rfl) S_3.ok (R1.stp S_3) r fun s_3 a_3 => ?_) rfl)
  have T3 := zcU (T1.trans S_3) a_3 fun b o => by rw [zlM n0 o]; exact zj _
  let ρ_1 : Rho := ρ_0.set 5 (some (.d (.int (M : Int))))
  have n1 : NoM ρ_1 := zeM n0
  have hex2 : (run za5 6).ex ρ_1 (.bin .Mult (.bin .Sub (.v 5) (.v 3)) (.v 2)) = some (.int (((M - L) * n : Nat) : Int)) := by
   exact zog (Nat.le_of_lt hM1) (nle hMl hlen) (nle (Nat.le_mul_of_pos_left n (Nat.lt_of_lt_of_le (Nat.lt_of_le_of_lt (Nat.zero_le _) hLR) hR)) hsz)
  refine wpAny_execs_cons (wpAny_Assign_Name (Pst.then (H.ex 60 (dTC Φ.gen) _ _ ρ_1 _ (by rfl) hex2 A' env Z_2 s_3 _ hA' hG a_3.stx.ok a_3.rel) fun v s_4 Z_4 S_4 r => zbc (c := dTC Φ.gen) (i := 6) (by rfl) S_4.ok (a_3.rel.stp S_4) r fun s_5 a_5 => ?_) rfl)
  have T5 := zcU (T3.trans S_4) a_5 fun b o => by rw [zlM n1 o]; exact zj _
  let ρ_2 : Rho := ρ_1.set 6 (some (.d (.int (((M - L) * n : Nat) : Int))))
  have callIt : ∀ {a b : Nat} {ea eb : PySem.Expr} {pa pb : PE} {p1 p2 : Pos} {Zi : Heap} {si : Shared}, Stp Ω Z s Zi si -> Rel (dTC Φ.gen) env Zi si.heap ρ_2 (fun _ => 0) -> tr 60 (dTC Φ.gen) ea = some pa -> tr 60 (dTC Φ.gen) eb = some pb ->
    (run za5 6).ex ρ_2 pa = some (.int (a : Int)) -> (run za5 6).ex ρ_2 pb = some (.int (b : Int)) -> a < b -> b <= is.length -> b - a <= 2 ^ (k - 1) ->
    wpAny Ω.m A' (eval (.Call (.Name "inner" p1) [ea, eb] [] p2) env) (Pst Ω Zi si (.int (za8 n ((is.drop a).take (b - a))))) zc si := by
   intro a b ea eb pa pb p1 p2 Zi si Ti Ri h1 h2 h3 h4 h5 h6 h7
   have Di := D.stp Ti
   refine wpAny_Call_NameR (wpAny_Name (wpAny_loadName_free (c := ci) rfl (by rfl) (by rfl) Di.inn ?_ (by decide +kernel)) (by decide +kernel))
   refine Calls.callWith_function (z9 (H.ex 60) hA' hG (pes := [pa, pb]) (ds := [.int (a : Int), .int (b : Int)]) (zdm h1 h2) (zcT h3 h4) Ti.ok Ri fun vs s' Z' S' r => ⟨⟨(Di.stp S').fn, rfl⟩, ?_⟩)
   obtain ⟨v, vs', e9, r1, q⟩ := zy.mp r; refine rwE e9 ?_
   obtain ⟨v', vs'', e9, r2, q⟩ := zy.mp q; refine rwE e9 ?_
   refine rwE q ?_
   obtain (⟨t1, e9⟩) := r1; refine rwE e9 ?_; obtain (⟨t2, e9⟩) := r2; refine rwE e9 ?_
   refine z8 S' (ih A' Z' s' a b t1 t2 (hA1.le (Nat.le_of_eq (congrArg (· + 49) kp))) S'.ok (Di.stp S') h5 h6 h7)
  have hk2 : R - L <= 2 * 2 ^ (k - 1) := nle hk (Nat.le_of_eq ((congrArg (2 ^ ·) kp.symm).trans Nat.pow_succ'))
  let xs := (is.drop L).take (M - L)
  let ys := (is.drop M).take (R - M)
  have hxl : xs.length = M - L := (List.length_take ..).trans (Nat.min_eq_left (by rw [List.length_drop]; exact Nat.sub_le_sub_right hMl L))
  have hyl : ys.length = R - M := (List.length_take ..).trans (Nat.min_eq_left (by rw [List.length_drop]; exact Nat.sub_le_sub_right hR M))
  have hyb : 0 <= za8 n ys /\ za8 n ys < 2 ^ (n * ys.length) := zgX fun d hd => hb d (List.mem_of_mem_drop (List.mem_of_mem_take hd))
  refine wpAny_execs_cons (wpAny_Return_some (wpAny_BinOp (wpAny_BinOp (Pst.then (callIt (a := M) (b := R) T5 a_5.rel (by rfl) (by rfl) (by rfl) (by rfl) hM2 hR (zoj hk2)) fun v_1 s_6 Z_6 S_6 r_6 => ?_))))
  refine Pst.then (H.ex 60 (dTC Φ.gen) _ (.v 6) ρ_2 (.int (((M - L) * n : Nat) : Int)) (by rfl) (by rfl) A' env Z_6 s_6 _ hA' hG S_6.ok (a_5.rel.stp S_6)) fun v_2 s_7 Z7 S7 r_7 => ?_
  have hsh : zav .LShift (.int (za8 n ys)) (.int (((M - L) * n : Nat) : Int)) = some (.int (za8 n ys * 2 ^ ((M - L) * n))) := by
   refine zoh (nle (zlL hyb.1 hyb.2) ?_) (nle (Nat.mul_le_mul_right n (nle (Nat.sub_le ..) hMl)) hsz)
   rw [hyl, Nat.mul_comm]; exact nle (Nat.mul_le_mul_right n (nle (Nat.sub_le ..) hR)) hsz
  refine Pst.then (zit hA'.handled S7.ok (r_6.mono S7.f) r_7 hsh) fun v_3 s_8 Z8 S8 r_8 => ?_
  have T8 := ((T5.trans S_6).trans S7).trans S8
  refine Pst.then (callIt (a := L) (b := M) T8 (((a_5.rel.stp S_6).stp S7).stp S8) (by rfl) (by rfl) (by rfl) (by rfl) hM1 hMl (zoi hk2)) fun v_4 s_9 Z9 S9 r_9 => ?_
  refine Pst.then (zit (op := .Add) hA'.handled S9.ok (r_8.mono S9.f) r_9 rfl) fun v_5 s_10 Z_10 S10 r_10 => ?_
  refine I12 Z_10 ((T8.trans S9).trans S10) ?_
  have e : za8 n ((is.drop L).take (R - L)) = za8 n ys * 2 ^ ((M - L) * n) + za8 n xs := by
   rw [zof (Nat.le_of_lt hM1) (Nat.le_of_lt hM2), zfJ, hxl, Nat.mul_comm n, Int.add_comm]
  rw [e]; exact r_10
theorem zh9 (H : zag Ω Φ.none (run za5 6) 46) {is : List Int} {n : Nat} (hb : ∀ d ∈ is, 0 <= d /\ d < 2 ^ n) (hsz : is.length * n <= 2 ^ 24) (hlen : is.length <= big) :
  ∀ k, zoe Ω p q pm c' T F cd ci cn is n k
 | 0 => zjY H hb hsz hlen (.inl rfl)
 | k + 1 => zjY H hb hsz hlen (.inr (zh9 H hb hsz hlen k))
end
structure zaX (B : Heap) (a : Addr) (fd : FuncData) (sc : Scope) (src : List Stmt) (c P : Addr) (q : Str) : Prop where
 fb : FnB B a 2 fd src
 sc : fd.scope = sc
 code : fd.code = .ref c
 gl : fd.globals = mainGlobals
 qn : fd.qualname ++ ".<locals>." ++ "inner" = q
 bi : ∃ mg, B.Ns mainGlobals mg /\ (∃ bm o, mg "__builtins__" = some (.ref bm) /\ bm ≠ builtinsNs /\ bm ≠ mainGlobals /\ bm ≠ P /\ B.get? bm = some o /\ o.cls = .type "module" /\ o.dict = some builtinsNs /\ o.data = .plain)
 gP : mainGlobals ≠ P
def zcj (Ω : En) (c P : Addr) (pos : Pos) (q : Str) (hit : Bool) (Z : Heap) (s : Shared) (d : PyData) : Value -> Shared -> Prop := fun v s' =>
 ∃ Z', StX (fun b => hit = false /\ b = P) (fun u => False) Ω Z s Z' s' /\ Rep Z' v d /\ (hit = false -> zbe s'.heap c P pos q true /\ Z'.get? P = none /\ ∃ l, s'.heap.TableAt c P l)
section
variable {Ω : En} {A : Around} {Z Z' : Heap} {s s' : Shared} {Φ : Fs} {p : Nat -> Pos} {q : Str} {pm : Value} {c' T F cd ci cn c P : Addr} {env : Env} {ρ : Rho} {ad : Nat -> Addr}
theorem zmy (h1 : env.cells.lookup ("digits" : Str) = some cd) (h2 : env.cells.lookup ("inner" : Str) = some ci) (h3 : env.cells.lookup ("n" : Str) = some cn) : closureFor zaR env = pure [(("n" : Str), cn), ("inner", ci), ("digits", cd)] := by
 have e1 : cellOf env (Str.ofString "digits") = pure cd := by unfold cellOf; rw [h1]
 have e2 : cellOf env (Str.ofString "inner") = pure ci := by unfold cellOf; rw [h2]
 have e3 : cellOf env (Str.ofString "n") = pure cn := by unfold cellOf; rw [h3]
 unfold closureFor zaR
 simp only [List.forIn_cons, List.forIn_nil, e1, e2, e3]
 rfl
theorem zok {c : TC} {h h' : Heap} (R : Rel c env Z h ρ ad) (hn : NoM ρ) (hkeep : ∀ b o, b ≠ ci -> (b = env.locals \/ ∃ x, env.cells.lookup x = some b) -> h.get? b = some o -> h'.get? b = some o) (hci : ∃ ov, h'.IsCell ci ov) (hL : env.locals ≠ ci)
  (hi : ∀ x k i, c.nm.lookup x = some (k, i) -> (k = .cell \/ k = .free) -> env.cells.lookup x = some ci -> ∀ pv, ρ[i]? ≠ some (some pv)) : Rel c env Z h' ρ ad := by
 refine { R with loc := ?_, cel := ?_, own := ?_, ownInj := ?_ }
 ·obtain ⟨m, hns, hm⟩ := R.loc
  exact I12 m (hns.at' fun o e => hkeep _ _ hL (.inl rfl) e) hm
 ·intro x k i e hk
  obtain ⟨a, ov, ha, hc, hz, hv⟩ := R.cel x k i e hk
  by_cases hac : a = ci
  ·subst hac
   obtain ⟨ov', hc'⟩ := hci
   exact I24 a ov' ha hc' hz (fun pv q => absurd q (hi x k i e hk ha pv))
  ·exact I24 a ov ha (zac hc fun o eo => hkeep _ _ hac (.inr ⟨x, ha⟩) eo) hz hv
 ·intro i xs e; exact absurd e (hn i xs)
 ·intro i j xs ys e; exact absurd e (hn i xs)
theorem zjZ {args : List PyData} {ns : Nat} : NoM (args.map (fun d => some (PV.d d)) ++ List.replicate ns none) := by
 intro i xs e
 obtain ⟨d, _, h⟩ := zar e
 cases h
set_option maxRecDepth 100000 in
theorem zol (H : zag Ω Φ.none (run za5 6) 46) {a : Addr} {fd : FuncData} {hit : Bool} (X : zaX Ω.B a fd za1 (zbf p) c P q) {is : List Int} {n : Nat} (hb : ∀ d ∈ is, 0 <= d /\ d < 2 ^ n) (hsz : is.length * n <= 2 ^ 24) (hlen : is.length <= big)
  (hA : Rm A 100) (hO : Ok Ω Z s) (hC : zbe s.heap c P (zb5 p) q hit) (hZ : hit = false -> Z.get? P = none) {vals : List Value} (r : zv Z vals [.list (is.map .int), .int (n : Int)]) :
  wpAny Ω.m A (call (.ref a) vals) (zcj Ω c P (zb5 p) q hit Z s (.int (za8 n is))) zc s := by
 refine zfi (n := 99) (ns := 2) (Φ := Φ.none) H.gl hA X.fb rfl hO r fun h_1 tk S_1 R hown hA' => ?_
 let env : Env := callEnvC fd s.heap.objs.size a
 let A' : Around := A.deeper env
 let ρ : Rho := [some (.d (.list (is.map .int))), some (.d (.int (n : Int))), none, none]
 have R : Rel (zeb [] [] Φ.gen za1 (zbf p)) env Z h_1 ρ (fun u => 0) := X.sc ▸ R
 have hG : GlC (zeb [] [] Φ.gen za1 (zbf p)) Φ.none := ⟨rfl, rfl, rfl⟩
 have hA6 : Rm A' 46 := hA'.le (by simp)
 have hcs : env.cells = [(("inner" : Str), s.heap.objs.size + 1 + 1 + 1), ("n", s.heap.objs.size + 1 + 1), ("digits", s.heap.objs.size + 1)] := by
  show cellsFrom (s.heap.objs.size + 1) fd.scope.names [] = _
  rw [X.sc]; rfl
 let cd : Addr := s.heap.objs.size + 1
 let cn : Addr := s.heap.objs.size + 1 + 1
 let ci : Addr := s.heap.objs.size + 1 + 1 + 1
 have l1 : env.cells.lookup ("digits" : Str) = some cd := by rw [hcs]; rfl
 have l2 : env.cells.lookup ("inner" : Str) = some ci := by rw [hcs]; rfl
 have l3 : env.cells.lookup ("n" : Str) = some cn := by rw [hcs]; rfl
 obtain ⟨a1, ov1, e1, hc1, z1, v1⟩ := R.cel ("digits" : Str) .cell 0 (by rfl) (.inl rfl)
 obtain ⟨a2, ov2, e2, hc2, z2, v2⟩ := R.cel ("inner" : Str) .cell 2 (by rfl) (.inl rfl)
 obtain ⟨a3, ov3, e3, hc3, z3, v3⟩ := R.cel ("n" : Str) .cell 1 (by rfl) (.inl rfl)
 have e1 := l1 ▸ e1; cases e1
 have e2 := l2 ▸ e2; cases e2
 have e3 := l3 ▸ e3; cases e3
 obtain ⟨vd, rfl, rd⟩ := v1 _ rfl
 obtain ⟨vn, rfl, rn⟩ := v3 _ rfl
 have rn : Rep Z vn (.int (n : Int)) := rn
 obtain ⟨tn, rfl⟩ := rn
 have fresh : ∀ {x : Addr}, s.heap.objs.size <= x -> s.heap.get? x = none := fun h => zaa h
 have hPs : ∃ o, s.heap.get? P = some o := by
  induction hit with
  | true => obtain ⟨ps, c', _, b, _⟩ := hC; exact ⟨_, b.2⟩
  | false => exact ⟨_, hC.2.2⟩
 have hcs' : ∃ o, s.heap.get? c = some o := by
  induction hit with
  | true => obtain ⟨ps, c', _, ⟨⟨o, vs, b, _⟩, _⟩, _⟩ := hC; exact ⟨_, b⟩
  | false => obtain ⟨_, ⟨o, vs, b, _⟩, _⟩ := hC; exact ⟨_, b⟩
 have nP : ∀ {x : Addr}, s.heap.objs.size <= x -> x ≠ P := fun h e => by
  obtain ⟨o, ho⟩ := hPs
  rw [<- e, fresh h] at ho; exact za ho
 have nc : ∀ {x : Addr}, s.heap.objs.size <= x -> x ≠ c := fun h e => by
  obtain ⟨o, ho⟩ := hcs'
  rw [<- e, fresh h] at ho; exact za ho
 obtain ⟨mg, hmg, bm, o, hbm, b1, b2, b3, hbo, b4, b5, b6⟩ := X.bi
 have toH : ∀ b o, Ω.B.get? b = some o -> h_1.get? b = some o := fun b o e => S_1.h _ _ (hO.sub _ _ (hO.base _ _ e))
 have hle1 : s.heap.objs.size <= cd := Nat.le_succ _
 have hle2 : s.heap.objs.size <= ci := nle (Nat.le_succ _) (nle (Nat.le_succ _) (Nat.le_succ _))
 have hle3 : s.heap.objs.size <= cn := nle (Nat.le_succ _) (Nat.le_succ _)
 refine wpM (E := zc) ?_ (fun u w x => x)
 show wpAny Ω.m A' (execs (zbf p) env) _ _ _
 refine wpAny_execs_cons (zgW (q := q) (ci := ci) (v₀ := ov2) (mg := mg) (hit := hit) (c := c) (P := P) (by rfl) ?_ (zmy l1 l2 l3) rfl rfl rfl ?_ X.code (z0 hC S_1.h) ?_ ?_ R.kind ?_ l2 hc2 (nP hle2) (nc hle2) fun c' F T h' tk' pm hk hcell hrec hmiss hcd hFn hfn => ?_)
 ·show (if env.kindOf (Str.ofString "inner") == some NameKind.globalExplicit then (Str.ofString "inner") else (fd.qualname ++ ".<locals>.") ++ "inner") = q
  rw [R.names]; exact X.qn
 ·show h_1.Ns fd.globals mg
  rw [X.gl]; exact hmg.keeps toH
 ·show fd.globals ≠ P
  rw [X.gl]; exact X.gP
 ·exact I28 bm o hbm b1 b2 b3 (toH _ _ hbo) b4 b5 b6
 ·rw [R.names]; rfl
 have hk' : ∀ b o, ¬ (hit = false /\ b = P) -> s.heap.get? b = some o -> h'.get? b = some o := fun b o nb eo =>
  hk b o (fun e => by rw [e, fresh hle2] at eo; exact za eo) (fun hh e => nb ⟨hh, e⟩) (S_1.h _ _ eo)
 have S_2 : StX (fun b => hit = false /\ b = P) (fun u => False) Ω Z s Z { s with heap := h', toks := tk' } :=
  ⟨⟨fun b o eo => hk' b o (fun h => E02 h fun hh e => by rw [e, hZ hh] at eo; exact za eo) (hO.sub _ _ eo), hO.base, hO.os, hO.gens⟩, .refl _, fun u w y z => rfl, hk', fun i x u e => e, Nat.le_refl _⟩
 have R_2 : Rel (zeb [] [] Φ.gen za1 (zbf p)) env Z h' ρ (fun u => 0) := by
  refine zok R (zjZ (args := [.list (is.map .int), .int (n : Int)]) (ns := 2)) (ci := ci) (fun b o hb hb' eo => hk b o hb (fun u => ?_) eo) ⟨_, hcell⟩ (Nat.ne_of_lt (Nat.lt_succ_of_le (nle (Nat.le_succ _) (Nat.le_succ _)))) ?_
  ·rcases hb' with rfl | ⟨x, hx⟩
   ·exact nP (Nat.le_refl _)
   ·replace hx := hcs ▸ hx
    have := z6 hx
    simp only [List.mem_cons, Prod.mk.injEq, List.not_mem_nil, or_false] at this
    rcases this with ⟨_, rfl⟩ | ⟨_, rfl⟩ | ⟨_, rfl⟩
    ·exact nP hle2
    ·exact nP hle3
    ·exact nP hle1
  ·intro x k i e hkk hx pv hp
   have hx := hcs ▸ hx
   have := z6 hx
   simp only [List.mem_cons, Prod.mk.injEq, List.not_mem_nil, or_false] at this
   rcases this with ⟨rfl, _⟩ | ⟨_, h⟩ | ⟨_, h⟩
   ·have : (zeb [] [] Φ.gen za1 (zbf p)).nm.lookup (Str.ofString "inner") = some (.cell, 2) := by rfl
    cases e; cases hp
   ·exact absurd h (Nat.ne_of_gt (Nat.lt_succ_self _))
   ·exact absurd h (Nat.ne_of_gt (Nat.lt_succ_of_lt (Nat.lt_succ_self _)))
 have D : DOn Z h' p q pm c' T F cd ci cn is n := by
  have hfn' : h'.get? F = some { cls := .type "function", data := .func (dFd p q pm c' T cd ci cn) } := by
   rw [hfn]
   show some ({ cls := .type "function", data := .func (zdJ "inner" q (zfj p) (zcF p) zaR fd.globals [("n", cn), ("inner", ci), ("digits", cd)] pm c' T) } : Obj) = _
   rw [X.gl]; rfl
  have k1 : h'.IsCell cd (some vd) := zac hc1 fun o eo => hk _ _ (Nat.ne_of_lt (Nat.lt_succ_of_lt (Nat.lt_succ_self _))) (fun u => nP hle1) eo
  have k3 : h'.IsCell cn (some (.int (n : Int) tn)) := zac hc3 fun o eo => hk _ _ (Nat.ne_of_lt (Nat.lt_succ_self _)) (fun u => nP hle3) eo
  exact ⟨hfn', hrec, (I12 vd k1 rd), ⟨tn, k3⟩, hcell, z1, z3, z2, (I03 (Nat.ne_of_lt (Nat.lt_succ_of_lt (Nat.lt_succ_self _))) (Nat.ne_of_lt (Nat.lt_succ_self _)) (Nat.ne_of_gt (Nat.lt_succ_self _))), (I03 (zdK k1) (zdK hcell) (zdK k3))⟩
 have fin : ∀ {Z_3 s_3 v d}, Stp Ω Z { s with heap := h', toks := tk' } Z_3 s_3 -> Rep Z_3 v d -> zcj Ω c P (zb5 p) q hit Z s d v s_3 := by
  intro Z_3 s_3 v d S_3 rv
  refine I13 Z_3 (S_2.trans (S_3.x (W := fun u => False) (GI := fun u => False)) (fun u h => h.elim) (fun u h => h.elim)) rv (fun hh => ?_)
  obtain ⟨_, l, ht, _⟩ := hmiss hh
  refine ⟨z0 hcd S_3.h, ?_, l, ht.keeps S_3.h⟩
  rw [S_3.new _ _ ht.2]; exact hZ hh
 refine wpAny_execs_cons (wpAny_Return_some (wpAny_IfExp (za4.then (H.tst 60 _ _ (.v 0) ρ (.list (is.map .int)) (!(is.map PyData.int).isEmpty) (by rfl) (by rfl) (by show (if (is.map PyData.int).length <= big then some (!(is.map PyData.int).isEmpty) else none) = _; rw [if_pos (by simpa using hlen)]) A' env Z _ _ hA6 hG S_2.ok R_2) fun s_3 Z_3 S_3 => ?_)))
 induction is using List.casesOn with
 | nil =>
  refine wpAny_Constant_int (fin (S_3.trans (Stp.grow (n := s_3.toks + 1) S_3.ok (.refl _))) (zo.mpr ⟨_, rfl⟩))
 | cons d0 is =>
  have D3 := D.stp S_3
  refine wpAny_Call_NameR (wpAny_Name (wpAny_loadName_cell (c := ci) R.kind (by rw [R.names]; rfl) l2 D3.inn ?_) (by decide +kernel))
  have hargs : exs (run za5 6) ρ [.c (.int 0), .bi .len [.v 0]] = some [.int (((0 : Nat) : Int)), .int (((d0 :: is).length : Nat) : Int)] := by
   have e : (run za5 6).ex ρ (.bi .len [.v 0]) = some (.int (((d0 :: is).length : Nat) : Int)) := by
    show (if ((d0 :: is).map PyData.int).length <= big then some (PyData.int ((((d0 :: is).map PyData.int).length : Nat) : Int)) else none) = _
    rw [if_pos (by simpa using hlen)]; simp
   exact zcT rfl e
  refine Calls.callWith_function (z9 (H.ex 60) hA6 hG (pes := [.c (.int 0), .bi .len [.v 0]]) (by rfl) hargs S_3.ok (R_2.stp S_3) fun vs s_4 Z_4 S_4 r => ⟨⟨(D3.stp S_4).fn, rfl⟩, ?_⟩)
  obtain ⟨v, vs', e9, r1, q1⟩ := zy.mp r; refine rwE e9 ?_
  obtain ⟨v', vs'', e9, r2, q2⟩ := zy.mp q1; refine rwE e9 ?_
  refine rwE q2 ?_
  obtain (⟨t1, e9⟩) := r1; refine rwE e9 ?_; obtain ⟨t2, e9⟩ := r2; refine rwE e9 ?_
  refine Pst.then (zh9 H hb hsz hlen 20 A' Z_4 s_4 0 (d0 :: is).length t1 t2 (hA'.le (by simp)) S_4.ok (D3.stp S_4) (by simp) (Nat.le_refl _) (by have : big = 1000000 := rfl; lia)) fun v_5 s_5 Z5 S5 r_5 => ?_
  refine fin ((S_3.trans S_4).trans S5) ?_
  simpa using r_5
end
noncomputable def zaY (a : Nat) (n : Nat) : Nat -> List Nat
 | 0 => []
 | k + 1 => a % 2 ^ n :: zaY (a / 2 ^ n) n k
theorem zgY (n : Nat) : ∀ (k a : Nat), (zaY a n k).length = k
 | 0, a => rfl
 | k + 1, a => congrArg (· + 1) (zgY n k _)
theorem zgZ (n : Nat) : ∀ (m m' a : Nat), zaY a n (m + m') = zaY (a % 2 ^ (n * m)) n m ++ zaY (a / 2 ^ (n * m)) n m'
 | 0, m', a => by
  show zaY a n (0 + m') = zaY (a / 1) n m'
  rw [Nat.zero_add, Nat.div_one]
 | m + 1, m', a => by
  have e2 : n * (m + 1) = n + n * m := by rw [Nat.mul_succ, Nat.add_comm]
  rw [Nat.add_right_comm m 1 m']
  show a % 2 ^ n :: zaY (a / 2 ^ n) n (m + m') = a % 2 ^ (n * (m + 1)) % 2 ^ n :: (zaY (a % 2 ^ (n * (m + 1)) / 2 ^ n) n m ++ zaY (a / 2 ^ (n * (m + 1))) n m')
  rw [zgZ n m m' (a / 2 ^ n), e2, Nat.pow_add]
  rw [Nat.div_div_eq_div_mul, Nat.mod_mul_right_mod]
  congr 3
  rw [Nat.mod_mul_right_div_self]
theorem zom {a n : Nat} (h : a < 2 ^ n) : zaY a n 1 = [a] := congrArg (fun x => [x]) (Nat.mod_eq_of_lt h)
theorem zr6 (a k : Nat) : a &&& (a / 2 ^ k * 2 ^ k) = a / 2 ^ k * 2 ^ k := by
 apply Nat.eq_of_testBit_eq
 intro i
 rw [Nat.testBit_and]
 rw [show a / 2 ^ k * 2 ^ k = (a >>> k) <<< k by rw [Nat.shiftRight_eq_div_pow, Nat.shiftLeft_eq]]
 rw [Nat.testBit_shiftLeft, Nat.testBit_shiftRight]
 by_cases h : k <= i
 ·rw [show k + (i - k) = i by omega]
  cases a.testBit i <;> simp
 ·simp [h]
theorem zpZ (a k : Nat) : Builtin.bitXor (a : Int) (((a / 2 ^ k : Nat) : Int) * 2 ^ k) = ((a % 2 ^ k : Nat) : Int) := by
 rw [(by norm_cast : ((a / 2 ^ k : Nat) : Int) * 2 ^ k = ((a / 2 ^ k * 2 ^ k : Nat) : Int)), bitXor_and]
 have h : Builtin.bitAnd (a : Int) ((a / 2 ^ k * 2 ^ k : Nat) : Int) = ((a / 2 ^ k * 2 ^ k : Nat) : Int) := by
  unfold Builtin.bitAnd
  rw [decide_eq_true (Int.natCast_nonneg _), decide_eq_true (Int.natCast_nonneg _)]
  simp only [Int.toNat_natCast]
  rw [zr6]
 rw [h]
 have := Nat.div_add_mod a (2 ^ k)
 lia
theorem zp0 (a k : Nat) : (a : Int).fdiv (2 ^ k) = ((a / 2 ^ k : Nat) : Int) := by
 rw [(by norm_cast : (2 : Int) ^ k = ((2 ^ k : Nat) : Int)), Int.fdiv_eq_ediv_of_nonneg _ (Int.natCast_nonneg _)]
 norm_cast
section
variable {Ω : En} {A : Around} {E : Value -> Shared -> Prop} {s : Shared}
theorem zhx {l : Addr} {vs : Array Value} {m : Nat} {k : Int} {t : Tok} {v : Value} {Q : Unit -> Shared -> Prop} (ho : s.heap.get? l = some { cls := .type "list", data := .seq vs m })
  (h0 : 0 <= k) (hfit : k < 2 ^ 63) (hn : k < vs.size) (hQ : ∀ h' m', h'.get? l = some { cls := .type "list", data := .seq (vs.setIfInBounds k.toNat v) m' } -> Heap.SameBut l s.heap h' -> Q () { s with heap := h' }) :
  wpAny Ω.m A (setItem (.ref l) (.int k t) v) Q E s := by
 have hl : s.heap.IsList l vs := ⟨_, ho, rfl, m, rfl⟩
 unfold setItem
 try with_reducible refine wpAny_holding ?_
 first | refine wB (wPu ?_) | skip
 refine wB (wpAny_sequenceKey hl.typeIs (rfl) ?_)
 refine wB (wpAny_callSpecial?_slot (name := Str.ofString "__setitem__") hl.typeIs slot_list_setitem
  (wpAny_call_entry slot_list_setitem hl.typeIs entry_list_setitem ?_ (args_list_setitem _ _ _)))
 show wpAny _ _ (Builtin.List.listSubscript? (.int k t) >>= _) _ _ s
 refine wB (wpAny_listSubscript_int (fitsIndex_of h0 hfit) ?_)
 clear hfit
 obtain (⟨j, rfl⟩) := Int.eq_ofNat_of_zero_le h0
 have hx' : vs[j]? = some vs[j] := Array.getElem?_eq_getElem (by omega)
 refine wB (wB (wpAny_seqItemAt ho rfl (wPu ?_)))
 rw [hx']
 have hfin : ∃ m', (s.heap.update l (Obj.mapSeq (·.setIfInBounds j v))).get? l = some { cls := .type "list", data := .seq (vs.setIfInBounds j v) m' } :=
  ⟨_, Heap.get?_update_self _ ho rfl⟩
 obtain ⟨m', hm'⟩ := hfin
 refine wB (wpAny_setSeqItemAt ho rfl ?_)
 first
  | exact wB (wPu (wPu (I12 .none rfl (wPu (hQ _ m' hm' (Heap.SameBut.update ..))))))
  | exact wPu (I12 .none rfl (wPu (hQ _ m' hm' (Heap.SameBut.update ..))))
end
noncomputable def zp1 : List Str := ["x", "L", "R", "mid", "shift", "upper", "lower"]
noncomputable def iTC (gen : Str) : TC := ⟨[("a_digits", (.free, 0)), ("inner", (.free, 1)), ("n", (.free, 2)), ("x", (.local, 3)), ("L", (.local, 4)), ("R", (.local, 5)), ("mid", (.local, 6)), ("shift", (.local, 7)), ("upper", (.local, 8)), ("lower", (.local, 9))], [], [], 10, [], gen, 3⟩
section
variable {Ω : En} {A : Around} {Z Z' : Heap} {s s' : Shared} {Φ : Fs} {p : Nat -> Pos} {q : Str} {pm : Value} {c' T F ca ci cn l : Addr} {env : Env} {ρ : Rho} {ad : Nat -> Addr}
def iFd (p : Nat -> Pos) (q : Str) (pm : Value) (c' T ca ci cn : Addr) : FuncData := zdJ "inner" q (zfk p) (zcG p) zaB mainGlobals [("n", cn), ("inner", ci), ("a_digits", ca)] pm c' T
structure IOn (Z h : Heap) (p : Nat -> Pos) (q : Str) (pm : Value) (c' T F ca ci cn l : Addr) (xs : List PyData) (n : Nat) : Prop where
 fn : h.get? F = some { cls := .type "function", data := .func (iFd p q pm c' T ca ci cn) }
 cr : h.CodeRec (.ref c') q
 dig : h.IsCell ca (some (.ref l))
 num : ∃ t, h.IsCell cn (some (.int (n : Int) t))
 inn : h.IsCell ci (some (.ref F))
 zd : Z.get? ca = none
 zn : Z.get? cn = none
 zi : Z.get? ci = none
 ap : ca ≠ ci /\ ca ≠ cn /\ ci ≠ cn
 own : zbv Z h l xs
theorem IOn.stx {xs xs' : List PyData} {n : Nat} {GI : Nat -> Prop} (D : IOn Z s.heap p q pm c' T F ca ci cn l xs n) (S : StX (· = l) GI Ω Z s Z' s') (ho : zbv Z' s'.heap l xs') : IOn Z' s'.heap p q pm c' T F ca ci cn l xs' n := by
 obtain ⟨vs, m, hl, _, _⟩ := D.own
 have cellNe : ∀ {a v}, s.heap.IsCell a v -> a ≠ l := by
  intro a v h9 h92; obtain ⟨o, e, d⟩ := h9; obtain rfl := h92.symm
  cases hl.symm.trans e; cases d
 have kc : ∀ {a v}, s.heap.IsCell a v -> s'.heap.IsCell a v := fun x => zac x fun o e => S.h _ _ (cellNe x) e
 refine ⟨S.h _ _ (fun e => ?_) D.fn, ?_, kc D.dig, E11 D.num fun t x =>  ⟨t, kc x⟩, kc D.inn, ?_, ?_, ?_, D.ap, ho⟩
 ·have := D.fn; rw [e, hl] at this
  injection this with this
  injection this with h1
  injection h1 with h1
  exact absurd h1 (by decide)
 ·obtain ⟨c2, o2, vs2, t2, e2, g2, d2, r2⟩ := D.cr
  refine I44 c2 o2 vs2 t2 e2 (S.h _ _ (fun e => ?_) g2) d2 r2
  have g2 := hl ▸ e ▸ g2; cases g2; cases d2
 ·obtain ⟨o, e, _⟩ := id D.dig; rw [S.new _ _ (cellNe D.dig) e]; exact D.zd
 ·obtain ⟨t, x⟩ := D.num; obtain ⟨o, e, _⟩ := id x; rw [S.new _ _ (cellNe x) e]; exact D.zn
 ·obtain ⟨o, e, _⟩ := id D.inn; rw [S.new _ _ (cellNe D.inn) e]; exact D.zi
theorem IOn.stp {xs : List PyData} {n : Nat} (D : IOn Z s.heap p q pm c' T F ca ci cn l xs n) (S : Stp Ω Z s Z' s') : IOn Z' s'.heap p q pm c' T F ca ci cn l xs n := by
 obtain ⟨vs, m, hl, r, z⟩ := D.own
 exact D.stx (GI := fun _ => False) S.x (I23 vs m (S.h _ _ hl) (r.mono S.f) (by rw [S.new _ _ hl]; exact z))
theorem ziW {x : Str} {k : NameKind} {i : Nat} (h : (iTC Φ.gen).nm.lookup x = some (k, i)) :
  (x = "a_digits" /\ k = .free /\ i = 0) \/ (x = "inner" /\ k = .free /\ i = 1) \/ (x = "n" /\ k = .free /\ i = 2) \/ (k = .local /\ 3 <= i /\ i < 10 /\ (zp1[i - 3]? = some x)) := by
 have := z6 h
 simp only [iTC, List.mem_cons, Prod.mk.injEq, List.not_mem_nil, or_false] at this
 rcases this with ⟨rfl, rfl, rfl⟩ | ⟨rfl, rfl, rfl⟩ | ⟨rfl, rfl, rfl⟩ | ⟨rfl, rfl, rfl⟩ | ⟨rfl, rfl, rfl⟩ | ⟨rfl, rfl, rfl⟩ | ⟨rfl, rfl, rfl⟩ | ⟨rfl, rfl, rfl⟩ | ⟨rfl, rfl, rfl⟩ | ⟨rfl, rfl, rfl⟩ <;> decide
end
noncomputable def dI (ds : List Nat) : List PyData := ds.map fun (d : Nat) => PyData.int (d : Int)
theorem zj0 {Z : Heap} : ∀ {vs : List Value} {xs : List PyData} {i : Nat} {v : Value} {d : PyData}, zv Z vs xs -> Rep Z v d -> zv Z (vs.set i v) (xs.set i d)
 | vs, [], i, v, d, r, rv => by refine rwE r ?_; exact zaM.mpr rfl
 | vs, x :: xs, 0, v, d, r, rv => by
  obtain ⟨u, us, e9, r1, r2⟩ := zy.mp r; refine rwE e9 ?_
  exact zy.mpr (I23 v us rfl rv r2)
 | vs, x :: xs, i + 1, v, d, r, rv => by
  obtain ⟨u, us, e9, r1, r2⟩ := zy.mp r; refine rwE e9 ?_
  exact zy.mpr (I23 u (us.set i v) rfl r1 (zj0 r2 rv))
section
variable {Ω : En} {A : Around} {Z Z' : Heap} {s s' : Shared} {Φ : Fs} {p : Nat -> Pos} {q : Str} {pm : Value} {c' T F ca ci cn l : Addr} {env : Env} {ρ : Rho} {ad : Nat -> Addr}
theorem zgc (h : NoM ρ) {b : Addr} (o : Own (iTC Φ.gen) env ρ ad b) : b = env.locals := by
 rcases o with o | ⟨x, k, i, e, hk, hl, _⟩ | ⟨i, xs, e, _⟩
 ·exact o
 ·have hl : 3 <= i := hl
  rcases ziW e with ⟨_, h1, rfl⟩ | ⟨_, h1, rfl⟩ | ⟨_, h1, rfl⟩ | ⟨h1, _⟩
  ·lia
  ·lia
  ·lia
  ·subst h1; rcases hk with h | h <;> cases h
 ·exact absurd e (h i xs)
theorem ztO {n x L R : Int} : NoM [none, none, some (.d (.int n)), some (.d (.int x)), some (.d (.int L)), some (.d (.int R)), none, none, none, none] := zga rfl
theorem ztP {xs : List PyData} {n L R : Nat} {x : Int} {tx tl tr : Tok} {h : Heap} {L0 : Addr} (D : IOn Z h p q pm c' T F ca ci cn l xs n)
  (hns : h.Ns L0 (fun y => [(("x" : Str), Value.int x tx), ("L", .int (L : Int) tl), ("R", .int (R : Int) tr)].reverse.lookup y)) (zL : Z.get? L0 = none) (hm : L0 ≠ mainGlobals) :
  Rel (iTC Φ.gen) (callEnv (iFd p q pm c' T ca ci cn) L0 F) Z h [none, none, some (.d (.int (n : Int))), some (.d (.int x)), some (.d (.int (L : Int))), some (.d (.int (R : Int))), none, none, none, none] (fun u => 0) := by
 obtain ⟨a1, a2, a3⟩ := D.ap
 refine zoc rfl (by kernel_rfl) rfl rfl (I12 _ hns ?_) ?_ zL (by kernel_rfl) (fun x y b h1 h2 => zod (x := "n") (y := "inner") (z := "a_digits") a3.symm a2.symm a1.symm h1 h2) rfl (Nat.le_refl _) (by kernel_rfl) hm
 ·intro y i pv e hp
  rcases ziW e with ⟨_, h1, _⟩ | ⟨_, h1, _⟩ | ⟨_, h1, _⟩ | ⟨_, h1, h2, h3⟩
  ·cases h1
  ·cases h1
  ·exact nomatch h1
  ·revert h1 h3 hp
   refine ltS h2 (fun _ h => nomatch h) fun i h2 => ltS h2 (fun _ h => nomatch h) fun i h2 => ltS h2 (fun _ h => nomatch h) fun i h2 => ?_
   refine ltS h2 (fun hp _ h3 => ?_) fun i h2 => ltS h2 (fun hp _ h3 => ?_) fun i h2 => ltS h2 (fun hp _ h3 => ?_) fun i h2 => ?_
   ·refine eqE h3 ?_; refine eqE (Option.some.inj hp) ?_; exact I12 (.int x tx) rfl zb7
   ·refine eqE h3 ?_; refine eqE (Option.some.inj hp) ?_; exact I12 (.int (L : Int) tl) rfl zb7
   ·refine eqE h3 ?_; refine eqE (Option.some.inj hp) ?_; exact I12 (.int (R : Int) tr) rfl zb7
   ·exact ltS h2 (fun hp _ _ => za (Option.some.inj hp)) fun i h2 => lt3 h2 (fun hp _ _ => za (Option.some.inj hp)) (fun hp _ _ => za (Option.some.inj hp)) (fun hp _ _ => za (Option.some.inj hp))
 ·intro y k i e hk
  rcases ziW e with ⟨rfl, h1, rfl⟩ | ⟨rfl, h1, rfl⟩ | ⟨rfl, h1, rfl⟩ | ⟨h1, _⟩
  ·exact I24 ca _ rfl D.dig D.zd (fun pv hp => by cases hp)
  ·exact I24 ci _ rfl D.inn D.zi (fun pv hp => by cases hp)
  ·obtain ⟨t, a⟩ := D.num
   exact I24 cn _ rfl a D.zn (fun pv hp => by cases hp; exact I12 _ rfl zb7)
  ·subst h1; rcases hk with h | h <;> exact nomatch h
theorem zr7 {xs : List PyData} (hn : NoM ρ) (R : Rel (iTC Φ.gen) env Z s.heap ρ ad) (ho : zbv Z s.heap l xs) {b : Addr} (h : zaw (iTC Φ.gen) env ρ ad b) : b ≠ l := by
 obtain ⟨vs, m, hl, _, _⟩ := ho
 rintro rfl
 rcases h with h | ⟨x, k, i, e, hk, hc⟩ | ⟨i, xs, e, _⟩
 ·obtain ⟨m, ⟨o, es, ep, ho, hd, _⟩, _⟩ := R.loc
  have ho := hl ▸ h ▸ ho; cases ho; cases hd
 ·obtain ⟨a', ov, ha, ⟨o, ho, hd⟩, _⟩ := R.cel x k i e hk
  cases hc.symm.trans ha
  cases hl.symm.trans ho; cases hd
 ·exact absurd e (hn i xs)
set_option maxRecDepth 100000 in
theorem zp2 (a b d : Value) : bindArgs (iFd p q pm c' T ca ci cn) ⟨[a, b, d], []⟩ = pure [(("x" : Str), a), ("L", b), ("R", d)] := by rfl
def zon (Ω : En) (p : Nat -> Pos) (q : Str) (pm : Value) (c' T F ca ci cn l : Addr) (n k : Nat) : Prop :=
 ∀ (A : Around) (Z : Heap) (s : Shared) (xs : List PyData) (x L R : Nat) (tx tl tr : Tok), Rm A (k + 50) -> Ok Ω Z s -> IOn Z s.heap p q pm c' T F ca ci cn l xs n -> L < R -> R <= xs.length -> R - L <= 2 ^ k -> x < 2 ^ (n * (R - L)) -> xs.length * n <= 2 ^ 24 -> xs.length <= big ->
  wpAny Ω.m A (call (.ref F) [.int (x : Int) tx, .int (L : Int) tl, .int (R : Int) tr])
   (fun v s' => v = .none /\ ∃ Z', StX (· = l) (fun u => False) Ω Z s Z' s' /\ zbv Z' s'.heap l (xs.take L ++ dI (zaY x n (R - L)) ++ xs.drop R)) zc s
theorem zp3 {xs : List PyData} {L M R : Nat} {lo hi : List Nat} (h1 : L <= M) (h2 : M <= R) (hR : R <= xs.length) (hl : lo.length = M - L) (hh : hi.length = R - M) :
  (xs.take L ++ dI lo ++ xs.drop M).take M ++ dI hi ++ (xs.take L ++ dI lo ++ xs.drop M).drop R = xs.take L ++ dI (lo ++ hi) ++ xs.drop R := by
 have e1 : (xs.take L ++ dI lo).length = M := by
  rw [List.length_append, List.length_take, show (dI lo).length = M - L from (List.length_map ..).trans hl, Nat.min_eq_left (nle h1 (nle h2 hR)), Nat.add_sub_cancel' h1]
 rw [List.take_append_of_le_length (Nat.le_of_eq e1.symm), List.take_of_length_le (Nat.le_of_eq e1)]
 rw [List.drop_append, e1, List.drop_eq_nil_of_le (nle (Nat.le_of_eq e1) h2), List.nil_append, List.drop_drop, Nat.add_sub_cancel' h2]
 simp [dI]
set_option maxRecDepth 100000 in
theorem zj1 (H : zag Ω Φ.none (run za5 6) 46) {n k : Nat} (ih : k = 0 \/ zon Ω p q pm c' T F ca ci cn l n (k - 1)) : zon Ω p q pm c' T F ca ci cn l n k := by
 intro A Z s xs x L R tx tl tR hA hO D hLR hR hk hx hsz hlen
 have hroom : A.depth < recursionLimit := Nat.lt_of_le_of_lt (nle (Nat.le_add_right _ _) hA.depth) (by decide)
 refine wpAny_call (codeAny_call_def hroom D.fn (fd := iFd p q pm c' T ca ci cn) rfl (H.gl.lims hO) D.cr (body := zcG p) rfl (BindsTo.of_eq (zp2 _ _ _)) (by show ∀ x ∈ zaB.names, x.2 ≠ .cell; decide +kernel)
  (by
   intro x hx
   refine zbt hx ?_ fun hx => zaZ hx ?_ ?_
   ·show zaB.names.lookup (Str.ofString "x") = _; decide +kernel
   ·show zaB.names.lookup (Str.ofString "L") = _; decide +kernel
   ·show zaB.names.lookup (Str.ofString "R") = _; decide +kernel) (fun h_0 hns hkp => ?_) rfl rfl rfl)
 let env : Env := callEnv (iFd p q pm c' T ca ci cn) s.heap.objs.size F
 let A' : Around := A.deeper env
 have hA1 : Rm A' (k + 49) := hA.deep
 have hA' : Rm A' 46 := hA1.le (nle (by decide) (Nat.le_add_left 49 k))
 have hG : GlC (iTC Φ.gen) Φ.none := ⟨rfl, rfl, rfl⟩
 have S_1 : Stp Ω Z s Z { s with heap := h_0, toks := s.toks + 3 } := Stp.grow hO hkp
 have hm : s.heap.objs.size ≠ mainGlobals := by
  intro e
  obtain ⟨mg, mb, ⟨o', _, _, hm, _⟩, _⟩ := H.gl.ns
  have h1 := Heap.lt_size (hO.sub _ _ (hO.base _ _ hm))
  rw [<- e] at h1
  exact Nat.lt_irrefl _ h1
 let ρ_0 : Rho := [none, none, some (.d (.int (n : Int))), some (.d (.int (x : Int))), some (.d (.int (L : Int))), some (.d (.int (R : Int))), none, none, none, none]
 have n0 : NoM ρ_0 := ztO
 have R0 : Rel (iTC Φ.gen) env Z h_0 ρ_0 (fun _ => 0) := ztP (D.stp S_1) hns (hO.sub.none (zj _)) hm
 let Post : Value -> Shared -> Prop := fun v s' => v = .none /\ ∃ Z', StX (· = l) (fun _ => False) Ω Z s Z' s' /\ zbv Z' s'.heap l (xs.take L ++ dI (zaY x n (R - L)) ++ xs.drop R)
 show wpAny Ω.m A' (execs (zcG p) env) (fun f s' => Post (match f with | .ret v => v | _ => .none) s') _ _
 refine wpAny_mono (E := zc) ?_ (fun _ _ x => x) fun _ _ x => x.elim
 refine wpAny_execs_cons (wpAny_If (za4.then (H.tst 60 (iTC Φ.gen) _ (.cmp .Eq (.bin .Add (.v 4) (.c (.int 1))) (.v 5)) ρ_0 (.bool ((L : Int) + 1 == (R : Int))) ((L : Int) + 1 == (R : Int)) (by rfl) (by rfl) rfl A' env Z _ _ hA' hG S_1.ok R0) fun s_1 Z_1 S_2 => ?_))
 have R1 := R0.stp S_2
 have T1 := S_1.trans S_2
 have D_1 := D.stp T1
 have hb : big = 1000000 := rfl
 by_cases hc : L + 1 = R
 ·have hc' : ((L : Int) + 1 == (R : Int)) = true := beq_iff_eq.mpr (congrArg (fun n : Nat => (n : Int)) hc)
  rw [hc', if_pos rfl]
  obtain ⟨vs, m, hl, rl, zl⟩ := D_1.own
  refine wpAny_execs_cons (wpAny_Assign_Subscript (wpAny_Name (zaF (i := 3) R1 (by rfl) rfl fun v rv => ?_) (by decide +kernel)))
  refine wpAny_Name (wpAny_loadName_free (c := ca) rfl (by rfl) (by rfl) D_1.dig ?_ (by decide +kernel)) (by decide +kernel)
  refine wpAny_Name (zaF (i := 4) R1 (by rfl) rfl fun u ru => ?_) (by decide +kernel)
  have ru : Rep Z_1 u (.int (L : Int)) := ru
  refine zc1 ru fun t => ?_
  refine zhx hl (Int.natCast_nonneg _) ?_ ?_ fun h' m' hl' hs' => ?_
  ·exact Int.lt_of_lt_of_le (Int.ofNat_lt.mpr (Nat.lt_of_lt_of_le hLR (nle hR hlen))) (by decide)
  ·exact Int.ofNat_lt.mpr (Nat.lt_of_lt_of_le hLR (nle hR (Nat.le_of_eq (zp rl).symm)))
  refine wpAny_execs_cons (wpAny_Return_none ⟨rfl, Z_1, ?_, vs.setIfInBounds L v, m', by exact hl', ?_, zl⟩)
  ·have S_3 : StX (· = l) (fun _ => False) Ω Z_1 s_1 Z_1 { s_1 with heap := h' } := StX.at (n := s_1.toks) S_2.ok (fun b hb => by rw [hb]; exact zl) fun b o nb eo => (hs'.2 b nb).trans eo
   exact (T1.x (W := (· = l)) (GI := fun _ => False)).trans S_3 (fun b hb => .inl hb) (fun _ h => h.elim)
  ·have hx1 : x < 2 ^ n := by rw [<- hc, Nat.add_sub_cancel_left, Nat.mul_one] at hx; exact hx
   have e : xs.take L ++ dI (zaY x n (R - L)) ++ xs.drop R = xs.set L (.int (x : Int)) := by
    rw [<- hc, Nat.add_sub_cancel_left, zom hx1, List.set_eq_take_append_cons_drop, if_pos (Nat.lt_of_lt_of_le hLR hR)]
    simp [dI]
   rw [e, Array.toList_setIfInBounds]
   exact zj0 rl rv
 ·have hc' : ((L : Int) + 1 == (R : Int)) = false := beq_eq_false_iff_ne.mpr fun h => hc (Int.ofNat_inj.mp h)
  rw [hc', if_neg Bool.false_ne_true]
  refine wpAny_execs_nil ?_
  have hk0 : k ≠ 0 := fun e => hc (Nat.le_antisymm hLR (nle (Nat.sub_le_iff_le_add.mp (nle hk (Nat.le_of_eq (congrArg (2 ^ ·) e)))) (Nat.le_of_eq (Nat.add_comm 1 L))))
  have kp : k - 1 + 1 = k := Nat.sub_add_cancel (Nat.pos_of_ne_zero hk0)
  have ih := ih.resolve_left hk0
  let M := (L + R) / 2
  have hM1 : L < M := (ziV hLR hc).1
  have hM2 : M < R := (ziV hLR hc).2
  have hMl : M <= xs.length := nle (Nat.le_of_lt hM2) hR
  have hk2 : R - L <= 2 * 2 ^ (k - 1) := nle hk (Nat.le_of_eq ((congrArg (2 ^ ·) kp.symm).trans Nat.pow_succ'))
  have hnR : n * (R - L) <= 2 ^ 24 := by rw [Nat.mul_comm]; exact nle (Nat.mul_le_mul_right n (nle (Nat.sub_le ..) hR)) hsz
  have hnM : (M - L) * n <= 2 ^ 24 := nle (Nat.mul_le_mul_right n (nle (Nat.sub_le ..) hMl)) hsz
  have hsplit : n * (R - L) = n * (M - L) + n * (R - M) := (congrArg (n * ·) (zfl (Nat.le_of_lt hM1) (Nat.le_of_lt hM2))).trans (Nat.mul_add ..)
  have hex1 : (run za5 6).ex ρ_0 (.bin .RShift (.bin .Add (.v 4) (.v 5)) (.c (.int 1))) = some (.int (M : Int)) := by
   have := zob L R
   rw [show ((M : Nat) : Int) = (((L + R) / 2 : Nat) : Int) from rfl, <- this]; rfl
  refine wpAny_execs_cons (wpAny_Assign_Name (Pst.then (H.ex 60 (iTC Φ.gen) _ _ ρ_0 (.int (M : Int)) (by rfl) hex1 A' env Z_1 s_1 _ hA' hG S_2.ok R1) fun v s_2 Z_2 S_3 r => zbc (c := iTC Φ.gen) (i := 6) (by rfl) S_3.ok (R1.stp S_3) r fun s_3 a_3 => ?_) rfl)
  have T3 := zcU (T1.trans S_3) a_3 fun b o => by rw [zgc n0 o]; exact zj _
  let ρ_1 : Rho := ρ_0.set 6 (some (.d (.int (M : Int))))
  have n1 : NoM ρ_1 := zeM n0
  have hex2 : (run za5 6).ex ρ_1 (.bin .Mult (.bin .Sub (.v 6) (.v 4)) (.v 2)) = some (.int (((M - L) * n : Nat) : Int)) := by
   exact zog (Nat.le_of_lt hM1) (nle hMl hlen) (nle (Nat.le_mul_of_pos_left n (Nat.lt_of_lt_of_le (Nat.lt_of_le_of_lt (Nat.zero_le _) hLR) hR)) hsz)
  refine wpAny_execs_cons (wpAny_Assign_Name (Pst.then (H.ex 60 (iTC Φ.gen) _ _ ρ_1 _ (by rfl) hex2 A' env Z_2 s_3 _ hA' hG a_3.stx.ok a_3.rel) fun v s_4 Z_4 S_4 r => zbc (c := iTC Φ.gen) (i := 7) (by rfl) S_4.ok (a_3.rel.stp S_4) r fun s_5 a_5 => ?_) rfl)
  have T5 := zcU (T3.trans S_4) a_5 fun b o => by rw [zgc n1 o]; exact zj _
  let ρ_2 : Rho := ρ_1.set 7 (some (.d (.int (((M - L) * n : Nat) : Int))))
  have n2 : NoM ρ_2 := zeM n1
  let up : Nat := x / 2 ^ ((M - L) * n)
  have hex3 : (run za5 6).ex ρ_2 (.bin .RShift (.v 3) (.v 7)) = some (.int (up : Int)) := by
   show (if 0 <= (((M - L) * n : Nat) : Int) then some (PyData.int ((x : Int).fdiv (2 ^ (((M - L) * n : Nat) : Int).toNat))) else none) = _
   rw [if_pos (Int.natCast_nonneg _), Int.toNat_natCast, zp0]
  refine wpAny_execs_cons (wpAny_Assign_Name (Pst.then (H.ex 60 (iTC Φ.gen) _ _ ρ_2 _ (by rfl) hex3 A' env Z_4 s_5 _ hA' hG a_5.stx.ok a_5.rel) fun v s_6 Z_6 S_6 r => zbc (c := iTC Φ.gen) (i := 8) (by rfl) S_6.ok (a_5.rel.stp S_6) r fun s_7 a_7 => ?_) rfl)
  have T7 := zcU (T5.trans S_6) a_7 fun b o => by rw [zgc n2 o]; exact zj _
  let ρ_3 : Rho := ρ_2.set 8 (some (.d (.int (up : Int))))
  have n3 : NoM ρ_3 := zeM n2
  let lw : Nat := x % 2 ^ ((M - L) * n)
  have hup : up < 2 ^ (n * (R - M)) := by
   rw [Nat.div_lt_iff_lt_mul (Nat.two_pow_pos _), <- Nat.pow_add, Nat.mul_comm (M - L) n, Nat.add_comm, <- hsplit]
   exact hx
  have hlw : lw < 2 ^ (n * (M - L)) := by
   show x % 2 ^ ((M - L) * n) < _
   rw [Nat.mul_comm (M - L) n]
   exact Nat.mod_lt _ (Nat.two_pow_pos _)
  have hex4 : (run za5 6).ex ρ_3 (.bin .BitXor (.v 3) (.bin .LShift (.v 8) (.v 7))) = some (.int (lw : Int)) := by
   show Option.bind (zav .LShift (.int (up : Int)) (.int (((M - L) * n : Nat) : Int))) (fun b => zav .BitXor (.int (x : Int)) b) = _
   rw [zoh (nle (zby hup) (nle (nle (Nat.le_add_left ..) (Nat.le_of_eq hsplit.symm)) hnR)) hnM]
   exact congrArg (fun i => some (PyData.int i)) (zpZ ..)
  refine wpAny_execs_cons (wpAny_Assign_Name (Pst.then (H.ex 60 (iTC Φ.gen) _ _ ρ_3 _ (by rfl) hex4 A' env Z_6 s_7 _ hA' hG a_7.stx.ok a_7.rel) fun v s_8 Z8 S8 r => zbc (c := iTC Φ.gen) (i := 9) (by rfl) S8.ok (a_7.rel.stp S8) r fun s_9 a_9 => ?_) rfl)
  have T9 := zcU (T7.trans S8) a_9 fun b o => by rw [zgc n3 o]; exact zj _
  let ρ_4 : Rho := ρ_3.set 9 (some (.d (.int (lw : Int))))
  have n4 : NoM ρ_4 := zeM n3
  have D9 := D.stp T9
  have callIt : ∀ {ys : List PyData} {y a b : Nat} {ey ea eb : PySem.Expr} {py pa pb : PE} {p1 p2 : Pos} {Zi : Heap} {si : Shared}, IOn Zi si.heap p q pm c' T F ca ci cn l ys n -> Ok Ω Zi si -> Rel (iTC Φ.gen) env Zi si.heap ρ_4 (fun _ => 0) ->
    Mine.tr 60 (iTC Φ.gen) ey = some py -> Mine.tr 60 (iTC Φ.gen) ea = some pa -> Mine.tr 60 (iTC Φ.gen) eb = some pb -> (run za5 6).ex ρ_4 py = some (.int (y : Int)) -> (run za5 6).ex ρ_4 pa = some (.int (a : Int)) -> (run za5 6).ex ρ_4 pb = some (.int (b : Int)) ->
    a < b -> b <= ys.length -> b - a <= 2 ^ (k - 1) -> y < 2 ^ (n * (b - a)) -> ys.length * n <= 2 ^ 24 -> ys.length <= big ->
    wpAny Ω.m A' (eval (.Call (.Name "inner" p1) [ey, ea, eb] [] p2) env) (fun v s' => v = .none /\ ∃ Z', StX (· = l) (fun _ => False) Ω Zi si Z' s' /\ zbv Z' s'.heap l (ys.take a ++ dI (zaY y n (b - a)) ++ ys.drop b)) zc si := by
   intro ys y a b ey ea eb py pa pb p1 p2 Zi si Di Oi Ri h1 h2 h3 g1 g2 g3 h5 h6 h7 h8 h9 h10
   refine wpAny_Call_NameR (wpAny_Name (wpAny_loadName_free (c := ci) rfl (by rfl) (by rfl) Di.inn ?_ (by decide +kernel)) (by decide +kernel))
   refine Calls.callWith_function (z9 (H.ex 60) hA' hG (pes := [py, pa, pb]) (ds := [.int (y : Int), .int (a : Int), .int (b : Int)]) (ziG h1 (zdm h2 h3)) (zjL g1 (zcT g2 g3)) Oi Ri fun vs s' Z' S' r => ⟨⟨(Di.stp S').fn, rfl⟩, ?_⟩)
   obtain ⟨v, vs', e9, r1, q1⟩ := zy.mp r; refine rwE e9 ?_
   obtain ⟨v', vs'', e9, r2, q2⟩ := zy.mp q1; refine rwE e9 ?_
   obtain ⟨v'', vs3, e9, r3, q3⟩ := zy.mp q2; refine rwE e9 ?_
   refine rwE q3 ?_
   obtain (⟨t1, e9⟩) := r1; refine rwE e9 ?_; obtain (⟨t2, e9⟩) := r2; refine rwE e9 ?_; obtain (⟨t3, e9⟩) := r3; refine rwE e9 ?_
   refine wpAny_mono (ih A' Z' s' ys y a b t1 t2 t3 (hA1.le (Nat.le_of_eq (congrArg (· + 49) kp))) S'.ok (Di.stp S') h5 h6 h7 h8 h9 h10) (fun v s'' p => ?_) fun _ _ x => x
   obtain ⟨rfl, Z'', S'', ho⟩ := p
   exact ⟨rfl, Z'', (S'.x (W := (· = l)) (GI := fun _ => False)).trans S'' (fun b hb => .inl hb) (fun _ h => h.elim), ho⟩
  refine wpAny_execs_cons (wpAny_Expr_any (wpAny_mono (callIt (ys := xs) (y := lw) (a := L) (b := M) D9 a_9.stx.ok a_9.rel (by rfl) (by rfl) (by rfl) (by rfl) (by rfl) (by rfl) hM1 hMl (zoi hk2) hlw hsz hlen) (fun v s_10 pp => ?_) fun _ _ x => x) rfl rfl)
  obtain ⟨_, Z_10, S10, ho_10⟩ := pp
  have D10 := D9.stx S10 ho_10
  have R10 := a_9.rel.stX S10 fun b hb => zr7 n4 a_9.rel D9.own hb
  have hl1 : (zaY lw n (M - L)).length = M - L := zgY ..
  have hys : (xs.take L ++ dI (zaY lw n (M - L)) ++ xs.drop M).length = xs.length := by
   rw [List.length_append, List.length_append, List.length_take, show (dI (zaY lw n (M - L))).length = M - L from (List.length_map ..).trans hl1, Nat.min_eq_left (nle (Nat.le_of_lt hM1) hMl), Nat.add_sub_cancel' (Nat.le_of_lt hM1), List.length_drop, Nat.add_sub_cancel' hMl]
  refine wpAny_execs_cons (wpAny_Expr_any (wpAny_mono (callIt (y := up) (a := M) (b := R) D10 S10.ok R10 (by rfl) (by rfl) (by rfl) (by rfl) (by rfl) (by rfl) hM2 (by rw [hys]; exact hR) (zoj hk2) hup (by rw [hys]; exact hsz) (by rw [hys]; exact hlen)) (fun v s_11 pp => ?_) fun _ _ x => x) rfl rfl)
  obtain ⟨_, Z_11, S11, ho_11⟩ := pp
  refine wpAny_execs_nil ⟨rfl, Z_11, ((T9.x (W := (· = l)) (GI := fun _ => False)).trans S10 (fun b hb => .inl hb) (fun _ h => h.elim)).trans S11 (fun b hb => .inl hb) (fun _ h => h.elim), ?_⟩
  rw [zp3 (Nat.le_of_lt hM1) (Nat.le_of_lt hM2) hR hl1 (zgY ..)] at ho_11
  have e : zaY x n (R - L) = zaY lw n (M - L) ++ zaY up n (R - M) := by
   rw [zfl (Nat.le_of_lt hM1) (Nat.le_of_lt hM2), zgZ]
   show _ = zaY (x % 2 ^ ((M - L) * n)) n (M - L) ++ zaY (x / 2 ^ ((M - L) * n)) n (R - M)
   rw [Nat.mul_comm (M - L) n]
  rw [e]; exact ho_11
theorem zia (H : zag Ω Φ.none (run za5 6) 46) {n : Nat} : ∀ k, zon Ω p q pm c' T F ca ci cn l n k
 | 0 => zj1 H (.inl rfl)
 | k + 1 => zj1 H (.inr (zia H k))
end
section
variable {Ω : En} {A : Around} {Z Z' : Heap} {s s' : Shared} {Φ : Fs} {p : Nat -> Pos} {q : Str} {pm : Value} {c' T F ca ci cn c P l : Addr} {env : Env} {ρ : Rho} {ad : Nat -> Addr}
theorem zr8 {h h' : Heap} {pos : Pos} {vs : Array Value} {m : Nat} (hl : h.get? l = some { cls := .type "list", data := .seq vs m }) (hc : c ≠ l) (hP : P ≠ l) (k : ∀ b o, b ≠ l -> h.get? b = some o -> h'.get? b = some o) (x : zbe h c P pos q true) : zbe h' c P pos q true := by
 obtain ⟨ps, c', a, b, d, e⟩ := x
 refine I24 ps c' ?_ ?_ d ?_
 ·refine cps fun G0 hG_0 => ?_
  obtain ⟨o, vs, file, tf, flags, tg, inF, text, tt, op, ho, r1, r2, r3, r4, r5, r6, hop, r⟩ := a
  refine hG_0 ?_
  exact ⟨o, vs, file, tf, flags, tg, inF, text, tt, op, k _ _ hc ho, r1, r2, r3, r4, r5, r6, k _ _ hP hop, r⟩
 ·obtain ⟨⟨o, vs, e, r⟩, e'⟩ := b
  exact ⟨(I22 o vs (k _ _ hc e) r), k _ _ hP e'⟩
 ·obtain ⟨c2, o2, vs2, t2, e2, g2, d2, r2⟩ := e
  refine I44 c2 o2 vs2 t2 e2 (k _ _ (fun e => ?_) g2) d2 r2
  have g2 := hl ▸ e ▸ g2; cases g2; cases d2
theorem zmz (h1 : env.cells.lookup ("a_digits" : Str) = some ca) (h2 : env.cells.lookup ("inner" : Str) = some ci) (h3 : env.cells.lookup ("n" : Str) = some cn) : closureFor zaB env = pure [(("n" : Str), cn), ("inner", ci), ("a_digits", ca)] := by
 have e1 : cellOf env (Str.ofString "a_digits") = pure ca := by unfold cellOf; rw [h1]
 have e2 : cellOf env (Str.ofString "inner") = pure ci := by unfold cellOf; rw [h2]
 have e3 : cellOf env (Str.ofString "n") = pure cn := by unfold cellOf; rw [h3]
 unfold closureFor zaB
 simp only [List.forIn_cons, List.forIn_nil, e1, e2, e3]
 rfl
theorem zmA {c : TC} {h h' : Heap} (R : Rel c env Z h ρ ad) (hkeep : ∀ b o, b ≠ ci -> (b = env.locals \/ ∃ x, env.cells.lookup x = some b) -> h.get? b = some o -> h'.get? b = some o) (hci : ∃ ov, h'.IsCell ci ov) (hL : env.locals ≠ ci)
  (hi : ∀ x k i, c.nm.lookup x = some (k, i) -> (k = .cell \/ k = .free) -> env.cells.lookup x = some ci -> ∀ pv, ρ[i]? ≠ some (some pv)) (hown : ∀ i xs, ρ[i]? = some (some (.m xs)) -> zbv Z h' (ad i) xs) : Rel c env Z h' ρ ad := by
 refine { R with loc := ?_, cel := ?_, own := hown }
 ·obtain ⟨m, hns, hm⟩ := R.loc
  exact I12 m (hns.at' fun o e => hkeep _ _ hL (.inl rfl) e) hm
 ·intro x k i e hk
  obtain ⟨a, ov, ha, hc, hz, hv⟩ := R.cel x k i e hk
  by_cases hac : a = ci
  ·subst hac
   obtain ⟨ov', hc'⟩ := hci
   exact I24 a ov' ha hc' hz (fun pv q => absurd q (hi x k i e hk ha pv))
  ·exact I24 a ov ha (zac hc fun o eo => hkeep _ _ hac (.inr ⟨x, ha⟩) eo) hz hv
theorem ziX {l0 : Addr} {t u : Tok} {k : Nat} {x : Int} {Q : Value -> Shared -> Prop} (hl : s.heap.get? l0 = some { cls := .type "list", data := .seq #[.int 0 t] k }) (h0 : 0 <= x) (hx : x <= 16777216)
  (h : Q (.ref s.heap.objs.size) { s with heap := s.heap.push { cls := .type "list", data := .seq (List.replicate x.toNat (Value.int 0 t)).toArray } }) : wpAny Ω.m A (binaryOp .Mult (.ref l0) (.int x u)) Q zc s := by
 have hsz : (#[Value.int 0 t]).size * x.toNat <= 2 ^ 24 := by show 1 * x.toNat <= 2 ^ 24; lia
 have e : (List.foldl (fun x1 x2 => x1 ++ x2) #[] (List.replicate (if (#[Value.int 0 t]).isEmpty = true then 0 else x.toNat) #[Value.int 0 t])) = (List.replicate x.toNat (Value.int 0 t)).toArray := by
  rw [listMul_foldl_if]
  congr 1
  generalize x.toNat = y
  induction y with
  | zero => rfl
  | succ y ih => rw [List.replicate_succ, List.replicate_succ, List.flatten_cons, ih]; rfl
 exact wpAny_binaryOp_repeat_ref (T := "list") (U := "int") (rfl) ⟨_, hl, rfl⟩ (fun s' => typeIs_int s' x u) noFill_list_mul F.fills_int_mul F.slot_int_rmul repeat_list F.slot_int_index.lookup
  (call_meets F.slot_int_rmul (typeIs_int s x u) F.entry_int_rmul (F.args_int_rmul_2 _ _) (int___rmul___int_list x u l0 #[.int 0 t] k)
   (I04 hl rfl ⟨_, hl, rfl⟩ (call_meets F.slot_list_mul ⟨_, hl, rfl⟩ F.entry_list_mul (F.args_list_mul_2 _ _)
    (AutoListH.list___mul___list_int_3 l0 #[.int 0 t] k x u (by simp [Builtin.List.listFitsIndex]; lia) (by lia) (by simp [Builtin.List.listTooLong, sizeLine]; assumption))
    ⟨hl, by rw [e]; exact h⟩)))
theorem zoo {a : Nat} (h : a ≠ 0) : 1 <= zaI (a : Int) := by
 refine Or.elim (Nat.lt_or_ge 0 (zaI (a : Int))) (fun h' => ?_) fun h' => ?_
 ·exact h'
 ·have := intBits_le_iff.mp h'
  simp at this; lia
theorem zp4 (a : Nat) : a < 2 ^ zaI (a : Int) := by
 have := intBits_le_iff.mp (Nat.le_refl (zaI (a : Int)))
 simpa using this
theorem zr9 {b n : Nat} (hn : 1 <= n) : b <= n * ((b + n - 1) / n) := by
 have h1 := Nat.div_add_mod (b + n - 1) n
 have h2 := Nat.mod_lt (b + n - 1) (by assumption : n > 0)
 lia
theorem zg0 {Z : Heap} {t : Tok} : ∀ (k : Nat), zv Z (List.replicate k (Value.int 0 t)) (dI (List.replicate k 0))
 | 0 => zaM.mpr rfl
 | k + 1 => by
  rw [List.replicate_succ, List.replicate_succ]
  exact zy.mpr (I23 _ _ rfl ((zo (F := Z)).mpr ⟨t, rfl⟩) (zg0 k))
set_option maxRecDepth 100000 in
set_option maxHeartbeats 1000000 in
theorem zop (H : zag Ω Φ.none (run za5 6) 46) {a : Addr} {fd : FuncData} {hit : Bool} (X : zaX Ω.B a fd zbg (zbr p) c P q) (hpos : ((p 6).endLine == (p 7).line) = true) {av n cnt : Nat} (hn1 : 1 <= n) (hn2 : n <= 2 ^ 24) (hcnt : cnt = (zaI (av : Int) + n - 1) / n)
  (hsz : cnt * n <= 2 ^ 24) (hlen : cnt <= big) (hA : Rm A 100) (hO : Ok Ω Z s) (hC : zbe s.heap c P (zb6 p) q hit) (hZ : hit = false -> Z.get? P = none) {vals : List Value} (r : zv Z vals [.int (av : Int), .int (n : Int)]) :
  wpAny Ω.m A (call (.ref a) vals) (zcj Ω c P (zb6 p) q hit Z s (.list (dI (zaY av n cnt)))) zc s := by
 refine zfi (n := 99) (ns := 2) (Φ := Φ.none) H.gl hA X.fb rfl hO r fun h_1 tk S_1 R hown hA' => ?_
 let env : Env := callEnvC fd s.heap.objs.size a
 let A' : Around := A.deeper env
 let c0 : TC := zeb [] [] Φ.gen zbg (zbr p)
 let ρ : Rho := [some (.d (.int (av : Int))), some (.d (.int (n : Int))), none, none]
 have hnm : NoM ρ := zjZ (args := [.int (av : Int), .int (n : Int)]) (ns := 2)
 have R : Rel (zeb [] [] Φ.gen zbg (zbr p)) env Z h_1 ρ (fun _ => 0) := X.sc ▸ R
 have hown : ∀ b, Own (zeb [] [] Φ.gen zbg (zbr p)) env ρ (fun _ => 0) b -> s.heap.get? b = none := X.sc ▸ hown
 have R : Rel c0 env Z h_1 ρ (fun _ => 0) := R
 have hown : ∀ b, Own c0 env ρ (fun _ => 0) b -> s.heap.get? b = none := hown
 have htr : tr 60 c0 ((((((Expr.Name (Str.ofString "a") (p 5)).Attribute (Str.ofString "bit_length") (p 6)).Call [] [] (p 7)).BinOp Operator.Add (Expr.Name (Str.ofString "n") (p 8)) (p 9)).BinOp
     Operator.Sub (Expr.Constant (Const.int 1) 0 (p 10)) (p 11)).BinOp Operator.FloorDiv (Expr.Name (Str.ofString "n") (p 12)) (p 13)) =
   some (.bin .FloorDiv (.bin .Sub (.bin .Add (.me .bitLength (.v 0) []) (.v 1)) (.c (.int 1))) (.v 1)) := by
  show (Option.bind (Option.bind (Option.bind (if (zbN (Expr.Name (Str.ofString "a") (p 5)) && ((p 6).endLine == (p 7).line) && decide (([] : List PySem.Expr).length < 29)) = true then some (PE.me .bitLength (.v 0) []) else none) fun a => some (PE.bin .Add a (.v 1))) fun a => some (PE.bin .Sub a (.c (.int 1)))) fun a => some (PE.bin .FloorDiv a (.v 1))) = _
  rw [hpos] at |-; rfl
 have hG : GlC c0 Φ.none := ⟨rfl, rfl, rfl⟩
 have hA6 : Rm A' 46 := hA'.le (by decide)
 have hb : big = 1000000 := rfl
 have hcs : env.cells = [(("inner" : Str), s.heap.objs.size + 1 + 1 + 1), ("a_digits", s.heap.objs.size + 1 + 1), ("n", s.heap.objs.size + 1)] := by
  show cellsFrom (s.heap.objs.size + 1) fd.scope.names [] = _
  rw [X.sc] at |-; rfl
 let cn : Addr := s.heap.objs.size + 1
 let ca : Addr := s.heap.objs.size + 1 + 1
 let ci : Addr := s.heap.objs.size + 1 + 1 + 1
 have l1 : env.cells.lookup ("a_digits" : Str) = some ca := by rw [hcs] at |-; rfl
 have l2 : env.cells.lookup ("inner" : Str) = some ci := by rw [hcs] at |-; rfl
 have l3 : env.cells.lookup ("n" : Str) = some cn := by rw [hcs] at |-; rfl
 have fresh : ∀ {x : Addr}, s.heap.objs.size <= x -> s.heap.get? x = none := fun h => zaa h
 have hPs : ∃ o, s.heap.get? P = some o := by
  induction hit with
  | true => obtain ⟨ps, c', _, b, _⟩ := hC; exact ⟨_, b.2⟩
  | false => exact ⟨_, hC.2.2⟩
 have hcs' : ∃ o, s.heap.get? c = some o := by
  induction hit with
  | true => obtain ⟨ps, c', _, ⟨⟨o, vs, b, _⟩, _⟩, _⟩ := hC; exact ⟨_, b⟩
  | false => obtain ⟨_, ⟨o, vs, b, _⟩, _⟩ := hC; exact ⟨_, b⟩
 have nPn : ∀ {x : Addr}, s.heap.get? x = none -> x ≠ P := fun h e => by
  obtain ⟨o, ho⟩ := hPs
  rw [<- e, h] at ho; exact za ho
 have ncn : ∀ {x : Addr}, s.heap.get? x = none -> x ≠ c := fun h e => by
  obtain ⟨o, ho⟩ := hcs'
  rw [<- e, h] at ho; exact za ho
 have hle1 : s.heap.objs.size <= ca := nle (Nat.le_succ _) (Nat.le_succ _)
 have hle2 : s.heap.objs.size <= ci := nle (Nat.le_succ _) (nle (Nat.le_succ _) (Nat.le_succ _))
 have hle3 : s.heap.objs.size <= cn := Nat.le_succ _
 have eai : ca ≠ ci := Nat.ne_of_lt (Nat.lt_succ_self _)
 have ean : ca ≠ cn := Nat.ne_of_gt (Nat.lt_succ_self _)
 have ein : ci ≠ cn := Nat.ne_of_gt (Nat.lt_succ_of_lt (Nat.lt_succ_self _))
 have eLi : env.locals ≠ ci := Nat.ne_of_lt (Nat.lt_succ_of_le (nle (Nat.le_succ _) (Nat.le_succ _)))
 refine cps fun G0 hG_0 => ?_
 obtain ⟨mg, hmg, bm, o, hbm, b1, b2, b3, hbo, b4, b5, b6⟩ := X.bi
 refine hG_0 ?_
 have cellOfs : ∀ {x : Str} {b : Addr}, env.cells.lookup x = some b -> s.heap.objs.size <= b := by
  intro x b hx
  rw [hcs] at hx
  have := z6 hx
  simp only [List.mem_cons, Prod.mk.injEq, List.not_mem_nil, or_false] at this
  rcases this with ⟨_, rfl⟩ | ⟨_, rfl⟩ | ⟨_, rfl⟩
  ·exact hle2
  ·exact hle1
  ·exact hle3
 refine wpAny_mono (E := zc) ?_ (fun _ _ x => x) fun _ _ x => x
 show wpAny Ω.m A' (execs (zbr p) env) _ _ _
 refine wpAny_execs_cons (wpAny_Assign_Name (wpAny_BinOp (wpAny_List (wpAny_items_cons (wpAny_Constant_int (wpAny_items_nil ⟨by show 1 <= sizeLine; decide, ?_⟩))))) rfl)
 let s_2 : Shared := { s with heap := h_1.push { cls := .type "list", data := .seq #[.int 0 tk] }, toks := tk + 1 }
 have S_2 : Stp Ω Z { s with heap := h_1, toks := tk } Z s_2 := Stp.grow (n := tk + 1) S_1.ok (Sub.push _ _)
 have hl0 : s_2.heap.get? h_1.objs.size = some { cls := .type "list", data := .seq #[.int 0 tk] } := Heap.get?_push_size _ rfl
 have hcb : cnt <= 2 ^ 24 := nle (Nat.le_mul_of_pos_right cnt (by lia)) hsz
 have e24 : (2 : Nat) ^ 24 = 16777216 := by decide
 rw [e24] at hcb
 have hbits : zaI (av : Int) <= cnt * n := by rw [hcnt, Nat.mul_comm] at |-; exact zr9 hn1
 have hex : (run za5 6).ex ρ (.bin .FloorDiv (.bin .Sub (.bin .Add (.me .bitLength (.v 0) []) (.v 1)) (.c (.int 1))) (.v 1)) = some (.int (cnt : Int)) := by
  show (if (n : Int) ≠ 0 /\ Builtin.divisionGoesByPylong (((zaI (av : Int) : Nat) : Int) + (n : Int) - 1) (n : Int) = false then some (PyData.int ((((zaI (av : Int) : Nat) : Int) + (n : Int) - 1).fdiv (n : Int))) else none) = _
  rw [if_pos] at |-
  ·have e1 : ((zaI (av : Int) : Nat) : Int) + (n : Int) - 1 = ((zaI (av : Int) + n - 1 : Nat) : Int) := by lia
   rw [e1, Int.fdiv_eq_ediv_of_nonneg _ (Int.natCast_nonneg _), hcnt] at |-
   norm_cast
  ·refine ⟨by lia, PyProof.noPylong_of_log2 ?_⟩
   rw [Int.natAbs_natCast] at |-
   have : n.log2 < 25 := (Nat.log2_lt (by lia)).mpr (by lia)
   lia
 refine Pst.then (H.ex 60 c0 _ (.bin .FloorDiv (.bin .Sub (.bin .Add (.me .bitLength (.v 0) []) (.v 1)) (.c (.int 1))) (.v 1)) ρ (.int (cnt : Int)) htr hex A' env Z s_2 _ hA6 hG S_2.ok (R.stp S_2)) fun v s_3 Z_3 S_3 rv => ?_
 refine zc1 rv fun tv => ?_
 refine ziX (S_3.h _ _ hl0) (Int.natCast_nonneg _) (by lia) ?_
 rw [Int.toNat_natCast] at |-
 let l : Addr := s_3.heap.objs.size
 let xs : List PyData := dI (List.replicate cnt 0)
 have S_4 : Stp Ω Z_3 s_3 Z_3 { s_3 with heap := s_3.heap.push { cls := .type "list", data := .seq (List.replicate cnt (Value.int 0 tk)).toArray } } := Stp.grow (n := s_3.toks) S_3.ok (Sub.push _ _)
 have T4 := ((S_1.trans S_2).trans S_3).trans S_4
 have hls : s.heap.get? l = none := ((S_1.trans S_2).trans S_3).fresh (zj _)
 have xsl : xs.length = cnt := by simp [xs, dI]
 refine zpM (c := c0) (i := 2) (xs := xs) rfl ((S_2.trans S_3).trans S_4) (by rfl) R ((S_2.trans S_3).fresh (zj _)) (S_3.ok.sub.none (zj _)) (Heap.get?_push_size _ rfl) (by rw [List.toList_toArray] at |-; exact zg0 cnt) fun s_5 a_5 => ?_
 let ρ_2 : Rho := ρ.set 2 (some (.m xs))
 let ad_2 : Nat -> Addr := fun j => if j = 2 then l else 0
 have R5 : Rel c0 env Z_3 s_5.heap ρ_2 ad_2 := a_5.rel
 have T5 : Stp Ω Z s Z_3 s_5 := zcU S_1 a_5 hown
 have hrho : ∀ i ys, ρ_2[i]? = some (some (.m ys)) -> i = 2 /\ ys = xs := by
  intro i ys e
  rcases zr e with ⟨rfl, e⟩ | ⟨_, e⟩
  ·cases e; exact ⟨rfl, rfl⟩
  ·exact absurd e (hnm i ys)
 have hol5 : zbv Z_3 s_5.heap l xs := R5.own 2 xs (by simp [ρ_2, ρ])
 refine cps fun G0 hG_0 => ?_
 obtain ⟨a1, ov1, e1, hc1, z1, v1⟩ := R5.cel ("a_digits" : Str) .cell 2 (by rfl) (.inl rfl)
 obtain ⟨a2, ov2, e2, hc2, z2, v2⟩ := R5.cel ("inner" : Str) .cell 3 (by rfl) (.inl rfl)
 obtain ⟨a3, ov3, e3, hc3, z3, v3⟩ := R5.cel ("n" : Str) .cell 1 (by rfl) (.inl rfl)
 refine hG_0 ?_
 rw [l1] at e1; cases e1
 rw [l2] at e2; cases e2
 rw [l3] at e3; cases e3
 obtain ⟨vd, e9, rd⟩ := v1 (.m xs) (by simp [ρ_2, ρ]); subst e9
 have rd : vd = .ref l := rd
 subst rd
 obtain ⟨vn, e9, rn⟩ := v3 (.d (.int (n : Int))) (by simp [ρ_2, ρ]); obtain rfl := e9.symm
 have rn : Rep Z_3 vn (.int (n : Int)) := rn
 rw [zo] at rn; obtain ⟨tn, e9⟩ := rn; obtain rfl := e9.symm
 have toH : ∀ b o, Ω.B.get? b = some o -> s_5.heap.get? b = some o := fun b o e => T5.h _ _ (hO.sub _ _ (hO.base _ _ e))
 refine wpAny_execs_cons (zgW (q := q) (ci := ci) (v₀ := ov2) (mg := mg) (hit := hit) (c := c) (P := P) (by rfl) ?_ (zmz l1 l2 l3) rfl rfl rfl ?_ X.code (z0 hC T5.h) ?_ ?_ R.kind ?_ l2 hc2 (nPn (fresh hle2)) (ncn (fresh hle2)) fun c' F T h' tk' pm hk hcell hrec hmiss hcd hFn hfn => ?_)
 ·show (if env.kindOf (Str.ofString "inner") == some NameKind.globalExplicit then (Str.ofString "inner") else (fd.qualname ++ ".<locals>.") ++ "inner") = q
  rw [R.names] at |-; exact X.qn
 ·show s_5.heap.Ns fd.globals mg
  rw [X.gl] at |-; exact hmg.keeps toH
 ·show fd.globals ≠ P
  rw [X.gl] at |-; exact X.gP
 ·exact I28 bm o hbm b1 b2 b3 (toH _ _ hbo) b4 b5 b6
 ·rw [R.names] at |-; rfl
 obtain ⟨vs5, m5, hl5, rl5, zl5⟩ := hol5
 have hlP : l ≠ P := nPn hls
 have hlc : l ≠ c := ncn hls
 have hli : l ≠ ci := by
  intro e
  obtain ⟨o, eo, d⟩ := hc2
  rw [<- e, hl5] at eo; cases eo; cases d
 have hk' : ∀ b o, ¬ (hit = false /\ b = P) -> s.heap.get? b = some o -> h'.get? b = some o := fun b o nb eo =>
  hk b o (fun e => by rw [e, fresh hle2] at eo; cases eo) (fun hh e => nb ⟨hh, e⟩) (T5.h _ _ eo)
 have z3P : hit = false -> Z_3.get? P = none := fun hh => by
  obtain ⟨o, ho⟩ := hPs
  rw [T5.new _ _ ho] at |-; exact hZ hh
 have S_6 : StX (fun b => hit = false /\ b = P) (fun _ => False) Ω Z s Z_3 { s_5 with heap := h', toks := tk' } :=
  ⟨⟨fun b o eo => hk b o (fun e => by rw [e, z2] at eo; cases eo) (fun hh e => by rw [e, z3P hh] at eo; cases eo) (T5.ok.sub _ _ eo), T5.ok.base, T5.ok.os, T5.ok.gens⟩, T5.f, fun b o _ eo => T5.new b o eo, hk', fun i x _ e => T5.g i x e, GK.size T5.g⟩
 have hl6 : h'.get? l = some { cls := .type "list", data := .seq vs5 m5 } := hk _ _ hli (fun _ => hlP) hl5
 have hol6 : zbv Z_3 h' l xs := I23 vs5 m5 hl6 rl5 zl5
 have R6 : Rel c0 env Z_3 h' ρ_2 ad_2 := by
  refine zmA R5 (ci := ci) (fun b o hb hb' eo => hk b o hb (fun _ => ?_) eo) ⟨_, hcell⟩ eLi ?_ ?_
  ·rcases hb' with rfl | ⟨x, hx⟩
   ·exact nPn (zj _)
   ·exact nPn (fresh (cellOfs hx))
  ·intro x k i e hkk hx pv hp
   rw [hcs] at hx
   have := z6 hx
   simp only [List.mem_cons, Prod.mk.injEq, List.not_mem_nil, or_false] at this
   rcases this with ⟨rfl, _⟩ | ⟨_, h⟩ | ⟨_, h⟩
   ·have : c0.nm.lookup (Str.ofString "inner") = some (.cell, 3) := by rfl
    rw [this] at e; cases e; simp [ρ_2, ρ] at hp
   ·exact absurd h.symm eai
   ·exact absurd h ein
  ·intro i ys e
   obtain (⟨e9, rfl⟩) := hrho i ys e; refine rwE e9 ?_
   exact hol6
 have k1 : h'.IsCell ca (some (.ref l)) := zac hc1 fun o eo => hk _ _ eai (fun _ => nPn (fresh hle1)) eo
 have k3 : h'.IsCell cn (some (.int (n : Int) tn)) := zac hc3 fun o eo => hk _ _ (Ne.symm ein) (fun _ => nPn (fresh hle3)) eo
 have D : IOn Z_3 h' p q pm c' T F ca ci cn l xs n := by
  have hfn' : h'.get? F = some { cls := .type "function", data := .func (iFd p q pm c' T ca ci cn) } := by
   rw [hfn] at |-
   show some ({ cls := .type "function", data := .func (zdJ "inner" q (zfk p) (zcG p) zaB fd.globals [("n", cn), ("inner", ci), ("a_digits", ca)] pm c' T) } : Obj) = _
   rw [X.gl] at |-; rfl
  exact ⟨hfn', hrec, k1, ⟨tn, k3⟩, hcell, z1, z3, z2, (I03 eai ean ein), hol6⟩
 have fin : ∀ {Z7 s_7}, StX (· = l) (fun _ => False) Ω Z_3 { s_5 with heap := h', toks := tk' } Z7 s_7 -> zbv Z7 s_7.heap l (dI (zaY av n cnt)) ->
   wpAny Ω.m A' (execs [.Return (some (.Name "a_digits" (p 80))) (p 81)] env) (fun f s' => zcj Ω c P (zb6 p) q hit Z s (.list (dI (zaY av n cnt))) (match f with | .ret v => v | _ => .none) s') zc s_7 := by
  intro Z7 s_7 S7 ho
  have hca : s_7.heap.IsCell ca (some (.ref l)) := zac k1 fun o eo => S7.h _ _ (fun e => by
   obtain ⟨o, eo, d⟩ := k1
   rw [e, hl6] at eo; cases eo; cases d) eo
  refine wpAny_execs_cons (wpAny_Return_some (wpAny_Name (wpAny_loadName_cell (c := ca) R.kind (by rw [R.names] at |-; rfl) l1 hca ?_) (by decide +kernel)))
  obtain ⟨vs, m, hl, rl, zl⟩ := ho
  have T7 : StX (fun b => hit = false /\ b = P) (fun _ => False) Ω Z s Z7 s_7 := S_6.trans S7 (fun b hb => .inr (by rw [hb] at |-; exact hls)) (fun _ h => h.elim)
  obtain ⟨Z8, T8, hz8, f8, hoff⟩ := T7.freezeNew (a := l) hls zl hl
  refine I13 Z8 T8 (zah.mpr (I33 l vs m rfl hz8 (rl.mono f8))) (fun hh => ?_)
  obtain ⟨_, tl, ht, _⟩ := hmiss hh
  refine ⟨zr8 hl6 (Ne.symm hlc) (Ne.symm hlP) (fun b o nb eo => S7.h b o nb eo) hcd, ?_, tl, ?_⟩
  ·rw [hoff P (Ne.symm hlP)] at |-
   rw [S7.new P _ (Ne.symm hlP) ht.2] at |-; exact z3P hh
  ·obtain ⟨⟨o, vs, e, r⟩, e'⟩ := ht
   exact ⟨(I22 o vs (S7.h _ _ (Ne.symm hlc) e) r), S7.h _ _ (Ne.symm hlP) e'⟩
 refine wpAny_execs_cons (wpAny_If (za4.then (H.tst 60 c0 _ (.v 0) ρ_2 (.int (av : Int)) ((av : Int) != 0) (by rfl) (by rfl) rfl A' env Z_3 _ _ hA6 hG S_6.ok R6) fun s_7 Z7 S7 => ?_))
 by_cases hav : av = 0
 ·have e0 : ((av : Int) != 0) = false := by simp [hav]
  rw [e0, if_neg Bool.false_ne_true] at |-
  have hc0 : cnt = 0 := by
   rw [hcnt, hav] at |-
   have : zaI ((0 : Nat) : Int) = 0 := by decide +kernel
   rw [this] at |-
   exact Nat.div_eq_of_lt (by lia)
  refine wpAny_execs_nil (fin (S7.x) ?_)
  obtain ⟨vs, m, hl, rl, zl⟩ := (D.stp S7).own
  refine I23 vs m hl ?_ zl
  have : xs = dI (zaY av n cnt) := by simp only [xs, hc0]; rfl
  rw [<- this] at |-; exact rl
 ·have e0 : ((av : Int) != 0) = true := by simp [hav]
  rw [e0, if_pos rfl] at |-
  have hc1 : 1 <= cnt := by
   rw [hcnt] at |-
   have := zoo hav
   exact (Nat.le_div_iff_mul_le (by lia)).mpr (by lia)
  have D7 := D.stp S7
  have R7 := R6.stp S7
  refine wpAny_execs_cons (wpAny_Expr_any (wpAny_Call_NameR (wpAny_Name (wpAny_loadName_cell (c := ci) R.kind (by rw [R.names] at |-; rfl) l2 D7.inn ?_) (by decide +kernel))) (by unfold interactive; rw [R.kind] at |-; rfl) rfl)
  have hargs : exs (run za5 6) ρ_2 [.v 0, .c (.int 0), .bi .len [.v 2]] = some [.int (av : Int), .int (((0 : Nat) : Int)), .int ((cnt : Nat) : Int)] := by
   have e : (run za5 6).ex ρ_2 (.bi .len [.v 2]) = some (.int ((cnt : Nat) : Int)) := by
    show (if xs.length <= big then some (PyData.int ((xs.length : Nat) : Int)) else none) = _
    rw [xsl, if_pos hlen] at |-
   have e' : (run za5 6).ex ρ_2 (.c (.int 0)) = some (.int ((0 : Nat) : Int)) := rfl
   have e'' : (run za5 6).ex ρ_2 (.v 0) = some (.int (av : Int)) := rfl
   exact zjL e'' (zcT e' e)
  refine Calls.callWith_function (z9 (H.ex 60) hA6 hG (pes := [.v 0, .c (.int 0), .bi .len [.v 2]]) (by rfl) hargs S7.ok R7 fun vs s_8 Z8 S8 r => ⟨⟨(D7.stp S8).fn, rfl⟩, ?_⟩)
  obtain ⟨v, vs', e9, r1, q1⟩ := zy.mp r; refine rwE e9 ?_
  obtain ⟨v', vs'', e9, r2, q2⟩ := zy.mp q1; refine rwE e9 ?_
  obtain ⟨v'', vs3, e9, r3, q3⟩ := zy.mp q2; refine rwE e9 ?_
  rw [zaM] at q3; refine rwE q3 ?_
  rw [zo] at r1 r2 r3; obtain (⟨t1, e9⟩) := r1; refine rwE e9 ?_; obtain (⟨t2, e9⟩) := r2; refine rwE e9 ?_; obtain (⟨t3, e9⟩) := r3; refine rwE e9 ?_
  refine wpAny_mono (zia H 20 A' Z8 s_8 xs av 0 cnt t1 t2 t3 (hA'.le (by decide)) S8.ok (D7.stp S8) hc1 (by rw [xsl] at |-; exact Nat.le_refl _) (by lia)
   (by rw [Nat.sub_zero, Nat.mul_comm] at |-; exact Nat.lt_of_lt_of_le (zp4 av) (Nat.pow_le_pow_right (by decide) hbits)) (by rw [xsl] at |-; exact hsz) (by rw [xsl] at |-; exact hlen)) (fun v s_9 pp => ?_) fun _ _ x => x
  obtain ⟨_, Z9, S9, ho_9⟩ := pp
  refine wpAny_execs_nil (fin (((S7.trans S8).x (W := (· = l)) (GI := fun _ => False)).trans S9 (fun b hb => .inl hb) (fun _ h => h.elim)) ?_)
  have e9 : xs.take 0 ++ dI (zaY av n (cnt - 0)) ++ xs.drop cnt = dI (zaY av n cnt) := by
   rw [List.take_zero, List.nil_append, Nat.sub_zero, List.drop_eq_nil_of_le (by rw [xsl]; exact Nat.le_refl _), List.append_nil] at |-
  rw [<- e9] at |-; exact ho_9
end
def zfK (a n : Nat) : Nat := (zaI (a : Int) + n - 1) / n
def zhy (args : List PyData) : Option PyData := (zna args).bind fun p => (zw p.1).bind fun a => (zw p.2).bind fun n =>
 if 0 <= a /\ 1 <= n /\ n.toNat <= 2 ^ 24 /\ zfK a.toNat n.toNat * n.toNat <= 2 ^ 24 /\ zfK a.toNat n.toNat <= big then some (.list (dI (zaY a.toNat n.toNat (zfK a.toNat n.toNat)))) else none
def zhz (args : List PyData) : Option PyData := (zna args).bind fun p => (zcL p.1).bind fun xs => (zw p.2).bind fun n => (zdb xs).bind fun is =>
 if 0 <= n /\ (∀ d ∈ is, 0 <= d /\ d < 2 ^ n.toNat) /\ is.length * n.toNat <= 2 ^ 24 /\ is.length <= big then some (.int (za8 n.toNat is)) else none
theorem zkX {d : PyData} {i : Int} (h : zw d = some i) : d = .int i := by
 induction d using PyData.casesOn with
 | int _ => exact eqE h rfl
 | _ => exact za h
section
variable {Ω : En} {A : Around} {Z Z' : Heap} {s s' : Shared} {p : Nat -> Pos} {q : Str} {c P : Addr} {env : Env} {ρ : Rho} {ad : Nat -> Addr}
 {Φ : Fs}
theorem zoq (G : Gl Ω.B Φ) : Gl Ω.B Φ.none :=
 ⟨E25 G.ns fun mg mb a b u v e =>  (I25 mg mb a b (fun f k h => (nomatch h)) (fun x d h => (nomatch h)) e), fun f k h => (nomatch h), G.lim, G.sys⟩
theorem zq2 (G : Gl Ω.B Φ) (GG : GlG Ω.B Φ.gen Φ.ga) (F : zfI Ω.B Φ.ga) (hd : (Φ.gen == ("__debug__" : Str)) = false) (n : Nat) : zag Ω Φ.none (run za5 n) (n + 40) := by
 refine (zeI (off := 40) (tbl := za5) (zpT.mk (Nat.le_refl _) (zoq G) GG (zn9 (zoq G) F) hd (fun f k np ns pb h => (nomatch h)) (fun f k p h => (nomatch h))) n).1
end
section
variable {Ω : En} {A : Around} {Z Z' : Heap} {s s' : Shared} {p : Nat -> Pos} {q : Str} {c P : Addr} {env : Env} {ρ : Rho} {ad : Nat -> Addr}
 {Φ : Fs} {a : Addr} {fd : FuncData} {hit : Bool}
theorem zlN (H : zag Ω Φ.none (run za5 6) 46) (X : zaX Ω.B a fd za1 (zbf p) c P q) {args : List PyData} {d : PyData} (hd : zhz args = some d) (hA : Rm A 100) (hO : Ok Ω Z s)
  (hC : zbe s.heap c P (zb5 p) q hit) (hZ : hit = false -> Z.get? P = none) {vals : List Value} (r : zv Z vals args) : wpAny Ω.m A (call (.ref a) vals) (zcj Ω c P (zb5 p) q hit Z s d) zc s := by
 refine zb hd fun p hp hd => zb hd fun xs hx hd => zb hd fun n hn hd => zb hd fun is his hd => ifE hd fun hc hd => E04 hc fun h0 h1 h2 h3 => ?_
 rw [zkD hp, zen hx, zkX hn, ze6 his] at r
 refine eqE hd ?_
 obtain (⟨k, rfl⟩) := Int.eq_ofNat_of_zero_le h0
 exact zol H X h1 h2 h3 hA hO hC hZ r
theorem zlO (H : zag Ω Φ.none (run za5 6) 46) (X : zaX Ω.B a fd zbg (zbr p) c P q) (hpos : ((p 6).endLine == (p 7).line) = true) {args : List PyData} {d : PyData} (hd : zhy args = some d) (hA : Rm A 100) (hO : Ok Ω Z s)
  (hC : zbe s.heap c P (zb6 p) q hit) (hZ : hit = false -> Z.get? P = none) {vals : List Value} (r : zv Z vals args) : wpAny Ω.m A (call (.ref a) vals) (zcj Ω c P (zb6 p) q hit Z s d) zc s := by
 refine zb hd fun p hp hd => zb hd fun x hx hd => zb hd fun n hn hd => ifE hd fun hc hd => E05 hc fun h0 h1 h2 h3 h4 => ?_
 rw [zkD hp, zkX hx, zkX hn] at r
 refine eqE hd ?_
 obtain (⟨y, rfl⟩) := Int.eq_ofNat_of_zero_le h0
 obtain (⟨k, rfl⟩) := Int.eq_ofNat_of_zero_le (Int.le_trans (by decide) h1)
 exact zop H X hpos (Int.ofNat_le.mp h1) h2 rfl h3 h4 hA hO hC hZ r
theorem zfL {pos : Pos} {d : PyData} {v : Value} (h : zcj Ω c P pos q true Z s d v s') : Pst Ω Z s d v s' := by
 obtain ⟨Z', S, r, _⟩ := h
 refine I12 Z' ⟨S.ok, S.f, fun b o e => S.new b o (fun h => nomatch h.1) e, fun b o e => S.h b o (fun h => nomatch h.1) e, fun i x e => S.g i x (fun h => h) e⟩ r
theorem zor (H : zag Ω Φ.none (run za5 6) 46) (X : zaX Ω.B a fd za1 (zbf p) c P q) (hC : zbe Ω.B c P (zb5 p) q true) : ziQ Ω 100 a zhz := fun args d hd A Z s vals hA hO r =>
 wpM (zlN H X hd hA hO (hit := true) (z0 hC fun b o e => hO.sub _ _ (hO.base _ _ e)) (fun h => nomatch h) r) (fun u v p => zfL p)
theorem zos (H : zag Ω Φ.none (run za5 6) 46) (X : zaX Ω.B a fd zbg (zbr p) c P q) (hpos : ((p 6).endLine == (p 7).line) = true) (hC : zbe Ω.B c P (zb6 p) q true) : ziQ Ω 100 a zhy := fun args d hd A Z s vals hA hO r =>
 wpM (zlO H X hpos hd hA hO (hit := true) (z0 hC fun b o e => hO.sub _ _ (hO.base _ _ e)) (fun h => nomatch h) r) (fun u v p => zfL p)
theorem ztQ {B : Heap} {h : Heap} {b : Addr} {o : Obj} (hBZ : Sub B Z) (hZ : Sub Z h) (e : h.get? b = some o) : ∃ B' Z', Sub B B' /\ Sub Z Z' /\ Sub B' Z' /\ Sub Z' h /\ B'.get? b = some o /\ (∀ x, x ≠ b -> B'.get? x = B.get? x) /\ ∀ x, x ≠ b -> Z'.get? x = Z.get? x := by
 have hf : o.isFreed = false := zaL (by rw [<- zaG]; exact e)
 have one : ∀ F : Heap, Sub F h -> ∃ F', Sub F F' /\ F'.get? b = some o /\ ∀ x, x ≠ b -> F'.get? x = F.get? x := by
  intro F hF
  induction e0 : F.get? b with
  | none => exact ziq F b o e0 hf
  | some o' =>
   have := hF _ _ e0
   cases e.symm.trans this
   exact I13 F (.refl _) e0 (fun u v => rfl)
 obtain ⟨B', b1, b2, b3⟩ := one B (hBZ.trans hZ)
 obtain ⟨Z', z1, z2, z3⟩ := one Z hZ
 refine I27 B' Z' b1 z1 (fun x o' ex => ?_) (fun x o' ex => ?_) b2 b3 z3
 ·by_cases hx : x = b
  ·subst hx; refine eqE (b2.symm.trans ex) ?_; exact z2
  ·rw [b3 x hx] at ex; exact z1 _ _ (hBZ _ _ ex)
 ·by_cases hx : x = b
  ·subst hx; refine eqE (z2.symm.trans ex) ?_; exact e
  ·rw [z3 x hx] at ex; exact hZ _ _ ex
def zib (Z Z' : Heap) : Prop := ∀ b o, Z'.get? b = some o -> Z.get? b = some o \/ ∃ vs, o.data = .fields vs
theorem zib.trans {X Y Z : Heap} (a : zib X Y) (b : zib Y Z) : zib X Z := fun x o e => (b x o e).elim (fun h => a x o h) .inr
theorem zot {B : Heap} {h : Heap} {pos : Pos} (hBZ : Sub B Z) (hZ : Sub Z h) (X : zbe h c P pos q true) (hc : ∃ o, B.get? c = some o) : ∃ B' Z', Sub B B' /\ Sub Z Z' /\ Sub B' Z' /\ Sub Z' h /\ zbe B' c P pos q true /\ zib Z Z' := by
 obtain ⟨ps, c', a, b, d, e⟩ := X
 obtain ⟨oc, hoc⟩ := hc
 obtain ⟨c2, o2, vs2, t2, e2, g2, d2, r2⟩ := e
 cases e2
 have hocH := hZ _ _ (hBZ _ _ hoc)
 refine cps fun G0 hG_0 => ?_
 obtain ⟨o, vs, file, tf, flags, tg, inF, text, tt, op, ho, r1, r22, r3, r4, r5, r6, hop, hpd, htr, hne⟩ := a
 refine hG_0 ?_
 cases hocH.symm.trans ho
 obtain ⟨⟨o', vs', e', rr⟩, hP⟩ := b
 cases hocH.symm.trans e'
 refine eqE (hP.symm.trans hop) ?_
 obtain ⟨B1, Z1, a1, a2, a3, a4, a5, a6, a7⟩ := ztQ hBZ hZ hP
 obtain ⟨B2, Z2, b1, b2, b3, b4, b5, b6, b7⟩ := ztQ a3 a4 g2
 refine I26 B2 Z2 (a1.trans b1) (a2.trans b2) b3 b4 (I24 ps c' ⟨_, vs, file, tf, flags, tg, inF, text, tt, _, b1 _ _ (a1 _ _ hoc), r1, r22, r3, r4, r5, r6, b1 _ _ a5, rfl, htr, hne⟩ ⟨(I22 _ vs' (b1 _ _ (a1 _ _ hoc)) rr), b1 _ _ a5⟩ d (I44 c' o2 vs2 t2 rfl b5 d2 r2)) (fun x ox ex => ?_)
 by_cases h1 : x = c'
 ·obtain rfl := h1.symm
  have := b4 _ _ ex
  refine eqE (g2.symm.trans this) ?_
  exact .inr ⟨_, d2⟩
 ·rw [b7 x h1] at ex
  by_cases h2 : x = P
  ·obtain rfl := h2.symm
   have := a4 _ _ ex
   refine eqE (hP.symm.trans this) ?_
   exact .inr ⟨_, rfl⟩
  ·rw [a7 x h2] at ex; exact .inl ex
theorem zp5 {c : TC} {h : Heap} (R : Rel c env Z h ρ ad) (hs : Sub Z Z') (ho : zib Z Z') (hh : Sub Z' h) : Rel c env Z' h ρ ad := by
 have none_of : ∀ {b : Addr}, Z.get? b = none -> (∀ o vs, h.get? b = some o -> o.data ≠ .fields vs) -> Z'.get? b = none := by
  intro b hz hd
  induction e : Z'.get? b with
  | none => rfl
  | some o =>
   rcases ho b o e with h1 | ⟨vs, h1⟩
   ·exact za (hz.symm.trans h1)
   ·exact absurd h1 (hd o vs (hh _ _ e))
 refine { R with loc := ?_, cel := ?_, apL := ?_, own := ?_ }
 ·obtain ⟨m, hns, hm⟩ := R.loc
  exact I12 m hns (fun x i pv e q => E12 (hm x i pv e q) fun v hv r =>  (I12 v hv (r.mono hs)))
 ·intro x k i e hk
  obtain ⟨a, ov, ha, hc, hz, hv⟩ := R.cel x k i e hk
  refine I24 a ov ha hc (none_of hz fun o vs eo => ?_) (fun pv q => E12 (hv pv q) fun v hv r =>  (I12 v hv (r.mono hs)))
  obtain ⟨o', eo', d⟩ := hc
  cases eo.symm.trans eo'
  rw [d]; exact fun h => nomatch h
 ·refine none_of R.apL fun o vs eo => ?_
  obtain ⟨m, ⟨o', es, ep, eo', d, _⟩, _⟩ := R.loc
  cases eo.symm.trans eo'
  rw [d]; exact fun h => nomatch h
 ·intro i xs e
  obtain ⟨vs, n, hl, r, z⟩ := R.own i xs e
  refine I23 vs n hl (r.mono hs) (none_of z fun o us eo => ?_)
  refine eqE (hl.symm.trans eo) ?_
  exact fun h => nomatch h
theorem Gl.mono {B B' : Heap} (G : Gl B Φ) (h : Sub B B') : Gl B' Φ := by
 obtain ⟨mg, mb, a, b, c1, d, e⟩ := G.ns
 refine ⟨(I25 mg mb (a.keeps h) (b.keeps h) c1 (fun x dd hx => E12 (d x dd hx) fun v h1 r =>  (I12 v h1 (r.mono h))) e), fun f k hf => E22 (G.fn f k hf) fun o fd h1 h2 =>  (I22 o fd (h _ _ h1) h2), E12 G.lim fun mc x y =>  (I12 mc (x.keeps h) y), E11 G.sys fun o ho =>  ⟨o, h _ _ ho⟩⟩
theorem GlG.mono {B B' : Heap} (G : GlG B Φ.gen Φ.ga) (h : Sub B B') : GlG B' Φ.gen Φ.ga :=
 ⟨E12 G.ns fun mg a b =>  (I12 mg (a.keeps h) b), E22 G.fn fun o fd a b =>  (I22 o fd (h _ _ a) b)⟩
theorem zfI.mono {B B' : Heap} (G : zfI B Φ.ga) (h : Sub B B') : zfI B' Φ.ga :=
 ⟨E38 G.ex fun o fd p a b c d e f g ij => I38 o fd p (h _ _ a) b c d e f g ⟨ij.1.keeps h, ij.2⟩⟩
theorem zkV.mono {B B' : Heap} {np : Nat} {pb : List PS} (F : zkV B Φ a np pb) (h : Sub B B') : zkV B' Φ a np pb :=
 ⟨E58 F.ex fun o fd src kk ps a b c d e f g ij => I58 o fd src kk ps (h _ _ a) b c d e f g ⟨ij.1.keeps h, ij.2⟩⟩
theorem FnB.mono {B B' : Heap} {np : Nat} {src : List Stmt} (F : FnB B a np fd src) (h : Sub B B') : FnB B' a np fd src :=
 ⟨E28 F.ex fun o ps a b c d e f g i =>  (I28 o ps (h _ _ a) b c d e f (g.keeps h) i)⟩
theorem zaX.mono {B B' : Heap} {sc : Scope} {src : List Stmt} (F : zaX B a fd sc src c P q) (h : Sub B B') : zaX B' a fd sc src c P q :=
 ⟨F.fb.mono h, F.sc, F.code, F.gl, F.qn, E12 F.bi fun mg m hh => I12 mg (m.keeps h) (E26 hh fun bm o a b c d e f => I26 bm o a b c d (h _ _ e) f), F.gP⟩
theorem zj2 {B : Heap} {sc : Scope} {src : List Stmt} (F : zaX B a fd sc src c P q) : ∃ o, B.get? c = some o := by
 refine cps fun G0 hG_0 => ?_
 obtain ⟨o, ps, _, _, _, _, _, _, hr, _⟩ := F.fb.ex
 obtain ⟨c2, o2, vs2, t2, e2, g2, _⟩ := hr
 refine hG_0 ?_
 cases F.code.symm.trans e2
 exact ⟨_, g2⟩
end
section
variable {M : Model} {A : Around} {E : Value -> Shared -> Prop} {s : Shared} {env : Env}
theorem zic : ∀ (a b : List Stmt), execs (a ++ b) env = (execs a env >>= fun f => match f with | .next => execs b env | f => pure f)
 | [], b => rfl
 | st :: a, b => by
  rw [List.cons_append, execs_cons, execs_cons, bind_assoc]
  congr 1
  funext f
  induction f with
  | next => exact zic a b
  | _ => rfl
theorem ziY {a b : List Stmt} {Q : Flow -> Shared -> Prop} (h : wpAny M A (execs a env) (fun f s' => match f with | .next => wpAny M A (execs b env) Q E s' | f => Q f s') E s) : wpAny M A (execs (a ++ b) env) Q E s := by
 rw [zic]
 refine wB (wpM h (fun f s' h' => ?_))
 induction f <;> first | exact h' | exact wPu h'
end
section
variable {Ω : En} {A : Around} {Z Z' : Heap} {s s' si : Shared} {q : Str} {P PD PI : Addr} {env : Env} {ρ ρ' : Rho} {ad ad' : Nat -> Addr} {c : TC}
 {Φ : Fs}
theorem za6 (R : Rel c env Z s.heap ρ ad) {b : Addr} (h : zaw c env ρ ad b) {o : Obj} {vs : Array Value} (e : s.heap.get? b = some o) (hd : o.data = .fields vs) : False := by
 rcases h with h | ⟨x, k, i, e', hk, hc⟩ | ⟨i, xs, e', h⟩
 ·refine cps fun G0 hG_0 => ?_
  obtain ⟨m, ⟨o', es, ep, eo', d, _⟩, _⟩ := R.loc
  refine hG_0 ?_
  have eo' := e ▸ h ▸ eo'; cases eo'
  cases hd.symm.trans d
 ·obtain ⟨a', ov, ha, ⟨o', eo', d⟩, _⟩ := R.cel x k i e' hk
  have ha := hc ▸ ha; cases ha
  have eo' := e ▸ eo'; cases eo'
  cases hd.symm.trans d
 ·obtain ⟨us, n, hl, _⟩ := R.own i xs e'
  have hl := e ▸ h ▸ hl; cases hl; cases hd
def zkY (h h' : Heap) : Prop := ∀ b o vs, o.data = .fields vs -> h.get? b = some o -> h'.get? b = some o
theorem zdL {h h' : Heap} {ca : Addr} {pos : Pos} {hit : Bool} (x : zbe h ca P pos q hit) (k : zkY h h') : zbe h' ca P pos q hit := by
 have isc : ∀ {ps}, h.IsCode ca P ps -> h'.IsCode ca P ps := by
  rintro ps ⟨o, vs, file, tf, flags, tg, inF, text, tt, op, ho, r1, r2, r3, r4, r5, r6, hop, hpd, r⟩
  exact ⟨o, vs, file, tf, flags, tg, inF, text, tt, op, k _ _ _ r1 ho, r1, r2, r3, r4, r5, r6, k _ _ _ hpd hop, hpd, r⟩
 have tab : ∀ {ps}, h.TableAt ca P ps -> h'.TableAt ca P ps := by
  intro ps h9; obtain ⟨⟨o, vs, e, c1, d, r⟩, e'⟩ := h9
  exact ⟨(I24 o vs (k _ _ _ d e) c1 d r), k _ _ _ rfl e'⟩
 unfold zbe at x |-
 split
 ·rename_i e
  rw [if_pos e] at x
  obtain ⟨ps, c', a, b, d, e⟩ := x
  refine I24 ps c' (isc a) (tab b) d ?_
  obtain ⟨c2, o2, vs2, t2, e2, g2, d2, r2⟩ := e
  exact I44 c2 o2 vs2 t2 e2 (k _ _ _ d2 g2) d2 r2
 ·rename_i e
  rw [if_neg e] at x
  exact ⟨isc x.1, tab x.2⟩
theorem zcV (R : Rel c env Z s.heap ρ ad) (a : Adv Ω c env ρ ad Z s ρ' ad' Z' s') : zkY s.heap s'.heap := fun b o vs hd e => a.stx.h b o (fun ow => za6 R ow.foot e hd) e
structure Ph (Ω : En) (c : TC) (env : Env) (s : Shared) (PD PI : Addr) (Z : Heap) (si : Shared) (ρ : Rho) (ad : Nat -> Addr) : Prop where
 ok : Ok Ω Z si
 rel : Rel c env Z si.heap ρ ad
 kp : ∀ b o, s.heap.get? b = some o -> b ≠ PD -> b ≠ PI -> si.heap.get? b = some o
 lvD : ∃ o vs, si.heap.get? PD = some o /\ o.data = .fields vs
 lvI : ∃ o vs, si.heap.get? PI = some o /\ o.data = .fields vs
 fr : ∀ b, Own c env ρ ad b -> s.heap.get? b = none
 zD : Z.get? PD = none
 zI : Z.get? PI = none
theorem Ph.adv (X : Ph Ω c env s PD PI Z si ρ ad) (a : Adv Ω c env ρ ad Z si ρ' ad' Z' s') : Ph Ω c env s PD PI Z' s' ρ' ad' where
 ok := a.stx.ok
 rel := a.rel
 kp := fun b o e h1 h2 => a.stx.h b o (fun ow => by exact za ((X.fr b ow).symm.trans e)) (X.kp b o e h1 h2)
 lvD := E22 X.lvD fun o vs e d =>  (I22 o vs (zcV X.rel a _ _ _ d e) d)
 lvI := E22 X.lvI fun o vs e d =>  (I22 o vs (zcV X.rel a _ _ _ d e) d)
 fr := fun b ow => by
  refine Or.elim (a.own b ow) (fun h => ?_) fun h => ?_
  ·exact X.fr b h
  ·induction e : s.heap.get? b with
   | none => rfl
   | some o =>
    by_cases h1 : b = PD
    ·obtain ⟨o', _, e', _⟩ := X.lvD; rw [<- h1, h] at e'; exact za e'
    ·by_cases h2 : b = PI
     ·obtain ⟨o', _, e', _⟩ := X.lvI; rw [<- h2, h] at e'; exact za e'
     ·cases (X.kp b o e h1 h2).symm.trans h
 zD := by
  obtain ⟨o, vs, e, d⟩ := X.lvD
  rw [a.stx.new PD o (fun ow => za6 X.rel ow.foot e d) e]; exact X.zD
 zI := by
  obtain ⟨o, vs, e, d⟩ := X.lvI
  rw [a.stx.new PI o (fun ow => za6 X.rel ow.foot e d) e]; exact X.zI
theorem Ph.stp (X : Ph Ω c env s PD PI Z si ρ ad) (S : Stp Ω Z si Z' s') : Ph Ω c env s PD PI Z' s' ρ ad := X.adv (Adv.ofStp S X.rel)
theorem Ph.prim {d : PyData} {v : Value} {ca : Addr} {pos : Pos} (hP : P = PD \/ P = PI) (X : Ph Ω c env s PD PI Z si ρ ad) (p : zcj Ω ca P pos q false Z si d v s') :
  ∃ Z', Ph Ω c env s PD PI Z' s' ρ ad /\ Rep Z' v d /\ zbe s'.heap ca P pos q true /\ (∃ l, s'.heap.TableAt ca P l) /\ (∀ b o, b ≠ P -> si.heap.get? b = some o -> s'.heap.get? b = some o) := by
 obtain ⟨Z', S, r, h⟩ := p
 obtain ⟨hC, hZ, l, hT⟩ := h rfl
 have hh : ∀ b o, b ≠ P -> si.heap.get? b = some o -> s'.heap.get? b = some o := fun b o hb e => S.h b o (fun x => hb x.2) e
 have hf : ∀ b, zaw c env ρ ad b -> ¬ (false = false /\ b = P) := by
  intro b hb h9; obtain ⟨_, e9⟩ := h9; obtain rfl := e9.symm
  rcases hP with rfl | rfl
  ·obtain ⟨o, vs, e, d⟩ := X.lvD; exact za6 X.rel hb e d
  ·obtain ⟨o, vs, e, d⟩ := X.lvI; exact za6 X.rel hb e d
 refine I15 Z' ⟨S.ok, X.rel.stX S hf, fun b o e h1 h2 => hh b o (by rcases hP with rfl | rfl <;> assumption) (X.kp b o e h1 h2), ?_, ?_, X.fr, ?_, ?_⟩ r hC ⟨l, hT⟩ hh
 ·by_cases e : PD = P
  ·exact I22 _ _ (e ▸ hT.2) rfl
  ·obtain ⟨o, vs, e', d⟩ := X.lvD; exact I22 o vs (hh _ _ e e') d
 ·by_cases e : PI = P
  ·exact I22 _ _ (e ▸ hT.2) rfl
  ·obtain ⟨o, vs, e', d⟩ := X.lvI; exact I22 o vs (hh _ _ e e') d
 ·by_cases e : PD = P
  ·rw [e]; exact hZ
  ·obtain ⟨o, vs, e', d⟩ := X.lvD; rw [S.new _ _ (fun x => e x.2) e']; exact X.zD
 ·by_cases e : PI = P
  ·rw [e]; exact hZ
  ·obtain ⟨o, vs, e', d⟩ := X.lvI; rw [S.new _ _ (fun x => e x.2) e']; exact X.zI
end
section
variable {Ω : En} {A : Around} {Z Z' : Heap} {s s' si : Shared} {q : Str} {env : Env} {ρ ρ' : Rho} {ad ad' : Nat -> Addr} {c : TC}
 {Φ : Fs} {S : Sv} {n m : Nat}
theorem zid (H : zag Ω Φ S n) (hA : Rm A n) (hG : GlC c Φ) {f : Str} {k : Nat} {es : List PySem.Expr} {pes : List PE} {ds : List PyData} {x1 x2 : Pos} {Q : Value -> Shared -> Prop} (hf : Φ.fns.lookup f = some k) (hx : zh c f = true)
  (hdb : (f == ("__debug__" : Str)) = false) (h1 : zC (tr 60 c) es = some pes) (h2 : exs S ρ pes = some ds) (hO : Ok Ω Z s) (hR : Rel c env Z s.heap ρ ad)
  (h : ∀ vs s' Z', Stp Ω Z s Z' s' -> zv Z' vs ds -> wpAny Ω.m A (call (.ref (Φ.fa k)) vs) Q zc s') : wpAny Ω.m A (eval (.Call (.Name f x1) es [] x2) env) Q zc s := by
 refine wpAny_Call_NameR (wpAny_Name (ziy (v := .none) H.gl hO hR hx fun mg u hg w => I12 (.ref (Φ.fa k)) (hg f k hf) ?_) hdb)
 obtain ⟨o, fd, ho, hof⟩ := H.gl.fn f k hf
 refine Calls.callWith_function (z9 (H.ex 60) hA hG h1 h2 hO hR fun vs s' Z' S' r => ⟨⟨S'.ok.sub _ _ (S'.ok.base _ _ ho), hof⟩, h vs s' Z' S' r⟩)
structure zhA (B : Heap) (Φ : Fs) (tbl : Nat -> Option Fn) : Prop where
 gl : Gl B Φ
 glg : GlG B Φ.gen Φ.ga
 gfn : zfI B Φ.ga
 gd : (Φ.gen == ("__debug__" : Str)) = false
 code : ∀ f k np ns pb, Φ.fns.lookup f = some k -> tbl k = some (.code np ns pb) -> zkV B Φ (Φ.fa k) np pb
 noTry : Φ.fns.lookup ("_law_alternant" : Str) = none
theorem zhA.mono {B' : Heap} {tbl : Nat -> Option Fn} (L : zhA Ω.B Φ tbl) (h : Sub Ω.B B') : zhA B' Φ tbl :=
 ⟨L.gl.mono h, L.glg.mono h, L.gfn.mono h, L.gd, fun f k np ns pb h1 h2 => (L.code f k np ns pb h1 h2).mono h, L.noTry⟩
theorem zhA.tabs {tbl : Nat -> Option Fn} (L : zhA Ω.B Φ tbl) (hp : ∀ f k p, Φ.fns.lookup f = some k -> tbl k = some (.prim p) -> ziQ Ω 100 (Φ.fa k) p) : zpT Ω Φ tbl 100 :=
 ⟨by simp, L.gl, L.glg, zn9 L.gl L.gfn, L.gd, L.code, hp⟩
structure Two (B : Heap) (Φ : Fs) (s : Shared) (kD kI : Nat) (fdD fdI : FuncData) (pD pI : Nat -> Pos) (cD PD cI PI : Addr) (qD qI : Str) : Prop where
 fD : Φ.fns.lookup ("_digits2int" : Str) = some kD
 fI : Φ.fns.lookup ("_int2digits" : Str) = some kI
 XD : zaX B (Φ.fa kD) fdD za1 (zbf pD) cD PD qD
 XI : zaX B (Φ.fa kI) fdI zbg (zbr pI) cI PI qI
 pos : ((pI 6).endLine == (pI 7).line) = true
 CD : zbe s.heap cD PD (zb5 pD) qD false
 CI : zbe s.heap cI PI (zb6 pI) qI false
 zD : B.get? PD = none
 zI : B.get? PI = none
 ne : PD ≠ PI
 sD : PD ≠ cStatics
 sI : PI ≠ cStatics
theorem Two.live {kD kI fdD fdI pD pI cD PD cI PI qD qI} (T : Two Ω.B Φ s kD kI fdD fdI pD pI cD PD cI PI qD qI) : s.heap.get? PD = some { cls := .none, data := .fields #[] } /\ s.heap.get? PI = some { cls := .none, data := .fields #[] } := ⟨T.CD.2.2, T.CI.2.2⟩
theorem zj3 {h h' : Heap} {c P P' : Addr} {pos : Pos} {hit : Bool} (x : zbe h c P pos q hit) (hP : P ≠ P') (e : h.get? P' = some { cls := .none, data := .fields #[] }) (k : ∀ b o, b ≠ P' -> h.get? b = some o -> h'.get? b = some o) : zbe h' c P pos q hit := by
 have ne : ∀ {b : Addr} {o : Obj}, h.get? b = some o -> o.cls = .type "code" -> b ≠ P' := by
  intro b o eo hc h9; obtain rfl := h9.symm
  have eo := e ▸ eo; cases eo; cases hc
 have isc : ∀ {ps}, h.IsCode c P ps -> h.TableAt c P ps -> h'.IsCode c P ps := by
  intro ps h9 h92; obtain ⟨o, vs, file, tf, flags, tg, inF, text, tt, op, ho, r1, r2, r3, r4, r5, r6, hop, r⟩ := h9; obtain ⟨⟨o', vs', eo', hc', _⟩, _⟩ := h92
  have eo' := ho ▸ eo'; cases eo'
  exact ⟨o, vs, file, tf, flags, tg, inF, text, tt, op, k _ _ (ne ho hc') ho, r1, r2, r3, r4, r5, r6, k _ _ hP hop, r⟩
 have tab : ∀ {ps}, h.TableAt c P ps -> h'.TableAt c P ps := by
  intro ps h9; obtain ⟨⟨o, vs, eo, c1, r⟩, e'⟩ := h9
  exact ⟨(I23 o vs (k _ _ (ne eo c1) eo) c1 r), k _ _ hP e'⟩
 unfold zbe at x |-
 split
 ·rename_i hh
  rw [if_pos hh] at x
  obtain ⟨ps, c', a, b, d, r⟩ := x
  refine I24 ps c' (isc a b) (tab b) d ?_
  obtain ⟨c2, o2, vs2, t2, e2, g2, d2, r2⟩ := r
  refine I44 c2 o2 vs2 t2 e2 (k _ _ ?_ g2) d2 r2
  intro h9; obtain rfl := h9.symm
  have g2 := e ▸ g2; cases g2
  cases d2
  exact za r2
 ·rename_i hh
  rw [if_neg hh] at x
  exact ⟨isc x.1 x.2, tab x.2⟩
def ziZ (os_0 : OsState) (s : Shared) (d : PyData) : Value -> Shared -> Prop := fun v s' => (∃ Z', Sub Z' s'.heap /\ Rep Z' v d) /\ OldK s.heap s'.heap /\ s'.os = os_0 /\ AllBare s'.gens
theorem zou {h h' : Heap} {cD PD cI PI : Addr} {lD lI : Array Value} (k : ∀ b o, h.get? b = some o -> b ≠ PD -> b ≠ PI -> h'.get? b = some o) (tD : h.TableAt cD PD #[]) (tI : h.TableAt cI PI #[]) (tD' : h'.TableAt cD PD lD) (tI' : h'.TableAt cI PI lI) : OldK h h' := by
 refine ⟨fun b o e => ?_, fun b o e => ?_⟩
 ·by_cases h1 : b = PD
  ·obtain rfl := h1.symm
   refine eqE (tD.2.symm.trans e) ?_
   exact .inr (.inl ⟨tD.isCodeTable, rfl, #[], lD, rfl, by rw [Array.empty_append]; exact tD'.2⟩)
  ·by_cases h2 : b = PI
   ·obtain rfl := h2.symm
    refine eqE (tI.2.symm.trans e) ?_
    exact .inr (.inl ⟨tI.isCodeTable, rfl, #[], lI, rfl, by rw [Array.empty_append]; exact tI'.2⟩)
   ·exact .inl (k b o e h1 h2)
 ·by_cases h1 : b = PD
  ·exact ⟨_, h1 ▸ tD'.2⟩
  ·by_cases h2 : b = PI
   ·exact ⟨_, h2 ▸ tI'.2⟩
   ·exact ⟨o, k b o e h1 h2⟩
theorem zmB {tblA tblC : Nat -> Option Fn} {N : Nat} (LA : zhA Ω.B Φ tblA) (LC : zhA Ω.B Φ tblC) (hA0 : ∀ k p, tblA k ≠ some (.prim p))
  {kD kI : Nat} {fdD fdI : FuncData} {pD pI : Nat -> Pos} {cD PD cI PI : Addr} {qD qI : Str} (T : Two Ω.B Φ s kD kI fdD fdI pD pI cD PD cI PI qD qI)
  (hCp : ∀ f k p, Φ.fns.lookup f = some k -> tblC k = some (.prim p) -> (k = kD /\ p = zhz) \/ (k = kI /\ p = zhy))
  (hA : Rm A (N + 101)) (hO : Ok Ω Ω.B s) {al : Addr} {fd : FuncData} {pre post : List Stmt} {e1 e2 e3 e4 e5 t1 : PySem.Expr} {x1 x2 x3 x4 y2 y3 y4 y5 y6 : Pos} {body : List Stmt}
  (FL : FnB Ω.B al 1 fd (pre ++ (.Assign [.Name "number" x1] (.Call (.Name "_digits2int" x2) [e1, e2] [] x3) x4) ::
   (.If (.BoolOp .Or [t1, .Compare (.Call (.Name "_int2digits" y2) [e3, e4] [] y3) [.NotEq] [e5] y4] y5) body [] y6) :: post))
  {src : List Stmt} (hsrc : src = pre ++ (.Assign [.Name "number" x1] (.Call (.Name "_digits2int" x2) [e1, e2] [] x3) x4) ::
   (.If (.BoolOp .Or [t1, .Compare (.Call (.Name "_int2digits" y2) [e3, e4] [] y3) [.NotEq] [e5] y4] y5) body [] y6) :: post)
  {kk iN ns : Nat} {pbA pbC : List PS} {pe1 pe2 pe3 pe4 pe5 pt1 : PE} (hc : c = zeb Φ.fns Φ.cst Φ.gen fd.scope src) (tA : trB kk c pre = some pbA) (tC : trB kk c post = some pbC)
  (r1 : tr 60 c e1 = some pe1) (r2 : tr 60 c e2 = some pe2) (r3 : tr 60 c e3 = some pe3) (r4 : tr 60 c e4 = some pe4) (r5 : tr 60 c e5 = some pe5) (rt : tr 60 c t1 = some pt1)
  (gD : zh c "_digits2int" = true) (gI : zh c "_int2digits" = true) (hiN : zN c "number" = some iN) (hset : zcc e5 = false)
  {dS dN d1 d2 d3 d4 d5 d6 dR : PyData} {ρ1 ρ3 : Rho} (eA : (run tblA N).blk (some (.d dS) :: List.replicate ns none) pbA = some (ρ1, .next))
  (v1 : (run tblA N).ex ρ1 pe1 = some d1) (v2 : (run tblA N).ex ρ1 pe2 = some d2) (vN : zhz [d1, d2] = some dN)
  (vt : (run tblA N).ex (ρ1.set iN (some (.d dN))) pt1 = some (.bool false)) (v3 : (run tblA N).ex (ρ1.set iN (some (.d dN))) pe3 = some d3) (v4 : (run tblA N).ex (ρ1.set iN (some (.d dN))) pe4 = some d4)
  (v5 : zhy [d3, d4] = some d5) (v6 : (run tblA N).ex (ρ1.set iN (some (.d dN))) pe5 = some d6) (vc : zfQ .NotEq d5 d6 = some false)
  (eC : (run tblC N).blk (ρ1.set iN (some (.d dN))) pbC = some (ρ3, .ret dR)) {vS : Value} (rS : Rep Ω.B vS dS) :
  wpAny Ω.m A (call (.ref al) [vS]) (ziZ Ω.os s dR) zc s := by
 subst hsrc
 obtain (⟨HA, HBA⟩) := zeI (Ω := Ω) (LA.tabs fun f k p x h => absurd h (hA0 k p)) N
 have H0 := zq2 (Ω := Ω) LA.gl LA.glg LA.gfn LA.gd 6
 have hG : GlC c Φ := by refine rwE hc ?_; exact ⟨rfl, rfl, rfl⟩
 have hlo : c.lo = 0 := by refine rwE hc ?_; rfl
 refine zfi (n := N + 100) (ns := ns) (Φ := Φ) LA.gl hA FL (args := [dS]) rfl hO (.one rS) fun h_1 tk S_1 R hown hA' => ?_
 rw [<- hc] at R hown
 let env : Env := callEnvC fd s.heap.objs.size al
 let A' : Around := A.deeper env
 have lv := T.live
 have X0 : Ph Ω c env s PD PI Ω.B { s with heap := h_1, toks := tk } (some (.d dS) :: List.replicate ns none) (fun x => 0) :=
  ⟨S_1.ok, R, fun b o e x y => S_1.h _ _ e, (I22 _ _ (S_1.h _ _ lv.1) rfl), (I22 _ _ (S_1.h _ _ lv.2) rfl), hown, T.zD, T.zI⟩
 have CI0 := z0 T.CI S_1.h
 refine ziY (wpM (HBA kk c pre pbA _ ρ1 .next tA eA hlo A' env Ω.B _ (fun x => 0) hA' hG S_1.ok R) (fun f s_1 pst => ?_))
 obtain ⟨rfl, Z_1, ad_1, a_1⟩ := pst
 have X1 := X0.adv a_1
 have k_1 := zcV X0.rel a_1
 have CD1 := zdL (z0 T.CD S_1.h) k_1
 refine wpAny_execs_cons (wpAny_Assign_Name (zid HA hA' hG T.fD gD (by decide +kernel) (pes := [pe1, pe2]) (ds := [d1, d2]) (zdm r1 r2) (zcT v1 v2) X1.ok X1.rel fun vs s_2 Z_2 S_2 rv => ?_) rfl)
 have X2 := X1.stp S_2
 have CD2 := z0 CD1 S_2.h
 have CI2 := z0 (zdL CI0 k_1) S_2.h
 refine wpM (zlN (hit := false) H0 T.XD vN (hA'.le (by lia)) S_2.ok CD2 (fun x => X2.zD) rv) (fun v s_3 pp => ?_)
 obtain ⟨Z_3, X3, rN, CD3, ⟨lD, TD3⟩, kk_3⟩ := X2.prim (.inl rfl) pp
 have eD_2 : s_2.heap.get? PD = some { cls := .none, data := .fields #[] } := CD2.2.2
 refine zbc hiN X3.ok X3.rel rN fun s_4 a_4 => ?_
 have X4 := X3.adv a_4
 have k_4 := zcV X3.rel a_4
 have CD4 := zdL CD3 k_4
 have CI4 := zdL (zj3 CI2 (Ne.symm T.ne) eD_2 kk_3) k_4
 have TD4 : s_4.heap.TableAt cD PD lD := let ⟨⟨o, vs, e, c1, d, r⟩, e'⟩ := TD3; ⟨(I24 o vs (k_4 _ _ _ d e) c1 d r), k_4 _ _ _ rfl e'⟩
 refine wpAny_execs_cons (wpAny_If (wpAny_isTrue_BoolOp (wpAny_allTrue_Or_cons (za4.then (HA.tst 60 c t1 pt1 _ (.bool false) false rt vt rfl A' env Z_3 s_4 _ hA' hG X4.ok X4.rel) fun s_5 Z5 S5 => ?_))))
 have X5 := X4.stp S5
 refine wpAny_allTrue_Or_cons (wpAny_isTrue_Compare1 (zid HA hA' hG T.fI gI (by decide +kernel) (pes := [pe3, pe4]) (ds := [d3, d4]) (zdm r3 r4) (zcT v3 v4) X5.ok X5.rel fun vs s_6 Z_6 S_6 rv => ?_) (by cases e5 <;> first | rfl | (exact Bool.noConfusion hset)))
 have X6 := X5.stp S_6
 have CI6 := z0 (z0 CI4 S5.h) S_6.h
 have TD6 := (TD4.keeps S5.h).keeps S_6.h
 refine wpM (zlO (hit := false) H0 T.XI T.pos v5 (hA'.le (by lia)) S_6.ok CI6 (fun x => X6.zI) rv) (fun v s_7 pp => ?_)
 obtain ⟨Z7, X7, r5', CI7, ⟨lI, TI7⟩, kk_7⟩ := X6.prim (.inr rfl) pp
 have eI_6 : s_6.heap.get? PI = some { cls := .none, data := .fields #[] } := CI6.2.2
 have CD7 := zj3 (z0 (z0 CD4 S5.h) S_6.h) T.ne eI_6 kk_7
 have TD7 : s_7.heap.TableAt cD PD lD := by
  obtain ⟨⟨o, vs, e, c1, d, r⟩, e'⟩ := TD6
  refine ⟨(I24 o vs (kk_7 _ _ (fun h => ?_) e) c1 d r), kk_7 _ _ T.ne e'⟩
  have e := eI_6 ▸ h ▸ e; cases e; cases c1
 refine Pst.then (HA.ex 60 c e5 pe5 _ d6 r5 v6 A' env Z7 s_7 _ hA' hG X7.ok X7.rel) fun u s_8 Z8 S8 r6 => ?_
 refine Pst.then (zkA S8.ok (by have := hA'.units; lia) (.inl (r5'.mono S8.f)) r6 vc) fun vb s_9 Z9 S9 r9 => ?_
 refine rwE r9 ?_
 refine zbw ?_
 refine wpAny_allTrue_Or_nil ?_
 refine wpAny_execs_nil ?_
 have S79 := S8.trans S9
 have X9 := X7.stp S79
 have CI9 := z0 CI7 S79.h
 have TD9 := TD7.keeps S79.h
 have TI9 := TI7.keeps S79.h
 refine cps fun G0 hG_0 => ?_
 obtain ⟨B2, Z10, b1, b2, b3, b4, CB2, o2⟩ := zot X9.ok.base X9.ok.sub (z0 CD7 S79.h) (zj2 T.XD)
 obtain ⟨B3, Z11, c1, c2, c3, c4, CB3, o3⟩ := zot b3 b4 CI9 (zj2 (T.XI.mono b1))
 have hBB : Sub Ω.B B3 := b1.trans c1
 have L3 := LC.mono hBB
 have H03 := zq2 (Ω := ⟨Ω.prog, Ω.w, B3, Ω.os⟩) L3.gl L3.glg L3.gfn L3.gd 6
 obtain ⟨HC, HBC⟩ := zeI (Ω := ⟨Ω.prog, Ω.w, B3, Ω.os⟩) (L3.tabs fun f k p hf hp => by
  refine Or.elim (hCp f k p hf hp) (fun h9 => ?_) fun h9 => ?_
  ·obtain ⟨e90, e91⟩ := h9; refine rwE e90 ?_; refine rwE e91 ?_
   exact zor H03 (T.XD.mono hBB) (z0 CB2 c1)
  ·obtain ⟨e90, e91⟩ := h9; refine rwE e90 ?_; refine rwE e91 ?_
   exact zos H03 (T.XI.mono hBB) T.pos CB3) N
 refine hG_0 ?_
 have R3 := zp5 X9.rel (b2.trans c2) (o2.trans o3) c4
 refine wpM (HBC kk c post pbC _ ρ3 (.ret dR) tC eC hlo A' env Z11 s_9 _ hA' hG ⟨c4, c3, X9.ok.os, X9.ok.gens⟩ R3) (fun f s_10 pst => ?_)
 obtain ⟨Z12, v', e9, S10, rR⟩ := pst; refine rwE e9 ?_
 have kF : zkY s_9.heap s_10.heap := fun b o vs hd e => S10.h b o (fun ow => za6 R3 ow.foot e hd) e
 have tabF : ∀ {c P l}, s_9.heap.TableAt c P l -> s_10.heap.TableAt c P l := fun ⟨⟨o, vs, e, c1, d, r⟩, e'⟩ => ⟨(I24 o vs (kF _ _ _ d e) c1 d r), kF _ _ _ rfl e'⟩
 exact I04 (I12 Z12 S10.ok.sub rR) (zou (fun b o e h1 h2 => S10.h b o (fun ow => by exact za ((X9.fr b ow).symm.trans e)) (X9.kp b o e h1 h2)) T.CD.2 T.CI.2 (tabF TD9) (tabF TI9)) S10.ok.os S10.ok.gens
end
noncomputable def zct : Obj := { cls := .none, data := .fields #[] }
theorem zj4 (h : Heap) (P : Addr) : ∃ B : Heap, (∀ b, b ≠ P -> B.get? b = h.get? b) /\ B.get? P = none := by
 refine I12 ({ h with objs := h.objs.setIfInBounds P ⟨.none, Option.none, .freed, #[]⟩ }) (fun b hb => ?_) ?_
 ·rw [zaG, zaG]
  rw [Array.getElem?_setIfInBounds_ne (Ne.symm hb)]
 ·rw [zaG]
  rw [Array.getElem?_setIfInBounds]
  by_cases hP : P < h.objs.size
  ·simp [hP]; rfl
  ·simp [hP]; rfl
theorem zp6 {h : Heap} {PD PI : Addr} (hD : h.get? PD = some zct) (hI : h.get? PI = some zct) :
  ∃ B : Heap, Sub B h /\ B.get? PD = none /\ B.get? PI = none /\ ∀ b o, h.get? b = some o -> o ≠ zct -> B.get? b = some o := by
 obtain ⟨B1, k1, z1⟩ := zj4 h PD
 obtain ⟨B2, k2, z2⟩ := zj4 B1 PI
 refine I14 B2 (fun b o e => ?_) ?_ z2 (fun b o e ne => ?_)
 ·by_cases h2 : b = PI
  ·rw [h2, z2] at e; exact za e
  ·rw [k2 b h2] at e
   by_cases h1 : b = PD
   ·rw [h1, z1] at e; exact za e
   ·rw [k1 b h1] at e; exact e
 ·by_cases h : PD = PI
  ·rw [h]; exact z2
  ·rw [k2 PD h]; exact z1
 ·have h1 : b ≠ PD := by rintro rfl; replace e := hD ▸ e; cases e; exact ne rfl
  have h2 : b ≠ PI := by rintro rfl; have e := hI ▸ e; cases e; exact ne rfl
  rw [k2 b h2, k1 b h1]; exact e
structure zfm where
 name : Str
 sc : Scope
 body : List Stmt
 args : Arguments
noncomputable def zj5 (p : Program) : List zfm := p.main.body.filterMap fun s => match s with
 | .FunctionDef n a b _ _ _ sc _ _ _ => some ⟨n, sc, b, a⟩
 | _ => none
def zov (p : Program) (n : Str) : Option zfm := (zj5 p).find? fun d => d.name == n
def zie (mg : Str -> Option Value) (h : Heap) (d : zfm) (c P : Addr) : Prop :=
 ∃ a o pm code doc, mg d.name = some (.ref a) /\ h.get? a = some o /\ o.data = .func (Calls.docDef d.name d.args d.body d.sc pm code doc) /\ h.CodeRec code d.name /\ code = .ref c /\ h.IsCode c P #[] /\ h.TableAt c P #[]
def zj6 (mg : Str -> Option Value) (h : Heap) (d : zfm) : Prop := ∃ c P, zie mg h d c P
theorem zp7 {p : Program} {loose : List Str} {mean : ExcName -> Option Value} {mg mb : Str -> Option Value} {h : Heap} (T : Top p loose mean mg mb h) {d : zfm} (hd : ∃ r ∈ recsOf p, r.name = d.name /\ r.params = d.args /\ r.body = d.body /\ r.scope = d.sc) : zj6 mg h d := by
 obtain ⟨r, hr, e1, e2, e3, e4⟩ := hd
 obtain ⟨a, o, pm, code, doc, h1, h2, h3, h4⟩ := T.fn r hr
 obtain ⟨a', o', fd, c, P, g1, g2, g3, g4, g5, g6⟩ := T.tab r hr
 cases h1.symm.trans g1
 cases h2.symm.trans g2
 replace g3 := h3 ▸ g3; cases g3
 rw [e1, e2, e3, e4] at h3
 rw [e1] at h1 h4
 exact ⟨c, P, a, o, pm, code, doc, h1, h2, h3, h4, g4, g5, g6⟩
def zow (fns : List (Str × Nat)) (cst : List (Str × PyData)) (gen : Str) (d : zfm) : Option (List PS) := trB 9 (zeb fns cst gen d.sc d.body) d.body
def zck (d : zfm) : Bool :=
 d.sc.kind == .function && !d.sc.isCoroutine && !d.sc.isGenerator && zaA (d.sc.names.map (·.1)) && (d.sc.names.all fun p => p.2 == NameKind.local || p.2 == NameKind.cell || p.2 == NameKind.globalImplicit) && zaA (d.args.args.map (·.arg)) &&
  ((d.args.args.map (·.arg)).zipIdx.all fun q => match d.sc.names[q.2]? with | some (x, k) => x == q.1 && (k == .local || k == .cell) | none => false)
set_option tactic.hygienic true in
theorem zi0 {d : zfm} (h : zck d = true) : d.sc.kind = .function /\ d.sc.isCoroutine = false /\ d.sc.isGenerator = false /\ zaA (d.sc.names.map (·.1)) = true /\ (d.sc.names.all fun p => p.2 == NameKind.local || p.2 == NameKind.cell || p.2 == NameKind.globalImplicit) = true /\
  zaA (d.args.args.map (·.arg)) = true /\ ∀ (j : Nat) (x : Str), (d.args.args.map (·.arg))[j]? = some x -> ∃ k : NameKind, d.sc.names[j]? = some (x, k) /\ (k = NameKind.local \/ k = NameKind.cell) := by
 unfold zck at h
 simp only [Bool.and_eq_true, Bool.not_eq_true', beq_iff_eq] at h
 refine cps fun G0 hG_0 => ?_
 obtain ⟨⟨⟨⟨⟨⟨h1, h2⟩, h3⟩, h4⟩, h5⟩, h6⟩, h7⟩ := h
 refine hG_0 ?_
 refine I07 h1 h2 h3 h4 h5 h6 (fun j x e => ?_)
 have hm : (x, j) ∈ (d.args.args.map (·.arg)).zipIdx := by
  rw [List.mem_zipIdx_iff_getElem?]; exact e
 have := List.all_eq_true.mp h7 _ hm
 dsimp only at this
 split at this
 ·rename_i y k e'
  simp only [Bool.and_eq_true, Bool.or_eq_true, beq_iff_eq] at this
  obtain ⟨e9, hk⟩ := this; refine rwE e9.symm ?_
  exact I12 k e' hk
 ·cases this
def zai (d : zfm) : Prop := ∀ (pm code doc : Value) (vals : List Value), vals.length = d.args.args.length -> bindArgs (Calls.docDef d.name d.args d.body d.sc pm code doc) ⟨vals, []⟩ = pure ((d.args.args.map (·.arg)).zip vals)
noncomputable def zg1 (mg : Str -> Option Value) (names : List Str) (k : Nat) : Addr := match names[k]? with
 | some f => (match mg f with | some (.ref a) => a | _ => 0)
 | none => 0
section
variable {B h : Heap} {mg mb : Str -> Option Value} {Φ : Fs} {d : zfm} {a : Addr}
abbrev BK (h B : Heap) : Prop := ∀ b o, h.get? b = some o -> o ≠ zct -> B.get? b = some o
theorem zj7 {m : Str -> Option Value} (k : BK h B) (x : h.Ns a m) : B.Ns a m := x.at' fun o e => k a o e (by
 rintro rfl
 obtain ⟨o', es, ep, e', d, _⟩ := x
 cases e.symm.trans e'; cases d)
theorem zeg {cd : Value} {q : Str} (k : BK h B) (x : h.CodeRec cd q) : B.CodeRec cd q := by
 obtain ⟨c, o, vs, t, e, g, d, r⟩ := x
 refine I44 c o vs t e (k _ _ g ?_) d r
 rintro rfl
 cases d
 exact za r
theorem zkZ {c P : Addr} (k : BK h B) (X : zie mg h d c P) (ok : zck d = true) (hb : zai d) : ∃ a pm code doc, mg d.name = some (.ref a) /\ FnB B a d.args.args.length (Calls.docDef d.name d.args d.body d.sc pm code doc) d.body /\ code = .ref c /\ h.IsCode c P #[] /\ h.TableAt c P #[] /\
  (∃ o, B.get? a = some o /\ o.data = .func (Calls.docDef d.name d.args d.body d.sc pm code doc)) /\ B.CodeRec code d.name := by
 obtain ⟨a, o, pm, code, doc, h1, h2, h3, h4, h5, h6, h7⟩ := X
 obtain ⟨s1, s2, s3, s4, s5, s6, s7⟩ := zi0 ok
 have ho : B.get? a = some o := k a o h2 (by rintro rfl; cases h3)
 exact I47 a pm code doc h1 ⟨o, d.args.args.map (·.arg), ho, h3, rfl, rfl, rfl, rfl, zeg k h4, s1, s2, s3, s4, s5, by simp, fun vals hv => hb pm code doc vals hv, s6, s7⟩ h5 h6 h7 ⟨o, ho, h3⟩ (zeg k h4)
theorem zp8 {pb : List PS} (k : BK h B) (X : zj6 mg h d) (ok : zck d = true) (hb : zai d) (hp : zow Φ.fns Φ.cst Φ.gen d = some pb) : ∃ a, mg d.name = some (.ref a) /\ zkV B Φ a d.args.args.length pb := by
 refine cps fun G0 hG_0 => ?_
 obtain ⟨c, P, X⟩ := X
 obtain ⟨a, pm, code, doc, h1, F, _⟩ := zkZ k X ok hb
 obtain ⟨o, ps, g1, g2, g3, g4⟩ := F.ex
 refine hG_0 ?_
 exact I12 a h1 ⟨o, _, d.body, 9, ps, g1, g2, rfl, hp, g4⟩
theorem zox {p : Nat -> Pos} (k : BK h B) (X : zj6 mg h d) (hbody : d.body = zdp p) (hsc : d.sc = zbd) (hargs : d.args.args.map (·.arg) = [("addr" : Str)]) (hb : zai d) : ∃ a, mg d.name = some (.ref a) /\ zfI B a := by
 refine cps fun G0 hG_0 => ?_
 obtain ⟨c, P, a, o, pm, code, doc, h1, h2, h3, h4, h5, h6, h7⟩ := X
 refine hG_0 ?_
 have ho : B.get? a = some o := k a o h2 (by rintro rfl; cases h3)
 refine I12 a h1 ⟨o, _, p, ho, h3, congrArg FuncBody.stmts hbody, hsc, rfl, rfl, rfl, zeg k h4, fun v => ?_⟩
 have hl : d.args.args.length = 1 := by have := congrArg List.length hargs; simpa using this
 rw [hb pm code doc [v] (by simp [hl]), hargs]; rfl
theorem zif {sc : Scope} {src : List Stmt} {c P : Addr} (k : BK h B) (X : zie mg h d c P) (ok : zck d = true) (hb : zai d) (hbody : d.body = src) (hsc : d.sc = sc) (hn : d.args.args.length = 2) (hg : h.Ns mainGlobals mg)
  (hm : ∃ bm ob, mg "__builtins__" = some (.ref bm) /\ bm ≠ builtinsNs /\ h.get? bm = some ob /\ ob.cls = .type "module" /\ ob.dict = some builtinsNs /\ ob.data = .plain) {q : Str} (hq : d.name ++ ".<locals>." ++ "inner" = q) :
  ∃ a fd, mg d.name = some (.ref a) /\ zaX B a fd sc src c P q /\ h.IsCode c P #[] /\ h.TableAt c P #[] := by
 obtain ⟨a, pm, code, doc, h1, F, h5, h6, h7, _⟩ := zkZ k X ok hb
 obtain ⟨bm, ob, m1, m2, m3, m4, m5, m6⟩ := hm
 have notTab : ∀ {b : Addr} {o : Obj}, h.get? b = some o -> o ≠ zct -> b ≠ P := by
  rintro b o e ne rfl
  cases h7.2.symm.trans e; exact ne rfl
 obtain ⟨og, eg, epg, hog, hdg, _⟩ := id hg
 have n1 : ob ≠ zct := by rintro rfl; cases m6
 have n2 : og ≠ zct := by rintro rfl; cases hdg
 have n3 : bm ≠ mainGlobals := by
  rintro rfl
  cases m3.symm.trans hog
  cases m6.symm.trans hdg
 have F' : FnB B a 2 (Calls.docDef d.name d.args d.body d.sc pm code doc) src := by rw [<- hn, <- hbody]; exact F
 have bi : ∃ mg, B.Ns mainGlobals mg /\ (∃ bm o, mg "__builtins__" = some (.ref bm) /\ bm ≠ builtinsNs /\ bm ≠ mainGlobals /\ bm ≠ P /\ B.get? bm = some o /\ o.cls = .type "module" /\ o.dict = some builtinsNs /\ o.data = .plain) :=
  ⟨mg, zj7 k hg, bm, ob, m1, m2, n3, notTab m3 n1, k _ _ m3 n1, m4, m5, m6⟩
 exact I24 a (Calls.docDef d.name d.args d.body d.sc pm code doc) h1 (zaX.mk F' hsc h5 rfl hq bi (notTab hog n2)) h6 h7
theorem zlP {names : List Str} {tbl : Nat -> Option Fn} (hfa : Φ.fa = zg1 mg names) (k : BK h B) (hg : h.Ns mainGlobals mg) (hb : h.Ns builtinsNs mb) (hlim : h.NoLimit) (hsys : ∃ o, h.get? sysModules = some o /\ o ≠ zct)
  (hbi : ∀ f v, zdZ.lookup f = some v -> mg f = none /\ mb f = some v) (hc : ∀ x d, Φ.cst.lookup x = some d -> ∃ v, mg x = some v /\ Rep B v d)
  (hnames : ∀ f k, Φ.fns.lookup f = some k -> names[k]? = some f)
  (hfn : ∀ f k, Φ.fns.lookup f = some k -> ∃ d, d.name = f /\ zj6 mg h d /\ ∀ np ns pb, tbl k = some (.code np ns pb) -> zck d = true /\ zai d /\ np = d.args.args.length /\ zow Φ.fns Φ.cst Φ.gen d = some pb)
  (hgen : mg Φ.gen = some (.ref Φ.ga)) (hgf : zfI B Φ.ga) (hgd : (Φ.gen == ("__debug__" : Str)) = false) (hno : Φ.fns.lookup ("_law_alternant" : Str) = none) : zhA B Φ tbl := by
 have fa_at : ∀ {f k a}, Φ.fns.lookup f = some k -> mg f = some (.ref a) -> Φ.fa k = a := by
  intro f k a h1 h2
  rw [hfa]
  unfold zg1
  rw [hnames f k h1]
  simp only [h2]
 refine ⟨⟨(I25 mg mb (zj7 k hg) (zj7 k hb) (fun f kk hf => ?_) hc hbi), fun f kk hf => ?_, ?_, E12 hsys fun o h1 h2 =>  ⟨o, k _ _ h1 h2⟩⟩, ⟨(I12 mg (zj7 k hg) hgen), E33 hgf.ex fun o fd p h1 h2 u =>  (I22 o fd h1 h2)⟩, hgf, hgd, fun f kk np ns pb hf ht => ?_, hno⟩
 ·refine cps fun G0 hG_0 => ?_
  obtain ⟨d, rfl, ⟨c, P, a, o, pm, code, doc, h1, h2, h3, _⟩, _⟩ := hfn f kk hf
  refine hG_0 ?_
  rw [fa_at hf h1]; exact h1
 ·refine cps fun G0 hG_0 => ?_
  obtain (⟨d, e9, ⟨c, P, a, o, pm, code, doc, h1, h2, h3, _⟩, _⟩) := hfn f kk hf; obtain rfl := e9.symm
  refine hG_0 ?_
  rw [fa_at hf h1]; exact I22 o _ (k a o h2 (by rintro rfl; cases h3)) h3
 ·obtain ⟨mc, h1, h2⟩ := hlim
  exact I12 mc (zj7 k h1) h2
 ·refine cps fun G0 hG_0 => ?_
  obtain ⟨d, e9, X, hh⟩ := hfn f kk hf; obtain rfl := e9.symm
  obtain ⟨ok, hb', e9, hp⟩ := hh np ns pb ht; obtain rfl := e9.symm
  obtain ⟨a, h1, F⟩ := zp8 k X ok hb' hp
  refine hG_0 ?_
  rw [fa_at hf h1]; exact F
end
namespace Two2
noncomputable def zu4 : List Pos := [⟨122, 4, 122, 7⟩, ⟨122, 10, 122, 11⟩, ⟨122, 4, 122, 11⟩, ⟨123, 4, 123, 10⟩, ⟨123, 13, 123, 18⟩, ⟨123, 4, 123, 18⟩, ⟨124, 8, 124, 11⟩, ⟨124, 13, 124, 15⟩, ⟨124, 8, 124, 15⟩, ⟨124, 19, 124, 28⟩, ⟨124, 29, 124, 33⟩, ⟨124, 19, 124, 34⟩, ⟨0, 0, 0, 0⟩, ⟨125, 11, 125, 17⟩, ⟨126, 19, 126, 22⟩, ⟨126, 24, 126, 28⟩, ⟨126, 31, 126, 33⟩, ⟨126, 24, 126, 33⟩, ⟨126, 18, 126, 34⟩, ⟨126, 12, 126, 34⟩, ⟨126, 12, 126, 34⟩, ⟨0, 0, 0, 0⟩, ⟨127, 12, 127, 18⟩, ⟨127, 21, 127, 26⟩, ⟨127, 12, 127, 26⟩, ⟨128, 13, 128, 15⟩, ⟨128, 19, 128, 23⟩, ⟨128, 13, 128, 23⟩, ⟨129, 12, 129, 18⟩, ⟨129, 21, 129, 25⟩, ⟨129, 12, 129, 25⟩, ⟨0, 0, 0, 0⟩, ⟨131, 19, 131, 22⟩, ⟨131, 24, 131, 26⟩, ⟨131, 18, 131, 27⟩, ⟨131, 12, 131, 27⟩, ⟨131, 12, 131, 27⟩, ⟨128, 8, 131, 27⟩, ⟨125, 8, 131, 27⟩, ⟨124, 4, 131, 27⟩, ⟨132, 7, 132, 13⟩, ⟨133, 15, 133, 18⟩, ⟨133, 20, 133, 24⟩, ⟨133, 14, 133, 25⟩, ⟨133, 8, 133, 25⟩, ⟨133, 8, 133, 25⟩, ⟨132, 4, 133, 25⟩]
noncomputable def zsa : List Pos := [⟨59, 16, 59, 22⟩, ⟨59, 24, 59, 25⟩, ⟨61, 14, 61, 15⟩, ⟨61, 17, 61, 18⟩, ⟨62, 11, 62, 12⟩, ⟨62, 15, 62, 16⟩, ⟨62, 11, 62, 16⟩, ⟨62, 20, 62, 21⟩, ⟨62, 11, 62, 21⟩, ⟨63, 19, 63, 25⟩, ⟨63, 26, 63, 27⟩, ⟨63, 19, 63, 28⟩, ⟨63, 12, 63, 28⟩, ⟨62, 8, 63, 28⟩, ⟨64, 8, 64, 11⟩, ⟨64, 14, 64, 15⟩, ⟨64, 18, 64, 19⟩, ⟨64, 14, 64, 19⟩, ⟨64, 23, 64, 24⟩, ⟨64, 14, 64, 24⟩, ⟨64, 8, 64, 24⟩, ⟨65, 8, 65, 13⟩, ⟨65, 17, 65, 20⟩, ⟨65, 23, 65, 24⟩, ⟨65, 17, 65, 24⟩, ⟨65, 28, 65, 29⟩, ⟨65, 16, 65, 29⟩, ⟨65, 8, 65, 29⟩, ⟨66, 16, 66, 21⟩, ⟨66, 22, 66, 25⟩, ⟨66, 27, 66, 28⟩, ⟨66, 16, 66, 29⟩, ⟨66, 33, 66, 38⟩, ⟨66, 16, 66, 38⟩, ⟨66, 42, 66, 47⟩, ⟨66, 48, 66, 49⟩, ⟨66, 51, 66, 54⟩, ⟨66, 42, 66, 55⟩, ⟨66, 15, 66, 55⟩, ⟨66, 8, 66, 55⟩, ⟨61, 4, 66, 55⟩, ⟨67, 36, 67, 42⟩, ⟨67, 11, 67, 16⟩, ⟨67, 17, 67, 18⟩, ⟨67, 20, 67, 23⟩, ⟨67, 24, 67, 30⟩, ⟨67, 20, 67, 31⟩, ⟨67, 11, 67, 32⟩, ⟨67, 48, 67, 49⟩, ⟨67, 11, 67, 49⟩, ⟨67, 4, 67, 49⟩, ⟨59, 0, 67, 49⟩]
noncomputable def zsb : List Pos := [⟨43, 16, 43, 17⟩, ⟨43, 19, 43, 20⟩, ⟨44, 4, 44, 12⟩, ⟨44, 16, 44, 17⟩, ⟨44, 15, 44, 18⟩, ⟨44, 23, 44, 24⟩, ⟨44, 23, 44, 35⟩, ⟨44, 23, 44, 37⟩, ⟨44, 40, 44, 41⟩, ⟨44, 23, 44, 41⟩, ⟨44, 44, 44, 45⟩, ⟨44, 23, 44, 45⟩, ⟨44, 50, 44, 51⟩, ⟨44, 22, 44, 51⟩, ⟨44, 15, 44, 52⟩, ⟨44, 4, 44, 52⟩, ⟨46, 14, 46, 15⟩, ⟨46, 17, 46, 18⟩, ⟨46, 20, 46, 21⟩, ⟨47, 11, 47, 12⟩, ⟨47, 15, 47, 16⟩, ⟨47, 11, 47, 16⟩, ⟨47, 20, 47, 21⟩, ⟨47, 11, 47, 21⟩, ⟨48, 12, 48, 20⟩, ⟨48, 21, 48, 22⟩, ⟨48, 12, 48, 23⟩, ⟨48, 26, 48, 27⟩, ⟨48, 12, 48, 27⟩, ⟨49, 12, 49, 18⟩, ⟨47, 8, 49, 18⟩, ⟨50, 8, 50, 11⟩, ⟨50, 14, 50, 15⟩, ⟨50, 18, 50, 19⟩, ⟨50, 14, 50, 19⟩, ⟨50, 23, 50, 24⟩, ⟨50, 14, 50, 24⟩, ⟨50, 8, 50, 24⟩, ⟨51, 8, 51, 13⟩, ⟨51, 17, 51, 20⟩, ⟨51, 23, 51, 24⟩, ⟨51, 17, 51, 24⟩, ⟨51, 28, 51, 29⟩, ⟨51, 16, 51, 29⟩, ⟨51, 8, 51, 29⟩, ⟨52, 8, 52, 13⟩, ⟨52, 16, 52, 17⟩, ⟨52, 21, 52, 26⟩, ⟨52, 16, 52, 26⟩, ⟨52, 8, 52, 26⟩, ⟨53, 8, 53, 13⟩, ⟨53, 16, 53, 17⟩, ⟨53, 20, 53, 25⟩, ⟨53, 29, 53, 34⟩, ⟨53, 20, 53, 34⟩, ⟨53, 16, 53, 34⟩, ⟨53, 8, 53, 34⟩, ⟨54, 8, 54, 13⟩, ⟨54, 14, 54, 19⟩, ⟨54, 21, 54, 22⟩, ⟨54, 24, 54, 27⟩, ⟨54, 8, 54, 28⟩, ⟨54, 8, 54, 28⟩, ⟨55, 8, 55, 13⟩, ⟨55, 14, 55, 19⟩, ⟨55, 21, 55, 24⟩, ⟨55, 26, 55, 27⟩, ⟨55, 8, 55, 28⟩, ⟨55, 8, 55, 28⟩, ⟨46, 4, 55, 28⟩, ⟨56, 7, 56, 8⟩, ⟨57, 8, 57, 13⟩, ⟨57, 14, 57, 15⟩, ⟨57, 17, 57, 18⟩, ⟨57, 20, 57, 23⟩, ⟨57, 24, 57, 32⟩, ⟨57, 20, 57, 33⟩, ⟨57, 8, 57, 34⟩, ⟨57, 8, 57, 34⟩, ⟨56, 4, 57, 34⟩, ⟨58, 11, 58, 19⟩, ⟨58, 4, 58, 19⟩, ⟨43, 0, 58, 19⟩]
noncomputable def P2 : Program := PySem.Challenge.pw_tc0029_02
noncomputable def fd0 : zfm := ⟨Str.empty, default, [], default⟩
noncomputable def zam : List Str := ["pretty_flags", "_div2n1n", "_div3n2n", "_int2digits", "_digits2int", "_divmod_pos", "int_divmod", "_ellipsis_match", "_strip_quoted_realnames", "_check_parenthesis", "_law_tokens", "_law_read", "_law_program", "_law_holds", "law"]
def zeN : List (Str × Nat) := zam.zipIdx
noncomputable def flagsD : PyData := .dict [(.int 1, .str "OPTIMIZED"), (.int 2, .str "NEWLOCALS"), (.int 4, .str "VARARGS"), (.int 8, .str "VARKEYWORDS"), (.int 16, .str "NESTED"), (.int 32, .str "GENERATOR"), (.int 64, .str "NOFREE"), (.int 128, .str "COROUTINE"), (.int 256, .str "ITERABLE_COROUTINE"), (.int 512, .str "ASYNC_GENERATOR")]
def zi1 : List (Str × PyData) := [("_DIV_LIMIT", .int 4000), ("ELLIPSIS_MARKER", .str "..."), ("COMPILER_FLAG_NAMES", flagsD)]
noncomputable def zfn : Str := "_iter_escaped_chars"
def d2 (n : Str) : zfm := (zov P2 n).getD fd0
theorem ztR : (d2 zfn).body = zdp (fun i => zu4.getD i default) := by rfl
theorem ztS : (d2 "_digits2int").body = zbf (fun i => zsa.getD i default) := by rfl
theorem ztT : (d2 "_int2digits").body = zbr (fun i => zsb.getD i default) := by rfl
theorem ztU : (d2 zfn).sc = zbd := by rfl
theorem ztV : (d2 "_digits2int").sc = za1 := by rfl
theorem ztW : (d2 "_int2digits").sc = zbg := by rfl
theorem zi2 : (zam.all fun n => zck (d2 n)) = true := by decide +kernel
noncomputable def zoy (n : Str) : Bool := !(n == "_int2digits" || n == "_digits2int")
end Two2
namespace Two2
theorem zmC {l : List Value} (h : l.length = 1) : ∃ a, l = [a] := List.length_eq_one_iff.mp h
theorem zoz {l : List Value} {n : Nat} (h : l.length = n + 1) : ∃ a r, l = a :: r /\ r.length = n := by
 induction l using List.casesOn with
 | nil => cases h
 | cons a r => exact I22 a r rfl (Nat.succ.inj h)
theorem zhB {l : List Value} (h : l.length = 2) : ∃ a b, l = [a, b] :=
 E22 (zoz h) fun a r e h =>   E11 (zmC h) fun b e2 =>   (I21 a b (by rw [e, e2]))
theorem ztX {l : List Value} (h : l.length = 3) : ∃ a b c, l = [a, b, c] :=
 E22 (zoz h) fun a r e h =>   E21 (zhB h) fun b c e2 =>   (I31 a b c (by rw [e, e2]))
theorem zu5 {l : List Value} (h : l.length = 6) : ∃ a b c d e f, l = [a, b, c, d, e, f] :=
 E22 (zoz h) fun a r e1 h =>   E22 (zoz h) fun b r2 e2 h =>   E22 (zoz h) fun c r3 e3 h =>   E31 (ztX h) fun d e f e4 =>   ⟨a, b, c, d, e, f, by rw [e1, e2, e3, e4]⟩
theorem zeO : zai (d2 "pretty_flags") := fun pm code doc vals hv => by
 obtain ⟨a0, e9⟩ := zmC hv; refine rwE e9 ?_
 rfl
theorem zi3 : zai (d2 "_div2n1n") := fun pm code doc vals hv => by
 obtain ⟨a0, a1, a2, e9⟩ := ztX hv; refine rwE e9 ?_
 rfl
theorem zi4 : zai (d2 "_div3n2n") := fun pm code doc vals hv => by
 obtain ⟨a0, a1, a2, a3, a4, a5, e9⟩ := zu5 hv; refine rwE e9 ?_
 rfl
theorem zc5 : zai (d2 "_int2digits") := fun pm code doc vals hv => by
 obtain ⟨a0, a1, e9⟩ := zhB hv; refine rwE e9 ?_
 rfl
theorem zc6 : zai (d2 "_digits2int") := fun pm code doc vals hv => by
 obtain ⟨a0, a1, e9⟩ := zhB hv; refine rwE e9 ?_
 rfl
theorem zfY : zai (d2 "_divmod_pos") := fun pm code doc vals hv => by
 obtain ⟨a0, a1, e9⟩ := zhB hv; refine rwE e9 ?_
 rfl
theorem zfZ : zai (d2 "int_divmod") := fun pm code doc vals hv => by
 obtain ⟨a0, a1, e9⟩ := zhB hv; refine rwE e9 ?_
 rfl
theorem zdT : zai (d2 "_ellipsis_match") := fun pm code doc vals hv => by
 obtain ⟨a0, a1, e9⟩ := zhB hv; refine rwE e9 ?_
 rfl
theorem zbI : zai (d2 "_strip_quoted_realnames") := fun pm code doc vals hv => by
 obtain ⟨a0, e9⟩ := zmC hv; refine rwE e9 ?_
 rfl
theorem zcW : zai (d2 "_check_parenthesis") := fun pm code doc vals hv => by
 obtain ⟨a0, e9⟩ := zmC hv; refine rwE e9 ?_
 rfl
theorem zf0 : zai (d2 "_law_tokens") := fun pm code doc vals hv => by
 obtain ⟨a0, a1, e9⟩ := zhB hv; refine rwE e9 ?_
 rfl
theorem zhC : zai (d2 "_law_read") := fun pm code doc vals hv => by
 obtain ⟨a0, a1, e9⟩ := zhB hv; refine rwE e9 ?_
 rfl
theorem zfo : zai (d2 "_law_program") := fun pm code doc vals hv => by
 obtain ⟨a0, a1, e9⟩ := zhB hv; refine rwE e9 ?_
 rfl
theorem zg2 : zai (d2 "_law_holds") := fun pm code doc vals hv => by
 obtain ⟨a0, a1, e9⟩ := zhB hv; refine rwE e9 ?_
 rfl
theorem zj8 : zai (d2 "law") := fun pm code doc vals hv => by
 obtain ⟨a0, e9⟩ := zmC hv; refine rwE e9 ?_
 rfl
theorem zcH : zai (d2 "_iter_escaped_chars") := fun pm code doc vals hv => by
 obtain ⟨a0, e9⟩ := zmC hv; refine rwE e9 ?_
 rfl
def zf1 : List Stmt := (d2 "law").body
def zdr : TC := zeb zeN zi1 zfn (d2 "law").sc zf1
def pbA : List PS := (trB 9 zdr (zf1.take 14)).getD []
def pbC : List PS := (trB 9 zdr (zf1.drop 16)).getD []
def pt1 : PE := match (zf1.drop 15) with
 | .If (.BoolOp .Or [t, _] _) _ _ _ :: _ => (tr 60 zdr t).getD (.v 0)
 | _ => .v 0
theorem zmD : ∃ e1 e2 e3 e4 e5 t1 x1 x2 x3 x4 y2 y3 y4 y5 y6 body, zf1 = zf1.take 14 ++ (.Assign [.Name "number" x1] (.Call (.Name "_digits2int" x2) [e1, e2] [] x3) x4) ::
   (.If (.BoolOp .Or [t1, .Compare (.Call (.Name "_int2digits" y2) [e3, e4] [] y3) [.NotEq] [e5] y4] y5) body [] y6) :: zf1.drop 16 /\
  tr 60 zdr e1 = some (.v 17) /\ tr 60 zdr e2 = some (.v 14) /\ tr 60 zdr e3 = some (.v 2) /\ tr 60 zdr e4 = some (.v 14) /\ tr 60 zdr e5 = some (.v 17) /\ tr 60 zdr t1 = some pt1 /\ zcc e5 = false :=
 ⟨_, _, _, _, _, _, _, _, _, _, _, _, _, _, _, _, rfl, rfl, rfl, rfl, rfl, rfl, rfl, rfl⟩
theorem trA : trB 9 zdr (zf1.take 14) = some pbA := by
 have : (trB 9 zdr (zf1.take 14)).isSome = true := by decide +kernel
 obtain ⟨x, hx⟩ := Option.isSome_iff_exists.mp this
 rfl
theorem trC : trB 9 zdr (zf1.drop 16) = some pbC := by
 have : (trB 9 zdr (zf1.drop 16)).isSome = true := by decide +kernel
 obtain ⟨x, hx⟩ := Option.isSome_iff_exists.mp this
 rfl
theorem gD : zh zdr "_digits2int" = true := by decide +kernel
theorem gI : zh zdr "_int2digits" = true := by decide +kernel
theorem iN : zN zdr "number" = some 2 := by decide +kernel
end Two2
theorem zd4 : ∀ {l : List Str} {j k : Nat} {f : Str}, (l.zipIdx j).lookup f = some k -> j <= k /\ l[k - j]? = some f
 | [], j, k, f, h => by exact za h
 | x :: l, j, k, f, h => by
  rw [List.zipIdx_cons, List.lookup_cons] at h
  split at h
  ·rename_i e
   refine eqE h ?_
   have : f = x := by simpa using e
   refine rwE this ?_
   exact ⟨Nat.le_refl _, by simp⟩
  ·obtain ⟨h1, h2⟩ := zd4 h
   refine ⟨by lia, ?_⟩
   rw [show k - j = (k - (j + 1)) + 1 by lia, List.getElem?_cons_succ]; exact h2
theorem zk0 {h B : Heap} {a : Addr} {kvs : List (PyData × PyData)} (k : BK h B) (x : zbp h a kvs) : zbp B a kvs := by
 obtain ⟨hs, f, hm, hf⟩ := x
 refine ⟨hs, f, fun p w => ?_, hf⟩
 obtain ⟨o, es, ep, ho, r⟩ := hm p w
 refine I32 o es ep (k _ _ ho ?_) r
 rintro rfl
 have := r.2.1
 cases this
namespace Two2
theorem zoA : (zam.all fun n => ((zov P2 n).map (·.name)) == some n) = true := by decide +kernel
theorem d2_mem {f : Str} (h : f ∈ zam \/ f = zfn) : d2 f ∈ zj5 P2 /\ (d2 f).name = f := by
 have hh : (zov P2 f).map (·.name) = some f := by
  rcases h with h | rfl
  ·have := List.all_eq_true.mp zoA _ h
   simpa using this
  ·decide +kernel
 obtain ⟨d, hd, hn⟩ := Option.map_eq_some_iff.mp hh
 have e : d2 f = d := by unfold d2; rw [hd]; rfl
 rw [e]
 exact ⟨List.mem_of_find?_eq_some hd, hn⟩
theorem zoB {f : Str} (h : f ∈ zam) : zai (d2 f) := by
 simp only [zam, List.mem_cons, List.not_mem_nil, or_false] at h
 rcases h with rfl | rfl | rfl | rfl | rfl | rfl | rfl | rfl | rfl | rfl | rfl | rfl | rfl | rfl | rfl
 ·exact zeO
 ·exact zi3
 ·exact zi4
 ·exact zc5
 ·exact zc6
 ·exact zfY
 ·exact zfZ
 ·exact zdT
 ·exact zbI
 ·exact zcW
 ·exact zf0
 ·exact zhC
 ·exact zfo
 ·exact zg2
 ·exact zj8
def zbJ (f : Str) : Option Fn := (zow zeN zi1 zfn (d2 f)).map (.code (d2 f).args.args.length 60)
def tA2 (k : Nat) : Option Fn := match zam[k]? with
 | some f => if zoy f then zbJ f else none
 | none => none
def tC2 (k : Nat) : Option Fn := match zam[k]? with
 | some f => if f == "_int2digits" then some (.prim zhy) else if f == "_digits2int" then some (.prim zhz) else zbJ f
 | none => none
theorem zp9 {f : Str} {np ns : Nat} {pb : List PS} (h : zbJ f = some (.code np ns pb)) : np = (d2 f).args.args.length /\ zow zeN zi1 zfn (d2 f) = some pb := by
 obtain ⟨x, hx, e⟩ := Option.map_eq_some_iff.mp h
 cases e
 exact ⟨rfl, hx⟩
def PureFact (zs : List Int) : Prop := ∃ (N : Nat) (d1 d2 d5 dN : PyData) (ρ1 ρ3 : Rho), N <= 490 /\
 (run tA2 N).blk (some (.d (.list (zs.map .int))) :: List.replicate 60 none) pbA = some (ρ1, .next) /\
 (run tA2 N).ex ρ1 (.v 17) = some d1 /\ (run tA2 N).ex ρ1 (.v 14) = some d2 /\ zhz [d1, d2] = some dN /\
 (run tA2 N).ex (ρ1.set 2 (some (.d dN))) pt1 = some (.bool false) /\ (run tA2 N).ex (ρ1.set 2 (some (.d dN))) (.v 2) = some dN /\
 (run tA2 N).ex (ρ1.set 2 (some (.d dN))) (.v 14) = some d2 /\ zhy [dN, d2] = some d5 /\ (run tA2 N).ex (ρ1.set 2 (some (.d dN))) (.v 17) = some d1 /\ zfQ .NotEq d5 d1 = some false /\
 (run tC2 N).blk (ρ1.set 2 (some (.d dN))) pbC = some (ρ3, .ret (.bool true))
theorem zlQ : (zfn == ("__debug__" : Str)) = false := by decide +kernel
theorem zoC : zeN.lookup ("_law_alternant" : Str) = none := by decide +kernel
theorem zu6 : zeN.lookup ("_digits2int" : Str) = some 4 := by decide +kernel
theorem zu7 : zeN.lookup ("_int2digits" : Str) = some 3 := by decide +kernel
set_option tactic.hygienic true in
theorem join2 {prog : Program} {w : World} {A : Around} {s : Shared} {mg mb : Str -> Option Value} {zs : List Int} {al sl : Addr} {vs : Array Value} {n : Nat}
  (hFn : ∀ d ∈ zj5 P2, zj6 mg s.heap d) (hg : s.heap.Ns mainGlobals mg) (hb : s.heap.Ns builtinsNs mb) (hlim : s.heap.NoLimit) (hsys : ∃ o, s.heap.get? sysModules = some o /\ o ≠ zct)
  (hbi : ∀ f v, zdZ.lookup f = some v -> mg f = none /\ mb f = some v)
  (hm : ∃ bm ob, mg "__builtins__" = some (.ref bm) /\ bm ≠ builtinsNs /\ s.heap.get? bm = some ob /\ ob.cls = .type "module" /\ ob.dict = some builtinsNs /\ ob.data = .plain)
  (h1 : ∃ t, mg "_DIV_LIMIT" = some (.int 4000 t)) (h2 : ∃ t, mg "ELLIPSIS_MARKER" = some (.str "..." t)) (h3 : ∃ a kvs, flagsD = .dict kvs /\ mg "COMPILER_FLAG_NAMES" = some (.ref a) /\ zbp s.heap a kvs)
  (hal : mg "law" = some (.ref al)) {cD PD cI PI : Addr} (FD : zie mg s.heap (d2 "_digits2int") cD PD) (FI : zie mg s.heap (d2 "_int2digits") cI PI) (hne : PD ≠ PI) (hgens : s.gens = #[]) (hsl : s.heap.get? sl = some { cls := .type "list", data := .seq vs n }) (hrl : ∀ B, zv B vs.toList (zs.map .int))
  (hA : Rm A 599) (pf : PureFact zs) : wpAny (model prog w) A (call (.ref al) [.ref sl]) (ziZ s.os s (.bool true)) zc s := by
 have at_ : ∀ {f}, (f ∈ zam \/ f = zfn) -> zj6 mg s.heap (d2 f) := fun h => hFn _ (d2_mem h).1
 have tD : s.heap.TableAt cD PD #[] := E57 FD fun u y z b g j m r u1 v1 w1 t =>  t
 have tI : s.heap.TableAt cI PI #[] := E57 FI fun u y z b g j m r u1 v1 w1 t =>  t
 refine cps fun G0 hG_0 => ?_
 obtain ⟨B, hBs, zD, zI, hbk⟩ := zp6 tD.2 tI.2
 obtain ⟨ga, hga, hgf⟩ := zox (B := B) hbk (at_ (f := zfn) (.inr rfl)) ztR ztU rfl zcH
 have hcst : ∀ x d, zi1.lookup x = some d -> ∃ v, mg x = some v /\ Rep B v d := by
  intro x d hx
  have := z6 hx
  simp only [zi1, List.mem_cons, Prod.mk.injEq, List.not_mem_nil, or_false] at this
  rcases this with ⟨rfl, rfl⟩ | ⟨rfl, rfl⟩ | ⟨rfl, rfl⟩
  ·obtain ⟨t, ht⟩ := h1; exact I12 _ ht (zo.mpr ⟨t, rfl⟩)
  ·obtain ⟨t, ht⟩ := h2; exact I12 _ ht (zU.mpr ⟨t, rfl⟩)
  ·obtain ⟨a, kvs, e, ht, hd⟩ := h3
   rw [e]
   exact I12 _ ht (zcv.mpr (I12 a rfl (zk0 hbk hd)))
 have hnames : ∀ f k, zeN.lookup f = some k -> zam[k]? = some f := fun f k h => by
  have := (zd4 h).2
  simpa using this
 have hfn : ∀ tbl : Nat -> Option Fn, (∀ k np ns pb, tbl k = some (.code np ns pb) -> ∃ f, zam[k]? = some f /\ zbJ f = some (.code np ns pb)) -> ∀ f k, zeN.lookup f = some k ->
   ∃ d, d.name = f /\ zj6 mg s.heap d /\ ∀ np ns pb, tbl k = some (.code np ns pb) -> zck d = true /\ zai d /\ np = d.args.args.length /\ zow zeN zi1 zfn d = some pb := by
  intro tbl ht f k hf
  have hm := (fun f k h => List.mem_of_getElem? (hnames f k h)) f k hf
  refine I13 (d2 f) ((d2_mem (.inl hm)).2) (at_ (.inl hm)) (fun np ns pb h => ?_)
  obtain ⟨f', hf', hc⟩ := ht k np ns pb h
  cases (hnames f k hf).symm.trans hf'
  obtain ⟨e1, e2⟩ := zp9 hc
  exact I04 (List.all_eq_true.mp zi2 _ hm) (zoB hm) e1 e2
 have LA : zhA B ⟨zeN, zi1, zfn, zg1 mg zam, ga⟩ tA2 := zlP (names := zam) rfl hbk hg hb hlim hsys hbi hcst hnames (hfn tA2 fun k np ns pb h => by
  unfold tA2 at h
  split at h
  ·rename_i f hf
   refine ifE h fun _ h => ?_
   exact ⟨f, hf, h⟩
  ·exact za h) hga hgf zlQ zoC
 have LC : zhA B ⟨zeN, zi1, zfn, zg1 mg zam, ga⟩ tC2 := zlP (names := zam) rfl hbk hg hb hlim hsys hbi hcst hnames (hfn tC2 fun k np ns pb h => by
  unfold tC2 at h
  split at h
  ·rename_i f hf
   split at h
   ·cases h
   ·split at h
    ·exact nomatch h
    ·exact ⟨f, hf, h⟩
  ·exact za h) hga hgf zlQ zoC
 obtain ⟨aD, fdD, m1, XD, jD, _⟩ := zif (B := B) (q := "_digits2int.<locals>.inner") hbk FD (List.all_eq_true.mp zi2 _ (by decide +kernel)) zc6 ztS ztV rfl hg hm (by decide +kernel)
 obtain ⟨aI, fdI, m2, XI, jI, _⟩ := zif (B := B) (q := "_int2digits.<locals>.inner") hbk FI (List.all_eq_true.mp zi2 _ (by decide +kernel)) zc5 ztT ztW rfl hg hm (by decide +kernel)
 rw [(d2_mem (f := "_digits2int") (.inl (by decide +kernel))).2] at m1
 rw [(d2_mem (f := "_int2digits") (.inl (by decide +kernel))).2] at m2
 have faD : zg1 mg zam 4 = aD := by
  unfold zg1
  rw [show zam[4]? = some (Str.ofString "_digits2int") from by decide +kernel]
  simp only [m1]
 have faI : zg1 mg zam 3 = aI := by
  unfold zg1
  rw [show zam[3]? = some (Str.ofString "_int2digits") from by decide +kernel]
  simp only [m2]
 have notS : ∀ {P c l}, s.heap.TableAt c P l -> P ≠ cStatics := by
  rintro P c l ⟨_, t⟩ rfl
  obtain ⟨mc, ⟨o, es, ep, ho, hd, _⟩, _⟩ := hlim
  cases t.symm.trans ho; cases hd
 have T : Two B ⟨zeN, zi1, zfn, zg1 mg zam, ga⟩ s 4 3 fdD fdI (fun i => zsa.getD i default) (fun i => zsb.getD i default) cD PD cI PI "_digits2int.<locals>.inner" "_int2digits.<locals>.inner" :=
  {fD := zu6, fI := zu7, XD := (show zaX B (zg1 mg zam 4) fdD za1 (zbf fun i => zsa.getD i default) cD PD "_digits2int.<locals>.inner" from faD ▸ XD), XI := (show zaX B (zg1 mg zam 3) fdI zbg (zbr fun i => zsb.getD i default) cI PI "_int2digits.<locals>.inner" from faI ▸ XI), pos := by decide +kernel, CD := ⟨jD, tD⟩, CI := ⟨jI, tI⟩, zD := zD, zI := zI, ne := hne, sD := notS tD, sI := notS tI }
 obtain ⟨cL, PL, FLw⟩ := at_ (f := "law") (.inl (by decide +kernel))
 obtain ⟨a, pm, code, doc, ha, FB, _⟩ := zkZ (B := B) hbk FLw (List.all_eq_true.mp zi2 _ (by decide +kernel)) zj8
 refine hG_0 ?_
 have ha := hal ▸ ((d2_mem (f := "law") (.inl (by decide +kernel))).2) ▸ ha
 cases ha
 refine cps fun G0 hG_0 => ?_
 obtain ⟨e1, e2, e3, e4, e5, t1, x1, x2, x3, x4, y2, y3, y4, y5, y6, body, hsp, r1, r2, r3, r4, r5, rt, hset⟩ := zmD
 obtain ⟨N, v1, v2, v5, vN, ρ1, ρ3, hN, eA, f1, f2, fN, ft, f3, f4, fI, f6, fc, eC⟩ := pf
 refine hG_0 ?_
 have rS : Rep B (.ref sl) (.list (zs.map .int)) := zah.mpr (I33 sl vs n rfl (hbk _ _ hsl (by intro h; cases h)) (hrl B))
 have FL : FnB B al 1 (Calls.docDef (d2 "law").name (d2 "law").args (d2 "law").body (d2 "law").sc pm code doc) zf1 := FB
 rw [hsp] at FL
 exact zmB (Ω := ⟨prog, w, B, s.os⟩) (c := zdr) LA LC (fun k p h => by
   unfold tA2 at h
   split at h
   ·refine ifE h fun _ h => ?_
    obtain ⟨_, _, e⟩ := Option.map_eq_some_iff.mp h; cases e
   ·exact za h) T (fun f k p hf h => by
   have hk := hnames f k hf
   unfold tC2 at h
   have h := hk ▸ h
   dsimp only at h
   split at h
   ·rename_i e
    cases h
    have : f = Str.ofString "_int2digits" := by simpa using e
    subst this
    have : zeN.lookup (Str.ofString "_int2digits") = some 3 := by decide +kernel
    refine eqE (this.symm.trans hf) ?_
    exact .inr ⟨rfl, rfl⟩
   ·split at h
    ·rename_i e
     cases h
     have : f = Str.ofString "_digits2int" := by simpa using e
     subst this
     have : zeN.lookup (Str.ofString "_digits2int") = some 4 := by decide +kernel
     refine eqE (this.symm.trans hf) ?_
     exact .inl ⟨rfl, rfl⟩
    ·obtain ⟨_, _, e⟩ := Option.map_eq_some_iff.mp h; cases e) (hA.le (by lia)) ⟨hBs, .refl _, rfl, AllBare.of_eq hgens⟩ FL hsp (iN := 2) (ns := 60) (kk := 9) rfl trA trC r1 r2 r3 r4 r5 rt gD gI iN hset eA f1 f2 fN ft f3 f4 fI f6 fc eC rS
end Two2
theorem zoD {p q : Program} {loose : List Str} {mean : ExcName -> Option Value} {mg mb : Str -> Option Value} {h : Heap} (T : Top p loose mean mg mb h) (e : zj5 q = (recsOf p).map fun r => ⟨r.name, r.scope, r.body, r.params⟩) : ∀ d ∈ zj5 q, zj6 mg h d := by
 intro d hd
 rw [e] at hd
 obtain ⟨r, hr, e9⟩ := List.mem_map.mp hd; refine rwE e9.symm ?_
 exact zp7 T (I15 r hr rfl rfl rfl rfl)
theorem zeP {B : Heap} : ∀ {vs : List Value} {zs : List Int}, IntsAre vs zs -> zv B vs (zs.map .int)
 | _, _, .nil => zaM.mpr rfl
 | _, _, .cons _ _ r => zy.mpr (I23 _ _ rfl ((zo (F := B)).mpr ⟨_, rfl⟩) (zeP r))
theorem zsc {p : Program} {loose : List Str} {mean : ExcName -> Option Value} {mg mb : Str -> Option Value} {h : Heap} (T : Top p loose mean mg mb h)
  (e : (zdZ.all fun q => !(startupNames.contains q.1) && !(loose.contains q.1) && !(((recsOf p).map (·.name)).contains q.1) && !(((litsOf p).map (·.1)).contains q.1) && !(((clssOf p loose).map (·.name)).contains q.1) && !(q.1 == "__name__")) = true)
  (e2 : (zdZ.all fun q => bootBuiltins q.1 == some q.2) = true) : ∀ f v, zdZ.lookup f = some v -> mg f = none /\ mb f = some v := by
 intro f v hf
 have hm := z6 hf
 have := List.all_eq_true.mp e _ hm
 simp only [Bool.and_eq_true, Bool.not_eq_true', List.contains_eq_mem, decide_eq_false_iff_not] at this
 refine cps fun G0 hG_0 => ?_
 obtain ⟨⟨⟨⟨⟨h1, h2⟩, h3⟩, h4⟩, h5⟩, h6⟩ := this
 refine hG_0 ?_
 refine ⟨T.free f h1 h2 h3 h4 h5, ?_⟩
 rw [T.builtins f (by simpa using h6)]
 have := List.all_eq_true.mp e2 _ hm
 simpa using this
def zg3 : List DictEntry -> List (PyData × PyData) -> Prop
 | [], [] => True
 | e :: es, (k, d) :: kvs => (∃ i t, e.key = .int i t /\ e.hash = hashInt i /\ k = .int i) /\ zek e.val d /\ zg3 es kvs
 | _, _ => False
theorem zj9 : ∀ {es : List DictEntry} {kvs : List (PyData × PyData)}, zg3 es kvs -> ∀ k : Int, match zbU kvs k with
  | some d => ∃ v, (es.find? fun e => Value.isInt k e.key).map (·.val) = some v /\ zek v d
  | none => (es.find? fun e => Value.isInt k e.key).map (·.val) = none
 | [], [], _, k => rfl
 | e :: es, (_, d) :: kvs, ⟨⟨i, t, h1, h2, rfl⟩, h3, h4⟩, k => by
  simp only [zbU]
  rw [List.find?_cons]
  by_cases hk : k = i
  ·subst hk
   rw [if_pos rfl]
   have : Value.isInt k e.key = true := by rw [h1]; simp [Value.isInt]
   rw [this]
   exact I12 e.val rfl h3
  ·rw [if_neg hk]
   have : Value.isInt k e.key = false := by rw [h1]; simp [Value.isInt, Ne.symm hk]
   rw [this]
   exact (zj9 h4 k)
theorem zk1 {h : Heap} {a : Addr} {es : Array DictEntry} {ep : Nat} {kvs : List (PyData × PyData)} (hs : (a == sysModules) = false) (e : h.get? a = some { cls := .type "dict", data := .dict es ep }) (x : zg3 es.toList kvs) : zbp h a kvs := by
 refine ⟨hs, fun k => findBy Value.isInt es k, fun p w => I35 _ es ep e (I03 rfl rfl rfl) rfl (fun en hen => ?_) (fun k => rfl), fun k => ?_⟩
 ·have key : ∀ {l : List DictEntry} {kvs : List (PyData × PyData)}, zg3 l kvs -> en ∈ l -> ∃ k, Value.isInt k en.key = true /\ en.hash = hashInt k := by
   intro l
   induction l with
   | nil => intro _ _ h; cases h
   | cons y l ih =>
    intro kvs hx hm
    induction kvs using List.casesOn with
    | nil => exact hx.elim
    | cons p kvs =>
     obtain ⟨⟨i, t, h1, h2, _⟩, _, h4⟩ := hx
     rcases List.mem_cons.mp hm with rfl | hm
     ·exact I12 i (by rw [h1]; simp [Value.isInt]) h2
     ·exact ih h4 hm
  exact key x (by simpa using hen)
 ·have := zj9 x k
  show match zbU kvs k with | some d => ∃ v, (es.find? fun e => Value.isInt k e.key).map (·.val) = some v /\ zek v d | none => (es.find? fun e => Value.isInt k e.key).map (·.val) = none
  rw [(by simp : (es.find? fun e => Value.isInt k e.key) = (es.toList.find? fun e => Value.isInt k e.key))]; exact this
theorem zqa {c : ClaimW} {cl : Str -> Option Addr} {mean : ExcName -> Option Value} {args : List WData} {s_1 s' : Shared} {v : Value} (p : ziZ s_1.os s_1 (.bool true) v s') (hr : ∀ cls, c.raises args cls = false) (hp : c.post args (.bool true) args = true) : GoodWG c cl mean args s_1 (.ok (.ret v)) s' := by
 obtain ⟨⟨Z', _, r⟩, hk, ho, hg⟩ := p
 refine rwE r ?_
 exact I04 (.inl (I35 _ _ [] rfl hr (ReadsW.bool true) hp (fun _ => ⟨List.nodup_nil, fun _ hm => (nomatch hm)⟩))) hk ho hg
section
variable {tbl : Nat -> Option Fn} {n : Nat} {ρ : Rho}
theorem zu8 {i : Nat} : (run tbl (n + 1)).ex ρ (.v i) = match ρ[i]? with | some (some (.d x)) => some x | _ => none := rfl
theorem zsd {op a b} : (run tbl (n + 1)).ex ρ (.bin op a b) = ((run tbl n).ex ρ a).bind fun x => ((run tbl n).ex ρ b).bind fun y => zav op x y := rfl
theorem zse {a i} : (run tbl (n + 1)).ex ρ (.idx a i) = (rcv (run tbl n) ρ a).bind fun x => ((run tbl n).ex ρ i).bind fun y => zbu x y := rfl
theorem bS {α β : Type} {o : Option α} {f : α -> Option β} {x : α} {d : Option β} (ha : o = some x) (h : f x = d) : o.bind f = d := (congrArg (·.bind f) ha).trans h
theorem mS {α β : Type} {o : Option α} {f : α -> β} {x : α} (ha : o = some x) : o.map f = some (f x) := congrArg (·.map f) ha
theorem zgd {f np ns : Nat} {body : List PS} {args : List PyData} (h : tbl f = some (.code np ns body)) (hl : args.length = np) : (run tbl (n + 1)).call f args =
  match (run tbl n).blk (args.map (fun d => some (.d d)) ++ List.replicate ns none) body with | some (_, .ret d) => some d | some (_, .next) => some .none | _ => none := by
 show zdc tbl (run tbl n) f args = _
 unfold zdc
 refine rwE h ?_
 exact if_pos hl
theorem zds {f np ns : Nat} {body : List PS} {args : List PyData} {ρ' : Rho} {d : PyData} (h : tbl f = some (.code np ns body)) (hl : args.length = np) (hb : zA (run tbl n) body (args.map (fun d => some (.d d)) ++ List.replicate ns none) = some (ρ', .ret d)) : (run tbl (n + 2)).call f args = some d :=
 (zgd h hl).trans (congrArg (fun o : Option (Rho × Fl) => match o with | some (_, .ret d) => some d | some (_, .next) => some .none | _ => none) hb)
section
variable {op : Operator} {co : CmpOp} {a b e : PE} {es : List PE} {x y d : PyData} {xs : List PyData} {c : Bool} {S : Sv}
theorem zaS (h : S.ex ρ e = some d) (t : exs S ρ es = some xs) : exs S ρ (e :: es) = some (d :: xs) := bS h (mS t)
theorem zan (h : S.ex ρ e = some d) : exs S ρ [e] = some [d] := zaS h rfl
theorem zJ (ha : (run tbl n).ex ρ a = some x) (hb : (run tbl n).ex ρ b = some y) (h : zav op x y = some d) : (run tbl (n + 1)).ex ρ (.bin op a b) = some d := bS ha (bS hb h)
theorem zaj (ha : rcv (run tbl n) ρ a = some x) (hb : (run tbl n).ex ρ b = some y) (h : zfQ co x y = some c) : (run tbl (n + 1)).ex ρ (.cmp co a b) = some (.bool c) := bS ha (bS hb (mS h))
theorem zS (ha : rcv (run tbl n) ρ a = some x) (hb : (run tbl n).ex ρ b = some y) (h : zbu x y = some d) : (run tbl (n + 1)).ex ρ (.idx a b) = some d := bS ha (bS hb h)
theorem zeh {lo hi st : Option PE} {l h k : Option Int} (ha : (run tbl n).ex ρ a = some x) (hl : zc7 (run tbl n) ρ lo = some l) (hh : zc7 (run tbl n) ρ hi = some h) (hk : zc7 (run tbl n) ρ st = some k) (e : zaz x l h k = some d) : (run tbl (n + 1)).ex ρ (.sl a lo hi st) = some d := bS ha (bS hl (bS hh (bS hk e)))
theorem zad {f : Nat} (ha : exs (run tbl n) ρ es = some xs) (h : (run tbl n).call f xs = some d) : (run tbl (n + 1)).ex ρ (.call f es) = some d := bS ha h
theorem zhD {m : ME} (ha : (run tbl n).ex ρ a = some x) (hs : exs (run tbl n) ρ es = some xs) (h : meD m x xs = some d) : (run tbl (n + 1)).ex ρ (.me m a es) = some d := bS ha (bS hs h)
theorem zfM (ha : rcv (run tbl n) ρ a = some x) (h : zpu x = some d) : (run tbl (n + 1)).ex ρ (.bi .len [a]) = some d := bS ha h
theorem zg4 (h : exs (run tbl n) ρ es = some xs) : (run tbl (n + 1)).ex ρ (.lst es) = some (.list xs) := mS h
theorem zfN (h : exs (run tbl n) ρ es = some xs) : (run tbl (n + 1)).ex ρ (.tup es) = some (.tuple xs) := mS h
theorem zq3 (h : zcw (run tbl n) ρ a = some c) : (run tbl (n + 1)).ex ρ (.not a) = some (.bool (!c)) := mS h
theorem zq4 {i : Int} (ha : (run tbl n).ex ρ a = some (.int i)) : (run tbl (n + 1)).ex ρ (.neg a) = some (.int (-i)) := bS ha rfl
theorem zq5 {i : Int} (ha : (run tbl n).ex ρ a = some (.int i)) : (run tbl (n + 1)).ex ρ (.inv a) = some (.int (Builtin.bitNot i)) := bS ha rfl
theorem x_T (h : zcw (run tbl n) ρ e = some true) (ha : (run tbl n).ex ρ a = some d) : (run tbl (n + 1)).ex ρ (.ite e a b) = some d := bS h ha
theorem x_F (h : zcw (run tbl n) ρ e = some false) (ha : (run tbl n).ex ρ b = some d) : (run tbl (n + 1)).ex ρ (.ite e a b) = some d := bS h ha
theorem zbD {gs : List Gn} (h : zbX (run tbl n) e gs ρ = some xs) (hl : xs.length <= big) : (run tbl (n + 1)).ex ρ (.comp e gs) = some (.list xs) := bS (mS h) (if_pos hl)
theorem zq6 (h : zfR (run tbl n) ρ es = some d) : (run tbl (n + 1)).ex ρ (.and es) = some d := h
theorem zmE (h : orD (run tbl n) ρ es = some d) : (run tbl (n + 1)).ex ρ (.or es) = some d := h
theorem t_b (h : S.ex ρ e = some (.bool c)) : zcw S ρ e = some c := bS h rfl
theorem t_d (h : S.ex ρ e = some d) (k : zap d = some c) : zcw S ρ e = some c := bS h k
theorem ztY {e' : PE} (k : S.ex ρ e = some d) (h : zap d = some false) : zfR S ρ (e :: e' :: es) = some d := bS k (bS h rfl)
theorem ztZ {e' : PE} {o : Option PyData} (k : S.ex ρ e = some d) (h : zap d = some true) (r : zfR S ρ (e' :: es) = o) : zfR S ρ (e :: e' :: es) = o := bS k (bS h r)
theorem zu9 {e' : PE} (k : S.ex ρ e = some d) (h : zap d = some true) : orD S ρ (e :: e' :: es) = some d := bS k (bS h rfl)
theorem zoE {e' : PE} {o : Option PyData} (k : S.ex ρ e = some d) (h : zap d = some false) (r : orD S ρ (e' :: es) = o) : orD S ρ (e :: e' :: es) = o := bS k (bS h r)
end
section
variable {S : Sv} {ρ ρ2 ρ3 ρ4 : Rho} {st st' st'' : PS} {r : List PS} {d : PyData} {e t : PE} {a b : List PS} {i : Nat} {o : Option (Rho × Fl)}
theorem zq7 (h : zf S ρ st = some (ρ2, .next)) : zA S (st :: r) ρ = zA S r ρ2 := bS h rfl
theorem zP (h : zf S ρ st = some (ρ2, .next)) (k : zA S r ρ2 = o) : zA S (st :: r) ρ = o := bS h k
theorem zaK (h : zf S ρ st = some (ρ2, .ret d)) : zA S (st :: r) ρ = some (ρ2, .ret d) := bS h rfl
theorem zi5 (h : zf S ρ st = some (ρ2, .next)) (h' : zf S ρ2 st' = some (ρ3, .ret d)) : zA S (st :: st' :: r) ρ = some (ρ3, .ret d) := zP h (zaK h')
theorem zoF (h : zf S ρ st = some (ρ2, .next)) (h' : zf S ρ2 st' = some (ρ3, .next)) (h'' : zf S ρ3 st'' = some (ρ4, .next)) : zA S [st, st', st''] ρ = some (ρ4, .next) := zP h (zP h' (zP h'' rfl))
theorem zqb (h : zcw S ρ t = some true) : zf S ρ (.iff t a b) = S.blk ρ a := bS h rfl
theorem zqc (h : zcw S ρ t = some false) : zf S ρ (.iff t a b) = S.blk ρ b := bS h rfl
theorem zhE (h : zcw (run tbl (n + 1)) ρ t = some true) (k : zA (run tbl n) a ρ = o) : zf (run tbl (n + 1)) ρ (.iff t a b) = o := bS h k
theorem zbz (h : zcw (run tbl (n + 1)) ρ t = some false) (k : zA (run tbl n) b ρ = o) : zf (run tbl (n + 1)) ρ (.iff t a b) = o := bS h k
theorem zu (h : S.ex ρ e = some d) : zf S ρ (.asg (.v i) e) = some (ρ.set i (some (.d d)), .next) := bS h rfl
theorem zsf {t : Tgt} (h : S.ex ρ e = some d) (k : zax t d ρ = some ρ2) : zf S ρ (.asg t e) = some (ρ2, .next) := bS h (mS k)
theorem zi6 {ts : List (Nat × Bool)} {es : List PE} {ds : List PyData} (h : exs S ρ es = some ds) (k : zis ts ds ρ = some ρ2) : zf S ρ (.asgs ts es) = some (ρ2, .next) := bS h (mS k)
theorem zlR {xs : List PyData} (h : S.ex ρ e = some (.list xs)) : zf S ρ (.asgM i e) = some (ρ.set i (some (.m xs)), .next) := bS h rfl
theorem zcu (h : S.ex ρ e = some d) : zf S ρ (.ret e) = some (ρ, .ret d) := mS h
theorem zk2 {op : Operator} {x y : Int} (ha : zjn ρ i = some x) (h : S.ex ρ e = some (.int y)) (ho : znf op = true) (hd : zav op (.int x) (.int y) = some d) : zf S ρ (.aug i op e) = some (ρ.set i (some (.d d)), .next) := bS ha (bS h ((if_pos ho).trans (mS hd)))
theorem zqd {x y : Int} (ha : zjn ρ i = some x) (h : S.ex ρ e = some (.int y)) : zf S ρ (.aug i .Add e) = some (ρ.set i (some (.d (.int (x + y)))), .next) := zk2 ha h rfl rfl
theorem zoG {xs : List PyData} (hm : zdX ρ i = some xs) (h : S.ex ρ e = some d) (hl : xs.length <= big) : zf S ρ (.app i e) = some (ρ.set i (some (.m (xs ++ [d]))), .next) := bS hm (bS h (if_pos hl))
theorem zsg (h : zcw S ρ t = some true) : zf S ρ (.assert t) = some (ρ, .next) := bS h rfl
theorem zdt {t : Tgt} {xs : List PyData} (h : itD S ρ e = some xs) (k : zbZ S t a b xs ρ = o) : zf S ρ (.for_ t e a b) = o := bS h k
theorem zk3 {xs : List PyData} (h : S.ex ρ (.v i) = some d) (hi : za9 d = some xs) (hl : xs.length <= big) : itD S ρ (.v i) = some xs := bS h (bS hi (if_pos hl))
theorem zqe {f : Nat} {es : List PE} {xs : List PyData} (h : S.ex ρ (.call f es) = some d) (hi : za9 d = some xs) (hl : xs.length <= big) : itD S ρ (.call f es) = some xs := bS h (bS hi (if_pos hl))
theorem zt0 {a : PE} {lo up st : Option PE} {xs : List PyData} (h : S.ex ρ (.sl a lo up st) = some d) (hi : za9 d = some xs) (hl : xs.length <= big) : itD S ρ (.sl a lo up st) = some xs := bS h (bS hi (if_pos hl))
theorem o_o {o : Option PyData} {l : Option Int} (h : S.ex ρ e = o) (k : zc7 ⟨fun u v => o, fun u v => none, fun u v => none⟩ ρ (some e) = some l) : zc7 S ρ (some e) = some l := by subst h; exact k
theorem o_e {k : Int} (h : S.ex ρ e = some (.int k)) : zc7 S ρ (some e) = some (some k) := bS h rfl
theorem zk4 {xs : List PyData} (h : S.ex ρ e = some d) (k : znd d = some xs) : itD S ρ (.gen e) = some xs := bS h k
theorem zsh {es : List PE} {ds xs : List PyData} (h : exs S ρ es = some ds) (k : zrn ds = some xs) : itD S ρ (.rng es) = some xs := bS h k
theorem zsi {a b : PE} {d d' : PyData} {p : List PyData × List PyData} (h : S.ex ρ a = some d) (h' : S.ex ρ b = some d') (hp : zir d d' = some p) (hl : p.1.length <= big /\ p.2.length <= big) : itD S ρ (.zip a b) = some (zel p.1 p.2) := bS h (bS h' (bS hp (if_pos hl)))
theorem zoH {xs : List PyData} (h : S.ex ρ e = some d) (hi : za9 d = some xs) (hl : xs.length <= big) : itD S ρ (.enm e) = some (zd7 xs 0) := bS h (bS hi (if_pos hl))
end
structure Le (S S' : Sv) : Prop where
 ex : ∀ ρ e d, S.ex ρ e = some d -> S'.ex ρ e = some d
 call : ∀ f a d, S.call f a = some d -> S'.call f a = some d
 blk : ∀ ρ b r, S.blk ρ b = some r -> S'.blk ρ b = some r
theorem zk {α β : Type} {x x' : Option α} {f f' : α -> Option β} {b : β} (h : ∀ a, x = some a -> x' = some a) (hf : ∀ a b, f a = some b -> f' a = some b) (e : x.bind f = some b) : x'.bind f' = some b := by
 obtain ⟨a, h1, h2⟩ := Option.bind_eq_some_iff.mp e
 rw [h a h1]; exact hf a b h2
theorem zdu {α β : Type} {x x' : Option α} {f : α -> β} {b : β} (h : ∀ a, x = some a -> x' = some a) (e : x.map f = some b) : x'.map f = some b := by
 obtain ⟨a, h1, h2⟩ := Option.map_eq_some_iff.mp e
 rw [h a h1, <- h2]; rfl
variable {S S' : Sv}
theorem zcX (L : Le S S') : ∀ {es : List PE} {ds : List PyData}, exs S ρ es = some ds -> exs S' ρ es = some ds
 | [], ds, h => h
 | e :: es, ds, h => zk (fun a h => L.ex _ _ _ h) (fun a b h => zdu (fun c hc => zcX L hc) h) h
theorem zk5 (L : Le S S') {e : PE} {d : PyData} (h : rcv S ρ e = some d) : rcv S' ρ e = some d := by
 cases e <;> first | exact h | exact L.ex _ _ _ h
theorem zg5 (L : Le S S') {e : PE} {b : Bool} (h : zcw S ρ e = some b) : zcw S' ρ e = some b := zk (fun a h => L.ex _ _ _ h) (fun u v h => h) h
theorem zoI (L : Le S S') : ∀ {es : List PE} {d : PyData}, zfR S ρ es = some d -> zfR S' ρ es = some d
 | [], d, h => h
 | [e], d, h => L.ex _ _ _ h
 | e :: e' :: es, d, h => zk (fun a h => L.ex _ _ _ h) (fun a b h => zk (fun c hc => hc) (fun c b h => by induction c <;> first | exact h | exact zoI L h) h) h
theorem zq8 (L : Le S S') : ∀ {es : List PE} {d : PyData}, orD S ρ es = some d -> orD S' ρ es = some d
 | [], d, h => h
 | [e], d, h => L.ex _ _ _ h
 | e :: e' :: es, d, h => zk (fun a h => L.ex _ _ _ h) (fun a b h => zk (fun c hc => hc) (fun c b h => by induction c <;> first | exact h | exact zq8 L h) h) h
theorem zi7 (L : Le S S') {o : Option PE} {k : Option Int} (h : zc7 S ρ o = some k) : zc7 S' ρ o = some k := by
 induction o with
 | none => exact h
 | some e => exact zk (fun a h => L.ex _ _ _ h) (fun u v h => h) h
theorem zoJ (L : Le S S') {e : PE} {xs : List PyData} (h : itD S ρ e = some xs) : itD S' ρ e = some xs := by
 cases e <;> first
  | exact zk (fun a h => zcX L h) (fun u v h => h) h
  | exact zk (fun a h => L.ex _ _ _ h) (fun u v h => h) h
  | exact zk (fun a h => L.ex _ _ _ h) (fun a b h => zk (fun a h => L.ex _ _ _ h) (fun u v h => h) h) h
theorem zlS (L : Le S S') : ∀ {es : List PE} {b : Bool}, zgh S ρ es = some b -> zgh S' ρ es = some b
 | [], b, h => h
 | e :: es, b, h => zk (fun a h => zg5 L h) (fun a b h => by induction a <;> first | exact h | exact zlS L h) h
theorem zlT {α β : Type} {f f' : α -> Option (List β)} (hf : ∀ a b, f a = some b -> f' a = some b) : ∀ {xs : List α} {ys : List β}, zgi f xs = some ys -> zgi f' xs = some ys
 | [], ys, h => h
 | x :: xs, ys, h => zk (hf x) (fun a b h => zdu (fun c hc => zlT hf hc) h) h
theorem zg6 {β : Type} (L : Le S S') {em em' : Rho -> Option β} (hem : ∀ ρ d, em ρ = some d -> em' ρ = some d) : ∀ {gs : List Gn} {ρ : Rho} {ys : List β}, zcx S em gs ρ = some ys -> zcx S' em' gs ρ = some ys
 | [], ρ, ys, h => zdu (hem ρ) h
 | .mk t it ifs :: gs, ρ, ys, h => zk (fun a h => zoJ L h) (fun xs ys h => zlT (fun x b h => zk (fun u h => h) (fun ρ' b h => zk (fun c hc => zlS L hc) (fun c b h => by
   induction c with
   | true => exact zg6 L hem h
   | false => exact h) h) h) h) h
theorem zlU (L : Le S S') {t : Tgt} {b o : List PS} : ∀ {xs : List PyData} {ρ : Rho} {r : Rho × Fl}, zbZ S t b o xs ρ = some r -> zbZ S' t b o xs ρ = some r
 | [], ρ, r, h => L.blk _ _ _ h
 | x :: xs, ρ, r, h => zk (fun u h => h) (fun ρ' r h => zk (fun c hc => L.blk _ _ _ hc) (fun c r h => by
   obtain ⟨ρ2, f⟩ := c
   induction f with
   | next => exact zlU L h
   | brk => exact h
   | ret d => exact h) h) h
theorem zt6 (L : Le S S') {e : PE} {d : PyData} (h : zcn S ρ e = some d) : zcn S' ρ e = some d := by
 induction e using PE.casesOn with
 | c d => exact h
 | v i => exact h
 | bin op a b => exact zk (fun a h => L.ex _ _ _ h) (fun a b h => zk (fun a h => L.ex _ _ _ h) (fun u w h => h) h) h
 | neg a => exact zk (fun a h => L.ex _ _ _ h) (fun u w h => h) h
 | inv a => exact zk (fun a h => L.ex _ _ _ h) (fun u w h => h) h
 | not a => exact zdu (fun a h => zg5 L h) h
 | cmp op a b => exact zk (fun a h => zk5 L h) (fun a b h => zk (fun a h => L.ex _ _ _ h) (fun u w h => h) h) h
 | and es => exact zoI L h
 | or es => exact zq8 L h
 | ite t a b => exact zk (fun a h => zg5 L h) (fun c d h => by induction c <;> exact L.ex _ _ _ h) h
 | lst es => exact zdu (fun a h => zcX L h) h
 | tup es => exact zdu (fun a h => zcX L h) h
 | idx a i => exact zk (fun a h => zk5 L h) (fun a b h => zk (fun a h => L.ex _ _ _ h) (fun u w h => h) h) h
 | sl a lo hi st => exact zk (fun a h => L.ex _ _ _ h) (fun a b h => zk (fun a h => zi7 L h) (fun a b h => zk (fun a h => zi7 L h) (fun a b h => zk (fun a h => zi7 L h) (fun u w h => h) h) h) h) h
 | call f es => exact zk (fun a h => zcX L h) (fun a b h => L.call _ _ _ h) h
 | bi b es =>
  induction b
  case len =>
   match es, h with
   | [], h => exact za h
   | [a], h => exact zk (fun a h => zk5 L h) (fun u w h => h) h
   | a :: b :: es, h =>
    exact zk (fun a h => zcX L h) (fun u w h => h) h
  all_goals exact zk (fun a h => zcX L h) (fun u w h => h) h
 | me m a es => exact zk (fun a h => L.ex _ _ _ h) (fun a b h => zk (fun a h => zcX L h) (fun u w h => h) h) h
 | comp elt gs => exact zk (fun a h => zdu (fun a h => zg6 L (fun ρ d h => L.ex _ _ _ h) h) h) (fun u w h => h) h
 | dcomp k v g => exact zk (fun a h => zg6 L (fun ρ d h => zk (fun a h => L.ex _ _ _ h) (fun a b h => zk (fun a h => L.ex _ _ _ h) (fun u w h => h) h) h) h) (fun u w h => h) h
 | _ => exact h
theorem zk6 (L : Le S S') {st : PS} {r : Rho × Fl} (h : zf S ρ st = some r) : zf S' ρ st = some r := by
 induction st using PS.casesOn with
 | asg t e => exact zk (fun a h => L.ex _ _ _ h) (fun u v h => h) h
 | asgM i e => exact zk (fun a h => L.ex _ _ _ h) (fun u v h => h) h
 | asgs ts es => exact zk (fun a h => zcX L h) (fun u v h => h) h
 | aug i op e => exact zk (fun a h => h) (fun u v h => zk (fun a h => L.ex _ _ _ h) (fun u v h => h) h) h
 | iff t a b => exact zk (fun a h => zg5 L h) (fun c d h => by induction c <;> exact L.blk _ _ _ h) h
 | for_ t it b o => exact zk (fun a h => zoJ L h) (fun u v h => zlU L h) h
 | ret e => exact zdu (fun a h => L.ex _ _ _ h) h
 | assert t => exact zk (fun a h => zg5 L h) (fun u v h => h) h
 | app i e => exact zk (fun a h => h) (fun u v h => zk (fun a h => L.ex _ _ _ h) (fun u v h => h) h) h
 | ext i e => exact zk (fun a h => h) (fun u v h => zk (fun a h => L.ex _ _ _ h) (fun u v h => h) h) h
 | del i e => exact zk (fun a h => h) (fun u v h => zk (fun a h => L.ex _ _ _ h) (fun u v h => h) h) h
 | _ => exact h
theorem zk7 (L : Le S S') : ∀ {b : List PS} {ρ : Rho} {r : Rho × Fl}, zA S b ρ = some r -> zA S' b ρ = some r
 | [], ρ, r, h => h
 | st :: b, ρ, r, h => zk (fun a h => zk6 L h) (fun x r h => by
   obtain ⟨ρ2, f⟩ := x
   induction f with
   | next => exact zk7 L h
   | brk => exact h
   | ret d => exact h) h
theorem zqf (L : Le S S') {f : Nat} {args : List PyData} {d : PyData} (h : zdc tbl S f args = some d) : zdc tbl S' f args = some d := by
 have h : (match tbl f with
  | some (.code np ns body) => if args.length = np then (match S.blk (args.map (fun d => some (.d d)) ++ List.replicate ns none) body with
   | some (_, .ret d) => some d
   | some (_, .next) => some .none
   | _ => none) else none
  | some (.prim p) => p args
  | none => none) = some d := h
 show (match tbl f with
  | some (.code np ns body) => if args.length = np then (match S'.blk (args.map (fun d => some (.d d)) ++ List.replicate ns none) body with
   | some (_, .ret d) => some d
   | some (_, .next) => some .none
   | _ => none) else none
  | some (.prim p) => p args
  | none => none) = some d
 revert h
 induction (tbl f) with
 | none => exact fun h => za h
 | some fn =>
  induction fn with
  | prim p => exact id
  | code np ns body =>
   intro h
   refine ifE h fun hl h => ?_
   show (if args.length = np then _ else none) = some d
   rw [if_pos hl]
   induction hb : S.blk (args.map (fun d => some (.d d)) ++ List.replicate ns none) body with
   | none => rw [hb] at h; exact za h
   | some q => rw [hb] at h; rw [L.blk _ _ _ hb]; exact h
theorem zeQ : ∀ n, Le (run tbl n) (run tbl (n + 1))
 | 0 => ⟨fun u v w h => (nomatch h), fun u v w h => (nomatch h), fun u v w h => (nomatch h)⟩
 | n + 1 => ⟨fun ρ e d h => zt6 (zeQ n) h, fun f a d h => zqf (zeQ n) h, fun ρ b r h => zk7 (zeQ n) h⟩
theorem Le.trans {S'' : Sv} (a : Le S S') (b : Le S' S'') : Le S S'' := ⟨fun ρ e d h => b.ex _ _ _ (a.ex _ _ _ h), fun f x d h => b.call _ _ _ (a.call _ _ _ h), fun ρ x r h => b.blk _ _ _ (a.blk _ _ _ h)⟩
theorem zat {n m : Nat} (h : n <= m) : Le (run tbl n) (run tbl m) := by
 obtain ⟨k, e9⟩ := Nat.exists_eq_add_of_le h; subst e9
 induction k with
 | zero => exact ⟨fun u v w h => h, fun u v w h => h, fun u v w h => h⟩
 | succ k ih => exact (ih (by simp)).trans (zeQ (n + k))
end
inductive Tr where
 | leaf (l : Nat)
 | pair (a b : Tr)
noncomputable def trD : Tr -> PyData
 | .leaf l => .int (l : Int)
 | .pair a b => .list [trD a, trD b]
noncomputable def Tr.depth : Tr -> Nat
 | .leaf _ => 0
 | .pair a b => max a.depth b.depth + 1
noncomputable def Tr.size : Tr -> Nat
 | .leaf _ => 1
 | .pair a b => a.size + b.size + 2
def Tr.ok : Tr -> Prop
 | .leaf l => l < 3
 | .pair a b => a.ok /\ b.ok
noncomputable def toks (nm : List PyData) : Tr -> List PyData
 | .leaf l => [nm.getD l .none]
 | .pair a b => [.str "("] ++ toks nm a ++ toks nm b ++ [.str ")"]
theorem zeR (nm : List PyData) : ∀ t, (toks nm t).length = t.size
 | .leaf _ => rfl
 | .pair a b => by simp [toks, Tr.size, zeR nm a, zeR nm b]; rfl
noncomputable def zmF : List PS := [
 .iff (.bi .isInt [(.v 0)]) [.ret (.lst [(.idx (.v 1) (.v 0))])] [],
 .ret (.bin .Add (.bin .Add (.bin .Add (.lst [(.c (.str "("))]) (.call 10 [(.idx (.v 0) (.c (.int 0))), (.v 1)])) (.call 10 [(.idx (.v 0) (.c (.int 1))), (.v 1)])) (.lst [(.c (.str ")"))]))]
section
variable {tbl : Nat -> Option Fn}
theorem zoK (h10 : tbl 10 = some (.code 2 60 zmF)) {nm : List PyData} (hn : nm.length = 3) {l : Nat} (hl : l < 3) (n : Nat) : (run tbl (n + 8)).call 10 [.int (l : Int), .list nm] = some (.list [nm.getD l .none]) := by
 obtain ⟨a, b, c, rfl⟩ : ∃ a b c, nm = [a, b, c] := by
  induction nm using List.casesOn with
  | nil => exact nomatch hn
  | cons a l =>
   induction l using List.casesOn with
   | nil => exact nomatch hn
   | cons b l =>
    induction l using List.casesOn with
    | nil => exact nomatch hn
    | cons c l =>
     induction l using List.casesOn with
     | nil => exact I31 a b c rfl
     | cons d l => exact nomatch hn
 rw [zgd h10 rfl]
 exact lt3 hl rfl rfl rfl
theorem add_list {a b : List PyData} (h : a.length + b.length <= big) : zav .Add (.list a) (.list b) = some (.list (a ++ b)) := if_pos h
theorem zoL (h10 : tbl 10 = some (.code 2 60 zmF)) {nm : List PyData} {x y : PyData} {xs ys : List PyData} {n : Nat} (hx : (run tbl (n + 2)).call 10 [x, .list nm] = some (.list xs)) (hy : (run tbl (n + 2)).call 10 [y, .list nm] = some (.list ys)) (hs : xs.length + ys.length + 2 <= big) :
  (run tbl (n + 8)).call 10 [.list [x, y], .list nm] = some (.list ([.str "("] ++ xs ++ ys ++ [.str ")"])) := by
 have a1 : (PyData.str "(" :: xs).length + ys.length <= big := by rw [List.length_cons]; lia
 have a2 : (PyData.str "(" :: (xs ++ ys)).length + 1 <= big := by rw [List.length_cons, List.length_append]; assumption
 exact zds h10 rfl (zi5 (ρ2 := [some (.d (.list [x, y])), some (.d (.list nm))] ++ List.replicate 60 none) (zbz rfl rfl) (zcu (zJ (zJ (zJ rfl (zad rfl hx) (add_list (a := [.str "("]) (by rw [List.length_singleton]; lia))) (zad rfl ((zeQ (n + 2)).call _ _ _ hy)) (add_list a1)) rfl (add_list (b := [.str ")"]) a2))))
theorem zfp (h10 : tbl 10 = some (.code 2 60 zmF)) {nm : List PyData} (hn : nm.length = 3) : ∀ (t : Tr), t.ok -> t.size <= big -> ∀ n, (run tbl (n + 6 * t.depth + 8)).call 10 [trD t, .list nm] = some (.list (toks nm t))
 | .leaf l, h, _, n => zoK h10 hn h (n + 6 * 0)
 | .pair a b, h, hs, n => by
  have hs' : a.size + b.size + 2 <= big := hs
  have hb := zfp h10 hn b h.2 (by lia) n
  have hd : Tr.depth (.pair a b) = max a.depth b.depth + 1 := rfl
  have e : n + 6 * Tr.depth (.pair a b) + 8 = (n + 6 * max a.depth b.depth + 6) + 8 := by rw [hd]; rfl
  rw [e]
  exact zoL h10 ((zat (by lia)).call _ _ _ (zfp h10 hn a h.1 (by lia) n)) ((zat (by lia)).call _ _ _ hb) (by rw [zeR, zeR]; exact hs')
end
abbrev zB := Int × Int × Int × Int × Int
noncomputable def rD : zB -> PyData
 | (a, b, c, d, e) => .tuple [.int a, .int b, .int c, .int d, .int e]
noncomputable def zB.rev : zB -> zB
 | (a, b, c, d, e) => (e, d, c, b, a)
noncomputable def first : zB -> zB
 | (e, d, c, b, a) => (a, c, b, e, d)
noncomputable def zaC : zB -> zB
 | (e, d, c, b, a) => (a, b, d, e, c)
def prog : Tr -> zB -> List (Nat × zB)
 | .leaf l, r => [(l, r)]
 | .pair a b, r => (prog a (first r) ++ prog b (zaC r)) ++ (prog a (zB.rev (first r)) ++ prog b (zB.rev (zaC r))) ++ [(3, r)]
def zka (p : Nat × zB) : PyData := .tuple [.int (p.1 : Int), rD p.2]
noncomputable def zf2 : Tr -> Nat
 | .leaf _ => 1
 | .pair a b => 2 * (zf2 a + zf2 b) + 1
theorem zbA : ∀ (t : Tr) (r : zB), (prog t r).length = zf2 t
 | .leaf _, r => rfl
 | .pair a b, r => by simp [prog, zf2, zbA a, zbA b]; lia
noncomputable def zei (ls : Nat -> Bool) : Tr -> Bool
 | .leaf l => ls l
 | .pair a b => !(zei ls a && zei ls b)
noncomputable def zig : List PS := [
 .iff (.bi .isInt [(.v 0)]) [.ret (.lst [(.tup [(.v 0), (.v 1)])])] [],
 .asg (.t [(.v 2), (.v 3), (.v 4), (.v 5), (.v 6)]) (.sl (.v 1) none none (some (.neg (.c (.int 1))))),
 .asgs [(7, false), (8, false)] [(.tup [(.v 2), (.v 4), (.v 3), (.v 6), (.v 5)]), (.tup [(.v 2), (.v 3), (.v 5), (.v 6), (.v 4)])],
 .asg (.v 9) (.bin .Add (.call 12 [(.idx (.v 0) (.c (.int 0))), (.v 7)]) (.call 12 [(.idx (.v 0) (.c (.int 1))), (.v 8)])),
 .asg (.v 10) (.bin .Add (.call 12 [(.idx (.v 0) (.c (.int 0))), (.sl (.v 7) none none (some (.neg (.c (.int 1)))))]) (.call 12 [(.idx (.v 0) (.c (.int 1))), (.sl (.v 8) none none (some (.neg (.c (.int 1)))))])),
 .ret (.bin .Add (.bin .Add (.v 9) (.v 10)) (.lst [(.tup [(.c (.int 3)), (.v 1)])]))]
noncomputable def zoM : List PS := [
 .ret (.ite (.bi .isInt [(.v 0)]) (.idx (.v 1) (.v 0)) (.not (.and [(.call 13 [(.idx (.v 0) (.c (.int 0))), (.v 1)]), (.call 13 [(.idx (.v 0) (.c (.int 1))), (.v 1)])])))]
section
variable {tbl : Nat -> Option Fn}
theorem zq9 {n : Nat} {ρ : Rho} {a lo hi st} : (run tbl (n + 1)).ex ρ (.sl a lo hi st) = ((run tbl n).ex ρ a).bind fun x => (zc7 (run tbl n) ρ lo).bind fun l => (zc7 (run tbl n) ρ hi).bind fun h => (zc7 (run tbl n) ρ st).bind fun k => zaz x l h k := rfl
theorem zsj (a b c d e : PyData) : zaz (.tuple [a, b, c, d, e]) none none (some (-1)) = some (.tuple [e, d, c, b, a]) := by kernel_rfl
theorem zmG (h12 : tbl 12 = some (.code 2 60 zig)) {l : Nat} {r : zB} (n : Nat) : (run tbl (n + 8)).call 12 [.int (l : Int), rD r] = some (.list [zka (l, r)]) := by
 rw [zgd h12 rfl]; rfl
theorem zmH (h12 : tbl 12 = some (.code 2 60 zig)) {x y : PyData} {r : zB} {p q p' q' : List PyData} {n : Nat} (hx : (run tbl (n + 2)).call 12 [x, rD (first r)] = some (.list p)) (hy : (run tbl (n + 2)).call 12 [y, rD (zaC r)] = some (.list q))
  (hx' : (run tbl (n + 2)).call 12 [x, rD (zB.rev (first r))] = some (.list p')) (hy' : (run tbl (n + 2)).call 12 [y, rD (zB.rev (zaC r))] = some (.list q')) (hs : p.length + q.length + p'.length + q'.length + 1 <= big) :
  (run tbl (n + 8)).call 12 [.list [x, y], rD r] = some (.list ((p ++ q) ++ (p' ++ q') ++ [zka (3, r)])) := by
 have L := zat (tbl := tbl) (show n + 2 <= n + 4 by simp)
 have hy := L.call _ _ _ hy
 have hx' := L.call _ _ _ hx'
 have hy' := L.call _ _ _ hy'
 obtain ⟨e, d, c, b, a⟩ := r
 have s0 := zsj (.int e) (.int d) (.int c) (.int b) (.int a)
 have s1 := zsj (.int a) (.int c) (.int b) (.int e) (.int d)
 have s2 := zsj (.int a) (.int b) (.int d) (.int e) (.int c)
 have a2 : zav .Add (.list p') (.list q') = some (.list (p' ++ q')) := add_list (by lia)
 have a3 : zav .Add (.list (p ++ q)) (.list (p' ++ q')) = some (.list (p ++ q ++ (p' ++ q'))) := add_list (by simp; lia)
 have a4 : ∀ z : PyData, zav .Add (.list (p ++ q ++ (p' ++ q'))) (.list [z]) = some (.list (p ++ q ++ (p' ++ q') ++ [z])) := fun z => add_list (by simp; lia)
 exact zds h12 rfl (zP (zbz rfl rfl) (zP (zsf (zeh rfl rfl rfl rfl s0) rfl) (zP (zi6 rfl rfl) (zP (zu (zJ (zad rfl (L.call _ _ _ hx)) (zad rfl hy) (add_list (by lia)))) (zi5 (zu (zJ (zad (zaS rfl (zan (zeh rfl rfl rfl rfl s1))) hx') (zad (zaS rfl (zan (zeh rfl rfl rfl rfl s2))) hy') a2)) (zcu (zJ (zJ rfl rfl a3) rfl (a4 _))))))))
theorem zeS (h12 : tbl 12 = some (.code 2 60 zig)) : ∀ (t : Tr) (r : zB) (n : Nat), zf2 t <= big -> (run tbl (n + 6 * t.depth + 8)).call 12 [trD t, rD r] = some (.list ((prog t r).map zka))
 | .leaf l, r, n, _ => zmG h12 (n + 6 * 0)
 | .pair a b, r, n, h => by
  have h' : 2 * (zf2 a + zf2 b) + 1 <= big := h
  have hd : Tr.depth (.pair a b) = max a.depth b.depth + 1 := rfl
  have e : n + 6 * Tr.depth (.pair a b) + 8 = (n + 6 * max a.depth b.depth + 6) + 8 := by rw [hd]; rfl
  have key := zmH (x := trD a) (y := trD b) (r := r) (n := n + 6 * max a.depth b.depth + 6) h12 ((zat (by lia)).call _ _ _ (zeS h12 a (first r) n (by lia))) ((zat (by lia)).call _ _ _ (zeS h12 b (zaC r) n (by lia)))
   ((zat (by lia)).call _ _ _ (zeS h12 a (zB.rev (first r)) n (by lia))) ((zat (by lia)).call _ _ _ (zeS h12 b (zB.rev (zaC r)) n (by lia))) (by simp only [List.length_map, zbA]; lia)
  refine key.trans ?_
  simp [prog]
noncomputable def lsD (ls : Nat -> Bool) : PyData := .list [.bool (ls 0), .bool (ls 1), .bool (ls 2)]
theorem zmI (h13 : tbl 13 = some (.code 2 60 zoM)) {x y z : PyData} {p q : Bool} {n : Nat} (ha : (run tbl (n + 2)).call 13 [x, z] = some (.bool p)) (hb : (run tbl (n + 2)).call 13 [y, z] = some (.bool q)) :
  (run tbl (n + 8)).call 13 [.list [x, y], z] = some (.bool (!(p && q))) := by
 induction p with
 | false => exact zds h13 rfl (zaK (zcu (x_F rfl (zq3 (t_b (zq6 (ztY (zad rfl ha) rfl)))))))
 | true => exact zds h13 rfl (zaK (zcu (x_F rfl (zq3 (t_b (zq6 (ztZ (zad rfl ha) rfl (zad rfl hb))))))))
theorem zi8 (h13 : tbl 13 = some (.code 2 60 zoM)) (ls : Nat -> Bool) : ∀ (t : Tr) (n : Nat), t.ok -> (run tbl (n + 6 * t.depth + 8)).call 13 [trD t, lsD ls] = some (.bool (zei ls t))
 | .leaf l, n, h => by
  rw [show n + 6 * Tr.depth (.leaf l) + 8 = n + 8 from rfl, zgd h13 rfl]
  exact lt3 h rfl rfl rfl
 | .pair a b, n, h => by
  have hd : Tr.depth (.pair a b) = max a.depth b.depth + 1 := rfl
  have e : n + 6 * Tr.depth (.pair a b) + 8 = (n + 6 * max a.depth b.depth + 6) + 8 := by rw [hd]; rfl
  rw [e]
  exact zmI h13 ((zat (by lia)).call _ _ _ (zi8 h13 ls a n h.1)) ((zat (by lia)).call _ _ _ (zi8 h13 ls b n h.2))
end
namespace Two2
def zt7 : List PS := [
 .asgM 1 (.lst []),
 .for_ (.v 2) (.rng [(.c (.int 32))]) [.asg (.v 3) (.bin .LShift (.c (.int 1)) (.v 2)), .iff (.bin .BitAnd (.v 0) (.v 3)) [.app 1 (.me .get (.c flagsD) [(.v 3), (.bi .hex [(.v 3)])]), .aug 0 .BitXor (.v 3), .iff (.not (.v 0)) [.brk] []] []] [.app 1 (.bi .hex [(.v 0)])],
 .frz 1,
 .ret (.me .join (.c (.str ", ")) [(.v 1)])]
noncomputable def zva : List PS := [
 .iff (.cmp .LtE (.bin .Sub (.me .bitLength (.v 0) []) (.v 2)) (.c (.int 4000))) [.ret (.bi .divmod [(.v 0), (.v 1)])] [],
 .asg (.v 3) (.bin .BitAnd (.v 2) (.c (.int 1))),
 .iff (.v 3) [.aug 0 .LShift (.c (.int 1)), .aug 1 .LShift (.c (.int 1)), .aug 2 .Add (.c (.int 1))] [],
 .asg (.v 4) (.bin .RShift (.v 2) (.c (.int 1))),
 .asg (.v 5) (.bin .Sub (.bin .LShift (.c (.int 1)) (.v 4)) (.c (.int 1))),
 .asgs [(6, false), (7, false)] [(.bin .RShift (.v 1) (.v 4)), (.bin .BitAnd (.v 1) (.v 5))],
 .asg (.t [(.v 8), (.v 9)]) (.call 2 [(.bin .RShift (.v 0) (.v 2)), (.bin .BitAnd (.bin .RShift (.v 0) (.v 4)) (.v 5)), (.v 1), (.v 6), (.v 7), (.v 4)]),
 .asg (.t [(.v 10), (.v 9)]) (.call 2 [(.v 9), (.bin .BitAnd (.v 0) (.v 5)), (.v 1), (.v 6), (.v 7), (.v 4)]),
 .iff (.v 3) [.aug 9 .RShift (.c (.int 1))] [],
 .ret (.tup [(.bin .BitOr (.bin .LShift (.v 8) (.v 4)) (.v 10)), (.v 9)])]
noncomputable def zvb : List PS := [
 .asg (.v 2) (.me .bitLength (.v 1) []),
 .asg (.v 3) (.call 3 [(.v 0), (.v 2)]),
 .asg (.v 4) (.c (.int 0)),
 .asgM 5 (.lst []),
 .for_ (.v 6) (.rev (.v 3)) [.asg (.t [(.v 7), (.v 4)]) (.call 1 [(.bin .Add (.bin .LShift (.v 4) (.v 2)) (.v 6)), (.v 1), (.v 2)]), .app 5 (.v 7)] [],
 .revs 5,
 .frz 5,
 .asg (.v 8) (.call 4 [(.v 5), (.v 2)]),
 .ret (.tup [(.v 8), (.v 4)])]
noncomputable def zvc : List PS := [
 .iff (.cmp .Eq (.v 1) (.c (.int 0))) [.fail] [.iff (.cmp .Lt (.v 1) (.c (.int 0))) [.asg (.t [(.v 2), (.v 3)]) (.call 6 [(.neg (.v 0)), (.neg (.v 1))]), .ret (.tup [(.v 2), (.neg (.v 3))])] [.iff (.cmp .Lt (.v 0) (.c (.int 0))) [.asg (.t [(.v 2), (.v 3)]) (.call 6 [(.inv (.v 0)), (.v 1)]), .ret (.tup [(.inv (.v 2)), (.bin .Add (.v 1) (.inv (.v 3)))])] [.ret (.call 5 [(.v 0), (.v 1)])]]]]
noncomputable def ellB : List PS := [
 .iff (.cmp .NotIn (.c (.str "...")) (.v 0)) [.ret (.cmp .Eq (.v 0) (.v 1))] [],
 .asgM 2 (.me .split (.v 0) [(.c (.str "..."))]),
 .assert (.cmp .GtE (.bi .len [(.v 2)]) (.c (.int 2))),
 .asgs [(3, false), (4, false)] [(.c (.int 0)), (.bi .len [(.v 1)])],
 .asg (.v 5) (.idx (.v 2) (.c (.int 0))),
 .iff (.v 5) [.iff (.me .startswith (.v 1) [(.v 5)]) [.asg (.v 3) (.bi .len [(.v 5)]), .del 2 (.c (.int 0))] [.ret (.c (.bool false))]] [],
 .asg (.v 5) (.idx (.v 2) (.neg (.c (.int 1)))),
 .iff (.v 5) [.iff (.me .endswith (.v 1) [(.v 5)]) [.aug 4 .Sub (.bi .len [(.v 5)]), .del 2 (.neg (.c (.int 1)))] [.ret (.c (.bool false))]] [],
 .iff (.cmp .Gt (.v 3) (.v 4)) [.ret (.c (.bool false))] [],
 .frz 2,
 .for_ (.v 5) (.v 2) [.asg (.v 3) (.me .find (.v 1) [(.v 5), (.v 3), (.v 4)]), .iff (.cmp .Lt (.v 3) (.c (.int 0))) [.ret (.c (.bool false))] [], .aug 3 .Add (.bi .len [(.v 5)])] [],
 .ret (.c (.bool true))]
noncomputable def strB : List PS := [
 .iff (.cmp .NotIn (.c (.str "\"")) (.v 0)) [.ret (.v 0)] [],
 .asg (.v 1) (.c (.int 0)),
 .asg (.v 2) (.c .none),
 .asgM 3 (.lst []),
 .for_ (.t [(.v 4), (.v 5)]) (.gen (.v 0)) [.iff (.cmp .Eq (.v 5) (.c (.str "\""))) [.iff (.cmp .Is (.v 2) (.c .none)) [.asg (.v 2) (.v 4)] [.iff (.cmp .NotEq (.v 1) (.v 2)) [.app 3 (.sl (.v 0) (some (.v 1)) (some (.v 2)) none)] [], .asg (.v 1) (.bin .Add (.v 4) (.c (.int 1))), .asg (.v 2) (.c .none)]] []] [],
 .iff (.cmp .Lt (.v 1) (.bi .len [(.v 0)])) [.app 3 (.sl (.v 0) (some (.v 1)) none none)] [],
 .frz 3,
 .ret (.me .join (.c (.str "")) [(.v 3)])]
noncomputable def parB : List PS := [
 .asg (.v 0) (.call 8 [(.v 0)]),
 .asg (.v 1) (.c (.int 0)),
 .for_ (.t [(.v 2), (.v 3)]) (.gen (.v 0)) [.iff (.cmp .Eq (.v 3) (.c (.str "("))) [.aug 1 .Add (.c (.int 1))] [.iff (.cmp .Eq (.v 3) (.c (.str ")"))) [.aug 1 .Sub (.c (.int 1)), .iff (.cmp .Lt (.v 1) (.c (.int 0))) [.ret (.c (.bool false))] []] []]] [],
 .ret (.cmp .Eq (.v 1) (.c (.int 0)))]
noncomputable def readB : List PS := [
 .iff (.cmp .Eq (.bi .len [(.v 0)]) (.c (.int 1))) [.ret (.ite (.cmp .In (.idx (.v 0) (.c (.int 0))) (.v 1)) (.me .index (.v 1) [(.idx (.v 0) (.c (.int 0)))]) (.c .none))] [],
 .asg (.v 2) (.sl (.v 0) (some (.c (.int 1))) (some (.neg (.c (.int 1)))) none),
 .asg (.v 3) (.comp (.call 9 [(.me .join (.c (.str "")) [(.sl (.v 2) none (some (.v 9)) none)])]) [(.mk (.v 9) (.rng [(.c (.int 1)), (.bi .len [(.v 2)])]) [])]),
 .asg (.v 4) (.comp (.v 9) [(.mk (.v 9) (.rng [(.c (.int 1)), (.bi .len [(.v 2)])]) [(.cmp .IsNot (.idx (.v 3) (.bin .Sub (.v 9) (.c (.int 1)))) (.c (.bool false)))])]),
 .iff (.or [(.cmp .NotEq (.bi .len [(.v 4)]) (.c (.int 1))), (.cmp .IsNot (.idx (.v 3) (.bin .Sub (.idx (.v 4) (.c (.int 0))) (.c (.int 1)))) (.c (.bool true)))]) [.ret (.c .none)] [],
 .ret (.lst [(.call 11 [(.sl (.v 2) none (some (.idx (.v 4) (.c (.int 0)))) none), (.v 1)]), (.call 11 [(.sl (.v 2) (some (.idx (.v 4) (.c (.int 0)))) none none), (.v 1)])])]
def tE (pr : Bool) : Nat -> Option Fn
 | 0 => some (.code 1 60 zt7)
 | 1 => some (.code 3 60 zva)
 | 5 => some (.code 2 60 zvb)
 | 6 => some (.code 2 60 zvc)
 | 7 => some (.code 2 60 ellB)
 | 8 => some (.code 1 60 strB)
 | 9 => some (.code 1 60 parB)
 | 10 => some (.code 2 60 zmF)
 | 11 => some (.code 2 60 readB)
 | 12 => some (.code 2 60 zig)
 | 13 => some (.code 2 60 zoM)
 | 3 => if pr then some (.prim zhy) else none
 | 4 => if pr then some (.prim zhz) else none
 | 14 => zbJ "law"
 | _ => none
noncomputable def sA0 : PS := .asg (.v 3) (.comp (.bin .Mod (.bin .Add (.v 48) (.bi .sum [(.comp (.bin .Mod (.v 50) (.bin .Pow (.c (.int 10)) (.c (.int 9)))) [(.mk (.v 50) (.sl (.v 0) (some (.v 47)) (some (.c (.int 60))) (some (.c (.int 6)))) [])])])) (.bin .Pow (.c (.int 10)) (.c (.int 9)))) [(.mk (.t [(.v 47), (.v 48)]) (.enm (.tup [(.c (.int 140)), (.c (.int 6)), (.c (.int 477)), (.c (.int 8)), (.c (.int 9)), (.c (.int 5))])) [])])
noncomputable def sA1 : PS := .asg (.v 4) (.comp (.bin .Mod (.bin .FloorDiv (.idx (.v 3) (.c (.int 0))) (.bin .Pow (.c (.int 3)) (.v 47))) (.c (.int 3))) [(.mk (.v 47) (.rng [(.c (.int 5))]) [])])
noncomputable def sA2 : PS := .asg (.v 5) (.ite (.bin .Mod (.idx (.v 3) (.c (.int 1))) (.c (.int 2))) (.idx (.v 4) (.c (.int 0))) (.lst [(.idx (.v 4) (.c (.int 0))), (.idx (.v 4) (.c (.int 1)))]))
noncomputable def sA3 : PS := .asg (.v 6) (.ite (.bin .Mod (.bin .FloorDiv (.idx (.v 3) (.c (.int 1))) (.c (.int 2))) (.c (.int 2))) (.idx (.v 4) (.c (.int 2))) (.lst [(.idx (.v 4) (.c (.int 2))), (.idx (.v 4) (.c (.int 3)))]))
noncomputable def sA4 : PS := .asg (.v 7) (.idx (.tup [(.lst [(.lst [(.v 5), (.v 6)]), (.idx (.v 4) (.c (.int 4)))]), (.lst [(.v 5), (.v 6)]), (.lst [(.idx (.v 4) (.c (.int 4))), (.lst [(.v 5), (.v 6)])])]) (.ite (.or [(.bin .Mod (.idx (.v 3) (.c (.int 1))) (.c (.int 4))), (.cmp .Eq (.bin .Mod (.bin .FloorDiv (.idx (.v 3) (.c (.int 1))) (.c (.int 1000))) (.c (.int 4))) (.c (.int 1)))]) (.bin .Mod (.bin .FloorDiv (.idx (.v 3) (.c (.int 1))) (.c (.int 4))) (.c (.int 3))) (.c (.int 1))))
noncomputable def sA5 : PS := .asg (.v 8) (.tup [(.c (.str "")), (.c (.str "\")\"")), (.c (.str "\\(")), (.c (.str "\\\\")), (.c (.str "\"(\"")), (.c (.str "\"\\\")\"")), (.c (.str "a\\\"")), (.c (.str "\\)"))])
noncomputable def sA6 : PS := .asg (.v 9) (.comp (.bin .Add (.idx (.v 8) (.bin .Mod (.bin .FloorDiv (.idx (.v 3) (.c (.int 2))) (.bin .Pow (.c (.int 8)) (.v 47))) (.c (.int 8)))) (.idx (.c (.str "pqr")) (.v 47))) [(.mk (.v 47) (.tup [(.c (.int 0)), (.c (.int 1)), (.c (.int 2))]) [])])
noncomputable def sA7 : PS := .asg (.v 10) (.call 10 [(.v 7), (.v 9)])
noncomputable def sA8 : PS := .iff (.or [(.cmp .IsNot (.call 9 [(.me .join (.c (.str "")) [(.v 10)])]) (.c (.bool true))), (.cmp .IsNot (.call 9 [(.me .join (.c (.str "")) [(.sl (.v 10) none (some (.neg (.c (.int 1)))) none)])]) (.c (.bool false)))]) [.ret (.c (.bool false))] []
noncomputable def sA9 : PS := .iff (.or [(.cmp .IsNot (.call 9 [(.bin .Add (.me .join (.c (.str "")) [(.sl (.v 10) (some (.c (.int 1))) none none)]) (.c (.str "(")))]) (.c (.bool false))), (.cmp .NotEq (.call 11 [(.v 10), (.v 9)]) (.v 7))]) [.ret (.c (.bool false))] []
noncomputable def sA10 : PS := .asg (.v 11) (.comp (.tup [(.c (.int 0)), (.v 47), (.v 48), (.v 49), (.bin .Sub (.bin .Sub (.bin .Sub (.c (.int 10)) (.v 47)) (.v 48)) (.v 49))]) [(.mk (.v 47) (.rng [(.c (.int 1)), (.c (.int 5))]) []), (.mk (.v 48) (.rng [(.c (.int 1)), (.c (.int 5))]) []), (.mk (.v 49) (.rng [(.c (.int 1)), (.c (.int 5))]) [(.and [(.cmp .NotEq (.v 47) (.v 48)), (.cmp .NotEq (.v 47) (.v 49)), (.cmp .NotEq (.v 48) (.v 49))])])])
noncomputable def sA11 : PS := .asgs [(12, false), (13, false), (14, false)] [(.idx (.v 11) (.bin .Mod (.idx (.v 3) (.c (.int 3))) (.c (.int 24)))), (.bin .Mod (.idx (.v 3) (.c (.int 4))) (.c (.int 29))), (.bin .Add (.c (.int 7)) (.bin .Mod (.bin .FloorDiv (.idx (.v 3) (.c (.int 4))) (.c (.int 29))) (.c (.int 60))))]
noncomputable def sA12 : PS := .asg (.v 16) (.comp (.tup [(.v 47), (.me .index (.v 11) [(.bin .Add (.sl (.v 48) (some (.me .index (.v 48) [(.c (.int 0))])) none none) (.sl (.v 48) none (some (.me .index (.v 48) [(.c (.int 0))])) none))])]) [(.mk (.t [(.v 47), (.v 48)]) (.call 12 [(.v 7), (.v 12)]) [])])
noncomputable def sA13 : PS := .asg (.v 17) (.comp (.bin .Add (.bin .Mult (.c (.int 24)) (.v 47)) (.v 48)) [(.mk (.t [(.v 47), (.v 48)]) (.v 16) [])])
def lawA : List PS := [sA0, sA1, sA2, sA3, sA4, sA5, sA6, sA7, sA8, sA9, sA10, sA11, sA12, sA13]
noncomputable def sC0 : PS := .asg (.v 19) (.bin .Mod (.idx (.v 3) (.c (.int 5))) (.c (.int 3)))
noncomputable def sC1 : PS := .for_ (.t [(.v 18), (.t [(.v 15), (.v 1)])]) (.zip (.sl (.v 17) none (some (.c (.int 16))) none) (.v 16)) [.iff (.cmp .NotEq (.call 6 [(.idx (.tup [(.v 18), (.neg (.v 18)), (.inv (.v 18))]) (.v 19)), (.idx (.tup [(.c (.int 24)), (.neg (.c (.int 24))), (.c (.int 24))]) (.v 19))]) (.idx (.tup [(.tup [(.v 15), (.v 1)]), (.tup [(.v 15), (.neg (.v 1))]), (.tup [(.inv (.v 15)), (.bin .Sub (.c (.int 23)) (.v 1))])]) (.v 19))) [.ret (.c (.bool false))] []] []
noncomputable def sC2 : PS := .asg (.v 20) (.comp (.tup [(.v 47), (.dcomp (.v 50) (.v 51) (.mk (.t [(.v 50), (.v 51)]) (.zip (.idx (.v 11) (.v 48)) (.bin .Add (.sl (.idx (.v 11) (.v 48)) (some (.c (.int 1))) none none) (.sl (.idx (.v 11) (.v 48)) none (some (.c (.int 1))) none))) []))]) [(.mk (.t [(.v 47), (.v 48)]) (.v 16) [])])
noncomputable def sC3 : PS := .asg (.v 21) (.me .split (.c (.str "OPTIMIZED NEWLOCALS VARARGS VARKEYWORDS NESTED GENERATOR NOFREE COROUTINE ITERABLE_COROUTINE ASYNC_GENERATOR")) [])
noncomputable def sC4 : PS := .asg (.v 22) (.comp (.ite (.cmp .Lt (.v 47) (.c (.int 10))) (.idx (.v 21) (.v 47)) (.bi .hex [(.bin .Pow (.c (.int 2)) (.v 47))])) [(.mk (.v 47) (.rng [(.v 13), (.bin .Add (.v 13) (.c (.int 3)))]) [])])
noncomputable def sC5 : PS := .asg (.v 24) (.comp (.call 0 [(.bin .Mult (.v 47) (.bin .Pow (.c (.int 2)) (.v 13)))]) [(.mk (.v 47) (.rng [(.c (.int 8))]) [])])
noncomputable def sC6 : PS := .iff (.cmp .NotEq (.v 24) (.bin .Add (.lst [(.c (.str "0x0"))]) (.comp (.me .join (.c (.str ", ")) [(.comp (.v 50) [(.mk (.t [(.v 49), (.v 50)]) (.enm (.v 22)) [(.bin .Mod (.bin .FloorDiv (.v 47) (.bin .Pow (.c (.int 2)) (.v 49))) (.c (.int 2)))])])]) [(.mk (.v 47) (.rng [(.c (.int 1)), (.c (.int 8))]) [])]))) [.ret (.c (.bool false))] []
noncomputable def sC7 : PS := .asg (.v 25) (.comp (.bin .Add (.bin .Add (.c (.str ", ")) (.v 47)) (.c (.str ","))) [(.mk (.v 47) (.v 24) [])])
noncomputable def sC8 : PS := .asgs [(26, false), (27, false)] [(.bin .Add (.bin .Add (.c (.str ", ")) (.idx (.v 22) (.c (.int 0)))) (.c (.str ","))), (.bin .Add (.bin .Add (.c (.str ", ")) (.idx (.v 22) (.c (.int 2)))) (.c (.str ",")))]
noncomputable def sC9 : PS := .asgM 28 (.lst [(.tup [(.bin .Add (.bin .Add (.bin .Add (.bin .Add (.c (.str "...")) (.v 26)) (.c (.str "..."))) (.v 27)) (.c (.str "..."))), (.c (.int 7)), (.c (.bool true))]), (.tup [(.bin .Add (.bin .Add (.bin .Add (.bin .Add (.c (.str "...")) (.v 26)) (.c (.str "..."))) (.v 27)) (.c (.str "..."))), (.c (.int 5)), (.c (.bool false))])])
noncomputable def sC10 : PS := .ext 28 (.lst [(.tup [(.bin .Add (.bin .Add (.bin .Add (.bin .Add (.c (.str "...")) (.v 27)) (.c (.str "..."))) (.v 26)) (.c (.str "..."))), (.c (.int 7)), (.c (.bool false))]), (.tup [(.bin .Add (.bin .Add (.bin .Add (.bin .Add (.v 26) (.c (.str "..."))) (.sl (.v 27) (some (.c (.int 1))) none none)) (.c (.str "..."))) (.sl (.v 27) (some (.c (.int 1))) none none)), (.c (.int 7)), (.c (.bool false))])])
noncomputable def sC11 : PS := .frz 28
noncomputable def sC12 : PS := .iff (.cmp .NotEq (.comp (.v 47) [(.mk (.t [(.v 47), (.v 48), (.v 49)]) (.bin .Add (.v 28) (.lst [(.tup [(.v 26), (.c (.int 1)), (.c (.bool true))]), (.tup [(.v 26), (.c (.int 3)), (.c (.bool false))])])) [(.cmp .IsNot (.call 7 [(.v 47), (.idx (.v 25) (.v 48))]) (.v 49))])]) (.lst [])) [.ret (.c (.bool false))] []
noncomputable def sC13 : PS := .asg (.v 29) (.comp (.idx (.v 12) (.bin .Mod (.bin .Add (.me .index (.v 12) [(.v 47)]) (.c (.int 1))) (.c (.int 5)))) [(.mk (.v 47) (.rng [(.c (.int 5))]) [])])
noncomputable def sC14 : PS := .for_ (.t [(.v 23), (.v 30)]) (.enm (.v 25)) [.asg (.v 31) (.bin .Add (.comp (.call 7 [(.bin .Add (.bin .Add (.c (.str "..., ")) (.v 47)) (.c (.str ",..."))), (.v 30)]) [(.mk (.v 47) (.v 22) [])]) (.lst [(.c (.bool true))])), .asg (.v 32) (.lst [(.c (.int 0)), (.c (.int 1)), (.c (.int 2)), (.c (.int 3)), (.c (.int 4))]), .for_ (.t [(.v 15), (.v 33)]) (.v 20) [.iff (.cmp .Is (.idx (.v 31) (.v 15)) (.c (.bool true))) [.asg (.v 32) (.comp (.idx (.v 33) (.v 47)) [(.mk (.v 47) (.v 32) [])])] []] [], .iff (.cmp .NotEq (.v 32) (.ite (.call 13 [(.v 7), (.comp (.cmp .Eq (.bin .Mod (.bin .FloorDiv (.v 23) (.bin .Pow (.c (.int 2)) (.v 47))) (.c (.int 2))) (.c (.int 1))) [(.mk (.v 47) (.rng [(.c (.int 3))]) [])])]) (.v 29) (.lst [(.c (.int 0)), (.c (.int 1)), (.c (.int 2)), (.c (.int 3)), (.c (.int 4))]))) [.ret (.c (.bool false))] []] []
noncomputable def sC15 : PS := .ret (.c (.bool true))
def lawC2 : List PS := [sC0, sC1, sC2, sC3, sC4, sC5, sC6, sC7, sC8, sC9, sC10, sC11, sC12, sC13, sC14, sC15]
theorem pbA_eq : pbA = lawA := by kernel_rfl
theorem pbC_eq : pbC = lawC2 := by kernel_rfl
theorem zvd : tA2 0 = tE false 0 := by kernel_rfl
theorem zve : tC2 0 = tE true 0 := by kernel_rfl
theorem zvf : tA2 1 = tE false 1 := by kernel_rfl
theorem zvg : tC2 1 = tE true 1 := by kernel_rfl
theorem zvh : tA2 2 = none := by kernel_rfl
theorem zvi : tC2 2 = none := by kernel_rfl
theorem zvj : tA2 5 = tE false 5 := by kernel_rfl
theorem zvk : tC2 5 = tE true 5 := by kernel_rfl
theorem zvl : tA2 6 = tE false 6 := by kernel_rfl
theorem zvm : tC2 6 = tE true 6 := by kernel_rfl
theorem zvn : tA2 7 = tE false 7 := by kernel_rfl
theorem zvo : tC2 7 = tE true 7 := by kernel_rfl
theorem zvp : tA2 8 = tE false 8 := by kernel_rfl
theorem zvq : tC2 8 = tE true 8 := by kernel_rfl
theorem zvr : tA2 9 = tE false 9 := by kernel_rfl
theorem zvs : tC2 9 = tE true 9 := by kernel_rfl
theorem zt8 : tA2 10 = tE false 10 := by kernel_rfl
theorem zt9 : tC2 10 = tE true 10 := by kernel_rfl
theorem zua : tA2 11 = tE false 11 := by kernel_rfl
theorem zub : tC2 11 = tE true 11 := by kernel_rfl
theorem zuc : tA2 12 = tE false 12 := by kernel_rfl
theorem zud : tC2 12 = tE true 12 := by kernel_rfl
theorem zue : tA2 13 = tE false 13 := by kernel_rfl
theorem zuf : tC2 13 = tE true 13 := by kernel_rfl
theorem zvt : tA2 3 = none := by kernel_rfl
theorem zvu : tA2 4 = none := by kernel_rfl
theorem zvv : tC2 3 = some (.prim zhy) := by kernel_rfl
theorem zvw : tC2 4 = some (.prim zhz) := by kernel_rfl
theorem zug : tA2 14 = zbJ "law" := by
 show (if zoy "law" then zbJ "law" else none) = _
 rw [if_pos (by decide +kernel)]
theorem zuh : tC2 14 = zbJ "law" := by
 show (if ("law" : Str) == "_int2digits" then some (.prim zhy) else if ("law" : Str) == "_digits2int" then some (.prim zhz) else zbJ "law") = _
 rw [if_neg (by decide +kernel), if_neg (by decide +kernel)]
theorem tA_eq : tA2 = tE false := by
 funext k
 match k with
 | 0 => exact zvd | 1 => exact zvf | 2 => exact zvh | 3 => exact zvt | 4 => exact zvu | 5 => exact zvj | 6 => exact zvl | 7 => exact zvn
 | 8 => exact zvp | 9 => exact zvr | 10 => exact zt8 | 11 => exact zua | 12 => exact zuc | 13 => exact zue | 14 => exact zug
 | k + 15 => rfl
theorem tC_eq : tC2 = tE true := by
 funext k
 match k with
 | 0 => exact zve | 1 => exact zvg | 2 => exact zvi | 3 => exact zvv | 4 => exact zvw | 5 => exact zvk | 6 => exact zvm | 7 => exact zvo
 | 8 => exact zvq | 9 => exact zvs | 10 => exact zt9 | 11 => exact zub | 12 => exact zud | 13 => exact zuf | 14 => exact zuh
 | k + 15 => rfl
end Two2
noncomputable def zi9 : List Nat -> List Nat -> Bool
 | [], _ => true
 | y :: ys, x :: xs => Nat.beq y x && zi9 ys xs
 | _ :: _, [] => false
def zeT (ys : List Nat) (m hi : Nat) : Nat -> Nat -> Nat -> Nat -> List Nat -> List Nat
 | 0, _, _, _, _ => []
 | k + 1, lim, free, i, xs => bif (!Nat.beq lim 0 && Nat.ble free i && Nat.ble (i + m) hi && zi9 ys xs) then i :: zeT ys m hi k (lim - 1) (i + m) (i + 1) xs.tail
  else zeT ys m hi k lim free (i + 1) xs.tail
theorem zkb : ∀ (ys xs : List Nat), zi9 ys xs = (xs.take ys.length == ys)
 | [], xs => rfl
 | y :: ys, [] => rfl
 | y :: ys, x :: xs => by
  have : (x == y) = Nat.beq y x := by
   rw [Bool.eq_iff_iff, Nat.beq_eq, beq_iff_eq]; exact eq_comm
  show (Nat.beq y x && zi9 ys xs) = ((x :: xs.take ys.length) == y :: ys)
  rw [zkb ys xs, List.cons_beq_cons, this]
open Builtin.Str StrLaws in
theorem zg7 (s sub : Str) (hi limit : Nat) : ∀ (k i free : Nat) (found : Array Nat), found.size <= limit ->
  (forIn (List.range' i k) (found, free) (occBody s sub hi limit)).run.fst.toList = found.toList ++ zeT sub.cps.toList sub.length hi k (limit - found.size) free i (s.cps.toList.drop i)
 | 0, i, free, found, h => by simp [zeT]
 | k + 1, i, free, found, h => by
  have hx : (s.cps.toList.drop i).tail = s.cps.toList.drop (i + 1) := by simp
  have hs : subAt s sub i = zi9 sub.cps.toList (s.cps.toList.drop i) := by
   rw [subAt_eq, zkb]; rfl
  rw [List.range'_succ, List.forIn_cons]
  unfold occBody
  by_cases c : ((found.size < limit /\ free <= i) /\ i + sub.length <= hi) /\ subAt s sub i = true
  ·rw [if_pos c]
   have e : (!Nat.beq (limit - found.size) 0 && Nat.ble free i && Nat.ble (i + sub.length) hi && zi9 sub.cps.toList (s.cps.toList.drop i)) = true := by
    obtain ⟨⟨⟨a, b⟩, d⟩, f⟩ := c
    rw [hs] at f
    simp
    refine ⟨⟨⟨?_, b⟩, d⟩, f⟩
    rw [Bool.eq_false_iff]; intro hh; have := Nat.eq_of_beq_eq_true hh; lia
   rw [zg7 s sub hi limit k (i + 1) (i + sub.length) (found.push i) (by simp; lia)]
   show _ = found.toList ++ bif _ then _ else _
   rw [e, hx, cond_true]
   simp
   rw [show limit - found.size - 1 = limit - (found.size + 1) by lia]
  ·rw [if_neg c]
   have e : (!Nat.beq (limit - found.size) 0 && Nat.ble free i && Nat.ble (i + sub.length) hi && zi9 sub.cps.toList (s.cps.toList.drop i)) = false := by
    rw [Bool.eq_false_iff]; intro hh
    simp only [Bool.and_eq_true, Bool.not_eq_true', Nat.ble_eq] at hh
    obtain ⟨⟨⟨a, b⟩, d⟩, f⟩ := hh
    refine c ⟨⟨⟨?_, b⟩, d⟩, by rw [hs]; exact f⟩
    have : limit - found.size ≠ 0 := by
     intro hz; rw [hz] at a; exact nomatch a
    lia
   rw [zg7 s sub hi limit k (i + 1) free found h]
   show _ = found.toList ++ bif _ then _ else _
   rw [e, hx, cond_false]
theorem zg8 (s sub : Str) (lo hi limit : Nat) : Builtin.Str.occurrences s sub lo hi limit = zeT sub.cps.toList sub.length hi (hi + 1 - lo) limit lo lo (s.cps.toList.drop lo) := by
 rw [StrLaws.occ_eq, zg7 s sub hi limit _ _ _ _ (Nat.zero_le _)]
 rfl
noncomputable def zm (x : List Nat) : Str := ⟨x.toArray⟩
theorem zbm (x : List Nat) : (zm x).cps.toList = x := rfl
theorem zja (x : Str) : zm x.cps.toList = x := by induction x with | mk a => induction a; rfl
theorem zoN (s : Str) (i j : Nat) : Builtin.Str.strSub s i j = zm ((s.cps.toList.drop i).take (j - i)) := by
 rw [<- zja (Builtin.Str.strSub s i j), StrLaws.strSub_toList]
theorem zhF (s sub : Str) : Txt.contains s sub = !(zeT sub.cps.toList sub.length s.length (s.length + 1) 1 0 0 s.cps.toList).isEmpty := by
 unfold Txt.contains; rw [zg8]; rfl
def zk8 (x y : List Nat) : List (List Nat) :=
 let cuts := zeT y y.length x.length (x.length + 1) (x.length + 1) 0 0 x
 if cuts.isEmpty then [x] else ((0 :: cuts.map (· + y.length)).zip (cuts ++ [x.length])).map fun p => (x.drop p.1).take (p.2 - p.1)
theorem zk9 (x y : Str) (h : (decide (x.length < y.length) || decide (Builtin.Str.strKind x < Builtin.Str.strKind y)) = false) : Txt.split x y = (zk8 x.cps.toList y.cps.toList).map zm := by
 unfold Txt.split zk8
 rw [h, zg8]
 rw [(show zeT y.cps.toList y.length x.length (x.length + 1 - 0) (x.length + 1) 0 0 (List.drop 0 x.cps.toList) = zeT y.cps.toList y.cps.toList.length x.cps.toList.length (x.cps.toList.length + 1) (x.cps.toList.length + 1) 0 0 x.cps.toList from rfl)]
 generalize zeT y.cps.toList y.cps.toList.length x.cps.toList.length (x.cps.toList.length + 1) (x.cps.toList.length + 1) 0 0 x.cps.toList = cuts
 by_cases c : cuts.isEmpty = true
 ·simp only [c, if_true, Bool.false_eq_true, if_false, List.map_cons, List.map_nil, zja]
 ·simp only [c, if_false, Bool.false_eq_true]
  simp
  apply List.map_congr_left
  intro p hp
  exact zoN x p.1 p.2
def zlV (x y : List Nat) (i j : Nat) : Option Nat := (zeT y y.length (min j x.length) (min j x.length + 1 - i) 1 i i (x.drop i)).head?
theorem zmJ (x y : Str) (i j : Nat) : zhG x y i j = match zlV x.cps.toList y.cps.toList i j with | some k => (k : Int) | none => -1 := by
 have fi : ∀ k : Nat, PySem.fromIndex x.length (k : Int) = k := by
  intro k; unfold PySem.fromIndex; rfl
 unfold zhG zlV
 rw [fi, fi, zg8]
 show (match zeT y.cps.toList y.cps.toList.length (min j x.cps.toList.length) (min j x.cps.toList.length + 1 - i) 1 i i (List.drop i x.cps.toList) with | k :: _ => (k : Int) | [] => -1) = _
 cases zeT y.cps.toList y.cps.toList.length (min j x.cps.toList.length) (min j x.cps.toList.length + 1 - i) 1 i i (List.drop i x.cps.toList) <;> rfl
section
variable {tbl : Nat -> Option Fn} {n : Nat} {ρ : Rho}
theorem zqg {elt gs} : (run tbl (n + 1)).ex ρ (.comp elt gs) = ((zbX (run tbl n) elt gs ρ).map .list).bind zlk := rfl
end
theorem zcI {tbl : Nat -> Option Fn} {n : Nat} {t : Tgt} {b o : List PS} {x : PyData} {xs : List PyData} {ρ ρ1 ρ2 : Rho} (h : zax t x ρ = some ρ1) (hb : zA (run tbl n) b ρ1 = some (ρ2, .next)) : zbZ (run tbl (n + 1)) t b o (x :: xs) ρ = zbZ (run tbl (n + 1)) t b o xs ρ2 := by
 show (zax t x ρ).bind _ = _
 refine rwE h ?_
 show (zA (run tbl n) b ρ1).bind _ = _
 exact rwE hb rfl
theorem zkc {tbl : Nat -> Option Fn} {n : Nat} {t : Tgt} {b o : List PS} {x d : PyData} {xs : List PyData} {ρ ρ1 ρ2 : Rho} (h : zax t x ρ = some ρ1) (hb : zA (run tbl n) b ρ1 = some (ρ2, .ret d)) : zbZ (run tbl (n + 1)) t b o (x :: xs) ρ = some (ρ2, .ret d) := by
 show (zax t x ρ).bind _ = _
 refine rwE h ?_
 show (zA (run tbl n) b ρ1).bind _ = _
 exact rwE hb rfl
def zdM (g : List Nat) (e : Nat) : List Str -> Nat -> Bool
 | [], s => true
 | p :: r, s => match zlV g p.cps.toList s e with
  | none => false
  | some k => zdM g e r (k + p.length)
def zoO (f l : Str) (mid : List Str) (g : List Nat) : Bool :=
 ((Nat.beq f.length 0 || zi9 f.cps.toList g) && (Nat.beq l.length 0 || (Nat.ble l.length g.length && zi9 l.cps.toList (g.drop (g.length - l.length))))) &&
  (Nat.ble f.length (g.length - l.length) && zdM g (g.length - l.length) ((bif Nat.beq f.length 0 then [f] else []) ++ (mid ++ (bif Nat.beq l.length 0 then [l] else []))) f.length)
noncomputable def zqh : List PS := [.asg (.v 3) (.me .find (.v 1) [(.v 5), (.v 3), (.v 4)]), .iff (.cmp .Lt (.v 3) (.c (.int 0))) [.ret (.c (.bool false))] [], .aug 3 .Add (.bi .len [(.v 5)])]
section
variable {tbl : Nat -> Option Fn} {n : Nat}
theorem zkd {g : Str} {e : Nat} {v0 v2 : Option PV} {tl : Rho} : ∀ (ps : List Str) (s : Nat) (v5 : Option PV), (∀ p ∈ ps, p.length <= big) ->
  ∃ ρ', zbZ (run tbl (n + 6)) (.v 5) zqh [] (ps.map .str) (v0 :: some (.d (.str g)) :: v2 :: some (.d (.int (s : Int))) :: some (.d (.int (e : Int))) :: v5 :: tl) =
   some (ρ', if zdM g.cps.toList e ps s = true then .next else .ret (.bool false))
 | [], s, v5, h => ⟨_, rfl⟩
 | p :: r, s, v5, h => by
  have hp := h p (List.mem_cons_self ..)
  have hf := zmJ g p s e
  unfold zdM
  revert hf
  have hE : ∀ x, zhG g p s e = x -> (run tbl (n + 5)).ex (v0 :: some (.d (.str g)) :: v2 :: some (.d (.int (s : Int))) :: some (.d (.int (e : Int))) :: some (.d (.str p)) :: tl) (.me .find (.v 1) [(.v 5), (.v 3), (.v 4)]) = some (.int x) := fun x h => congrArg (fun x => some (PyData.int x)) h
  induction zlV g.cps.toList p.cps.toList s e with
  | none =>
   intro hf
   exact I11 _ (zkc rfl (zi5 (zu (hE _ hf)) (zqb rfl)))
  | some k =>
   intro hf
   refine E11 (zkd (g := g) (e := e) (v0 := v0) (v2 := v2) (tl := tl) r (k + p.length) (some (.d (.str p))) fun q hq => h q (List.mem_cons_of_mem _ hq)) fun ρ' ih => I11 ρ' (Eq.trans (zcI rfl ?_) ih)
   refine zoF (zu (hE _ hf)) (Eq.trans (zqc ?_) rfl) (zqd (x := (k : Int)) (y := (p.length : Int)) rfl (if_pos hp))
   exact congrArg some (decide_eq_false (Int.not_lt.mpr (Int.natCast_nonneg k)))
end
theorem zvx {n : Nat} : (n != 0) = !Nat.beq n 0 := by induction n <;> rfl
theorem zoP {x : Str} (h : x.length <= big) : zap (.str x) = some (!Nat.beq x.length 0) := by
 show (if x.length <= big then some (x.length != 0) else none) = _
 rw [if_pos h, zvx]
theorem zoQ (n : Nat) : seqIndex? (-1) (n + 1) = some n := by
 show (if (decide (0 <= (-1 : Int) + ((n + 1 : Nat) : Int)) && decide ((-1 : Int) + ((n + 1 : Nat) : Int) < ((n + 1 : Nat) : Int))) = true then some ((-1 : Int) + ((n + 1 : Nat) : Int)).toNat else none) = _
 rw [(by lia : ((-1 : Int) + ((n + 1 : Nat) : Int)) = (n : Int)), if_pos (by simp; lia)]; rfl
theorem zoR (n : Nat) : seqIndex? 0 (n + 1) = some 0 := by
 show (if (decide (0 <= (0 : Int)) && decide ((0 : Int) < ((n + 1 : Nat) : Int))) = true then some (0 : Int).toNat else none) = _
 rw [if_pos (by simp only [Bool.and_eq_true, decide_eq_true_eq]; lia)]; rfl
theorem zoS {xs : List PyData} {x : PyData} (h : xs.length + 1 <= big) : zbu (.list (xs ++ [x])) (.int (-1)) = some x := by
 show (if (xs ++ [x]).length <= big then (seqIndex? (-1) (xs ++ [x]).length).bind ((xs ++ [x])[·]?) else none) = _
 rw [(by simp : (xs ++ [x]).length = xs.length + 1), if_pos h, zoQ]; simp
theorem zoT {xs : List PyData} {x : PyData} (h : xs.length + 1 <= big) : zbu (.list (x :: xs)) (.int 0) = some x := by
 show (if xs.length + 1 <= big then (seqIndex? 0 (xs.length + 1)).bind ((x :: xs)[·]?) else none) = _
 rw [if_pos h, zoR]; rfl
theorem zqi {tbl : Nat -> Option Fn} (h7 : tbl 7 = some (.code 2 60 Two2.ellB)) {w g f l : Str} {mid : List Str} {n : Nat} (hc : Txt.contains w (Str.ofString "...") = true) (hs : Txt.split w (Str.ofString "...") = f :: (mid ++ [l]))
  (hw : w.length <= big) (hf : f.length <= big) (hl : l.length <= big) (hm : ∀ p ∈ mid, p.length <= big) (hml : mid.length + 2 <= big) (hg : g.length <= big) (f0 : f.length = 0) (l0 : l.length = 0) :
  (run tbl (n + 12)).call 7 [.str w, .str g] = some (.bool (zoO f l mid g.cps.toList)) := by
 have f1 : zap (.str f) = some false := (zoP hf).trans (by rw [f0]; rfl)
 have l1 : zap (.str l) = some false := (zoP hl).trans (by rw [l0]; rfl)
 have ln : ((f :: (mid ++ [l])).map PyData.str).length = mid.length + 2 := by rw [List.length_map, List.length_cons, List.length_append]; rfl
 have b1 : ((f :: (mid ++ [l])).map PyData.str).length <= big := ln ▸ hml
 have ge : decide ((2 : Int) <= (((f :: (mid ++ [l])).map PyData.str).length : Int)) = true := decide_eq_true (ln ▸ Int.ofNat_le.mpr (Nat.le_add_left 2 _))
 have i0 : zbu (.list ((f :: (mid ++ [l])).map .str)) (.int 0) = some (.str f) := zoT b1
 have i1 : zbu (.list ((f :: (mid ++ [l])).map .str)) (.int (-1)) = some (.str l) := by
  rw [List.map_cons, List.map_append]
  exact zoS (xs := PyData.str f :: mid.map PyData.str) (by rw [List.length_cons, List.length_map]; exact hml)
 have hN : zoO f l mid g.cps.toList = zdM g.cps.toList g.length (f :: (mid ++ [l])) 0 := by
  unfold zoO
  rw [f0, l0]; rfl
 have sp : meD .split (.str w) [.str (Str.ofString "...")] = some (.list ((f :: (mid ++ [l])).map .str)) := (if_pos ⟨hw, by decide⟩).trans (congrArg (fun x => some (PyData.list (x.map .str))) hs)
 have hp : ∀ p ∈ f :: (mid ++ [l]), p.length <= big := fun p h => (List.mem_cons.mp h).elim (fun e => e ▸ hf) fun h => (List.mem_append.mp h).elim (hm p) fun h => List.mem_singleton.mp h ▸ hl
 refine E11 (zkd (tbl := tbl) (n := n + 4) (g := g) (e := g.length) (v0 := some (.d (.str w))) (v2 := some (.d (.list ((f :: (mid ++ [l])).map .str)))) (tl := List.replicate 56 none) (f :: (mid ++ [l])) 0 (some (.d (.str l))) hp) fun ρ' hk => ?_
 rw [hN]
 refine zds (ρ' := ρ') h7 rfl (zP (zbz (t_b (zaj rfl rfl (congrArg (fun b => some (!b)) hc))) rfl) (zP (zlR (zhD rfl rfl sp)) (zP (zsg (t_b (zaj (zfM rfl (if_pos b1)) rfl (congrArg some ge)))) (zP (zi6 (zaS rfl (zan (zfM rfl (if_pos hg)))) rfl) ?_))))
 refine zP (zu (zS rfl rfl i0)) (zP (zbz (t_d rfl f1) rfl) (zP (zu (zS rfl rfl i1)) (zP (zbz (t_d rfl l1) rfl) (zP (zbz (t_b (zaj rfl rfl (congrArg some (decide_eq_false (Int.not_lt.mpr (Int.natCast_nonneg _)))))) rfl) (zP (ρ2 := List.set _ 2 (some (.d (.list ((f :: (mid ++ [l])).map .str))))) rfl ?_)))))
 revert hk
 induction zdM g.cps.toList g.length (f :: (mid ++ [l])) 0 with
 | true => exact fun hk => zP (zdt (zk3 rfl rfl b1) hk) (zaK rfl)
 | false => exact fun hk => zaK (zdt (zk3 rfl rfl b1) hk)
noncomputable def zdU : List Nat -> Nat -> Bool -> List (Nat × List Nat)
 | [], i, esc => if esc then [(i - 1, [92])] else []
 | c :: r, i, true => (i, [92, c]) :: zdU r (i + 1) false
 | c :: r, i, false => if c = 92 then zdU r (i + 1) true else (i, [c]) :: zdU r (i + 1) false
def zla (p : Nat × List Nat) : PyData := .tuple [.int (p.1 : Int), .str (zm p.2)]
theorem zeU : ∀ (r : List Nat) (pos : Nat) (esc : Bool), za3.escapedN r pos esc = (zdU r (pos + 1) esc).map zla
 | [], pos, true => rfl
 | [], pos, false => rfl
 | c :: r, pos, true => by
  show .tuple [.int ((pos + 1 : Nat) : Int), .str ⟨#[92, c]⟩] :: za3.escapedN r (pos + 1) false = _
  rw [zeU r (pos + 1) false]; rfl
 | c :: r, pos, false => by
  show (if c = 92 then za3.escapedN r (pos + 1) true else .tuple [.int ((pos + 1 : Nat) : Int), .str ⟨#[c]⟩] :: za3.escapedN r (pos + 1) false) = _
  rw [zeU r (pos + 1) false, zeU r (pos + 1) true]
  show _ = List.map zla (if c = 92 then zdU r (pos + 1 + 1) true else (pos + 1, [c]) :: zdU r (pos + 1 + 1) false)
  by_cases h : c = 92
  ·rw [if_pos h, if_pos h]
  ·rw [if_neg h, if_neg h]; rfl
theorem zoU (r : List Nat) : za3 r 0 false = (zdU r 0 false).map zla := by
 induction r using List.casesOn with
 | nil => rfl
 | cons c r =>
  show (if c = 92 then za3.escapedN r 0 true else .tuple [.int ((0 : Nat) : Int), .str ⟨#[c]⟩] :: za3.escapedN r 0 false) = _
  rw [zeU r 0 false, zeU r 0 true]
  show _ = List.map zla (if c = 92 then zdU r (0 + 1) true else (0, [c]) :: zdU r (0 + 1) false)
  by_cases h : c = 92
  ·rw [if_pos h, if_pos h]
  ·rw [if_neg h, if_neg h]; rfl
noncomputable def zaV : List Nat -> Bool -> Bool -> List Nat
 | [], esc, q => if esc && !q then [92] else []
 | c :: r, true, q => if q then zaV r false q else 92 :: c :: zaV r false q
 | c :: r, false, q => if c = 92 then zaV r true q else if c = 34 then zaV r false (!q) else if q then zaV r false q else c :: zaV r false q
noncomputable def zfq : List Nat -> Bool -> Bool -> Bool
 | [], esc, q => q
 | c :: r, true, q => zfq r false q
 | c :: r, false, q => if c = 92 then zfq r true q else if c = 34 then zfq r false (!q) else zfq r false q
noncomputable def zdV : List Nat -> Bool -> Int -> Bool
 | [], esc, k => k == 0
 | c :: r, true, k => zdV r false k
 | c :: r, false, k => if c = 92 then zdV r true k else if c = 40 then zdV r false (k + 1) else if c = 41 then (if k - 1 < 0 then false else zdV r false (k - 1)) else zdV r false k
theorem zg9 (a b : List Nat) : (zm a == zm b) = (a == b) := by
 rw [Bool.eq_iff_iff, beq_iff_eq, beq_iff_eq]
 constructor
 ·intro h; rw [<- zbm a, h, zbm]
 ·intro h; rw [h]
theorem zeV (c d : Nat) : (zm [c] == zm [d]) = decide (c = d) := by
 rw [zg9, Bool.eq_iff_iff, beq_iff_eq, decide_eq_true_iff]; simp
theorem zjb (b c d : Nat) : (zm [b, c] == zm [d]) = false := by
 rw [zg9, Bool.eq_false_iff]; intro h; have := beq_iff_eq.mp h; simp at this
theorem zmK {T : List Nat} {i j : Nat} (h : i <= j) (h2 : j <= T.length) : Txt.slice (zm T) (some (i : Int)) (some (j : Int)) = zm ((T.drop i).take (j - i)) := by
 have := beq_iff_eq.mp (slice_closes (x := zm T) (i := (i : Int)) (j := (j : Int)) (I03 (by simp) (by lia) (by rw [zbm]; lia)))
 rw [this, zbm]
 rw [show ((j : Int) - (i : Int)).toNat = j - i by lia]
 rfl
theorem zke {T : List Nat} {i : Nat} (h : i <= T.length) : Txt.slice (zm T) (some (i : Int)) none = zm (T.drop i) := by
 have := beq_iff_eq.mp (slice_closes_from (x := zm T) (i := (i : Int)) ⟨by simp, by rw [zbm]; lia⟩)
 rw [this, zbm]
 rw [show ((T.length : Int) - (i : Int)).toNat = T.length - i by simp, List.take_of_length_le (by simp)]
 rfl
theorem zha : ∀ (l : List Str) (acc : Array Nat), (l.foldl (fun acc p => acc ++ (#[] : Array Nat) ++ p.cps) acc).toList = acc.toList ++ (l.map (·.cps.toList)).flatten
 | [], acc => by simp
 | p :: l, acc => by
  rw [List.foldl_cons, zha l]
  simp
theorem zoV (l : List (List Nat)) : Txt.join (Str.ofString "") (l.map zm) = zm l.flatten := by
 rw [<- zja (Txt.join (Str.ofString "") (l.map zm))]
 congr 1
 show (((l.map zm).drop 1).foldl (fun acc p => acc ++ (#[] : Array Nat) ++ p.cps) ((l.map zm).headD Str.empty).cps).toList = _
 rw [zha]
 induction l using List.casesOn with
 | nil => rfl
 | cons a l =>
  simp
  congr 2
  conv => rhs; rw [<- List.map_id l]
  apply List.map_congr_left
  intro a _; rfl
noncomputable def opD : Option Nat -> PyData
 | none => .none
 | some q => .int (q : Int)
def stR (T : List Nat) (p : Nat) (op : Option Nat) (C : List (List Nat)) (v4 v5 : Option PV) (tl : Rho) : Rho :=
 some (.d (.str (zm T))) :: some (.d (.int (p : Int))) :: some (.d (opD op)) :: some (.m (C.map fun x => .str (zm x))) :: v4 :: v5 :: tl
noncomputable def zhb : List PS := [.iff (.cmp .Eq (.v 5) (.c (.str "\""))) [.iff (.cmp .Is (.v 2) (.c .none)) [.asg (.v 2) (.v 4)] [.iff (.cmp .NotEq (.v 1) (.v 2)) [.app 3 (.sl (.v 0) (some (.v 1)) (some (.v 2)) none)] [], .asg (.v 1) (.bin .Add (.v 4) (.c (.int 1))), .asg (.v 2) (.c .none)]] []]
theorem zih {x : Str} {a b : Option Int} (h : x.length <= big) : zaz (.str x) a b none = some (.str (Txt.slice x a b)) := by
 show (if (none : Option Int) = none /\ x.length <= big then some (PyData.str (Txt.slice x a b)) else none) = _
 rw [if_pos ⟨rfl, h⟩]
section
variable {tbl : Nat -> Option Fn} {n : Nat} {T : List Nat} {p : Nat} {op : Option Nat} {C : List (List Nat)} {tl : Rho} {v4 v5 : Option PV}
theorem zhc {i : Nat} {s : List Nat} (h : (zm s == zm [34]) = false) :
  (run tbl (n + 8)).blk (stR T p op C (some (.d (.int (i : Int)))) (some (.d (.str (zm s)))) tl) zhb = some (stR T p op C (some (.d (.int (i : Int)))) (some (.d (.str (zm s)))) tl, .next) := by
 exact zP (zbz (t_b (zaj rfl rfl (congrArg some h))) rfl) rfl
theorem zqj {i : Nat} :
  (run tbl (n + 8)).blk (stR T p none C (some (.d (.int (i : Int)))) (some (.d (.str (zm [34])))) tl) zhb = some (stR T p (some i) C (some (.d (.int (i : Int)))) (some (.d (.str (zm [34])))) tl, .next) := by
 rfl
theorem zoW {i q : Nat} (hq1 : p <= q) (hq2 : q <= T.length) (hT : T.length <= big) (hC : C.length <= big) :
  (run tbl (n + 8)).blk (stR T p (some q) C (some (.d (.int (i : Int)))) (some (.d (.str (zm [34])))) tl) zhb =
   some (stR T (i + 1) none (if p = q then C else C ++ [(T.drop p).take (q - p)]) (some (.d (.int (i : Int)))) (some (.d (.str (zm [34])))) tl, .next) := by
 have hs : zaz (.str (zm T)) (some (p : Int)) (some (q : Int)) none = some (.str (zm ((T.drop p).take (q - p)))) := by
  rw [zih (x := zm T) hT, zmK hq1 hq2]
 have hCm : (C.map fun x => PyData.str (zm x)).length <= big := by rw [List.length_map]; exact hC
 by_cases e : p = q
 ·have he : eqD (.int (p : Int)) (.int (q : Int)) = some true := by
   show some ((p : Int) == (q : Int)) = _
   rw [e, beq_self_eq_true]
  rw [if_pos e]
  exact zP (zhE rfl (zP (zbz rfl (zP (zbz (t_b (zaj rfl rfl (congrArg (Option.map not) he))) rfl) (zP (zu rfl) (zP (zu rfl) rfl)))) rfl)) rfl
 ·have he : eqD (.int (p : Int)) (.int (q : Int)) = some false := by
   show some ((p : Int) == (q : Int)) = _
   congr 1; rw [beq_eq_false_iff_ne]; intro h; exact e (by lia)
  rw [if_neg e]
  delta stR
  rw [List.map_append]
  exact zP (zhE rfl (zP (zbz rfl (zP (zhE (t_b (zaj rfl rfl (congrArg (Option.map not) he))) (zP (zoG rfl (zeh rfl rfl rfl rfl hs) hCm) rfl)) (zP (zu rfl) (zP (zu rfl) rfl)))) rfl)) rfl
end
def Inv (T : List Nat) (a p : Nat) (op : Option Nat) (C : List (List Nat)) (K : List Nat) : Prop := C.length <= p /\ match op with
 | none => p <= a /\ C.flatten ++ (T.drop p).take (a - p) = K
 | some q => p <= q /\ q < a /\ C.flatten ++ (T.drop p).take (q - p) = K
theorem zqk {T : List Nat} {i c : Nat} {r : List Nat} (h : T.drop i = c :: r) : i + 1 <= T.length := Nat.lt_of_not_le fun k => nomatch (List.drop_eq_nil_of_le k).symm.trans h
theorem zmL {T : List Nat} {i c : Nat} {r : List Nat} (h : T.drop i = c :: r) : T.drop (i + 1) = r := List.drop_drop.symm.trans (congrArg (List.drop 1) h)
theorem zmM {T : List Nat} {i p c : Nat} {r : List Nat} (h : T.drop i = c :: r) (hp : p <= i) : (T.drop p).take (i + 1 - p) = (T.drop p).take (i - p) ++ [c] := by
 rw [Nat.succ_sub hp, List.take_succ, List.getElem?_drop, Nat.add_sub_cancel' hp, <- Nat.add_zero i, <- List.getElem?_drop, h]; rfl
section
variable {T : List Nat} {i p q c : Nat} {op : Option Nat} {C : List (List Nat)} {K r : List Nat}
theorem zeW (h : T.drop i = c :: r) (v : Inv T i p op C K) : Inv T (i + 1) p op C (K ++ if op.isSome then [] else [c]) := by
 induction op with
 | none => exact I03 v.1 (Nat.le_succ_of_le v.2.1) (by rw [zmM h v.2.1, <- List.append_assoc, v.2.2]; rfl)
 | some q => exact I04 v.1 v.2.1 (Nat.lt_succ_of_lt v.2.2.1) (v.2.2.2.trans (List.append_nil K).symm)
theorem zmN (v : Inv T i p (some q) C K) : Inv T (i + 1) (i + 1) none (if p = q then C else C ++ [(T.drop p).take (q - p)]) K := by
 refine I03 ?_ (Nat.le_refl _) ?_
 ·split
  ·exact nle v.1 (Nat.le_succ_of_le (Nat.le_of_lt (Nat.lt_of_le_of_lt v.2.1 v.2.2.1)))
  ·rw [List.length_append]; exact Nat.succ_le_succ (nle v.1 (Nat.le_of_lt (Nat.lt_of_le_of_lt v.2.1 v.2.2.1)))
 ·rw [Nat.sub_self, List.take_zero, List.append_nil, <- v.2.2.2]
  split
  ·rename_i e
   rw [e, Nat.sub_self, List.take_zero, List.append_nil]
  ·rw [List.flatten_append, List.flatten_singleton]
theorem zoX (q : Bool) : K ++ (if q then [] else [92]) ++ (if q then [] else [c]) ++ zaV r false q = K ++ zaV (c :: r) true q := by
 rw [List.append_assoc, List.append_assoc]
 induction q using Bool.casesOn <;> rfl
theorem zoY (q : Bool) (h1 : c ≠ 92) (h2 : c ≠ 34) : K ++ (if q then [] else [c]) ++ zaV r false q = K ++ zaV (c :: r) false q := by
 refine rwE (List.append_assoc ..) (congrArg (K ++ ·) (Eq.trans ?_ ((if_neg h1).trans (if_neg h2)).symm))
 induction q using Bool.casesOn <;> rfl
end
section
variable {tbl : Nat -> Option Fn} {n : Nat} {T : List Nat} {tl : Rho}
def zsk (tbl : Nat -> Option Fn) (n : Nat) (T : List Nat) (tl : Rho) (xs : List PyData) (ρ : Rho) (K : List Nat) (e : Bool) : Prop :=
 ∃ p' op' C' v4' v5', zbZ (run tbl (n + 8)) (.t [.v 4, .v 5]) zhb [] xs ρ = some (stR T p' op' C' v4' v5' tl, .next) /\ Inv T T.length p' op' C' K /\ op'.isSome = e
theorem zdN {x : PyData} {xs : List PyData} {ρ ρ1 ρ2 : Rho} {K : List Nat} {e : Bool} (h : zax (.t [.v 4, .v 5]) x ρ = some ρ1) (hb : (run tbl (n + 8)).blk ρ1 zhb = some (ρ2, .next)) (D : zsk tbl n T tl xs ρ2 K e) : zsk tbl n T tl (x :: xs) ρ K e :=
 E53 D fun p op C a b h1 h2 h3 => I53 p op C a b ((zcI h hb).trans h1) h2 h3
theorem zql (hT : T.length <= big) : ∀ (r : List Nat) (i : Nat) (esc : Bool) (p : Nat) (op : Option Nat) (C : List (List Nat)) (K : List Nat) (v4 v5 : Option PV), T.drop i = r -> i <= T.length ->
  (esc = true -> ∃ j, i = j + 1 /\ T.drop j = 92 :: r) -> Inv T (bif esc then i - 1 else i) p op C K ->
  zsk tbl n T tl ((zdU r i esc).map zla) (stR T p op C v4 v5 tl) (K ++ zaV r esc op.isSome) (zfq r esc op.isSome) := by
 intro r
 induction r with
 | nil =>
  intro i esc p op C K v4 v5 hr hi he hv
  have e := Nat.le_antisymm hi (List.drop_eq_nil_iff.mp hr)
  induction esc with
  | false => exact I53 p op C v4 v5 rfl (rwE (List.append_nil K) (e ▸ hv)) rfl
  | true =>
   refine E12 (he rfl) fun j hj hd => ?_
   subst hj
   refine I53 p op C (some (.d (.int (j : Int)))) (some (.d (.str (zm [92])))) ((zcI rfl (zhc (by rfl))).trans rfl) (e ▸ ?_) rfl
   have := zeW hd hv
   induction op <;> exact this
 | cons c r ih =>
  intro i esc p op C K v4 v5 hr hi he hv
  have hr' := zmL hr
  have hi' := zqk hr
  induction esc with
  | true =>
   refine E12 (he rfl) fun j hj hd => ?_
   subst hj
   refine zdN rfl (zhc (zjb _ _ _)) ?_
   exact zoX (r := r) op.isSome ▸ ih (j + 1 + 1) false p op C _ (some (.d (.int ((j + 1 : Nat) : Int)))) (some (.d (.str (zm [92, c])))) hr' hi' (fun h => nomatch h) (zeW hr (zeW hd hv))
  | false =>
   by_cases c92 : c = 92
   ·subst c92
    exact ih (i + 1) true p op C K v4 v5 hr' hi' (fun _ => I12 i rfl hr) hv
   ·rw [show zdU (c :: r) i false = (i, [c]) :: zdU r (i + 1) false from if_neg c92]
    by_cases c34 : c = 34
    ·refine rwE c34 ?_
     induction op with
     | none => exact zdN rfl zqj (ih (i + 1) false p (some i) C K (some (.d (.int (i : Int)))) (some (.d (.str (zm [34])))) hr' hi' (fun h => nomatch h) (I04 hv.1 hv.2.1 (Nat.lt_succ_self i) hv.2.2))
     | some q =>
      have hq : q <= T.length := nle (Nat.le_of_lt hv.2.2.1) hi
      exact zdN rfl (zoW hv.2.1 hq hT (nle hv.1 (nle hv.2.1 (nle hq hT)))) (ih (i + 1) false (i + 1) none _ K (some (.d (.int (i : Int)))) (some (.d (.str (zm [34])))) hr' hi' (fun h => nomatch h) (zmN hv))
    ·rw [show zfq (c :: r) false op.isSome = zfq r false op.isSome from (if_neg c92).trans (if_neg c34)]
     exact zdN rfl (zhc (by rw [zeV]; exact decide_eq_false c34)) (zoY (r := r) op.isSome c92 c34 ▸ ih (i + 1) false p op C _ (some (.d (.int (i : Int)))) (some (.d (.str (zm [c])))) hr' hi' (fun h => nomatch h) (zeW hr hv))
end
theorem zjc (T : List Nat) (c : Nat) : Txt.contains (zm T) (zm [c]) = decide (c ∈ T) := by
 unfold Txt.contains
 have := empty_one (zm T) c
 rw [show (zm [c] : Str) = ⟨#[c]⟩ from rfl, this, zbm, Bool.not_not]
theorem zdO : ∀ (r : List Nat) (esc : Bool), 34 ∉ r -> zaV r esc false = (if esc then [92] else []) ++ r
 | [], true, _ => rfl
 | [], false, _ => rfl
 | c :: r, true, h => by
  show 92 :: c :: zaV r false false = _
  rw [zdO r false (fun hh => h (List.mem_cons_of_mem _ hh))]; rfl
 | c :: r, false, h => by
  show (if c = 92 then zaV r true false else if c = 34 then zaV r false true else c :: zaV r false false) = c :: r
  have hn : 34 ∉ r := fun hh => h (List.mem_cons_of_mem _ hh)
  by_cases c92 : c = 92
  ·rw [if_pos c92, zdO r true hn, c92]; rfl
  ·rw [if_neg c92, if_neg (fun e => h (by rw [e]; exact List.mem_cons_self ..)), zdO r false hn]; rfl
theorem zb8 : ∀ (r : List Nat) (esc q : Bool), (zaV r esc q).length <= r.length + if esc then 1 else 0
 | [], true, true => Nat.le_succ _
 | [], true, false => Nat.le_refl _
 | [], false, q => Nat.zero_le _
 | c :: r, true, true => by
  show (zaV r false true).length <= _
  have := zb8 r false true
  simp only [List.length_cons, if_true, if_false, Bool.false_eq_true] at *; lia
 | c :: r, true, false => by
  show (92 :: c :: zaV r false false).length <= _
  have := zb8 r false false
  simp only [List.length_cons, if_true, if_false, Bool.false_eq_true] at *; lia
 | c :: r, false, q => by
  show (if c = 92 then zaV r true q else if c = 34 then zaV r false (!q) else if q then zaV r false q else c :: zaV r false q).length <= _
  have h1 := zb8 r true q
  have h2 := zb8 r false q
  have h3 := zb8 r false (!q)
  split
  ·simp only [List.length_cons]; assumption
  ·split
   ·simp only [List.length_cons]; lia
   ·split <;> simp only [List.length_cons] <;> lia
theorem zhd : ∀ (C : List (List Nat)), zd6 (C.map fun x => .str (zm x)) = some (C.map zm)
 | [] => rfl
 | x :: C => by
  show (zd6 (C.map fun x => .str (zm x))).map (zm x :: ·) = _
  rw [zhd C]; rfl
theorem zhe : ∀ (C : List (List Nat)), zbB (C.map zm) = C.flatten.length
 | [] => rfl
 | x :: C => by
  show x.length + zbB (C.map zm) = _
  rw [zhe C, List.flatten_cons, List.length_append]
theorem zlb {C : List (List Nat)} (h : C.flatten.length + C.length <= big) : meD .join (.str (Str.ofString "")) [.list (C.map fun x => .str (zm x))] = some (.str (zm C.flatten)) := by
 show ((zd6 (C.map fun x => .str (zm x))).bind fun ss => if zbB ss + ss.length * ((Str.ofString "").length + 1) <= big then some (PyData.str (Txt.join (Str.ofString "") ss)) else none) = _
 rw [zhd, Option.bind_some, zhe, if_pos (by rw [List.length_map]; show C.flatten.length + C.length * 1 <= big; lia), zoV]
theorem zoZ {tbl : Nat -> Option Fn} (h8 : tbl 8 = some (.code 1 60 Two2.strB)) {T : List Nat} {n : Nat} (hT : T.length <= 1000) (he : zfq T false false = false) :
  (run tbl (n + 12)).call 8 [.str (zm T)] = some (.str (zm (zaV T false false))) := by
 have hb : T.length <= big := nle hT (by decide)
 have hc := zjc T 34
 by_cases hq : 34 ∈ T
 ·rw [decide_eq_true hq] at hc
  refine E53 (zql (tbl := tbl) (n := n + 2) (tl := List.replicate 55 none) hb T 0 false 0 none [] [] none none rfl (Nat.zero_le _) (fun h => nomatch h) (I03 (Nat.le_refl _) (Nat.le_refl _) rfl)) fun p op C a b h1 h2 h3 => ?_
  induction op with
  | some q => exact Bool.noConfusion (h3.trans he)
  | none =>
   have g3 : C.flatten ++ T.drop p = zaV T false false := (congrArg (C.flatten ++ ·) (List.take_of_length_le (Nat.le_of_eq (List.length_drop ..))).symm).trans h2.2.2
   have hs : C.flatten.length + (T.drop p).length <= 1000 := by
    rw [<- List.length_append, g3]; exact nle (zb8 T false false) hT
   have hC : C.length <= 1000 := nle h2.1 (nle h2.2.1 hT)
   have hCm : (C.map fun x => PyData.str (zm x)).length <= big := by rw [List.length_map]; exact nle hC (by decide)
   suffices h : ∃ ρ', zA (run tbl (n + 10)) (Two2.strB.drop 5) (stR T p none C a b (List.replicate 55 none)) = some (ρ', .ret (.str (zm (zaV T false false)))) from
    E11 h fun ρ' h => zds h8 rfl (zP (zbz (t_b (zaj rfl rfl (congrArg (fun b => some (!b)) hc))) rfl) (zP (zu rfl) (zP (zu rfl) (zP (zlR rfl) (zP (zdt (zk4 rfl ((if_pos hb).trans (congrArg some (zoU ..)))) h1) h)))))
   by_cases hp : p < T.length
   ·have hj : meD .join (.str (Str.ofString "")) [.list ((C.map fun x => .str (zm x)) ++ [.str (zm (T.drop p))])] = some (.str (zm (zaV T false false))) := by
     have := zlb (C := C ++ [T.drop p]) (by rw [List.flatten_append, List.flatten_singleton, List.length_append, List.length_append]; exact nle (Nat.add_le_add hs (Nat.succ_le_succ hC)) (by decide))
     rw [List.map_append, List.flatten_append, List.flatten_singleton, g3] at this
     exact this
    exact I11 _ (zP (zhE (t_b (zaj rfl (zfM rfl (if_pos hb)) (congrArg some (decide_eq_true (Int.ofNat_lt.mpr hp))))) (zP (zoG rfl (zeh rfl rfl rfl rfl ((zih (x := zm T) hb).trans (congrArg (fun x => some (PyData.str x)) (zke h2.2.1)))) hCm) rfl)) (zP (ρ2 := List.set _ 3 (some (.d (.list ((C.map fun x => .str (zm x)) ++ [.str (zm (T.drop p))]))))) rfl (zaK (zcu (zhD rfl (zan rfl) hj)))))
   ·have hj := zlb (C := C) (nle (Nat.add_le_add (nle (Nat.le_add_right _ _) hs) hC) (by decide))
    rw [<- List.append_nil C.flatten, <- List.drop_eq_nil_of_le (Nat.not_lt.mp hp), g3] at hj
    exact I11 _ (zP (zbz (t_b (zaj rfl (zfM rfl (if_pos hb)) (congrArg some (decide_eq_false fun h => hp (Int.ofNat_lt.mp h))))) rfl) (zP (ρ2 := List.set _ 3 (some (.d (.list (C.map fun x => .str (zm x)))))) rfl (zaK (zcu (zhD rfl (zan rfl) hj)))))
 ·rw [decide_eq_false hq] at hc
  rw [zdO T false hq]
  exact zds h8 rfl (zaK (zhE (t_b (zaj rfl rfl (congrArg (fun b => some (!b)) hc))) (zaK (zcu rfl))))
def paR (T : List Nat) (k : Int) (v2 v3 : Option PV) (tl : Rho) : Rho := some (.d (.str (zm T))) :: some (.d (.int k)) :: v2 :: v3 :: tl
noncomputable def zfr : List PS := [.iff (.cmp .Eq (.v 3) (.c (.str "("))) [.aug 1 .Add (.c (.int 1))] [.iff (.cmp .Eq (.v 3) (.c (.str ")"))) [.aug 1 .Sub (.c (.int 1)), .iff (.cmp .Lt (.v 1) (.c (.int 0))) [.ret (.c (.bool false))] []] []]]
section
variable {tbl : Nat -> Option Fn} {n : Nat} {T : List Nat} {tl : Rho} {v2 v3 : Option PV} {k : Int}
theorem zqm : (Str.ofString "(" : Str) = zm [40] := rfl
theorem zhf {i : Nat} {s : List Nat} (h : (zm s == zm [40]) = false) (h' : (zm s == zm [41]) = false) :
  (run tbl (n + 8)).blk (paR T k (some (.d (.int (i : Int)))) (some (.d (.str (zm s)))) tl) zfr = some (paR T k (some (.d (.int (i : Int)))) (some (.d (.str (zm s)))) tl, .next) := by
 exact zP (zbz (t_b (zaj rfl rfl (congrArg some h))) (zP (zbz (t_b (zaj rfl rfl (congrArg some h'))) rfl) rfl)) rfl
theorem zqn {i : Nat} :
  (run tbl (n + 8)).blk (paR T k (some (.d (.int (i : Int)))) (some (.d (.str (zm [40])))) tl) zfr = some (paR T (k + 1) (some (.d (.int (i : Int)))) (some (.d (.str (zm [40])))) tl, .next) := rfl
theorem zqo {i : Nat} (h : ¬ k - 1 < 0) :
  (run tbl (n + 8)).blk (paR T k (some (.d (.int (i : Int)))) (some (.d (.str (zm [41])))) tl) zfr = some (paR T (k - 1) (some (.d (.int (i : Int)))) (some (.d (.str (zm [41])))) tl, .next) :=
 zP (zbz rfl (zP (zhE rfl (zP (zk2 rfl rfl rfl rfl) (zP (zbz (t_b (zaj rfl rfl (congrArg some (decide_eq_false h)))) rfl) rfl))) rfl)) rfl
theorem zsl {i : Nat} (h : k - 1 < 0) :
  (run tbl (n + 8)).blk (paR T k (some (.d (.int (i : Int)))) (some (.d (.str (zm [41])))) tl) zfr = some (paR T (k - 1) (some (.d (.int (i : Int)))) (some (.d (.str (zm [41])))) tl, .ret (.bool false)) :=
 zaK (zbz rfl (zaK (zhE rfl (zP (zk2 rfl rfl rfl rfl) (zaK (zhE (t_b (zaj rfl rfl (congrArg some (decide_eq_true h)))) (zaK rfl)))))))
def zlc (tbl : Nat -> Option Fn) (n : Nat) (T : List Nat) (tl : Rho) (xs : List PyData) (ρ : Rho) (b : Bool) : Prop :=
 ∃ k' v2' v3' f, zbZ (run tbl (n + 8)) (.t [.v 2, .v 3]) zfr [] xs ρ = some (paR T k' v2' v3' tl, f) /\ ((f = .next /\ b = (k' == 0)) \/ (f = .ret (.bool false) /\ b = false))
theorem zeX {x : PyData} {xs : List PyData} {ρ ρ1 ρ2 : Rho} {b : Bool} (h : zax (.t [.v 2, .v 3]) x ρ = some ρ1) (hb : (run tbl (n + 8)).blk ρ1 zfr = some (ρ2, .next)) (D : zlc tbl n T tl xs ρ2 b) : zlc tbl n T tl (x :: xs) ρ b :=
 E42 D fun k v w f h1 h2 => I42 k v w f ((zcI h hb).trans h1) h2
theorem zqp : ∀ (r : List Nat) (i : Nat) (esc : Bool) (k : Int) (v2 v3 : Option PV), zlc tbl n T tl ((zdU r i esc).map zla) (paR T k v2 v3 tl) (zdV r esc k) := by
 intro r
 induction r with
 | nil =>
  intro i esc k v2 v3
  induction esc with
  | false => exact I42 k v2 v3 .next rfl (.inl ⟨rfl, rfl⟩)
  | true => exact zeX rfl (zhf (s := [92]) (by rw [zeV]; rfl) (by rw [zeV]; rfl)) (I42 k _ _ .next rfl (.inl ⟨rfl, rfl⟩))
 | cons c r ih =>
  intro i esc k v2 v3
  induction esc with
  | true => exact zeX rfl (zhf (zjb _ _ _) (zjb _ _ _)) (ih (i + 1) false k (some (.d (.int (i : Int)))) (some (.d (.str (zm [92, c])))))
  | false =>
   by_cases c92 : c = 92
   ·subst c92
    exact ih (i + 1) true k v2 v3
   ·rw [show zdU (c :: r) i false = (i, [c]) :: zdU r (i + 1) false from if_neg c92]
    by_cases c40 : c = 40
    ·subst c40
     exact zeX rfl zqn (ih (i + 1) false (k + 1) (some (.d (.int (i : Int)))) (some (.d (.str (zm [40])))))
    ·by_cases c41 : c = 41
     ·subst c41
      by_cases hk : k - 1 < 0
      ·exact I42 (k - 1) (some (.d (.int (i : Int)))) (some (.d (.str (zm [41])))) (.ret (.bool false)) (zkc rfl (zsl hk)) (.inr ⟨rfl, if_pos (α := Bool) hk⟩)
      ·rw [show zdV (41 :: r) false k = zdV r false (k - 1) from if_neg hk]
       exact zeX rfl (zqo hk) (ih (i + 1) false (k - 1) (some (.d (.int (i : Int)))) (some (.d (.str (zm [41])))))
     ·rw [show zdV (c :: r) false k = zdV r false k from (if_neg c92).trans ((if_neg c40).trans (if_neg c41))]
      exact zeX rfl (zhf (by rw [zeV]; exact decide_eq_false c40) (by rw [zeV]; exact decide_eq_false c41)) (ih (i + 1) false k (some (.d (.int (i : Int)))) (some (.d (.str (zm [c])))))
end
theorem zo0 {tbl : Nat -> Option Fn} (h8 : tbl 8 = some (.code 1 60 Two2.strB)) (h9 : tbl 9 = some (.code 1 60 Two2.parB)) {T : List Nat} {n : Nat} (hT : T.length <= 1000) (he : zfq T false false = false) :
  (run tbl (n + 20)).call 9 [.str (zm T)] = some (.bool (zdV (zaV T false false) false 0)) := by
 have hs := zoZ (n := n + 5) h8 hT he
 have hk := zb8 T false false
 generalize zaV T false false = K at hs hk
 have hb : K.length <= big := nle (nle hk hT) (by decide)
 have hg : znd (.str (zm K)) = some ((zdU K 0 false).map zla) := (if_pos hb).trans (congrArg some (zoU ..))
 refine E42 (zqp (tbl := tbl) (n := n + 10) (T := K) (tl := List.replicate 57 none) K 0 false 0 none none) fun k a b f h1 h2 => Or.elim h2 (fun h2 => ?_) fun h2 => ?_
 ·exact zds h9 rfl (zP (zu (zad rfl hs)) (zP (zu rfl) (zP (zdt (zk4 rfl hg) (h1.trans (congrArg (fun f => some (_, f)) h2.1))) (zaK (zcu (h2.2 ▸ rfl))))))
 ·exact Eq.trans (zds h9 rfl (zP (zu (zad rfl hs)) (zP (zu rfl) (zaK (zdt (zk4 rfl hg) (h1.trans (congrArg (fun f => some (_, f)) h2.1))))))) (congrArg (fun b => some (PyData.bool b)) h2.2.symm)
theorem zeY {xs : List PyData} {lo hi : Option Int} {a b : Nat} (e : sliceBounds lo hi none xs.length = ((a : Int), (b : Int), 1)) (hb : b <= xs.length) : zbW xs lo hi none = (xs.drop a).take (b - a) := by
 unfold zbW
 rw [e]
 rw [sliceRange_one]
 by_cases h : a <= b
 ·exact StrLaws.picks xs (b - a) a (by lia)
 ·rw [show b - a = 0 by lia]; rfl
theorem zjd {xs : List PyData} {j : Nat} (h : j <= xs.length) : zbW xs none (some (j : Int)) none = xs.take j := by
 have e : sliceBounds none (some (j : Int)) none xs.length = (((0 : Nat) : Int), ((j : Nat) : Int), 1) := by
  simp only [sliceBounds, Option.getD_none, show ((1 : Int) > 0) = True from by simp, if_true]
  rw [if_neg (by simp)]
  refine Prod.ext rfl (Prod.ext ?_ rfl)
  dsimp only; lia
 rw [zeY e h, List.drop_zero, Nat.sub_zero]
theorem zii {xs : List PyData} {j : Nat} (h : j <= xs.length) : zbW xs (some (j : Int)) none none = xs.drop j := by
 have e : sliceBounds (some (j : Int)) none none xs.length = (((j : Nat) : Int), ((xs.length : Nat) : Int), 1) := by
  simp only [sliceBounds, Option.getD_none, show ((1 : Int) > 0) = True from by simp, if_true]
  rw [if_neg (by simp)]
  refine Prod.ext ?_ (Prod.ext rfl rfl)
  dsimp only; lia
 rw [zeY e (Nat.le_refl _), List.take_of_length_le (by simp)]
theorem zmO {xs : List PyData} (h : 1 <= xs.length) : zbW xs none (some (-1)) none = xs.take (xs.length - 1) := by
 have e : sliceBounds none (some (-1)) none xs.length = (((0 : Nat) : Int), ((xs.length - 1 : Nat) : Int), 1) := by
  simp only [sliceBounds, Option.getD_none, show ((1 : Int) > 0) = True from by simp, if_true]
  refine Prod.ext rfl (Prod.ext ?_ rfl)
  lia
 rw [zeY e (by simp), List.drop_zero, Nat.sub_zero]
theorem zqq {xs : List PyData} (h : 1 <= xs.length) : zbW xs (some 1) (some (-1)) none = (xs.drop 1).take (xs.length - 1 - 1) := by
 have e : sliceBounds (some 1) (some (-1)) none xs.length = (((1 : Nat) : Int), ((xs.length - 1 : Nat) : Int), 1) := by
  simp only [sliceBounds, Option.getD_none, show ((1 : Int) > 0) = True from by simp, if_true]
  refine Prod.ext ?_ (Prod.ext ?_ rfl)
  ·lia
  ·lia
 rw [zeY e (by simp)]
theorem zbn {xs : List PyData} {lo hi : Option Int} (h : xs.length <= big) : zaz (.list xs) lo hi none = some (.list (zbW xs lo hi none)) := by
 show (if _ /\ xs.length <= big then some (PyData.list (zbW xs lo hi none)) else none) = _
 rw [if_pos ⟨by decide, h⟩]
section
variable {S : Sv} {ρ : Rho} {elt : PE} {i : Nat} {it : PE} {xs : List PyData} {f : PyData -> PyData}
theorem zeZ {α β : Type} {F : α -> Option (List β)} {g : α -> List β} : ∀ {xs : List α}, (∀ x ∈ xs, F x = some (g x)) -> zgi F xs = some (xs.flatMap g)
 | [], _ => rfl
 | x :: xs, h => by
  show (F x).bind _ = _
  rw [h x (List.mem_cons_self ..), Option.bind_some, zeZ fun y hy => h y (List.mem_cons_of_mem _ hy)]
  rfl
theorem zlW (hit : itD S (ρ.set i none) it = some xs) (h : ∀ x ∈ xs, S.ex ((ρ.set i none).set i (some (.d x))) elt = some (f x)) : zbX S elt [.mk (.v i) it []] ρ = some (xs.map f) := by
 show (itD S (ρ.set i none) it).bind _ = _
 rw [hit, Option.bind_some, zeZ (g := fun x => [f x])]
 ·congr 1; clear hit h; induction xs with
  | nil => rfl
  | cons x xs ih => simp [ih]
 ·intro x hx
  show ((S.ex ((ρ.set i none).set i (some (.d x))) elt).map fun d => [d]) = _
  rw [h x hx]; rfl
theorem zsm {c : PE} {p : PyData -> Bool} (hit : itD S (ρ.set i none) it = some xs) (hc : ∀ x ∈ xs, zcw S ((ρ.set i none).set i (some (.d x))) c = some (p x)) (h : ∀ x ∈ xs, p x = true -> S.ex ((ρ.set i none).set i (some (.d x))) elt = some (f x)) :
  zbX S elt [.mk (.v i) it [c]] ρ = some ((xs.filter p).map f) := by
 show (itD S (ρ.set i none) it).bind _ = _
 rw [hit, Option.bind_some, zeZ (g := fun x => if p x then [f x] else [])]
 ·congr 1
  clear hit hc h
  induction xs with
  | nil => rfl
  | cons x xs ih => cases hp : p x <;> simp [hp, ih]
 ·intro x hx
  show ((zcw S ((ρ.set i none).set i (some (.d x))) c).bind fun b => if b then some true else some false).bind _ = _
  rw [hc x hx, Option.bind_some]
  induction hp : p x with
  | true =>
   show ((S.ex ((ρ.set i none).set i (some (.d x))) elt).map fun d => [d]) = _
   rw [h x hx hp]; rfl
  | false => rfl
end
inductive zc9 where
 | o | s | n (i : Nat)
noncomputable def zdv : List zc9 -> Int -> Bool
 | [], k => k == 0
 | .o :: r, k => zdv r (k + 1)
 | .s :: r, k => if k - 1 < 0 then false else zdv r (k - 1)
 | .n _ :: r, k => zdv r k
noncomputable def tkN : Tr -> List zc9
 | .leaf l => [.n l]
 | .pair a b => .o :: (tkN a ++ tkN b ++ [.s])
theorem zdP : ∀ t, (tkN t).length = t.size
 | .leaf _ => rfl
 | .pair a b => by simp [tkN, Tr.size, zdP a, zdP b]; rfl
theorem zau : ∀ (t : Tr) (r : List zc9) (k : Int), 0 <= k -> zdv (tkN t ++ r) k = zdv r k
 | .leaf l, r, k, h => rfl
 | .pair a b, r, k, h => by
  show zdv ((tkN a ++ tkN b ++ [.s]) ++ r) (k + 1) = _
  rw [List.append_assoc, List.append_assoc, zau a _ _ (by lia), zau b _ _ (by lia)]
  show (if k + 1 - 1 < 0 then false else zdv r (k + 1 - 1)) = _
  rw [if_neg (by lia), show k + 1 - 1 = k by lia]
theorem zqr {k : Int} (h : 0 < k) : (k == 0) = false := beq_eq_false_iff_ne.mpr (Int.ne_of_gt h)
theorem zlX (t : Tr) (i : Nat) (k : Int) (h : 0 < k) : zdv ((tkN t).take i) k = false := by
 induction t generalizing i k with
 | leaf l =>
  induction i using Nat.casesOn with
  | zero => exact zqr h
  | succ i => rw [List.take_of_length_le (show 1 <= i + 1 from Nat.le_add_left 1 i)]; exact zqr h
 | pair a b iha ihb =>
  induction i using Nat.casesOn with
  | zero => exact zqr h
  | succ i =>
   have h' : 0 < k + 1 := Int.lt_add_one_of_le (Int.le_of_lt h)
   show zdv ((tkN a ++ tkN b ++ [zc9.s]).take i) (k + 1) = false
   rw [List.append_assoc, List.take_append]
   by_cases h1 : i <= (tkN a).length
   ·rw [Nat.sub_eq_zero_of_le h1, List.take_zero, List.append_nil]
    exact iha i _ h'
   ·rw [List.take_of_length_le (Nat.le_of_not_le h1), zau a _ _ (Int.le_of_lt h'), List.take_append]
    by_cases h2 : i - (tkN a).length <= (tkN b).length
    ·rw [Nat.sub_eq_zero_of_le h2, List.take_zero, List.append_nil]
     exact ihb _ _ h'
    ·rw [List.take_of_length_le (Nat.le_of_not_le h2), zau b _ _ (Int.le_of_lt h'), List.take_of_length_le (Nat.sub_pos_of_lt (Nat.lt_of_not_le h2))]
     show (if k + 1 - 1 < 0 then false else k + 1 - 1 == 0) = false
     rw [Int.add_sub_cancel, if_neg (Int.not_lt.mpr (Int.le_of_lt h))]; exact zqr h
theorem zij (t : Tr) (i : Nat) (h0 : 0 < i) (h1 : i < (tkN t).length) : zdv ((tkN t).take i) 0 = false := by
 induction t using Tr.casesOn with
 | leaf l => exact absurd h0 (Nat.not_lt.mpr (Nat.le_of_lt_succ h1))
 | pair a b =>
  induction i using Nat.casesOn with
  | zero => exact absurd h0 (Nat.lt_irrefl 0)
  | succ i =>
   have h1 : i <= (tkN a).length + (tkN b).length := by
    have := Nat.lt_of_succ_lt_succ h1
    rw [List.length_append, List.length_append] at this
    exact Nat.le_of_lt_succ this
   show zdv ((tkN a ++ tkN b ++ [zc9.s]).take i) (0 + 1) = false
   rw [List.append_assoc, List.take_append]
   by_cases h2 : i <= (tkN a).length
   ·rw [Nat.sub_eq_zero_of_le h2, List.take_zero, List.append_nil]
    exact zlX a i _ (by decide)
   ·rw [List.take_of_length_le (Nat.le_of_not_le h2), zau a _ _ (by decide), List.take_append]
    rw [Nat.sub_eq_zero_of_le (Nat.sub_le_iff_le_add'.mpr h1), List.take_zero, List.append_nil]
    exact zlX b _ _ (by decide)
theorem zld (a b : Tr) (i : Nat) (h0 : 0 < i) (h1 : i < (tkN a ++ tkN b).length) : zdv ((tkN a ++ tkN b).take i) 0 = decide (i = (tkN a).length) := by
 rw [List.length_append] at h1
 rw [List.take_append]
 by_cases h : i < (tkN a).length
 ·rw [Nat.sub_eq_zero_of_le (Nat.le_of_lt h), List.take_zero, List.append_nil, zij a i h0 h, decide_eq_false (Nat.ne_of_lt h)]
 ·rw [List.take_of_length_le (Nat.le_of_not_lt h), zau a _ _ (Int.le_refl 0)]
  by_cases h2 : i = (tkN a).length
  ·rw [h2, Nat.sub_self, List.take_zero, decide_eq_true rfl]; rfl
  ·rw [zij b _ (Nat.sub_pos_of_lt (Nat.lt_of_le_of_ne (Nat.le_of_not_lt h) (Ne.symm h2))) (Nat.sub_lt_left_of_lt_add (Nat.le_of_not_lt h) h1), decide_eq_false h2]
def zkf (w : List Nat) : Prop := ∃ kw, (∀ r, zaV (w ++ r) false false = kw ++ zaV r false false) /\ (∀ r, zfq (w ++ r) false false = zfq r false false) /\ ∀ r k, zdV (kw ++ r) false k = zdV r false k
noncomputable def ze0 : Nat -> List Nat
 | 0 => []
 | 1 => [34, 41, 34]
 | 2 => [92, 40]
 | 3 => [92, 92]
 | 4 => [34, 40, 34]
 | 5 => [34, 92, 34, 41, 34]
 | 6 => [97, 92, 34]
 | _ => [92, 41]
theorem zkf.app {u v : List Nat} (a : zkf u) (b : zkf v) : zkf (u ++ v) :=
 E13 a fun x x1 x2 x3 => E13 b fun y y1 y2 y3 => I13 (x ++ y) (fun r => by rw [List.append_assoc, x1, y1, List.append_assoc])
  (fun r => by rw [List.append_assoc, x2, y2]) (fun r k => by rw [List.append_assoc, x3, y3])
theorem zmP (k : Nat) (hk : k < 8) : zkf (ze0 k) := by
 refine lt8 hk ?_ ?_ ?_ ?_ ?_ ?_ ?_ ?_
 ·exact I13 [] (fun r => rfl) (fun r => rfl) (fun r k => rfl)
 ·exact I13 [] (fun r => rfl) (fun r => rfl) (fun r k => rfl)
 ·exact I13 ([92, 40]) (fun r => rfl) (fun r => rfl) (fun r k => rfl)
 ·exact I13 ([92, 92]) (fun r => rfl) (fun r => rfl) (fun r k => rfl)
 ·exact I13 [] (fun r => rfl) (fun r => rfl) (fun r k => rfl)
 ·exact I13 [] (fun r => rfl) (fun r => rfl) (fun r k => rfl)
 ·exact I13 ([97, 92, 34]) (fun r => rfl) (fun r => rfl) (fun r k => rfl)
 ·exact I13 ([92, 41]) (fun r => rfl) (fun r => rfl) (fun r k => rfl)
theorem zo1 (k j : Nat) (hk : k < 8) (hj : j < 3) : zkf (ze0 k ++ [112 + j]) :=
 (zmP k hk).app (lt3 (P := fun j => zkf [112 + j]) hj (I13 [112] (fun r => rfl) (fun r => rfl) (fun r k => rfl)) (I13 [113] (fun r => rfl) (fun r => rfl) (fun r k => rfl)) (I13 [114] (fun r => rfl) (fun r => rfl) (fun r k => rfl)))
noncomputable def zmQ (nm : Nat -> List Nat) : zc9 -> List Nat
 | .o => [40]
 | .s => [41]
 | .n i => nm i
def zcl (nm : Nat -> List Nat) (ts : List zc9) : List Nat := (ts.map (zmQ nm)).flatten
def tkD (nm : Nat -> List Nat) (ts : List zc9) : List PyData := (ts.map (zmQ nm)).map fun x => .str (zm x)
structure Nm (nm : Nat -> List Nat) : Prop where
 neut : ∀ i, zkf (nm i)
 len : ∀ i, (nm i).length <= 6
 sok : ∀ i, (PyData.str (zm (nm i))).canLay0 = true
 diff : ∀ i j, i < 3 -> j < 3 -> (zm (nm i) == zm (nm j)) = decide (i = j)
theorem zdw {nm : Nat -> List Nat} (h : Nm nm) : ∀ (ts : List zc9) (k : Int), zdV (zaV (zcl nm ts) false false) false k = zdv ts k /\ zfq (zcl nm ts) false false = false
 | [], k => ⟨rfl, rfl⟩
 | .o :: r, k => zdw h r (k + 1)
 | .s :: r, k => by
  have := zdw h r (k - 1)
  refine ⟨?_, this.2⟩
  show (if k - 1 < 0 then false else zdV (zaV (zcl nm r) false false) false (k - 1)) = if k - 1 < 0 then false else zdv r (k - 1)
  rw [this.1]
 | .n i :: r, k => by
  obtain ⟨kw, h1, h2, h3⟩ := h.neut i
  have := zdw h r k
  refine ⟨?_, ?_⟩
  ·show zdV (zaV (nm i ++ zcl nm r) false false) false k = _
   rw [h1, h3]; exact this.1
  ·show zfq (nm i ++ zcl nm r) false false = _
   rw [h2]; exact this.2
theorem ze1 {nm : Nat -> List Nat} (h : Nm nm) : ∀ (ts : List zc9), (zcl nm ts).length <= 6 * ts.length
 | [] => Nat.le_refl _
 | t :: r => by
  have := ze1 h r
  rw [(show zcl nm (t :: r) = zmQ nm t ++ zcl nm r from rfl), List.length_append, List.length_cons]
  have : (zmQ nm t).length <= 6 := by
   induction t with
   | o => show 1 <= 6; lia
   | s => show 1 <= 6; lia
   | n i => exact h.len i
  lia
section
variable {tbl : Nat -> Option Fn} {nm : Nat -> List Nat} {n : Nat}
theorem zcY (h8 : tbl 8 = some (.code 1 60 Two2.strB)) (h9 : tbl 9 = some (.code 1 60 Two2.parB)) (h : Nm nm) {ts : List zc9} (hl : ts.length <= 150) :
  (run tbl (n + 20)).call 9 [.str (zm (zcl nm ts))] = some (.bool (zdv ts 0)) := by
 have := ze1 h ts
 rw [zo0 h8 h9 (by lia) (zdw h ts 0).2, (zdw h ts 0).1]
theorem zdQ (h : Nm nm) {ts : List zc9} (hl : ts.length <= 150) : meD .join (.str (Str.ofString "")) [.list (tkD nm ts)] = some (.str (zm (zcl nm ts))) := by
 have h1 := ze1 h ts
 have := zlb (C := ts.map (zmQ nm)) (by rw [List.length_map]; show (zcl nm ts).length + _ <= 1000000; lia)
 exact this
def nmD (nm : Nat -> List Nat) : List PyData := [.str (zm (nm 0)), .str (zm (nm 1)), .str (zm (nm 2))]
theorem zje : ∀ (t : Tr), t.ok -> toks (nmD nm) t = tkD nm (tkN t)
 | .leaf l, h => by
  match l, h with
  | 0, _ => rfl
  | 1, _ => rfl
  | 2, _ => rfl
 | .pair a b, h => by
  show [PyData.str "("] ++ toks (nmD nm) a ++ toks (nmD nm) b ++ [PyData.str ")"] = tkD nm (.o :: (tkN a ++ tkN b ++ [.s]))
  rw [zje a h.1, zje b h.2]
  unfold tkD
  simp only [List.map_append, List.map_cons, List.map_nil, List.cons_append, List.nil_append]
  rfl
theorem zik : ∀ (m j : Nat), j < m -> (List.range m).filter (fun k => decide (k = j)) = [j]
 | 0, j, h => by lia
 | m + 1, j, h => by
  rw [List.range_succ, List.filter_append]
  by_cases e : j = m
  ·subst e
   have : (List.range j).filter (fun k => decide (k = j)) = [] := by
    rw [List.filter_eq_nil_iff]; intro k hk; have := List.mem_range.mp hk; lia
   rw [this]; simp
  ·rw [zik m j (by lia)]
   have : ¬ m = j := fun h => e h.symm
   simp [this]
theorem zbs (ts : List zc9) : (tkD nm ts).length = ts.length := by simp [tkD]
theorem zhg (ts : List zc9) (i : Nat) : (tkD nm ts).take i = tkD nm (ts.take i) := by simp [tkD, List.map_take]
theorem zhh (ts : List zc9) (i : Nat) : (tkD nm ts).drop i = tkD nm (ts.drop i) := by simp [tkD, List.map_drop]
theorem zui {L : Nat} (h1 : 1 <= L) (h : L <= 1000) : zrn [.int 1, .int (L : Int)] = some ((List.range (L - 1)).map fun (k : Nat) => .int (1 + (k : Int))) := by
 refine (if_pos (α := Option (List PyData)) (I04 (by simp) (by decide) (Int.le_trans (by decide) (Int.natCast_nonneg L)) (Int.ofNat_le.mpr (nle h (by decide))))).trans ?_
 rw [<- Int.ofNat_sub h1, Int.toNat_natCast]
theorem zo2 (h : Nm nm) (i : Nat) : okD (.str (zm (nm i))) = true := by
 show ((PyData.str (zm (nm i))).canLay0 && decide ((0 : Nat) <= 64)) = true
 rw [h.sok]; rfl
theorem zra (h : Nm nm) : okD (.list (nmD nm)) = true := by
 show (((PyData.str (zm (nm 0))).canLay0 && ((PyData.str (zm (nm 1))).canLay0 && ((PyData.str (zm (nm 2))).canLay0 && true))) && decide ((1 : Nat) <= 64)) = true
 rw [h.sok, h.sok, h.sok]; rfl
theorem zmR (h11 : tbl 11 = some (.code 2 60 Two2.readB)) (h : Nm nm) {l : Nat} (hl : l < 3) : (run tbl (n + 12)).call 11 [.list (tkD nm (tkN (.leaf l))), .list (nmD nm)] = some (.int (l : Int)) := by
 have d := fun i hi => h.diff i l hi hl
 have d0 := d 0 (by simp)
 have d1 := d 1 (by simp)
 have d2 := d 2 (by simp)
 have hin : zfQ .In (.str (zm (nm l))) (.list (nmD nm)) = some true := by
  refine (if_pos (by rw [zo2 h, zra h]; rfl)).trans (congrArg some ?_)
  show ((zm (nm 0) == zm (nm l)) || ((zm (nm 1) == zm (nm l)) || ((zm (nm 2) == zm (nm l)) || false))) = _
  rw [d0, d1, d2]
  exact lt3 hl rfl rfl rfl
 have hix : meD .index (.list (nmD nm)) [.str (zm (nm l))] = some (.int (l : Int)) := by
  refine (if_pos (I03 (show 3 <= big by decide) (zo2 h l) (zra h))).trans ?_
  show (if (zm (nm 0) == zm (nm l)) then some 0 else if (zm (nm 1) == zm (nm l)) then some 1 else if (zm (nm 2) == zm (nm l)) then some 2 else none).map (fun (k : Nat) => PyData.int (k : Int)) = _
  rw [d0, d1, d2]
  exact lt3 hl rfl rfl rfl
 exact zds h11 rfl (zaK (zhE (t_b (zaj (zfM rfl rfl) rfl rfl)) (zaK (zcu (x_T (t_b (zaj (zS rfl rfl rfl) rfl hin)) (zhD rfl (zan (zS rfl rfl rfl)) hix))))))
def rdP (la : Nat) (x : PyData) : Bool := decide (((zw x).getD 0).toNat = la)
noncomputable def rdX (L : Nat) : List PyData := (List.range (L - 1)).map fun (k : Nat) => .int (1 + (k : Int))
@[elab_as_elim] theorem zlY {L : Nat} {x : PyData} {P : PyData -> Prop} (h : x ∈ rdX L) (k : ∀ j : Nat, 1 + j < L -> P (.int ((1 + j : Nat) : Int))) : P x := by
 obtain ⟨j, hj, e⟩ := List.mem_map.mp h
 exact e ▸ k j (by have := List.mem_range.mp hj; omega)
theorem zmS {L la : Nat} (h0 : 1 <= la) (h : la < L) : (rdX L).filter (rdP la) = [.int (la : Int)] := by
 refine List.filter_map.trans ?_
 rw [show (rdP la ∘ fun (k : Nat) => PyData.int (1 + (k : Int))) = fun k => decide (k = la - 1) from funext fun k => decide_eq_decide.mpr (show 1 + k = la ↔ k = la - 1 by lia), zik (L - 1) (la - 1) (by omega)]
 exact congrArg (fun i : Nat => [PyData.int (i : Int)]) (Nat.add_sub_cancel' h0)
theorem zlZ {L la j : Nat} (h : 1 + j < L) : ((rdX L).map fun x => PyData.bool (rdP la x))[j]? = some (.bool (decide (1 + j = la))) := by
 refine List.getElem?_map.trans ?_
 rw [show (rdX L)[j]? = some (.int ((1 + j : Nat) : Int)) from List.getElem?_map.trans (congrArg (Option.map _) (List.getElem?_range (by omega)))]
 rfl
noncomputable def rdR (t m b : List PyData) (v3 v4 v9 : Option PV) : Rho := some (.d (.list t)) :: some (.d (.list m)) :: some (.d (.list b)) :: v3 :: v4 :: none :: none :: none :: none :: v9 :: List.replicate 52 none
theorem zo3 {t m b : List PyData} {v3 v4 v9 : Option PV} (h1 : 1 <= b.length) (h : b.length <= 1000) : itD (run tbl (n + 1)) (rdR t m b v3 v4 v9) (.rng [(.c (.int 1)), (.bi .len [(.v 2)])]) = some (rdX b.length) :=
 zsh (zaS rfl (zan (zfM rfl (if_pos (nle h (by decide)))))) (zui h1 h)
theorem zmT (h8 : tbl 8 = some (.code 1 60 Two2.strB)) (h9 : tbl 9 = some (.code 1 60 Two2.parB)) (h11 : tbl 11 = some (.code 2 60 Two2.readB)) (h : Nm nm) {a b : Tr} (hs : (Tr.pair a b).size <= 140) {x y : PyData}
  (ha : (run tbl (n + 36)).call 11 [.list (tkD nm (tkN a)), .list (nmD nm)] = some x) (hb : (run tbl (n + 36)).call 11 [.list (tkD nm (tkN b)), .list (nmD nm)] = some y) :
  (run tbl (n + 40)).call 11 [.list (tkD nm (tkN (.pair a b))), .list (nmD nm)] = some (.list [x, y]) := by
 have la1 : 1 <= (tkN a).length := by induction a <;> exact Nat.le_add_left 1 _
 have lb1 : 1 <= (tkN b).length := by induction b <;> exact Nat.le_add_left 1 _
 have hsz : (tkN a).length + (tkN b).length + 2 <= 140 := by rw [zdP, zdP]; exact hs
 have tb : (tkN a ++ tkN b).drop (tkN a).length = tkN b := List.drop_left
 have hl : (tkD nm (tkN a ++ tkN b)).length = (tkN a).length + (tkN b).length := by rw [zbs, List.length_append]
 have hT : (tkD nm (tkN (.pair a b))).length = (tkD nm (tkN a ++ tkN b)).length + 2 := by rw [zbs, zbs]; exact congrArg (· + 1) List.length_append
 have hL : (tkD nm (tkN a ++ tkN b)).length <= 138 := hl ▸ Nat.le_of_add_le_add_right hsz
 have hB : (tkD nm (tkN a ++ tkN b)).length <= big := nle hL (by decide)
 have tB : (tkD nm (tkN (.pair a b))).length <= big := by rw [hT]; exact nle (Nat.add_le_add_right hL 2) (by decide)
 have e1 : zfQ .Eq (.int ((tkD nm (tkN (.pair a b))).length : Int)) (.int 1) = some false := by rw [hT]; rfl
 have s1 : zaz (.list (tkD nm (tkN (.pair a b)))) (some 1) (some (-1)) none = some (.list (tkD nm (tkN a ++ tkN b))) := by
  rw [zbn tB, zqq (by rw [hT]; exact Nat.le_add_left 1 _), hT, zhh, zhg, zbs]
  exact congrArg (fun x => some (PyData.list (tkD nm x))) (List.take_left (l₁ := tkN a ++ tkN b) (l₂ := [zc9.s]))
 have s2 : ∀ {i : Nat}, i <= (tkD nm (tkN a ++ tkN b)).length -> zaz (.list (tkD nm (tkN a ++ tkN b))) none (some (i : Int)) none = some (.list (tkD nm ((tkN a ++ tkN b).take i))) := fun hi => by
  rw [zbn hB, zjd hi, zhg]
 have s7 : zaz (.list (tkD nm (tkN a ++ tkN b))) (some ((tkN a).length : Int)) none none = some (.list (tkD nm (tkN b))) := by
  rw [zbn hB, zii (by rw [hl]; exact Nat.le_add_right _ _), zhh, tb]
 have l1 : 1 <= (tkD nm (tkN a ++ tkN b)).length := by rw [hl]; exact nle la1 (Nat.le_add_right _ _)
 have l3 : (tkD nm (tkN a ++ tkN b)).length <= 1000 := nle hL (by simp)
 have lx : (rdX (tkD nm (tkN a ++ tkN b)).length).length <= big := by
  refine nle (Nat.le_of_eq ((List.length_map ..).trans List.length_range)) (nle (Nat.sub_le _ _) hB)
 have hlt : (tkN a).length < (tkD nm (tkN a ++ tkN b)).length := by rw [hl]; exact Nat.lt_add_of_pos_right lb1
 have ka : ∀ x ∈ rdX (tkD nm (tkN a ++ tkN b)).length, (run tbl (n + 37)).ex (rdR (tkD nm (tkN (.pair a b))) (nmD nm) (tkD nm (tkN a ++ tkN b)) none none (some (.d x)))
   (.call 9 [(.me .join (.c (.str "")) [(.sl (.v 2) none (some (.v 9)) none)])]) = some (.bool (rdP (tkN a).length x)) := by
  intro x hx
  refine zlY hx fun j hj => ?_
  have k : ((tkN a ++ tkN b).take (1 + j)).length <= 150 := by rw [List.length_take]; exact nle (Nat.min_le_left ..) (nle (Nat.le_of_lt hj) (nle hL (by simp)))
  refine zad (zan (zhD rfl (zan (zeh rfl rfl rfl rfl (s2 (Nat.le_of_lt hj)))) (zdQ h k))) ((zcY (n := n + 16) h8 h9 h k).trans ?_)
  rw [(zld a b) (1 + j) (Nat.lt_of_lt_of_le Nat.zero_lt_one (Nat.le_add_right 1 j)) (by rw [<- zbs (nm := nm)]; exact hj)]; rfl
 have C2 := zsm (S := run tbl (n + 37)) (ρ := rdR (tkD nm (tkN (.pair a b))) (nmD nm) (tkD nm (tkN a ++ tkN b)) (some (.d (.list ((rdX (tkD nm (tkN a ++ tkN b)).length).map fun x => PyData.bool (rdP (tkN a).length x))))) none none) (i := 9)
  (c := .cmp .IsNot (.idx (.v 3) (.bin .Sub (.v 9) (.c (.int 1)))) (.c (.bool false))) (elt := .v 9) (f := fun x => x) (p := rdP (tkN a).length) (zo3 l1 l3) (fun x hx => by
   refine zlY hx fun j hj => ?_
   exact t_b (zaj (zS rfl (zJ rfl rfl rfl) ((congrArg (fun i => zbu _ (.int i)) (show ((1 + j : Nat) : Int) - 1 = (j : Int) by lia)).trans (zgb (L := j) (zlZ (la := (tkN a).length) hj) (by rw [List.length_map]; exact lx)))) rfl (by
    show some (!(decide (1 + j = (tkN a).length) == false)) = some (decide (1 + j = (tkN a).length))
    induction decide (1 + j = (tkN a).length) <;> rfl))) fun _ _ _ => rfl
 have C2 := (zmS la1 hlt) ▸ C2
 have i5 : zbu (.list ((rdX (tkD nm (tkN a ++ tkN b)).length).map fun x => PyData.bool (rdP (tkN a).length x))) (.int (((tkN a).length : Int) - 1)) = some (.bool true) := by
  have e : 1 + ((tkN a).length - 1) = (tkN a).length := Nat.add_sub_cancel' la1
  have := zlZ (la := (tkN a).length) (show 1 + ((tkN a).length - 1) < (tkD nm (tkN a ++ tkN b)).length from e.symm ▸ hlt)
  rw [decide_eq_true e] at this
  rw [<- Int.ofNat_sub la1]
  exact zgb this (by rw [List.length_map]; exact lx)
 exact zds h11 rfl (zP (zbz (t_b (zaj (zfM rfl (if_pos tB)) rfl e1)) rfl) (zP (zu (zeh rfl rfl rfl rfl s1)) (zP (zu (zbD (zlW (S := run tbl (n + 37)) (ρ := rdR (tkD nm (tkN (.pair a b))) (nmD nm) (tkD nm (tkN a ++ tkN b)) none none none) (i := 9) (f := fun x => .bool (rdP (tkN a).length x)) (zo3 l1 l3) ka) (by rw [List.length_map]; exact lx))) (zP (zu (zbD C2 (show 1 <= big by decide)))
  (zP (zbz (t_d (zmE (zoE (zaj (zfM rfl rfl) rfl rfl) rfl (zaj (zS rfl (zJ (zS rfl rfl rfl) rfl rfl) i5) rfl rfl))) rfl) rfl)
   (zaK (zcu (zg4 (zaS (zad (zaS (zeh rfl rfl rfl rfl ((s2 (Nat.le_of_lt hlt)).trans (congrArg (fun x => some (PyData.list (tkD nm x))) List.take_left))) (zan rfl)) ha) (zan (zad (zaS (zeh rfl rfl rfl rfl s7) (zan rfl)) hb)))))))))))
end
theorem zjf {tbl : Nat -> Option Fn} {nm : Nat -> List Nat} (h8 : tbl 8 = some (.code 1 60 Two2.strB)) (h9 : tbl 9 = some (.code 1 60 Two2.parB)) (h11 : tbl 11 = some (.code 2 60 Two2.readB)) (h : Nm nm) :
  ∀ (t : Tr), t.ok -> t.size <= 140 -> ∀ n, (run tbl (n + 10 * t.depth + 60)).call 11 [.list (tkD nm (tkN t)), .list (nmD nm)] = some (trD t)
 | .leaf l, hk, hs, n => zmR (n := n + 10 * 0 + 48) h11 h hk
 | .pair a b, hk, hs, n => by
  have hd : Tr.depth (.pair a b) = max a.depth b.depth + 1 := rfl
  have hs' : a.size + b.size + 2 <= 140 := hs
  rw [show n + 10 * Tr.depth (.pair a b) + 60 = (n + 10 * max a.depth b.depth + 30) + 40 by rw [hd]; lia]
  exact zmT h8 h9 h11 h hs ((zat (by lia)).call _ _ _ (zjf h8 h9 h11 h a hk.1 (by lia) n)) ((zat (by lia)).call _ _ _ (zjf h8 h9 h11 h b hk.2 (by lia) n))
def Has (ρ : Rho) (i : Nat) (d : PyData) : Prop := ρ[i]? = some (some (.d d))
theorem zg {ρ : Rho} {i j : Nat} {d : PyData} {v : Option PV} (h : Has ρ i d) (hn : (j == i) = false) : Has (ρ.set j v) i d := by
 have : ¬ j = i := by rw [beq_eq_false_iff_ne] at hn; exact hn
 unfold Has; rw [List.getElem?_set, if_neg this]; exact h
theorem zG {ρ : Rho} {i : Nat} {d : PyData} (h : i < ρ.length) : Has (ρ.set i (some (.d d))) i d := by
 unfold Has; rw [List.getElem?_set, if_pos rfl, if_pos h]
section
variable {S : Sv} {tbl : Nat -> Option Fn} {ρ : Rho} {n : Nat}
theorem zH {i : Nat} {d : PyData} (h : Has ρ i d) : (run tbl (n + 1)).ex ρ (.v i) = some d := by rw [zu8, h]
theorem zay {i : Nat} {d : PyData} (h : Has ρ i d) : rcv S ρ (.v i) = some d := by unfold rcv; dsimp only; rw [h]
theorem zvy {i : Nat} {e : PE} {d : PyData} (h : S.ex ρ e = some d) : zf S ρ (.asg (.v i) e) = some (ρ.set i (some (.d d)), .next) := by
 unfold zf; dsimp only; rw [h]; rfl
theorem zuj {t : Tgt} {it elt : PE} {xs : List PyData} {f : PyData -> PyData} (hit : itD S (zR (zO t) ρ) it = some xs) (h : ∀ x ∈ xs, ∃ ρx, zax t x (zR (zO t) ρ) = some ρx /\ S.ex ρx elt = some (f x)) : zbX S elt [.mk t it []] ρ = some (xs.map f) := by
 unfold zbX
 rw [(by simp [zT] : ([Gn.mk t it []].flatMap zT) = zO t)]
 show (itD S (zR (zO t) ρ) it).bind _ = _
 rw [hit, Option.bind_some, zeZ (g := fun x => [f x])]
 ·congr 1; clear hit h; induction xs with
  | nil => rfl
  | cons x xs ih => simp [ih]
 ·intro x hx
  obtain ⟨ρx, h1, h2⟩ := h x hx
  rw [h1]
  show ((S.ex ρx elt).map fun d => [d]) = _
  rw [h2]; rfl
theorem zqs {elt : PE} {gs : List Gn} {xs : List PyData} (h : zbX (run tbl n) elt gs ρ = some xs) (hl : xs.length <= big) : (run tbl (n + 1)).ex ρ (.comp elt gs) = some (.list xs) := by
 rw [zqg, h]
 show (if xs.length <= big then some (PyData.list xs) else none) = _
 rw [if_pos hl]
end
theorem zle {o : Option PyData} {i : Int} (h : o.bind zw = some i) : o = some (.int i) := zb h fun d hd h => by
 induction d using PyData.casesOn with
 | int j => exact hd.trans (congrArg (fun i => some (PyData.int i)) (Option.some.inj h))
 | _ => exact za h
theorem zsn {o : Option PyData} {i : Str} (h : o.bind zaJ = some i) : o = some (.str i) := zb h fun d hd h => by
 induction d using PyData.casesOn with
 | str j => exact hd.trans (congrArg (fun i => some (PyData.str i)) (Option.some.inj h))
 | _ => exact za h
theorem zl0 {o : Option PyData} {i : Int} (h : decide (o.bind zw = some i) = true) : o = some (.int i) := zle (of_decide_eq_true h)
theorem zo4 {o : Option PyData} {l : List Int} (h : decide ((o.bind zgg).bind zdb = some l) = true) : o = some (.tuple (l.map .int)) := zb (of_decide_eq_true h) fun xs hx h => zb hx fun d hd hx => by
 induction d using PyData.casesOn with
 | tuple ys => exact hd.trans (congrArg (fun i => some (PyData.tuple i)) ((Option.some.inj hx).trans (ze6 h)))
 | _ => exact za hx
theorem zmU (zs : List Int) (lo hi st : Option Int) : zbW (zs.map .int) lo hi st = (pickNums zs lo hi st).map .int := by
 unfold zbW pickNums
 rw [List.length_map, List.map_filterMap]
 congr 1
 funext k
 rw [List.getElem?_map]
theorem zdx : ∀ (is : List Int) (a : Int), zcM (is.map .int) a = some (is.foldl (· + ·) a)
 | [], a => rfl
 | x :: is, a => by
  show zcM (is.map .int) (a + x) = _
  rw [zdx is]; rfl
theorem zrb : zav .Pow (.int 10) (.int 9) = some (.int 1000000000) := by kernel_rfl
theorem zaW {a b : Int} (h : b ≠ 0) : zav .Mod (.int a) (.int b) = some (.int (a.fmod b)) := by
 show (if b ≠ 0 then some (PyData.int (a.fmod b)) else none) = _
 rw [if_pos h]
theorem zdR {a b : Int} (h : b ≠ 0) (h2 : b.natAbs < 1073741824) : zav .FloorDiv (.int a) (.int b) = some (.int (a.fdiv b)) := by
 show (if b ≠ 0 /\ Builtin.divisionGoesByPylong a b = false then some (PyData.int (a.fdiv b)) else none) = _
 rw [if_pos ⟨h, PyProof.noPylong_small h2⟩]
theorem zuk {a : Int} : zav .Mod (.int a) (.int 1000000000) = some (.int (a.fmod 1000000000)) := zaW (by decide)
theorem zl1 (a b : Int) (h : 0 < b) : 0 <= a.fmod b /\ a.fmod b < b := ⟨Int.fmod_nonneg_of_pos _ h, Int.fmod_lt_of_pos _ h⟩
noncomputable def zdy (zs : List Int) (i c : Int) : Int := (c + ((pickNums zs (some i) (some 60) (some 6)).map (·.fmod 1000000000)).foldl (· + ·) 0).fmod 1000000000
section
variable {tbl : Nat -> Option Fn} {ρ : Rho} {n : Nat} {zs : List Int}
theorem zrc {es : List PE} {xs : List PyData} {d : PyData} (ha : exs (run tbl n) ρ es = some xs) (h : biD .sum xs = some d) : (run tbl (n + 1)).ex ρ (.bi .sum es) = some d := bS ha h
theorem zo5 (zs : List Int) (i : Int) (hi : 0 <= i) : (pickNums zs (some i) (some 60) (some 6)).length <= zs.length := by
 refine nle (List.length_filterMap_le _ _) ?_
 refine sliceRange_length_le _ _ _ _ (fun u => ?_) (fun h => absurd (show (6 : Int) > 0 by simp) h)
 simp only [sliceBounds, Option.getD_some, show ((6 : Int) > 0) = True from by simp, if_true]
 constructor
 ·split <;> omega
 ·split <;> omega
theorem zqt (hL : ρ.length = 61) (h0 : Has ρ 0 (.list (zs.map .int))) (hz : zs.length <= 63) {i c : Int} (hi : 0 <= i) (h47 : Has ρ 47 (.int i)) (h48 : Has ρ 48 (.int c)) :
  (run tbl (n + 12)).ex ρ (.bin .Mod (.bin .Add (.v 48) (.bi .sum [(.comp (.bin .Mod (.v 50) (.bin .Pow (.c (.int 10)) (.c (.int 9)))) [(.mk (.v 50) (.sl (.v 0) (some (.v 47)) (some (.c (.int 60))) (some (.c (.int 6)))) [])])])) (.bin .Pow (.c (.int 10)) (.c (.int 9)))) = some (.int (zdy zs i c)) := by
 have pl := nle (zo5 zs i hi) hz
 have lb : ∀ {l : List Int}, l.length <= 63 -> (l.map PyData.int).length <= big := fun h => by rw [List.length_map]; exact nle h (by decide)
 have s1 : zaz (.list (zs.map PyData.int)) (some i) (some 60) (some 6) = some (.list ((pickNums zs (some i) (some 60) (some 6)).map .int)) :=
  (if_pos ⟨by decide, lb hz⟩).trans (congrArg (fun x => some (PyData.list x)) (zmU ..))
 have lm : ((pickNums zs (some i) (some 60) (some 6)).map (·.fmod 1000000000)).length <= 63 := by rw [List.length_map]; exact pl
 have C := (zlW (S := run tbl (n + 8)) (ρ := ρ) (i := 50) (it := .sl (.v 0) (some (.v 47)) (some (.c (.int 60))) (some (.c (.int 6)))) (elt := .bin .Mod (.v 50) (.bin .Pow (.c (.int 10)) (.c (.int 9))))
  (xs := (pickNums zs (some i) (some 60) (some 6)).map .int) (f := fun x => .int (((zw x).getD 0).fmod 1000000000)) (zt0 (zeh (zH (zg h0 rfl)) (o_e (zH (zg h47 rfl))) rfl rfl s1) rfl (lb pl)) fun x hx => E12 (List.mem_map.mp hx) fun z u e =>
   e ▸ zJ (zH (zG (by rw [List.length_set, hL]; simp))) (zJ rfl rfl zrb) zuk).trans (congrArg some (List.map_map.trans (List.map_map (g := PyData.int) (f := fun z : Int => z.fmod 1000000000)).symm))
 exact zJ (zJ (zH h48) (zrc (zan (zbD C (lb lm))) ((if_pos (lb lm)).trans (congrArg (Option.map PyData.int) (zdx ..)))) rfl) (zJ rfl rfl zrb) zuk
def tI (k : Nat) (x : PyData) : Int := (((zgg x).bind (·[k]?)).bind zw).getD 0
theorem zso (hL : ρ.length = 61) (h0 : Has ρ 0 (.list (zs.map .int))) (hz : zs.length <= 63) : ∃ a b c d e f : Int, (∀ s ∈ [a, b, c, d, e, f], 0 <= s /\ s < 1000000000) /\
  zf (run tbl (n + 14)) ρ Two2.sA0 = some (ρ.set 3 (some (.d (.list [.int a, .int b, .int c, .int d, .int e, .int f]))), .next) := by
 refine ⟨zdy zs 0 140, zdy zs 1 6, zdy zs 2 477, zdy zs 3 8, zdy zs 4 9, zdy zs 5 5, ?_, ?_⟩
 ·intro s hs
  have : ∀ i c, 0 <= zdy zs i c /\ zdy zs i c < 1000000000 := fun i c => zl1 _ _ (by simp)
  exact zbt hs (this _ _) fun hs => zbt hs (this _ _) fun hs => zbt hs (this _ _) fun hs => zbt hs (this _ _) fun hs => zaZ hs (this _ _) (this _ _)
 ·refine zu (zbD (n := n + 13) (xs := [.int (zdy zs 0 140), .int (zdy zs 1 6), .int (zdy zs 2 477), .int (zdy zs 3 8), .int (zdy zs 4 9), .int (zdy zs 5 5)]) ?_ (show 6 <= big by decide))
  refine (zuj (xs := [.tuple [.int 0, .int 140], .tuple [.int 1, .int 6], .tuple [.int 2, .int 477], .tuple [.int 3, .int 8], .tuple [.int 4, .int 9], .tuple [.int 5, .int 5]])
   (f := fun x => .int (zdy zs (tI 0 x) (tI 1 x))) rfl ?_).trans rfl
  have key : ∀ i c : Int, 0 <= i -> ∃ ρx, zax (.t [.v 47, .v 48]) (.tuple [.int i, .int c]) (zR (zO (.t [.v 47, .v 48])) ρ) = some ρx /\ (run tbl (n + 13)).ex ρx (.bin .Mod (.bin .Add (.v 48) (.bi .sum [(.comp (.bin .Mod (.v 50) (.bin .Pow (.c (.int 10)) (.c (.int 9)))) [(.mk (.v 50) (.sl (.v 0) (some (.v 47)) (some (.c (.int 60))) (some (.c (.int 6)))) [])])])) (.bin .Pow (.c (.int 10)) (.c (.int 9)))) = some (.int (zdy zs i c)) := by
   intro i c hi
   refine I12 ((((ρ.set 47 none).set 48 none).set 47 (some (.d (.int i)))).set 48 (some (.d (.int c)))) rfl (zqt (n := n + 1) ?_ (zg (zg (zg (zg h0 rfl) rfl) rfl) rfl) hz hi (zg (zG ?_) rfl) (zG ?_))
   ·rw [List.length_set, List.length_set, List.length_set, List.length_set]; exact hL
   ·rw [List.length_set, List.length_set, hL]; simp
   ·rw [List.length_set, List.length_set, List.length_set, hL]; simp
  intro x hx
  exact zbt hx (key _ _ (by decide)) fun hx => zbt hx (key _ _ (by simp)) fun hx => zbt hx (key _ _ (by simp)) fun hx => zbt hx (key _ _ (by simp)) fun hx => zaZ hx (key _ _ (by simp)) (key _ _ (by simp))
end
theorem zsp : zav .Pow (.int 3) (.int 0) = some (.int 1) := by kernel_rfl
theorem zsq : zav .Pow (.int 3) (.int 1) = some (.int 3) := by kernel_rfl
theorem zsr : zav .Pow (.int 3) (.int 2) = some (.int 9) := by kernel_rfl
theorem zss : zav .Pow (.int 3) (.int 3) = some (.int 27) := by kernel_rfl
theorem zst : zav .Pow (.int 3) (.int 4) = some (.int 81) := by kernel_rfl
theorem zsu : zav .Pow (.int 8) (.int 0) = some (.int 1) := by kernel_rfl
theorem zsv : zav .Pow (.int 8) (.int 1) = some (.int 8) := by kernel_rfl
theorem zsw : zav .Pow (.int 8) (.int 2) = some (.int 64) := by kernel_rfl
noncomputable def six (s : Nat -> Int) : PyData := .list [.int (s 0), .int (s 1), .int (s 2), .int (s 3), .int (s 4), .int (s 5)]
theorem fmN (a b : Int) (h : 0 < b) : ((a.fmod b).toNat : Int) = a.fmod b := Int.toNat_of_nonneg (zl1 a b h).1
theorem fmL (a : Int) (b : Nat) (h : (0 : Int) < b) : (a.fmod b).toNat < b := (Int.toNat_lt (zl1 a b h).1).mpr (zl1 a b h).2
section
variable {tbl : Nat -> Option Fn} {ρ : Rho} {n : Nat} {s : Nat -> Int}
theorem zsx (hL : ρ.length = 61) (h3 : Has ρ 3 (six s)) : ∃ l : Nat -> Nat, (∀ i, l i < 3) /\
  zf (run tbl (n + 14)) ρ Two2.sA1 = some (ρ.set 4 (some (.d (.list [.int (l 0 : Nat), .int (l 1 : Nat), .int (l 2 : Nat), .int (l 3 : Nat), .int (l 4 : Nat)]))), .next) := by
 have key : ∀ i : Int, zav .Pow (.int 3) (.int i) = some (.int (3 ^ i.toNat)) -> (3 ^ i.toNat : Int) ≠ 0 -> (3 ^ i.toNat : Int).natAbs < 1073741824 ->
   (run tbl (n + 13)).ex ((ρ.set 47 none).set 47 (some (.d (.int i)))) (.bin .Mod (.bin .FloorDiv (.idx (.v 3) (.c (.int 0))) (.bin .Pow (.c (.int 3)) (.v 47))) (.c (.int 3))) = some (.int ((((s 0).fdiv (3 ^ i.toNat)).fmod 3).toNat : Nat)) := fun i hp h1 h2 =>
  (zJ (zJ (zS (zay (zg (zg h3 rfl) rfl)) rfl rfl) (zJ rfl (zH (zG (by rw [List.length_set, hL]; simp))) hp) (zdR h1 h2)) rfl (zaW (by decide))).trans (congrArg (fun i => some (PyData.int i)) (fmN _ 3 (by simp)).symm)
 refine I12 (fun i => (((s 0).fdiv (3 ^ i)).fmod 3).toNat) (fun i => fmL _ 3 (by simp)) (zu (zbD ((zlW (xs := [.int 0, .int 1, .int 2, .int 3, .int 4]) (f := fun x => .int ((((s 0).fdiv (3 ^ ((zw x).getD 0).toNat)).fmod 3).toNat : Nat)) rfl fun x hx => ?_).trans rfl) (show 5 <= big by decide)))
 exact zbt hx (key 0 zsp (by decide) (by decide)) fun hx => zbt hx (key 1 zsq (by decide) (by simp)) fun hx => zbt hx (key 2 zsr (by decide) (by simp)) fun hx => zaZ hx (key 3 zss (by decide) (by simp)) (key 4 zst (by decide) (by simp))
noncomputable def zqu (l : Nat -> Nat) : PyData := .list [.int (l 0 : Nat), .int (l 1 : Nat), .int (l 2 : Nat), .int (l 3 : Nat), .int (l 4 : Nat)]
def zil (t : Tr) : Prop := t.ok /\ t.size <= 4 /\ t.depth <= 1 /\ zf2 t <= 5
theorem zhi {l : Nat} (h : l < 3) : zil (.leaf l) := I04 h (by show 1 <= 4; decide) (by show 0 <= 1; decide) (by show 1 <= 5; decide)
theorem zhj {a b : Nat} (h : a < 3) (h' : b < 3) : zil (.pair (.leaf a) (.leaf b)) := I04 ⟨h, h'⟩ (by show 1 + 1 + 2 <= 4; decide) (by show max 0 0 + 1 <= 1; decide) (by show 2 * (1 + 1) + 1 <= 5; decide)
theorem zsy (hL : ρ.length = 61) (h3 : Has ρ 3 (six s)) {l : Nat -> Nat} (hl : ∀ i, l i < 3) (h4 : Has ρ 4 (zqu l)) : ∃ t, zil t /\
  zf (run tbl (n + 14)) ρ Two2.sA2 = some (ρ.set 5 (some (.d (trD t))), .next) := by
 have c := zJ (op := .Mod) (b := .c (.int 2)) (zS (tbl := tbl) (n := n + 11) (b := .c (.int 1)) (zay h3) rfl rfl) rfl (zaW (by decide))
 induction hc : (s 1).fmod 2 != 0 with
 | true => exact I12 (.leaf (l 0)) (zhi (hl 0)) (zu (x_T (t_d c (congrArg some hc)) (zS (zay h4) rfl rfl)))
 | false => exact I12 (.pair (.leaf (l 0)) (.leaf (l 1))) (zhj (hl 0) (hl 1)) (zu (x_F (t_d c (congrArg some hc)) (zg4 (zaS (zS (zay h4) rfl rfl) (zan (zS (zay h4) rfl rfl))))))
theorem zsz (hL : ρ.length = 61) (h3 : Has ρ 3 (six s)) {l : Nat -> Nat} (hl : ∀ i, l i < 3) (h4 : Has ρ 4 (zqu l)) : ∃ t, zil t /\
  zf (run tbl (n + 14)) ρ Two2.sA3 = some (ρ.set 6 (some (.d (trD t))), .next) := by
 have c := zJ (op := .Mod) (b := .c (.int 2)) (zJ (op := .FloorDiv) (b := .c (.int 2)) (zS (tbl := tbl) (n := n + 10) (b := .c (.int 1)) (zay h3) rfl rfl) rfl (zdR (by decide) (by simp))) rfl (zaW (by decide))
 induction hc : ((s 1).fdiv 2).fmod 2 != 0 with
 | true => exact I12 (.leaf (l 2)) (zhi (hl 2)) (zu (x_T (t_d c (congrArg some hc)) (zS (zay h4) rfl rfl)))
 | false => exact I12 (.pair (.leaf (l 2)) (.leaf (l 3))) (zhj (hl 2) (hl 3)) (zu (x_F (t_d c (congrArg some hc)) (zg4 (zaS (zS (zay h4) rfl rfl) (zan (zS (zay h4) rfl rfl))))))
theorem zsA (hL : ρ.length = 61) (h3 : Has ρ 3 (six s)) {l : Nat -> Nat} (hl : ∀ i, l i < 3) (h4 : Has ρ 4 (zqu l)) {u v : Tr} (hu : zil u) (hv : zil v) (h5 : Has ρ 5 (trD u)) (h6 : Has ρ 6 (trD v)) : ∃ t, t.ok /\ t.size <= 13 /\ t.depth <= 3 /\ zf2 t <= 45 /\ (∃ x y, t = .pair x y) /\
  zf (run tbl (n + 16)) ρ Two2.sA4 = some (ρ.set 7 (some (.d (trD t))), .next) := by
 have C := (zJ (op := .Mod) (b := .c (.int 3)) (zJ (op := .FloorDiv) (b := .c (.int 4)) (zS (tbl := tbl) (n := n + 11) (b := .c (.int 1)) (zay h3) rfl rfl) rfl (zdR (by decide) (by simp))) rfl (zaW (by decide))).trans (congrArg (fun i => some (PyData.int i)) (fmN ((s 1).fdiv 4) 3 (by simp)).symm)
 have A := zJ (op := .Mod) (b := .c (.int 4)) (zS (tbl := tbl) (n := n + 11) (b := .c (.int 1)) (zay h3) rfl rfl) rfl (zaW (by decide))
 have B := zaj (tbl := tbl) (n := n + 12) (ρ := ρ) (co := .Eq) (a := .bin .Mod (.bin .FloorDiv (.idx (.v 3) (.c (.int 1))) (.c (.int 1000))) (.c (.int 4))) (b := .c (.int 1)) (zJ (op := .Mod) (b := .c (.int 4)) (zJ (op := .FloorDiv) (b := .c (.int 1000)) (zS (tbl := tbl) (n := n + 9) (b := .c (.int 1)) (zay h3) rfl rfl) rfl (zdR (by decide) (by simp))) rfl (zaW (by decide))) rfl rfl
 have hex : ∃ j : Nat, j < 3 /\ (run tbl (n + 15)).ex ρ (.ite (.or [(.bin .Mod (.idx (.v 3) (.c (.int 1))) (.c (.int 4))), (.cmp .Eq (.bin .Mod (.bin .FloorDiv (.idx (.v 3) (.c (.int 1))) (.c (.int 1000))) (.c (.int 4))) (.c (.int 1)))]) (.bin .Mod (.bin .FloorDiv (.idx (.v 3) (.c (.int 1))) (.c (.int 4))) (.c (.int 3))) (.c (.int 1))) = some (.int (j : Int)) := by
  induction hc : (s 1).fmod 4 != 0 with
  | true => exact I12 _ (fmL _ 3 (by simp)) (x_T (t_d (zmE (zu9 A (congrArg some hc))) (congrArg some hc)) C)
  | false =>
   induction hd : ((s 1).fdiv 1000).fmod 4 == 1 with
   | true => exact I12 _ (fmL _ 3 (by simp)) (x_T (t_d (zmE (zoE A (congrArg some hc) B)) (congrArg some hd)) C)
   | false => exact I12 1 (by simp) (x_F (t_d (zmE (zoE A (congrArg some hc) B)) (congrArg some hd)) rfl)
 refine E12 hex fun j hj hex => E04 hu fun o1 z1 d1 p1 => E04 hv fun o2 z2 d2 p2 => ?_
 have L := zg4 (tbl := tbl) (n := n + 12) (zaS (zH h5) (zan (zH h6)))
 have I := zS (tbl := tbl) (n := n + 12) (b := .c (.int 4)) (zay h4) rfl rfl
 have tp := zfN (zaS (zg4 (zaS L (zan I))) (zaS (zg4 (tbl := tbl) (n := n + 13) (zaS (zH h5) (zan (zH h6)))) (zan (zg4 (zaS I (zan L))))))
 have Z := Nat.add_le_add_right (Nat.add_le_add z1 z2) 2
 have D := Nat.succ_le_succ (Nat.max_le.mpr ⟨d1, d2⟩)
 have K := Nat.succ_le_succ (Nat.mul_le_mul_left 2 (Nat.add_le_add p1 p2))
 revert hex
 refine lt3 hj (fun hex => ?_) (fun hex => ?_) fun hex => ?_
 ·exact I16 (.pair (.pair u v) (.leaf (l 4))) ⟨⟨o1, o2⟩, hl 4⟩ (Nat.add_le_add_right (Nat.add_le_add_right Z 1) 2) (Nat.succ_le_succ (Nat.max_le.mpr ⟨D, Nat.zero_le _⟩)) (Nat.succ_le_succ (Nat.mul_le_mul_left 2 (Nat.succ_le_succ K))) (I21 _ _ rfl) (zu (zS tp hex rfl))
 ·exact I16 (.pair u v) ⟨o1, o2⟩ (nle Z (by simp)) (nle D (by simp)) (nle K (by simp)) (I21 _ _ rfl) (zu (zS tp hex rfl))
 ·exact I16 (.pair (.leaf (l 4)) (.pair u v)) ⟨hl 4, ⟨o1, o2⟩⟩ (Nat.add_le_add_right (Nat.add_le_add_left Z 1) 2) (Nat.succ_le_succ (Nat.max_le.mpr ⟨Nat.zero_le _, D⟩)) (Nat.succ_le_succ (Nat.mul_le_mul_left 2 (Nat.add_le_add_left K 1))) (I21 _ _ rfl) (zu (zS tp hex rfl))
end
noncomputable def zl2 : PyData := .tuple [(.str ""), (.str "\")\""), (.str "\\("), (.str "\\\\"), (.str "\"(\""), (.str "\"\\\")\""), (.str "a\\\""), (.str "\\)")]
def zsB (m : Nat -> Nat) (i : Nat) : List Nat := ze0 (m (i % 3)) ++ [112 + i % 3]
theorem zqv (m : Nat) (h : m < 8) : zbu zl2 (.int (m : Int)) = some (.str (zm (ze0 m))) := by
 refine lt8 h ?_ ?_ ?_ ?_ ?_ ?_ ?_ ?_ <;> kernel_rfl
theorem zkg (m : Nat) : (ze0 m).length <= 5 := by
 unfold ze0; split <;> decide
theorem zul : zbu (.str "pqr") (.int 0) = some (.str (zm [112])) := by kernel_rfl
theorem zum : zbu (.str "pqr") (.int 1) = some (.str (zm [113])) := by kernel_rfl
theorem zun : zbu (.str "pqr") (.int 2) = some (.str (zm [114])) := by kernel_rfl
theorem zo6 (a b : List Nat) : zm a ++ zm b = zm (a ++ b) := by
 show Str.mk (a.toArray ++ b.toArray) = Str.mk (a ++ b).toArray
 simp
theorem add_str {a b : List Nat} (h : a.length + b.length <= big) : zav .Add (.str (zm a)) (.str (zm b)) = some (.str (zm (a ++ b))) := by
 show (if (zm a).length + (zm b).length <= big then some (PyData.str (zm a ++ zm b)) else none) = _
 rw [if_pos (show (zm a).length + (zm b).length <= big from h), zo6]
theorem zrd {m : Nat -> Nat} (hm : ∀ i, m i < 8) : Nm (zsB m) where
 neut := fun i => zo1 _ _ (hm _) (Nat.mod_lt _ (by decide))
 len := fun i => by
  have := zkg (m (i % 3))
  rw [List.length_append, List.length_cons, List.length_nil]; lia
 sok := fun i => by
  exact (by decide +kernel : ∀ k, k < 8 -> ∀ j, j < 3 -> (PyData.str (zm (ze0 k ++ [112 + j]))).canLay0 = true) _ (hm _) _ (Nat.mod_lt _ (by decide))
 diff := fun i j hi hj => by
  rw [zg9]
  by_cases e : i = j
  ·rw [e, decide_eq_true rfl, beq_self_eq_true]
  ·rw [decide_eq_false e, beq_eq_false_iff_ne]
   intro h
   have := congrArg List.getLast? h
   simp only [zsB, List.getLast?_append, List.getLast?_singleton, Option.some_or, Option.some.injEq] at this
   lia
section
variable {tbl : Nat -> Option Fn} {ρ : Rho} {n : Nat} {s : Nat -> Int}
theorem zsC (hL : ρ.length = 61) : zf (run tbl (n + 14)) ρ Two2.sA5 = some (ρ.set 8 (some (.d zl2)), .next) := by
 rfl
theorem zsD (hL : ρ.length = 61) (h3 : Has ρ 3 (six s)) (h8 : Has ρ 8 zl2) : ∃ m : Nat -> Nat, (∀ i, m i < 8) /\ zf (run tbl (n + 14)) ρ Two2.sA6 = some (ρ.set 9 (some (.d (.list (nmD (zsB m))))), .next) := by
 have key : ∀ i : Int, zav .Pow (.int 8) (.int i) = some (.int (8 ^ i.toNat)) -> (8 ^ i.toNat : Int) ≠ 0 -> (8 ^ i.toNat : Int).natAbs < 1073741824 -> zbu (.str "pqr") (.int i) = some (.str (zm [112 + i.toNat])) ->
   (run tbl (n + 13)).ex ((ρ.set 47 none).set 47 (some (.d (.int i)))) (.bin .Add (.idx (.v 8) (.bin .Mod (.bin .FloorDiv (.idx (.v 3) (.c (.int 2))) (.bin .Pow (.c (.int 8)) (.v 47))) (.c (.int 8)))) (.idx (.c (.str "pqr")) (.v 47))) =
    some (.str (zm (ze0 (((s 2).fdiv (8 ^ i.toNat)).fmod 8).toNat ++ [112 + i.toNat]))) := fun i hp h1 h2 hq =>
  have e47 := zG (ρ := ρ.set 47 none) (d := .int i) (i := 47) (by rw [List.length_set, hL]; simp)
  zJ (zS (zay (zg (zg h8 rfl) rfl)) (zJ (zJ (zS (zay (zg (zg h3 rfl) rfl)) rfl rfl) (zJ rfl (zH e47) hp) (zdR h1 h2)) rfl (zaW (by decide))) ((congrArg (fun i => zbu zl2 (.int i)) (fmN _ 8 (by simp)).symm).trans (zqv _ (fmL _ 8 (by simp)))))
   (zS rfl (zH e47) hq) (add_str (nle (Nat.add_le_add_right (zkg _) 1) (by decide)))
 refine I12 (fun i => (((s 2).fdiv (8 ^ i)).fmod 8).toNat) (fun i => fmL _ 8 (by simp)) (zu (zbD ((zlW (xs := [.int 0, .int 1, .int 2]) (f := fun x => .str (zm (ze0 (((s 2).fdiv (8 ^ ((zw x).getD 0).toNat)).fmod 8).toNat ++ [112 + ((zw x).getD 0).toNat]))) rfl fun x hx => ?_).trans rfl) (show 3 <= big by decide)))
 exact zbt hx (key 0 zsu (by decide) (by decide) zul) fun hx => zaZ hx (key 1 zsv (by decide) (by simp) zum) (key 2 zsw (by decide) (by simp) zun)
theorem zsE (h10 : tbl 10 = some (.code 2 60 zmF)) (hL : ρ.length = 61) {nm : Nat -> List Nat} {t : Tr} (ht : t.ok) (hz : t.size <= 13) (hd : t.depth <= 3) (h7 : Has ρ 7 (trD t)) (h9 : Has ρ 9 (.list (nmD nm))) :
  zf (run tbl (n + 40)) ρ Two2.sA7 = some (ρ.set 10 (some (.d (.list (tkD nm (tkN t))))), .next) := by
 have h := (zat (tbl := tbl) (show 0 + 6 * t.depth + 8 <= n + 39 by lia)).call _ _ _ (zfp h10 (nm := nmD nm) rfl t ht (by show t.size <= 1000000; lia) 0)
 rw [zje t ht] at h
 exact zu (zad (zaS (zH h7) (zan (zH h9))) h)
theorem zsF (h8 : tbl 8 = some (.code 1 60 Two2.strB)) (h9 : tbl 9 = some (.code 1 60 Two2.parB)) (hL : ρ.length = 61) {nm : Nat -> List Nat} (h : Nm nm) {t : Tr} (hp : ∃ a b, t = .pair a b) (hz : t.size <= 13) (h10 : Has ρ 10 (.list (tkD nm (tkN t)))) :
  zf (run tbl (n + 40)) ρ Two2.sA8 = some (ρ, .next) := by
 obtain ⟨a, b, e9⟩ := hp; subst e9
 have hbig : big = 1000000 := rfl
 have hl : (tkN (.pair a b)).length <= 13 := by rw [zdP]; exact hz
 have c1 := zcY (tbl := tbl) (n := n + 17) h8 h9 h (ts := tkN (.pair a b)) (by lia)
 have w1 := zau (.pair a b) [] 0 (by decide)
 rw [List.append_nil] at w1
 rw [w1] at c1
 have s2 : zaz (.list (tkD nm (tkN (.pair a b)))) none (some (-1)) none = some (.list (tkD nm (.o :: (tkN a ++ tkN b)))) := by
  rw [zbn (by rw [zbs]; lia), zmO (by rw [zbs]; simp [tkN]), zbs, zhg]
  congr 3
  rw [show tkN (.pair a b) = (.o :: (tkN a ++ tkN b)) ++ [.s] from rfl]
  exact List.take_left' (by simp; rfl)
 have hl2 : (zc9.o :: (tkN a ++ tkN b)).length <= 13 := by simp [tkN] at hl |-; lia
 have j2 := zdQ h (ts := .o :: (tkN a ++ tkN b)) (by lia)
 have c2 := zcY (tbl := tbl) (n := n + 17) h8 h9 h (ts := .o :: (tkN a ++ tkN b)) (by lia)
 have w2 : zdv (.o :: (tkN a ++ tkN b)) 0 = false := by
  have e := zau a (tkN b) (0 + 1) (by lia)
  have e2 := zau b [] (0 + 1) (by lia)
  rw [List.append_nil] at e2
  rw [e, e2]; rfl
 rw [w2] at c2
 exact zbz (t_d (zmE (zoE (zaj (zad (zan (zhD rfl (zan (zH h10)) (zdQ h (ts := tkN (.pair a b)) (by lia)))) c1) rfl rfl) rfl (zaj (zad (zan (zhD rfl (zan (zeh (zH h10) rfl rfl rfl s2)) j2)) c2) rfl rfl))) rfl) rfl
theorem zsG (h8 : tbl 8 = some (.code 1 60 Two2.strB)) (h9 : tbl 9 = some (.code 1 60 Two2.parB)) (h11 : tbl 11 = some (.code 2 60 Two2.readB)) (hL : ρ.length = 61) {nm : Nat -> List Nat} (h : Nm nm) {t : Tr} (ht : t.ok) (hd : t.depth <= 3) (hp : ∃ a b, t = .pair a b) (hz : t.size <= 13)
  (h10 : Has ρ 10 (.list (tkD nm (tkN t)))) (g9 : Has ρ 9 (.list (nmD nm))) (g7 : Has ρ 7 (trD t)) (heq : eqD (trD t) (trD t) = some true) : zf (run tbl (n + 100)) ρ Two2.sA9 = some (ρ, .next) := by
 have r1 := (zat (tbl := tbl) (show 0 + 10 * t.depth + 60 <= n + 97 by lia)).call _ _ _ (zjf h8 h9 h11 h t ht (by lia) 0)
 obtain ⟨a, b, e9⟩ := hp; subst e9
 have hbig : big = 1000000 := rfl
 have hl : (tkN (.pair a b)).length <= 13 := by rw [zdP]; exact hz
 have s1 : zaz (.list (tkD nm (tkN (.pair a b)))) (some 1) none none = some (.list (tkD nm (tkN a ++ tkN b ++ [.s]))) := by
  rw [zbn (by rw [zbs]; lia), show (1 : Int) = ((1 : Nat) : Int) from rfl, zii (by rw [zbs]; simp [tkN]), zhh]; rfl
 have hl2 : (tkN a ++ tkN b ++ [zc9.s]).length <= 13 := by simp [tkN] at hl |-; lia
 have tl := ze1 h (tkN a ++ tkN b ++ [.s])
 have a1 : zav .Add (.str (zm (zcl nm (tkN a ++ tkN b ++ [.s])))) (.str (Str.ofString "(")) = some (.str (zm (zcl nm (tkN a ++ tkN b ++ [.s, .o])))) := by
  rw [zqm, add_str (by simp only [List.length_cons, List.length_nil]; lia)]
  congr 3
  simp [zcl, zmQ]
 have c1 := zcY (tbl := tbl) (n := n + 77) h8 h9 h (ts := tkN a ++ tkN b ++ [.s, .o]) (by simp at hl2 |-; lia)
 have w1 : zdv (tkN a ++ tkN b ++ [.s, .o]) 0 = false := by
  rw [List.append_assoc, zau a _ _ (by lia), zau b _ _ (by lia)]; rfl
 rw [w1] at c1
 exact zbz (t_d (zmE (zoE (zaj (zad (zan (zJ (zhD rfl (zan (zeh (zH h10) rfl rfl rfl s1)) (zdQ h (ts := tkN a ++ tkN b ++ [.s]) (by lia))) rfl a1)) c1) rfl rfl) rfl (zaj (zad (zaS (zH h10) (zan (zH g9))) r1) (zH g7) (congrArg (Option.map not) heq)))) rfl) rfl
end
theorem zhk {d : PyData} (h : okD d = true) : eqD d d = some true := by
 have h2 : (if okD d && okD d then some (PyData.eqv d d) else none) = some true := by
  rw [h, if_pos (by rfl), PySem.SeqAt.eqv_refl d (Bool.and_eq_true_iff.mp h).1]
 induction d using PyData.casesOn with
 | int a => show some (a == a) = _; rw [beq_self_eq_true]
 | str a => show some (a == a) = _; rw [beq_self_eq_true]
 | _ => exact h2
theorem zjg : ∀ t : Tr, (trD t).canLay0 = true /\ (trD t).depth = t.depth
 | .leaf l => ⟨rfl, rfl⟩
 | .pair a b => by
  obtain ⟨a1, a2⟩ := zjg a
  obtain ⟨b1, b2⟩ := zjg b
  constructor
  ·show ((trD a).canLay0 && ((trD b).canLay0 && true)) = true
   rw [a1, b1]; rfl
  ·show max (trD a).depth (max (trD b).depth 0) + 1 = max a.depth b.depth + 1
   lia
theorem zuo {t : Tr} (h : t.depth <= 64) : eqD (trD t) (trD t) = some true := zhk (by
 show ((trD t).canLay0 && decide ((trD t).depth <= 64)) = true
 rw [(zjg t).1, (zjg t).2, decide_eq_true h]; rfl)
noncomputable def zim : List zB := ([1, 2, 3, 4] : List Int).flatMap fun a => ([1, 2, 3, 4] : List Int).flatMap fun b => (([1, 2, 3, 4] : List Int).filter fun c => decide (a ≠ b /\ a ≠ c /\ b ≠ c)).map fun c => (0, a, b, c, 10 - a - b - c)
def zbo : PyData := .list (zim.map rD)
theorem zfs : zim.length = 24 := by rfl
def zvz : PE := match Two2.sA10 with
 | .asg _ e => e
 | _ => .v 0
theorem zo7 {tbl : Nat -> Option Fn} {n : Nat} (l : Nat -> Option PV) : (run tbl (n + 20)).ex ((List.range 61).map l) zvz = some zbo := by kernel_rfl
theorem zl3 {ρ : Rho} (hL : ρ.length = 61) : ρ = (List.range 61).map fun i => ρ.getD i none := by
 apply List.ext_getElem?
 intro i
 rw [List.getElem?_map]
 by_cases h : i < 61
 ·rw [List.getElem?_range h, Option.map_some, List.getD_eq_getElem?_getD, List.getElem?_eq_getElem (by lia)]; rfl
 ·rw [List.getElem?_eq_none (by lia), List.getElem?_eq_none (by simp; lia)]; rfl
theorem zqw {tbl : Nat -> Option Fn} {n : Nat} {ρ : Rho} (hL : ρ.length = 61) : zf (run tbl (n + 20)) ρ Two2.sA10 = some (ρ.set 11 (some (.d zbo)), .next) := by
 have h := zo7 (tbl := tbl) (n := n) (fun i => ρ.getD i none)
 rw [<- zl3 hL] at h
 exact zvy h
noncomputable def zK : List Int := [0, 1, 2, 3, 4]
def zae : zB -> Prop
 | (a, b, c, d, e) => (a ∈ zK /\ b ∈ zK /\ c ∈ zK /\ d ∈ zK /\ e ∈ zK) /\ (a ≠ b /\ a ≠ c /\ a ≠ d /\ a ≠ e /\ b ≠ c /\ b ≠ d /\ b ≠ e /\ c ≠ d /\ c ≠ e /\ d ≠ e)
noncomputable def zkh (a b c d e : Int) : Bool := decide (a ≠ b) && decide (a ≠ c) && decide (a ≠ d) && decide (a ≠ e) && decide (b ≠ c) && decide (b ≠ d) && decide (b ≠ e) && decide (c ≠ d) && decide (c ≠ e) && decide (d ≠ e)
def zo8 (p : zB -> Bool) : Bool := zK.all fun a => zK.all fun b => zK.all fun c => zK.all fun d => zK.all fun e => !zkh a b c d e || p (a, b, c, d, e)
theorem zge {p : zB -> Bool} (h : zo8 p = true) {q : zB} (hq : zae q) : p q = true := by
 obtain ⟨a, b, c, d, e⟩ := q
 obtain ⟨⟨ha, hb, hc, hd, he⟩, n⟩ := hq
 have := List.all_eq_true.mp (List.all_eq_true.mp (List.all_eq_true.mp (List.all_eq_true.mp (List.all_eq_true.mp h a ha) b hb) c hc) d hd) e he
 have hn : zkh a b c d e = true := by
  refine cps fun G0 hG_0 => ?_
  obtain ⟨n1, n2, n3, n4, n5, n6, n7, n8, n9, n10⟩ := n
  refine hG_0 ?_
  simp only [zkh, Bool.and_eq_true, decide_eq_true_eq]
  exact ⟨⟨⟨⟨⟨⟨⟨⟨⟨n1, n2⟩, n3⟩, n4⟩, n5⟩, n6⟩, n7⟩, n8⟩, n9⟩, n10⟩
 rw [hn] at this
 exact this
theorem zft {q : zB} (h : zae q) : zae (zB.rev q) := by
 obtain ⟨a, b, c, d, e⟩ := q
 obtain ⟨⟨ha, hb, hc, hd, he⟩, n1, n2, n3, n4, n5, n6, n7, n8, n9, n10⟩ := h
 exact ⟨(I05 he hd hc hb ha), n10.symm, n9.symm, n7.symm, n4.symm, n8.symm, n6.symm, n3.symm, n5.symm, n2.symm, n1.symm⟩
theorem zhl {q : zB} (h : zae q) : zae (first q) := by
 obtain ⟨e, d, c, b, a⟩ := q
 obtain ⟨⟨ha, hb, hc, hd, he⟩, n1, n2, n3, n4, n5, n6, n7, n8, n9, n10⟩ := h
 exact ⟨(I05 he hc hd ha hb), n9.symm, n10.symm, n4.symm, n7.symm, n8, n2.symm, n5.symm, n3.symm, n6.symm, n1⟩
theorem zfu {q : zB} (h : zae q) : zae (zaC q) := by
 obtain ⟨e, d, c, b, a⟩ := q
 obtain ⟨⟨ha, hb, hc, hd, he⟩, n1, n2, n3, n4, n5, n6, n7, n8, n9, n10⟩ := h
 exact ⟨(I05 he hd hb ha hc), n10.symm, n7.symm, n4.symm, n9.symm, n6.symm, n3.symm, n8.symm, n1.symm, n5, n2⟩
theorem zaT : ∀ (t : Tr) (r : zB), zae r -> ∀ s ∈ prog t r, zae s.2
 | .leaf l, r, h, s, hs => by
  rw [List.mem_singleton.mp hs]; exact h
 | .pair a b, r, h, s, hs => by
  simp only [prog, List.mem_append, List.mem_singleton] at hs
  rcases hs with ((h1 | h1) | (h1 | h1)) | h1
  ·exact zaT a _ (zhl h) s h1
  ·exact zaT b _ (zfu h) s h1
  ·exact zaT a _ (zft (zhl h)) s h1
  ·exact zaT b _ (zft (zfu h)) s h1
  ·rw [h1]; exact h
theorem zaD : ∀ (t : Tr) (r : zB), t.ok -> ∀ s ∈ prog t r, s.1 <= 3
 | .leaf l, r, h, s, hs => by
  rw [List.mem_singleton.mp hs]; have : l < 3 := h; lia
 | .pair a b, r, h, s, hs => by
  simp only [prog, List.mem_append, List.mem_singleton] at hs
  rcases hs with ((h1 | h1) | (h1 | h1)) | h1
  ·exact zaD a _ h.1 s h1
  ·exact zaD b _ h.2 s h1
  ·exact zaD a _ h.1 s h1
  ·exact zaD b _ h.2 s h1
  ·rw [h1]; exact Nat.le_refl 3
noncomputable def zvA : zB -> zB
 | (a, b, c, d, e) => if a = 0 then (a, b, c, d, e) else if b = 0 then (b, c, d, e, a) else if c = 0 then (c, d, e, a, b) else if d = 0 then (d, e, a, b, c) else (e, a, b, c, d)
def zbE (q : zB) : Nat := zim.findIdx (· == zvA q)
def ixD (q : PyData) : Option PyData :=
 ((meD .index q [.int 0]).bind fun d => (match d with | .int i => some (some i) | _ => none)).bind fun l => (zaz q l none none).bind fun x =>
  ((meD .index q [.int 0]).bind fun d => (match d with | .int i => some (some i) | _ => none)).bind fun h => (zaz q none h none).bind fun y => (zav .Add x y).bind fun z => meD .index zbo [z]
def zvB (q : zB) : Bool := decide ((ixD (rD q)).bind zw = some (zbE q : Int)) && decide (zbE q < 24)
theorem zsH : zo8 zvB = true := by decide +kernel
theorem zo9 {q : zB} (h : zae q) : ixD (rD q) = some (.int (zbE q : Int)) /\ zbE q < 24 := zaf (zge zsH h) fun a b => ⟨zl0 a, of_decide_eq_true b⟩
def zV (k : Nat) : zB := zim.getD k (0, 1, 2, 3, 4)
theorem zcJ : ∀ k, k < 24 -> zae (zV k) := by
 have : (zim.all fun q => match q with | (a, b, c, d, e) => zK.contains a && zK.contains b && zK.contains c && zK.contains d && zK.contains e && zkh a b c d e) = true := by decide +kernel
 intro k hk
 have hm : zV k ∈ zim := by
  unfold zV
  rw [List.getD_eq_getElem?_getD, List.getElem?_eq_getElem (by rw [zfs]; exact hk)]
  exact List.getElem_mem _
 have h := List.all_eq_true.mp this _ hm
 generalize zV k = q at h
 refine cps fun G0 hG_0 => ?_
 obtain ⟨a, b, c, d, e⟩ := q
 simp only [Bool.and_eq_true, List.contains_iff_mem, zkh, decide_eq_true_eq] at h
 obtain ⟨⟨⟨⟨⟨h1, h2⟩, h3⟩, h4⟩, h5⟩, ⟨⟨⟨⟨⟨⟨⟨⟨⟨n1, n2⟩, n3⟩, n4⟩, n5⟩, n6⟩, n7⟩, n8⟩, n9⟩, n10⟩⟩ := h
 refine hG_0 ?_
 exact ⟨(I05 h1 h2 h3 h4 h5), n1, n2, n3, n4, n5, n6, n7, n8, n9, n10⟩
theorem zki (k : Nat) (h : k < 24) : zbu zbo (.int (k : Int)) = some (rD (zV k)) := by
 refine zgb ?_ (by decide)
 rw [List.getElem?_map, List.getElem?_eq_getElem (by rw [zfs]; exact h)]
 unfold zV
 rw [List.getD_eq_getElem?_getD, List.getElem?_eq_getElem (by rw [zfs]; exact h)]; rfl
noncomputable def zdz (p : Nat × Nat) : PyData := .tuple [.int (p.1 : Int), .int (p.2 : Int)]
noncomputable def zb9 (p : Nat × Nat) : Int := 24 * (p.1 : Int) + (p.2 : Int)
def zM (t : Tr) (r : zB) : List (Nat × Nat) := (prog t r).map fun s => (s.1, zbE s.2)
section
variable {tbl : Nat -> Option Fn} {ρ : Rho} {n : Nat} {s : Nat -> Int}
theorem zqx (hL : ρ.length = 61) (h3 : Has ρ 3 (six s)) (h11 : Has ρ 11 zbo) : ∃ k b w : Nat, k < 24 /\ b < 29 /\ w < 60 /\
  zf (run tbl (n + 20)) ρ Two2.sA11 = some (((ρ.set 12 (some (.d (rD (zV k))))).set 13 (some (.d (.int (b : Int))))).set 14 (some (.d (.int (7 + (w : Int))))), .next) := by
 have W := (zJ (op := .Mod) (b := .c (.int 60)) (zJ (op := .FloorDiv) (b := .c (.int 29)) (zS (tbl := tbl) (n := n + 16) (b := .c (.int 4)) (zay h3) rfl rfl) rfl (zdR (by decide) (by simp))) rfl (zaW (by decide))).trans (congrArg (fun i => some (PyData.int i)) (fmN ((s 4).fdiv 29) 60 (by simp)).symm)
 exact I34 ((s 3).fmod 24).toNat _ _ (fmL _ 24 (by decide)) (fmL _ 29 (by simp)) (fmL _ 60 (by simp))
  (zi6 (zaS (zS (zay h11) (zJ (zS (zay h3) rfl rfl) rfl (zaW (by decide))) ((congrArg (fun i => zbu zbo (.int i)) (fmN (s 3) 24 (by simp)).symm).trans (zki _ (fmL _ 24 (by simp))))) (zaS ((zJ (op := .Mod) (b := .c (.int 29)) (zS (tbl := tbl) (n := n + 18) (b := .c (.int 4)) (zay h3) rfl rfl) rfl (zaW (by decide))).trans (congrArg (fun i => some (PyData.int i)) (fmN (s 4) 29 (by simp)).symm)) (zan (zJ rfl W rfl)))) rfl)
theorem zkj {S : Sv} {α : Type} {t : Tgt} {it elt : PE} {ys : List α} {g h : α -> PyData} (hit : itD S (zR (zO t) ρ) it = some (ys.map g)) (hel : ∀ y ∈ ys, ∃ ρx, zax t (g y) (zR (zO t) ρ) = some ρx /\ S.ex ρx elt = some (h y)) :
  zbX S elt [.mk t it []] ρ = some (ys.map h) := by
 unfold zbX
 rw [(by simp [zT] : ([Gn.mk t it []].flatMap zT) = zO t)]
 show (itD S (zR (zO t) ρ) it).bind _ = _
 rw [hit, Option.bind_some]
 have : ∀ ys : List α, (∀ y ∈ ys, ∃ ρx, zax t (g y) (zR (zO t) ρ) = some ρx /\ S.ex ρx elt = some (h y)) ->
   zgi (fun x => (zax t x (zR (zO t) ρ)).bind fun ρ' => (zgh S ρ' []).bind fun ok => if ok then zcx S (fun ρ' => S.ex ρ' elt) [] ρ' else some []) (ys.map g) = some (ys.map h) := by
  intro ys
  induction ys with
  | nil => intro _; rfl
  | cons y ys ih =>
   intro hh
   obtain ⟨ρx, h1, h2⟩ := hh y (List.mem_cons_self ..)
   rw [List.map_cons, zgi, ih fun z hz => hh z (List.mem_cons_of_mem _ hz), h1]
   show (((S.ex ρx elt).map fun d => [d]).bind _) = _
   rw [h2]; rfl
 exact this ys hel
theorem zlf {S : Sv} {α : Type} {i : Nat} {it elt : PE} {xs : List α} {g f : α -> PyData} (hit : itD S (ρ.set i none) it = some (xs.map g)) (h : ∀ x ∈ xs, S.ex ((ρ.set i none).set i (some (.d (g x)))) elt = some (f x)) : zbX S elt [.mk (.v i) it []] ρ = some (xs.map f) :=
 zkj (t := .v i) hit fun y hy => I12 _ rfl (h y hy)
theorem zup {l : Nat} (h : l <= 3) : zav .Mult (.int 24) (.int (l : Int)) = some (.int (24 * (l : Int))) := ltS (Nat.lt_succ_of_le h) (by kernel_rfl) fun _ h => lt3 h (by kernel_rfl) (by kernel_rfl) (by kernel_rfl)
theorem zuq {q : zB} {x : PyData} (hL : ρ.length = 61) (hq : ixD (rD q) = some x) (a2 : Has ρ 48 (rD q)) (a3 : Has ρ 11 zbo) : (run tbl (n + 20)).ex ρ (.me .index (.v 11) [(.bin .Add (.sl (.v 48) (some (.me .index (.v 48) [(.c (.int 0))])) none none) (.sl (.v 48) none (some (.me .index (.v 48) [(.c (.int 0))])) none))]) = some x := by
 have M : ∀ {m : Nat}, (run tbl (m + 2)).ex ρ (.me .index (.v 48) [(.c (.int 0))]) = meD .index (rD q) [.int 0] := bS (zH a2) rfl
 exact zb hq fun l hl h => zb h fun x hx h => zb h fun k hk h => zb h fun y hy h => zb h fun z hz h =>
  zhD (zH a3) (zan (zJ (zeh (zH a2) (o_o M hl) rfl rfl hx) (zeh (zH a2) rfl (o_o M hk) rfl hy) hz)) h
theorem zqy (h12 : tbl 12 = some (.code 2 60 zig)) (hL : ρ.length = 61) {t : Tr} (ht : t.ok) (hd : t.depth <= 3) (hp : zf2 t <= 45) {r : zB} (hr : zae r) (g7 : Has ρ 7 (trD t)) (g11 : Has ρ 11 zbo) (g12 : Has ρ 12 (rD r)) :
  zf (run tbl (n + 40)) ρ Two2.sA12 = some (ρ.set 16 (some (.d (.list ((zM t r).map zdz)))), .next) := by
 have hbig : big = 1000000 := rfl
 have lp : (prog t r).length <= 45 := by rw [zbA]; exact hp
 have lb : ((prog t r).map zka).length <= big := by rw [List.length_map]; lia
 have e : (zM t r).map zdz = (prog t r).map fun s => zdz (s.1, zbE s.2) := by unfold zM; rw [List.map_map]; rfl
 rw [e]
 refine zu (zbD (n := n + 39) (zkj (g := zka) (zqe (zad (zaS (zH (zg (zg g7 rfl) rfl)) (zan (zH (zg (zg g12 rfl) rfl)))) ((zat (tbl := tbl) (show 0 + 6 * t.depth + 8 <= n + 38 by lia)).call _ _ _ (zeS h12 t r 0 (by lia)))) rfl lb) fun s hs => ?_) (by rw [List.length_map]; exact nle lp (by decide)))
 have hl : ((ρ.set 47 none).set 48 none).length = 61 := by rw [List.length_set, List.length_set]; exact hL
 have b2 : Has ((((ρ.set 47 none).set 48 none).set 47 (some (.d (.int (s.1 : Int))))).set 48 (some (.d (rD s.2)))) 48 (rD s.2) := zG (by rw [List.length_set, hl]; simp)
 exact I12 _ rfl (zfN (zaS (zH (zg (zG (by rw [hl]; simp)) rfl)) (zan (zuq (n := n + 18) (by rw [List.length_set, List.length_set]; exact hl) (zo9 (zaT t r hr _ hs)).1 b2 (zg (zg (zg (zg g11 rfl) rfl) rfl) rfl)))))
theorem zqz (hL : ρ.length = 61) {P : List (Nat × Nat)} (hP : P.length <= 100) (hl' : ∀ p ∈ P, p.1 <= 3) (g16 : Has ρ 16 (.list (P.map zdz))) :
  zf (run tbl (n + 40)) ρ Two2.sA13 = some (ρ.set 17 (some (.d (.list ((P.map zb9).map .int)))), .next) := by
 have lb : ∀ {f : Nat × Nat -> PyData}, (P.map f).length <= big := by intro f; rw [List.length_map]; exact nle hP (by decide)
 rw [List.map_map]
 refine zu (zbD (n := n + 39) (zkj (g := zdz) (h := PyData.int ∘ zb9) (zk3 (zH (zg (zg g16 rfl) rfl)) rfl lb) fun p hp => ?_) lb)
 have hl : ((ρ.set 47 none).set 48 none).length = 61 := by rw [List.length_set, List.length_set]; exact hL
 exact I12 _ rfl (zJ (zJ rfl (zH (zg (zG (by rw [hl]; simp)) rfl)) (zup (hl' p hp))) (zH (zG (by rw [List.length_set, hl]; simp))) rfl)
end
structure zkk (ρ : Rho) (s : Nat -> Int) (t : Tr) (k b w : Nat) : Prop where
 len : ρ.length = 61
 k24 : k < 24
 b29 : b < 29
 w60 : w < 60
 ok : t.ok
 dep : t.depth <= 3
 pl : zf2 t <= 45
 pr : ∃ x y, t = .pair x y
 h3 : Has ρ 3 (six s)
 h7 : Has ρ 7 (trD t)
 h11 : Has ρ 11 zbo
 h12 : Has ρ 12 (rD (zV k))
 h13 : Has ρ 13 (.int (b : Int))
 h14 : Has ρ 14 (.int (7 + (w : Int)))
 h16 : Has ρ 16 (.list ((zM t (zV k)).map zdz))
 h17 : Has ρ 17 (.list (((zM t (zV k)).map zb9).map .int))
theorem zX {ρ : Rho} {i : Nat} {v : Option PV} (h : ρ.length = 61) : (ρ.set i v).length = 61 := by rw [List.length_set]; exact h
def Xs (S : Sv) (P : Option (Rho × Fl) -> Prop) (r : List PS) (ρ : Rho) : Prop := P (zA S r ρ)
section
variable {S : Sv} {P : Option (Rho × Fl) -> Prop} {st : PS} {r : List PS} {ρ ρ2 : Rho} {i : Nat} {d a b c : PyData}
theorem zkl (h : zf S ρ st = some (ρ2, .next)) (k : Xs S P r ρ2) : Xs S P (st :: r) ρ := rwE (P := P) (zq7 h) k
theorem stp (hL : ρ.length = 61) (h : zf S ρ st = some (ρ.set i (some (.d d)), .next)) (hi : i < 61) (k : ∀ ρ', ρ'.length = 61 -> Has ρ' i d -> (∀ {j e}, Has ρ j e -> (i == j) = false -> Has ρ' j e) -> Xs S P r ρ') : Xs S P (st :: r) ρ :=
 zkl h (k _ (zX hL) (zG (hL ▸ hi)) zg)
theorem zvC (hL : ρ.length = 61) (h : zf S ρ st = some (((ρ.set 12 (some (.d a))).set 13 (some (.d b))).set 14 (some (.d c)), .next)) (k : ∀ ρ', ρ'.length = 61 -> Has ρ' 12 a -> Has ρ' 13 b -> Has ρ' 14 c -> (∀ {j e}, Has ρ j e -> (12 == j) = false -> (13 == j) = false -> (14 == j) = false -> Has ρ' j e) -> Xs S P r ρ') : Xs S P (st :: r) ρ :=
 zkl h (k _ (zX (zX (zX hL))) (zg (zg (zG (hL ▸ by simp)) rfl) rfl) (zg (zG (zX hL ▸ by simp)) rfl) (zG (zX (zX hL) ▸ by simp)) fun h x y z => zg (zg (zg h x) y) z)
end
theorem zur {tbl : Nat -> Option Fn} (t8 : tbl 8 = some (.code 1 60 Two2.strB)) (t9 : tbl 9 = some (.code 1 60 Two2.parB)) (t10 : tbl 10 = some (.code 2 60 zmF)) (t11 : tbl 11 = some (.code 2 60 Two2.readB)) (t12 : tbl 12 = some (.code 2 60 zig))
  {zs : List Int} (hz : zs.length <= 63) (n : Nat) : ∃ ρ s t k b w, zkk ρ s t k b w /\ (run tbl (n + 201)).blk (some (.d (.list (zs.map .int))) :: List.replicate 60 none) Two2.lawA = some (ρ, .next) := by
 show Xs (run tbl (n + 200)) (fun o => ∃ ρ s t k b w, zkk ρ s t k b w /\ o = some (ρ, .next)) [Two2.sA0, Two2.sA1, Two2.sA2, Two2.sA3, Two2.sA4, Two2.sA5, Two2.sA6, Two2.sA7, Two2.sA8, Two2.sA9, Two2.sA10, Two2.sA11, Two2.sA12, Two2.sA13] (some (.d (.list (zs.map .int))) :: List.replicate 60 none)
 have S0 : ∃ s : Nat -> Int, zf (run tbl (n + 200)) (some (.d (.list (zs.map .int))) :: List.replicate 60 none) Two2.sA0 = some (List.set (some (.d (.list (zs.map .int))) :: List.replicate 60 none) 3 (some (.d (six s))), .next) :=
  E51 (zso (tbl := tbl) (n := n + 186) (ρ := some (.d (.list (zs.map .int))) :: List.replicate 60 none) rfl rfl hz) fun a b c d e h => E12 h fun f x h => I11 (fun i => [a, b, c, d, e, f].getD i 0) h
 refine E11 S0 fun s e0 => stp rfl e0 (by simp) fun ρ1 L1 h3 x => ?_
 refine E12 (zsx (tbl := tbl) (n := n + 186) L1 h3) fun l hl e1 => stp (d := zqu l) L1 e1 (by simp) fun ρ2 L2 h4 K => ?_
 have h3 := K h3 rfl
 refine E12 (zsy (tbl := tbl) (n := n + 186) L2 h3 hl h4) fun u hu e => stp L2 e (by simp) fun ρ3 L3 h5 K => ?_
 have h3 := K h3 rfl
 have h4 := K h4 rfl
 refine E12 (zsz (tbl := tbl) (n := n + 186) L3 h3 hl h4) fun v hv e => stp L3 e (by simp) fun ρ4 L4 h6 K => ?_
 have h3 := K h3 rfl
 refine E16 (zsA (tbl := tbl) (n := n + 184) L4 h3 hl (K h4 rfl) hu hv (K h5 rfl) h6) fun t ht htz htd htp hpr e => stp L4 e (by simp) fun ρ5 L5 h7 K => ?_
 have h3 := K h3 rfl
 refine stp L5 (zsC (tbl := tbl) (n := n + 186) L5) (by simp) fun ρ6 L6 h8 K => ?_
 have h3 := K h3 rfl
 have h7 := K h7 rfl
 refine E12 (zsD (tbl := tbl) (n := n + 186) L6 h3 h8) fun m hm e => stp L6 e (by simp) fun ρ7 L7 h9 K => ?_
 have h3 := K h3 rfl
 have h7 := K h7 rfl
 refine stp L7 (zsE (n := n + 160) t10 L7 ht htz htd h7 h9) (by simp) fun ρ8 L8 h10 K => ?_
 have h3 := K h3 rfl
 have h7 := K h7 rfl
 refine zkl (zsF (n := n + 160) t8 t9 L8 (zrd hm) hpr htz h10) (zkl (zsG (n := n + 100) t8 t9 t11 L8 (zrd hm) ht htd hpr htz h10 (K h9 rfl) h7 (zuo (nle htd (by simp)))) (stp L8 (zqw (n := n + 180) L8) (by simp) fun ρ9 L9 h11 K => ?_))
 have h3 := K h3 rfl
 have h7 := K h7 rfl
 refine E34 (zqx (tbl := tbl) (n := n + 180) L9 h3 h11) fun k b w hk hb hw e => zvC L9 e fun ρ10 L10 h12 h13 h14 K => ?_
 have h3 := K h3 rfl rfl rfl
 have h7 := K h7 rfl rfl rfl
 have h11 := K h11 rfl rfl rfl
 refine stp L10 (zqy (n := n + 160) t12 L10 ht htd htp (zcJ k hk) h7 h11 h12) (by simp) fun ρ11 L11 h16 K => ?_
 have hPl : (zM t (zV k)).length <= 45 := by unfold zM; rw [List.length_map, zbA]; exact htp
 refine stp L11 (zqz (n := n + 160) L11 (nle hPl (by simp)) (fun p hp => E12 (List.mem_map.mp hp) fun q hq e => e ▸ zaD t _ ht q hq) h16) (by simp) fun ρ12 L12 h17 K' => ?_
 exact ⟨ρ12, s, t, k, b, w, ⟨L12, hk, hb, hw, ht, htd, htp, hpr, K' (K h3 rfl) rfl, K' (K h7 rfl) rfl, K' (K h11 rfl) rfl, K' (K h12 rfl) rfl, K' (K h13 rfl) rfl, K' (K h14 rfl) rfl, K' h16 rfl, h17⟩, rfl⟩
noncomputable def dvN (w : Nat) : List Nat -> Nat
 | [] => 0
 | d :: r => d + dvN w r * 2 ^ w
theorem zkm (w : Nat) : ∀ ds : List Nat, za8 w (ds.map fun (d : Nat) => (d : Int)) = (dvN w ds : Int)
 | [] => rfl
 | d :: r => by
  show (d : Int) + za8 w (r.map fun (d : Nat) => (d : Int)) * 2 ^ w = ((d + dvN w r * 2 ^ w : Nat) : Int)
  rw [zkm w r]
  push_cast
  rfl
theorem zl4 {w : Nat} : ∀ {ds : List Nat}, (∀ d ∈ ds, d < 2 ^ w) -> zaY (dvN w ds) w ds.length = ds
 | [], _ => rfl
 | d :: r, h => by
  have hd := h d (List.mem_cons_self ..)
  show (d + dvN w r * 2 ^ w) % 2 ^ w :: zaY ((d + dvN w r * 2 ^ w) / 2 ^ w) w r.length = d :: r
  rw [Nat.add_mul_mod_self_right, Nat.mod_eq_of_lt hd, Nat.add_mul_div_right _ _ (Nat.two_pow_pos w), Nat.div_eq_of_lt hd, Nat.zero_add, zl4 fun x hx => h x (List.mem_cons_of_mem _ hx)]
theorem zre {w : Nat} : ∀ {ds : List Nat}, (∀ d ∈ ds, d < 2 ^ w) -> dvN w ds < 2 ^ (w * ds.length)
 | [], _ => by simp [dvN]
 | d :: r, h => by
  have hd := h d (List.mem_cons_self ..)
  show d + dvN w r * 2 ^ w < 2 ^ (w * (r.length + 1))
  rw [Nat.mul_succ, Nat.pow_add]
  have : (dvN w r + 1) * 2 ^ w <= 2 ^ (w * r.length) * 2 ^ w := Nat.mul_le_mul_right _ (zre (w := w) (ds := r) fun x hx => h x (List.mem_cons_of_mem _ hx))
  lia
theorem zrf {w top : Nat} (ht : 1 <= top) : ∀ (ds : List Nat), 2 ^ (w * ds.length) <= dvN w (ds ++ [top])
 | [] => by simp [dvN]; assumption
 | d :: r => by
  show 2 ^ (w * (r.length + 1)) <= d + dvN w (r ++ [top]) * 2 ^ w
  rw [Nat.mul_succ, Nat.pow_add]
  have := Nat.mul_le_mul_right (2 ^ w) (zrf (w := w) ht r)
  lia
theorem zsI {w top : Nat} {ds : List Nat} (hw : 1 <= w) (ht : 1 <= top) (h : ∀ d ∈ ds ++ [top], d < 2 ^ w) : zfK (dvN w (ds ++ [top])) w = ds.length + 1 := by
 have h1 := zre h
 have h2 := zrf (w := w) ht ds
 rw [List.length_append, List.length_cons, List.length_nil, Nat.zero_add] at h1
 generalize dvN w (ds ++ [top]) = a at *
 have b1 : zaI (a : Int) <= w * (ds.length + 1) := zby h1
 have b2 : ¬ zaI (a : Int) <= w * ds.length := by
  intro hh
  have := intBits_le_iff.mp hh
  rw [Int.natAbs_natCast] at this
  lia
 unfold zfK
 generalize zaI (a : Int) = B at *
 rw [Nat.mul_succ] at b1
 generalize hm : w * ds.length = m at *
 have hm : ds.length * w = m := (Nat.mul_comm ..).trans hm
 refine Nat.div_eq_of_lt_le ?_ ?_
 ·rw [Nat.succ_mul, hm]
  exact nle (Nat.le_of_eq (congrArg (· - 1) (Nat.add_right_comm m 1 w)).symm) (Nat.sub_le_sub_right (Nat.add_le_add_right (Nat.lt_of_not_le b2) w) 1)
 ·rw [Nat.succ_mul, Nat.succ_mul, hm]
  exact Nat.lt_of_lt_of_le (Nat.sub_lt (Nat.lt_of_lt_of_le hw (Nat.le_add_left ..)) Nat.one_pos) (Nat.add_le_add_right b1 w)
noncomputable def stN (p : Nat × Nat) : Nat := 24 * p.1 + p.2
theorem zkn (p : Nat × Nat) : zb9 p = (stN p : Int) := by push_cast; rfl
theorem zhm (P : List (Nat × Nat)) : P.map zb9 = (P.map stN).map fun (d : Nat) => (d : Int) := by
 rw [List.map_map]; apply List.map_congr_left; intro p _; exact zkn p
theorem zin : ∀ is : List Int, zdb (is.map .int) = some is
 | [] => rfl
 | x :: is => by
  show (zdb (is.map .int)).map (x :: ·) = _
  rw [zin is]; rfl
theorem zko : ∀ is : List Int, PyData.canLayAll0 (is.map .int) = true
 | [] => rfl
 | x :: is => zko is
theorem zhn : ∀ is : List Int, PyData.depthAll (is.map .int) = 0
 | [] => rfl
 | x :: is => by show max 0 (PyData.depthAll (is.map .int)) = 0; rw [zhn is]; rfl
theorem zl6 (is : List Int) : eqD (.list (is.map .int)) (.list (is.map .int)) = some true := zhk (by
 show (PyData.canLayAll0 (is.map .int) && decide (PyData.depthAll (is.map .int) + 1 <= 64)) = true
 rw [zko, zhn]; rfl)
theorem zmV (t : Tr) (r : zB) (h : ∃ x y, t = .pair x y) : ∃ P k, zM t r = P ++ [(3, k)] := by
 obtain ⟨x, y, e9⟩ := h; refine rwE e9 ?_
 exact I21 _ _ (by unfold zM; rw [prog, List.map_append]; rfl)
theorem zmW {t : Tr} {r : zB} (ht : t.ok) (hp : zf2 t <= 45) (hr : zae r) (hpr : ∃ x y, t = .pair x y) {w : Nat} (hw : 7 <= w) (hw2 : w <= 66) :
  zhz [.list (((zM t r).map zb9).map .int), .int (w : Int)] = some (.int (dvN w ((zM t r).map stN) : Nat)) /\
  zhy [.int (dvN w ((zM t r).map stN) : Nat), .int (w : Int)] = some (.list (((zM t r).map zb9).map .int)) := by
 have hbig : big = 1000000 := rfl
 have hl : (zM t r).length <= 45 := by unfold zM; rw [List.length_map, zbA]; exact hp
 have hlt : ∀ d ∈ (zM t r).map stN, d < 96 := by
  intro d hd
  obtain ⟨p, hp, rfl⟩ := List.mem_map.mp hd
  obtain ⟨q, hq, rfl⟩ := List.mem_map.mp hp
  have h1 := zaD t r ht q hq
  have h2 := (zo9 (zaT t r hr q hq)).2
  show 24 * q.1 + zbE q.2 < 96
  lia
 have h128 : 128 <= 2 ^ w := by
  have : 2 ^ 7 <= 2 ^ w := Nat.pow_le_pow_right (by decide) hw
  exact this
 have hlt2 : ∀ d ∈ (zM t r).map stN, d < 2 ^ w := fun d hd => by have := hlt d hd; lia
 have hwl : (zM t r).length * w <= 2 ^ 24 := by
  have := Nat.mul_le_mul hl hw2
  lia
 constructor
 ·show (zdb (((zM t r).map zb9).map .int)).bind _ = _
  rw [zin]
  show (if (0 : Int) <= (w : Int) /\ (∀ d ∈ (zM t r).map zb9, 0 <= d /\ d < 2 ^ (w : Int).toNat) /\ ((zM t r).map zb9).length * (w : Int).toNat <= 2 ^ 24 /\ ((zM t r).map zb9).length <= big then some (PyData.int (za8 (w : Int).toNat ((zM t r).map zb9))) else none) = _
  rw [Int.toNat_natCast, if_pos]
  ·rw [zhm, zkm]
  ·refine I04 (Int.natCast_nonneg _) ?_ (by rw [List.length_map]; exact hwl) (by rw [List.length_map]; lia)
   rw [zhm]
   intro d hd
   obtain ⟨m, hm, rfl⟩ := List.mem_map.mp hd
   have := hlt2 m hm
   refine ⟨Int.natCast_nonneg _, ?_⟩
   exact_mod_cast this
 ·obtain ⟨P, k, hP⟩ := zmV t r hpr
  have hc := zsI (w := w) (top := 72 + k) (ds := P.map stN) (by lia) (by lia) (by
   intro d hd
   refine hlt2 d ?_
   rw [hP, List.map_append]; exact hd)
  have e : (zM t r).map stN = P.map stN ++ [72 + k] := by rw [hP, List.map_append]; rfl
  rw [<- e] at hc
  have hlen : (P.map stN).length + 1 = ((zM t r).map stN).length := by rw [e, List.length_append]; rfl
  show (if (0 : Int) <= ((dvN w ((zM t r).map stN) : Nat) : Int) /\ (1 : Int) <= (w : Int) /\ (w : Int).toNat <= 2 ^ 24 /\ zfK ((dvN w ((zM t r).map stN) : Nat) : Int).toNat (w : Int).toNat * (w : Int).toNat <= 2 ^ 24 /\ zfK ((dvN w ((zM t r).map stN) : Nat) : Int).toNat (w : Int).toNat <= big then
   some (PyData.list (dI (zaY ((dvN w ((zM t r).map stN) : Nat) : Int).toNat (w : Int).toNat (zfK ((dvN w ((zM t r).map stN) : Nat) : Int).toNat (w : Int).toNat)))) else none) = _
  rw [Int.toNat_natCast, Int.toNat_natCast, hc, hlen, if_pos, zl4 hlt2]
  ·unfold dI; simp only [List.map_map]; rfl
  ·rw [List.length_map]
   refine I05 (Int.natCast_nonneg _) (by lia) ?_ hwl (by lia)
   lia
theorem zpa {α : Type} (g : α -> PyData) : ∀ (ds : List α) (k : Nat), zd7 (ds.map g) k = (ds.zipIdx k).map fun p => .tuple [.int (p.2 : Int), g p.1]
 | [], k => rfl
 | d :: ds, k => by
  show .tuple [.int (k : Int), g d] :: zd7 (ds.map g) (k + 1) = _
  rw [zpa g ds (k + 1), List.zipIdx_cons, List.map_cons]
theorem zpb (W : Nat) : ∀ (ds : List Nat) (k : Nat) (a : Int), ((ds.zipIdx k).map fun p => ((p.1 * 2 ^ (W * p.2) : Nat) : Int)).foldl (· + ·) a = a + ((dvN W ds * 2 ^ (W * k) : Nat) : Int)
 | [], k, a => by simp [dvN]
 | d :: ds, k, a => by
  rw [List.zipIdx_cons, List.map_cons, List.foldl_cons, zpb W ds (k + 1)]
  show a + ((d * 2 ^ (W * k) : Nat) : Int) + _ = a + (((d + dvN W ds * 2 ^ W) * 2 ^ (W * k) : Nat) : Int)
  rw [Nat.mul_succ, Nat.pow_add, Nat.add_mul, Nat.mul_assoc (dvN W ds), Nat.mul_comm (2 ^ W)]
  push_cast
  rw [Int.add_assoc]
theorem zsJ : Two2.pt1 = .cmp .NotEq (.v 2) (.bi .sum [(.comp (.bin .Mult (.v 48) (.bin .Pow (.c (.int 2)) (.bin .Mult (.v 14) (.v 47)))) [(.mk (.t [(.v 47), (.v 48)]) (.enm (.v 17)) [])])]) := by kernel_rfl
theorem zpc : zaI 2 = 2 := by kernel_rfl
section
variable {tbl : Nat -> Option Fn} {ρ : Rho} {n : Nat}
theorem zsK (W d i : Nat) (hW : W <= 66) (hd : d < 96) (hi : i <= 100) (hL : ρ.length = 61) (h14 : Has ρ 14 (.int (W : Int))) (h47 : Has ρ 47 (.int (i : Int))) (h48 : Has ρ 48 (.int (d : Int))) :
  (run tbl (n + 10)).ex ρ (.bin .Mult (.v 48) (.bin .Pow (.c (.int 2)) (.bin .Mult (.v 14) (.v 47)))) = some (.int ((d * 2 ^ (W * i) : Nat) : Int)) := by
 have m : W * i <= 6600 := Nat.mul_le_mul hW hi
 have b1 : zav .Mult (.int (W : Int)) (.int (i : Int)) = some (.int ((W * i : Nat) : Int)) := by
  have x : zaI (W : Int) <= 7 := zby (by lia)
  have y : zaI (i : Int) <= 7 := zby (by lia)
  show (if zaI (W : Int) + zaI (i : Int) <= 2 ^ 27 then some (PyData.int ((W : Int) * (i : Int))) else none) = _
  rw [if_pos (by lia)]; push_cast; rfl
 have b2 : zav .Pow (.int 2) (.int ((W * i : Nat) : Int)) = some (.int ((2 ^ (W * i) : Nat) : Int)) := by
  show (if 0 <= ((W * i : Nat) : Int) /\ (zaI 2 : Int) * ((W * i : Nat) : Int) <= 2 ^ 27 then some (PyData.int ((2 : Int) ^ ((W * i : Nat) : Int).toNat)) else none) = _
  rw [zpc, if_pos ⟨by lia, by lia⟩, Int.toNat_natCast]
  push_cast; rfl
 have b3 : zav .Mult (.int (d : Int)) (.int ((2 ^ (W * i) : Nat) : Int)) = some (.int ((d * 2 ^ (W * i) : Nat) : Int)) := by
  have x : zaI (d : Int) <= 7 := zby (by lia)
  have y : zaI ((2 ^ (W * i) : Nat) : Int) <= W * i + 1 := zby (by rw [Nat.pow_succ]; have := Nat.two_pow_pos (W * i); lia)
  show (if zaI (d : Int) + zaI ((2 ^ (W * i) : Nat) : Int) <= 2 ^ 27 then some (PyData.int ((d : Int) * ((2 ^ (W * i) : Nat) : Int))) else none) = _
  rw [if_pos (by lia)]; push_cast; rfl
 exact zJ (zH h48) (zJ rfl (zJ (zH h14) (zH h47) b1) b2) b3
theorem zsL (hL : ρ.length = 61) {W : Nat} (hW : W <= 66) {ds : List Nat} (hds : ∀ d ∈ ds, d < 96) (hl : ds.length <= 45) (h14 : Has ρ 14 (.int (W : Int))) (h17 : Has ρ 17 (.list ((ds.map fun (d : Nat) => (d : Int)).map .int))) (h2 : Has ρ 2 (.int (dvN W ds : Nat))) :
  (run tbl (n + 20)).ex ρ Two2.pt1 = some (.bool false) := by
 have hbig : big = 1000000 := rfl
 rw [zsJ]
 have C : (run tbl (n + 18)).ex ρ (.comp (.bin .Mult (.v 48) (.bin .Pow (.c (.int 2)) (.bin .Mult (.v 14) (.v 47)))) [(.mk (.t [(.v 47), (.v 48)]) (.enm (.v 17)) [])]) =
   some (.list (((ds.zipIdx 0).map fun p => ((p.1 * 2 ^ (W * p.2) : Nat) : Int)).map .int)) := by
  rw [List.map_map]
  refine zqs (n := n + 17) (zkj (α := Nat × Nat) (g := fun p => .tuple [.int (p.2 : Int), .int (p.1 : Int)]) (h := PyData.int ∘ fun (p : Nat × Nat) => ((p.1 * 2 ^ (W * p.2) : Nat) : Int)) ?_ ?_) (by rw [List.length_map, List.length_zipIdx]; lia)
  ·have e : (ds.map fun (d : Nat) => (d : Int)).map PyData.int = ds.map fun (d : Nat) => PyData.int (d : Int) := by rw [List.map_map]; rfl
   rw [e] at h17
   refine (zoH (zH (zg (zg h17 rfl) rfl)) rfl (by rw [List.length_map]; exact nle hl (by decide))).trans ?_
   rw [zpa]
  ·intro p hp
   have hpi : p.2 < ds.length /\ p.1 ∈ ds := by
    have := List.mem_zipIdx hp
    refine ⟨by lia, ?_⟩
    rw [this.2.2]
    exact List.getElem_mem _
   refine I12 ((((ρ.set 47 none).set 48 none).set 47 (some (.d (.int (p.2 : Int))))).set 48 (some (.d (.int (p.1 : Int))))) rfl ?_
   exact zsK (n := n + 7) W p.1 p.2 hW (hds _ hpi.2) (by lia) (zX (zX (zX (zX hL)))) (zg (zg (zg (zg h14 rfl) rfl) rfl) rfl) (zg (zG (zX (zX hL) ▸ by simp)) rfl) (zG (zX (zX (zX hL)) ▸ by simp))
 have sm : biD .sum [.list (((ds.zipIdx 0).map fun p => ((p.1 * 2 ^ (W * p.2) : Nat) : Int)).map .int)] = some (.int (dvN W ds : Nat)) := by
  show (if (((ds.zipIdx 0).map fun p => ((p.1 * 2 ^ (W * p.2) : Nat) : Int)).map PyData.int).length <= big then (zcM _ 0).map PyData.int else none) = _
  rw [if_pos (by rw [List.length_map, List.length_map, List.length_zipIdx]; lia), zdx, zpb, Nat.mul_zero, Nat.pow_zero, Nat.mul_one, Int.zero_add]; rfl
 have q : zfQ .NotEq (.int (dvN W ds : Nat)) (.int (dvN W ds : Nat)) = some false := by
  show some (!((dvN W ds : Int) == (dvN W ds : Int))) = _
  rw [beq_self_eq_true]; rfl
 exact zaj (zay h2) (zrc (zan C) sm) q
end
def xK (kd : Nat) (p : Nat × Nat) : Int := match kd with | 0 => (stN p : Int) | 1 => -(stN p : Int) | _ => -(stN p : Int) - 1
noncomputable def yK (kd : Nat) : Int := match kd with | 0 => 24 | 1 => -24 | _ => 24
noncomputable def qK (kd : Nat) (p : Nat × Nat) : Int := match kd with | 0 => (p.1 : Int) | 1 => (p.1 : Int) | _ => -(p.1 : Int) - 1
noncomputable def rK (kd : Nat) (p : Nat × Nat) : Int := match kd with | 0 => (p.2 : Int) | 1 => -(p.2 : Int) | _ => 23 - (p.2 : Int)
def zvD (kd l k : Nat) : Bool := decide ((((run (Two2.tE true) 40).call 6 [.int (xK kd (l, k)), .int (yK kd)]).bind zgg).bind zdb = some [qK kd (l, k), rK kd (l, k)])
def zfv (kd l : Nat) : Bool := (List.range 24).all fun k => zvD kd l k
theorem c00 : zfv 0 0 = true := by decide +kernel
theorem c01 : zfv 0 1 = true := by decide +kernel
theorem c02 : zfv 0 2 = true := by decide +kernel
theorem c03 : zfv 0 3 = true := by decide +kernel
theorem c10 : zfv 1 0 = true := by decide +kernel
theorem c11 : zfv 1 1 = true := by decide +kernel
theorem c12 : zfv 1 2 = true := by decide +kernel
theorem c13 : zfv 1 3 = true := by decide +kernel
theorem c20 : zfv 2 0 = true := by decide +kernel
theorem c21 : zfv 2 1 = true := by decide +kernel
theorem c22 : zfv 2 2 = true := by decide +kernel
theorem c23 : zfv 2 3 = true := by decide +kernel
theorem zqA {kd l k : Nat} (h1 : kd < 3) (h2 : l <= 3) (h3 : k < 24) : (run (Two2.tE true) 40).call 6 [.int (xK kd (l, k)), .int (yK kd)] = some (.tuple [.int (qK kd (l, k)), .int (rK kd (l, k))]) := by
 have this : zfv kd l = true := by
  have h2 := Nat.lt_succ_of_le h2
  refine lt3 h1 (ltS h2 c00 fun l h2 => lt3 h2 c01 c02 c03) (ltS h2 c10 fun l h2 => lt3 h2 c11 c12 c13) (ltS h2 c20 fun l h2 => lt3 h2 c21 c22 c23)
 exact zo4 (List.all_eq_true.mp this k (List.mem_range.mpr h3))
theorem zsM (a : Int) : Builtin.bitNot a = -a - 1 := by
 unfold Builtin.bitNot; rfl
theorem zY {ρ : Rho} {i : Nat} {v : Option PV} (h : ρ.length = 61) : (ρ.set i v).length = 61 := by rw [List.length_set]; exact h
def zbK (is : List Nat) (ρ ρ' : Rho) : Prop := ρ'.length = ρ.length /\ ∀ i, i ∉ is -> ρ'[i]? = ρ[i]?
theorem zbK.has {is : List Nat} {ρ ρ' : Rho} (s : zbK is ρ ρ') {i : Nat} {d : PyData} (h : Has ρ i d) (hi : is.contains i = false) : Has ρ' i d := by
 have : i ∉ is := by intro hm; cases (List.contains_iff_mem.mpr hm).symm.trans hi
 unfold Has; rw [s.2 i this]; exact h
theorem zbK.refl (is : List Nat) (ρ : Rho) : zbK is ρ ρ := ⟨rfl, fun u v => rfl⟩
theorem zbK.trans {is : List Nat} {ρ ρ' ρ2 : Rho} (a : zbK is ρ ρ') (b : zbK is ρ' ρ2) : zbK is ρ ρ2 := ⟨b.1.trans a.1, fun i h => (b.2 i h).trans (a.2 i h)⟩
theorem za2 {is : List Nat} {ρ : Rho} {i : Nat} {v : Option PV} (h : is.contains i = true) : zbK is ρ (ρ.set i v) := ⟨List.length_set, fun j hj => by
 rw [List.getElem?_set, if_neg]
 intro e; subst e; exact hj (List.contains_iff_mem.mp h)⟩
theorem zho {S : Sv} {t : Tgt} {b : List PS} {is : List Nat} (P : Rho -> Prop) (hS : ∀ ρ, P ρ -> S.blk ρ [] = some (ρ, .next)) : ∀ (xs : List PyData), (∀ x ∈ xs, ∀ ρ, P ρ -> ∃ ρ1 ρ2, zax t x ρ = some ρ1 /\ S.blk ρ1 b = some (ρ2, .next) /\ zbK is ρ ρ2 /\ P ρ2) ->
  ∀ ρ, P ρ -> ∃ ρ2, zbZ S t b [] xs ρ = some (ρ2, .next) /\ zbK is ρ ρ2 /\ P ρ2
 | [], _, ρ, p => I13 ρ (hS ρ p) (zbK.refl _ _) p
 | x :: xs, h, ρ, p => by
  obtain ⟨ρ1, ρ2, h1, h2, s, p2⟩ := h x (List.mem_cons_self ..) ρ p
  obtain ⟨ρ3, h3, s3, p3⟩ := zho P hS xs (fun y hy => h y (List.mem_cons_of_mem _ hy)) ρ2 p2
  refine I13 ρ3 ?_ (s.trans s3) p3
  unfold zbZ
  rw [h1, Option.bind_some, h2, Option.bind_some]
  exact h3
section
variable {ρ : Rho} {n : Nat}
theorem zsN {tbl : Nat -> Option Fn} {s : Nat -> Int} (hL : ρ.length = 61) (h3 : Has ρ 3 (six s)) : ∃ kd : Nat, kd < 3 /\ zf (run tbl (n + 20)) ρ Two2.sC0 = some (ρ.set 19 (some (.d (.int (kd : Int)))), .next) := by
 exact I12 _ (fmL (s 5) 3 (by simp)) (zu ((zJ (zS (zay h3) rfl rfl) rfl (zaW (by decide))).trans (congrArg (fun i => some (PyData.int i)) (fmN (s 5) 3 (by simp)).symm)))
theorem zus (hL : ρ.length = 61) {kd : Nat} (hk : kd < 3) {p : Nat × Nat} (h1 : p.1 <= 3) (h2 : p.2 < 24) (h19 : Has ρ 19 (.int (kd : Int))) (h18 : Has ρ 18 (.int (stN p : Int))) (h15 : Has ρ 15 (.int (p.1 : Int))) (hv1 : Has ρ 1 (.int (p.2 : Int))) :
  (run (Two2.tE true) (n + 60)).blk ρ [.iff (.cmp .NotEq (.call 6 [(.idx (.tup [(.v 18), (.neg (.v 18)), (.inv (.v 18))]) (.v 19)), (.idx (.tup [(.c (.int 24)), (.neg (.c (.int 24))), (.c (.int 24))]) (.v 19))]) (.idx (.tup [(.tup [(.v 15), (.v 1)]), (.tup [(.v 15), (.neg (.v 1))]), (.tup [(.inv (.v 15)), (.bin .Sub (.c (.int 23)) (.v 1))])]) (.v 19))) [.ret (.c (.bool false))] []] = some (ρ, .next) := by
 have C := (zat (tbl := Two2.tE true) (show 40 <= n + 57 by simp)).call _ _ _ (zqA hk h1 h2)
 have q : ∀ a b : Int, zfQ .NotEq (.tuple [.int a, .int b]) (.tuple [.int a, .int b]) = some false := fun a b => congrArg (Option.map not) (zhk (d := .tuple [.int a, .int b]) (by rfl))
 have N := fun (i : Int) => congrArg (fun i => some (PyData.int i)) (zsM i)
 have T := zfN (tbl := Two2.tE true) (n := n + 55) (zaS (zH h18) (zaS (zq4 (zH h18)) (zan ((zq5 (zH h18)).trans (N _)))))
 have U := zfN (tbl := Two2.tE true) (n := n + 56) (zaS (zfN (zaS (zH h15) (zan (zH hv1)))) (zaS (zfN (zaS (zH h15) (zan (zq4 (zH hv1))))) (zan (zfN (zaS ((zq5 (zH h15)).trans (N _)) (zan (zJ (a := .c (.int 23)) (op := .Sub) rfl (zH hv1) rfl)))))))
 revert h19 C
 refine lt3 hk (fun h19 C => ?_) (fun h19 C => ?_) fun h19 C => ?_
 ·exact zP (zbz (t_b (zaj (zad (zaS (zS T (zH h19) rfl) (zan (zS rfl (zH h19) rfl))) C) (zS U (zH h19) rfl) (q _ _))) rfl) rfl
 ·exact zP (zbz (t_b (zaj (zad (zaS (zS T (zH h19) rfl) (zan (zS rfl (zH h19) rfl))) C) (zS U (zH h19) rfl) (q _ _))) rfl) rfl
 ·exact zP (zbz (t_b (zaj (zad (zaS (zS T (zH h19) rfl) (zan (zS rfl (zH h19) rfl))) C) (zS U (zH h19) rfl) (q _ _))) rfl) rfl
end
theorem zkp {α : Type} (f g : α -> PyData) : ∀ (m : Nat) (P : List α), zel ((P.take m).map f) (P.map g) = (P.take m).map fun p => .tuple [f p, g p]
 | 0, P => by induction P <;> rfl
 | m + 1, [] => rfl
 | m + 1, p :: P => by
  show .tuple [f p, g p] :: zel ((P.take m).map f) (P.map g) = .tuple [f p, g p] :: _
  rw [zkp f g m P]
theorem zmX {xs : List PyData} {j : Nat} : zbW xs none (some (j : Int)) none = xs.take j := by
 by_cases h : j <= xs.length
 ·exact zjd h
 ·have e : sliceBounds none (some (j : Int)) none xs.length = sliceBounds none (some (xs.length : Int)) none xs.length := by
   simp only [sliceBounds, Option.getD_none, show ((1 : Int) > 0) = True from by simp, if_true]
   rw [if_neg (by simp), if_neg (by simp), Int.min_eq_right (by lia), Int.min_eq_right (by simp)]
  have q := zjd (Nat.le_refl xs.length)
  unfold zbW at q |-
  rw [e, q, List.take_of_length_le (Nat.le_refl _), List.take_of_length_le (by lia)]
section
variable {ρ : Rho} {n : Nat}
noncomputable def p18 : Tgt := .t [(.v 18), (.t [(.v 15), (.v 1)])]
theorem zsO (hL : ρ.length = 61) {kd : Nat} (hk : kd < 3) {P : List (Nat × Nat)} (hP : ∀ p ∈ P, p.1 <= 3 /\ p.2 < 24) (hl : P.length <= 45) (h19 : Has ρ 19 (.int (kd : Int))) (h16 : Has ρ 16 (.list (P.map zdz))) (h17 : Has ρ 17 (.list ((P.map zb9).map .int))) :
  ∃ ρ2, zf (run (Two2.tE true) (n + 60)) ρ Two2.sC1 = some (ρ2, .next) /\ zbK [18, 15, 1] ρ ρ2 := by
 have hbig : big = 1000000 := rfl
 have e17 : (P.map zb9).map PyData.int = P.map fun p => .int (stN p : Int) := by
  rw [List.map_map]; apply List.map_congr_left; intro p _; show PyData.int (zb9 p) = _; rw [zkn]
 rw [e17] at h17
 have sl : zaz (.list (P.map fun p => PyData.int (stN p : Int))) none (some 16) none = some (.list ((P.take 16).map fun p => PyData.int (stN p : Int))) := by
  rw [zbn (by rw [List.length_map]; lia), show (some 16 : Option Int) = some ((16 : Nat) : Int) from rfl, zmX, List.map_take]
 have it : itD (run (Two2.tE true) (n + 60)) ρ (.zip (.sl (.v 17) none (some (.c (.int 16))) none) (.v 16)) = some ((P.take 16).map fun p => .tuple [.int (stN p : Int), zdz p]) := by
  rw [<- zkp]
  exact zsi (zeh (zH h17) rfl rfl rfl sl) (zH h16) rfl ⟨by rw [List.length_map]; exact nle (nle (List.length_take_le ..) (show 16 <= big by decide)) (Nat.le_refl _), by rw [List.length_map]; exact nle hl (by decide)⟩
 have L := zho (S := run (Two2.tE true) (n + 60)) (t := p18) (is := [18, 15, 1]) (fun ρ => ρ.length = 61 /\ Has ρ 19 (.int (kd : Int))) (fun _ _ => rfl) ((P.take 16).map fun p => .tuple [.int (stN p : Int), zdz p]) (by
  intro x hx ρ hρ
  obtain ⟨p, hp, e9⟩ := List.mem_map.mp hx; refine rwB e9 ?_
  obtain ⟨h1, h2⟩ := hP p (List.mem_of_mem_take hp)
  have hL' : (((ρ.set 18 (some (.d (.int (stN p : Int))))).set 15 (some (.d (.int (p.1 : Int))))).set 1 (some (.d (.int (p.2 : Int))))).length = 61 := zY (zY (zY hρ.1))
  have k19 : Has (((ρ.set 18 (some (.d (.int (stN p : Int))))).set 15 (some (.d (.int (p.1 : Int))))).set 1 (some (.d (.int (p.2 : Int))))) 19 (.int (kd : Int)) := zg (zg (zg hρ.2 rfl) rfl) rfl
  exact I25 _ _ rfl (zus (n := n) hL' hk h1 h2 k19 (zg (zg (zG (by rw [hρ.1]; simp)) rfl) rfl) (zg (zG (by rw [List.length_set, hρ.1]; simp)) rfl) (zG (by rw [List.length_set, List.length_set, hρ.1]; simp))) (((za2 (by rfl)).trans (za2 (by rfl))).trans (za2 (by rfl))) hL' k19) ρ ⟨hL, h19⟩
 exact E14 L fun ρ2 l s _ _ => I12 ρ2 (zdt it l) s
end
noncomputable def nx : zB -> Int -> Int
 | (a, b, c, d, e), i => if i = a then b else if i = b then c else if i = c then d else if i = d then e else a
def zlg (ls : Nat -> Bool) (P : List (Nat × zB)) (i : Int) : Int := P.foldl (fun i s => if ls s.1 then nx s.2 i else i) i
def zvE (q : zB) : Bool := zK.all fun i =>
 nx (zB.rev (zaC q)) (nx (zB.rev (first q)) (nx (zaC q) (nx (first q) i))) == nx (zB.rev q) i &&
 nx (zB.rev (first q)) (nx (first q) i) == i && nx (zB.rev (zaC q)) (nx (zaC q) i) == i && nx q (nx (zB.rev q) i) == i && zK.contains (nx q i) && nx (zV (zbE q)) i == nx q i
theorem zqB : zo8 zvE = true := by decide +kernel
theorem zjh {q : zB} (h : zae q) {i : Int} (hi : i ∈ zK) : (nx (zB.rev (zaC q)) (nx (zB.rev (first q)) (nx (zaC q) (nx (first q) i))) = nx (zB.rev q) i) /\
  nx (zB.rev (first q)) (nx (first q) i) = i /\ nx (zB.rev (zaC q)) (nx (zaC q) i) = i /\ nx q (nx (zB.rev q) i) = i /\ nx q i ∈ zK /\ nx (zV (zbE q)) i = nx q i := by
 have := List.all_eq_true.mp (zge zqB h) i hi
 simp only [Bool.and_eq_true, beq_iff_eq, List.contains_iff_mem] at this
 exact ⟨this.1.1.1.1.1, this.1.1.1.1.2, this.1.1.1.2, this.1.1.2, this.1.2, this.2⟩
theorem ze2 (ls : Nat -> Bool) (P Q : List (Nat × zB)) (i : Int) : zlg ls (P ++ Q) i = zlg ls Q (zlg ls P i) := List.foldl_append
theorem zca (ls : Nat -> Bool) (h3 : ls 3 = true) : ∀ (t : Tr) (r : zB), zae r -> ∀ i ∈ zK, zlg ls (prog t r) i = if zei ls t then nx r i else i
 | .leaf l, r, hr, i, hi => rfl
 | .pair a b, r, hr, i, hi => by
  have f := zhl hr
  have s := zfu hr
  have b0 := zjh hr hi
  have m : ∀ {q : zB}, zae q -> ∀ {j : Int}, j ∈ zK -> nx q j ∈ zK := fun h _ hj => (zjh h hj).2.2.2.2.1
  have st : ∀ {t : Tr} {q : zB}, zae q -> ∀ {j : Int}, j ∈ zK -> (if zei ls t then nx q j else j) ∈ zK := fun {t q} h j hj => by
   cases zei ls t
   ·exact hj
   ·exact m h hj
  have e3 : ∀ j, zlg ls [(3, r)] j = nx r j := fun j => by show (if ls 3 then nx r j else j) = _; rw [h3]; rfl
  have rr := zft hr
  rw [prog, ze2, ze2, ze2, ze2, e3, zca ls h3 a _ f i hi, zca ls h3 b _ s _ (st f hi), zca ls h3 a _ (zft f) _ (st s (st f hi)), zca ls h3 b _ (zft s) _ (st (zft f) (st s (st f hi)))]
  show _ = if (!(zei ls a && zei ls b)) = true then nx r i else i
  cases zei ls a <;> cases zei ls b
  ·rfl
  ·show nx r (nx (zB.rev (zaC r)) (nx (zaC r) i)) = nx r i
   rw [b0.2.2.1]
  ·show nx r (nx (zB.rev (first r)) (nx (first r) i)) = nx r i
   rw [b0.2.1]
  ·show nx r (nx (zB.rev (zaC r)) (nx (zB.rev (first r)) (nx (zaC r) (nx (first r) i)))) = i
   rw [b0.1, b0.2.2.2.1]
noncomputable def zrg : zB -> List (Int × Int)
 | (a, b, c, d, e) => [(a, b), (b, c), (c, d), (d, e), (e, a)]
noncomputable def zut (p : Int × Int) : Int × PyData := (p.1, .int p.2)
def zcb (q : zB) : PyData := .dict (zbY ((zrg q).map zut))
def zmY (q : zB) : Bool := zK.all fun i => decide ((zbu (zcb q) (.int i)).bind zw = some (nx q i))
theorem zji : zo8 zmY = true := by decide +kernel
theorem zkq {q : zB} (h : zae q) {i : Int} (hi : i ∈ zK) : zbu (zcb q) (.int i) = some (.int (nx q i)) := by
 exact zl0 (List.all_eq_true.mp (zge zji h) i hi)
theorem zsP {S : Sv} {ρ : Rho} {α β : Type} {em : Rho -> Option β} {t : Tgt} {it : PE} {ys : List α} {g : α -> PyData} {h : α -> β} (hit : itD S ρ it = some (ys.map g)) (hel : ∀ y ∈ ys, ∃ ρx, zax t (g y) ρ = some ρx /\ em ρx = some (h y)) :
  zcx S em [.mk t it []] ρ = some (ys.map h) := by
 show (itD S ρ it).bind _ = _
 rw [hit, Option.bind_some]
 clear hit
 induction ys with
 | nil => rfl
 | cons y ys ih =>
  obtain ⟨ρx, h1, h2⟩ := hel y (List.mem_cons_self ..)
  rw [List.map_cons, zgi, ih fun z hz => hel z (List.mem_cons_of_mem _ hz), h1]
  show (((em ρx).map fun d => [d]).bind _) = _
  rw [h2]; rfl
section
variable {tbl : Nat -> Option Fn} {ρ : Rho} {n : Nat}
theorem zpd {k v : PE} {g : Gn} : (run tbl (n + 1)).ex ρ (.dcomp k v g) = (zcx (run tbl n) (kvD (run tbl n) k v) [g] (zR (zT g) ρ)).bind fun outs => if outs.length <= big then some (.dict (zbY outs)) else none := rfl
noncomputable def zsQ : PE := .zip (.idx (.v 11) (.v 48)) (.bin .Add (.sl (.idx (.v 11) (.v 48)) (some (.c (.int 1))) none none) (.sl (.idx (.v 11) (.v 48)) none (some (.c (.int 1))) none))
theorem zkr {k : Nat} (hk : k < 24) (h11 : Has ρ 11 zbo) (h48 : Has ρ 48 (.int (k : Int))) (hL : ρ.length = 61) : (run tbl (n + 10)).ex ρ (.dcomp (.v 50) (.v 51) (.mk (.t [(.v 50), (.v 51)]) zsQ [])) = some (zcb (zV k)) := by
 have ra := zki k hk
 generalize zV k = q at ra |-
 refine cps fun G0 hG_0 => ?_
 obtain ⟨a, b, c, d, e⟩ := q
 refine hG_0 ?_
 rw [zpd]
 have g11 : Has (zR [50, 51] ρ) 11 zbo := zg (zg h11 rfl) rfl
 have g48 : Has (zR [50, 51] ρ) 48 (.int (k : Int)) := zg (zg h48 rfl) rfl
 have hL2 : (zR [50, 51] ρ).length = 61 := zY (zY hL)
 show (zcx (run tbl (n + 9)) (kvD (run tbl (n + 9)) (.v 50) (.v 51)) [.mk (.t [(.v 50), (.v 51)]) zsQ []] (zR [50, 51] ρ)).bind _ = _
 generalize zR [50, 51] ρ = ρ1 at *
 have X : ∀ m, (run tbl (m + 2)).ex ρ1 (.idx (.v 11) (.v 48)) = some (rD (a, b, c, d, e)) := fun m => by
  rw [zse, zay g11, Option.bind_some, zH (n := m) g48, Option.bind_some]; exact ra
 have it : itD (run tbl (n + 9)) ρ1 zsQ = some ((zrg (a, b, c, d, e)).map fun (p : Int × Int) => .tuple [.int p.1, .int p.2]) := by
  show ((run tbl (n + 9)).ex ρ1 (.idx (.v 11) (.v 48))).bind _ = _
  rw [X, Option.bind_some, zsd, zq9, zq9, X]
  kernel_rfl
 rw [zsP (h := zut) it]
 ·rfl
 ·intro p hp
  refine ⟨((ρ1.set 50 (some (.d (.int p.1)))).set 51 (some (.d (.int p.2)))), rfl, ?_⟩
  unfold kvD
  rw [zH (n := n + 8) (zg (zG (by lia)) rfl), Option.bind_some, zH (n := n + 8) (zG (by rw [List.length_set]; lia))]; rfl
def tpD (p : Nat × Nat) : PyData := .tuple [.int (p.1 : Int), zcb (zV p.2)]
theorem zsR (hL : ρ.length = 61) {P : List (Nat × Nat)} (hP : ∀ p ∈ P, p.1 <= 3 /\ p.2 < 24) (hl : P.length <= 45) (h11 : Has ρ 11 zbo) (h16 : Has ρ 16 (.list (P.map zdz))) :
  zf (run tbl (n + 20)) ρ Two2.sC2 = some (ρ.set 20 (some (.d (.list (P.map tpD)))), .next) := by
 have hbig : big = 1000000 := rfl
 refine zu (zbD (n := n + 19) (zkj (g := zdz) (zk3 (zH (n := n + 18) (zg (zg h16 rfl) rfl)) rfl (by rw [List.length_map]; lia)) ?_) (by rw [List.length_map]; lia))
 intro p hp
 refine ⟨((((ρ.set 47 none).set 48 none).set 47 (some (.d (.int (p.1 : Int))))).set 48 (some (.d (.int (p.2 : Int))))), rfl, ?_⟩
 have a2 : Has ((((ρ.set 47 none).set 48 none).set 47 (some (.d (.int (p.1 : Int))))).set 48 (some (.d (.int (p.2 : Int))))) 48 (.int (p.2 : Int)) := zG (zY (zY (zY hL)) ▸ by decide)
 have a1 : Has ((((ρ.set 47 none).set 48 none).set 47 (some (.d (.int (p.1 : Int))))).set 48 (some (.d (.int (p.2 : Int))))) 47 (.int (p.1 : Int)) := zg (zG (zY (zY hL) ▸ by decide)) rfl
 have a3 : Has ((((ρ.set 47 none).set 48 none).set 47 (some (.d (.int (p.1 : Int))))).set 48 (some (.d (.int (p.2 : Int))))) 11 zbo := zg (zg (zg (zg h11 rfl) rfl) rfl) rfl
 have t := zkr (tbl := tbl) (n := n + 8) (hP p hp).2 a3 a2 (zY (zY (zY (zY hL))))
 generalize ((((ρ.set 47 none).set 48 none).set 47 (some (.d (.int (p.1 : Int))))).set 48 (some (.d (.int (p.2 : Int))))) = ρ1 at *
 exact zfN (zaS (zH a1) (zan t))
end
noncomputable def zpe : List (List Nat) := [[79, 80, 84, 73, 77, 73, 90, 69, 68], [78, 69, 87, 76, 79, 67, 65, 76, 83], [86, 65, 82, 65, 82, 71, 83], [86, 65, 82, 75, 69, 89, 87, 79, 82, 68, 83], [78, 69, 83, 84, 69, 68], [71, 69, 78, 69, 82, 65, 84, 79, 82], [78, 79, 70, 82, 69, 69], [67, 79, 82, 79, 85, 84, 73, 78, 69], [73, 84, 69, 82, 65, 66, 76, 69, 95, 67, 79, 82, 79, 85, 84, 73, 78, 69], [65, 83, 89, 78, 67, 95, 71, 69, 78, 69, 82, 65, 84, 79, 82]]
noncomputable def sD (l : List Nat) : PyData := .str ⟨l.toArray⟩
def zbF (a : Nat) : List Nat := if a < 10 then zpe.getD a [] else [48, 120, 48 + 2 ^ (a % 4)] ++ List.replicate (a / 4) 48
noncomputable def zrh : List (List Nat) -> List Nat
 | [] => []
 | [x] => x
 | x :: r => x ++ 44 :: 32 :: zrh r
def zvF (b c : Nat) : List (List Nat) := ((List.range 3).filter fun i => c / 2 ^ i % 2 == 1).map fun i => zbF (b + i)
def zri (b c : Nat) : List Nat := if c = 0 then [48, 120, 48] else zrh (zvF b c)
noncomputable def zcZ (x : List Nat) : List Nat := 44 :: 32 :: (x ++ [44])
def zdA (b c : Nat) : List Nat := zcZ (zri b c)
def v21 : PyData := .list (zpe.map sD)
def v22 (b : Nat) : PyData := .list [sD (zbF b), sD (zbF (b + 1)), sD (zbF (b + 2))]
def v24 (b : Nat) : PyData := .list ((List.range 8).map fun c => sD (zri b c))
def v25 (b : Nat) : PyData := .list ((List.range 8).map fun c => sD (zdA b c))
def fN (b : Nat) : List Nat := zcZ (zbF b)
def tN (b : Nat) : List Nat := zcZ (zbF (b + 2))
noncomputable def zdW : List Nat := [46, 46, 46]
def ask (w : List Nat) (c : Int) (d : Bool) : PyData := .tuple [sD w, .int c, .bool d]
def zuu (b : Nat) : List (List Nat × Nat × Bool) := [(zdW ++ fN b ++ zdW ++ tN b ++ zdW, 7, true), (zdW ++ fN b ++ zdW ++ tN b ++ zdW, 5, false), (zdW ++ tN b ++ zdW ++ fN b ++ zdW, 7, false), (fN b ++ zdW ++ (tN b).drop 1 ++ zdW ++ (tN b).drop 1, 7, false)]
def v28 (b : Nat) : PyData := .list ((zuu b).map fun p => ask p.1 (p.2.1 : Int) p.2.2)
theorem zks {P : Nat -> Prop}
 (h0 : P 0) (h1 : P 1) (h2 : P 2) (h3 : P 3) (h4 : P 4) (h5 : P 5) (h6 : P 6) (h7 : P 7) (h8 : P 8) (h9 : P 9) (h10 : P 10) (h11 : P 11) (h12 : P 12) (h13 : P 13) (h14 : P 14) (h15 : P 15) (h16 : P 16) (h17 : P 17) (h18 : P 18) (h19 : P 19) (h20 : P 20) (h21 : P 21) (h22 : P 22) (h23 : P 23) (h24 : P 24) (h25 : P 25) (h26 : P 26) (h27 : P 27) (h28 : P 28) : ∀ b, b < 29 -> P b := fun b h => ltS h h0 fun u h => ltS h h1 fun u h => ltS h h2 fun u h => ltS h h3 fun u h => ltS h h4 fun u h => ltS h h5 fun u h => ltS h h6 fun u h => ltS h h7 fun u h => ltS h h8 fun u h => ltS h h9 fun u h => ltS h h10 fun u h => ltS h h11 fun u h => ltS h h12 fun u h => ltS h h13 fun u h => ltS h h14 fun u h => ltS h h15 fun u h => ltS h h16 fun u h => ltS h h17 fun u h => ltS h h18 fun u h => ltS h h19 fun u h => ltS h h20 fun u h => ltS h h21 fun u h => ltS h h22 fun u h => ltS h h23 fun u h => ltS h h24 fun u h => ltS h h25 fun u h => lt3 h h26 h27 h28
noncomputable def zak (fs : List (Nat × PyData)) (ρ : Rho) : Rho := fs.foldl (fun r p => r.set p.1 (some (.d p.2))) ρ
noncomputable def zaU (l : Nat -> Option PV) : Rho := (List.range 61).map l
theorem zqC {ρ : Rho} {i : Nat} {d : PyData} (h : Has ρ i d) : ρ.set i (some (.d d)) = ρ := by
 apply List.ext_getElem?
 intro j
 rw [List.getElem?_set]
 split
 ·rename_i e; subst e
  split
  ·exact h.symm
  ·rw [List.getElem?_eq_none (by lia)]
 ·rfl
theorem zgf {ρ : Rho} (hL : ρ.length = 61) : ∀ {fs : List (Nat × PyData)}, (∀ p ∈ fs, Has ρ p.1 p.2) -> ρ = zak fs (zaU fun i => ρ.getD i none) := by
 intro fs h
 rw [(show zaU (fun i => ρ.getD i none) = ρ from (zl3 hL).symm)]
 induction fs with
 | nil => rfl
 | cons p fs ih =>
  show ρ = zak fs (ρ.set p.1 (some (.d p.2)))
  rw [zqC (h p (List.mem_cons_self ..))]
  exact ih fun q hq => h q (List.mem_cons_of_mem _ hq)
theorem k3 (l : Nat -> Option PV) : zf (run (Two2.tE true) 60) (zaU l) Two2.sC3 = some ((zaU l).set 21 (some (.d v21)), .next) := by kernel_rfl
def k4 (b : Nat) : Prop := ∀ l, zf (run (Two2.tE true) 60) (zak [(13, .int (b : Int)), (21, v21)] (zaU l)) Two2.sC4 = some ((zak [(13, .int (b : Int)), (21, v21)] (zaU l)).set 22 (some (.d (v22 b))), .next)
theorem zsS : ∀ b, b < 29 -> k4 b := zks (fun l => by kernel_rfl) (fun l => by kernel_rfl) (fun l => by kernel_rfl) (fun l => by kernel_rfl) (fun l => by kernel_rfl) (fun l => by kernel_rfl) (fun l => by kernel_rfl) (fun l => by kernel_rfl) (fun l => by kernel_rfl) (fun l => by kernel_rfl)
 (fun l => by kernel_rfl) (fun l => by kernel_rfl) (fun l => by kernel_rfl) (fun l => by kernel_rfl) (fun l => by kernel_rfl) (fun l => by kernel_rfl) (fun l => by kernel_rfl) (fun l => by kernel_rfl) (fun l => by kernel_rfl) (fun l => by kernel_rfl)
 (fun l => by kernel_rfl) (fun l => by kernel_rfl) (fun l => by kernel_rfl) (fun l => by kernel_rfl) (fun l => by kernel_rfl) (fun l => by kernel_rfl) (fun l => by kernel_rfl) (fun l => by kernel_rfl) (fun l => by kernel_rfl)
def fiv (P : Nat -> Prop) (a : Nat) : Prop := P a /\ P (a + 1) /\ P (a + 2) /\ P (a + 3) /\ P (a + 4)
theorem zf3 {P : Nat -> Prop} {a : Nat} (h0 : P a) (h1 : P (a + 1)) (h2 : P (a + 2)) (h3 : P (a + 3)) (h4 : P (a + 4)) : fiv P a := ⟨h0, h1, h2, h3, h4⟩
theorem zuv {P : Nat -> Prop} (a : fiv P 0) (b : fiv P 5) (c : fiv P 10) (d : fiv P 15) (e : fiv P 20) (f : fiv P 24) : ∀ b, b < 29 -> P b :=
 zks a.1 a.2.1 a.2.2.1 a.2.2.2.1 a.2.2.2.2 b.1 b.2.1 b.2.2.1 b.2.2.2.1 b.2.2.2.2 c.1 c.2.1 c.2.2.1 c.2.2.2.1 c.2.2.2.2 d.1 d.2.1 d.2.2.1 d.2.2.2.1 d.2.2.2.2 e.1 e.2.1 e.2.2.1 e.2.2.2.1 f.1 f.2.1 f.2.2.1 f.2.2.2.1 f.2.2.2.2
def k5 (b : Nat) : Prop := ∀ l, zf (run (Two2.tE true) 60) (zak [(13, .int (b : Int))] (zaU l)) Two2.sC5 = some ((zak [(13, .int (b : Int))] (zaU l)).set 24 (some (.d (v24 b))), .next)
theorem zvG : fiv k5 0 := by apply zf3 <;> (intro l; kernel_rfl)
theorem zvH : fiv k5 5 := by apply zf3 <;> (intro l; kernel_rfl)
theorem zuw : fiv k5 10 := by apply zf3 <;> (intro l; kernel_rfl)
theorem zux : fiv k5 15 := by apply zf3 <;> (intro l; kernel_rfl)
theorem zuy : fiv k5 20 := by apply zf3 <;> (intro l; kernel_rfl)
theorem zuz : fiv k5 24 := by apply zf3 <;> (intro l; kernel_rfl)
theorem zsT : ∀ b, b < 29 -> k5 b := zuv zvG zvH zuw zux zuy zuz
def k6 (b : Nat) : Prop := ∀ l, zf (run (Two2.tE true) 60) (zak [(22, v22 b), (24, v24 b)] (zaU l)) Two2.sC6 = some ((zak [(22, v22 b), (24, v24 b)] (zaU l)), .next)
theorem zvI : fiv k6 0 := by apply zf3 <;> (intro l; kernel_rfl)
theorem zvJ : fiv k6 5 := by apply zf3 <;> (intro l; kernel_rfl)
theorem zuA : fiv k6 10 := by apply zf3 <;> (intro l; kernel_rfl)
theorem zuB : fiv k6 15 := by apply zf3 <;> (intro l; kernel_rfl)
theorem zuC : fiv k6 20 := by apply zf3 <;> (intro l; kernel_rfl)
theorem zuD : fiv k6 24 := by apply zf3 <;> (intro l; kernel_rfl)
theorem zsU : ∀ b, b < 29 -> k6 b := zuv zvI zvJ zuA zuB zuC zuD
def k7 (b : Nat) : Prop := ∀ l, zA (run (Two2.tE true) 60) [Two2.sC7, Two2.sC8] (zak [(22, v22 b), (24, v24 b)] (zaU l)) = some (zak [(22, v22 b), (24, v24 b), (25, v25 b), (26, sD (fN b)), (27, sD (tN b))] (zaU l), .next)
theorem zsV : ∀ b, b < 29 -> k7 b := by apply zks <;> (intro l; kernel_rfl)
def k9 (b : Nat) : Prop := ∀ l, zA (run (Two2.tE true) 60) [Two2.sC9, Two2.sC10, Two2.sC11] (zak [(26, sD (fN b)), (27, sD (tN b))] (zaU l)) = some (zak [(26, sD (fN b)), (27, sD (tN b)), (28, v28 b)] (zaU l), .next)
theorem zsW : ∀ b, b < 29 -> k9 b := by apply zks <;> (intro l; kernel_rfl)
def k12 (b : Nat) : Prop := ∀ l, zf (run (Two2.tE true) 60) (zak [(25, v25 b), (26, sD (fN b)), (28, v28 b)] (zaU l)) Two2.sC12 = some (zak [(25, v25 b), (26, sD (fN b)), (28, v28 b)] (zaU l), .next)
theorem zuE : k12 0 := by intro l; kernel_rfl
theorem zuF : k12 1 := by intro l; kernel_rfl
theorem zuG : k12 2 := by intro l; kernel_rfl
theorem zuH : k12 3 := by intro l; kernel_rfl
theorem zuI : k12 4 := by intro l; kernel_rfl
theorem zuJ : k12 5 := by intro l; kernel_rfl
theorem zuK : k12 6 := by intro l; kernel_rfl
theorem zuL : k12 7 := by intro l; kernel_rfl
theorem zuM : k12 8 := by intro l; kernel_rfl
theorem zuN : k12 9 := by intro l; kernel_rfl
theorem zsX : k12 10 := by intro l; kernel_rfl
theorem zsY : k12 11 := by intro l; kernel_rfl
theorem zsZ : k12 12 := by intro l; kernel_rfl
theorem zs0 : k12 13 := by intro l; kernel_rfl
theorem zs1 : k12 14 := by intro l; kernel_rfl
theorem zs2 : k12 15 := by intro l; kernel_rfl
theorem zs3 : k12 16 := by intro l; kernel_rfl
theorem zs4 : k12 17 := by intro l; kernel_rfl
theorem zs5 : k12 18 := by intro l; kernel_rfl
theorem zs6 : k12 19 := by intro l; kernel_rfl
theorem zs7 : k12 20 := by intro l; kernel_rfl
theorem zs8 : k12 21 := by intro l; kernel_rfl
theorem zs9 : k12 22 := by intro l; kernel_rfl
theorem zta : k12 23 := by intro l; kernel_rfl
theorem ztb : k12 24 := by intro l; kernel_rfl
theorem ztc : k12 25 := by intro l; kernel_rfl
theorem ztd : k12 26 := by intro l; kernel_rfl
theorem zte : k12 27 := by intro l; kernel_rfl
theorem ztf : k12 28 := by intro l; kernel_rfl
theorem zqD : ∀ b, b < 29 -> k12 b := zks zuE zuF zuG zuH zuI zuJ zuK zuL zuM zuN zsX zsY zsZ zs0 zs1 zs2 zs3 zs4 zs5 zs6 zs7 zs8 zs9 zta ztb ztc ztd zte ztf
noncomputable def zpf : PE := .bin .Add (.comp (.call 7 [(.bin .Add (.bin .Add (.c (.str "..., ")) (.v 47)) (.c (.str ",..."))), (.v 30)]) [(.mk (.v 47) (.v 22) [])]) (.lst [(.c (.bool true))])
noncomputable def zmZ (c i : Nat) : Bool := c / 2 ^ i % 2 == 1
def zej (c : Nat) : PyData := .list [.bool (zmZ c 0), .bool (zmZ c 1), .bool (zmZ c 2), .bool true]
def wN (a : Nat) : List Nat := [46, 46, 46, 44, 32] ++ zbF a ++ [44, 46, 46, 46]
noncomputable def stL (l : List Nat) : Str := ⟨l.toArray⟩
def zvK (a : Nat) : Bool := decide (((zav .Add (.str "..., ") (sD (zbF a))).bind fun x => (zav .Add x (.str ",...")).bind zaJ) = some (stL (wN a))) && !(zeT zdW 3 (wN a).length ((wN a).length + 1) 1 0 0 (wN a)).isEmpty && zk8 (wN a) zdW == [[], zcZ (zbF a), []] && Nat.ble (wN a).length 100 && Nat.ble (zbF a).length 100 &&
 !(decide ((stL (wN a)).length < (stL zdW).length) || decide (Builtin.Str.strKind (stL (wN a)) < Builtin.Str.strKind (stL zdW)))
theorem zpg : ((List.range 31).all zvK) = true := by decide +kernel
def zvL (b c : Nat) : Bool := (List.range 3).all fun i => zoO (stL []) (stL []) [stL (zcZ (zbF (b + i)))] (zdA b c) == zmZ c i
def zuO (b : Nat) : Bool := (List.range 8).all fun c => zvL b c && Nat.ble (zdA b c).length 1000
theorem zph : ((List.range 29).all zuO) = true := by decide +kernel
theorem zl7 : Str.ofString "..." = stL zdW := by kernel_rfl
theorem zpi {tbl : Nat -> Option Fn} (h7 : tbl 7 = some (.code 2 60 Two2.ellB)) {n a : Nat} (ha : a < 31) {g : List Nat} (hg : g.length <= 1000) {ρ : Rho} (h47 : Has ρ 47 (sD (zbF a))) (h30 : Has ρ 30 (sD g)) :
  (run tbl (n + 20)).ex ρ (.call 7 [(.bin .Add (.bin .Add (.c (.str "..., ")) (.v 47)) (.c (.str ",..."))), (.v 30)]) = some (.bool (zoO (stL []) (stL []) [stL (zcZ (zbF a))] g)) := by
 refine zaf (List.all_eq_true.mp zpg a (List.mem_range.mpr ha)) fun h h5 => zaf h fun h h6 => zaf h fun h h4 => zaf h fun h h3 => zaf h fun h1 h2 => ?_
 have E := zqi (n := n + 7) (w := stL (wN a)) (g := stL g) (f := stL []) (l := stL []) (mid := [stL (zcZ (zbF a))]) h7 (by rw [zl7, zhF]; exact h2) (by
  rw [zl7, zk9 _ _ (Eq.mp (Bool.not_eq_true' _) h5)]
  exact congrArg (List.map zm) (eq_of_beq h3)) (nle (Nat.le_of_ble_eq_true h4) (by decide)) (Nat.zero_le _) (Nat.zero_le _) (fun p hp => ztn hp (by
  show (44 :: 32 :: (zbF a ++ [44])).length <= _
  rw [List.length_cons, List.length_cons, List.length_append]; exact nle (Nat.add_le_add_right (Nat.le_of_ble_eq_true h6) 3) (by decide))) (show 3 <= big by decide) (nle hg (by decide)) rfl rfl
 exact zb (of_decide_eq_true h1) fun x hx h => zad (zaS (zJ (zJ rfl (zH h47) hx) rfl (zsn h)) (zan (zH h30))) E
theorem zpj {tbl : Nat -> Option Fn} (h7 : tbl 7 = some (.code 2 60 Two2.ellB)) {n b c : Nat} (hb : b < 29) (hc : c < 8) {ρ : Rho} (hL : ρ.length = 61) (h22 : Has ρ 22 (v22 b)) (h30 : Has ρ 30 (sD (zdA b c))) : (run tbl (n + 30)).ex ρ zpf = some (zej c) := by
 refine zaf (List.all_eq_true.mp (List.all_eq_true.mp zph b (List.mem_range.mpr hb)) c (List.mem_range.mpr hc)) fun ha hl => ?_
 have C := zlf (S := run tbl (n + 28)) (elt := .call 7 [(.bin .Add (.bin .Add (.c (.str "..., ")) (.v 47)) (.c (.str ",..."))), (.v 30)]) (it := .v 22) (i := 47) (ρ := ρ) (xs := [0, 1, 2]) (g := fun i => sD (zbF (b + i))) (f := fun i => .bool (zmZ c i)) (zk3 (zH (zg h22 rfl)) rfl (show 3 <= big by decide)) fun i hi =>
  have hi3 : i < 3 := zbt hi (by simp) fun hi => zaZ hi (by simp) (by simp)
  (zpi h7 (n := n + 8) (Nat.lt_of_lt_of_le (Nat.add_lt_add_of_lt_of_le hb (Nat.le_of_lt_succ hi3)) (by simp)) (Nat.le_of_ble_eq_true hl) (zG (by rw [List.length_set, hL]; simp)) (zg (zg h30 rfl) rfl)).trans (congrArg (fun b => some (PyData.bool b)) (eq_of_beq (List.all_eq_true.mp ha i (List.mem_range.mpr hi3))))
 exact zJ (zbD C (show 3 <= big by decide)) rfl rfl
def zuP (q : zB) : Bool := zK.all fun i => decide (((meD .index (rD q) [.int i]).bind zw).bind (fun m => (zbu (rD q) (.int ((m + 1).fmod 5))).bind zw) = some (nx q i))
theorem zpk : zo8 zuP = true := by decide +kernel
theorem zqE {q : zB} (h : zae q) {i : Int} (hi : i ∈ zK) : ∃ m : Int, meD .index (rD q) [.int i] = some (.int m) /\ zbu (rD q) (.int ((m + 1).fmod 5)) = some (.int (nx q i)) := by
 exact zb (of_decide_eq_true (List.all_eq_true.mp (zge zpk h) i hi)) fun m hm h => I12 m (zle hm) (zle h)
def lsC (c l : Nat) : Bool := if l = 3 then true else zmZ c l
theorem zpl (c : Nat) (l : Nat) (h : l <= 3) : zbu (zej c) (.int (l : Int)) = some (.bool (lsC c l)) := ltS (Nat.lt_succ_of_le h) rfl fun _ h => lt3 h rfl rfl rfl
def zfO (ls : Nat -> Bool) (P : List (Nat × Nat)) (i : Int) : Int := P.foldl (fun i p => if ls p.1 then nx (zV p.2) i else i) i
theorem zkt (ls : Nat -> Bool) : ∀ (P : List (Nat × zB)), (∀ s ∈ P, zae s.2) -> ∀ i ∈ zK, zfO ls (P.map fun s => (s.1, zbE s.2)) i = zlg ls P i
 | [], _, i, _ => rfl
 | s :: P, h, i, hi => by
  have b := (zjh (h s (List.mem_cons_self ..)) hi).2.2.2.2
  show zfO ls (P.map fun s => (s.1, zbE s.2)) (if ls s.1 then nx (zV (zbE s.2)) i else i) = zlg ls P (if ls s.1 then nx s.2 i else i)
  rw [b.2]
  refine zkt ls P (fun x hx => h x (List.mem_cons_of_mem _ hx)) _ ?_
  cases ls s.1
  ·exact hi
  ·exact b.1
theorem zuQ {k : Nat} (h : k < 24) {i : Int} (hi : i ∈ zK) : nx (zV k) i ∈ zK := (zjh (zcJ k h) hi).2.2.2.2.1
noncomputable def zku : PE := .comp (.cmp .Eq (.bin .Mod (.bin .FloorDiv (.v 23) (.bin .Pow (.c (.int 2)) (.v 47))) (.c (.int 2))) (.c (.int 1))) [(.mk (.v 47) (.rng [(.c (.int 3))]) [])]
def k15 (c : Nat) : Prop := ∀ l, (run (Two2.tE true) 60).ex (zak [(23, .int (c : Int))] (zaU l)) zku = some (lsD (lsC c))
theorem zqF (c : Nat) (h : c < 8) : k15 c := by refine lt8 h ?_ ?_ ?_ ?_ ?_ ?_ ?_ ?_ <;> (intro l; kernel_rfl)
section
variable {tbl : Nat -> Option Fn} {ρ : Rho} {n : Nat}
theorem zqG (hL : ρ.length = 61) {q : zB} (hq : zae q) (h12 : Has ρ 12 (rD q)) : zf (run tbl (n + 20)) ρ Two2.sC13 = some (ρ.set 29 (some (.d (.list ((zK.map (nx q)).map .int)))), .next) := by
 exact zu (zbD (n := n + 19) (zlf (g := PyData.int) (xs := zK) (f := PyData.int ∘ nx q) rfl fun i hi => E12 (zqE hq hi) fun m e1 e2 =>
  have a2 := zg (v := some (.d (.int i))) (j := 47) (zg (v := none) (j := 47) h12 rfl) rfl
  zS (zay a2) (zJ (zJ (zhD (zH a2) (zan (zH (zG (zY hL ▸ by simp)))) e1) rfl rfl) rfl (zaW (by decide))) e2) (show 5 <= big by decide))
noncomputable def tIn : Tgt := .t [(.v 15), (.v 33)]
noncomputable def bIn : List PS := [.iff (.cmp .Is (.idx (.v 31) (.v 15)) (.c (.bool true))) [.asg (.v 32) (.comp (.idx (.v 33) (.v 47)) [(.mk (.v 47) (.v 32) [])])] []]
theorem zvM (x : Bool) : zfQ .Is (.bool x) (.bool true) = some x := by induction x <;> rfl
theorem zlh (hL : ρ.length = 61) {c : Nat} {p : Nat × Nat} (h1 : p.1 <= 3) (h2 : p.2 < 24) {xs : List Int} (hx : ∀ x ∈ xs, x ∈ zK) (hl : xs.length <= 5) (h31 : Has ρ 31 (zej c)) (h32 : Has ρ 32 (.list (xs.map .int))) (h15 : Has ρ 15 (.int (p.1 : Int))) (h33 : Has ρ 33 (zcb (zV p.2))) :
  ∃ ρ2, (run tbl (n + 30)).blk ρ bIn = some (ρ2, .next) /\ zbK [32] ρ ρ2 /\ Has ρ2 32 (.list ((xs.map fun i => if lsC c p.1 then nx (zV p.2) i else i).map .int)) := by
 have ht : zcw (run tbl (n + 29)) ρ (.cmp .Is (.idx (.v 31) (.v 15)) (.c (.bool true))) = some (lsC c p.1) := t_b (zaj (zS (zay h31) (zH h15) (zpl c _ h1)) rfl (zvM _))
 have lb : ∀ {f : Int -> PyData}, (xs.map f).length <= big := by intro f; rw [List.length_map]; exact nle hl (by decide)
 revert ht
 induction lsC c p.1 with
 | false =>
  intro ht
  refine I13 ρ (zP (zbz ht rfl) rfl) (zbK.refl _ _) ?_
  show Has ρ 32 (.list ((xs.map id).map .int))
  rw [List.map_id]; exact h32
 | true =>
  intro ht
  have C : (run tbl (n + 28)).ex ρ (.comp (.idx (.v 33) (.v 47)) [(.mk (.v 47) (.v 32) [])]) = some (.list ((xs.map (nx (zV p.2))).map .int)) := by
   rw [List.map_map]
   exact zbD (n := n + 27) (zlf (g := PyData.int) (f := PyData.int ∘ nx (zV p.2)) (zk3 (zH (zg h32 rfl)) rfl lb) fun i hi =>
    zS (zay (zg (zg h33 rfl) rfl)) (zH (zG (zY hL ▸ by simp))) (zkq (zcJ _ h2) (hx i hi))) lb
  exact I13 _ (zP (zhE ht (zP (zu C) rfl)) rfl) (za2 rfl) (zG (hL ▸ by simp))
theorem zhp {c : Nat} : ∀ (P : List (Nat × Nat)), (∀ p ∈ P, p.1 <= 3 /\ p.2 < 24) -> ∀ (ρ : Rho) (xs : List Int), ρ.length = 61 -> (∀ x ∈ xs, x ∈ zK) -> xs.length <= 5 -> Has ρ 31 (zej c) -> Has ρ 32 (.list (xs.map .int)) ->
  ∃ ρ2, zbZ (run tbl (n + 30)) tIn bIn [] (P.map tpD) ρ = some (ρ2, .next) /\ zbK [15, 33, 32] ρ ρ2 /\ Has ρ2 32 (.list ((xs.map (zfO (lsC c) P)).map .int))
 | [], _, ρ, xs, hL, hx, hl, h31, h32 => I13 ρ rfl (zbK.refl _ _) (by
   rw [(show zfO (lsC c) [] = id from rfl), List.map_id]; exact h32)
 | p :: P, hP, ρ, xs, hL, hx, hl, h31, h32 => by
  obtain ⟨h1, h2⟩ := hP p (List.mem_cons_self ..)
  have L1 : ((ρ.set 15 (some (.d (.int (p.1 : Int))))).set 33 (some (.d (zcb (zV p.2))))).length = 61 := zY (zY hL)
  obtain ⟨ρ2, e2, s2, g2⟩ := zlh (tbl := tbl) (n := n) L1 h1 h2 hx hl (zg (zg h31 rfl) rfl) (zg (zg h32 rfl) rfl) (zg (zG (by rw [hL]; simp)) rfl) (zG (by rw [List.length_set, hL]; simp))
  have s2' : zbK [15, 33, 32] ((ρ.set 15 (some (.d (.int (p.1 : Int))))).set 33 (some (.d (zcb (zV p.2))))) ρ2 := ⟨s2.1, fun i hi => s2.2 i fun hm => hi (by rw [List.mem_singleton.mp hm]; decide)⟩
  obtain ⟨ρ3, e3, s3, g3⟩ := zhp P (fun q hq => hP q (List.mem_cons_of_mem _ hq)) ρ2 _ (s2.1.trans L1) (by
   intro x hx'
   obtain ⟨i, hi, e9⟩ := List.mem_map.mp hx'; refine rwB e9 ?_
   cases lsC c p.1
   ·exact hx i hi
   ·exact zuQ h2 (hx i hi)) (by rw [List.length_map]; exact hl) (s2.has (zg (zg h31 rfl) rfl) rfl) g2
  refine I13 ρ3 ?_ ((((za2 rfl).trans (za2 rfl)).trans s2').trans s3) ?_
  ·exact (zcI rfl e2).trans e3
  ·rw [List.map_map] at g3 |-
   rw [List.map_map] at g3
   exact g3
end
theorem zbK.mono {is js : List Nat} {ρ ρ' : Rho} (s : zbK is ρ ρ') (h : (is.all fun i => js.contains i) = true) : zbK js ρ ρ' := ⟨s.1, fun i hi => s.2 i fun hm => hi (List.contains_iff_mem.mp (List.all_eq_true.mp h i hm))⟩
noncomputable def zvN : Tgt := .t [(.v 23), (.v 30)]
noncomputable def zpm : PE := .lst [(.c (.int 0)), (.c (.int 1)), (.c (.int 2)), (.c (.int 3)), (.c (.int 4))]
def zuR : List PS := [.asg (.v 31) zpf, .asg (.v 32) zpm, .for_ tIn (.v 20) bIn [], .iff (.cmp .NotEq (.v 32) (.ite (.call 13 [(.v 7), zku]) (.v 29) zpm)) [.ret (.c (.bool false))] []]
theorem zvO (c : Nat) : lsC c 3 = true := rfl
section
variable {ρ : Rho} {n : Nat}
theorem zqH (hL : ρ.length = 61) {c : Nat} (hc : c < 8) (h23 : Has ρ 23 (.int (c : Int))) : (run (Two2.tE true) (n + 60)).ex ρ zku = some (lsD (lsC c)) := by
 have h := zqF c hc fun i => ρ.getD i none
 rw [<- zgf hL (fs := [(23, .int (c : Int))]) (by intro p hp; rw [List.mem_singleton.mp hp]; exact h23)] at h
 exact (zat (by simp)).ex _ _ _ h
theorem zm0 (c : Nat) {t : Tr} {r : zB} (hr : zae r) : (zK.map (zfO (lsC c) (zM t r))) = if zei (lsC c) t then zK.map (nx r) else zK := by
 have e : ∀ i ∈ zK, zfO (lsC c) (zM t r) i = if zei (lsC c) t then nx r i else i := fun i hi => by
  rw [zkt _ _ (zaT t r hr) i hi, zca _ (zvO c) t r hr i hi]
 rw [List.map_congr_left e]
 cases zei (lsC c) t
 ·exact List.map_id _
 ·rfl
theorem zli {t : Tr} {r : zB} {b c : Nat} (hr : zae r) (ht : t.ok) (hd : t.depth <= 3) (hb : b < 29) (hc : c < 8) (hP : ∀ p ∈ zM t r, p.1 <= 3 /\ p.2 < 24) (hl : (zM t r).length <= 45)
  (hL : ρ.length = 61) (h7 : Has ρ 7 (trD t)) (h20 : Has ρ 20 (.list ((zM t r).map tpD))) (h22 : Has ρ 22 (v22 b)) (h29 : Has ρ 29 (.list ((zK.map (nx r)).map .int))) (h23 : Has ρ 23 (.int (c : Int))) (h30 : Has ρ 30 (sD (zdA b c))) :
  ∃ ρ2, (run (Two2.tE true) (n + 100)).blk ρ zuR = some (ρ2, .next) /\ zbK [31, 32, 15, 33] ρ ρ2 := by
 have L1 : (ρ.set 31 (some (.d (zej c)))).length = 61 := zY hL
 have s1 : zbK [31, 32, 15, 33] ρ ((ρ.set 31 (some (.d (zej c)))).set 32 (some (.d (.list (zK.map .int))))) := (za2 rfl).trans (za2 rfl)
 refine E13 (zhp (tbl := Two2.tE true) (n := n + 69) (c := c) _ hP ((ρ.set 31 (some (.d (zej c)))).set 32 (some (.d (.list (zK.map .int))))) zK (zY L1) (fun _ h => h) (by decide) (zg (zG (hL ▸ by simp)) rfl) (zG (L1 ▸ by simp))) fun ρ3 e3 s3 g3 => ?_
 have S := s1.trans (s3.mono (js := [31, 32, 15, 33]) rfl)
 have hH := (zat (tbl := Two2.tE true) (show 0 + 6 * t.depth + 8 <= n + 96 from nle (Nat.add_le_add_right (Nat.add_le_add_left (Nat.mul_le_mul_left 6 hd) 0) 8) (nle (by decide) (Nat.le_add_left 96 n)))).call _ _ _ (zi8 (tbl := Two2.tE true) rfl (lsC c) t 0 ht)
 have C13 : (run (Two2.tE true) (n + 97)).ex ρ3 (.call 13 [(.v 7), zku]) = some (.bool (zei (lsC c) t)) := zad (zaS (zH (S.has h7 rfl)) (zan (zqH (n := n + 36) (S.1.trans hL) hc (S.has h23 rfl)))) hH
 have R : (run (Two2.tE true) (n + 98)).ex ρ3 (.ite (.call 13 [(.v 7), zku]) (.v 29) zpm) = some (.list ((zK.map (zfO (lsC c) (zM t r))).map .int)) := by
  rw [zm0 c hr]
  revert C13
  induction zei (lsC c) t with
  | false => exact fun C => x_F (t_b C) rfl
  | true => exact fun C => x_T (t_b C) (zH (S.has h29 rfl))
 exact I12 ρ3 (zP (zu (zpj (tbl := Two2.tE true) rfl (n := n + 69) hb hc hL h22 h30)) (zP (zu (d := .list (zK.map .int)) rfl) (zP (zdt (zk3 (zH (s1.has h20 rfl)) rfl (by rw [List.length_map]; exact nle hl (by decide))) e3) (zP (zbz (t_b (zaj (zay g3) R (congrArg (Option.map not) (zl6 (zK.map (zfO (lsC c) (zM t r))))))) rfl) rfl)))) S
theorem zqI {t : Tr} {r : zB} {b : Nat} (hr : zae r) (ht : t.ok) (hd : t.depth <= 3) (hb : b < 29) (hP : ∀ p ∈ zM t r, p.1 <= 3 /\ p.2 < 24) (hl : (zM t r).length <= 45)
  (hL : ρ.length = 61) (h7 : Has ρ 7 (trD t)) (h20 : Has ρ 20 (.list ((zM t r).map tpD))) (h22 : Has ρ 22 (v22 b)) (h25 : Has ρ 25 (v25 b)) (h29 : Has ρ 29 (.list ((zK.map (nx r)).map .int))) :
  ∃ ρ2, zf (run (Two2.tE true) (n + 100)) ρ Two2.sC14 = some (ρ2, .next) := by
 have it : itD (run (Two2.tE true) (n + 100)) ρ (.enm (.v 25)) = some ((List.range 8).map fun (c : Nat) => .tuple [.int (c : Int), sD (zdA b c)]) := by
  exact zoH (zH h25) rfl (show 8 <= big by decide)
 obtain ⟨ρ2, e, _⟩ := zho (S := run (Two2.tE true) (n + 100)) (t := zvN) (b := zuR) (is := [23, 30, 31, 32, 15, 33]) (fun ρ => ρ.length = 61 /\ Has ρ 7 (trD t) /\ Has ρ 20 (.list ((zM t r).map tpD)) /\ Has ρ 22 (v22 b) /\ Has ρ 29 (.list ((zK.map (nx r)).map .int))) (fun _ _ => rfl)
  ((List.range 8).map fun (c : Nat) => .tuple [.int (c : Int), sD (zdA b c)]) (by
   intro x hx ρ ⟨a, a7, a20, a22, a29⟩
   obtain ⟨c, hc, rfl⟩ := List.mem_map.mp hx
   have k23 : Has ((ρ.set 23 (some (.d (.int (c : Int))))).set 30 (some (.d (sD (zdA b c))))) 23 (.int (c : Int)) := zg (zG (by rw [a]; simp)) rfl
   have k30 : Has ((ρ.set 23 (some (.d (.int (c : Int))))).set 30 (some (.d (sD (zdA b c))))) 30 (sD (zdA b c)) := zG (by rw [List.length_set, a]; simp)
   obtain ⟨ρ2, e, s⟩ := zli (n := n) hr ht hd hb (List.mem_range.mp hc) hP hl (zY (zY a)) (zg (zg a7 rfl) rfl) (zg (zg a20 rfl) rfl) (zg (zg a22 rfl) rfl) (zg (zg a29 rfl) rfl) k23 k30
   have S := ((za2 rfl).trans (za2 rfl) : zbK [23, 30, 31, 32, 15, 33] ρ ((ρ.set 23 (some (.d (.int (c : Int))))).set 30 (some (.d (sD (zdA b c)))))).trans (s.mono rfl)
   exact I28 _ ρ2 rfl e S (S.1.trans a) (S.has a7 rfl) (S.has a20 rfl) (S.has a22 rfl) (S.has a29 rfl)) ρ (I05 hL h7 h20 h22 h29)
 exact I11 ρ2 (zdt it e)
end
theorem zkv {t : Tr} {r : zB} (ht : t.ok) (hr : zae r) : ∀ p ∈ zM t r, p.1 <= 3 /\ p.2 < 24 := by
 intro p hp
 obtain ⟨q, hq, e9⟩ := List.mem_map.mp hp; subst e9
 exact ⟨zaD t r ht q hq, (zo9 (zaT t r hr q hq)).2⟩
theorem zm1 {ρ : Rho} {i : Nat} {d : PyData} (h : Has ρ i d) : ∀ p ∈ [(i, d)], Has ρ p.1 p.2 := fun p hp => by rw [List.mem_singleton.mp hp]; exact h
theorem zcK {ρ : Rho} {i : Nat} {d : PyData} {fs : List (Nat × PyData)} (h : Has ρ i d) (hs : ∀ p ∈ fs, Has ρ p.1 p.2) : ∀ p ∈ (i, d) :: fs, Has ρ p.1 p.2 := fun p hp => by
 rcases List.mem_cons.mp hp with rfl | h2
 ·exact h
 ·exact hs p h2
theorem zpn {S : Sv} {ρ ρ2 : Rho} {b r : List PS} : zA S b ρ = some (ρ2, .next) -> zA S (b ++ r) ρ = zA S r ρ2 := by
 induction b generalizing ρ with
 | nil => exact fun h => congrArg (zA S r) (Prod.mk.inj (Option.some.inj h)).1
 | cons st b ih =>
  refine fun h => zb h fun x h1 h2 => ?_
  induction x with
  | mk ρ1 f =>
   induction f with
   | next => exact (zq7 h1).trans (ih h2)
   | brk => exact nomatch h2
   | ret d => exact nomatch h2
section
variable {fs gs : List (Nat × PyData)} {st : PS} {b r : List PS} {ρ : Rho} {i : Nat} {d x y z : PyData} {S : Sv} {P : Option (Rho × Fl) -> Prop}
theorem ztg (k : ∀ l, zf (run (Two2.tE true) 60) (zak fs (zaU l)) st = some ((zak fs (zaU l)).set i (some (.d d)), .next)) (hL : ρ.length = 61) (h : ∀ p ∈ fs, Has ρ p.1 p.2) (n : Nat) : zf (run (Two2.tE true) (n + 100)) ρ st = some (ρ.set i (some (.d d)), .next) :=
 zk6 (zat (nle (show 60 <= 100 by simp) (Nat.le_add_left 100 n))) (by have := k fun i => ρ.getD i none; rw [<- zgf hL h] at this; exact this)
theorem zuS (k : ∀ l, zf (run (Two2.tE true) 60) (zak fs (zaU l)) st = some (zak fs (zaU l), .next)) (hL : ρ.length = 61) (h : ∀ p ∈ fs, Has ρ p.1 p.2) (n : Nat) : zf (run (Two2.tE true) (n + 100)) ρ st = some (ρ, .next) :=
 zk6 (zat (nle (show 60 <= 100 by simp) (Nat.le_add_left 100 n))) (by have := k fun i => ρ.getD i none; rw [<- zgf hL h] at this; exact this)
theorem byB (k : ∀ l, zA (run (Two2.tE true) 60) b (zak fs (zaU l)) = some (zak gs (zak fs (zaU l)), .next)) (hL : ρ.length = 61) (h : ∀ p ∈ fs, Has ρ p.1 p.2) (n : Nat) : zA (run (Two2.tE true) (n + 100)) b ρ = some (zak gs ρ, .next) :=
 zk7 (zat (nle (show 60 <= 100 by simp) (Nat.le_add_left 100 n))) (by have := k fun i => ρ.getD i none; rw [<- zgf hL h] at this; exact this)
theorem zuT (hL : ρ.length = 61) (h : zA S b ρ = some (ρ.set i (some (.d d)), .next)) (hi : i < 61) (k : ∀ ρ', ρ'.length = 61 -> Has ρ' i d -> (∀ {j e}, Has ρ j e -> (i == j) = false -> Has ρ' j e) -> Xs S P r ρ') : Xs S P (b ++ r) ρ :=
 rwE (P := P) (zpn h) (k _ (zX hL) (zG (hL ▸ hi)) zg)
theorem zuU (hL : ρ.length = 61) (h : zA S b ρ = some (((ρ.set 25 (some (.d x))).set 26 (some (.d y))).set 27 (some (.d z)), .next)) (k : ∀ ρ', ρ'.length = 61 -> Has ρ' 25 x -> Has ρ' 26 y -> Has ρ' 27 z -> (∀ {j e}, Has ρ j e -> (25 == j) = false -> (26 == j) = false -> (27 == j) = false -> Has ρ' j e) -> Xs S P r ρ') : Xs S P (b ++ r) ρ :=
 rwE (P := P) (zpn h) (k _ (zX (zX (zX hL))) (zg (zg (zG (hL ▸ by simp)) rfl) rfl) (zg (zG (zX hL ▸ by simp)) rfl) (zG (zX (zX hL) ▸ by simp)) fun h x y z => zg (zg (zg h x) y) z)
end
theorem zuV {ρ : Rho} {s : Nat -> Int} {t : Tr} {k b w : Nat} (A : zkk ρ s t k b w) (n : Nat) : ∃ ρ3, (run (Two2.tE true) (n + 101)).blk ρ Two2.lawC2 = some (ρ3, .ret (.bool true)) := by
 have hr := zcJ k A.k24
 have hP := zkv A.ok hr
 have hl : (zM t (zV k)).length <= 45 := by unfold zM; rw [List.length_map, zbA]; exact A.pl
 have hb := A.b29
 show Xs (run (Two2.tE true) (n + 100)) (fun o => ∃ ρ3, o = some (ρ3, .ret (.bool true))) [Two2.sC0, Two2.sC1, Two2.sC2, Two2.sC3, Two2.sC4, Two2.sC5, Two2.sC6, Two2.sC7, Two2.sC8, Two2.sC9, Two2.sC10, Two2.sC11, Two2.sC12, Two2.sC13, Two2.sC14, Two2.sC15] ρ
 refine E12 (zsN (tbl := Two2.tE true) (n := n + 80) A.len A.h3) fun kd hk e => stp A.len e (by simp) fun ρ0 L0 g19 K => ?_
 refine E12 (zsO (n := n + 40) L0 hk hP hl g19 (K A.h16 rfl) (K A.h17 rfl)) fun ρ1 e s1 => zkl e ?_
 have L1 := s1.1.trans L0
 refine stp L1 (zsR (n := n + 80) L1 hP hl (s1.has (K A.h11 rfl) rfl) (s1.has (K A.h16 rfl) rfl)) (by simp) fun ρ2 L2 g20 K2 => ?_
 have g7 := K2 (s1.has (K A.h7 rfl) rfl) rfl
 have g12 := K2 (s1.has (K A.h12 rfl) rfl) rfl
 have g13 := K2 (s1.has (K A.h13 rfl) rfl) rfl
 refine stp L2 (ztg (fs := []) k3 L2 (fun u h => absurd h List.not_mem_nil) n) (by simp) fun ρ3 L3 g21 K => ?_
 have g13 := K g13 rfl
 refine stp L3 (ztg (zsS b hb) L3 (zcK g13 (zm1 g21)) n) (by simp) fun ρ4 L4 g22 K' => ?_
 refine stp L4 (ztg (zsT b hb) L4 (zm1 (K' g13 rfl)) n) (by simp) fun ρ5 L5 g24 K'' => ?_
 have g22 := K'' g22 rfl
 refine zkl (zuS (zsU b hb) L5 (zcK g22 (zm1 g24)) n) (zuU (b := [Two2.sC7, Two2.sC8]) L5 (byB (gs := [(25, v25 b), (26, sD (fN b)), (27, sD (tN b))]) (zsV b hb) L5 (zcK g22 (zm1 g24)) n) fun ρ6 L6 g25 g26 g27 K3 => ?_)
 refine zuT (b := [Two2.sC9, Two2.sC10, Two2.sC11]) L6 (byB (gs := [(28, v28 b)]) (zsW b hb) L6 (zcK g26 (zm1 g27)) n) (show 28 < 61 by simp) fun ρ7 L7 g28 K4 => ?_
 have g25 := K4 g25 rfl
 refine zkl (zuS (zqD b hb) L7 (zcK g25 (zcK (K4 g26 rfl) (zm1 g28))) n) (stp L7 (zqG (n := n + 80) L7 hr (K4 (K3 (K'' (K' (K g12 rfl) rfl) rfl) rfl rfl rfl) rfl)) (by simp) fun ρ8 L8 g29 K5 => ?_)
 exact E11 (zqI (n := n) hr A.ok A.dep hb hP hl L8 (K5 (K4 (K3 (K'' (K' (K g7 rfl) rfl) rfl) rfl rfl rfl) rfl) rfl) (K5 (K4 (K3 (K'' (K' (K g20 rfl) rfl) rfl) rfl rfl rfl) rfl) rfl) (K5 (K4 (K3 g22 rfl rfl rfl) rfl) rfl) (K5 g25 rfl) g29) fun ρ9 e => zkl e ⟨ρ9, rfl⟩
theorem zm2 {ρ : Rho} {s : Nat -> Int} {t : Tr} {k b w : Nat} (A : zkk ρ s t k b w) (v : Option PV) : zkk (ρ.set 2 v) s t k b w :=
 {A with len := zY A.len, h3 := zg A.h3 rfl, h7 := zg A.h7 rfl, h11 := zg A.h11 rfl, h12 := zg A.h12 rfl, h13 := zg A.h13 rfl, h14 := zg A.h14 rfl, h16 := zg A.h16 rfl, h17 := zg A.h17 rfl }
theorem zuW (zs : List Int) (h : zs.length <= 63) : Two2.PureFact zs := by
 obtain ⟨ρ, s, t, k, b, w, A, e⟩ := zur (tbl := Two2.tE false) rfl rfl rfl rfl rfl h 0
 have hr := zcJ k A.k24
 have hw := A.w60
 have w7 : (7 + (w : Int)) = ((7 + w : Nat) : Int) := by push_cast; rfl
 obtain ⟨d1, d2⟩ := zmW A.ok A.pl hr A.pr (w := 7 + w) (by simp) (by lia)
 have B := zm2 A (some (.d (.int (dvN (7 + w) ((zM t (zV k)).map stN) : Nat))))
 have h2 : Has (ρ.set 2 (some (.d (.int (dvN (7 + w) ((zM t (zV k)).map stN) : Nat))))) 2 (.int (dvN (7 + w) ((zM t (zV k)).map stN) : Nat)) := zG (by rw [A.len]; simp)
 obtain ⟨ρ3, e3⟩ := zuV B 100
 have hb14 := B.h14
 rw [w7] at hb14
 refine ⟨201, _, _, _, _, ρ, ρ3, by simp, ?_, zH (n := 200) A.h17, zH (n := 200) A.h14, d1, ?_, zH (n := 200) h2, zH (n := 200) hb14, d2, zH (n := 200) B.h17, ?_, ?_⟩
 ·rw [Two2.tA_eq, Two2.pbA_eq]; exact e
 ·have h17 := B.h17
  rw [zhm] at h17
  refine zsL (n := 181) B.len (by lia) ?_ ?_ hb14 h17 h2
  ·intro d hd
   obtain ⟨p, hp, e9⟩ := List.mem_map.mp hd; refine rwB e9 ?_
   have := zkv A.ok hr p hp
   show 24 * p.1 + p.2 < 96
   lia
  ·rw [List.length_map]; unfold zM; rw [List.length_map, zbA]; exact A.pl
 ·show (eqD _ _).map (!·) = _
  rw [zl6]; rfl
 ·rw [Two2.tC_eq, Two2.pbC_eq]; exact e3
section
open PySem.W.X PySem.W.ZRun
set_option maxHeartbeats 0
def zth (x : Expr) (l : List Str) : Bool := match zcp x with
 | some n => l.contains n
 | none => false
def zti : Stmt -> Bool
 | .Assign ts _ _ => !ts.any fun t => zth t ["__name__", "COMPILER_FLAG_NAMES"]
 | _ => true
def zm3 : Program := { Two2.P2 with main := { Two2.P2.main with body := Two2.P2.main.body.filter zti } }
noncomputable def zio : Option Value -> Option Addr
 | some (.ref a) => some a
 | _ => none
noncomputable def zjj : Option Obj -> Option FuncData
 | some o => (match o.data with | .func fd => some fd | _ => none)
 | none => none
noncomputable def ze3 : Option Obj -> Option (Array Value)
 | some o => (match o.data with | .fields vs => some vs | _ => none)
 | none => none
def zdB (mg : Str -> Option Value) (h : Heap) (n : Str) : Option Addr := (zio (mg n)).bind fun a => (zjj (h.get? a)).bind fun fd => (zio (some fd.code)).bind fun c => (ze3 (h.get? c)).bind fun vs => zio vs[11]?
theorem zkw {mg : Str -> Option Value} {h : Heap} {d : zfm} {c P : Addr} (F : zie mg h d c P) : zdB mg h d.name = some P := by
 obtain ⟨a, o, pm, code, doc, h1, h2, h3, h4, rfl, h6, ⟨⟨oc, vc, g1, g2, g3, g4⟩, _⟩⟩ := F
 unfold zdB
 rw [h1]
 show (zjj (h.get? a)).bind _ = _
 rw [h2]
 show ((match o.data with | .func fd => some fd | _ => none) : Option FuncData).bind _ = _
 rw [h3]
 show (ze3 (h.get? c)).bind _ = _
 rw [g1]
 show ((match oc.data with | .fields vs => some vs | _ => none) : Option (Array Value)).bind _ = _
 rw [g3]
 show zio vc[11]? = _
 rw [g4]; rfl
theorem zjk {h h' : Heap} (k : ∀ b o, h.get? b = some o -> h'.get? b = some o) {a : Addr} {fd : FuncData} (e : zjj (h.get? a) = some fd) : zjj (h'.get? a) = some fd := by
 cases e1 : h.get? a with
 | none => rw [e1] at e; exact za e
 | some o => rw [e1] at e; rw [k _ _ e1]; exact e
theorem zhq {h h' : Heap} (k : ∀ b o, h.get? b = some o -> h'.get? b = some o) {a : Addr} {fd : Array Value} (e : ze3 (h.get? a) = some fd) : ze3 (h'.get? a) = some fd := by
 cases e1 : h.get? a with
 | none => rw [e1] at e; exact za e
 | some o => rw [e1] at e; rw [k _ _ e1]; exact e
theorem zfP {mg : Str -> Option Value} {h h' : Heap} (k : ∀ b o, h.get? b = some o -> h'.get? b = some o) {n : Str} {P : Addr} (e : zdB mg h n = some P) : zdB mg h' n = some P :=
 zb e fun a ha e => zb e fun fd hf e => zb e fun c hc e => zb e fun vs hv e => by
  unfold zdB
  rw [ha, Option.bind_some, zjk k hf, Option.bind_some, hc, Option.bind_some, zhq k hv]; exact e
noncomputable def ztj : List DictEntry -> List (PyData × PyData) -> Bool
 | [], [] => true
 | e :: es, p :: kvs => (match e.key with | .int i _ => (zw p.1 == some i) && e.hash == hashInt i | _ => false) && (match e.val with | .str x _ => zaJ p.2 == some x | _ => false) && ztj es kvs
 | _, _ => false
theorem zl8 : ∀ {es : List DictEntry} {kvs : List (PyData × PyData)}, ztj es kvs = true -> zg3 es kvs
 | [], [], _ => trivial
 | [], _ :: _, h => Bool.noConfusion h
 | _ :: _, [], h => Bool.noConfusion h
 | e :: es, (k, d) :: kvs, h => zaf h fun h h3 => zaf h fun h1 h2 => by
  obtain ⟨hs, key, val⟩ := e
  cases key <;> first | exact Bool.noConfusion h1 | skip
  cases val <;> first | exact Bool.noConfusion h2 | skip
  refine zaf h1 fun h1 h4 => ?_
  rw [beq_iff_eq] at h1 h2 h4
  cases k <;> first | exact za h1 | skip
  cases d <;> first | exact za h2 | skip
  cases h1; cases h2
  exact ⟨⟨_, _, rfl, h4, rfl⟩, ⟨_, rfl⟩, zl8 h3⟩
def zl9 : List (PyData × PyData) := match Two2.flagsD with
 | .dict kvs => kvs
 | _ => []
noncomputable def zuX (h : Heap) : Bool := match h.get? sysModules with
 | some o => o.cls == .type "dict"
 | none => false
def zrj : Option Obj -> Bool
 | some ⟨cls, none, .dict es _, sl⟩ => cls == .type "dict" && sl.size == 0 && ztj es.toList zl9
 | _ => false
def zpo (mg : Str -> Option Value) (h : Heap) : Bool := match zio (mg "COMPILER_FLAG_NAMES") with
 | some a => !(a == sysModules) && zrj (h.get? a)
 | none => false
def neB (mg : Str -> Option Value) (h : Heap) : Bool := match zdB mg h "_digits2int" with
 | some p => (match zdB mg h "_int2digits" with | some q => !(p == q) | none => false)
 | none => false
def XtB (s : Shared) : Bool := zuX s.heap && zpo (s.heap.nsMap mainGlobals) s.heap && neB (s.heap.nsMap mainGlobals) s.heap
structure XPs (mg : Str -> Option Value) (h : Heap) : Prop where
 sys : ∃ o, h.get? sysModules = some o /\ o.cls = .type "dict"
 fl : ∃ a es ep, mg "COMPILER_FLAG_NAMES" = some (.ref a) /\ (a == sysModules) = false /\ h.get? a = some { cls := .type "dict", data := .dict es ep } /\ zg3 es.toList zl9
 ne : ∃ p q, zdB mg h "_digits2int" = some p /\ zdB mg h "_int2digits" = some q /\ p ≠ q
theorem zuY : LeftO Two2.P2 zm3 ["COMPILER_FLAG_NAMES"] (fun s => XtB s && recOk [] s) (fun _ => ()) (fun _ => ()) 1600 := LeftO.of_split "special-get-raises" fun w => by kernel_rfl
theorem zpp {o : Option Obj} (h : zrj o = true) : ∃ es ep, o = some { cls := .type "dict", data := .dict es ep } /\ zg3 es.toList zl9 := by
 rcases o with _ | ⟨cls, di, data, sl⟩
 ·exact Bool.noConfusion h
 ·cases di with
  | some a => exact Bool.noConfusion h
  | none =>
   cases data <;> first | exact Bool.noConfusion h | skip
   refine zaf h fun h h3 => zaf h fun h1 h2 => ?_
   rw [beq_iff_eq] at h1 h2
   have e : sl = #[] := Array.eq_empty_of_size_eq_zero h2
   subst e; subst h1
   exact ⟨_, _, rfl, zl8 h3⟩
theorem zuZ (s : Shared) (h : XtB s = true) : XPs (s.heap.nsMap mainGlobals) s.heap :=
 zaf h fun h h3 => zaf h fun h1 h2 => by
  refine ⟨?_, ?_, ?_⟩
  ·unfold zuX at h1
   cases e : s.heap.get? sysModules with
   | none => rw [e] at h1; exact Bool.noConfusion h1
   | some o => rw [e] at h1; exact ⟨o, rfl, eq_of_beq h1⟩
  ·unfold zpo at h2
   cases e : zio (s.heap.nsMap mainGlobals "COMPILER_FLAG_NAMES") with
   | none => rw [e] at h2; exact Bool.noConfusion h2
   | some a =>
    rw [e] at h2
    refine zaf h2 fun h4 h5 => ?_
    obtain ⟨es, ep, h6, h7⟩ := zpp h5
    refine ⟨a, es, ep, ?_, by rw [Bool.not_eq_true'] at h4; exact h4, h6, h7⟩
    cases e2 : s.heap.nsMap mainGlobals "COMPILER_FLAG_NAMES" with
    | none => rw [e2] at e; exact za e
    | some v => rw [e2] at e; cases v <;> first | exact za e | (cases e; rfl)
  ·unfold neB at h3
   cases e : zdB (s.heap.nsMap mainGlobals) s.heap "_digits2int" with
   | none => rw [e] at h3; exact Bool.noConfusion h3
   | some p =>
    rw [e] at h3
    cases e2 : zdB (s.heap.nsMap mainGlobals) s.heap "_int2digits" with
    | none => rw [e2] at h3; exact Bool.noConfusion h3
    | some q =>
     rw [e2] at h3
     refine ⟨p, q, rfl, rfl, ?_⟩
     intro hpq
     subst hpq
     have h3 : (!(p == p)) = true := h3
     rw [beq_self_eq_true] at h3; cases h3
theorem zpq (mg : Str -> Option Value) (h h' : Heap) (x : XPs mg h) (k : ∀ b o, h.get? b = some o -> h'.get? b = some o) : XPs mg h' :=
 ⟨let ⟨o, a, b⟩ := x.sys; ⟨o, k _ _ a, b⟩, let ⟨a, es, ep, h1, h2, h3, h4⟩ := x.fl; ⟨a, es, ep, h1, h2, k _ _ h3, h4⟩, let ⟨p, q, h1, h2, h3⟩ := x.ne; ⟨p, q, zfP k h1, zfP k h2, h3⟩⟩
theorem zm4 {v : Value} {i : Int} (h : ∀ h' : Heap, Reads h' v (.int i) []) : ∃ t, v = .int i t := by
 cases h default; exact ⟨_, rfl⟩
theorem zm5 {v : Value} {i : Str} (h : ∀ h' : Heap, Reads h' v (.str i) []) : ∃ t, v = .str i t := by
 cases h default; exact ⟨_, rfl⟩
theorem zm6 : Rm callerA 599 := ⟨rfl, by decide, by decide⟩
theorem zkx : (defOf zm3 "law").isSome = true := by kernel_rfl
def zhr : DefRec × List (Str × Expr) := (defOf zm3 "law").get zkx
theorem zqJ : defOf zm3 "law" = some (zhr.1, zhr.2) := (Option.some_get zkx).symm
theorem zqK : PySem.Challenge.rw_tc0029_02.row.prog.theDef "law" = some (zhr.1.params, zhr.1.body, zhr.1.scope) := by kernel_rfl
theorem ztk : kwWritten? zhr.1.params.kwonlyargs zhr.1.params.kw_defaults = some zhr.2 := by kernel_rfl
theorem zpr : zhr.1.name = "law" := by kernel_rfl
theorem ztl : ∀ (w : World) (s_0 s_1 : Shared) (mg mb : Str -> Option Value), Ground zm3 ["COMPILER_FLAG_NAMES"] [] XPs w s_0 mg mb s_1.heap -> ∀ {fa sl : Addr} {zs : List Int} {vs : Array Value}, mg "law" = some (.ref fa) -> s_1.gens = #[] -> s_1.heap.get? sl = some { cls := .type "list", data := .seq vs } -> IntsAre vs.toList zs -> zs.length <= 63 ->
  wpAny (model Two2.P2 w) callerA (call (.ref fa) [.ref sl]) (ziZ s_1.os s_1 (.bool true)) zc s_1 := by
 intro w s_0 s_1 mg mb G fa sl zs vs hmg hg hs hi hz
 have T := G.T
 have hFn := zoD (q := Two2.P2) T (by kernel_rfl)
 obtain ⟨cD, PD, FD⟩ := hFn (Two2.d2 "_digits2int") (Two2.d2_mem (.inl (by decide +kernel))).1
 obtain ⟨cI, PI, FI⟩ := hFn (Two2.d2 "_int2digits") (Two2.d2_mem (.inl (by decide +kernel))).1
 have hne : PD ≠ PI := by
  obtain ⟨p, q, h1, h2, h3⟩ := G.X.ne
  have e1 := zkw FD
  have e2 := zkw FI
  rw [show (Two2.d2 "_digits2int").name = "_digits2int" by kernel_rfl, h1] at e1
  rw [show (Two2.d2 "_int2digits").name = "_int2digits" by kernel_rfl, h2] at e2
  cases e1; cases e2; exact h3
 have h3 : ∃ a kvs, Two2.flagsD = .dict kvs /\ mg (Str.ofString "COMPILER_FLAG_NAMES") = some (.ref a) /\ zbp s_1.heap a kvs :=
  let ⟨a, es, ep, h1, h2, h3, h4⟩ := G.X.fl
  ⟨a, zl9, rfl, h1, zk1 h2 h3 h4⟩
 have hsys : ∃ o, s_1.heap.get? sysModules = some o /\ o ≠ zct := let ⟨o, h, hc⟩ := G.X.sys; ⟨o, h, by intro e; rw [e] at hc; cases hc⟩
 have h1 : ∃ t, mg (Str.ofString "_DIV_LIMIT") = some (.int 4000 t) := by
  obtain ⟨v, h, r⟩ := T.const "_DIV_LIMIT" (.int 4000) (by kernel_rfl)
  obtain ⟨t, rfl⟩ := zm4 r
  exact ⟨t, h⟩
 have h2 : ∃ t, mg (Str.ofString "ELLIPSIS_MARKER") = some (.str (Str.ofString "...") t) := by
  obtain ⟨v, h, r⟩ := T.const "ELLIPSIS_MARKER" (.str "...") (by kernel_rfl)
  obtain ⟨t, rfl⟩ := zm5 r
  exact ⟨t, h⟩
 have hbi := zsc T (by decide +kernel) (by decide +kernel)
 exact Two2.join2 (zs := zs) (al := fa) (sl := sl) hFn T.g T.b T.nolimit hsys hbi T.bmain h1 h2 h3 hmg FD FI hne hg hs (fun B => zeP hi) zm6 (zuW zs hz)
end
end Mine
set_option maxHeartbeats 0 in
open PySem.W.X PySem.W.ZRun in
set_option tactic.hygienic true in
open Mine in
theorem PySem.Challenge.cw_tc0029_02_holds : PySem.Challenge.rw_tc0029_02.Holds := by
 refine holds_law (by decide +kernel) fun said => ?_
 refine holds_openX (q := zm3) (loose := ["COMPILER_FLAG_NAMES"]) (Xt := fun s => XtB s && recOk [] s) (XP := XPs) (Yf := fun _ => ()) (Ya := fun _ => ()) (d := zhr.1) (kwd := zhr.2) (N := 1600) zuY (fun s e => zuZ s (Bool.and_eq_true_iff.mp e).1) zpq zqJ zqK ztk (fun s e => recFacts_of (Bool.and_eq_true_iff.mp e).2) (by rfl) said (by decide +kernel) ⟨rfl, rfl, rfl, rfl, rfl, by decide +kernel⟩ ⟨[.list []], by decide +kernel, by decide +kernel⟩ ?_
 intro w s₀ s₁ mg mb G y fa o pm cd doc dV kV ho hd hcd hD hmg hg args vals as L hpre hlay hrd hwl hlo
 clear y ho hd hcd hD
 rw [zpr] at hmg
 wrow_args hpre hlay hrd hwl hlo
 all_lens
 rename_i zs _ _ _ _ _ _ _ vsL _ hLs _ _ _ _ hc63 _ hi _
 exact wpAny_mono (ztl w s₀ s₁ mg mb G hmg hg (script_obj L hLs) hi (by omega)) (fun v s' p => zqa p (fun cls => rfl) (by first | rfl | wrow_post | decide)) (fun _ _ x => x.elim)
