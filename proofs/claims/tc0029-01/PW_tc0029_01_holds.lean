import PyProof.Rows.All
import Wide.All
import OpenK.AllK
import Wide.FinOn
import Lean
import PySem.Challenge.RW_tc0029_01
noncomputable section
set_option Elab.async false
set_option genSizeOf false
set_option genInjectivity false
set_option tactic.hygienic false
set_option compiler.extract_closed false
set_option bootstrap.genMatcherCode false
set_option linter.all false
set_option maxRecDepth 100000
open PySem PySem.W PyProof.Rows
namespace Mine
theorem zv {a b c:Nat} (h:a<=b) (k:b<=c):a<=c:=Nat.le_trans h k
def wPu:= @wpAny_pure
def wB:= @wpAny_bind
theorem cps {P:Prop} (h:∀G:Prop,(P ->G) ->G):P:=h P id
theorem zb {α:Type} {r:α} {G:Prop} (h:(none:Option α)=some r):G:=nomatch h
theorem zc {α β:Type} {x:Option α} {f:α ->Option β} {b:β} {G:Prop} (h:x.bind f=some b) (k:∀a,x=some a ->f a=some b ->G):G:=by
 cases x with
 |none=>exact zb h
 |some a=>exact k a rfl h
theorem zP {α β:Type} {x:Option α} {f:α ->β} {b:β} {G:Prop} (h:x.map f=some b) (k:∀a,x=some a ->f a=b ->G):G:=by
 cases x with
 |none=>exact zb h
 |some a=>exact k a rfl (Option.some.inj h)
theorem ifE {α:Type} {c:Prop} [Decidable c] {x:Option α} {r:α} {G:Prop} (h:(if c then x else none)=some r) (k:c ->x=some r ->G):G:=by
 by_cases hc:c
 ·rw [if_pos hc] at h;exact k hc h
 ·rw [if_neg hc] at h;exact zb h
theorem ifN {α:Type} {c:Prop} [Decidable c] {x:Option α} {r:α} {G:Prop} (h:(if c then none else x)=some r) (k:¬c ->x=some r ->G):G:=by
 by_cases hc:c
 ·rw [if_pos hc] at h;exact zb h
 ·rw [if_neg hc] at h;exact k hc h
@[elab_as_elim] theorem eqE {α:Type} {a a':α} {P:α ->Prop} (e:some a=some a') (h:P a):P a':=Option.some.inj e▸h
@[elab_as_elim] theorem zkP {α:Type} {a a':α} {P:α ->Prop} (e:a=a') (h:P a):P a':=e▸h
@[elab_as_elim] theorem za.{u} {α:Sort u} {a b:α} {P:α ->Prop} (e:a=b) (h:P b):P a:=e▸h
@[elab_as_elim] theorem zF.{u} {α:Sort u} {a b:α} {P:α ->Prop} (e:a=b) (h:P a):P b:=e▸h
@[elab_as_elim] theorem zay {α β:Type} {a a':α} {b b':β} {P:α ->β ->Prop} (e:some (a,b)=some (a',b')) (h:P a b):P a' b':=by
 cases e;exact h
theorem zaH {a b:Bool} {G:Prop} (h:(a&&b)=true) (k:a=true ->b=true ->G):G:=by
 rw [Bool.and_eq_true] at h;exact k h.1 h.2
theorem zR {P Q:Prop} {G:Prop} (h:P/\ Q) (k:P ->Q ->G):G:=k h.1 h.2
theorem I02 {P Q:Prop} (p:P) (q:Q):P/\ Q:=⟨p,q⟩
theorem E03 {P Q R:Prop} {G:Prop} (h:P/\ Q/\ R) (k:P ->Q ->R ->G):G:=k h.1 h.2.1 h.2.2
theorem I03 {P Q R:Prop} (p:P) (q:Q) (r:R):P/\ Q/\ R:=⟨p,q,r⟩
theorem E04 {P Q R S:Prop} {G:Prop} (h:P/\ Q/\ R/\ S) (k:P ->Q ->R ->S ->G):G:=k h.1 h.2.1 h.2.2.1 h.2.2.2
theorem I04 {P Q R S:Prop} (p:P) (q:Q) (r:R) (s:S):P/\ Q/\ R/\ S:=⟨p,q,r,s⟩
theorem E05 {P Q R S T:Prop} {G:Prop} (h:P/\ Q/\ R/\ S/\ T) (k:P ->Q ->R ->S ->T ->G):G:=k h.1 h.2.1 h.2.2.1 h.2.2.2.1 h.2.2.2.2
theorem I05 {P Q R S T:Prop} (p:P) (q:Q) (r:R) (s:S) (t:T):P/\ Q/\ R/\ S/\ T:=⟨p,q,r,s,t⟩
theorem E06 {P Q R S T U:Prop} {G:Prop} (h:P/\ Q/\ R/\ S/\ T/\ U) (k:P ->Q ->R ->S ->T ->U ->G):G:=k h.1 h.2.1 h.2.2.1 h.2.2.2.1 h.2.2.2.2.1 h.2.2.2.2.2
theorem I06 {P Q R S T U:Prop} (p:P) (q:Q) (r:R) (s:S) (t:T) (u:U):P/\ Q/\ R/\ S/\ T/\ U:=⟨p,q,r,s,t,u⟩
theorem E07 {P Q R S T U V:Prop} {G:Prop} (h:P/\ Q/\ R/\ S/\ T/\ U/\ V) (k:P ->Q ->R ->S ->T ->U ->V ->G):G:=k h.1 h.2.1 h.2.2.1 h.2.2.2.1 h.2.2.2.2.1 h.2.2.2.2.2.1 h.2.2.2.2.2.2
theorem I07 {P Q R S T U V:Prop} (p:P) (q:Q) (r:R) (s:S) (t:T) (u:U) (v:V):P/\ Q/\ R/\ S/\ T/\ U/\ V:=⟨p,q,r,s,t,u,v⟩
theorem E08 {P Q R S T U V W:Prop} {G:Prop} (h:P/\ Q/\ R/\ S/\ T/\ U/\ V/\ W) (k:P ->Q ->R ->S ->T ->U ->V ->W ->G):G:=k h.1 h.2.1 h.2.2.1 h.2.2.2.1 h.2.2.2.2.1 h.2.2.2.2.2.1 h.2.2.2.2.2.2.1 h.2.2.2.2.2.2.2
theorem I08 {P Q R S T U V W:Prop} (p:P) (q:Q) (r:R) (s:S) (t:T) (u:U) (v:V) (w:W):P/\ Q/\ R/\ S/\ T/\ U/\ V/\ W:=⟨p,q,r,s,t,u,v,w⟩
theorem zO {α:Sort _} {P:α ->Prop} {G:Prop} (h:∃a,P a) (k:∀a,P a ->G):G:=h.elim λa h=>k a h
theorem I11 {α:Sort _} {P:α ->Prop} (a:α) (p:P a):∃a,P a:=⟨a,p⟩
theorem zm {α:Sort _} {P Q:α ->Prop} {G:Prop} (h:∃a,P a/\ Q a) (k:∀a,P a ->Q a ->G):G:=h.elim λa h=>zR h (k a)
theorem zM {α:Sort _} {P Q:α ->Prop} (a:α) (p:P a) (q:Q a):∃a,P a/\ Q a:=⟨a,I02 p q⟩
theorem E13 {α:Sort _} {P Q R:α ->Prop} {G:Prop} (h:∃a,P a/\ Q a/\ R a) (k:∀a,P a ->Q a ->R a ->G):G:=h.elim λa h=>E03 h (k a)
theorem I13 {α:Sort _} {P Q R:α ->Prop} (a:α) (p:P a) (q:Q a) (r:R a):∃a,P a/\ Q a/\ R a:=⟨a,I03 p q r⟩
theorem E14 {α:Sort _} {P Q R S:α ->Prop} {G:Prop} (h:∃a,P a/\ Q a/\ R a/\ S a) (k:∀a,P a ->Q a ->R a ->S a ->G):G:=h.elim λa h=>E04 h (k a)
theorem I14 {α:Sort _} {P Q R S:α ->Prop} (a:α) (p:P a) (q:Q a) (r:R a) (s:S a):∃a,P a/\ Q a/\ R a/\ S a:=⟨a,I04 p q r s⟩
theorem E15 {α:Sort _} {P Q R S T:α ->Prop} {G:Prop} (h:∃a,P a/\ Q a/\ R a/\ S a/\ T a) (k:∀a,P a ->Q a ->R a ->S a ->T a ->G):G:=h.elim λa h=>E05 h (k a)
theorem I15 {α:Sort _} {P Q R S T:α ->Prop} (a:α) (p:P a) (q:Q a) (r:R a) (s:S a) (t:T a):∃a,P a/\ Q a/\ R a/\ S a/\ T a:=⟨a,I05 p q r s t⟩
theorem E16 {α:Sort _} {P Q R S T U:α ->Prop} {G:Prop} (h:∃a,P a/\ Q a/\ R a/\ S a/\ T a/\ U a) (k:∀a,P a ->Q a ->R a ->S a ->T a ->U a ->G):G:=h.elim λa h=>E06 h (k a)
theorem I16 {α:Sort _} {P Q R S T U:α ->Prop} (a:α) (p:P a) (q:Q a) (r:R a) (s:S a) (t:T a) (u:U a):∃a,P a/\ Q a/\ R a/\ S a/\ T a/\ U a:=⟨a,I06 p q r s t u⟩
theorem E17 {α:Sort _} {P Q R S T U V:α ->Prop} {G:Prop} (h:∃a,P a/\ Q a/\ R a/\ S a/\ T a/\ U a/\ V a) (k:∀a,P a ->Q a ->R a ->S a ->T a ->U a ->V a ->G):G:=h.elim λa h=>E07 h (k a)
theorem I17 {α:Sort _} {P Q R S T U V:α ->Prop} (a:α) (p:P a) (q:Q a) (r:R a) (s:S a) (t:T a) (u:U a) (v:V a):∃a,P a/\ Q a/\ R a/\ S a/\ T a/\ U a/\ V a:=⟨a,I07 p q r s t u v⟩
theorem E18 {α:Sort _} {P Q R S T U V W:α ->Prop} {G:Prop} (h:∃a,P a/\ Q a/\ R a/\ S a/\ T a/\ U a/\ V a/\ W a) (k:∀a,P a ->Q a ->R a ->S a ->T a ->U a ->V a ->W a ->G):G:=h.elim λa h=>E08 h (k a)
theorem I18 {α:Sort _} {P Q R S T U V W:α ->Prop} (a:α) (p:P a) (q:Q a) (r:R a) (s:S a) (t:T a) (u:U a) (v:V a) (w:W a):∃a,P a/\ Q a/\ R a/\ S a/\ T a/\ U a/\ V a/\ W a:=⟨a,I08 p q r s t u v w⟩
theorem E21 {α β:Sort _} {P:α ->β ->Prop} {G:Prop} (h:∃a b,P a b) (k:∀a b,P a b ->G):G:=h.elim λa h=>zO h (k a)
theorem I21 {α β:Sort _} {P:α ->β ->Prop} (a:α) (b:β) (p:P a b):∃a b,P a b:=⟨a,I11 b p⟩
theorem E22 {α β:Sort _} {P Q:α ->β ->Prop} {G:Prop} (h:∃a b,P a b/\ Q a b) (k:∀a b,P a b ->Q a b ->G):G:=h.elim λa h=>zm h (k a)
theorem I22 {α β:Sort _} {P Q:α ->β ->Prop} (a:α) (b:β) (p:P a b) (q:Q a b):∃a b,P a b/\ Q a b:=⟨a,zM b p q⟩
theorem E23 {α β:Sort _} {P Q R:α ->β ->Prop} {G:Prop} (h:∃a b,P a b/\ Q a b/\ R a b) (k:∀a b,P a b ->Q a b ->R a b ->G):G:=h.elim λa h=>E13 h (k a)
theorem I23 {α β:Sort _} {P Q R:α ->β ->Prop} (a:α) (b:β) (p:P a b) (q:Q a b) (r:R a b):∃a b,P a b/\ Q a b/\ R a b:=⟨a,I13 b p q r⟩
theorem E24 {α β:Sort _} {P Q R S:α ->β ->Prop} {G:Prop} (h:∃a b,P a b/\ Q a b/\ R a b/\ S a b) (k:∀a b,P a b ->Q a b ->R a b ->S a b ->G):G:=h.elim λa h=>E14 h (k a)
theorem I24 {α β:Sort _} {P Q R S:α ->β ->Prop} (a:α) (b:β) (p:P a b) (q:Q a b) (r:R a b) (s:S a b):∃a b,P a b/\ Q a b/\ R a b/\ S a b:=⟨a,I14 b p q r s⟩
theorem E25 {α β:Sort _} {P Q R S T:α ->β ->Prop} {G:Prop} (h:∃a b,P a b/\ Q a b/\ R a b/\ S a b/\ T a b) (k:∀a b,P a b ->Q a b ->R a b ->S a b ->T a b ->G):G:=h.elim λa h=>E15 h (k a)
theorem I25 {α β:Sort _} {P Q R S T:α ->β ->Prop} (a:α) (b:β) (p:P a b) (q:Q a b) (r:R a b) (s:S a b) (t:T a b):∃a b,P a b/\ Q a b/\ R a b/\ S a b/\ T a b:=⟨a,I15 b p q r s t⟩
theorem E26 {α β:Sort _} {P Q R S T U:α ->β ->Prop} {G:Prop} (h:∃a b,P a b/\ Q a b/\ R a b/\ S a b/\ T a b/\ U a b) (k:∀a b,P a b ->Q a b ->R a b ->S a b ->T a b ->U a b ->G):G:=h.elim λa h=>E16 h (k a)
theorem I26 {α β:Sort _} {P Q R S T U:α ->β ->Prop} (a:α) (b:β) (p:P a b) (q:Q a b) (r:R a b) (s:S a b) (t:T a b) (u:U a b):∃a b,P a b/\ Q a b/\ R a b/\ S a b/\ T a b/\ U a b:=⟨a,I16 b p q r s t u⟩
theorem E27 {α β:Sort _} {P Q R S T U V:α ->β ->Prop} {G:Prop} (h:∃a b,P a b/\ Q a b/\ R a b/\ S a b/\ T a b/\ U a b/\ V a b) (k:∀a b,P a b ->Q a b ->R a b ->S a b ->T a b ->U a b ->V a b ->G):G:=h.elim λa h=>E17 h (k a)
theorem I27 {α β:Sort _} {P Q R S T U V:α ->β ->Prop} (a:α) (b:β) (p:P a b) (q:Q a b) (r:R a b) (s:S a b) (t:T a b) (u:U a b) (v:V a b):∃a b,P a b/\ Q a b/\ R a b/\ S a b/\ T a b/\ U a b/\ V a b:=⟨a,I17 b p q r s t u v⟩
theorem E28 {α β:Sort _} {P Q R S T U V W:α ->β ->Prop} {G:Prop} (h:∃a b,P a b/\ Q a b/\ R a b/\ S a b/\ T a b/\ U a b/\ V a b/\ W a b) (k:∀a b,P a b ->Q a b ->R a b ->S a b ->T a b ->U a b ->V a b ->W a b ->G):G:=h.elim λa h=>E18 h (k a)
theorem I28 {α β:Sort _} {P Q R S T U V W:α ->β ->Prop} (a:α) (b:β) (p:P a b) (q:Q a b) (r:R a b) (s:S a b) (t:T a b) (u:U a b) (v:V a b) (w:W a b):∃a b,P a b/\ Q a b/\ R a b/\ S a b/\ T a b/\ U a b/\ V a b/\ W a b:=⟨a,I18 b p q r s t u v w⟩
theorem E31 {α β γ:Sort _} {P:α ->β ->γ ->Prop} {G:Prop} (h:∃a b c,P a b c) (k:∀a b c,P a b c ->G):G:=h.elim λa h=>E21 h (k a)
theorem I31 {α β γ:Sort _} {P:α ->β ->γ ->Prop} (a:α) (b:β) (c:γ) (p:P a b c):∃a b c,P a b c:=⟨a,I21 b c p⟩
theorem E32 {α β γ:Sort _} {P Q:α ->β ->γ ->Prop} {G:Prop} (h:∃a b c,P a b c/\ Q a b c) (k:∀a b c,P a b c ->Q a b c ->G):G:=h.elim λa h=>E22 h (k a)
theorem I32 {α β γ:Sort _} {P Q:α ->β ->γ ->Prop} (a:α) (b:β) (c:γ) (p:P a b c) (q:Q a b c):∃a b c,P a b c/\ Q a b c:=⟨a,I22 b c p q⟩
theorem E33 {α β γ:Sort _} {P Q R:α ->β ->γ ->Prop} {G:Prop} (h:∃a b c,P a b c/\ Q a b c/\ R a b c) (k:∀a b c,P a b c ->Q a b c ->R a b c ->G):G:=h.elim λa h=>E23 h (k a)
theorem I33 {α β γ:Sort _} {P Q R:α ->β ->γ ->Prop} (a:α) (b:β) (c:γ) (p:P a b c) (q:Q a b c) (r:R a b c):∃a b c,P a b c/\ Q a b c/\ R a b c:=⟨a,I23 b c p q r⟩
theorem E34 {α β γ:Sort _} {P Q R S:α ->β ->γ ->Prop} {G:Prop} (h:∃a b c,P a b c/\ Q a b c/\ R a b c/\ S a b c) (k:∀a b c,P a b c ->Q a b c ->R a b c ->S a b c ->G):G:=h.elim λa h=>E24 h (k a)
theorem I34 {α β γ:Sort _} {P Q R S:α ->β ->γ ->Prop} (a:α) (b:β) (c:γ) (p:P a b c) (q:Q a b c) (r:R a b c) (s:S a b c):∃a b c,P a b c/\ Q a b c/\ R a b c/\ S a b c:=⟨a,I24 b c p q r s⟩
theorem I35 {α β γ:Sort _} {P Q R S T:α ->β ->γ ->Prop} (a:α) (b:β) (c:γ) (p:P a b c) (q:Q a b c) (r:R a b c) (s:S a b c) (t:T a b c):∃a b c,P a b c/\ Q a b c/\ R a b c/\ S a b c/\ T a b c:=⟨a,I25 b c p q r s t⟩
theorem E36 {α β γ:Sort _} {P Q R S T U:α ->β ->γ ->Prop} {G:Prop} (h:∃a b c,P a b c/\ Q a b c/\ R a b c/\ S a b c/\ T a b c/\ U a b c) (k:∀a b c,P a b c ->Q a b c ->R a b c ->S a b c ->T a b c ->U a b c ->G):G:=h.elim λa h=>E26 h (k a)
theorem I36 {α β γ:Sort _} {P Q R S T U:α ->β ->γ ->Prop} (a:α) (b:β) (c:γ) (p:P a b c) (q:Q a b c) (r:R a b c) (s:S a b c) (t:T a b c) (u:U a b c):∃a b c,P a b c/\ Q a b c/\ R a b c/\ S a b c/\ T a b c/\ U a b c:=⟨a,I26 b c p q r s t u⟩
theorem E37 {α β γ:Sort _} {P Q R S T U V:α ->β ->γ ->Prop} {G:Prop} (h:∃a b c,P a b c/\ Q a b c/\ R a b c/\ S a b c/\ T a b c/\ U a b c/\ V a b c) (k:∀a b c,P a b c ->Q a b c ->R a b c ->S a b c ->T a b c ->U a b c ->V a b c ->G):G:=h.elim λa h=>E27 h (k a)
theorem I37 {α β γ:Sort _} {P Q R S T U V:α ->β ->γ ->Prop} (a:α) (b:β) (c:γ) (p:P a b c) (q:Q a b c) (r:R a b c) (s:S a b c) (t:T a b c) (u:U a b c) (v:V a b c):∃a b c,P a b c/\ Q a b c/\ R a b c/\ S a b c/\ T a b c/\ U a b c/\ V a b c:=⟨a,I27 b c p q r s t u v⟩
theorem E38 {α β γ:Sort _} {P Q R S T U V W:α ->β ->γ ->Prop} {G:Prop} (h:∃a b c,P a b c/\ Q a b c/\ R a b c/\ S a b c/\ T a b c/\ U a b c/\ V a b c/\ W a b c) (k:∀a b c,P a b c ->Q a b c ->R a b c ->S a b c ->T a b c ->U a b c ->V a b c ->W a b c ->G):G:=h.elim λa h=>E28 h (k a)
theorem E41 {α β γ δ:Sort _} {P:α ->β ->γ ->δ ->Prop} {G:Prop} (h:∃a b c d,P a b c d) (k:∀a b c d,P a b c d ->G):G:=h.elim λa h=>E31 h (k a)
theorem E42 {α β γ δ:Sort _} {P Q:α ->β ->γ ->δ ->Prop} {G:Prop} (h:∃a b c d,P a b c d/\ Q a b c d) (k:∀a b c d,P a b c d ->Q a b c d ->G):G:=h.elim λa h=>E32 h (k a)
theorem I42 {α β γ δ:Sort _} {P Q:α ->β ->γ ->δ ->Prop} (a:α) (b:β) (c:γ) (d:δ) (p:P a b c d) (q:Q a b c d):∃a b c d,P a b c d/\ Q a b c d:=⟨a,I32 b c d p q⟩
theorem E43 {α β γ δ:Sort _} {P Q R:α ->β ->γ ->δ ->Prop} {G:Prop} (h:∃a b c d,P a b c d/\ Q a b c d/\ R a b c d) (k:∀a b c d,P a b c d ->Q a b c d ->R a b c d ->G):G:=h.elim λa h=>E33 h (k a)
theorem I43 {α β γ δ:Sort _} {P Q R:α ->β ->γ ->δ ->Prop} (a:α) (b:β) (c:γ) (d:δ) (p:P a b c d) (q:Q a b c d) (r:R a b c d):∃a b c d,P a b c d/\ Q a b c d/\ R a b c d:=⟨a,I33 b c d p q r⟩
theorem E44 {α β γ δ:Sort _} {P Q R S:α ->β ->γ ->δ ->Prop} {G:Prop} (h:∃a b c d,P a b c d/\ Q a b c d/\ R a b c d/\ S a b c d) (k:∀a b c d,P a b c d ->Q a b c d ->R a b c d ->S a b c d ->G):G:=h.elim λa h=>E34 h (k a)
theorem I44 {α β γ δ:Sort _} {P Q R S:α ->β ->γ ->δ ->Prop} (a:α) (b:β) (c:γ) (d:δ) (p:P a b c d) (q:Q a b c d) (r:R a b c d) (s:S a b c d):∃a b c d,P a b c d/\ Q a b c d/\ R a b c d/\ S a b c d:=⟨a,I34 b c d p q r s⟩
theorem E46 {α β γ δ:Sort _} {P Q R S T U:α ->β ->γ ->δ ->Prop} {G:Prop} (h:∃a b c d,P a b c d/\ Q a b c d/\ R a b c d/\ S a b c d/\ T a b c d/\ U a b c d) (k:∀a b c d,P a b c d ->Q a b c d ->R a b c d ->S a b c d ->T a b c d ->U a b c d ->G):G:=h.elim λa h=>E36 h (k a)
theorem I46 {α β γ δ:Sort _} {P Q R S T U:α ->β ->γ ->δ ->Prop} (a:α) (b:β) (c:γ) (d:δ) (p:P a b c d) (q:Q a b c d) (r:R a b c d) (s:S a b c d) (t:T a b c d) (u:U a b c d):∃a b c d,P a b c d/\ Q a b c d/\ R a b c d/\ S a b c d/\ T a b c d/\ U a b c d:=⟨a,I36 b c d p q r s t u⟩
theorem E47 {α β γ δ:Sort _} {P Q R S T U V:α ->β ->γ ->δ ->Prop} {G:Prop} (h:∃a b c d,P a b c d/\ Q a b c d/\ R a b c d/\ S a b c d/\ T a b c d/\ U a b c d/\ V a b c d) (k:∀a b c d,P a b c d ->Q a b c d ->R a b c d ->S a b c d ->T a b c d ->U a b c d ->V a b c d ->G):G:=h.elim λa h=>E37 h (k a)
theorem I47 {α β γ δ:Sort _} {P Q R S T U V:α ->β ->γ ->δ ->Prop} (a:α) (b:β) (c:γ) (d:δ) (p:P a b c d) (q:Q a b c d) (r:R a b c d) (s:S a b c d) (t:T a b c d) (u:U a b c d) (v:V a b c d):∃a b c d,P a b c d/\ Q a b c d/\ R a b c d/\ S a b c d/\ T a b c d/\ U a b c d/\ V a b c d:=⟨a,I37 b c d p q r s t u v⟩
theorem E51 {α β γ δ ε:Sort _} {P:α ->β ->γ ->δ ->ε ->Prop} {G:Prop} (h:∃a b c d e,P a b c d e) (k:∀a b c d e,P a b c d e ->G):G:=h.elim λa h=>E41 h (k a)
theorem E53 {α β γ δ ε:Sort _} {P Q R:α ->β ->γ ->δ ->ε ->Prop} {G:Prop} (h:∃a b c d e,P a b c d e/\ Q a b c d e/\ R a b c d e) (k:∀a b c d e,P a b c d e ->Q a b c d e ->R a b c d e ->G):G:=h.elim λa h=>E43 h (k a)
theorem I53 {α β γ δ ε:Sort _} {P Q R:α ->β ->γ ->δ ->ε ->Prop} (a:α) (b:β) (c:γ) (d:δ) (e:ε) (p:P a b c d e) (q:Q a b c d e) (r:R a b c d e):∃a b c d e,P a b c d e/\ Q a b c d e/\ R a b c d e:=⟨a,I43 b c d e p q r⟩
theorem E54 {α β γ δ ε:Sort _} {P Q R S:α ->β ->γ ->δ ->ε ->Prop} {G:Prop} (h:∃a b c d e,P a b c d e/\ Q a b c d e/\ R a b c d e/\ S a b c d e) (k:∀a b c d e,P a b c d e ->Q a b c d e ->R a b c d e ->S a b c d e ->G):G:=h.elim λa h=>E44 h (k a)
theorem E56 {α β γ δ ε:Sort _} {P Q R S T U:α ->β ->γ ->δ ->ε ->Prop} {G:Prop} (h:∃a b c d e,P a b c d e/\ Q a b c d e/\ R a b c d e/\ S a b c d e/\ T a b c d e/\ U a b c d e) (k:∀a b c d e,P a b c d e ->Q a b c d e ->R a b c d e ->S a b c d e ->T a b c d e ->U a b c d e ->G):G:=h.elim λa h=>E46 h (k a)
theorem E57 {α β γ δ ε:Sort _} {P Q R S T U V:α ->β ->γ ->δ ->ε ->Prop} {G:Prop} (h:∃a b c d e,P a b c d e/\ Q a b c d e/\ R a b c d e/\ S a b c d e/\ T a b c d e/\ U a b c d e/\ V a b c d e) (k:∀a b c d e,P a b c d e ->Q a b c d e ->R a b c d e ->S a b c d e ->T a b c d e ->U a b c d e ->V a b c d e ->G):G:=h.elim λa h=>E47 h (k a)
theorem wpM {α:Type} {M:Model} {A:Around} {E:Value ->Shared ->Prop} {s:Shared} {t:Sem α} {Q Q':α ->Shared ->Prop} (h:wpAny M A t Q E s) (k:∀a s,Q a s ->Q' a s):wpAny M A t Q' E s:=wpAny_mono h k λ_ _ x=>x
theorem zud {M:Model} {A:Around} {s:Shared} {c:Code} {R:Result ->Shared ->Prop} (h:∀R':Result ->Shared ->Prop,(∀a s,R a s ->R' a s) ->codeAny M A c R' s):codeAny M A c R s:=h R λ_ _ q=>q
theorem zvH {α β:Type} (P:α ->β ->Prop) {G:Prop} (h:∀I:α ->β ->Prop,(∀j s,P j s ->I j s) ->(∀j s,I j s ->P j s) ->G):G:=h P (λ_ _ h=>h) λ_ _ h=>h
@[elab_as_elim] theorem ltS {n:Nat} {P:Nat ->Prop} {l:Nat} (h:l<n+1) (z:P 0) (s:∀j,j<n ->P (j+1)):P l:=by
 induction l using Nat.casesOn with
 |zero=>exact z
 |succ j=>exact s j (Nat.lt_of_succ_lt_succ h)
@[elab_as_elim] theorem lt3 {P:Nat ->Prop} {l:Nat} (h:l<3) (a:P 0) (b:P 1) (c:P 2):P l:=ltS h a λ_ h=>ltS h b λ_ h=>ltS h c λ_ h=>absurd h (Nat.not_lt_zero _)
@[elab_as_elim] theorem lt6 {P:Nat ->Prop} {l:Nat} (h:l<6) (a:P 0) (b:P 1) (c:P 2) (d:P 3) (e:P 4) (f:P 5):P l:=ltS h a λ_ h=>ltS h b λ_ h=>ltS h c λ_ h=>lt3 h d e f
@[elab_as_elim] theorem lt8 {P:Nat ->Prop} {l:Nat} (h:l<8) (a:P 0) (b:P 1) (c:P 2) (d:P 3) (e:P 4) (f:P 5) (g:P 6) (i:P 7):P l:=ltS h a λ_ h=>ltS h b λ_ h=>lt6 h c d e f g i
@[elab_as_elim] theorem zvI {α:Type} {a b:α} {P:α ->Prop} (h:b∈[a]) (x:P a):P b:=List.mem_singleton.mp h▸x
@[elab_as_elim] theorem zaW {α:Type} {a c b:α} {P:α ->Prop} (h:b∈[a,c]) (x:P a) (y:P c):P b:=(List.mem_cons.mp h).elim (λe=>e▸x) λh=>zvI h y
@[elab_as_elim] theorem zdO {α:Type} {a b:α} {l:List α} {P:α ->Prop} (h:b∈a::l) (x:P a) (y:b∈l ->P b):P b:=(List.mem_cons.mp h).elim (λe=>e▸x) y
theorem nm2 {α:Type} {a c b:α} (h:b∉[a,c]):¬b=a/\ ¬b=c:=⟨λe=>h (e▸ .head _),λe=>h (e▸ .tail _ (.head _))⟩
theorem nm3 {α:Type} {a c d b:α} (h:b∉[a,c,d]):¬b=a/\ ¬b=c/\ ¬b=d:=⟨λe=>h (e▸ .head _),λe=>h (e▸ .tail _ (.head _)),λe=>h (e▸ .tail _ (.tail _ (.head _)))⟩
theorem nm4 {α:Type} {a c d e b:α} (h:b∉[a,c,d,e]):¬b=a/\ ¬b=c/\ ¬b=d/\ ¬b=e:=⟨λi=>h (i▸ .head _),nm3 λm=>h (.tail _ m)⟩

def Sub (F G:Heap):Prop:=∀b o,F.get? b=some o ->G.get? b=some o
theorem Sub.refl (F:Heap):Sub F F:=λu v e=>e
theorem Sub.trans {F G H:Heap} (a:Sub F G) (b:Sub G H):Sub F H:=λx o e=>b x o (a x o e)
theorem Sub.none {F G:Heap} (a:Sub F G) {b:Addr} (h:G.get? b=none):F.get? b=none:=by
 induction e:F.get? b with
 |none=>rfl
 |some o=>cases (a b o e).symm.trans h
def NoF (o:Obj):Prop:=∀vs,o.data≠ .fields vs
theorem noF {o:Obj} {d:Data} (h:o.data=d) (k:∀vs,d≠ .fields vs):NoF o:=λvs e=>k vs (h.symm.trans e)
theorem zak {c:Value} {vs:Array Value} {n:Nat}:NoF {cls:=c,data:= .seq vs n}:=λ_ x=>nomatch x
def zkQ (o:Obj):Prop:=o.cls= .type "code" /\ ∃vs,o.data= .fields vs
structure En where
 prog:Program
 w:World
 B:Heap
 os:OsState
 tab:Addr ->Prop
 J:Heap ->Prop
 jk:∀h h',J h ->(∀b o,tab b \/zkQ o ->h.get? b=some o ->h'.get? b=some o) ->J h'
 jf:∀h,J h ->∀b,tab b ->∃o vs,h.get? b=some o/\ o.data= .fields vs/\ o.cls= .none
noncomputable abbrev En.m (Ω:En):=model Ω.prog Ω.w
structure Fs where
 fns:List (Str×Nat)
 cst:List (Str×PyData)
 gen:Str
 fa:Nat ->Addr
 ga:Addr
noncomputable def Fs.none (Φ:Fs):Fs:=⟨[],[],Φ.gen,Φ.fa,Φ.ga⟩
def zgd:Value ->PyData ->Prop
 |v,.int i=>∃t,v= .int i t
 |v,.str x=>∃t,v= .str x t
 |_,_=>False
noncomputable def zcU:List (PyData×PyData) ->Int ->Option PyData
 | [],_=>none
 | (.int j,d)::r,k=>if k=j then some d else zcU r k
 |_::r,k=>zcU r k
def zbr (F:Heap) (a:Addr) (kvs:List (PyData×PyData)):Prop:=
 (a==sysModules)=false/\ ∃f:Int ->Option Value,(∀(p:Program) (w:World),F.MapOf (intKind p w) a f)/\ ∀k,match zcU kvs k with
  |some d=>∃v,f k=some v/\ zgd v d
  |none=>f k=none
mutual
def Rep (F:Heap):Value ->PyData ->Prop
 |v,.none=>v= .none
 |v,.bool b=>v= .bool b
 |v,.int i=>∃t,v= .int i t
 |v,.str x=>∃t,v= .str x t
 |v,.list xs=>∃a vs n,v= .ref a/\ F.get? a=some {cls:= .type "list",data:= .seq vs n}/\ zC F vs.toList xs
 |v,.tuple xs=>∃a vs n,v= .ref a/\ F.get? a=some {cls:= .type "tuple",data:= .seq vs n}/\ zC F vs.toList xs
 |v,.dict kvs=>∃a,v= .ref a/\ zbr F a kvs
def zC (F:Heap):List Value ->List PyData ->Prop
 |vs,[]=>vs=[]
 |vs,d::ds=>∃v vs',vs=v::vs'/\ Rep F v d/\ zC F vs' ds
end
theorem zbr.mono {F G:Heap} {a:Addr} {kvs} (h:Sub F G) (x:zbr F a kvs):zbr G a kvs:=by
 obtain ⟨hs,f,hm,hf⟩:=x
 exact ⟨hs,f,λp w=>E32 (hm p w) λo es ep ho r=>(I32 o es ep (h _ _ ho) r),hf⟩
mutual
theorem Rep.mono {F G:Heap} (h:Sub F G):∀{v:Value} {d:PyData},Rep F v d ->Rep G v d
 |_,.none,x=>by exact x
 |_,.bool _,x=>by exact x
 |_,.int _,x=>by exact x
 |_,.str _,x=>by exact x
 |_,.list _,x=>by
  refine cps λG0 hG_0=>?_
  refine E33 x λa vs n e9 e r=>?_
  clear x;obtain rfl:=e9.symm
  refine hG_0 ?_
  exact I33 a vs n rfl (h _ _ e) (zC.mono h r)
 |_,.tuple _,x=>by
  refine cps λG0 hG_0=>?_
  refine E33 x λa vs n e9 e r=>?_
  clear x;obtain rfl:=e9.symm
  refine hG_0 ?_
  exact I33 a vs n rfl (h _ _ e) (zC.mono h r)
 |_,.dict _,x=>by
  refine zm x λa e9 r=>?_
  clear x;refine za e9 ?_
  exact zM a rfl (r.mono h)
theorem zC.mono {F G:Heap} (h:Sub F G):∀{vs:List Value} {ds:List PyData},zC F vs ds ->zC G vs ds
 |_,[],x=>by exact x
 |_,_::_,x=>by
  refine E23 x λv vs' e9 a b=>?_
  clear x;refine za e9 ?_
  exact I23 v vs' rfl (Rep.mono h a) (zC.mono h b)
end
section
variable {F:Heap} {v:Value} {vs:List Value}
theorem zju:Rep F v .none↔v= .none:=Iff.rfl
theorem zH {b}:Rep F v (.bool b)↔v= .bool b:=Iff.rfl
theorem zu {i}:Rep F v (.int i)↔∃t,v= .int i t:=Iff.rfl
theorem zU {x}:Rep F v (.str x)↔∃t,v= .str x t:=Iff.rfl
theorem zah {xs}:Rep F v (.list xs)↔∃a vs n,v= .ref a/\ F.get? a=some {cls:= .type "list",data:= .seq vs n}/\ zC F vs.toList xs:=Iff.rfl
theorem zbi {xs}:Rep F v (.tuple xs)↔∃a vs n,v= .ref a/\ F.get? a=some {cls:= .type "tuple",data:= .seq vs n}/\ zC F vs.toList xs:=Iff.rfl
theorem zc4 {kvs}:Rep F v (.dict kvs)↔∃a,v= .ref a/\ zbr F a kvs:=Iff.rfl
theorem zaL:zC F vs []↔vs=[]:=Iff.rfl
theorem zG {d ds}:zC F vs (d::ds)↔∃v vs',vs=v::vs'/\ Rep F v d/\ zC F vs' ds:=Iff.rfl
theorem zd5 {v vs d ds}:zC F (v::vs) (d::ds)↔Rep F v d/\ zC F vs ds:=by
 constructor
 ·intro h9;refine E23 h9 λ_ _ e a b=>?_;clear h9;cases e;exact ⟨a,b⟩
 ·intro h9;exact I23 _ _ rfl h9.1 h9.2
theorem zC.length:∀{ds:List PyData} {vs:List Value},zC F vs ds ->vs.length=ds.length
 | [],_,x=>by subst x;rfl
 |_::ds,_,x=>by
  refine cps λG0 hG_0=>?_
  refine E23 x λv vs' e9 _ b=>?_
  clear x;obtain rfl:=e9.symm
  refine hG_0 ?_
  simp [b.length]
theorem zC.append:∀{ds:List PyData} {vs:List Value} {vs' ds'},zC F vs ds ->zC F vs' ds' ->zC F (vs++vs') (ds++ds')
 | [],_,_,_,x,y=>by subst x;exact y
 |_::ds,_,_,_,x,y=>by
  refine E23 x λv vs' e9 a b=>?_
  clear x;refine za e9 ?_
  exact zd5.mpr ⟨a,b.append y⟩
theorem zC.one {v d} (h:Rep F v d):zC F [v] [d]:=zd5.mpr ⟨h,zaL.mpr rfl⟩
theorem zC.nil:zC F [] []:=zaL.mpr rfl
theorem zC.cons {v d vs ds} (h:Rep F v d) (t:zC F vs ds):zC F (v::vs) (d::ds):=zd5.mpr ⟨h,t⟩
theorem zC.get:∀{ds:List PyData} {vs:List Value} {i:Nat} {d:PyData},zC F vs ds ->ds[i]?=some d ->∃v,vs[i]?=some v/\ Rep F v d
 | [],_,_,_,_,h=>by exact zb h
 |_::ds,_,0,d,x,h=>by
  refine E23 x λv vs' e9 a b=>?_
  clear x;refine za e9 ?_
  simp at h;subst h
  exact zM v rfl a
 |_::ds,_,i+1,d,x,h=>by
  refine E23 x λv vs' e9 a b=>?_
  clear x;refine za e9 ?_
  refine zm (b.get h) λu hu r=>?_
  exact zM u (by simpa using hu) r
theorem zC.of_all:∀{ds:List PyData} {vs:List Value},vs.length=ds.length ->(∀(i:Nat) v d,vs[i]?=some v ->ds[i]?=some d ->Rep F v d) ->zC F vs ds
 | [],[],_,_=> .nil
 | [],_::_,h,_=>by simp at h
 |_::_,[],h,_=>by simp at h
 |d::ds,v::vs,h,k=> .cons (k 0 v d rfl rfl) (zC.of_all (by simpa using h) λi v d a b=>k (i+1) v d (by simpa using a) (by simpa using b))
theorem zC.reverse {ds:List PyData} {vs:List Value} (x:zC F vs ds):zC F vs.reverse ds.reverse:=by
 refine zC.of_all (by simp [x.length]) λi v d a b=>?_
 have hl:=x.length
 have hi:i<vs.reverse.length:=by
  refine Or.elim (Nat.lt_or_ge i vs.reverse.length) (λh=>?_) λh=>?_
  ·exact h
  ·exact zb ((List.getElem?_eq_none h).symm.trans a)
 rw [List.length_reverse] at hi
 rw [List.getElem?_reverse hi] at a
 rw [List.getElem?_reverse (by lia)] at b
 rw [<-hl] at b
 refine zm (x.get b) λu hu r=>?_
 refine eqE (hu.symm.trans a) ?_;exact r
end
structure Ok (Ω:En) (F:Heap) (s:Shared):Prop where
 sub:Sub F s.heap
 base:Sub Ω.B F
 os:s.os=Ω.os
 gens:AllBare s.gens
 j:Ω.J s.heap
 zt:∀b,Ω.tab b ->F.get? b=none
theorem Ok.nt {Ω:En} {F:Heap} {s:Shared} (h:Ok Ω F s) {a:Addr} {o:Obj} (e:s.heap.get? a=some o) (hd:NoF o):¬Ω.tab a:=λt=>
 E22 (Ω.jf _ h.j a t) λo' vs e' d=>by cases e.symm.trans e';exact hd vs d.1
theorem Ok.ntF {Ω:En} {F:Heap} {s:Shared} (h:Ok Ω F s) {a:Addr} (e:s.heap.get? a=none):¬Ω.tab a:=λt=>
 E22 (Ω.jf _ h.j a t) λo' vs e' d=>zb (e.symm.trans e')
theorem Ok.ntZ {Ω:En} {F:Heap} {s:Shared} (h:Ok Ω F s) {a:Addr} {o:Obj} (e:F.get? a=some o):¬Ω.tab a:=λt=>zb ((h.zt a t).symm.trans e)
theorem Ok.ntC {Ω:En} {F:Heap} {s:Shared} (h:Ok Ω F s) {a:Addr} {o:Obj} {T:String} (e:s.heap.get? a=some o) (hc:o.cls= .type T):¬Ω.tab a:=λt=>
 E22 (Ω.jf _ h.j a t) λo' vs e' d=>by cases e.symm.trans e';exact nomatch d.2.symm.trans hc
def NoP (Ω:En) (h:Heap) (a:Addr):Prop:=¬Ω.tab a/\ ∀o,h.get? a=some o ->¬zkQ o
theorem Ok.np {Ω:En} {F:Heap} {s:Shared} (h:Ok Ω F s) {a:Addr} {o:Obj} (e:s.heap.get? a=some o) (hd:NoF o):NoP Ω s.heap a:=
 ⟨h.nt e hd,λo' e' c=>by cases e.symm.trans e';exact c.2.elim hd⟩
theorem npC {Ω:En} {h:Heap} {a:Addr} {o:Obj} {T:String} (t:¬Ω.tab a) (e:h.get? a=some o) (hc:o.cls= .type T) (hT:T≠ "code"):NoP Ω h a:=
 ⟨t,λo' e' c=>by cases e.symm.trans e';exact hT (Value.type.inj (hc.symm.trans c.1))⟩
def GK (g g':Array GenState):Prop:=∀(i:Nat) (x:GenState),g[i]?=some x ->g'[i]?=some x
theorem GK.refl (g:Array GenState):GK g g:=λu v e=>e
theorem GK.trans {a b c:Array GenState} (x:GK a b) (y:GK b c):GK a c:=λi z e=>y i z (x i z e)
structure Stp (Ω:En) (F:Heap) (s:Shared) (F':Heap) (s':Shared):Prop where
 ok:Ok Ω F' s'
 f:Sub F F'
 new:∀b o,¬Ω.tab b ->s.heap.get? b=some o ->F'.get? b=F.get? b
 t:∀b,Ω.tab b ->∃o vs,s.heap.get? b=some o/\ o.data= .fields vs/\ o.cls= .none
 h:∀b o,¬Ω.tab b ->s.heap.get? b=some o ->s'.heap.get? b=some o
 g:GK s.gens s'.gens
section
variable {Ω:En} {F F' F'':Heap} {s s' s'':Shared}
theorem Ok.lv (h:Ok Ω F s):∀b,Ω.tab b ->∃o vs,s.heap.get? b=some o/\ o.data= .fields vs/\ o.cls= .none:=Ω.jf _ h.j
theorem Stp.nt (S:Stp Ω F s F' s') {b:Addr} {o:Obj} (n:NoF o) (e:s.heap.get? b=some o):¬Ω.tab b:=λt=>
 E22 (S.t b t) λo' vs e' d=>by cases e.symm.trans e';exact n vs d.1
theorem Stp.ntF (S:Stp Ω F s F' s') {b:Addr} (e:s.heap.get? b=none):¬Ω.tab b:=λt=>E22 (S.t b t) λo' vs e' d=>zb (e.symm.trans e')
theorem Stp.ntC (S:Stp Ω F s F' s') {b:Addr} {o:Obj} {T:String} (e:s.heap.get? b=some o) (hc:o.cls= .type T):¬Ω.tab b:=λt=>
 E22 (S.t b t) λo' vs e' d=>by cases e.symm.trans e';exact nomatch d.2.symm.trans hc
theorem Stp.hN (a:Stp Ω F s F' s') {b:Addr} {o:Obj} (n:NoF o) (e:s.heap.get? b=some o):s'.heap.get? b=some o:=a.h b o (a.nt n e) e
theorem Stp.hn (a:Stp Ω F s F' s') (b:Addr) (o:Obj) (n:NoF o) (e:s.heap.get? b=some o):s'.heap.get? b=some o:=a.hN n e
theorem Stp.fresh (a:Stp Ω F s F' s') {x:Addr} (h:s'.heap.get? x=none):s.heap.get? x=none:=by
 induction e:s.heap.get? x with
 |none=>rfl
 |some o=>cases (a.h x o (λt=>E22 (Ω.jf _ a.ok.j x t) λo' vs e' d=>zb (h.symm.trans e')) e).symm.trans h
theorem Stp.refl (h:Ok Ω F s):Stp Ω F s F s:=⟨h,.refl _,λu v w x=>rfl,h.lv,λu v w x=>x,.refl _⟩
theorem Stp.trans (a:Stp Ω F s F' s') (b:Stp Ω F' s' F'' s''):Stp Ω F s F'' s'':=
 ⟨b.ok,a.f.trans b.f,λx o n e=>(b.new x o n (a.h x o n e)).trans (a.new x o n e),a.t,λx o n e=>b.h x o n (a.h x o n e),a.g.trans b.g⟩
theorem Stp.tok (h:Ok Ω F s) (n:Nat):Stp Ω F s F {s with toks:=n}:=
 ⟨⟨h.sub,h.base,h.os,h.gens,h.j,h.zt⟩,.refl _,λu v w x=>rfl,h.lv,λu v w x=>x,.refl _⟩
theorem Stp.grow {h':Heap} {n:Nat} (h:Ok Ω F s) (k:Sub s.heap h'):Stp Ω F s F {s with heap:=h',toks:=n}:=
 ⟨⟨h.sub.trans k,h.base,h.os,h.gens,Ω.jk _ _ h.j λb o t e=>k b o e,h.zt⟩,.refl _,λu v w x=>rfl,h.lv,λb o n e=>k b o e,.refl _⟩
end
noncomputable def zc5 (a:Nat) (os:Array Obj):Array Obj:=os++Array.replicate (a-os.size) ⟨.none,Option.none,.freed,#[]⟩
noncomputable def zns:Option Obj ->Option Obj
 |some ⟨_,_,.freed,_⟩=>none
 |o=>o
theorem zaN (h:Heap) (a:Addr):h.get? a=zns h.objs[a]?:=rfl
theorem zkR {o:Obj} (hf:o.isFreed=false):zns (some o)=some o:=by
 induction o with
 |mk c d dt sl=>induction dt<;>first|rfl| (exact Bool.noConfusion hf)
theorem zba {x:Option Obj} {o:Obj} (h:zns x=some o):o.isFreed=false:=by
 induction x with
 |none=>exact zb h
 |some y=>
  induction y with
  |mk c d dt sl=>induction dt<;>first| (refine eqE h ?_;rfl)|exact zb h
theorem zkS (F:Heap) (a:Nat) (o:Obj) (hn:F.get? a=none) (hf:o.isFreed=false):
  ∃F':Heap,Sub F F'/\ F'.get? a=some o/\ ∀b:Nat,b≠a ->F'.get? b=F.get? b:=by
 have hsz:a<(zc5 (a+1) F.objs).size:=by
  refine za Array.size_append (za Array.size_replicate ?_)
  exact Nat.sub_le_iff_le_add'.mp (Nat.le_refl _)
 have old:∀b:Nat,b≠a ->({F with objs:=(zc5 (a+1) F.objs).setIfInBounds a o}:Heap).get? b=F.get? b:=by
  intro b hb
  rw [zaN,zaN]
  refine za (show ((zc5 (a+1) F.objs).setIfInBounds a o)[b]?=(zc5 (a+1) F.objs)[b]? from by
   simp [Ne.symm hb]) ?_
  refine Or.elim (Nat.lt_or_ge b F.objs.size) (λh=>?_) λh=>?_
  ·exact za (show (zc5 (a+1) F.objs)[b]?=F.objs[b]? from by unfold zc5;exact za (Array.getElem?_append_left h) rfl) rfl
  ·refine za (show F.objs[b]?=Option.none from Array.getElem?_eq_none h) ?_
   refine Or.elim (Nat.lt_or_ge b (zc5 (a+1) F.objs).size) (λh2=>?_) λh2=>?_
   ·refine za (show (zc5 (a+1) F.objs)[b]?=some ⟨.none,Option.none,.freed,#[]⟩ from by
     unfold zc5 at h2 |-
     rw [Array.size_append,Array.size_replicate] at h2
     refine za (Array.getElem?_append_right h) ?_;refine za Array.getElem?_replicate ?_
     exact za (if_pos (Nat.sub_lt_left_of_lt_add h h2)) rfl) ?_
    rfl
   ·exact za (show (zc5 (a+1) F.objs)[b]?=Option.none from Array.getElem?_eq_none h2) rfl
 refine I13 ({F with objs:=(zc5 (a+1) F.objs).setIfInBounds a o}) (λb o' e=>?_) ?_ old
 ·by_cases hb:b=a
  ·obtain rfl:=hb.symm;exact zb (hn.symm.trans e)
  ·refine za (old b hb) ?_;exact e
 ·rw [zaN]
  simp [hsz,zkR hf]
section
variable {Ω:En} {F:Heap} {s s':Shared}
theorem Stp.freezeNew {F1:Heap} {a:Addr} {o:Obj} (S:Stp Ω F s F1 s') (hn:s.heap.get? a=none) (hF:F1.get? a=none) (ho:s'.heap.get? a=some o):
  ∃F',Stp Ω F s F' s'/\ F'.get? a=some o/\ Sub F1 F':=by
 have hf:o.isFreed=false:=zba (by rw [<-zaN];exact ho)
 refine E13 (zkS F1 a o hF hf) λF' h1 h2 h3=>?_
 have nt:¬Ω.tab a:=S.ntF hn
 refine I13 F' ⟨⟨λb o' e=>?_,S.ok.base.trans h1,S.ok.os,S.ok.gens,S.ok.j,λb t=>?_⟩,S.f.trans h1,λb o' n e=>?_,S.t,S.h,S.g⟩ h2 h1
 ·by_cases hb:b=a
  ·subst hb;refine eqE (h2.symm.trans e) ?_;exact ho
  ·rw [h3 b hb] at e;exact S.ok.sub _ _ e
 ·refine za (h3 b λx=>nt (x▸t)) ?_;exact S.ok.zt b t
 ·have hb:b≠a:=by rintro rfl;exact zb (hn.symm.trans e)
  refine za (h3 b hb) ?_;exact S.new _ _ n e
end
inductive Tgt where
 |v (i:Nat)
 |t (ts:List Tgt)
inductive BI where
 |len|sum|hex|divmod|max|sorted|int
 deriving DecidableEq
inductive ME where
 |join|split|startswith|endswith|find|get|bitLength|count
 deriving DecidableEq
mutual
inductive PE where
 |c (d:PyData)
 |v (i:Nat)
 |bin (op:Operator) (a b:PE)
 |neg (a:PE)
 |inv (a:PE)
 |not (a:PE)
 |cmp (op:CmpOp) (a b:PE)
 |and (es:List PE)
 |or (es:List PE)
 |ite (t a b:PE)
 |lst (es:List PE)
 |tup (es:List PE)
 |idx (a i:PE)
 |sl (a:PE) (lo hi st:Option PE)
 |call (f:Nat) (es:List PE)
 |bi (b:BI) (es:List PE)
 |me (m:ME) (a:PE) (es:List PE)
 |comp (elt:PE) (gs:List Gn)
 |rng (es:List PE)
 |enm (e:PE)
 |zip (a b:PE)
 |rev (e:PE)
 |gen (e:PE)
inductive Gn where
 |mk (t:Tgt) (it:PE) (ifs:List PE)
end
inductive PS where
 |asg (t:Tgt) (e:PE)
 |asgM (i:Nat) (e:PE)
 |asgs (ts:List (Nat×Bool)) (es:List PE)
 |asgP (i j:Nat) (a b:PE)
 |aug (i:Nat) (op:Operator) (e:PE)
 |iff (t:PE) (a b:List PS)
 |for_ (t:Tgt) (it:PE) (b o:List PS)
 |ret (e:PE)
 |assert (t:PE)
 |brk
 |whl (t:PE) (b:List PS)
 |tryDiv (i j:Nat) (a b:PE) (f:Nat)
 |app (i:Nat) (e:PE)
 |ext (i:Nat) (e:PE)
 |revs (i:Nat)
 |del (i:Nat) (e:PE)
 |frz (i:Nat)
 |fail
inductive PV where
 |d (x:PyData)
 |m (xs:List PyData)
abbrev Rho:=List (Option PV)
inductive Fl where
 |next|brk|ret (d:PyData)
noncomputable def zo (a:Int):Nat:=Builtin.Int.intBits a
noncomputable def big:Nat:=1000000
noncomputable def zbE (x:Str):List PyData:=x.cps.toList.map λc=> .str ⟨#[c]⟩
def zbs:PyData ->Option (List PyData)
 | .list xs=>some xs
 | .tuple xs=>some xs
 | .str x=>some (zbE x)
 |_=>none
noncomputable def zJ:PyData ->Option Int
 | .int i=>some i
 |_=>none
noncomputable def zau:PyData ->Option Str
 | .str x=>some x
 |_=>none
noncomputable def za3:PyData ->Option (List PyData)
 | .list xs=>some xs
 |_=>none
def ze6 (a b:PyData) (f:Int ->Int ->Option PyData):Option PyData:=(zJ a).bind λi=>(zJ b).bind λj=>f i j
def zue:PyData ->PyData ->Option PyData
 | .int a,y=>(zJ y).bind λb=>some (.int (a+b))
 | .str x,y=>(zau y).bind λy=>if x.length+y.length<=big then some (.str (x++y)) else none
 | .list xs,y=>(za3 y).bind λys=>if xs.length+ys.length<=big then some (.list (xs++ys)) else none
 |_,_=>none
def zuf:PyData ->PyData ->Option PyData
 | .int a,y=>(zJ y).bind λb=>if zo a+zo b<=2^27 then some (.int (a*b)) else none
 | .str x,y=>(zJ y).bind λn=>if x.length*n.toNat<=big/\ -(big:Int)<=n/\ n<=big then some (.str (Txt.mul x n)) else none
 |_,_=>none
def zaZ:Operator ->PyData ->PyData ->Option PyData
 | .Add,x,y=>zue x y
 | .Sub,x,y=>ze6 x y λa b=>some (.int (a-b))
 | .Mult,x,y=>zuf x y
 | .FloorDiv,x,y=>ze6 x y λa b=>if b≠0/\ Builtin.divisionGoesByPylong a b=false then some (.int (a.fdiv b)) else none
 | .Mod,x,y=>ze6 x y λa b=>if b≠0 then some (.int (a.fmod b)) else none
 | .Pow,x,y=>ze6 x y λa n=>if 0<=n/\ (zo a:Int)*n<=2^27 then some (.int (a^n.toNat)) else none
 | .LShift,x,y=>ze6 x y λa n=>if 0<=n/\ (zo a:Int)+n<=2^27 then some (.int (a*2^n.toNat)) else none
 | .RShift,x,y=>ze6 x y λa n=>if 0<=n then some (.int (a.fdiv (2^n.toNat))) else none
 | .BitAnd,x,y=>ze6 x y λa b=>some (.int (Builtin.bitAnd a b))
 | .BitOr,x,y=>ze6 x y λa b=>some (.int (Builtin.bitOr a b))
 | .BitXor,x,y=>ze6 x y λa b=>some (.int (Builtin.bitXor a b))
 |_,_,_=>none
noncomputable def znt:PyData ->Bool
 | .none=>true
 | .bool _=>true
 |_=>false
def zpR (a b:PyData):Bool:=znt b&&(znt a|| (match a with| .int _=>true| .list _=>(match b with| .none=>true|_=>false)|_=>false))
noncomputable def zlF:PyData ->PyData ->Bool
 | .none,.none=>true
 | .bool a,.bool b=>a==b
 |_,_=>false
noncomputable def okD (d:PyData):Bool:=d.canLay0&&decide (d.depth<=64)
def inD (x:PyData):PyData ->Option Bool
 | .str y=>(zau x).map λx=>Txt.contains y x
 | .list ys=>if okD x&&okD (.list ys) then some (ys.any λy=>PyData.eqv y x) else none
 | .tuple ys=>if okD x&&okD (.tuple ys) then some (ys.any λy=>PyData.eqv y x) else none
 |_=>none
def eqO (a b:PyData):Option Bool:=if okD a&&okD b then some (PyData.eqv a b) else none
def eqD:PyData ->PyData ->Option Bool
 | .int a,y=>match y with
  | .int b=>some (a==b)
  |y=>eqO (.int a) y
 | .str a,y=>match y with
  | .str b=>some (a==b)
  |y=>eqO (.str a) y
 |a,b=>eqO a b
def ltD:PyData ->PyData ->Option Bool
 | .int a,y=>(zJ y).map λb=>decide (a<b)
 | .str a,y=>(zau y).map λb=>decide (a.cps.toList<b.cps.toList)
 |_,_=>none
def znu:CmpOp ->PyData ->PyData ->Option Bool
 | .Eq,a,b=>eqD a b
 | .NotEq,a,b=>(eqD a b).map (!·)
 | .Lt,a,b=>ltD a b
 | .LtE,x,y=>(zJ x).bind λa=>(zJ y).map λb=>decide (a<=b)
 | .Gt,x,y=>(zJ x).bind λa=>(zJ y).map λb=>decide (b<a)
 | .GtE,x,y=>(zJ x).bind λa=>(zJ y).map λb=>decide (b<=a)
 | .In,a,b=>inD a b
 | .NotIn,a,b=>(inD a b).map (!·)
 | .Is,a,b=>if zpR a b=true then some (zlF a b) else none
 | .IsNot,a,b=>if zpR a b=true then some (!zlF a b) else none
def zaI:PyData ->Option Bool
 | .none=>some false
 | .bool b=>some b
 | .int i=>some (i !=0)
 | .str x=>if x.length<=big then some (x.length !=0) else none
 | .list xs=>if xs.length<=big then some (!xs.isEmpty) else none
 | .tuple xs=>if xs.length<=big then some (!xs.isEmpty) else none
 |_=>none
noncomputable def zjv (xs:List PyData) (lo hi st:Option Int):List PyData:=
 (sliceRange (sliceBounds lo hi st xs.length).1 (sliceBounds lo hi st xs.length).2.1 (sliceBounds lo hi st xs.length).2.2).filterMap (xs[·]?)
def zbY:PyData ->Option Int ->Option Int ->Option Int ->Option PyData
 | .list xs,lo,hi,st=>if st≠some 0/\ xs.length<=big then some (.list (zjv xs lo hi st)) else none
 | .str x,lo,hi,st=>if st=none/\ x.length<=big then some (.str (Txt.slice x lo hi)) else none
 |_,_,_,_=>none
def zpS (xs:List PyData) (y:PyData):Option PyData:=(zJ y).bind λi=>if xs.length<=big then (seqIndex? i xs.length).bind (xs[·]?) else none
def zbf:PyData ->PyData ->Option PyData
 | .list xs,y=>zpS xs y
 | .tuple xs,y=>zpS xs y
 | .str x,y=>(zJ y).bind λi=>if x.length<=big/\ -(2^62)<=i/\ i<=2^62/\ (Txt.charAt x i).isSome then some (.str (Txt.item x i)) else none
 | .dict kvs,y=>(zJ y).bind λi=>zcU kvs i
 |_,_=>none
noncomputable def zdx:List PyData ->Int ->Option Int
 | [],a=>some a
 | .int i::r,a=>zdx r (a+i)
 |_,_=>none
noncomputable def zcj:List PyData ->Option (List Str)
 | []=>some []
 | .str x::r=>(zcj r).map (x:: ·)
 |_=>none
noncomputable def zd6:List PyData ->Option (List Int)
 | []=>some []
 | .int x::r=>(zd6 r).map (x:: ·)
 |_=>none
noncomputable def ziv (is:List Int):Int:=is.getD (argBest (λi j=>decide (is.getD i 0>is.getD j 0)) (is.length-1)) 0
noncomputable def ze7 (x:Int):List Int ->List Int
 | []=>[x]
 |y::r=>if x<=y then x::y::r else y::ze7 x r
noncomputable def zge:List Int ->List Int
 | []=>[]
 |x::r=>ze7 x (zge r)
noncomputable def zd7 (x:Str):List Str ->List Str
 | []=>[x]
 |y::r=>if y.cps.toList<x.cps.toList then y::zd7 x r else x::y::r
noncomputable def za4:List Str ->List Str
 | []=>[]
 |x::r=>zd7 x (za4 r)
noncomputable def zmy:List PyData ->Option PyData
 | [d]=>some d
 |_=>none
noncomputable def znv:List PyData ->Option (PyData×PyData)
 | [a,b]=>some (a,b)
 |_=>none
def zpT:PyData ->Option PyData
 | .list xs=>if xs.length<=big then some (.int xs.length) else none
 | .str x=>if x.length<=big then some (.int x.length) else none
 |_=>none
def zvJ:List PyData ->Option PyData
 | [d]=>(za3 d).bind λxs=>(zd6 xs).bind λis=>if 0<is.length then some (.int (ziv is)) else none
 | [a,b]=>ze6 a b λa b=>some (.int (if b>a then b else a))
 |_=>none
def zlG (xs:List PyData):Option PyData:=match zd6 xs with
 |some is=>some (.list ((zge is).map .int))
 |none=>(zcj xs).map λss=> .list ((za4 ss).map .str)
noncomputable def zug:PyData ->Option PyData
 | .bool b=>some (.int (if b then 1 else 0))
 |_=>none
def biD:BI ->List PyData ->Option PyData
 | .len,ds=>(zmy ds).bind zpT
 | .sum,ds=>(zmy ds).bind λd=>(za3 d).bind λxs=>if xs.length<=big then (zdx xs 0).map .int else none
 | .hex,ds=>(zmy ds).bind λd=>(zJ d).bind λi=>if (baseText "0x" 16 i).length<=big then some (.str (baseText "0x" 16 i)) else none
 | .divmod,ds=>(znv ds).bind λp=>ze6 p.1 p.2 λa b=>if b≠0/\ Builtin.divisionGoesByPylong a b=false then some (.tuple [.int (a.fdiv b),.int (a.fmod b)]) else none
 | .max,ds=>zvJ ds
 | .sorted,ds=>(zmy ds).bind λd=>(za3 d).bind λxs=>if xs.length<64 then zlG xs else none
 | .int,ds=>(zmy ds).bind zug
noncomputable def zbb:List Str ->Nat
 | []=>0
 |x::r=>x.length+zbb r
noncomputable def zhK (x y:Str) (i j:Int):Int:=match Builtin.Str.occurrences x y (fromIndex x.length i) (min (fromIndex x.length j) x.length) 1 with
 |k::_=>(k:Int)
 | []=> -1
def zmz (x y:PyData) (f:Str ->Str ->Option PyData):Option PyData:=(zau x).bind λx=>(zau y).bind λy=>f x y
def zuh (x:Str):PyData ->Option PyData
 | .list xs=>(zcj xs).bind λss=>if zbb ss+ss.length*(x.length+1)<=big then some (.str (Txt.join x ss)) else none
 | .str y=>if JoinOk x (PyProof.Rows.signs y)=true then some (.str (Txt.join x (PyProof.Rows.signs y))) else none
 |_=>none
def zrC (x y:PyData):Option PyData:=(zau x).bind λx=>zuh x y
def znw (x:PyData):Option PyData:=(zau x).bind λx=>if x.length<=big then some (.list ((Txt.words x).map .str)) else none
def zsb (x y:PyData):Option PyData:=zmz x y λx y=>if x.length<=big/\ y.length≠0 then some (.list ((Txt.split x y).map .str)) else none
def zrD (x y i j:PyData):Option PyData:=zmz x y λx y=>ze6 i j λi j=>some (.int (zhK x y i j))
def zui (x i d:PyData):Option PyData:=match x with
 | .dict kvs=>(zJ i).map λi=>(zcU kvs i).getD d
 |_=>none
def me0 (x:PyData):ME ->Option PyData
 | .split=>znw x
 | .bitLength=>(zJ x).map λi=> .int (zo i)
 |_=>none
def me1 (x y:PyData):ME ->Option PyData
 | .join=>zrC x y
 | .split=>zsb x y
 | .startswith=>zmz x y λx y=>some (.bool (Txt.startswith x y))
 | .endswith=>zmz x y λx y=>some (.bool (Txt.endswith x y))
 | .count=>zmz x y λx y=>some (.int (Txt.count x y))
 |_=>none
def me2 (x y z:PyData):ME ->Option PyData
 | .get=>zui x y z
 |_=>none
def me3 (x y i j:PyData):ME ->Option PyData
 | .find=>zrD x y i j
 |_=>none
def meD (m:ME) (x:PyData):List PyData ->Option PyData
 | []=>me0 x m
 | [a]=>me1 x a m
 | [a,b]=>me2 x a b m
 | [a,b,c]=>me3 x a b c m
 |_=>none
structure Sv where
 ex:Rho ->PE ->Option PyData
 call:Nat ->List PyData ->Option PyData
 blk:Rho ->List PS ->Option (Rho×Fl)
noncomputable def Sv.bot:Sv:=⟨λ_ _=>none,λ_ _=>none,λ_ _=>none⟩
noncomputable def exs (S:Sv) (ρ:Rho):List PE ->Option (List PyData)
 | []=>some []
 |e::r=>(S.ex ρ e).bind λd=>(exs S ρ r).map (d:: ·)
def pE {α:Type} (d:α) (e:PE) (v:Nat ->α:=λ_=>d) (ls:List PE ->α:=λ_=>d) (me:ME ->α:=λ_=>d) (cp:PE ->List Gn ->α:=λ_ _=>d) (rn:List PE ->α:=λ_=>d)
  (en:PE ->α:=λ_=>d) (zp:PE ->PE ->α:=λ_ _=>d) (rv:PE ->α:=λ_=>d) (gn:PE ->α:=λ_=>d):α:=
 @PE.casesOn (λ_=>α) e (λ_=>d) v (λ_ _ _=>d) (λ_=>d) (λ_=>d) (λ_=>d) (λ_ _ _=>d) (λ_=>d) (λ_=>d) (λ_ _ _=>d) ls (λ_=>d) (λ_ _=>d) (λ_ _ _ _=>d)
  (λ_ _=>d) (λ_ _=>d) (λm _ _=>me m) cp rn en zp rv gn
def pV {α:Type} (n:α) (o:Option (Option PV)) (f:PyData ->α) (g:List PyData ->α):α:=match o with
 |none=>n
 |some none=>n
 |some (some (.d x))=>f x
 |some (some (.m xs))=>g xs
noncomputable def rcv (S:Sv) (ρ:Rho) (e:PE):Option PyData:=pE (S.ex ρ e) e (v:=λi=>pV none ρ[i]? some λxs=>some (.list xs))
mutual
noncomputable def zaz:Tgt ->PyData ->Rho ->Option Rho
 | .v i,x,ρ=>some (ρ.set i (some (.d x)))
 | .t ts,x,ρ=>match x with
  | .tuple xs=>zck ts xs ρ
  | .list xs=>zck ts xs ρ
  |_=>none
noncomputable def zck:List Tgt ->List PyData ->Rho ->Option Rho
 | [],[],ρ=>some ρ
 |t::ts,x::xs,ρ=>(zaz t x ρ).bind λρ'=>zck ts xs ρ'
 |_,_,_=>none
end
def zbZ (S:Sv) (ρ:Rho) (e:PE):Option Bool:=(S.ex ρ e).bind zaI
def zgf (S:Sv) (ρ:Rho):List PE ->Option PyData
 | []=>none
 | [e]=>S.ex ρ e
 |e::r=>(S.ex ρ e).bind λd=>(zaI d).bind λb=>if b then zgf S ρ r else some d
def orD (S:Sv) (ρ:Rho):List PE ->Option PyData
 | []=>none
 | [e]=>S.ex ρ e
 |e::r=>(S.ex ρ e).bind λd=>(zaI d).bind λb=>if b then some d else orD S ρ r
def zuj:List PyData ->Option (List PyData)
 | [a]=>(zJ a).bind λn=>if -big<=n/\ n<=big then some ((List.range n.toNat).map λ(k:Nat)=> .int (k:Int)) else none
 | [a,b]=>(zJ a).bind λa=>(zJ b).bind λb=>if -big<=a/\ a<=big/\ -big<=b/\ b<=big then some ((List.range (b-a).toNat).map λ(k:Nat)=> .int (a+(k:Int))) else none
 |_=>none
noncomputable def zen:List PyData ->Nat ->List PyData
 | [],_=>[]
 |x::r,k=> .tuple [.int k,x]::zen r (k+1)
noncomputable def zgg:List PyData ->List PyData ->List PyData
 |x::r,y::t=> .tuple [x,y]::zgg r t
 |_,_=>[]
noncomputable def zkT:PyData ->PyData ->Option (List PyData×List PyData)
 | .list xs,.list ys=>some (xs,ys)
 |_,_=>none
noncomputable def zax:List Nat ->Nat ->Bool ->List PyData
 | [],pos,esc=>if esc then [.tuple [.int pos,.str ⟨#[92]⟩]] else []
 |c::r,pos,esc=>
  if esc then .tuple [.int pos,.str ⟨#[92,c]⟩]::escapedN r pos false
  else if c=92 then escapedN r pos true
  else .tuple [.int pos,.str ⟨#[c]⟩]::escapedN r pos false
where escapedN:List Nat ->Nat ->Bool ->List PyData
 | [],pos,esc=>if esc then [.tuple [.int pos,.str ⟨#[92]⟩]] else []
 |c::r,pos,esc=>
  if esc then .tuple [.int (pos+1),.str ⟨#[92,c]⟩]::escapedN r (pos+1) false
  else if c=92 then escapedN r (pos+1) true
  else .tuple [.int (pos+1),.str ⟨#[c]⟩]::escapedN r (pos+1) false
def znx:PyData ->Option (List PyData)
 | .str x=>if x.length<=big then some (zax x.cps.toList 0 false) else none
 |_=>none
def itD (S:Sv) (ρ:Rho) (e:PE):Option (List PyData):=
 pE ((S.ex ρ e).bind λd=>(zbs d).bind λxs=>if xs.length<=big then some xs else none) e (rn:=λes=>(exs S ρ es).bind zuj)
  (en:=λe=>(S.ex ρ e).bind λd=>(zbs d).bind λxs=>if xs.length<=big then some (zen xs 0) else none)
  (zp:=λa b=>(S.ex ρ a).bind λd=>(S.ex ρ b).bind λd'=>(zkT d d').bind λp=>if p.1.length<=big/\ p.2.length<=big then some (zgg p.1 p.2) else none)
  (rv:=λe=>(S.ex ρ e).bind λd=>match d with| .list xs=>if xs.length<=big then some xs.reverse else none|_=>none) (gn:=λe=>(S.ex ρ e).bind znx)
def zgh (S:Sv) (ρ:Rho):List PE ->Option Bool
 | []=>some true
 |e::r=>(zbZ S ρ e).bind λb=>if b then zgh S ρ r else some false
noncomputable def zmA {α β:Type} (f:α ->Option (List β)):List α ->Option (List β)
 | []=>some []
 |x::r=>(f x).bind λys=>(zmA f r).map (ys++ ·)
def zjw {β:Type} (S:Sv) (em:Rho ->Option β):List Gn ->Rho ->Option (List β)
 | [],ρ=>(em ρ).map λd=>[d]
 | .mk t it ifs::gs,ρ=>(itD S ρ it).bind λxs=>
  zmA (λx=>(zaz t x ρ).bind λρ'=>(zgh S ρ' ifs).bind λok=>if ok then zjw S em gs ρ' else some []) xs
mutual
noncomputable def zZ:Tgt ->List Nat
 | .v i=>[i]
 | .t ts=>zdy ts
noncomputable def zdy:List Tgt ->List Nat
 | []=>[]
 |t::ts=>zZ t++zdy ts
end
def zas:Gn ->List Nat
 | .mk t _ _=>zZ t
noncomputable def zai (is:List Nat) (ρ:Rho):Rho:=is.foldl (λr i=>r.set i none) ρ
def zc6 (S:Sv) (elt:PE) (gs:List Gn) (ρ:Rho):Option (List PyData):=zjw S (λρ'=>S.ex ρ' elt) gs (zai (gs.flatMap zas) ρ)
noncomputable def zgi (S:Sv) (ρ:Rho):Option PE ->Option (Option Int)
 |none=>some none
 |some e=>(S.ex ρ e).bind λd=>match d with| .int i=>some (some i)|_=>none
def zny (d:PyData):Option PyData:=match d with
 | .list xs=>if xs.length<=big then some d else none
 |d=>some d
def biX (S:Sv) (ρ:Rho):BI ->List PE ->Option PyData
 | .len,[a]=>(rcv S ρ a).bind λx=>biD .len [x]
 |b,es=>(exs S ρ es).bind λxs=>biD b xs
def zc7 (S:Sv) (ρ:Rho):PE ->Option PyData
 | .c d=>some d
 | .v i=>pV none ρ[i]? some λ_=>none
 | .bin op a b=>(S.ex ρ a).bind λx=>(S.ex ρ b).bind λy=>zaZ op x y
 | .neg a=>(S.ex ρ a).bind λx=>match x with| .int i=>some (.int (-i))|_=>none
 | .inv a=>(S.ex ρ a).bind λx=>match x with| .int i=>some (.int (Builtin.bitNot i))|_=>none
 | .not a=>(zbZ S ρ a).map λb=> .bool (!b)
 | .cmp op a b=>(rcv S ρ a).bind λx=>(S.ex ρ b).bind λy=>(znu op x y).map .bool
 | .and es=>zgf S ρ es
 | .or es=>orD S ρ es
 | .ite t a b=>(zbZ S ρ t).bind λc=>if c then S.ex ρ a else S.ex ρ b
 | .lst es=>(exs S ρ es).map .list
 | .tup es=>(exs S ρ es).map .tuple
 | .idx a i=>(rcv S ρ a).bind λx=>(S.ex ρ i).bind λy=>zbf x y
 | .sl a lo hi st=>(S.ex ρ a).bind λx=>(zgi S ρ lo).bind λl=>(zgi S ρ hi).bind λh=>(zgi S ρ st).bind λk=>zbY x l h k
 | .call f es=>(exs S ρ es).bind λxs=>S.call f xs
 | .bi b es=>biX S ρ b es
 | .me m a es=>(S.ex ρ a).bind λx=>(exs S ρ es).bind λxs=>meD m x xs
 | .comp elt gs=>((zc6 S elt gs ρ).map .list).bind zny
 | .rng _=>none
 | .enm _=>none
 | .zip _ _=>none
 | .rev _=>none
 | .gen _=>none
noncomputable def zbF (S:Sv) (t:Tgt) (b o:List PS):List PyData ->Rho ->Option (Rho×Fl)
 | [],ρ=>S.blk ρ o
 |x::xs,ρ=>(zaz t x ρ).bind λρ'=>(S.blk ρ' b).bind λr=>match r with
  | (ρ2,.next)=>zbF S t b o xs ρ2
  | (ρ2,.brk)=>some (ρ2,.next)
  | (ρ2,.ret d)=>some (ρ2,.ret d)
def zd8 (S:Sv) (t:PE) (b:List PS):Nat ->Rho ->Option (Rho×Fl)
 |0,_=>none
 |n+1,ρ=>(zbZ S ρ t).bind λc=>if c then (S.blk ρ b).bind λr=>match r with
  | (ρ2,.next)=>zd8 S t b n ρ2
  |_=>none
  else some (ρ,.next)
noncomputable def ziw:List (Nat×Bool) ->List PyData ->Rho ->Option Rho
 | [],ds,ρ=>match ds with
  | []=>some ρ
  |_=>none
 |p::ts,ds,ρ=>match ds with
  | []=>none
  |d::ds=>if p.2 then none else ziw ts ds (ρ.set p.1 (some (.d d)))
noncomputable def znz:Operator ->Bool
 | .Add| .Sub| .LShift| .RShift| .BitAnd| .BitOr| .BitXor=>true
 |_=>false
noncomputable def zcV (ρ:Rho) (i:Nat):Option (List PyData):=pV none ρ[i]? (λ_=>none) some
def zhL (ρ:Rho) (i:Nat):Option Int:=pV none ρ[i]? zJ λ_=>none
noncomputable def zf0 (ρ:Rho) (j:Nat):Bool:=match ρ[j]? with
 |some none=>true
 |_=>false
def zg (S:Sv) (ρ:Rho):PS ->Option (Rho×Fl)
 | .asg t e=>(S.ex ρ e).bind λd=>(zaz t d ρ).map λρ'=>(ρ',.next)
 | .asgM i e=>(S.ex ρ e).bind λd=>(za3 d).map λxs=>(ρ.set i (some (.m xs)),.next)
 | .asgs ts es=>(exs S ρ es).bind λds=>(ziw ts ds ρ).map λρ'=>(ρ',.next)
 | .asgP i j a b=>(S.ex ρ a).bind λd=>(S.ex ρ b).bind λd2=>(za3 d2).map λxs=>((ρ.set i (some (.d d))).set j (some (.m xs)),.next)
 | .aug i op e=>(zhL ρ i).bind λa=>(S.ex ρ e).bind λy=>(zJ y).bind λb=>if znz op then (zaZ op (.int a) (.int b)).map λd=>(ρ.set i (some (.d d)),.next) else none
 | .iff t a b=>(zbZ S ρ t).bind λc=>if c then S.blk ρ a else S.blk ρ b
 | .for_ t it b o=>(itD S ρ it).bind λxs=>zbF S t b o xs ρ
 | .ret e=>(S.ex ρ e).map λd=>(ρ,.ret d)
 | .assert t=>(zbZ S ρ t).bind λc=>if c then some (ρ,.next) else none
 | .brk=>some (ρ,.brk)
 | .whl t b=>zd8 S t b 6 ρ
 | .tryDiv i j a b f=>(S.ex ρ a).bind λx=>(zJ x).bind λ_=>(S.ex ρ b).bind λy=>(zJ y).bind λk=>
  if k=0 then (if zf0 ρ j then some (ρ.set i (some (.d (.str Str.empty))),.next) else none) else (S.ex ρ (.call f [a,b])).map λd=>(ρ.set i (some (.d d)),.next)
 | .fail=>none
 | .app i e=>(zcV ρ i).bind λxs=>(S.ex ρ e).bind λd=>if xs.length<=big then some (ρ.set i (some (.m (xs++[d]))),.next) else none
 | .ext i e=>(zcV ρ i).bind λxs=>(S.ex ρ e).bind λd=>(za3 d).bind λys=>if xs.length+ys.length<=big then some (ρ.set i (some (.m (xs++ys))),.next) else none
 | .revs i=>(zcV ρ i).bind λxs=>if xs.length<=big then some (ρ.set i (some (.m xs.reverse)),.next) else none
 | .del i e=>(zcV ρ i).bind λxs=>(S.ex ρ e).bind λd=>(zJ d).bind λk=>(seqIndex? k xs.length).bind λj=>if xs.length<=big then some (ρ.set i (some (.m (xs.eraseIdx j))),.next) else none
 | .frz i=>match zcV ρ i with
  |some xs=>some (ρ.set i (some (.d (.list xs))),.next)
  |none=>some (ρ,.next)
def zE (S:Sv):List PS ->Rho ->Option (Rho×Fl)
 | [],ρ=>some (ρ,.next)
 |st::r,ρ=>(zg S ρ st).bind λx=>match x with
  | (ρ2,.next)=>zE S r ρ2
  | (ρ2,f)=>some (ρ2,f)
inductive Fn where
 |code (np ns:Nat) (body:List PS)
 |prim (p:List PyData ->Option PyData)
noncomputable def zc8 (tbl:Nat ->Option Fn) (S:Sv) (f:Nat) (args:List PyData):Option PyData:=
 match tbl f with
 |some (.code np ns body)=>if args.length=np then
   match S.blk (args.map (λd=>some (.d d))++List.replicate ns none) body with
   |some (_,.ret d)=>some d
   |some (_,.next)=>some .none
   |_=>none
  else none
 |some (.prim p)=>p args
 |none=>none
def step (tbl:Nat ->Option Fn) (S:Sv):Sv:=⟨zc7 S,zc8 tbl S,λρ b=>zE S b ρ⟩
def run (tbl:Nat ->Option Fn):Nat ->Sv
 |0=> .bot
 |n+1=>step tbl (run tbl n)
section
variable {Ω:En} {A:Around} {Z:Heap} {s:Shared}
def Pst (Ω:En) (Z:Heap) (s:Shared) (d:PyData):Value ->Shared ->Prop:=
 λv s'=>∃Z',Stp Ω Z s Z' s'/\ Rep Z' v d
def zf:Value ->Shared ->Prop:=λu v=>False
theorem zB (h:Ok Ω Z s) {v d} (n:Nat) (r:Rep Z v d):Pst Ω Z s d v {s with toks:=n}:=zM Z (Stp.tok h n) r
theorem zA (h:Ok Ω Z s) {v d} (r:Rep Z v d):Pst Ω Z s d v s:=zM Z (Stp.refl h) r
theorem Sub.push (h:Heap) (o:Obj):Sub h (Heap.push h o):=λu v e=>Heap.get?_push_of_some o e
theorem zh (h:Heap):h.get? h.objs.size=none:=by
 rw [zaN];refine za (Array.getElem?_eq_none (Nat.le_refl _)) ?_;rfl
theorem zlH (h:Ok Ω Z s) {o:Obj} {n:Nat} {d:PyData} (hf:o.isFreed=false)
  (hr:∀F',Sub Z F' ->F'.get? s.heap.objs.size=some o ->Rep F' (.ref s.heap.objs.size) d):
  Pst Ω Z s d (.ref s.heap.objs.size) {s with heap:=s.heap.push o,toks:=n}:=by
 have S:Stp Ω Z s Z {s with heap:=s.heap.push o,toks:=n}:=Stp.grow h (Sub.push _ _)
 refine E13 (S.freezeNew (a:=s.heap.objs.size) (o:=o) (zh _) (h.sub.none (zh _)) (Heap.get?_push_size _ hf)) λF' S' e _=>?_
 exact zM F' S' (hr F' S'.f e)
theorem zeo (h:Ok Ω Z s) {vs:Array Value} {n:Nat} {xs:List PyData} (r:zC Z vs.toList xs):
  Pst Ω Z s (.list xs) (.ref s.heap.objs.size) {s with heap:=s.heap.push {cls:= .type "list",data:= .seq vs},toks:=n}:=
 zlH h rfl λF' f e=>zah.mpr (I33 _ vs 0 rfl e (r.mono f))
theorem zdT (h:Ok Ω Z s) {vs:Array Value} {n:Nat} {xs:List PyData} (r:zC Z vs.toList xs):
  Pst Ω Z s (.tuple xs) (.ref s.heap.objs.size) {s with heap:=s.heap.push {cls:= .type "tuple",data:= .seq vs},toks:=n}:=
 zlH h rfl λF' f e=>zbi.mpr (I33 _ vs 0 rfl e (r.mono f))
theorem zd9 {n:Nat} (h:n<=big):n<=sizeLine:=zv h (by decide)
structure Rm (A:Around) (n:Nat):Prop where
 handled:A.handled=none
 depth:A.depth+n<=900
 units:A.units+8*n<=8000
theorem zx {vs:Array Value} {xs:List PyData} (r:zC Z vs.toList xs):vs.size=xs.length:=by refine zF r.length ?_;rfl
theorem zaR {v:Value} {d:PyData} {i:Int} (h:zJ d=some i) (r:Rep Z v d):∃t,v= .int i t:=by
 cases d<;>first|exact zb h|skip
 refine eqE h ?_;exact zu.mp r
theorem zea {v:Value} {d:PyData} {i:Str} (h:zau d=some i) (r:Rep Z v d):∃t,v= .str i t:=by
 cases d<;>first|exact zb h|skip
 refine eqE h ?_;exact zU.mp r
@[elab_as_elim] theorem ze8 {P:Value ->Prop} {v:Value} {d:PyData} {i:Int} (h:zJ d=some i) (r:Rep Z v d) (k:∀t,P (.int i t)):P v:=by
 refine zO (zaR h r) λt e9=>?_;refine za e9 ?_;exact k t
@[elab_as_elim] theorem zjx {P:Value ->Prop} {v:Value} {d:PyData} {i:Str} (h:zau d=some i) (r:Rep Z v d) (k:∀t,P (.str i t)):P v:=by
 refine zO (zea h r) λt e9=>?_;refine za e9 ?_;exact k t
@[elab_as_elim] theorem zcr {P:Value ->Prop} {v:Value} {i:Int} (r:Rep Z v (.int i)) (k:∀t,P (.int i t)):P v:=ze8 rfl r k
@[elab_as_elim] theorem zb6 {P:Value ->Prop} {v:Value} {i:Str} (r:Rep Z v (.str i)) (k:∀t,P (.str i t)):P v:=zjx rfl r k
theorem zdz {d:PyData} {xs:List PyData} (h:za3 d=some xs):d= .list xs:=by
 cases d<;>first|exact zb h|skip
 refine eqE h ?_;rfl
theorem zc9 {ρ:Rho} {i:Nat} {xs:List PyData} (h:zcV ρ i=some xs):ρ[i]?=some (some (.m xs)):=by
 unfold zcV at h
 rcases e:ρ[i]? with _|_|x<;>rw [e] at h
 ·exact zb h
 ·exact zb h
 ·induction x with
  |d y=>exact zb h
  |m ys=>refine eqE h ?_;rfl
theorem znA {ρ:Rho} {i:Nat} {a:Int} (h:zhL ρ i=some a):ρ[i]?=some (some (.d (.int a))):=by
 unfold zhL at h
 rcases e:ρ[i]? with _|_|x<;>rw [e] at h
 ·exact zb h
 ·exact zb h
 ·induction x with
  |d y=>
   cases y<;>first|exact zb h|skip
   refine eqE h ?_;rfl
  |m ys=>exact zb h
theorem zcH {op:Operator} {va vb:Value} {a b d:PyData} {f:Int ->Int ->Option PyData} (ra:Rep Z va a) (rb:Rep Z vb b) (hd:ze6 a b f=some d)
  (k:∀i t j u,f i j=some d ->wpAny Ω.m A (binaryOp op (.int i t) (.int j u)) (Pst Ω Z s d) zf s):wpAny Ω.m A (binaryOp op va vb) (Pst Ω Z s d) zf s:=by
 refine zc hd λi hi hd=>zc hd λj hj hd=>?_
 refine ze8 hi ra λt=>?_
 refine ze8 hj rb λu=>?_
 exact k i t j u hd
theorem zsc (h:Ok Ω Z s) {va vb:Value} {a b d:PyData} (ra:Rep Z va a) (rb:Rep Z vb b) (hd:zue a b=some d):
  wpAny Ω.m A (binaryOp .Add va vb) (Pst Ω Z s d) zf s:=by
 induction a using PyData.casesOn with
 |int i=>
  refine zc hd λj hj e=>?_
  refine zcr ra λt=>?_
  refine ze8 hj rb λu=>?_
  refine eqE e ?_
  exact PyProof.Rows.add_int (zB h _ (zu.mpr ⟨_,rfl⟩))
 |str x=>
  refine zc hd λy hj e=>ifE e λhl e=>?_
  refine zb6 ra λt=>?_
  refine zjx hj rb λu=>?_
  refine eqE e ?_
  exact PyProof.Rows.add_str (λt' tk=>zB h _ (zU.mpr ⟨_,rfl⟩)) (zd9 hl)
 |list xs=>
  refine zc hd λys hj e=>ifE e λhl e=>?_
  replace rb:=(zdz hj)▸rb
  refine cps λG0 hG_0=>?_
  refine E33 (zah.mp ra) λa vs n e9 e1 r=>?_;obtain rfl:=e9.symm
  refine E33 (zah.mp rb) λa' vs' n' e9 e' r'=>?_;obtain rfl:=e9.symm
  refine hG_0 ?_
  refine eqE e ?_
  refine P.add_list (h.sub _ _ e1) (h.sub _ _ e') (zeo (vs:=vs++vs') (n:=s.toks) h (by refine za Array.toList_append ?_;exact r.append r')) ?_
  refine za (zx r) ?_;refine za (zx r') ?_;exact zd9 hl
 |_=>exact zb hd
theorem zpU (h:Ok Ω Z s) {i j:Int} {t u:Tok} (hb:zo i+zo j<=2^27):wpAny Ω.m A (binaryOp .Mult (.int i t) (.int j u)) (Pst Ω Z s (.int (i*j))) zf s:=by
 refine PyProof.Rows.mul_int (zB h _ (zu.mpr ⟨_,rfl⟩)) ?_
 intro hc
 simp only [Builtin.Int.intTooBig,bitsLine,Bool.and_eq_true,decide_eq_true_eq] at hc
 have h3:=of_decide_eq_true hc.2
 unfold zo at hb
 omega
theorem zpV (h:Ok Ω Z s) {x:Str} {n:Int} {t u:Tok} (hb1:x.length*n.toNat<=big) (hb2: -(big:Int)<=n) (hb3:n<=big):wpAny Ω.m A (binaryOp .Mult (.str x t) (.int n u)) (Pst Ω Z s (.str (Txt.mul x n))) zf s:=by
 refine SB.mul ?_ (λt' k=>zB h _ (zU.mpr ⟨_,rfl⟩))
 simp only [big] at hb1 hb2 hb3
 refine ⟨?_,λhn _=>?_,λhn _=>?_⟩
 ·rw [Bool.or_eq_false_iff,decide_eq_false_iff_not,decide_eq_false_iff_not];omega
 ·have hx:(x.length:Int)*n<=1000000:=by
   have:(n.toNat:Int)=n:=Int.toNat_of_nonneg (by omega)
   refine zF this ?_;rw [<-Int.natCast_mul];omega
  have:=Int.le_ediv_of_mul_le (a:=(x.length:Int)) (b:=(2^63-1:Int)) (c:=n) (by omega) (by omega)
  omega
 ·show decide (_>sizeLine)=false
  exact za sizeLine_eq (decide_eq_false (by omega))
theorem zpW (h:Ok Ω Z s) {va vb:Value} {a b d:PyData} (ra:Rep Z va a) (rb:Rep Z vb b) (hd:zuf a b=some d):wpAny Ω.m A (binaryOp .Mult va vb) (Pst Ω Z s d) zf s:=by
 induction a using PyData.casesOn with
 |int i=>exact zc hd λj hj hd=>ifE hd λhb e=>by refine eqE e ?_;exact zcr ra λt=>ze8 hj rb λu=>zpU h hb
 |str x=>exact zc hd λj hj hd=>ifE hd λhb e=>by refine eqE e ?_;exact zb6 ra λt=>ze8 hj rb λu=>zpV h hb.1 hb.2.1 hb.2.2
 |_=>exact zb hd
theorem zix {op:Operator} (hA:A.handled=none) (h:Ok Ω Z s) {va vb:Value} {a b d:PyData} (ra:Rep Z va a) (rb:Rep Z vb b) (hd:zaZ op a b=some d):
  wpAny Ω.m A (binaryOp op va vb) (Pst Ω Z s d) zf s:=by
 induction op with
 |Add=>exact zsc h ra rb hd
 |Sub=>exact zcH ra rb hd λi t j u e=>by refine eqE e ?_;exact PyProof.Rows.sub_int (zB h _ (zu.mpr ⟨_,rfl⟩))
 |Mult=>exact zpW h ra rb hd
 |FloorDiv=>exact zcH ra rb hd λi t j u e=>ifE e λhb e=>by refine eqE e ?_;exact PyProof.Rows.floordiv_int hb.1 (zB h _ (zu.mpr ⟨_,rfl⟩)) (.inl hb.2)
 |Mod=>exact zcH ra rb hd λi t j u e=>ifE e λhb e=>by refine eqE e ?_;exact PyProof.Rows.mod_int' hb (zB h _ (zu.mpr ⟨_,rfl⟩))
 |Pow=>exact zcH ra rb hd λi t j u e=>ifE e λhb e=>by refine eqE e ?_;exact PyProof.Rows.pow_int hb.1 hb.2 (zB h _ (zu.mpr ⟨_,rfl⟩))
 |LShift=>exact zcH ra rb hd λi t j u e=>ifE e λhb e=>by refine eqE e ?_;exact PyProof.Rows.lshift_int_or hA (λhn=>absurd hb.1 (Int.not_le.mpr hn)) (λv=>hb.2) (λv=>zB h _ (zu.mpr ⟨_,rfl⟩))
 |RShift=>exact zcH ra rb hd λi t j u e=>ifE e λhb e=>by refine eqE e ?_;exact PyProof.Rows.rshift_int hb (zB h _ (zu.mpr ⟨_,rfl⟩))
 |BitAnd=>exact zcH ra rb hd λi t j u e=>by refine eqE e ?_;exact PyProof.Rows.and_int (zB h _ (zu.mpr ⟨_,rfl⟩))
 |BitOr=>exact zcH ra rb hd λi t j u e=>by refine eqE e ?_;exact PyProof.Rows.or_int (zB h _ (zu.mpr ⟨_,rfl⟩))
 |BitXor=>exact zcH ra rb hd λi t j u e=>by refine eqE e ?_;exact PyProof.Rows.xor_int (zB h _ (zu.mpr ⟨_,rfl⟩))
 |_=>exact zb hd
mutual
theorem zcs:∀{d:PyData} {v:Value},d.canLay0=true ->Rep Z v d ->∃as,Reads Z v d as
 | .none,_,_,r=>by subst r;exact ⟨_,.none⟩
 | .bool _,_,_,r=>by subst r;exact ⟨_,.bool _⟩
 | .int _,_,_,r=>by refine zcr r λt=>?_;exact ⟨_,.int _ _⟩
 | .str _,_,_,r=>by refine zb6 r λt=>?_;exact ⟨_,.str _ _⟩
 | .list xs,_,hc,r=>by
  refine E33 r λa vs n e9 e r=>?_;refine za e9 ?_
  obtain (⟨as,h⟩):=zcI (ds:=xs) (by simpa [PyData.canLay0] using hc) r
  exact ⟨_,.list e rfl rfl h⟩
 | .tuple xs,_,hc,r=>by
  refine E33 r λa vs n e9 e r=>?_;refine za e9 ?_
  obtain (⟨as,h⟩):=zcI (ds:=xs) (by simpa [PyData.canLay0] using hc) r
  exact ⟨_,.tuple e rfl rfl h⟩
 | .dict _,_,hc,_=>by exact Bool.noConfusion hc
theorem zcI:∀{ds:List PyData} {vs:List Value},PyData.canLayAll0 ds=true ->zC Z vs ds ->∃as,ReadsAll Z vs ds as
 | [],_,_,r=>by refine za r ?_;exact ⟨_,.nil⟩
 |d::ds,_,hc,r=>by
  refine cps λG0 hG_0=>?_
  refine E23 r λv vs' e9 a b=>?_
  clear r;obtain rfl:=e9.symm
  have hc':d.canLay0=true/\ PyData.canLayAll0 ds=true:=by simpa [PyData.canLayAll0] using hc
  refine zO (zcs hc'.1 a) λas x=>?_
  refine zO (zcI hc'.2 b) λbs y=>?_
  refine hG_0 ?_
  exact ⟨_,.cons x y⟩
end
def zbg (Z h:Heap) (v:Value) (d:PyData):Prop:=
 Rep Z v d \/ ∃a vs n xs,d= .list xs/\ v= .ref a/\ h.get? a=some {cls:= .type "list",data:= .seq vs n}/\ zC Z vs.toList xs
theorem zbg.mono {Z Z' h h':Heap} {v d} (f:Sub Z Z') (g:∀b o,NoF o ->h.get? b=some o ->h'.get? b=some o) (r:zbg Z h v d):zbg Z' h' v d:=by
 refine Or.elim r (λr=>?_) λh9=>?_
 ·exact .inl (r.mono f)
 ·refine E44 h9 λa vs n xs e90 e91 e r=>?_
  clear h9;refine za e90 ?_;refine za e91 ?_
  exact .inr (I44 a vs n xs rfl rfl (g _ _ zak e) (r.mono f))
theorem zbg.list {h:Heap} (g:Sub Z h) {v xs} (r:zbg Z h v (.list xs)):∃a vs n,v= .ref a/\ h.get? a=some {cls:= .type "list",data:= .seq vs n}/\ zC Z vs.toList xs:=by
 refine Or.elim r (λr=>?_) λh9=>?_
 ·refine E33 r λa vs n e9 e r=>?_;refine za e9 ?_;exact I33 a vs n rfl (g _ _ e) r
 ·refine E44 h9 λa vs n xs e0 e90 e r=>?_
  clear h9;refine zF e90.symm ?_
  cases e0;exact I33 a vs n rfl e r
theorem zbg.other {h:Heap} {v d} (r:zbg Z h v d) (hd:∀xs,d≠ .list xs):Rep Z v d:=by
 refine Or.elim r (λr=>?_) λh9=>?_
 ·exact r
 ·refine E44 h9 λa vs n xs e90 e91 e r=>?_
  clear h9;obtain rfl:=e90.symm;refine za e91.symm ?_
  exact absurd rfl (hd _)
theorem zbg.reads {h:Heap} (g:Sub Z h) {v d} (hc:d.canLay0=true) (r:zbg Z h v d):∃as,Reads h v d as:=by
 rcases r with r| ⟨a,vs,n,xs,rfl,rfl,e,r⟩
 ·refine zO (zcs hc r) λas x=>?_
  exact ⟨as,Reads.keeps g x⟩
 ·refine zO (zcI (by simpa [PyData.canLay0] using hc) r) λas x=>?_
  exact ⟨_,.list e rfl rfl (ReadsAll.keeps g x)⟩
theorem zcJ {d:PyData} (h:okD d=true):SeqAt.shaped d=true:=h
theorem zaP {d:PyData} (h:okD d=true):d.canLay0=true:=(Bool.and_eq_true_iff.mp h).1
theorem zhM {d:PyData} (h:okD d=true):d.depth<=64:=of_decide_eq_true (Bool.and_eq_true_iff.mp h).2
theorem zbg.int {h:Heap} {v:Value} {d:PyData} {i:Int} (e:zJ d=some i) (r:zbg Z h v d):∃t,v= .int i t:=zaR e (r.other (by rintro xs rfl;exact zb e))
theorem zbg.str {h:Heap} {v:Value} {d:PyData} {i:Str} (e:zau d=some i) (r:zbg Z h v d):∃t,v= .str i t:=zea e (r.other (by rintro xs rfl;exact zb e))
def EqW (Ω:En) (A:Around) (Z:Heap) (s:Shared) (o1 o2:CmpOp) (va vb:Value) (r:Bool):Prop:=
 wpAny Ω.m A (compareOp o1 va vb) (Pst Ω Z s (.bool r)) zf s/\ wpAny Ω.m A (compareOp o2 va vb) (Pst Ω Z s (.bool (!r))) zf s
theorem zsd (h:Ok Ω Z s) (hu:A.units<=8000) {va vb:Value} {a b:PyData} {r:Bool} (ra:zbg Z s.heap va a) (rb:Rep Z vb b) (hd:eqO a b=some r):EqW Ω A Z s .Eq .NotEq va vb r:=
 ifE hd λhc e=>zaH hc λc1 c2=>by
  refine eqE e ?_
  refine zO (ra.reads h.sub (zaP c1)) λas x=>?_
  refine zO (zcs (zaP c2) rb) λbs y=>?_
  have hu':A.units+64<cLine:=Nat.lt_of_le_of_lt (Nat.add_le_add_right hu 64) (by decide)
  exact ⟨PyProof.Rows.eq_dataH x (Reads.keeps h.sub y) (zcJ c1) (zcJ c2) hu' (zA h (zH.mpr rfl)),
   PyProof.Rows.ne_dataH x (Reads.keeps h.sub y) (zcJ c1) (zcJ c2) hu' (zA h (zH.mpr rfl))⟩
theorem zrE (h:Ok Ω Z s) (hu:A.units<=8000) {va vb:Value} {a b:PyData} {r:Bool} (ra:zbg Z s.heap va a) (rb:Rep Z vb b) (hd:eqD a b=some r):EqW Ω A Z s .Eq .NotEq va vb r:=by
 have go:=λhd=>zsd (Ω:=Ω) h hu ra rb (r:=r) hd
 induction a using PyData.casesOn with
 |int i=>
  induction b using PyData.casesOn with
  |int j=>
   refine zO (ra.int rfl) λt e9=>?_;refine za e9 ?_
   refine zcr rb λu=>?_
   refine eqE hd ?_
   exact ⟨PyProof.Rows.eq_int (zA h (zH.mpr rfl)),PyProof.Rows.ne_int (zA h (zH.mpr rfl))⟩
  |_=>exact go hd
 |str i=>
  induction b using PyData.casesOn with
  |str j=>
   refine zO (ra.str rfl) λt e9=>?_;refine za e9 ?_
   refine zb6 rb λu=>?_
   refine eqE hd ?_
   exact ⟨PyProof.Rows.eq_str (zA h (zH.mpr rfl)),PyProof.Rows.ne_str (zA h (zH.mpr rfl))⟩
  |_=>exact go hd
 |_=>exact go hd
theorem zjy (hu:A.units<=8000) {a:PyData} (h1:a.depth<=64) (n:Nat):A.units+1+min n (PyData.depth a)<cLine:=
 Nat.lt_of_le_of_lt (Nat.add_le_add (Nat.add_le_add_right hu 1) (zv (Nat.min_le_right _ _) h1)) (by decide)
theorem zrF (h:Ok Ω Z s) (hu:A.units<=8000) {va vb:Value} {a b:PyData} {r:Bool} (ra:zbg Z s.heap va a) (rb:Rep Z vb b) (hd:inD a b=some r):EqW Ω A Z s .In .NotIn va vb r:=by
 induction b using PyData.casesOn with
 |str y=>
  refine zP hd λx hx e=>?_
  refine zO (ra.str hx) λt e9=>?_;refine za e9 ?_
  refine zb6 rb λu=>?_
  exact zF e ⟨SB.contains (zA h (zH.mpr rfl)),SB.notContains (zA h (zH.mpr rfl))⟩
 |list ys=>
  refine ifE hd λhc e=>zaH hc λc1 c2=>?_
  refine eqE e ?_
  obtain (⟨as,x⟩):=ra.reads h.sub (zaP c1)
  obtain (⟨bs,y⟩):=zcs (zaP c2) rb
  have hu':=zjy hu (zhM c1)
  exact ⟨SeqAt.in_list_reads (Reads.keeps h.sub y) x (zaP c2) (zaP c1) (hu' _) (zA h (zH.mpr rfl)),
   SeqAt.notIn_list_reads (Reads.keeps h.sub y) x (zaP c2) (zaP c1) (hu' _) (zA h (zH.mpr rfl))⟩
 |tuple ys=>
  refine ifE hd λhc e=>zaH hc λc1 c2=>?_
  refine eqE e ?_
  obtain (⟨as,x⟩):=ra.reads h.sub (zaP c1)
  obtain (⟨bs,y⟩):=zcs (zaP c2) rb
  have hu':=zjy hu (zhM c1)
  exact ⟨SeqAt.in_tuple_reads (Reads.keeps h.sub y) x (zaP c2) (zaP c1) (hu' _) (zA h (zH.mpr rfl)),
   SeqAt.notIn_tuple_reads (Reads.keeps h.sub y) x (zaP c2) (zaP c1) (hu' _) (zA h (zH.mpr rfl))⟩
 |_=>exact zb hd
theorem ziy {Z:Heap} {v d} (hl:znt d=true) (r:Rep Z v d):(d= .none/\ v= .none) \/ ∃b,d= .bool b/\ v= .bool b:=by
 induction d using PyData.casesOn with
 |none=>exact .inl ⟨rfl,r⟩
 |bool b=>exact .inr (zM b rfl r)
 |_=>cases hl
theorem zse (h:Ok Ω Z s) {va vb:Value} {a b:PyData} (ra:zbg Z s.heap va a) (rb:Rep Z vb b) (hd:zpR a b=true):plainIs va vb=true/\ (va==vb)=zlF a b:=by
 refine zaH hd λhb ha=>?_
 rw [Bool.or_eq_true] at ha
 refine Or.elim (ziy hb rb) (λh9=>?_) λh9=>?_
 ·refine zR h9 λe90 e91=>?_
  clear h9;obtain rfl:=e90.symm;obtain rfl:=e91.symm
  rcases ha with ha|ha
  ·replace ra:=ra.other (by intro xs h9;obtain rfl:=h9;cases ha)
   rcases ziy ha ra with ⟨rfl,rfl⟩| ⟨x,rfl,rfl⟩<;>exact ⟨rfl,rfl⟩
  ·cases a<;>first|exact Bool.noConfusion ha|skip
   ·refine zO (ra.int rfl) λt q1=>?_
    obtain rfl:=q1
    exact ⟨rfl,rfl⟩
   ·refine E33 (ra.list h.sub) λa vs n e9 _ _=>?_;refine za e9 ?_
    exact ⟨rfl,rfl⟩
 ·refine zm h9 λy e9 q2=>?_
  clear h9
  obtain rfl:=q2;obtain rfl:=e9.symm
  rcases ha with ha|ha
  ·replace ra:=ra.other (by intro xs h9;obtain rfl:=h9;cases ha)
   rcases ziy ha ra with ⟨rfl,rfl⟩| ⟨x,rfl,rfl⟩
   ·exact ⟨rfl,rfl⟩
   ·exact ⟨rfl,by induction x<;>induction y<;>rfl⟩
  ·cases a<;>first|exact Bool.noConfusion ha|skip
   refine zO (ra.int rfl) λt q3=>?_
   obtain rfl:=q3
   exact ⟨rfl,rfl⟩
theorem zrG (h:Ok Ω Z s) {va vb:Value} {a b:PyData} (ra:zbg Z s.heap va a) (rb:Rep Z vb b) (hd:zpR a b=true):EqW Ω A Z s .Is .IsNot va vb (zlF a b):=
 have key:=zse h ra rb hd
 ⟨wpAny_is_plain key.1 (key.2▸zA h (zH.mpr rfl)),wpAny_isNot_plain key.1 (key.2▸zA h (zH.mpr rfl))⟩
theorem zf1 {op:CmpOp} {va vb:Value} {a b:PyData} {f:Int ->Int ->Bool} {r:Bool} (ra:zbg Z s.heap va a) (rb:Rep Z vb b) (hd:((zJ a).bind λi=>(zJ b).map λj=>f i j)=some r)
  (k:∀i t j u,wpAny Ω.m A (compareOp op (.int i t) (.int j u)) (Pst Ω Z s (.bool (f i j))) zf s):wpAny Ω.m A (compareOp op va vb) (Pst Ω Z s (.bool r)) zf s:=by
 refine zc hd λi hi hd=>zP hd λj hj e=>?_
 refine zO (ra.int hi) λt e9=>?_;refine za e9 ?_
 refine ze8 hj rb λu=>?_
 exact zF e (k i t j u)
theorem zgj {o:Option Bool} {r:Bool} (h:o.map (!·)=some r):∃x,o=some x/\ r= !x:=zP h λx hx e=>zM x hx e.symm
theorem znB {op:CmpOp} (h:Ok Ω Z s) (hu:A.units<=8000) {va vb:Value} {a b:PyData} {r:Bool} (ra:zbg Z s.heap va a) (rb:Rep Z vb b) (hd:znu op a b=some r):
  wpAny Ω.m A (compareOp op va vb) (Pst Ω Z s (.bool r)) zf s:=by
 induction op with
 |Eq=>exact (zrE h hu ra rb hd).1
 |NotEq=>refine zm (zgj hd) λx hx e9=>?_;refine za e9 ?_;exact (zrE h hu ra rb hx).2
 |Lt=>
  induction a using PyData.casesOn with
  |int i=>exact zf1 (a:= .int i) (f:=λa b=>decide (a<b)) ra rb hd λi t j u=>PyProof.Rows.lt_int (zA h (zH.mpr rfl))
  |str x=>
   refine zP hd λy hy e=>?_
   refine zO (ra.str rfl) λt e9=>?_;refine za e9 ?_
   refine zjx hy rb λu=>?_
   exact zF e (PyProof.Rows.lt_str (zA h (zH.mpr rfl)))
  |_=>exact zb hd
 |LtE=>exact zf1 (f:=λa b=>decide (a<=b)) ra rb hd λi t j u=>PyProof.Rows.le_int (zA h (zH.mpr rfl))
 |Gt=>exact zf1 (f:=λa b=>decide (b<a)) ra rb hd λi t j u=>PyProof.Rows.gt_int (zA h (zH.mpr rfl))
 |GtE=>exact zf1 (f:=λa b=>decide (b<=a)) ra rb hd λi t j u=>PyProof.Rows.ge_int (zA h (zH.mpr rfl))
 |In=>exact (zrF h hu ra rb hd).1
 |NotIn=>refine zm (zgj hd) λx hx e9=>?_;refine za e9 ?_;exact (zrF h hu ra rb hx).2
 |Is=>exact ifE hd λhc e=>by refine eqE e ?_;exact (zrG h ra rb hc).1
 |IsNot=>exact ifE hd λhc e=>by refine eqE e ?_;exact (zrG h ra rb hc).2
def za9 (Ω:En) (Z:Heap) (s:Shared) (b:Bool):Bool ->Shared ->Prop:=
 λc s'=>c=b/\ ∃Z',Stp Ω Z s Z' s'
theorem zfw {vs:Array Value} {xs:List PyData} (r:zC Z vs.toList xs):vs.isEmpty=xs.isEmpty:=by
 have:=zx r
 rw [Bool.eq_iff_iff,Array.isEmpty_iff_size_eq_zero,List.isEmpty_iff_length_eq_zero]
 exact za this Iff.rfl
theorem zep (h:Ok Ω Z s) {v:Value} {d:PyData} {b:Bool} (r:zbg Z s.heap v d) (hd:zaI d=some b):
  wpAny Ω.m A (truthy v) (za9 Ω Z s b) zf s:=by
 induction d using PyData.casesOn with
 |none=>
  replace r:=r.other (by intro _ h;cases h)
  subst r;refine eqE hd ?_
  exact PyProof.Rows.truthy_none ⟨rfl,Z,Stp.refl h⟩
 |bool c=>
  replace r:=r.other (by intro _ h;cases h)
  subst r;refine eqE hd ?_
  exact wpAny_truthy_bool ⟨rfl,Z,Stp.refl h⟩
 |int i=>
  replace r:=r.other (by intro _ h;cases h)
  refine zcr r λt=>?_;refine eqE hd ?_
  exact PyProof.Rows.truthy_int ⟨rfl,Z,Stp.refl h⟩
 |str x=>
  replace r:=r.other (by intro _ h;cases h)
  refine zb6 r λt=>?_
  refine ifE hd λhb hd=>?_
  refine eqE hd ?_
  simp only [big] at hb
  refine P.truthy_str (by lia) ⟨?_,Z,Stp.tok h _⟩
  rw [Bool.eq_iff_iff,bne_iff_ne,bne_iff_ne];simp
 |list xs=>
  refine E33 (r.list h.sub) λa vs n e9 e r=>?_;refine za e9 ?_
  refine ifE hd λhb hd=>?_
  refine eqE hd ?_
  simp only [big] at hb
  have hz:=zx r
  refine wpAny_truthy_list ⟨_,e,rfl,n,rfl⟩ (by refine za hz ?_;lia) ⟨?_,Z,Stp.tok h _⟩
  exact za (zfw r) rfl
 |tuple xs=>
  replace r:=r.other (by intro _ h;cases h)
  refine E33 r λa vs n e9 e r=>?_;refine za e9 ?_
  refine ifE hd λhb hd=>?_
  refine eqE hd ?_
  simp only [big] at hb
  have hz:=zx r
  refine PyProof.Rows.truthy_tuple ⟨_,h.sub _ _ e,rfl,n,rfl⟩ (by refine za hz ?_;lia) ⟨?_,Z,Stp.tok h _⟩
  exact za (zfw r) rfl
 |_=>exact zb hd
theorem zeq {i:Int} {n k:Nat} (h:seqIndex? i n=some k):k<n/\ (0<=i ->k=i.toNat)/\ (i<0 ->k=(i+n).toNat/\ -(n:Int)<=i):=by
 unfold seqIndex? at h
 dsimp only at h
 by_cases hi:i<0
 ·simp only [hi,if_true] at h
  split at h
  ·rename_i hc
   rw [Bool.and_eq_true,decide_eq_true_eq,decide_eq_true_eq] at hc
   refine eqE h ⟨(Int.toNat_lt hc.1).mpr hc.2,λh=>absurd hi (Int.not_lt.mpr h),λ_=>⟨rfl,by omega⟩⟩
  ·exact zb h
 ·simp only [hi,if_false] at h
  split at h
  ·rename_i hc
   rw [Bool.and_eq_true,decide_eq_true_eq,decide_eq_true_eq] at hc
   refine eqE h ⟨(Int.toNat_lt hc.1).mpr hc.2,λ_=>rfl,λh=>absurd h hi⟩
  ·exact zb h
theorem zgk {i:Int} {n k:Nat} (h:seqIndex? i n=some k) (hb:n<=1000000): -2^63<=i/\ i<2^63:=by
 refine E03 (zeq h) λh1 h2 h3=>?_
 refine Or.elim (Int.lt_or_le i 0) (λhi=>?_) λhi=>?_
 ·lia
 ·lia
theorem znC (h:Ok Ω Z s) {v vi:Value} {xs:List PyData} {di x:PyData} (r:zbg Z s.heap v (.list xs)) (ri:Rep Z vi di) (hd:zpS xs di=some x):
  wpAny Ω.m A (getItem v vi) (Pst Ω Z s x) zf s:=by
 refine zc hd λi hi hd=>ifE hd λhb hd=>zc hd λk hk hx=>?_
 refine cps λG0 hG_0=>?_
 obtain (⟨t,rfl⟩):=zaR hi ri
 obtain (⟨a,vs,n,rfl,e,r⟩):=r.list h.sub
 refine zm (r.get hx) λy hy ry=>?_
 refine E03 (zeq hk) λh1 h2 h3=>?_
 refine zR (zgk hk hb) λf1 f2=>?_
 refine hG_0 ?_
 rcases Int.lt_or_le i 0 with hi|hi
 ·have hk':=h3 hi
  have q:=hk'.2
  rw [<-zx r] at q
  refine wpAny_getItem_list_neg ⟨_,e,rfl,n,rfl⟩ hi q f1 (x:=y) ?_ (zA h ry)
  refine zF Array.getElem?_toList ?_;refine za (zx r) ?_;refine zF hk'.1 ?_;exact hy
 ·refine wpAny_getItem_list ⟨_,e,rfl,n,rfl⟩ hi f2 (x:=y) ?_ (zA h ry)
  refine zF Array.getElem?_toList ?_;refine zF (h2 hi) ?_;exact hy
theorem zpX (h:Ok Ω Z s) {v vi:Value} {xs:List PyData} {di x:PyData} (r:Rep Z v (.tuple xs)) (ri:Rep Z vi di) (hd:zpS xs di=some x):
  wpAny Ω.m A (getItem v vi) (Pst Ω Z s x) zf s:=by
 refine zc hd λi hi hd=>ifE hd λhb hd=>zc hd λk hk hx=>?_
 refine cps λG0 hG_0=>?_
 obtain (⟨t,rfl⟩):=zaR hi ri
 obtain (⟨a,vs,n,rfl,e,r⟩):=zbi.mp r
 refine zm (r.get hx) λy hy ry=>?_
 refine zR (zgk hk hb) λf1 f2=>?_
 refine hG_0 ?_
 exact P.getItem_tuple (h.sub _ _ e) f1 f2 (k:=k) (y:=y) (by refine za (zx r) ?_;exact hk) (by refine zF Array.getElem?_toList ?_;exact hy) (zA h ry)
theorem zjz {v:Value} {d:PyData} (f:zgd v d):Rep Z v d:=by
 cases d<;>first|exact f.elim|skip
 ·exact zu.mpr f
 ·exact zU.mpr f
theorem zsf (h:Ok Ω Z s) {v vi:Value} {d di x:PyData} (r:zbg Z s.heap v d) (ri:Rep Z vi di) (hd:zbf d di=some x):
  wpAny Ω.m A (getItem v vi) (Pst Ω Z s x) zf s:=by
 induction d using PyData.casesOn with
 |list xs=>exact znC h r ri hd
 |tuple xs=>exact zpX h (r.other nofun) ri hd
 |str y=>
  refine zc hd λi hi hd=>ifE hd λhb hd=>?_
  refine ze8 hi ri λu=>?_
  refine zO (r.str rfl) λt e9=>?_;refine za e9 ?_
  refine eqE hd ?_
  refine SB.getItem ?_ hb.2.2.2 (zB h _ (zU.mpr ⟨_,rfl⟩))
  unfold fitsSsize
  rw [Bool.not_eq_true',Bool.or_eq_false_iff,decide_eq_false_iff_not,decide_eq_false_iff_not];lia
 |dict kvs=>
  refine zc hd λi hi hd=>?_
  refine cps λG0 hG_0=>?_
  obtain (⟨u,rfl⟩):=zaR hi ri
  obtain ⟨a,e9,hsys,f,hm,hf⟩:=zc4.mp (r.other nofun);obtain rfl:=e9.symm
  have hk:=hf i
  rw [hd] at hk
  refine zm hk λy hy fl=>?_
  clear hk
  refine hG_0 ?_
  exact wpAny_getItem_intMap (Heap.MapOf.intMap (prog:=Ω.prog) (w:=Ω.w) (E32 (hm Ω.prog Ω.w) λo es ep ho q=>(I32 o es ep (h.sub _ _ ho) q))) hy (zB h _ (zjz fl))
 |_=>exact zb hd
theorem zgl {ns:List Nat} {vs:Array Value} {xs:List PyData} (r:zC Z vs.toList xs):zC Z (ns.filterMap (vs[·]?)) (ns.filterMap (xs[·]?)):=by
 induction ns with
 |nil=>exact .nil
 |cons k ns ih=>
  refine za List.filterMap_cons (za List.filterMap_cons ?_)
  induction hx:xs[k]? with
  |none=>
   have:vs[k]?=none:=by
    have hz:=zx r
    rw [List.getElem?_eq_none_iff] at hx
    exact Array.getElem?_eq_none (by lia)
   refine za this ?_;exact ih
  |some d=>
   refine zm (r.get hx) λv hv rv=>?_
   rw [Array.getElem?_toList] at hv
   exact za hv (.cons rv ih)
theorem zmB {vs:Array Value} {xs:List PyData} (r:zC Z vs.toList xs) (lo hi st:Option Int):zC Z (slicePick vs lo hi st).toList (zjv xs lo hi st):=by
 unfold slicePick zjv
 exact za (zx r) (zgl r)
theorem zct {v:Value} {k:Option Int} (h:IsPart v k):∃p:Option (Int×Tok),v=partValue p/\ p.map (·.1)=k:=by
 induction h with
 |none=>exact zM none rfl rfl
 |int i t=>exact zM (some (i,t)) rfl rfl
theorem ziz (h:Ok Ω Z s) {v:Value} {x':Str} {sl:Addr} {vl vu:Value} {lo hi:Option Int} (r:Rep Z v (.str x')) (hc:x'.length<=big)
  (hs:s.heap.IsSliceOf sl vl vu .none) (pl:IsPart vl lo) (pu:IsPart vu hi):
  wpAny Ω.m A (getItem v (.ref sl)) (Pst Ω Z s (.str (Txt.slice x' lo hi))) zf s:=by
 refine zb6 r λt=>?_
 refine cps λG0 hG_0=>?_
 refine zm (zct pl) λp e9 hp=>?_;subst e9
 refine zm (zct pu) λq e9 hq=>?_;obtain rfl:=e9.symm
 refine hG_0 ?_
 refine wpAny_getItem_str_slice (l:=p) (u:=q) (st:=none) hs rfl ?_
 have e:Txt.slice x' lo hi=if ((1:Int)==1&&(slicePicked x' p q none).length==x'.length)=true then x' else ⟨((slicePicked x' p q none).filterMap (x'.cps[·]?)).toArray⟩:=by
  unfold Txt.slice slicePicked
  refine za hp ?_;refine za hq ?_;rfl
 have hle:=Txt.slice_le x' lo hi
 unfold sliceMade
 rw [e] at hle |-
 by_cases hc':((1:Int)==1&&(slicePicked x' p q none).length==x'.length)=true
 ·rw [if_pos hc'] at hle |-
  exact za (if_pos (show (((none:Option (Int×Tok)).map (·.1)).getD 1==1&&(slicePicked x' p q none).length==x'.length)=true from hc')) (zA h (zU.mpr ⟨_,rfl⟩))
 ·rw [if_neg hc'] at hle |-
  exact za (if_neg (show ¬(((none:Option (Int×Tok)).map (·.1)).getD 1==1&&(slicePicked x' p q none).length==x'.length)=true from hc')) ⟨zd9 (zv hle hc),zB h _ (zU.mpr ⟨_,rfl⟩)⟩
theorem znD (h:Ok Ω Z s) {v:Value} {d x:PyData} {sl:Addr} {vl vu vs:Value} {lo hi st:Option Int} (r:Rep Z v d)
  (hs:s.heap.IsSliceOf sl vl vu vs) (pl:IsPart vl lo) (pu:IsPart vu hi) (ps:IsPart vs st) (hd:zbY d lo hi st=some x):
  wpAny Ω.m A (getItem v (.ref sl)) (Pst Ω Z s x) zf s:=by
 induction d using PyData.casesOn with
 |list xs=>
  refine ifE hd λhc e=>?_
  refine eqE e ?_
  refine E33 (zah.mp r) λa items n e9 e r=>?_;refine za e9 ?_
  refine wpAny_getItem_list_slice ⟨_,h.sub _ _ e,rfl,n,rfl⟩ hs pl pu ps hc.1 (zeo (n:=s.toks) h (zmB r lo hi _)) ?_
  refine za (zx r) ?_;exact zd9 hc.2
 |str y=>exact ifE hd λhc e=>by refine eqE e ?_;cases hc.1;cases ps;exact ziz h r hc.2 hs pl pu
 |_=>exact zb hd
end
theorem zdA:∀{xs:List PyData} {is:List Int},zd6 xs=some is ->xs=is.map .int
 | [],_,h=>by refine eqE h ?_;rfl
 |d::r,is,h=>by
  cases d<;>first| (exact zb h)|skip
  exact zP h λjs h1 h2=>by refine zF h2 ?_;refine za (zdA h1) ?_;rfl
theorem ze9:∀{xs:List PyData} {ss:List Str},zcj xs=some ss ->xs=ss.map .str
 | [],_,h=>by refine eqE h ?_;rfl
 |d::r,is,h=>by
  cases d<;>first|exact zb h|skip
  refine zP h λjs h1 h2=>?_
  refine zF h2 ?_;refine za (ze9 h1) ?_;rfl
section
variable {Ω:En} {A:Around} {Z:Heap} {s:Shared}
theorem zcl:∀{is:List Int} {vs:List Value},zC Z vs (is.map .int) ->∃xs:List (Int×Tok),vs=xs.map (λp=> .int p.1 p.2)/\ xs.map (·.1)=is
 | [],_,r=>zM [] (zaL.mp r) rfl
 |i::is,_,r=>by
  refine E23 (zG.mp r) λv vs' e9 a b=>?_;refine za e9 ?_
  refine zO (zu.mp a) λt e9=>?_;refine za e9 ?_
  refine zm (zcl b) λxs e9 h=>?_;refine za e9 ?_
  exact zM ((i,t)::xs) rfl (by refine za List.map_cons ?_;exact za h rfl)
theorem zer (h:Ok Ω Z s) {h':Heap} {n:Nat} {v:Value} {d:PyData} (k:Sub s.heap h') (r:Rep Z v d):Pst Ω Z s d v {s with heap:=h',toks:=n}:=
 (zM Z (Stp.grow h k) r)
set_option tactic.hygienic true in
theorem zgm:∀(xs:List PyData) (a r:Int),zdx xs a=some r ->∃is:List Int,xs=is.map .int/\ r=a+is.sum
 | [],a,r,h=>by refine eqE h ?_;exact zM [] rfl ((Int.add_zero _).symm)
 |d::t,a,r,h=>by
  cases d<;>first|exact zb h|skip
  rename_i i
  refine zm (zgm t (a+i) r h) λis e9 h2=>?_;refine za e9 ?_
  exact zM (i::is) rfl (by refine za h2 ?_;refine za List.sum_cons ?_;rw [Int.add_assoc])
theorem zgn (is:List Int):∀n,n<=is.length ->preSum (λj=>is.getD j 0) n=(is.take n).sum
 |0,_=>by simp [preSum]
 |n+1,h=>by
  rw [preSum]
  refine za (zgn is n (by lia)) (za List.take_add_one ?_)
  refine za (List.getElem?_eq_getElem (by lia)) ?_
  refine za List.sum_append ?_
  simp [List.getD,List.getElem?_eq_getElem (show n<is.length by lia)]
theorem zgo {xs:List (Int×Tok)} (j:Nat):numAt xs.toArray j=(xs.map (·.1)).getD j 0:=by
 unfold numAt
 simp [List.getD]
theorem znE (h:Ok Ω Z s) {v:Value} {d x:PyData} (r:zbg Z s.heap v d) (hd:zpT d=some x):
  wpAny Ω.m A (call (.builtin "len") [v]) (Pst Ω Z s x) zf s:=by
 have hbig:∀{n:Nat},n<=big ->(n:Int)<2^63:=λh=>Int.lt_of_le_of_lt (Int.ofNat_le.mpr h) (by decide)
 induction d using PyData.casesOn with
 |str y=>
  refine ifE hd λhb e=>?_
  refine eqE e ?_
  refine zO (r.str rfl) λt e9=>?_;refine za e9 ?_
  exact P.len_str (Int.not_le.mpr (hbig hb)) (zB h _ (zu.mpr ⟨_,rfl⟩))
 |list xs=>
  refine ifE hd λhb e=>?_
  refine eqE e ?_
  refine cps λG0 hG_0=>?_
  obtain (⟨a,vs,n,rfl,e,r⟩):=r.list h.sub
  refine hG_0 ?_
  refine Calls.call_len_list ⟨_,e,rfl,n,rfl⟩ (by refine za (zx r) ?_;exact hbig hb) ?_
  refine za (zx r) ?_;exact zB h _ (zu.mpr ⟨_,rfl⟩)
 |_=>exact zb hd
end
theorem zjA {x y:Int} {r:List Int}:ze7 x (y::r)=if x<=y then x::y::r else y::ze7 x r:=rfl
theorem zfx (x:Int) (l:List Int):(ze7 x l).Perm (x::l):=by
 induction l with
 |nil=>exact .refl _
 |cons y r ih=>
  refine za zjA ?_
  by_cases h:x<=y
  ·exact za (if_pos h) (.refl _)
  ·exact za (if_neg h) ((ih.cons y).trans (List.Perm.swap x y r))
theorem zfy:∀l:List Int,(zge l).Perm l
 | []=> .refl _
 |x::r=>(zfx x _).trans ((zfy r).cons x)
theorem zhA (x:Int) (l:List Int) (h:l.Pairwise (· <= ·)):(ze7 x l).Pairwise (· <= ·):=by
 induction l with
 |nil=>exact List.pairwise_singleton ..
 |cons y r ih=>
  refine za zjA ?_
  have h':=List.pairwise_cons.mp h
  by_cases hxy:x<=y
  ·exact za (if_pos hxy) (List.pairwise_cons.mpr ⟨λz hz=>(List.mem_cons.mp hz).elim (λe=>za e hxy) λhz=>Int.le_trans hxy (h'.1 z hz),h⟩)
  ·exact za (if_neg hxy) (List.pairwise_cons.mpr ⟨λz hz=>(List.mem_cons.mp ((zfx x r).mem_iff.mp hz)).elim (λe=>za e (Int.le_of_lt (Int.not_le.mp hxy))) (h'.1 z),ih h'.2⟩)
theorem zdU:∀l:List Int,(zge l).Pairwise (· <= ·)
 | []=> .nil
 |x::r=>zhA x _ (zdU r)
theorem zhB {l l':List Int} (hp:l'.Perm l) (hs:l'.Pairwise (· <= ·)):l'=zge l:=
 List.Perm.eq_of_pairwise (λa b _ _ h1 h2=>Int.le_antisymm h1 h2) hs (zdU l) (hp.trans (zfy l).symm)
def leS (x y:Str):Prop:=x.cps.toList<=y.cps.toList
theorem zhN {x y z:Str} (a:leS x y) (b:leS y z):leS x z:=List.le_trans a b
theorem ziA {x y:Str} (a:leS x y) (b:leS y x):x=y:=by
 have:=List.le_antisymm a b
 cases x;cases y
 exact congrArg Str.mk (Array.toList_inj.mp this)
theorem znF {x y:Str} {r:List Str}:zd7 x (y::r)=if y.cps.toList<x.cps.toList then y::zd7 x r else x::y::r:=rfl
theorem zhO (x:Str) (l:List Str):(zd7 x l).Perm (x::l):=by
 induction l with
 |nil=>exact .refl _
 |cons y r ih=>
  refine za znF ?_
  by_cases h:y.cps.toList<x.cps.toList
  ·exact za (if_pos h) ((ih.cons y).trans (List.Perm.swap x y r))
  ·exact za (if_neg h) (.refl _)
theorem zfz:∀l:List Str,(za4 l).Perm l
 | []=> .refl _
 |x::r=>(zhO x _).trans ((zfz r).cons x)
theorem zjB (x:Str) (l:List Str) (h:l.Pairwise leS):(zd7 x l).Pairwise leS:=by
 induction l with
 |nil=>exact List.pairwise_singleton ..
 |cons y r ih=>
  refine za znF ?_
  have h':=List.pairwise_cons.mp h
  by_cases hxy:y.cps.toList<x.cps.toList
  ·refine za (if_pos hxy) (List.pairwise_cons.mpr ⟨λz hz=>(List.mem_cons.mp ((zhO x r).mem_iff.mp hz)).elim (λe=>?_) (h'.1 z),ih h'.2⟩)
   exact (List.le_total (z.cps.toList) (y.cps.toList)).elim (λk=>absurd (e▸hxy) (List.not_lt.mpr (e▸k))) id
  ·have hxy':leS x y:=List.not_lt.mp hxy
   exact za (if_neg hxy) (List.pairwise_cons.mpr ⟨λz hz=>(List.mem_cons.mp hz).elim (λe=>za e hxy') λhz=>zhN hxy' (h'.1 z hz),h⟩)
theorem zdV:∀l:List Str,(za4 l).Pairwise leS
 | []=> .nil
 |x::r=>zjB x _ (zdV r)
theorem zcu:∀(p:Str) (l:List Str),risingS p l=true ->(p::l).Pairwise leS
 |p,[],_=>List.pairwise_singleton ..
 |p,x::r,h=>by
  have h':(!Spec.ltCps x.cps.toList p.cps.toList&&risingS x r)=true:=h
  rw [Bool.and_eq_true,Bool.not_eq_true',ltCps_eq,decide_eq_false_iff_not] at h'
  have hpx:leS p x:=List.not_lt.mp h'.1
  have ih:=zcu x r h'.2
  exact List.pairwise_cons.mpr ⟨λz hz=>(List.mem_cons.mp hz).elim (λe=>by refine za e ?_;exact hpx) λhz=>zhN hpx ((List.pairwise_cons.mp ih).1 z hz),ih⟩
theorem zhC {l l':List Str} (hp:l'.Perm l) (hs:sortedS l'=true):l'=za4 l:=by
 refine List.Perm.eq_of_pairwise (λa b _ _ h1 h2=>ziA h1 h2) ?_ (zdV l) (hp.trans (zfz l).symm)
 cases l' with
 |nil=>exact .nil
 |cons x r=>exact zcu x r hs
section
variable {Ω:En} {A:Around} {Z:Heap} {s:Shared}
theorem zmC {is:List Int} {vs:List Value} (r:zC Z vs (is.map .int)):IntsAre vs is:=by
 induction is generalizing vs with
 |nil=>refine za (zaL.mp r) ?_;exact .nil
 |cons i is ih=>
  refine E23 (zG.mp r) λv vs' e9 a b=>za e9 (zcr a λt=>?_)
  exact .cons _ _ (ih b)
theorem zhP {vs:List Value} {is:List Int} (h:IntsAre vs is):zC Z vs (is.map .int):=by
 induction h with
 |nil=>exact .nil
 |cons n t _ ih=>exact .cons (zu.mpr ⟨_,rfl⟩) ih
theorem zhQ:∀{is:List Str} {vs:List Value},zC Z vs (is.map .str) ->StrsAre vs is
 | [],_,r=>by refine za (zaL.mp r) ?_;exact .nil
 |i::is,_,r=>by
  refine E23 (zG.mp r) λv vs' e9 a b=>?_;refine za e9 ?_
  refine zb6 a λt=>?_
  exact .cons _ _ (zhQ b)
theorem zmD {vs:List Value} {is:List Str} (h:StrsAre vs is):zC Z vs (is.map .str):=by
 induction h with
 |nil=>exact .nil
 |cons n t _ ih=>exact .cons (zU.mpr ⟨_,rfl⟩) ih
theorem znG (h:Ok Ω Z s) {h':Heap} {a:Addr} {o:Obj} {n:Nat} {d:PyData} (k:Sub s.heap h') (hn:s.heap.get? a=none) (ho:h'.get? a=some o)
  (hr:∀F',Sub Z F' ->F'.get? a=some o ->Rep F' (.ref a) d):Pst Ω Z s d (.ref a) {s with heap:=h',toks:=n}:=by
 have S:Stp Ω Z s Z {s with heap:=h',toks:=n}:=Stp.grow h k
 refine E13 (S.freezeNew (a:=a) (o:=o) hn (h.sub.none hn) ho) λF' S' e _=>?_
 exact zM F' S' (hr F' S'.f e)
set_option tactic.hygienic true in
theorem zpY (h:Ok Ω Z s) {xs:List PyData} {v:Value} {x:PyData} (r1:Rep Z v (.list xs)) (hl:xs.length<64) (hd:zlG xs=some x):wpAny Ω.m A (call (.builtin "sorted") [v]) (Pst Ω Z s x) zf s:=by
 refine cps λG0 hG_0=>?_
 obtain (⟨a,its,n,e9,e,r2⟩):=zah.mp r1;obtain rfl:=e9.symm
 refine hG_0 ?_
 have hsz:its.toList.length=xs.length:=r2.length
 have hn:s.heap.get? (s.heap.objs.size+1)=none:=by rw [zaN];refine za (Array.getElem?_eq_none (Nat.le_succ _)) ?_;rfl
 unfold zlG at hd
 cases his:zd6 xs with
 |some is=>
  rw [his] at hd
  refine eqE hd ?_
  rw [zdA his] at r2
  refine sorted_ints (vs:=its.toList) ⟨_,h.sub _ _ e,rfl,n,rfl⟩ (zmC r2) (by refine za hsz ?_;exact hl) λout ns' a1 a2 a3=>?_
  refine zO (sortedAll_at s.heap its.toList out) λe' he'=>?_
  refine znG (n:=s.toks) h (λ_ _=>sortedAll_old) hn he' λF' f hF=>zah.mpr (I33 _ out e' rfl hF ?_)
  refine zF (zhB a2 a3) ?_;exact zhP a1
 |none=>
  rw [his] at hd
  refine zP hd λss hss e1=>zF e1 ?_
  rw [ze9 hss] at r2
  refine sorted_strs (vs:=its.toList) ⟨_,h.sub _ _ e,rfl,n,rfl⟩ (zhQ r2) (by refine za hsz ?_;exact hl) λout ns' a1 a2 a3=>?_
  refine zO (sortedAll_at s.heap its.toList out) λe' he'=>?_
  refine znG (n:=s.toks) h (λ_ _=>sortedAll_old) hn he' λF' f hF=>zah.mpr (I33 _ out e' rfl hF ?_)
  refine zF (zhC a2 a3) ?_;exact zmD a1
theorem zsg (h:Ok Ω Z s) (hA:A.handled=none) {is:List Int} {v:Value} (r1:Rep Z v (.list (is.map .int))) (hpos:0<is.length):wpAny Ω.m A (call (.builtin "max") [v]) (Pst Ω Z s (.int (ziv is))) zf s:=by
 refine cps λG0 hG_0=>?_
 obtain (⟨a,its,n,e9,e,r2⟩):=zah.mp r1;obtain rfl:=e9.symm
 refine zm (zcl r2) λxs hx e9=>?_;subst e9
 refine hG_0 ?_
 have hits:its=intItems xs.toArray:=Array.toList_inj.mp (by refine za hx ?_;simp [intItems])
 subst hits
 refine max_intList (xs:=xs.toArray) hA ⟨_,h.sub _ _ e,rfl,n,rfl⟩ (by simpa using hpos) λv h' tk hv k=>zer h k ?_
 refine zO (intItems_at hv) λt e9=>?_;refine za e9 ?_
 refine zu.mpr ⟨t,?_⟩
 refine za (funext zgo:numAt xs.toArray=λj=>(xs.map (·.1)).getD j 0) ?_
 unfold ziv
 simp only [List.size_toArray,List.length_map]
end
noncomputable def zgp:ME ->String
 | .join=>"str.join" | .split=>"str.split" | .startswith=>"str.startswith" | .endswith=>"str.endswith" | .find=>"str.find" | .count=>"str.count" |_=>""
def zmE:ME ->PyData ->Option (String×String)
 | .get,d=>match d with
  | .dict _=>some ("dict","dict.get")
  |_=>none
 | .bitLength,d=>(zJ d).map λ_=>("int","int.bit_length")
 |m,d=>(zau d).map λ_=>("str",zgp m)
noncomputable def ziB:ME ->Str
 | .join=>"join" | .split=>"split" | .startswith=>"startswith" | .endswith=>"endswith" | .find=>"find"
 | .get=>"get" | .bitLength=>"bit_length" | .count=>"count"
theorem zeb {m:ME} {d:PyData} {x:Str} (h:zau d=some x):∃T id,((zau d).map λ_=>("str",zgp m))=some (T,id):=I21 _ _ (by refine za h ?_;rfl)
theorem znH {m:ME} {d:PyData} {ds:List PyData} {x:PyData} (h:meD m d ds=some x):∃T id,zmE m d=some (T,id):=by
 match ds,h with
 | [],h=>
  induction m<;>first|exact zb h|skip
  ·exact zc h λy hy u=>zeb hy
  ·exact zP h λi hi u=>I21 "int" "int.bit_length" (by show ((zJ d).map λu=>("int","int.bit_length"))=_;refine za hi ?_;rfl)
 | [a],h=>
  induction m<;>first|exact zb h|exact zc h λy hy u=>zeb hy
 | [a,b],h=>
  induction m<;>first|exact zb h|skip
  cases d<;>first|exact zb h|exact I21 _ _ rfl
 | [a,b,c],h=>
  induction m<;>first|exact zb h|exact zc h λy hy u=>zeb hy
 |_::_::_::_::_,h=>exact zb h
section
variable {Ω:En} {A:Around} {Z:Heap} {s:Shared}
def zuk (Ω:En) (s:Shared) (m:ME) (v:Value) (T id:String):Prop:=
 PlainAttrs T/\ Slot T (ziB m) id/\ typeOf (.builtin id)=pure (.type "method_descriptor")/\ s.TypeIs v T/\ (∀a,v= .ref a ->∃ob,s.heap.get? a=some ob/\ ob.dict=none)
theorem zcv (Ω:En) {m:ME} {d:PyData} {v:Value} {T id:String} (r:Rep Z v d) (hi:((zau d).map λu=>("str",zgp m))=some (T,id)) (h1:Slot "str" (ziB m) (zgp m)) (h2:typeOf (.builtin (zgp m))=pure (.type "method_descriptor")):
  zuk Ω s m v T id:=by
 refine zP hi λx hx e=>?_
 cases e
 refine zjx hx r λt=>?_
 exact I05 F.plainAttrs_str h1 h2 (typeIs_str _ _ _) nofun
theorem zlI (Ω:En) (h:Ok Ω Z s) {m:ME} {d:PyData} {v:Value} {T id:String} (r:Rep Z v d) (hi:zmE m d=some (T,id)):zuk Ω s m v T id:=by
 induction m with
 |join=>exact zcv Ω r hi F.slot_str_join F.type_str_join
 |split=>exact zcv Ω r hi F.slot_str_split F.type_str_split
 |startswith=>exact zcv Ω r hi F.slot_str_startswith F.type_str_startswith
 |endswith=>exact zcv Ω r hi F.slot_str_endswith F.type_str_endswith
 |find=>exact zcv Ω r hi F.slot_str_find F.type_str_find
 |count=>exact zcv Ω r hi F.slot_str_count F.type_str_count
 |get=>
  cases d with
  |dict kvs=>
   refine zay hi ?_
   refine cps λG0 hG_0=>?_
   obtain ⟨a,rfl,hsys,f,hm,_⟩:=zc4.mp r
   refine E33 (hm Ω.prog Ω.w) λo es ep ho hx q=>?_
   refine hG_0 ?_
   exact I05 F.plainAttrs_dict F.slot_dict_get F.type_dict_get (zM _ (h.sub _ _ ho) hx.1) (λu q=>by cases q;exact zM _ (h.sub _ _ ho) hx.2.1)
  |_=>exact zb hi
 |bitLength=>
  refine zP hi λx hx e=>?_
  cases e
  refine ze8 hx r λt=>?_
  exact I05 F.plainAttrs_int F.slot_int_bit_length F.type_int_bit_length (typeIs_int _ _ _) nofun
def zes (Ω:En) (Z:Heap) (s:Shared) (xs:List PyData):Value ->Shared ->Prop:=
 λv s'=>∃Z' a vs n,Stp Ω Z s Z' s'/\ v= .ref a/\ s.heap.get? a=none/\ Z'.get? a=none/\ s'.heap.get? a=some {cls:= .type "list",data:= .seq vs n}/\ zC Z' vs.toList xs
theorem zes.pst {xs:List PyData} {v:Value} {s':Shared} (x:zes Ω Z s xs v s'):Pst Ω Z s (.list xs) v s':=by
 refine cps λG0 hG_0=>?_
 refine E46 x λZ' a vs n S e9 h1 h2 h3 r=>?_
 clear x;obtain rfl:=e9.symm
 refine E13 (S.freezeNew h1 h2 h3) λF' S' e f=>?_
 refine hG_0 ?_
 exact zM F' S' (zah.mpr (I33 a vs n rfl e (r.mono f)))
theorem zbP (h:Ok Ω Z s) {vs:Array Value} {n:Nat} {xs:List PyData} (r:zC Z vs.toList xs):
  zes Ω Z s xs (.ref s.heap.objs.size) {s with heap:=s.heap.push {cls:= .type "list",data:= .seq vs},toks:=n}:=
 (I46 Z _ vs 0 (Stp.grow h (Sub.push _ _)) rfl (zh _) (h.sub.none (zh _)) (Heap.get?_push_size _ rfl) r)
theorem zaO:∀(l:List (Str×Tok)),zC Z (strValues l) ((l.map (·.1)).map .str)
 | []=> .nil
 | (x,t)::r=> .cons (zU.mpr ⟨t,rfl⟩) (zaO r)
theorem zhR (h:Ok Ω Z s) {x y:Str} {t u:Tok} (hx:x.length<=big) (hy:y.length≠0):
  wpAny Ω.m A (call (.builtin "str.split") [.str x t,.str y u]) (zes Ω Z s ((Txt.split x y).map .str)) zf s:=by
 have hy':(y.length==0)=false:=by simpa using hy
 cases h1:(decide (x.length<y.length)||decide (Builtin.Str.strKind x<Builtin.Str.strKind y))
 ·cases hf:(Builtin.Str.occurrences x y 0 x.length (x.length+1)).isEmpty
  ·have e0:Txt.split x y=Builtin.Str.partsBetween x (Builtin.Str.occurrences x y 0 x.length (x.length+1)) y.length:=
    (if_neg (ne_true_of_eq_false h1)).trans (if_neg (ne_true_of_eq_false hf))
   have hn:(Builtin.Str.partsBetween x (Builtin.Str.occurrences x y 0 x.length (x.length+1)) y.length).length<=sizeLine:=by
    have:=split_le x y
    rw [e0] at this
    refine zv this ?_
    simp only [big] at hx
    refine za sizeLine_eq ?_;lia
   refine call_meets F.slot_str_split (typeIs_str _ _ _) F.entry_str_split (F.args_str_split_2 _ _) (meets_str_split_sep x y t u h1 hy' hf (zd9 hx) hn) ?_
   rw [strsFrom_eq]
   have e:=(numbered_texts s.toks (Builtin.Str.partsBetween x (Builtin.Str.occurrences x y 0 x.length (x.length+1)) y.length)).trans e0.symm
   refine zbP h ?_
   have:=zaO (Z:=Z) (numbered s.toks (Builtin.Str.partsBetween x (Builtin.Str.occurrences x y 0 x.length (x.length+1)) y.length))
   rw [e] at this
   exact this
  ·refine call_meets F.slot_str_split (typeIs_str _ _ _) F.entry_str_split (F.args_str_split_2 _ _) (meets_str_split_not_found x y t u h1 hy' hf) ?_
   have e:Txt.split x y=[x]:=(if_neg (ne_true_of_eq_false h1)).trans (if_pos hf)
   exact za e (zbP (n:=s.toks) h (zaO (Z:=Z) [(x,t)]))
 ·refine call_meets F.slot_str_split (typeIs_str _ _ _) F.entry_str_split (F.args_str_split_2 _ _) (meets_str_split_cannot_occur x y t u h1) ?_
  exact za (show Txt.split x y=[x] from if_pos h1) (zbP (n:=s.toks) h (zaO (Z:=Z) [(x,t)]))
theorem zhS (h:Ok Ω Z s) {x:Str} {t:Tok} (hx:x.length<=big):
  wpAny Ω.m A (call (.builtin "str.split") [.str x t]) (zes Ω Z s ((Txt.words x).map .str)) zf s:=by
 have hn:(Builtin.Str.spaceWords x (x.length+1)).length<=sizeLine:=by
  have:=StrLaws.words_weight x
  unfold Txt.words at this
  simp only [big] at hx
  refine za sizeLine_eq ?_
  by_cases hw:(Builtin.Str.spaceWords x (x.length+1)==[(0,x.length)])=true
  ·refine za (beq_iff_eq.mp hw) ?_;simp
  ·rw [if_neg hw] at this
   unfold PySem.wordsOf at this
   simp only [List.length_map] at this
   lia
 refine call_meets F.slot_str_split (typeIs_str _ _ _) F.entry_str_split (F.args_str_split_1 _) (meets_str_split_space x t (zd9 hx) hn) ?_
 cases hw:Builtin.Str.spaceWords x (x.length+1)==[(0,x.length)]
 ·rw [strsFrom_eq]
  have e:=(numbered_texts s.toks (PySem.wordsOf x)).trans (show Txt.words x=PySem.wordsOf x from if_neg (ne_true_of_eq_false hw)).symm
  refine zbP h ?_
  have:=zaO (Z:=Z) (numbered s.toks (PySem.wordsOf x))
  rw [e] at this
  exact this
 ·exact za (show Txt.words x=[x] from if_pos hw) (zbP (n:=s.toks) h (zaO (Z:=Z) [(x,t)]))
theorem zjC (x y:Str) (i j:Int) (t u v z:Tok):Gives (Builtin.«str.find» ⟨[.str x t,.str y u,.int i v,.int j z],[]⟩) (.int (zhK x y i j)):=by
 unfold zhK
 show Gives (match Builtin.Str.occurrences x y (fromIndex x.length i) (min (fromIndex x.length j) x.length) 1 with|k::_=>retInt k| []=>(do rule "str.find.not-found";retInt (-1))) _
 induction (Builtin.Str.occurrences x y (fromIndex x.length i) (min (fromIndex x.length j) x.length) 1) with
 |nil=>exact .rule (.of_eq rfl)
 |cons k _=>exact .of_eq rfl
theorem zet:∀{ss:List Str} {vs:List Value},zC Z vs (ss.map .str) ->∃l:List (Str×Tok),vs=strValues l/\ l.map (·.1)=ss
 | [],_,r=>zM [] (zaL.mp r) rfl
 |i::is,_,r=>by
  refine E23 (zG.mp r) λv vs' e9 a b=>?_;refine za e9 ?_
  refine zO (zU.mp a) λt e9=>?_;refine za e9 ?_
  refine zm (zet b) λxs e9 h=>?_;refine za e9 ?_
  exact zM ((i,t)::xs) rfl (by refine za List.map_cons ?_;exact za h rfl)
theorem zpZ (h:Ok Ω Z s) {sep:Str} {t:Tok} {v:Value} {xs:List PyData} {ss:List Str} (r:Rep Z v (.list xs)) (hs:zcj xs=some ss)
  (hb:zbb ss+ss.length*(sep.length+1)<=big):
  wpAny Ω.m A (call (.builtin "str.join") [.str sep t,v]) (Pst Ω Z s (.str (Txt.join sep ss))) zf s:=by
 rw [ze9 hs] at r
 refine E33 r λa vs n e9 e r=>?_;refine za e9 ?_
 refine zm (zet r) λl hl e9=>?_;obtain rfl:=e9.symm
 have hvs:vs=(strValues l).toArray:=by exact zF hl rfl
 subst hvs
 have hsum:∀(l:List Str) (k:Nat),l.toArray.foldl (· + ·.length+sep.length) k=k+zbb l+l.length*sep.length:=by
  intro l
  induction l with
  |nil=>intro k;simp [zbb]
  |cons x l ih=>
   intro k
   have:=ih (k+x.length+sep.length)
   simp only [List.foldl_toArray',List.foldl_cons,zbb,List.length_cons] at this |-
   refine za this ?_;rw [Nat.add_mul];lia
 simp only [big] at hb
 refine call_meets F.slot_str_join (typeIs_str _ _ _) F.entry_str_join (F.args_str_join_2 _ _) (meets_str_join_list sep t a l ?_) ⟨⟨_,h.sub _ _ e,rfl,n,rfl⟩,?_⟩
 ·show decide (_>sizeLine)=false
  refine za sizeLine_eq ?_
  rw [hsum]
  refine decide_eq_false ?_
  lia
 ·have hsize:∀ss:List Str,(Builtin.Str.glued sep ss).length<=zbb ss+ss.length*sep.length:=by
   intro ss
   rw [size_glued]
   have:(ss.map (·.length)).sum=zbb ss:=by
    induction ss with
    |nil=>rfl
    |cons x r ih=>simp [zbb,ih]
   refine za this ?_
   have:=Nat.mul_le_mul_right sep.length (Nat.sub_le ss.length 1)
   lia
  have hsz:=hsize (l.map (·.1))
  have hle:(Builtin.Str.glued sep (l.map (·.1))).length<=sizeLine:=by refine za sizeLine_eq ?_;lia
  match l,hle with
  | [],hle=>exact ⟨hle,zB h _ (zU.mpr ⟨_,rfl⟩)⟩
  | [p],_=>exact zA h (zU.mpr ⟨p.2,rfl⟩)
  |p::q::r,hle=>exact ⟨hle,zB h _ (zU.mpr ⟨_,rfl⟩)⟩
theorem zjD (h:Ok Ω Z s) {a:Addr} {f:Int ->Option Value} {kvs:List (PyData×PyData)} {i:Int} {u:Tok} {v2:Value} {dd:PyData} (hsys:(a==sysModules)=false)
  (hm:∀(p:Program) (w:World),Z.MapOf (intKind p w) a f)
  (hf:∀k,match zcU kvs k with|some d=>∃v,f k=some v/\ zgd v d|none=>f k=none) (r2:Rep Z v2 dd):
  wpAny Ω.m A (call (.builtin "dict.get") [.ref a,.int i u,v2]) (Pst Ω Z s ((zcU kvs i).getD dd)) zf s:=by
 have hmp:s.heap.MapOf (intKind Ω.prog Ω.w) a f:=E32 (hm Ω.prog Ω.w) λo es ep ho q=>(I32 o es ep (h.sub _ _ ho) q)
 have hT:s.TypeIs (.ref a) "dict" :=E33 hmp λo es ep ho hx x=>(zM o ho hx.1)
 refine call_meetsIn F.slot_dict_get hT F.entry_dict_get (F.args_dict_get_3 _ _ _) (meets_dict_get_default (intKind Ω.prog Ω.w) a (intKind_is Ω.prog Ω.w i u) hsys v2) (zM f hmp ?_)
 have hk:=hf i
 induction hl:zcU kvs i with
 |none=>rw [hl] at hk;refine za hk ?_;exact zB h _ r2
 |some d'=>
  rw [hl] at hk
  refine zm hk λy hy fl=>?_
  clear hk
  refine za hy ?_;exact zB h _ (zjz fl)
theorem zcK {v:List Value} {d:PyData} (r:zC Z v [d]):∃x,v=[x]/\ Rep Z x d:=by
 refine E23 (zG.mp r) λx vs e9 h r=>?_;refine za e9 ?_
 refine za (zaL.mp r) ?_;exact zM x rfl h
theorem zec {v:List Value} {d e:PyData} (r:zC Z v [d,e]):∃x y,v=[x,y]/\ Rep Z x d/\ Rep Z y e:=by
 refine E23 (zG.mp r) λx vs e9 h r=>?_;refine za e9 ?_
 refine zm (zcK r) λy e9 h2=>?_;refine za e9 ?_;exact I23 x y rfl h h2
def MeW (Ω:En) (A:Around) (Z:Heap) (s:Shared) (id:String) (vs:List Value) (x:PyData):Prop:=wpAny Ω.m A (call (.builtin id) vs) (Pst Ω Z s x) zf s
theorem zf2 {id:String} {v v1:Value} {d d1 x:PyData} {f:Str ->Str ->Option PyData} (r:Rep Z v d) (r1:Rep Z v1 d1) (hd:zmz d d1 f=some x) (k:∀a t b u,f a b=some x ->MeW Ω A Z s id [.str a t,.str b u] x):MeW Ω A Z s id [v,v1] x:=by
 refine zc hd λa ha hd=>zc hd λb hb hd=>?_
 refine zjx ha r λt=>?_
 refine zjx hb r1 λu=>?_
 exact k a t b u hd
theorem zbt {m:ME} {d:PyData} {T id:String} (h:((zau d).map λu=>("str",zgp m))=some (T,id)):id=zgp m:=zP h λu v e=>by cases e;rfl
theorem zsh (h:Ok Ω Z s) {m:ME} {d x:PyData} {v:Value} {T id:String} (hi:zmE m d=some (T,id)) (r:Rep Z v d) (hd:me0 d m=some x):MeW Ω A Z s id [v] x:=by
 induction m with
 |split=>
  refine za (zbt hi) (zc hd λy hy hd=>ifE hd λhb e=>?_)
  refine eqE e ?_
  refine zjx hy r λt=>?_
  exact wpAny_mono (zhS h hb) (λu w q=>q.pst) λu w q=>q
 |bitLength=>
  refine zP hd λi hi' e=>zP hi λu w e2=>?_
  refine zF e ?_;cases e2
  refine ze8 hi' r λt=>?_
  exact call_meets F.slot_int_bit_length (typeIs_int _ _ _) F.entry_int_bit_length (F.args_int_bit_length_1 _) (AutoIntG2.int_bit_length_int_0 _ t).meets (zB h _ (zu.mpr ⟨_,rfl⟩))
 |_=>exact zb hd
theorem zsi (h:Ok Ω Z s) (hA:A.handled=none) (hu:A.units<=8000) {m:ME} {d d1 x:PyData} {v v1:Value} {T id:String} (hi:zmE m d=some (T,id)) (r:Rep Z v d) (r1:Rep Z v1 d1) (hd:me1 d d1 m=some x):MeW Ω A Z s id [v,v1] x:=by
 induction m with
 |join=>
  refine za (zbt hi) (zc hd λy hy hd=>?_)
  refine zjx hy r λt=>?_
  induction d1 using PyData.casesOn with
  |list xs=>exact zc hd λss hs hd=>ifE hd λhb e=>by refine eqE e ?_;exact zpZ h r1 hs hb
  |str z=>exact ifE hd λhb e=>by refine eqE e ?_;exact zb6 r1 λu=>SC.joinStr hA hb λh' k t' kk=>zer h kk (zU.mpr ⟨t',rfl⟩)
  |_=>exact zb hd
 |split=>
  refine za (zbt hi) ?_
  exact zf2 r r1 hd λa t b u e=>ifE e λhb e=>by refine eqE e ?_;exact wpAny_mono (zhR h hb.1 hb.2) (λw z q=>q.pst) λw z q=>q
 |startswith=>
  refine za (zbt hi) ?_
  exact zf2 r r1 hd λa t b u e=>by refine eqE e ?_;exact call_meets F.slot_str_startswith (typeIs_str _ _ _) F.entry_str_startswith (F.args_str_startswith_2 _ _) (gives_str_startswith _ _ t u).meets (zA h (zH.mpr rfl))
 |endswith=>
  refine za (zbt hi) ?_
  exact zf2 r r1 hd λa t b u e=>by refine eqE e ?_;exact call_meets F.slot_str_endswith (typeIs_str _ _ _) F.entry_str_endswith (F.args_str_endswith_2 _ _) (gives_str_endswith _ _ t u).meets (zA h (zH.mpr rfl))
 |count=>
  refine za (zbt hi) ?_
  exact zf2 r r1 hd λa t b u e=>by refine eqE e ?_;exact call_meets F.slot_str_count (typeIs_str _ _ _) F.entry_str_count (F.args_str_count_2 _ _) (gives_str_count _ _ t u).meets (zB h _ (zu.mpr ⟨_,rfl⟩))
 |_=>exact zb hd
theorem zp0 (h:Ok Ω Z s) {d d1 d2 d3 x:PyData} {v v1 v2 v3:Value} (r:Rep Z v d) (r1:Rep Z v1 d1) (r2:Rep Z v2 d2) (r3:Rep Z v3 d3) (hd:zrD d d1 d2 d3=some x):MeW Ω A Z s "str.find" [v,v1,v2,v3] x:=by
 refine zc hd λa ha hd=>zc hd λb hb hd=>zc hd λi hi hd=>zc hd λj hj hd=>?_
 refine zO (zea ha r) λt e9=>?_;refine za e9 ?_
 obtain (⟨u,e9⟩):=zea hb r1;refine za e9 ?_
 obtain (⟨u2,rfl⟩):=zaR hi r2
 obtain (⟨u3,rfl⟩):=zaR hj r3
 refine eqE hd ?_
 exact call_meets F.slot_str_find (typeIs_str _ _ _) F.entry_str_find (F.args_str_find_4 _ _ _ _) (zjC _ _ _ _ t u u2 u3).meets (zB h _ (zu.mpr ⟨_,rfl⟩))
theorem zul (h:Ok Ω Z s) (hA:A.handled=none) (hu:A.units<=8000) {m:ME} {d x:PyData} {ds:List PyData} {v:Value} {vs:List Value} {T id:String} (hi:zmE m d=some (T,id))
  (r:Rep Z v d) (rs:zC Z vs ds) (hd:meD m d ds=some x):MeW Ω A Z s id (v::vs) x:=by
 match ds,rs,hd with
 | [],rs,hd=>refine za (zaL.mp rs) ?_;exact zsh h hi r hd
 | [a],rs,hd=>
  refine zm (zcK rs) λy e9 r1=>?_;refine za e9 ?_
  exact zsi h hA hu hi r r1 hd
 | [a,b],rs,hd=>
  refine E23 (zec rs) λy z e9 r1 r2=>?_;refine za e9 ?_
  induction m<;>first|exact zb hd|skip
  cases d<;>first|exact zb hi|skip
  refine zay hi ?_
  refine zP hd λi hi' e=>?_
  refine zF e ?_
  refine zO (zaR hi' r1) λu e9=>?_;refine za e9 ?_
  obtain ⟨a,rfl,hsys,f,hm,hf⟩:=zc4.mp r
  exact zjD h hsys hm hf r2
 | [a,b,c],rs,hd=>
  refine E23 (zG.mp rs) λy vs' e9 r1 rs=>?_;refine za e9 ?_
  refine E23 (zec rs) λy2 y3 e9 r2 r3=>?_;refine za e9 ?_
  induction m<;>first|exact zb hd|skip
  exact za (zbt (m:= .find) hi) (zp0 h r r1 r2 r3 hd)
 |_::_::_::_::_,rs,hd=>exact zb hd
noncomputable def biF:BI ->Value
 | .len=> .builtin "len"
 | .sum=> .builtin "sum"
 | .hex=> .builtin "hex"
 | .divmod=> .builtin "divmod"
 | .max=> .builtin "max"
 | .sorted=> .builtin "sorted"
 | .int=> .type "int"
theorem zeu {vs:List Value} {ds:List PyData} {d:PyData} (h:zmy ds=some d) (r:zC Z vs ds):∃v,vs=[v]/\ Rep Z v d:=by
 match ds,h with
 | [_],h=>refine eqE h ?_;exact zcK r
 | [],h=>exact zb h
 |_::_::_,h=>exact zb h
theorem zkU {ds:List PyData} {p:PyData×PyData} (h:znv ds=some p):ds=[p.1,p.2]:=by
 induction ds using List.casesOn with
 |nil=>exact zb h
 |cons a l=>
  induction l using List.casesOn with
  |nil=>exact zb h
  |cons b l=>
   induction l using List.casesOn with
   |nil=>exact eqE h rfl
   |cons _ _=>exact zb h
theorem zp1 {vs:List Value} {ds:List PyData} {p:PyData×PyData} (h:znv ds=some p) (r:zC Z vs ds):∃v v2,vs=[v,v2]/\ Rep Z v p.1/\ Rep Z v2 p.2:=by
 rw [zkU h] at r
 exact zec r
theorem zsj (h:Ok Ω Z s) (hA:A.handled=none) {xs:List PyData} {v:Value} {r:Int} (r1:Rep Z v (.list xs)) (hr:zdx xs 0=some r):wpAny Ω.m A (call (.builtin "sum") [v]) (Pst Ω Z s (.int r)) zf s:=by
 refine cps λG0 hG_0=>?_
 refine zm (zgm _ _ _ hr) λis q1 q2=>?_
 obtain rfl:=q1
 obtain rfl:=q2
 obtain (⟨a,its,n,rfl,e,r1⟩):=zah.mp r1
 refine zm (zcl r1) λxs hx e9=>?_;subst e9
 refine hG_0 ?_
 have hits:its=intItems xs.toArray:=Array.toList_inj.mp (by refine za hx ?_;simp [intItems])
 subst hits
 refine sum_intListG (xs:=xs.toArray) hA ⟨_,h.sub _ _ e,rfl,n,rfl⟩ λh' tk t' k=>?_
 have hp:=zgn (xs.map (·.1)) xs.length (by rw [List.length_map];exact Nat.le_refl _)
 refine za (funext zgo) (za List.size_toArray ?_)
 refine za hp ?_
 refine za (List.take_of_length_le (by rw [List.length_map];exact Nat.le_refl _)) ?_
 rw [Int.zero_add]
 exact zer h k (zu.mpr ⟨t',rfl⟩)
theorem zrH (h:Ok Ω Z s) (hA:A.handled=none) {b:BI} {ds:List PyData} {x:PyData} {vs:List Value} (rs:zC Z vs ds) (hd:biD b ds=some x):
  wpAny Ω.m A (call (biF b) vs) (Pst Ω Z s x) zf s:=by
 induction b with
 |len=>
  refine zc hd λd h1 hd=>?_
  refine zm (zeu h1 rs) λv e9 r=>?_;refine za e9 ?_
  exact znE h (.inl r) hd
 |sum=>
  refine zc hd λd h1 hd=>zc hd λxs h2 hd=>ifE hd λhb hd=>zP hd λr hr e=>?_
  refine zm (zeu h1 rs) λv e9 r1=>?_;refine za e9 ?_
  rw [zdz h2] at r1
  exact zF e (zsj h hA r1 hr)
 |hex=>
  refine zc hd λd h1 hd=>zc hd λi h2 hd=>ifE hd λhb e=>?_
  refine zm (zeu h1 rs) λv e9 r1=>?_;refine za e9 ?_
  refine ze8 h2 r1 λt=>?_
  refine eqE e ?_
  exact PySem.P.hex_of_int (zB h _ (zU.mpr ⟨_,rfl⟩)) (zd9 hb)
 |divmod=>
  refine zc hd λp h1 hd=>zc hd λi h2 hd=>zc hd λj h3 hd=>ifE hd λhb e=>?_
  refine E23 (zp1 h1 rs) λv v2 e9 r1 r2=>?_;refine za e9 ?_
  refine zO (zaR h2 r1) λt e9=>?_;refine za e9 ?_
  refine zO (zaR h3 r2) λu e9=>?_;refine za e9 ?_
  refine eqE e ?_
  exact divmod_int hb.1 (zdT (vs:= #[.int _ _,.int _ _]) h (.cons (zu.mpr ⟨_,rfl⟩) (.cons (zu.mpr ⟨_,rfl⟩) .nil))) (.inl hb.2)
 |max=>
  match ds,rs,hd with
  | [],rs,hd=>exact zb hd
  | [d],rs,hd=>
   refine zc hd λxs h2 hd=>zc hd λis h3 hd=>ifE hd λhb e=>?_
   refine zm (zcK rs) λv e9 r1=>?_;refine za e9 ?_
   rw [zdz h2,zdA h3] at r1
   refine eqE e ?_
   exact zsg h hA r1 hb
  | [d,d2],rs,hd=>
   refine zc hd λi h2 hd=>zc hd λj h3 e=>?_
   refine E23 (zec rs) λv v2 e9 r1 r2=>?_;refine za e9 ?_
   refine zO (zaR h2 r1) λt e9=>?_;refine za e9 ?_
   refine zO (zaR h3 r2) λu e9=>?_;refine za e9 ?_
   refine eqE e ?_
   refine max_two_ints hA λh' tk k=>zer h k ?_
   split<;>exact zu.mpr ⟨_,rfl⟩
  |_::_::_::_,rs,hd=>exact zb hd
 |sorted=>
  refine zc hd λd h1 hd=>zc hd λxs h2 hd=>ifE hd λhb hd=>?_
  refine zm (zeu h1 rs) λv e9 r1=>?_;refine za e9 ?_
  rw [zdz h2] at r1
  exact zpY h r1 hb hd
 |int=>
  refine zc hd λd h1 hd=>?_
  refine zm (zeu h1 rs) λv e9 r1=>?_;refine za e9 ?_
  cases d<;>first|exact zb hd|skip
  refine eqE hd ?_
  exact za (zH.mp r1) (call_int_bool (zB h _ (zu.mpr ⟨_,rfl⟩)))
end
structure TC where
 nm:List (Str×NameKind×Nat)
 fns:List (Str×Nat)
 cst:List (Str×PyData)
 nx:Nat
 mu:List Nat
 gen:Str
 lo:Nat
 top:Bool
noncomputable def zN {α β:Type} (f:α ->Option β):List α ->Option (List β)
 | []=>some []
 |x::r=>(f x).bind λy=>(zN f r).map (y:: ·)
theorem zvF {α β:Type} {f:α ->Option β}:zN f []=some []:=rfl
theorem zvG {α β:Type} {f:α ->Option β} {x:α} {r:List α}:zN f (x::r)=(f x).bind λy=>(zN f r).map (y:: ·):=rfl
theorem zbj {β:Type} {k:Str} {v:β}:∀{l:List (Str×β)},l.lookup k=some v ->(k,v)∈l
 | [],h=>zb h
 | (x,y)::r,h=>by
  have h:(match k==x with|true=>some y|false=>r.lookup k)=some v:=h
  induction e:k==x with
  |true=>rw [e] at h;refine eqE h ?_;refine za (eq_of_beq e) ?_;exact List.mem_cons_self ..
  |false=>rw [e] at h;exact List.mem_cons_of_mem _ (zbj h)
noncomputable def zlJ:List (Str×BI×Nat×Nat):=[("len",.len,1,1),("sum",.sum,1,1),("hex",.hex,1,1),("divmod",.divmod,2,2),("max",.max,1,2),("sorted",.sorted,1,1),("int",.int,1,1)]
def zp2 (f:Str) (args:List Expr):Option BI:=(zlJ.lookup f).bind λp=>if p.2.1<=args.length/\ args.length<=p.2.2 then some p.1 else none
noncomputable def zlK:List (Str×ME):=[("join",.join),("split",.split),("startswith",.startswith),("endswith",.endswith),("find",.find),("get",.get),("bit_length",.bitLength),("count",.count)]
def znI (m:Str):Option ME:=zlK.lookup m
noncomputable def one {α:Type}:List α ->Option α
 | [x]=>some x
 |_=>none
theorem zbk {α:Type} {l:List α} {x:α} (h:one l=some x):l=[x]:=by
 induction l using List.casesOn with
 |nil=>exact zb h
 |cons a r=>
  induction r using List.casesOn with
  |nil=>exact eqE h rfl
  |cons _ _=>exact zb h
theorem zev {b:Bool} (h:¬b=true):b=false:=Bool.not_eq_true _▸h
def xE {α:Type} (d:α) (e:Expr) (nm:Str ->Pos ->α:=λ_ _=>d) (tp:List Expr ->Nat ->Pos ->α:=λ_ _ _=>d) (cl:Expr ->List Expr ->List Keyword ->Pos ->α:=λ_ _ _ _=>d)
  (at':Expr ->Str ->Pos ->α:=λ_ _ _=>d) (sb:Expr ->Expr ->Pos ->α:=λ_ _ _=>d) (sl:Option Expr ->Option Expr ->Option Expr ->Pos ->α:=λ_ _ _ _=>d)
  (se:List Expr ->Nat ->Pos ->α:=λ_ _ _=>d) (sd:Expr ->Pos ->α:=λ_ _=>d) (lc:Expr ->List Comprehension ->Scope ->Pos ->α:=λ_ _ _ _=>d):α:=
 @PySem.Expr.casesOn (λ_=>α) e (λ_ _ _=>d) (λ_ _ _=>d) (λ_ _ _ _=>d) (λ_ _ _=>d) (λ_ _ _ _=>d) (λ_ _ _ _=>d) (λ_ _ _=>d) se lc
  (λ_ _ _ _=>d) (λ_ _ _ _ _=>d) (λ_ _ _ _=>d) (λ_ _=>d) (λ_ _=>d) (λ_ _=>d) (λ_ _ _ _=>d) cl (λ_ _ _ _=>d) (λ_ _=>d) (λ_ _ _=>d) at' sb sd nm
  (λ_ _=>d) tp sl
@[elab_as_elim] theorem xEe {α:Type} {P:Expr ->Prop} {r:α} {e:Expr} {nm tp cl at' sb sl se sd lc} (h:xE none e nm tp cl at' sb sl se sd lc=some r) (h1:∀x p,nm x p=some r ->P (.Name x p)) (h2:∀a k p,tp a k p=some r ->P (.Tuple a k p))
  (h3:∀a b d p,cl a b d p=some r ->P (.Call a b d p)) (h4:∀a b p,at' a b p=some r ->P (.Attribute a b p)) (h5:∀a b p,sb a b p=some r ->P (.Subscript a b p)) (h6:∀a b d p,sl a b d p=some r ->P (.Slice a b d p))
  (h7:∀a k p,se a k p=some r ->P (.Set a k p)) (h8:∀a p,sd a p=some r ->P (.Starred a p)) (h9:∀a b d p,lc a b d p=some r ->P (.ListComp a b d p)):P e:=by
 cases e with
 |Name a b=>exact h1 a b h
 |Tuple a b c=>exact h2 a b c h
 |Call a b c d=>exact h3 a b c d h
 |Attribute a b c=>exact h4 a b c h
 |Subscript a b c=>exact h5 a b c h
 |Slice a b c d=>exact h6 a b c d h
 |Set a b c=>exact h7 a b c h
 |Starred a b=>exact h8 a b h
 |ListComp a b c d=>exact h9 a b c d h
 |_=>exact zb h
noncomputable def zbQ (e:Expr):Bool:=xE true e (cl:=λ_ as _ _=> !as.isEmpty)
noncomputable def zcm (c:TC) (x:Str):Option Nat:=if x==("__classdict__" :Str) then none else match c.nm.lookup x with
 |some (.local,i)=>some i
 |some (.cell,i)=>some i
 |some (.free,i)=>some i
 |_=>none
noncomputable def zK (c:TC) (x:Str):Option Nat:=if x==("__debug__" :Str) then none else match c.nm.lookup x with
 |some (.local,i)=>if c.lo<=i then some i else none
 |some (.cell,i)=>if c.lo<=i then some i else none
 |_=>none
noncomputable def zbR (c:TC):List (Str×NameKind) ->Nat ->Option (List (Str×NameKind×Nat)×Nat)
 | [],k=>some ([],k)
 | (x,.local)::r,k=>(zbR c r (k+1)).map λp=>((x,.local,k)::p.1,p.2)
 | (x,.cell)::r,k=>(zbR c r (k+1)).map λp=>((x,.cell,k)::p.1,p.2)
 | (x,.free)::r,k=>match c.nm.lookup x with
  |some (.cell,i)=>(zbR c r k).map λp=>((x,.cell,i)::p.1,p.2)
  |some (.free,i)=>(zbR c r k).map λp=>((x,.free,i)::p.1,p.2)
  |_=>none
 | (x,.globalImplicit)::r,k=>(zbR c r k).map λp=>((x,.globalImplicit,0)::p.1,p.2)
 |_::_,_=>none
noncomputable def zaJ:List Str ->Bool
 | []=>true
 |x::r=> !r.contains x&&zaJ r
noncomputable def zum (c:TC) (l:List (Str×NameKind)):List (Str×NameKind):=l.map λq=>if q.2== .free&&(c.nm.lookup q.1).map (·.1)==some .cell then (q.1,.cell) else q
noncomputable def zrI (c:TC) (l:List (Str×NameKind)) (k k':Nat) (q:Str×NameKind×Nat):Bool:=
 (q.2.1== .local&&decide (k<=q.2.2)&&decide (q.2.2<k')&&l.contains (q.1,.local))|| (q.2.1== .cell&&decide (k<=q.2.2)&&decide (q.2.2<k')&&l.contains (q.1,.cell))||
 (l.contains (q.1,.free)&&c.nm.lookup q.1==some q.2&&(q.2.1== .cell||q.2.1== .free))|| (q.2.1== .globalImplicit&&q.2.2==0)
noncomputable def zsk (l:List (Str×NameKind)) (k:Nat) (q:Str×NameKind×Nat):Bool:=decide (k<=q.2.2)&& !l.contains (q.1,.free)&& !(q.2.1== .globalImplicit)
noncomputable def znJ (l:List (Str×NameKind)) (nm:List (Str×NameKind×Nat)):Bool:=(nm.all λq=>l.lookup q.1==(nm.lookup q.1).map (·.1))&&l.all λq=>(nm.map (·.1)).contains q.1
def znK (c:TC) (l:List (Str×NameKind)) (k:Nat) (nm:List (Str×NameKind×Nat)) (k':Nat):Bool:=
 decide (k<=k')&&nm.all (zrI c l k k')&&znJ (zum c l) nm&&(nm.all λp=>nm.all λq=> !(zsk l k p&&zsk l k q&&p.2.2==q.2.2)||p.1==q.1)&&
 l.all λq=> !(q.2== .free)|| (match c.nm.lookup q.1 with|some r=>r.1== .cell||r.1== .free|none=>false)
def zb7 (c:TC) (sc:Scope):Option TC:=
 if sc.kind== .function&&zaJ (sc.names.map (·.1)) then
  (zbR c sc.names c.nx).bind λp=>if znK c sc.names c.nx p.1 p.2 then some {c with nm:=p.1,nx:=p.2,mu:=[],lo:=c.nx} else none
 else none
def trT (c:TC):Nat ->Expr ->Option Tgt
 |0,_=>none
 |n+1,e=>xE none e (nm:=λx _=>(zK c x).bind λi=>if c.mu.contains i then none else some (.v i)) (tp:=λes _ _=>(zN (trT c n) es).map .t)
noncomputable def zk (c:TC) (f:Str):Bool:=match c.nm.lookup f with
 |some (.globalImplicit,_)=>true
 |_=>false
noncomputable def zbc:List Nat ->Bool
 | []=>true
 |x::r=> !r.contains x&&zbc r
noncomputable def zcL (e:PE) (t:Tgt):Bool:=match t with
 | .v _=>pE true e (en:=λ_=>false) (zp:=λ_ _=>false)
 | .t _=>true
noncomputable def zda (e:Expr):Bool:=xE false e (se:=λ_ _ _=>true)
noncomputable def zbl (e:Expr):Option Str:=xE none e (nm:=λx _=>some x)
theorem zaX {e:PySem.Expr} {x:Str} (h:zbl e=some x):∃p,e= .Name x p:=
 xEe h (λx p h=>eqE h (I11 p rfl)) (λ_ _ _=>zb) (λ_ _ _ _=>zb) (λ_ _ _=>zb) (λ_ _ _=>zb) (λ_ _ _ _=>zb) (λ_ _ _=>zb) (λ_ _=>zb) λ_ _ _ _=>zb
def zdb (e:Expr):Option (Str×List Expr):=xE none e (cl:=λf args kws _=>if kws.isEmpty then (zbl f).map λx=>(x,args) else none)
theorem zdc {e:PySem.Expr} {r:Str×List Expr} (h:zdb e=some r):∃p q,e= .Call (.Name r.1 p) r.2 [] q:=
 xEe h (λ_ _=>zb) (λ_ _ _=>zb) (λf args kws q h=>ifE h λhk h=>zP h λx hx e=>zO (zaX hx) λp e9=>by
  cases List.isEmpty_iff.mp hk;refine za e9 ?_;refine zF e ?_;exact I21 _ _ rfl) (λ_ _ _=>zb) (λ_ _ _=>zb) (λ_ _ _ _=>zb) (λ_ _ _=>zb) (λ_ _=>zb) λ_ _ _ _=>zb
noncomputable def zun (T:TC ->PySem.Expr ->Option PE) (c:TC):List PySem.Expr ->Option PE
 | [a,b]=>(T c a).bind λx=>(T c b).map λy=> .zip x y
 |_=>none
section
variable (T:TC ->PySem.Expr ->Option PE) (c:TC) (f:Str) (args:List PySem.Expr)
def zvK:Option (Option PE):=if f=="reversed" then some ((one args).bind λa=>(T c a).map .rev) else none
def zvL:Option (Option PE):=if f=="zip" then some (zun T c args) else zvK T c f args
def zvM:Option (Option PE):=if f=="enumerate" then some ((one args).bind λa=>(T c a).map .enm) else zvL T c f args
def zvN:Option (Option PE):=if f=="range" then some ((zN (T c) args).map .rng) else zvM T c f args
def znL:Option (Option PE):=if f==c.gen then some ((one args).bind λa=>(T c a).map .gen) else zvN T c f args
end
def zfQ (T:TC ->PySem.Expr ->Option PE) (c:TC) (e:PySem.Expr):Option PE:=
 match (zdb e).bind λp=>if zk c p.1&&(c.fns.lookup p.1).isNone then znL T c p.1 p.2 else none with
 |some r=>r
 |none=>if zda e then none else T c e
inductive zjE (T:TC ->PySem.Expr ->Option PE) (c:TC):PySem.Expr ->PE ->Prop
 |plain {e pe} (hs:zda e=false) (h:T c e=some pe):zjE T c e pe
 |gen {p a q pa} (hg:zk c c.gen=true) (ha:T c a=some pa):zjE T c (.Call (.Name c.gen p) [a] [] q) (.gen pa)
 |rng {p args q pes} (hg:zk c "range" =true) (hp:zN (T c) args=some pes):zjE T c (.Call (.Name "range" p) args [] q) (.rng pes)
 |enm {p a q pa} (hg:zk c "enumerate" =true) (ha:T c a=some pa):zjE T c (.Call (.Name "enumerate" p) [a] [] q) (.enm pa)
 |zip {p a b q pa pb} (hg:zk c "zip" =true) (ha:T c a=some pa) (hb:T c b=some pb):zjE T c (.Call (.Name "zip" p) [a,b] [] q) (.zip pa pb)
 |rev {p a q pa} (hg:zk c "reversed" =true) (ha:T c a=some pa):zjE T c (.Call (.Name "reversed" p) [a] [] q) (.rev pa)
section
variable {T:TC ->PySem.Expr ->Option PE} {c:TC} {pe:PE}
theorem zjF {α:Type} {b:Bool} {x y r:α} {G:Prop} (h:(if b then x else y)=r) (k1:b=true ->x=r ->G) (k2:y=r ->G):G:=by
 induction b with
 |true=>exact k1 rfl h
 |false=>exact k2 h
@[elab_as_elim] theorem znM {P:Str ->Prop} {f k:Str} (h:(f==k)=true) (p:P k):P f:=eq_of_beq h▸p
theorem zmF {f:Str} {args:List PySem.Expr} {p q:Pos} (hg:zk c f=true) (h:znL T c f args=some (some pe)):zjE T c (.Call (.Name f p) args [] q) pe:=by
 revert hg
 refine zjF h (λhf h=>znM hf λhg=>?_) λh=>zjF h (λhf h=>znM hf λhg=>?_) λh=>zjF h (λhf h=>znM hf λhg=>?_) λh=>zjF h (λhf h=>znM hf λhg=>?_) λh=>zjF h (λhf h=>znM hf λhg=>?_) λh=>zb h
 ·exact zc (Option.some.inj h) λa h1 h=>zP h λpa ha e=>za (zbk h1) (zF e (.gen hg ha))
 ·exact zP (Option.some.inj h) λpes ha e=>zF e (.rng hg ha)
 ·exact zc (Option.some.inj h) λa h1 h=>zP h λpa ha e=>za (zbk h1) (zF e (.enm hg ha))
 ·have h:=Option.some.inj h
  induction args using List.casesOn with
  |nil=>exact zb h
  |cons a l=>
   induction l using List.casesOn with
   |nil=>exact zb h
   |cons b l=>
    induction l using List.casesOn with
    |nil=>exact zc h λpa ha h=>zP h λpb hb e=>zF e (.zip hg ha hb)
    |cons _ _=>exact zb h
 ·exact zc (Option.some.inj h) λa h1 h=>zP h λpa ha e=>za (zbk h1) (zF e (.rev hg ha))
theorem zjG {e:PySem.Expr} (h:zfQ T c e=some pe):zjE T c e pe:=by
 unfold zfQ at h
 induction hk:(zdb e).bind λp=>if zk c p.1&&(c.fns.lookup p.1).isNone then znL T c p.1 p.2 else none with
 |none=>have h:=hk▸h;exact ifN h λhs h=> .plain (zev hs) h
 |some r=>
  rw [hk] at h
  have h:r=some pe:=h
  subst h
  refine zc hk λa ha hk=>ifE hk λhc hk2=>zaH hc λhg _=>?_
  refine E21 (zdc ha) λp q e9=>?_;refine za e9 ?_
  exact zmF hg hk2
end
noncomputable def trO (T:TC ->PySem.Expr ->Option PE) (c:TC):Option PySem.Expr ->Option (Option PE)
 |none=>some none
 |some e=>(T c e).map some
def trG (T:TC ->PySem.Expr ->Option PE) (c:TC) (g:Comprehension):Option Gn:=
 if g.is_async==0 then (trT c 9 g.target).bind λt=>(zfQ T c g.iter).bind λit=>(zN (T c) g.ifs).bind λifs=>if zcL it t then some (Gn.mk t it ifs) else none else none
noncomputable def zlL:Const ->Option PE
 | .int i=>some (.c (.int i))
 | .str x=>some (.c (.str x))
 | .bool b=>some (.c (.bool b))
 | .none=>some (.c .none)
 |_=>none
def znN (c:TC) (x:Str):Option PE:=if x=="__debug__" then none else match zcm c x with
 |some i=>some (.v i)
 |none=>if zk c x then (c.cst.lookup x).map .c else none
noncomputable def zuo (a:PE):UnaryOp ->Option PE
 | .Not=>some (.not a)
 | .USub=>some (.neg a)
 | .Invert=>some (.inv a)
 |_=>none
noncomputable def zsl:BoolOp ->List PE ->PE
 | .And,es=> .and es
 | .Or,es=> .or es
def zrJ (T:TC ->PySem.Expr ->Option PE) (c:TC) (a:PE) (i:PySem.Expr):Option PE:=
 xE ((T c i).map λi=> .idx a i) i (sl:=λlo hi st _=>(trO T c lo).bind λlo=>(trO T c hi).bind λhi=>(trO T c st).map λst=> .sl a lo hi st)
def ziC (T:TC ->PySem.Expr ->Option PE) (c:TC) (f:Str) (args:List PySem.Expr):Option PE:=
 if f=="__debug__" || !zk c f then none else match c.fns.lookup f with
 |some k=>if args.length<=30 then (zN (T c) args).map (.call k) else none
 |none=>(zp2 f args).bind λb=>(zN (T c) args).map (.bi b)
def zsm (T:TC ->PySem.Expr ->Option PE) (c:TC) (o:PySem.Expr) (m:Str) (apos pos:Pos) (args:List PySem.Expr):Option PE:=
 if zbQ o&&(apos.endLine==pos.line)&&decide (args.length<29) then (znI m).bind λk=>(T c o).bind λa=>(zN (T c) args).map (.me k a) else none
def zlM (T:TC ->PySem.Expr ->Option PE) (c:TC) (args:List PySem.Expr) (pos:Pos) (e:PySem.Expr):Option PE:=
 xE none e (nm:=λf _=>ziC T c f args) (at':=λo m apos=>zsm T c o m apos pos args)
def zvO (T:TC ->PySem.Expr ->Option PE) (c':TC) (elt:PySem.Expr) (gs:List Comprehension) (t:Tgt) (it:PE) (ifs:List PE):Option PE:=
 (zN (trG T c') gs).bind λgs=>(T c' elt).bind λelt=>if zcL it t&&zbc ((Gn.mk t it ifs::gs).flatMap zas) then some (.comp elt (.mk t it ifs::gs)) else none
def zvP (T:TC ->PySem.Expr ->Option PE) (c c':TC) (elt:PySem.Expr) (g:Comprehension) (gs:List Comprehension):Option PE:=
 (trT c' 9 g.target).bind λt=>(zfQ T c g.iter).bind λit=>(zN (T c') g.ifs).bind λifs=>zvO T c' elt gs t it ifs
def zup (T:TC ->PySem.Expr ->Option PE) (c:TC) (elt:PySem.Expr) (g:Comprehension) (gs:List Comprehension) (sc:Scope):Option PE:=
 if g.is_async==0 then (zb7 c sc).bind λc'=>zvP T c c' elt g gs else none
def znO (T:TC ->PySem.Expr ->Option PE) (c:TC) (e:PySem.Expr):Option PE:=
 @PySem.Expr.casesOn (λ_=>Option PE) e (λop es _=>(zN (T c) es).map (zsl op)) (λ_ _ _=>none) (λl op r _=>(T c l).bind λa=>(T c r).map λb=> .bin op a b)
  (λop x _=>(T c x).bind λa=>zuo a op) (λ_ _ _ _=>none) (λt a b _=>(T c t).bind λt=>(T c a).bind λa=>(T c b).map λb=> .ite t a b) (λ_ _ _=>none) (λ_ _ _=>none)
  (λelt gs sc _=>match gs with
  |g::gs=>zup T c elt g gs sc
  | []=>none) (λ_ _ _ _=>none) (λ_ _ _ _ _=>none) (λ_ _ _ _=>none) (λ_ _=>none) (λ_ _=>none) (λ_ _=>none)
  (λl ops rs _=>(one ops).bind λop=>(one rs).bind λr=>if zda r then none else (T c l).bind λa=>(T c r).map λb=> .cmp op a b)
  (λf args kws pos=>if kws.isEmpty then zlM T c args pos f else none) (λ_ _ _ _=>none) (λ_ _=>none) (λk _ _=>zlL k) (λ_ _ _=>none)
  (λv i _=>(T c v).bind λa=>zrJ T c a i) (λ_ _=>none) (λx _=>znN c x) (λes _=>if es.length<=1000 then (zN (T c) es).map .lst else none)
  (λes _ _=>if es.length<=1000 then (zN (T c) es).map .tup else none) (λ_ _ _ _=>none)
structure zsn (T:TC ->PySem.Expr ->Option PE) (c:TC) (elt target iter:PySem.Expr) (ifs:List PySem.Expr) (gs:List Comprehension) (sc:Scope) (c':TC) (t:Tgt) (pit:PE) (pifs:List PE) (pgs:List Gn) (pelt:PE):Prop where
 ctx:zb7 c sc=some c'
 tgt:trT c' 9 target=some t
 it:zfQ T c iter=some pit
 ifs:zN (T c') ifs=some pifs
 gs:zN (trG T c') gs=some pgs
 elt:T c' elt=some pelt
 po:zcL pit t=true
 nd:zbc ((Gn.mk t pit pifs::pgs).flatMap zas)=true
inductive zS (T:TC ->PySem.Expr ->Option PE) (c:TC):PySem.Expr ->PE ->Prop
 |int (i k p):zS T c (.Constant (.int i) k p) (.c (.int i))
 |str (x k p):zS T c (.Constant (.str x) k p) (.c (.str x))
 |bool (b k p):zS T c (.Constant (.bool b) k p) (.c (.bool b))
 |none (k p):zS T c (.Constant .none k p) (.c .none)
 |name {x p i} (hd:(x==("__debug__" :Str))=false) (h:zcm c x=some i):zS T c (.Name x p) (.v i)
 |glob {x p d} (hd:(x==("__debug__" :Str))=false) (h:zcm c x= .none) (hg:zk c x=true) (hc:c.cst.lookup x=some d):zS T c (.Name x p) (.c d)
 |bin {l op r p a b} (ha:T c l=some a) (hb:T c r=some b):zS T c (.BinOp l op r p) (.bin op a b)
 |not {x p a} (ha:T c x=some a):zS T c (.UnaryOp .Not x p) (.not a)
 |neg {x p a} (ha:T c x=some a):zS T c (.UnaryOp .USub x p) (.neg a)
 |inv {x p a} (ha:T c x=some a):zS T c (.UnaryOp .Invert x p) (.inv a)
 |and {es p pes} (h:zN (T c) es=some pes):zS T c (.BoolOp .And es p) (.and pes)
 |or {es p pes} (h:zN (T c) es=some pes):zS T c (.BoolOp .Or es p) (.or pes)
 |cmp {l op r p a b} (hs:zda r=false) (ha:T c l=some a) (hb:T c r=some b):zS T c (.Compare l [op] [r] p) (.cmp op a b)
 |ite {t a b p pt pa pb} (ht:T c t=some pt) (ha:T c a=some pa) (hb:T c b=some pb):zS T c (.IfExp t a b p) (.ite pt pa pb)
 |lst {es p pes} (hl:es.length<=1000) (h:zN (T c) es=some pes):zS T c (.List es p) (.lst pes)
 |tup {es k p pes} (hl:es.length<=1000) (h:zN (T c) es=some pes):zS T c (.Tuple es k p) (.tup pes)
 |sl {v lo hi st p q a plo phi pst} (ha:T c v=some a) (h1:trO T c lo=some plo) (h2:trO T c hi=some phi) (h3:trO T c st=some pst):zS T c (.Subscript v (.Slice lo hi st p) q) (.sl a plo phi pst)
 |idx {v i p a b} (ha:T c v=some a) (hb:T c i=some b):zS T c (.Subscript v i p) (.idx a b)
 |callF {f p args q k pes} (hd:(f==("__debug__" :Str))=false) (hg:zk c f=true) (hk:c.fns.lookup f=some k) (hp:zN (T c) args=some pes):zS T c (.Call (.Name f p) args [] q) (.call k pes)
 |bi {f p args q b pes} (hd:(f==("__debug__" :Str))=false) (hg:zk c f=true) (hb:zp2 f args=some b) (hp:zN (T c) args=some pes):zS T c (.Call (.Name f p) args [] q) (.bi b pes)
 |me {o m apos args pos k a pes} (h1:zbQ o=true) (h2:(apos.endLine==pos.line)=true) (h3:args.length<29) (hk:znI m=some k) (ha:T c o=some a) (hp:zN (T c) args=some pes):zS T c (.Call (.Attribute o m apos) args [] pos) (.me k a pes)
 |comp {elt target iter ifs gs sc p c' t pit pifs pgs pelt} (h:zsn T c elt target iter ifs gs sc c' t pit pifs pgs pelt):zS T c (.ListComp elt (⟨target,iter,ifs,0⟩::gs) sc p) (.comp pelt (.mk t pit pifs::pgs))
section
variable {T:TC ->PySem.Expr ->Option PE} {c:TC} {pe:PE}
theorem zjH {k:Const} {k' p} (h:zlL k=some pe):zS T c (.Constant k k' p) pe:=by
 induction k<;>first|exact zb h| (refine eqE h ?_;constructor)
theorem zkV {x:Str} {p:Pos} (h:znN c x=some pe):zS T c (.Name x p) pe:=
 ifN h λhd h=>by
  induction e:zcm c x with
  |some i=>rw [e] at h;refine eqE h ?_;exact .name (zev hd) e
  |none=>rw [e] at h;exact ifE h λhg h=>zP h λd hc h=>by refine zF h ?_;exact .glob (zev hd) e hg hc
theorem znP {op:UnaryOp} {x:PySem.Expr} {a:PE} {p:Pos} (ha:T c x=some a) (h:zuo a op=some pe):zS T c (.UnaryOp op x p) pe:=by
 induction op<;>first|exact zb h| (refine eqE h ?_;constructor;exact ha)
theorem zmG {v i:PySem.Expr} {a:PE} {p:Pos} (ha:T c v=some a) (h:zrJ T c a i=some pe):zS T c (.Subscript v i p) pe:=by
 have go:∀{i:PySem.Expr},(T c i).map (λi=>PE.idx a i)=some pe ->zS T c (.Subscript v i p) pe:=λh=>zP h λb hb h=>by refine zF h ?_;exact .idx ha hb
 cases i with
 |Slice lo hi st q=>exact zc h λlo h1 h=>zc h λhi h2 h=>zP h λst h3 h=>by refine zF h ?_;exact .sl ha h1 h2 h3
 |_=>exact go h
theorem zkW {f:Str} {p q:Pos} {args:List PySem.Expr} (h:ziC T c f args=some pe):zS T c (.Call (.Name f p) args [] q) pe:=by
 refine ifN h λhc h=>?_
 rw [Bool.not_eq_true,Bool.or_eq_false_iff,Bool.not_eq_false'] at hc
 induction hk:c.fns.lookup f with
 |some k=>rw [hk] at h;exact ifE h λ_ h=>zP h λpes hp h=>by refine zF h ?_;exact .callF hc.1 hc.2 hk hp
 |none=>
  rw [hk] at h
  exact zc h λb hb h=>zP h λpes hp h=>by refine zF h ?_;exact .bi hc.1 hc.2 hb hp
theorem zjI {f:PySem.Expr} {args:List PySem.Expr} {pos:Pos} (h:zlM T c args pos f=some pe):zS T c (.Call f args [] pos) pe:=
 xEe h (λ_ _=>zkW) (λ_ _ _=>zb) (λ_ _ _ _=>zb) (λo m apos h=>ifE h λhc h=>zaH hc λh1 h3=>zaH h1 λh1 h2=>zc h λk hk h=>zc h λa ha h=>zP h λpes hp h=>zF h (.me h1 h2 (of_decide_eq_true h3) hk ha hp))
  (λ_ _ _=>zb) (λ_ _ _ _=>zb) (λ_ _ _=>zb) (λ_ _=>zb) λ_ _ _ _=>zb
theorem znQ {elt:PySem.Expr} {g:Comprehension} {gs:List Comprehension} {sc:Scope} {p:Pos} (h:zup T c elt g gs sc=some pe):zS T c (.ListComp elt (g::gs) sc p) pe:=
 ifE h λha h=>zc h λc' h1 h=>zc h λt h2 h=>zc h λpit h3 h=>zc h λpifs h4 h=>zc h λpgs h5 h=>zc h λpelt h6 h=>ifE h λhc h=>zaH hc λh7 h8=>by
  refine eqE h ?_
  obtain ⟨target,iter,ifs,a⟩:=g
  rw [beq_iff_eq] at ha
  cases ha
  exact .comp ⟨h1,h2,h3,h4,h5,h6,h7,h8⟩
theorem zbm {e:PySem.Expr} (h:znO T c e=some pe):zS T c e pe:=by
 induction e using PySem.Expr.casesOn with
 |Constant k k' p=>exact zjH h
 |Name x p=>exact zkV h
 |BinOp l op r p=>exact zc h λa ha h=>zP h λb hb h=>by refine zF h ?_;exact .bin ha hb
 |UnaryOp op x p=>exact zc h λa ha h=>znP ha h
 |BoolOp op es p=>exact zP h λpes hp h=>by refine zF h ?_;induction op<;>constructor<;>exact hp
 |Compare l ops rs p=>
  refine zc h λop h1 h=>zc h λr h2 h=>ifN h λhs h=>zc h λa ha h=>zP h λb hb h=>?_
  refine zF h ?_;rw [zbk h1,zbk h2];exact .cmp (zev hs) ha hb
 |IfExp t a b p=>exact zc h λpt ht h=>zc h λpa ha h=>zP h λpb hb h=>by refine zF h ?_;exact .ite ht ha hb
 |List es p=>exact ifE h λhl h=>zP h λpes hp h=>by refine zF h ?_;exact .lst hl hp
 |Tuple es k p=>exact ifE h λhl h=>zP h λpes hp h=>by refine zF h ?_;exact .tup hl hp
 |Subscript v i p=>exact zc h λa ha h=>zmG ha h
 |Call f args kws pos=>exact ifE h λhk h=>by cases List.isEmpty_iff.mp hk;exact zjI h
 |ListComp elt gs sc p=>
  induction gs using List.casesOn with
  |nil=>exact zb h
  |cons g gs=>exact znQ h
 |_=>exact zb h
end
def tr:Nat ->TC ->PySem.Expr ->Option PE
 |0=>λ_ _=>none
 |n+1=>znO (tr n)
def isV (e:PE):Bool:=pE false e (v:=λ_=>true)
noncomputable def zrK:Nat ->PE ->List Nat
 |0,_=>[]
 |n+1,e=>
  let f:=zrK n
  let g:List PE ->List Nat:=λes=>es.flatMap f
  let h:Option PE ->List Nat:=λo=>g o.toList
  @PE.casesOn (λ_=>List Nat) e (λ_=>[]) (λi=>[i]) (λ_ a b=>f a++f b) f f f (λ_ a b=>if isV a&&pE false b (ls:=List.isEmpty) then [] else f a++f b) g g (λt a b=>f t++f a++f b) g g
   (λa i=>if isV a then f i else f a++f i) (λa lo hi st=>f a++h lo++h hi++h st) (λ_ es=>g es) (λb es=>if b= .len/\ (one es).any isV then [] else g es) (λ_ a es=>f a++g es)
   (λe gs=>f e++gs.flatMap fun| .mk _ it ifs=>f it++g ifs) g f (λa b=>f a++f b) f f
def zdd (c:TC) (e:PE):List Nat:=(zrK 60 e).filter c.mu.contains
noncomputable def zp3:ME ->Bool
 | .split=>true
 |_=>false
def zgq (e:PE):Bool:=pE false e (ls:=λ_=>true) (cp:=λ_ _=>true) (me:=zp3)
noncomputable def zaS (vs:List Expr):Bool:=vs.all (constantsAlone 8)&& !vs.all (foldedForSure 8)
noncomputable def zcw (e:Expr):Bool:=xE false e (sd:=λ_ _=>true)
noncomputable def zew (c:TC):List Expr ->Option (List (Nat×Bool))
 | []=>some []
 |e::r=>(zbl e).bind λx=>(zK c x).bind λi=>(zew c r).map ((i,c.mu.contains i):: ·)
noncomputable def zbn:List (Nat×Bool) ->Bool
 | []=>true
 | (i,_)::r=> !(r.map (·.1)).contains i&&zbn r
noncomputable def two {α:Type}:List α ->Option (α×α)
 | [x,y]=>some (x,y)
 |_=>none
theorem zkX {α:Type} {l:List α} {p:α×α} (h:two l=some p):l=[p.1,p.2]:=by
 induction l using List.casesOn with
 |nil=>exact zb h
 |cons a r=>
  induction r using List.casesOn with
  |nil=>exact zb h
  |cons b r=>
   induction r using List.casesOn with
   |nil=>exact eqE h rfl
   |cons _ _=>exact zb h
def znR (ns:List (Nat×Bool)) (es:List PE):Option PS:=(two ns).bind λp=>(two es).bind λq=>if !p.1.2&&p.2.2&&zgq q.2 then some (.asgP p.1.1 p.2.1 q.1 q.2) else none
abbrev STr:=Option (List Nat×PS)
def znS (c:TC) (x:Str) (v:Expr):STr:=(zK c x).bind λi=>(tr 60 c v).bind λe=>
 if c.mu.contains i then (if zgq e then some (zdd c e,.asgM i e) else none) else some (zdd c e,.asg (.v i) e)
def znT (c:TC) (ts vs:List Expr):STr:=(zew c ts).bind λns=>(zN (tr 60 c) vs).bind λes=>
 if zbn ns&& !zaS vs&&decide (vs.length<=1000) then (if ns.all (λp=> !p.2) then some (zdd c (.tup es),.asgs ns es) else (znR ns es).map λp=>(zdd c (.tup es),p)) else none
noncomputable def zjJ (e:Expr):Option (List Expr):=xE none e (tp:=λvs _ _=>some vs)
def zrL (c:TC) (v e:Expr):STr:=xE none e (nm:=λx _=>znS c x v) (tp:=λts k p=>match zjJ v with
  |some vs=>znT c ts vs
  |none=>(trT c 9 (.Tuple ts k p)).bind λt=>(tr 60 c v).map λe=>(zdd c e,.asg t e))
def zuq (c:TC) (x m:Str):List Expr ->STr:=λargs=>(zK c x).bind λi=>if !c.mu.contains i then none else match args with
 | []=>if m=="reverse" then some ([],.revs i) else none
 | [a]=>(tr 60 c a).bind λe=>if m=="append" then some (zdd c e,.app i e) else if m=="extend" then some (zdd c e,.ext i e) else none
 |_=>none
def zlN (c:TC) (e:Expr):STr:=xE none e (cl:=λf args kws pos=>xE none f (at':=λo m apos=>(zbl o).bind λx=>if kws.isEmpty&&(apos.endLine==pos.line) then zuq c x m args else none))
def zrM (c:TC) (e:Expr):STr:=xE none e (sb:=λv k _=>(zbl v).bind λx=>(zK c x).bind λi=>if !c.mu.contains i then none else (tr 60 c k).map λe=>(zdd c e,.del i e))
def xS {α:Type} (d:α) (s:Stmt) (as:List Expr ->Expr ->α:=λ_ _=>d) (ex:Expr ->α:=λ_=>d) (dl:List Expr ->α:=λ_=>d) (fi:List Stmt ->List Stmt ->α:=λ_ _=>d)
  (wh:List Stmt ->α:=λ_=>d) (fd:Str ->Arguments ->List Stmt ->Scope ->α:=λ_ _ _ _=>d):α:=
 @PySem.Stmt.casesOn (λ_=>α) s (λn a b _ _ _ s _ _ _=>fd n a b s) (λ_ _ _ _ _ _ _ _ _ _=>d) (λ_ _ _ _ _ _ _ _ _ _ _=>d) (λ_ _=>d) (λl _=>dl l) (λl e _=>as l e)
  (λ_ _ _ _ _ _ _=>d) (λ_ _ _ _=>d) (λ_ _ _ _ _=>d) (λ_ _ a b _=>fi a b) (λ_ _ _ _ _=>d) (λ_ a _ _=>wh a) (λ_ a b _=>fi a b) (λ_ _ _=>d) (λ_ _ _=>d) (λ_ _ _=>d)
  (λ_ _ _=>d) (λ_ _ _ _ _=>d) (λ_ _ _ _ _=>d) (λ_ _ _=>d) (λ_ _=>d) (λ_ _ _ _=>d) (λ_ _=>d) (λ_ _=>d) (λe _=>ex e) (λ_=>d) (λ_=>d) (λ_=>d)
def znU (s:Stmt):Option (Str×Str×Expr×Expr):=xS none s (as:=λts v=>(one ts).bind λt=>(zbl t).bind λx=>(zdb v).bind λp=>(two p.2).map λq=>(x,p.1,q.1,q.2))
def znV (s:Stmt):Option (Str×Str×Str):=xS none s (as:=λts v=>(one ts).bind λt=>(zbl t).bind λx=>(zdb v).bind λp=>(one p.2).bind λa=>(zbl a).map λy=>(x,p.1,y))
def zrN:ExceptHandler ->Option (Str×Str×Stmt)
 | .ExceptHandler t y b _=>t.bind λt=>(zbl t).bind λt=>y.bind λy=>(one b).map λs=>(t,y,s)
def znW (c:TC) (b:List Stmt) (hs:List ExceptHandler):STr:=(one b).bind λs=>(znU s).bind λq=>(one hs).bind λh=>(zrN h).bind λr=>(znV r.2.2).bind λu=>
 if c.top&&r.1=="ZeroDivisionError" &&u.1==q.1&&u.2.1=="str" &&u.2.2==r.2.1&&q.2.1=="int_divmod" &&zk c "ZeroDivisionError" &&zk c "str" &&zk c "int_divmod" then
  (zK c q.1).bind λi=>(zK c r.2.1).bind λj=>if c.mu.contains i|| !(c.nm.lookup r.2.1==some (.local,j))||i==j then none else (tr 60 c q.2.2.1).bind λa=>(tr 60 c q.2.2.2).bind λb=>(c.fns.lookup q.2.1).map λk=>(zdd c a++zdd c b,.tryDiv i j a b k)
 else none
def trS:Nat ->TC ->Stmt ->Option (List Nat×PS)
 |0,_,_=>none
 |n+1,c,s=>
  let blk:List Stmt ->Option (List PS):=λb=>(zN (trS n c) b).map λl=>l.flatMap λp=>p.1.map .frz++[p.2]
  @PySem.Stmt.casesOn (λ_=>STr) s (λ_ _ _ _ _ _ _ _ _ _=>none) (λ_ _ _ _ _ _ _ _ _ _=>none) (λ_ _ _ _ _ _ _ _ _ _ _=>none) (λe _=>e.bind λe=>(tr 60 c e).map λe=>(zdd c e,.ret e))
   (λes _=>(one es).bind (zrM c)) (λts v _=>(one ts).bind (zrL c v)) (λ_ _ _ _ _ _ _=>none)
   (λt op v _=>(zbl t).bind λx=>(zK c x).bind λi=>(tr 60 c v).bind λe=>if c.mu.contains i then none else some (zdd c e,.aug i op e)) (λ_ _ _ _ _=>none)
   (λt it a b _=>(trT c 9 t).bind λt=>(zfQ (tr 60) c it).bind λit=>(blk a).bind λa=>(blk b).bind λb=>if zcL it t then some (zdd c it,.for_ t it a b) else none) (λ_ _ _ _ _=>none)
   (λt a b _=>if b.isEmpty then (tr 60 c t).bind λt=>(blk a).map λa=>(zdd c t,.whl t a) else none)
   (λt a b _=>(tr 60 c t).bind λt=>(blk a).bind λa=>(blk b).map λb=>(zdd c t,.iff t a b)) (λ_ _ _=>none) (λ_ _ _=>none) (λ_ _ _=>none) (λ_ _ _=>some ([],.fail))
   (λb hs o f _=>if o.isEmpty&&f.isEmpty then znW c b hs else none) (λ_ _ _ _ _=>none) (λt m _=>if m.isNone then (tr 60 c t).map λt=>(zdd c t,.assert t) else none) (λ_ _=>none)
   (λ_ _ _ _=>none) (λ_ _=>none) (λ_ _=>none) (λe _=>zlN c e) (λ_=>none) (λ_=>some ([],.brk)) (λ_=>none)
def trB (n:Nat) (c:TC) (b:List Stmt):Option (List PS):=(zN (trS n c) b).map λl=>l.flatMap λp=>p.1.map .frz++[p.2]
noncomputable def zdB:List (Str×NameKind) ->Nat ->List (Str×NameKind×Nat)
 | [],_=>[]
 | (x,k)::r,i=>(x,k,i)::zdB r (i+1)
def muX (e:Expr):List Str:=xE [] e (cl:=λf _ _ _=>xE [] f (at':=λo m _=>if m=="append" ||m=="extend" ||m=="reverse" then (zbl o).toList else []))
def muD (e:Expr):List Str:=xE [] e (sb:=λv _ _=>(zbl v).toList)
noncomputable def muS:Nat ->Stmt ->List Str
 |0,_=>[]
 |n+1,s=>xS [] s (ex:=muX) (dl:=λes=>es.flatMap muD) (fi:=λa b=>a.flatMap (muS n)++b.flatMap (muS n)) (wh:=λa=>a.flatMap (muS n))
def zbI (fns:List (Str×Nat)) (cst:List (Str×PyData)) (gen:Str) (sc:Scope) (body:List Stmt):TC:=
 let nm:=zdB sc.names 0
 ⟨nm,fns,cst,sc.names.length,(body.flatMap (muS 9)).filterMap λx=>(nm.lookup x).map (·.2),gen,0,false⟩
def zc2 (Z:Heap) (ad:Nat ->Addr) (i:Nat) (v:Value):PV ->Prop
 | .d x=>Rep Z v x
 | .m _=>v= .ref (ad i)
def zbu (Z h:Heap) (a:Addr) (xs:List PyData):Prop:=
 ∃vs n,h.get? a=some {cls:= .type "list",data:= .seq vs n}/\ zC Z vs.toList xs/\ Z.get? a=none
structure Rel (c:TC) (env:Env) (Z h:Heap) (ρ:Rho) (ad:Nat ->Addr):Prop where
 kind:env.scope.kind= .function
 names:∀x,env.kindOf x=(c.nm.lookup x).map (·.1)
 glob:env.globals=mainGlobals
 blt:env.builtins=builtinsNs
 loc:∃m,h.Ns env.locals m/\ ∀x i pv,c.nm.lookup x=some (.local,i) ->ρ[i]?=some (some pv) ->∃v,m x=some v/\ zc2 Z ad i v pv
 cel:∀x k i,c.nm.lookup x=some (k,i) ->(k= .cell \/k= .free) ->∃a ov,env.cells.lookup x=some a/\ h.IsCell a ov/\ Z.get? a=none/\ ∀pv,ρ[i]?=some (some pv) ->∃v,ov=some v/\ zc2 Z ad i v pv
 apL:Z.get? env.locals=none
 injS:∀x y k k' i,c.nm.lookup x=some (k,i) ->c.nm.lookup y=some (k',i) ->k≠ .globalImplicit ->k'≠ .globalImplicit ->x=y
 injC:∀x y a,env.cells.lookup x=some a ->env.cells.lookup y=some a ->x=y
 own:∀i xs,ρ[i]?=some (some (.m xs)) ->zbu Z h (ad i) xs
 ownInj:∀i j xs ys,ρ[i]?=some (some (.m xs)) ->ρ[j]?=some (some (.m ys)) ->ad i=ad j ->i=j
 hi:∀i pv,ρ[i]?=some (some pv) ->i<c.nx
 slot:∀x k i,c.nm.lookup x=some (k,i) ->k≠ .globalImplicit ->i<c.nx
 mainL:env.locals≠mainGlobals
section
variable {Ω:En} {A:Around} {Z Z':Heap} {s s':Shared} {c:TC} {env:Env} {ρ:Rho} {ad:Nat ->Addr}
theorem zc2.mono {i v pv} (f:Sub Z Z') (r:zc2 Z ad i v pv):zc2 Z' ad i v pv:=by
 induction pv with
 |d x=>exact Rep.mono f r
 |m xs=>exact r
theorem Rel.step {h h':Heap} (R:Rel c env Z h ρ ad) (f:Sub Z Z') (g:∀b o,NoF o ->h.get? b=some o ->h'.get? b=some o) (new:∀b o,NoF o ->h.get? b=some o ->Z'.get? b=Z.get? b):Rel c env Z' h' ρ ad where
 kind:=R.kind
 names:=R.names
 glob:=R.glob
 blt:=R.blt
 loc:=by
  refine cps λG0 hG_0=>?_
  refine zm R.loc λm q1 hm=>?_
  refine E33 q1 λo es ep ho d r=>?_
  clear q1
  refine hG_0 ?_
  exact zM m (I32 o es ep (g _ _ (noF d λ_ x=>nomatch x) ho) ⟨d,r⟩) (λx i pv a b=>zm (hm x i pv a b) λv e r=>(zM v e (r.mono f)))
 cel:=λx k i a b=>by
  refine E24 (R.cel x k i a b) λca ov e q2 hz hv=>?_
  refine zm q2 λo ho hd=>?_
  clear q2
  have hn:NoF o:=noF hd λ_ x=>nomatch x
  exact I24 ca ov e (zM o (g _ _ hn ho) hd) (by refine za (new _ _ hn ho) ?_;exact hz) (λpv q=>zm (hv pv q) λv e r=>(zM v e (r.mono f)))
 apL:=by
  refine cps λG0 hG_0=>?_
  refine zm R.loc λm q3 _=>?_
  refine E33 q3 λo _ _ ho d _=>?_
  clear q3
  refine hG_0 ?_
  refine za (new _ _ (noF d λ_ x=>nomatch x) ho) ?_;exact R.apL
 injS:=R.injS
 injC:=R.injC
 own:=λi xs e=>E23 (R.own i xs e) λvs n a b d=>(I23 vs n (g _ _ zak a) (b.mono f) (by refine za (new _ _ zak a) ?_;exact d))
 ownInj:=R.ownInj
 hi:=R.hi
 slot:=R.slot
 mainL:=R.mainL
theorem Rel.stp (R:Rel c env Z s.heap ρ ad) (S:Stp Ω Z s Z' s'):Rel c env Z' s'.heap ρ ad:=R.step S.f (λb o n e=>S.h b o (S.nt n e) e) λb o n e=>S.new b o (S.nt n e) e
theorem Rel.weaken {h:Heap} {ρ':Rho} (R:Rel c env Z h ρ ad) (k:∀(i:Nat) (pv:PV),ρ'[i]?=some (some pv) ->ρ[i]?=some (some pv)):Rel c env Z h ρ' ad where
 kind:=R.kind
 names:=R.names
 glob:=R.glob
 blt:=R.blt
 loc:=zm R.loc λm hn hm=>(zM m hn (λx i pv a b=>hm x i pv a (k _ _ b)))
 cel:=λx kk i a b=>E24 (R.cel x kk i a b) λca ov e hc hz hv=>(I24 ca ov e hc hz (λpv q=>hv pv (k _ _ q)))
 apL:=R.apL
 injS:=R.injS
 injC:=R.injC
 own:=λi xs e=>R.own i xs (k _ _ e)
 ownInj:=λi j xs ys a b=>R.ownInj i j xs ys (k _ _ a) (k _ _ b)
 hi:=λi pv e=>R.hi i pv (k _ _ e)
 slot:=R.slot
 mainL:=R.mainL
theorem zjK {x:Str} {i:Nat} (h:zcm c x=some i):(∃k,c.nm.lookup x=some (k,i)/\ (k= .local \/k= .cell \/k= .free))/\ (x==("__classdict__" :Str))=false:=by
 refine ifN h λhcd h=>⟨?_,Bool.not_eq_true _▸hcd⟩
 clear hcd
 revert h
 induction c.nm.lookup x with
 |none=>exact λh=>zb h
 |some p=>
  induction p with
  |mk k j=>
   induction k using NameKind.casesOn with
   |«local»=>exact λh=>eqE h (zM _ rfl (by decide))
   |cell=>exact λh=>eqE h (zM _ rfl (by decide))
   |free=>exact λh=>eqE h (zM _ rfl (by decide))
   |_=>exact λh=>zb h
theorem zfa (R:Rel c env Z s.heap ρ ad) {x:Str} {i:Nat} {pv:PV} {Q:Value ->Shared ->Prop} {E} (hs:zcm c x=some i) (hx:(x==("__debug__" :Str))=false) (hp:ρ[i]?=some (some pv))
  (h:∀v,zc2 Z ad i v pv ->Q v s):wpAny Ω.m A (loadName env x) Q E s:=by
 refine zR (zjK hs) λq4 hcd=>?_
 refine zm q4 λk hk hk'=>?_
 clear q4
 have hn:=R.names x
 rw [hk] at hn
 rcases hk' with rfl|rfl|rfl
 ·refine cps λG0 hG_0=>?_
  refine zm R.loc λm hns hm=>?_
  refine zm (hm x i pv hk hp) λv hv r=>?_
  refine hG_0 ?_
  exact wpAny_loadName_local R.kind hn hns hv (h v r)
 ·refine cps λG0 hG_0=>?_
  obtain (⟨a,ov,ha,hc,_,hv⟩):=R.cel x _ i hk (.inl rfl)
  obtain (⟨v,rfl,r⟩):=hv pv hp
  refine hG_0 ?_
  exact wpAny_loadName_cell R.kind hn ha hc (h v r)
 ·refine cps λG0 hG_0=>?_
  obtain (⟨a,ov,ha,hc,_,hv⟩):=R.cel x _ i hk (.inr rfl)
  obtain (⟨v,rfl,r⟩):=hv pv hp
  refine hG_0 ?_
  exact wpAny_loadName_free R.kind hn ha hc (h v r) hcd
theorem zdC {d v} {s_2:Shared} (S:Stp Ω Z s Z' s') (p:Pst Ω Z' s' d v s_2):Pst Ω Z s d v s_2:=
 zm p λZ2 S2 r=>(zM Z2 (S.trans S2) r)
theorem zkY {b d} {s_2:Shared} (S:Stp Ω Z s Z' s') (p:za9 Ω Z' s' b d s_2):za9 Ω Z s b d s_2:=
 let ⟨e,Z2,S2⟩:=p;⟨e,Z2,S.trans S2⟩
noncomputable def zdW:List (Str×Value):=[("len",.builtin "len"),("sum",.builtin "sum"),("hex",.builtin "hex"),("max",.builtin "max"),("sorted",.builtin "sorted"),("int",.type "int"),
 ("divmod",.builtin "divmod"),("isinstance",.builtin "isinstance"),("range",.type "range"),("enumerate",.type "enumerate"),("zip",.type "zip"),("reversed",.type "reversed"),
 ("ZeroDivisionError",.type "ZeroDivisionError"),("str",.type "str")]
structure Gl (B:Heap) (Φ:Fs):Prop where
 ns:∃mg mb,B.Ns mainGlobals mg/\ B.Ns builtinsNs mb/\ (∀f k,Φ.fns.lookup f=some k ->mg f=some (.ref (Φ.fa k)))/\
  (∀x d,Φ.cst.lookup x=some d ->∃v,mg x=some v/\ Rep B v d)/\ (∀f v,zdW.lookup f=some v ->mg f=none/\ mb f=some v)
 fn:∀f k,Φ.fns.lookup f=some k ->∃o fd,B.get? (Φ.fa k)=some o/\ o.data= .func fd
 lim:B.NoLimit
 sys:∃o,B.get? sysModules=some o
variable {Φ:Fs}
theorem Gl.lims (G:Gl Ω.B Φ) (h:Ok Ω Z s):s.heap.NoLimit:=
 zm G.lim λmc a b=>(zM mc (a.keeps (h.base.trans h.sub)) b)
theorem zfR {x:Str} (h:zk c x=true):∃i,c.nm.lookup x=some (.globalImplicit,i):=by
 revert h
 unfold zk
 induction c.nm.lookup x with
 |none=>exact λh=>nomatch h
 |some p=>
  induction p with
  |mk k j=>
   induction k using NameKind.casesOn with
   |globalImplicit=>exact λ_=>⟨j,rfl⟩
   |_=>exact λh=>nomatch h
theorem zcn (R:Rel c env Z s.heap ρ ad) {x:Str} {Q:Value ->Shared ->Prop} {E} (hx:zk c x=true) (h:wpAny Ω.m A (loadGlobal env x) Q E s):
  wpAny Ω.m A (loadName env x) Q E s:=by
 refine zO (zfR hx) λi hi=>?_
 have hn:=R.names x
 rw [hi] at hn
 have hn':env.kindOf x=some .globalImplicit:=hn
 unfold loadName
 simp only [Env.blockKind,R.kind,hn',ScopeKind.isAnnotationScope,Bool.false_and,Bool.false_eq_true,if_false]
 exact h
theorem ziD (G:Gl Ω.B Φ) (h:Ok Ω Z s) (R:Rel c env Z s.heap ρ ad) {x:Str} {v:Value} {Q:Value ->Shared ->Prop} {E} (hx:zk c x=true)
  (hv:∀mg,Ω.B.Ns mainGlobals mg ->(∀f k,Φ.fns.lookup f=some k ->mg f=some (.ref (Φ.fa k))) ->(∀x d,Φ.cst.lookup x=some d ->∃v,mg x=some v/\ Rep Ω.B v d) ->∃v,mg x=some v/\ Q v s):
  wpAny Ω.m A (loadName env x) Q E s:=by
 refine E25 G.ns λmg mb h1 h2 h3 h4 h5=>?_
 refine zm (hv mg h1 h3 h4) λv e q=>?_
 refine zcn R hx ?_
 unfold loadGlobal
 refine za R.glob (wB (wpAny_nsGet (h1.keeps (h.base.trans h.sub)) ?_))
 exact za e (wPu q)
theorem zdD (G:Gl Ω.B Φ) (h:Ok Ω Z s) (R:Rel c env Z s.heap ρ ad) {x:Str} {v:Value} {Q:Value ->Shared ->Prop} {E} (hx:zk c x=true)
  (hv:zdW.lookup x=some v) (q:Q v s):wpAny Ω.m A (loadName env x) Q E s:=by
 refine E25 G.ns λmg mb h1 h2 h3 h4 h5=>?_
 refine zR (h5 x v hv) λe1 e2=>?_
 refine zcn R hx ?_
 unfold loadGlobal
 refine za R.glob (za R.blt ?_)
 refine wB (wpAny_nsGet (h1.keeps (h.base.trans h.sub)) ?_)
 refine za e1 (wB (wpAny_nsGet (h2.keeps (h.base.trans h.sub)) ?_))
 exact za e2 (wPu q)
theorem Pst.bind {β:Type} {t:Sem Value} {f:Value ->Sem β} {d:PyData} {Q:β ->Shared ->Prop} {E:Value ->Shared ->Prop} (h:wpAny Ω.m A t (Pst Ω Z s d) zf s)
  (k:∀v s' Z',Stp Ω Z s Z' s' ->Rep Z' v d ->wpAny Ω.m A (f v) Q E s'):wpAny Ω.m A (t>>=f) Q E s:=
 wB (wpAny_mono h (λv s' p=>zm p λZ' S r=>k v s' Z' S r) λu w x=>x.elim)
theorem Pst.then {t:Sem Value} {d:PyData} {Q:Value ->Shared ->Prop} {E:Value ->Shared ->Prop} (h:wpAny Ω.m A t (Pst Ω Z s d) zf s)
  (k:∀v s' Z',Stp Ω Z s Z' s' ->Rep Z' v d ->Q v s'):wpAny Ω.m A t Q E s:=
 wpAny_mono h (λv s' p=>zm p λZ' S r=>k v s' Z' S r) λu w x=>x.elim
theorem za9.then {t:Sem Bool} {b:Bool} {Q:Bool ->Shared ->Prop} {E:Value ->Shared ->Prop} (h:wpAny Ω.m A t (za9 Ω Z s b) zf s)
  (k:∀s' Z',Stp Ω Z s Z' s' ->Q b s'):wpAny Ω.m A t Q E s:=
 wpAny_mono h (λv s' p=>by obtain ⟨e9,Z',S⟩:=p;refine za e9 ?_;exact k s' Z' S) λu w x=>x.elim
theorem zac {t:Sem Value} {d:PyData} (S:Stp Ω Z s Z' s') (h:wpAny Ω.m A t (Pst Ω Z' s' d) zf s'):wpAny Ω.m A t (Pst Ω Z s d) zf s':=
 wpM h (λu v p=>zdC S p)
theorem zbS {t:Sem Bool} {b:Bool} (S:Stp Ω Z s Z' s') (h:wpAny Ω.m A t (za9 Ω Z' s' b) zf s'):wpAny Ω.m A t (za9 Ω Z s b) zf s':=
 wpM h (λu v p=>zkY S p)
theorem Rm.le {m n:Nat} (h:Rm A n) (hm:m<=n):Rm A m:=⟨h.handled,zv (Nat.add_le_add_left hm _) h.depth,zv (Nat.add_le_add_left (Nat.mul_le_mul_left 8 hm) _) h.units⟩
theorem Rm.deep {env:Env} {n:Nat} (h:Rm A (n+1)):Rm (A.deeper env) n:=
 ⟨h.handled,zv (Nat.le_of_eq (Nat.add_right_comm _ 1 n)) h.depth,zv (zv (Nat.le_of_eq (Nat.add_right_comm _ 3 (8*n))) (Nat.add_le_add_left (by decide:3<=8) _)) h.units⟩
theorem Rm.u {n:Nat} (h:Rm A n):A.units<=8000:=zv (Nat.le_add_right _ _) h.units
structure GlC (c:TC) (Φ:Fs):Prop where
 hf:c.fns=Φ.fns
 hc:c.cst=Φ.cst
 hg:c.gen=Φ.gen
end
section
variable (Ω:En) (Φ:Fs)
def za1 (S:Sv) (n:Nat) (T:TC ->PySem.Expr ->Option PE):Prop:=
 ∀c e pe ρ d,T c e=some pe ->S.ex ρ pe=some d ->∀A env Z s ad,Rm A n ->GlC c Φ ->Ok Ω Z s ->Rel c env Z s.heap ρ ad ->
  wpAny Ω.m A (eval e env) (Pst Ω Z s d) zf s
def zex (S:Sv) (n:Nat) (T:TC ->PySem.Expr ->Option PE):Prop:=
 ∀c e pe ρ d b,T c e=some pe ->S.ex ρ pe=some d ->zaI d=some b ->∀A env Z s ad,Rm A n ->GlC c Φ ->Ok Ω Z s ->Rel c env Z s.heap ρ ad ->
  wpAny Ω.m A (isTrue e env (eval e env)) (za9 Ω Z s b) zf s
def zkZ (S:Sv) (n:Nat):Prop:=
 ∀k args d,S.call k args=some d ->∀A Z s vals,(∃f,Φ.fns.lookup f=some k) ->Rm A n ->Ok Ω Z s ->zC Z vals args ->wpAny Ω.m A (call (.ref (Φ.fa k)) vals) (Pst Ω Z s d) zf s
end
theorem zav {e:PySem.Expr} {rest:List PySem.Expr} {env:Env} (h:zcw e=false):starEach (e::rest) env=(false,eval e env)::starEach rest env:=by
 cases e<;>first|rfl|exact Bool.noConfusion h
theorem zhT {op:CmpOp} {e:PySem.Expr} (h:zda e=false):behindInMarks op e=false:=by
 cases e<;>first|exact Eq.refl false|exact Bool.noConfusion h
theorem zfb {e:PySem.Expr} {env:Env} (h:zda e=false) (x:Value):foldedSetIterable e env x=pure x:=by
 cases e<;>first|exact Eq.refl (pure x)|exact Bool.noConfusion h
set_option tactic.hygienic true in
theorem zcx {o:PySem.Expr} {m:Str} {env:Env} (h:zbQ o=true) (t:Sem Value):attributeBase o m env t=t:=by
 cases o<;>first|exact Eq.refl t|skip
 rename_i f args kws p
 induction args using List.casesOn with
 |nil=>exact Bool.noConfusion h
 |cons a as=>cases f<;>exact Eq.refl t
theorem za5 {n:Nat} {c:TC} {e:PySem.Expr} {pe:PE} (h:tr n c e=some pe):zcw e=false:=by
 induction n using Nat.casesOn with
 |zero=>exact zb h
 |succ n=>cases e<;>first|exact Eq.refl false|exact zb h
theorem zjL {n:Nat} {c:TC} {e:PySem.Expr} {pe:PE} (h:tr n c e=some pe):∀a b d p,e≠ .Slice a b d p:=by
 rintro a b d p rfl
 induction n<;>exact zb h
theorem zur {T:TC ->PySem.Expr ->Option PE} {c:TC} {P:PySem.Expr ->Prop} {e:PySem.Expr} {pe:PE} {i:Nat} (t:zS T c e pe) (h:pE none pe (v:=some)=some i)
  (k:∀x p,(x==("__debug__" :Str))=false ->zcm c x=some i ->P (.Name x p)):P e:=by
 induction t with
 |name hd hs=>cases Option.some.inj h;exact k _ _ hd hs
 |_=>exact zb h
theorem zvQ {n:Nat} {c:TC} {e:PySem.Expr} {i:Nat} (h:tr n c e=some (.v i)):∃x p,e= .Name x p/\ zcm c x=some i/\ (x==("__debug__" :Str))=false:=by
 induction n using Nat.casesOn with
 |zero=>exact zb h
 |succ n=>exact zur (P:=λe=>∃x p,e= .Name x p/\ zcm c x=some i/\ (x==("__debug__" :Str))=false) (zbm h) rfl λx p hd hs=>I23 x p rfl hs hd
section
variable {Ω:En} {A:Around} {Z Z':Heap} {s s':Shared} {c:TC} {env:Env} {ρ:Rho} {ad:Nat ->Addr}
 {Φ:Fs} {S:Sv} {n m:Nat}
def zvR (Ω:En) (Z:Heap) (s:Shared) (ds:List PyData):List Value ->Shared ->Prop:=
 λvs s'=>∃Z',Stp Ω Z s Z' s'/\ zC Z' vs ds
theorem zcM (IH:za1 Ω Φ S n (tr m)) (hA:Rm A n) (hG:GlC c Φ) {pos:Pos}:∀{es:List PySem.Expr} {pes:List PE} {ds:List PyData} {s:Shared} {Z:Heap},
  zN (tr m c) es=some pes ->exs S ρ pes=some ds ->Ok Ω Z s ->Rel c env Z s.heap ρ ad ->
  wpAny Ω.m A (spliced (backTo pos (starEach es env))) (zvR Ω Z s ds) zf s
 | [],pes,ds,s,Z,h1,h2,hO,hR=>by
  cases h1;refine eqE h2 ?_
  exact wPu (zM Z (Stp.refl hO) .nil)
 |e::es,pes,ds,s,Z,h1,h2,hO,hR=>by
  refine zc h1 λpe he h1=>?_
  refine zm (Option.map_eq_some_iff.mp h1) λpes' hes e9=>?_;subst e9
  refine zc h2 λd hd h2=>?_
  refine zm (Option.map_eq_some_iff.mp h2) λds' hds e9=>?_;refine za e9.symm ?_
  refine za (zav (za5 he)) ?_
  show wpAny _ _ (do let v <-eval e env;let here <-pure [v];return here++(<-holding here (spliced (backTo pos (starEach es env))))) _ _ _
  refine Pst.bind (IH c e pe ρ d he hd A env Z s ad hA hG hO hR) λv s_1 Z_1 S_1 r_1=>?_
  refine wB (wPu (wB (wpAny_holding (wpM (zcM IH hA hG hes hds S_1.ok (hR.stp S_1)) (λvs s_2 p=>?_)))))
  refine zm p λZ_2 S_2 r_2=>?_
  clear p
  exact wPu (zM Z_2 (S_1.trans S_2) (.cons (r_1.mono S_2.f) r_2))
theorem z7 (IH:za1 Ω Φ S n (tr m)) (hA:Rm A n) (hG:GlC c Φ) {pos:Pos} {f:Value} {es:List PySem.Expr} {pes:List PE} {ds:List PyData} {Q:Args ->Shared ->Prop} {E}
  (h1:zN (tr m c) es=some pes) (h2:exs S ρ pes=some ds) (hO:Ok Ω Z s) (hR:Rel c env Z s.heap ρ ad)
  (h:∀vs s' Z',Stp Ω Z s Z' s' ->zC Z' vs ds ->Q ⟨vs,[]⟩ s'):
  wpAny Ω.m A (evalArgs f true (backTo pos (starEach es env)) []) Q E s:=by
 have key:=zcM (pos:=pos) IH hA hG h1 h2 hO hR
 induction es using List.casesOn with
 |nil=>
  cases h1;cases h2
  exact PySem.evalArgs_none (h [] s Z (Stp.refl hO) .nil)
 |cons e es=>
  have he:zcw e=false:=by
   refine zc h1 λpe he u=>?_
   exact za5 he
  rw [zav he] at key |-
  refine Calls.evalArgs_plain (wpAny_mono key (λvs s' p=>?_) λu v x=>x.elim)
  refine zm p λZ' S' r=>?_
  clear p
  exact h vs s' Z' S' r
theorem zbo (pos:Pos):∀{es:List PySem.Expr} {pes:List PE},zN (tr m c) es=some pes ->(backTo pos (starEach es env)).any (·.1)=false
 | [],_,_=>rfl
 |e::es,pes,h=>by
  refine zc h λpe he h1=>?_
  refine zm (Option.map_eq_some_iff.mp h1) λpes' hes e9=>?_;refine za e9 ?_
  refine za (zav (za5 he)) ?_
  show (false|| (backTo pos (starEach es env)).any (·.1))=false
  refine za (zbo pos hes) ?_;rfl
theorem pVE {α:Type} {o:Option (Option PV)} {f g:_ ->Option α} {r:α} {P:Option (Option PV) ->Prop} (h:pV none o f g=some r) (k1:∀x,f x=some r ->P (some (some (.d x)))) (k2:∀x,g x=some r ->P (some (some (.m x)))):P o:=by
 cases o with
 |none=>exact zb h
 |some o=>
  cases o with
  |none=>exact zb h
  |some v=>
   cases v with
   |d x=>exact k1 x h
   |m x=>exact k2 x h
theorem zk0 (IH:za1 Ω Φ S n (tr m)) (hA:Rm A n) (hG:GlC c Φ) (G:Gl Ω.B Φ) {e:PySem.Expr} {pe:PE} {d:PyData} (h1:tr m c e=some pe) (h2:rcv S ρ pe=some d)
  (hO:Ok Ω Z s) (hR:Rel c env Z s.heap ρ ad):
  wpAny Ω.m A (eval e env) (λv s'=>∃Z',Stp Ω Z s Z' s'/\ zbg Z' s'.heap v d) zf s:=by
 have go:S.ex ρ pe=some d ->wpAny Ω.m A (eval e env) (λv s'=>∃Z',Stp Ω Z s Z' s'/\ zbg Z' s'.heap v d) zf s:=λh2=>wpM (IH c e pe ρ d h1 h2 A env Z s ad hA hG hO hR) (λv s' p=>zm p λZ' S' r=>(zM Z' S' (.inl r)))
 cases pe with
 |v i=>
  refine E23 (zvQ h1) λx p e9 hs hx=>za e9 ?_
  refine pVE (P:=λo=>ρ[i]?=o ->_) h2 (λy e hp=>?_) (λxs e hp=>?_) rfl
  ·refine eqE e ?_
   exact wpAny_Name (zfa hR hs hx hp λv r=>zM Z (Stp.refl hO) (.inl r)) hx
  ·refine eqE e ?_
   refine wpAny_Name (zfa hR hs hx hp λv r=>zM Z (Stp.refl hO) (.inr ?_)) hx
   refine E23 (hR.own i xs hp) λvs n' e' r' _=>?_
   exact I44 (ad i) vs n' xs rfl r e' r'
 |_=>exact go h2
theorem zso (IH:za1 Ω Φ S n (tr m)) (hA:Rm A n) (hG:GlC c Φ) {op l r pos a b d} (h1:tr m c l=some a) (h2:tr m c r=some b)
  (hd:((S.ex ρ a).bind λx=>(S.ex ρ b).bind λy=>zaZ op x y)=some d) (hO:Ok Ω Z s) (hR:Rel c env Z s.heap ρ ad):
  wpAny Ω.m A (eval (.BinOp l op r pos) env) (Pst Ω Z s d) zf s:=by
 refine zc hd λx hx hd=>?_
 refine zc hd λy hy hd=>?_
 refine wpAny_BinOp (Pst.then (IH c l a ρ x h1 hx A env Z s ad hA hG hO hR) λv s_1 Z_1 S_1 r_1=>?_)
 refine Pst.then (IH c r b ρ y h2 hy A env Z_1 s_1 ad hA hG S_1.ok (hR.stp S_1)) λu s_2 Z_2 S_2 r_2=>?_
 exact zac (S_1.trans S_2) (zix hA.handled S_2.ok (r_1.mono S_2.f) r_2 hd)
theorem znX (IH:za1 Ω Φ S n (tr m)) (hA:Rm A n) (hG:GlC c Φ) {op x pos a d y} (h1:tr m c x=some a) (hy:S.ex ρ a=some y)
  (hO:Ok Ω Z s) (hR:Rel c env Z s.heap ρ ad) (k:∀v s' Z',Ok Ω Z' s' ->Rep Z' v y ->wpAny Ω.m A (unaryOp op v) (Pst Ω Z' s' d) zf s'):
  wpAny Ω.m A (eval (.UnaryOp op x pos) env) (Pst Ω Z s d) zf s:=by
 show wpAny _ _ (do let v <-eval x env;standAt pos;holding [v] (unaryOp op v)) _ _ _
 refine Pst.bind (IH c x a ρ y h1 hy A env Z s ad hA hG hO hR) λv s_1 Z_1 S_1 r_1=>?_
 exact wB (wpAny_standAt (wpAny_holding (zac S_1 (k v s_1 Z_1 S_1.ok r_1))))
theorem znY (IH:za1 Ω Φ S n (tr m)) (hA:Rm A n) (hG:GlC c Φ) (G:Gl Ω.B Φ) {op l r a b d} (hs:zda r=false) (h1:tr m c l=some a) (h2:tr m c r=some b)
  (hd:((rcv S ρ a).bind λx=>(S.ex ρ b).bind λy=>(znu op x y).map PyData.bool)=some d) (hO:Ok Ω Z s) (hR:Rel c env Z s.heap ρ ad):
  ∃bb:Bool,d=PyData.bool bb/\ wpAny Ω.m A (eval l env) (λv s_1=>wpAny Ω.m A (eval r env) (λu s_2=>wpAny Ω.m A (compareOp op v u) (Pst Ω Z s (.bool bb)) zf s_2) zf s_1) zf s:=by
 refine zc hd λx hx hd=>?_
 refine zc hd λy hy hd=>?_
 refine zP hd λbb hb e_0=>?_
 (first|refine zkP e_0 ?_|subst e_0)
 refine zM bb rfl (wpAny_mono (zk0 IH hA hG G h1 hx hO hR) (λv s_1 p=>?_) λ_ _ q=>q)
 refine zm p λZ_1 S_1 r_1=>?_
 clear p
 refine Pst.then (IH c r b ρ y h2 hy A env Z_1 s_1 ad hA hG S_1.ok (hR.stp S_1)) λu s_2 Z_2 S_2 r_2=>?_
 exact zac (S_1.trans S_2) (znB S_2.ok hA.u (r_1.mono S_2.f S_2.hn) r_2 hb)
theorem zsp {o:Option (Option PV)} {d:PyData} (h:pV none o some (λ_=>none)=some d):o=some (some (.d d)):=pVE (P:=λo=>o=some (some (.d d))) h (λx e=>eqE e rfl) λ_=>zb
theorem zsq (hA:Rm A n) {x pos i d} (hx:(x==("__debug__" :Str))=false) (hi:zcm c x=some i) (hd:zc7 S ρ (.v i)=some d) (hO:Ok Ω Z s) (hR:Rel c env Z s.heap ρ ad):
  wpAny Ω.m A (eval (.Name x pos) env) (Pst Ω Z s d) zf s:=
 wpAny_Name (zfa hR hi hx (zsp hd) λv r=>zA hO r) hx
theorem zp4 (hG:GlC c Φ) (G:Gl Ω.B Φ) {x pos d0 d} (hx:(x==("__debug__" :Str))=false) (hg:zk c x=true) (hc:c.cst.lookup x=some d0)
  (hd:zc7 S ρ (.c d0)=some d) (hO:Ok Ω Z s) (hR:Rel c env Z s.heap ρ ad):wpAny Ω.m A (eval (.Name x pos) env) (Pst Ω Z s d) zf s:=by
 refine eqE hd ?_
 refine wpAny_Name (ziD (v:= .none) G hO hR hg λmg _ _ hm=>?_) hx
 refine zm (hm x _ (by refine zF hG.hc ?_;exact hc)) λv hv r=>?_
 exact zM v hv (zA hO (r.mono hO.base))
theorem zjM {e:PySem.Expr} {d b} (h:wpAny Ω.m A (eval e env) (Pst Ω Z s d) zf s) (hb:zaI d=some b)
  (he:isTrue e env (eval e env)=(do let v <-eval e env;standAt e.pos;holding [v] (truthy v))):
  wpAny Ω.m A (isTrue e env (eval e env)) (za9 Ω Z s b) zf s:=by
 refine za he (Pst.bind h λv s_1 Z_1 S_1 r_1=>?_)
 exact wB (wpAny_standAt (wpAny_holding (zbS S_1 (zep S_1.ok (.inl r_1) hb))))
def zey (Ω:En) (s:Shared) (v:Value):Prop:=∃T id,s.TypeIs v T/\ typeLookup (.type T) "__getitem__" =pure (some (.builtin id))
theorem zhU {v:Value} {xs:List PyData} (hO:Ok Ω Z s) (r:zbg Z s.heap v (.list xs)):zey Ω s v:=by
 refine E33 (r.list hO.sub) λ_ _ _ e9 e _=>?_;refine za e9 ?_
 exact I22 "list" _ (zM _ e rfl) slot_list_getitem.lookup
theorem zjN {v:Value} {xs:List PyData} (hO:Ok Ω Z s) (r:Rep Z v (.tuple xs)):zey Ω s v:=by
 refine E33 (zbi.mp r) λa vs n e9 e _=>?_;refine za e9 ?_
 exact I22 "tuple" _ (zM _ (hO.sub _ _ e) rfl) slot_tuple_getitem.lookup
theorem zjO {v:Value} {x:Str} (r:Rep Z v (.str x)):zey Ω s v:=by
 refine zb6 r λt=>?_
 exact I22 "str" _ (typeIs_str _ _ _) F.slot_str_getitem.lookup
theorem ziE (Ω:En) (hO:Ok Ω Z s) {v:Value} {d di x:PyData} (r:zbg Z s.heap v d) (hd:zbf d di=some x):zey Ω s v:=by
 induction d using PyData.casesOn with
 |list xs=>exact zhU hO r
 |tuple xs=>exact zjN hO (r.other nofun)
 |str y=>exact zjO (r.other nofun)
 |dict kvs=>
  obtain ⟨a,e9,_,f,hm,_⟩:=zc4.mp (r.other nofun);refine za e9 ?_
  refine E33 (hm Ω.prog Ω.w) λo es ep ho hx _=>?_
  exact I22 "dict" _ (zM _ (hO.sub _ _ ho) hx.1) slot_dict_getitem.lookup
 |_=>exact zb hd
theorem zk1 (Ω:En) (hO:Ok Ω Z s) {v:Value} {d x:PyData} {lo hi st} (r:Rep Z v d) (hd:zbY d lo hi st=some x):zey Ω s v:=by
 induction d using PyData.casesOn with
 |list xs=>exact zhU hO (.inl r)
 |tuple xs=>exact zjN hO r
 |str y=>exact zjO r
 |_=>exact zb hd
theorem zfS {slice:PySem.Expr} (h:∀a b d p,slice≠ .Slice a b d p) (o i:Value):subscripted slice false o i=operate [o,i] (getItem o i):=by
 cases slice<;>first|rfl|exact absurd rfl (h _ _ _ _)
theorem zsr (IH:za1 Ω Φ S n (tr m)) (hA:Rm A n) (hG:GlC c Φ) (G:Gl Ω.B Φ) {v i pos a b d} (h1:tr m c v=some a) (h2:tr m c i=some b)
  (hd:((rcv S ρ a).bind λx=>(S.ex ρ b).bind λy=>zbf x y)=some d) (hO:Ok Ω Z s) (hR:Rel c env Z s.heap ρ ad):
  wpAny Ω.m A (eval (.Subscript v i pos) env) (Pst Ω Z s d) zf s:=by
 refine zc hd λx hx hd=>zc hd λy hy hd=>Subscript_ (wpAny_mono (zk0 IH hA hG G h1 hx hO hR) (λo s_1 p=>?_) λw z q=>q)
 refine zm p λZ_1 S_1 r_1=>?_
 clear p
 refine Pst.then (IH c i b ρ y h2 hy A env Z_1 s_1 ad hA hG S_1.ok (hR.stp S_1)) λu s_2 Z_2 S_2 r_2=>?_
 have r_1':=r_1.mono S_2.f S_2.hn
 refine E22 (ziE Ω S_2.ok r_1' hd) λT id hT hl=>?_
 exact tail_any hT hl (zac (S_1.trans S_2) (zsf S_2.ok r_1' r_2 hd)) (zfS (zjL h2) _ _)
theorem ziF (IH:za1 Ω Φ S n (tr m)) (hA:Rm A n) (hG:GlC c Φ) {o:Option PySem.Expr} {po:Option PE} {k:Option Int} (h1:trO (tr m) c o=some po) (h2:zgi S ρ po=some k)
  (hO:Ok Ω Z s) (hR:Rel c env Z s.heap ρ ad):
  wpAny Ω.m A (valueOrNone (evalOpt o env)) (λv s'=>∃Z',Stp Ω Z s Z' s'/\ IsPart v k) zf s:=by
 induction o with
 |none=>
  cases h1;refine eqE h2 ?_
  exact wPu (zM Z (Stp.refl hO) .none)
 |some e=>
  refine zP h1 λpe he e1=>?_
  induction e1
  refine zc h2 λd hd h2=>Pst.then (IH c e pe ρ d he hd A env Z s ad hA hG hO hR) λv s' Z' S' r=>?_
  cases d<;>first|exact zb h2|skip
  refine eqE h2 ?_
  refine zcr r λt=>?_
  exact zM Z' S' (.int _ _)
theorem zus (IH:za1 Ω Φ S n (tr m)) (hA:Rm A n) (hG:GlC c Φ) {v lo hi st p pos a plo phi pst d} (h1:tr m c v=some a) (h2:trO (tr m) c lo=some plo) (h3:trO (tr m) c hi=some phi) (h4:trO (tr m) c st=some pst)
  (hd:((S.ex ρ a).bind λx=>(zgi S ρ plo).bind λl=>(zgi S ρ phi).bind λh=>(zgi S ρ pst).bind λk=>zbY x l h k)=some d) (hO:Ok Ω Z s) (hR:Rel c env Z s.heap ρ ad):
  wpAny Ω.m A (eval (.Subscript v (.Slice lo hi st p) pos) env) (Pst Ω Z s d) zf s:=by
 refine zc hd λx hx hd=>zc hd λl hl hd=>zc hd λh hh hd=>zc hd λk hk hd=>Subscript_ (Pst.then (IH c v a ρ x h1 hx A env Z s ad hA hG hO hR) λo s_1 Z_1 S_1 r_1=>?_)
 show wpAny _ _ (do
  let l <-valueOrNone (evalOpt lo env)
  let u <-holding [l] (valueOrNone (evalOpt hi env))
  let s <-holding [l,u] (valueOrNone (evalOpt st env))
  newFields "slice" [l,u,s]) _ _ _
 refine wB (wpAny_mono (ziF IH hA hG h2 hl S_1.ok (hR.stp S_1)) (λvl s_2 p=>?_) λw y q=>q.elim)
 refine zm p λZ_2 S_2 pl=>?_
 clear p
 refine wB (wpAny_holding (wpAny_mono (ziF IH hA hG h3 hh S_2.ok ((hR.stp S_1).stp S_2)) (λvu s_3 p=>?_) λw y q=>q.elim))
 refine zm p λZ_3 S_3 pu=>?_
 clear p
 refine wB (wpAny_holding (wpAny_mono (ziF IH hA hG h4 hk S_3.ok (((hR.stp S_1).stp S_2).stp S_3)) (λvs s_4 p=>?_) λw y q=>q.elim))
 refine zm p λZ_4 S_4 ps=>?_
 clear p
 refine wpAny_newObj_type ?_ (by show 3<=sizeLine+2;decide)
 have S_5:Stp Ω Z_4 s_4 Z_4 {s_4 with heap:=s_4.heap.push {cls:= .type "slice",data:= .fields [vl,vu,vs].toArray}}:=Stp.grow (n:=s_4.toks) S_4.ok (Sub.push _ _)
 have hs:(s_4.heap.push {cls:= .type "slice",data:= .fields [vl,vu,vs].toArray}).IsSliceOf s_4.heap.objs.size vl vu vs:=I13 _ (Heap.get?_push_size _ rfl) rfl rfl
 have r_4:=((r_1.mono S_2.f).mono S_3.f).mono S_4.f
 refine E22 (zk1 Ω S_5.ok r_4 hd) λT id hT hlk=>?_
 have key:=znD (Ω:=Ω) (A:=A) S_5.ok r_4 hs pl pu ps hd
 have S_15:=(((S_1.trans S_2).trans S_3).trans S_4).trans S_5
 induction st with
 |none=>exact tail_any hT hlk (zac S_15 key) rfl
 |some e=>exact tail_any hT hlk (zac S_15 key) rfl
theorem zk2:∀p∈zlJ,zdW.lookup p.1=some (biF p.2.1):=by decide+kernel
theorem zss {f:Str} {args:List PySem.Expr} {b:BI} (h:zp2 f args=some b):zdW.lookup f=some (biF b):=
 zc h λp hp h=>ifE h λu e=>by refine eqE e ?_;exact zk2 _ (zbj hp)
theorem znZ (IH:za1 Ω Φ S n (tr m)) (IC:zkZ Ω Φ S n) (hA:Rm A n) (hG:GlC c Φ) (G:Gl Ω.B Φ) {f p pos} {args:List PySem.Expr} {pes:List PE} {k:Nat} {d}
  (hdb:(f==("__debug__" :Str))=false) (hg:zk c f=true) (hk:c.fns.lookup f=some k)
  (h1:zN (tr m c) args=some pes) (hd:((exs S ρ pes).bind λxs=>S.call k xs)=some d) (hO:Ok Ω Z s) (hR:Rel c env Z s.heap ρ ad):
  wpAny Ω.m A (eval (.Call (.Name f p) args [] pos) env) (Pst Ω Z s d) zf s:=by
 refine zc hd λds hds hd=>?_
 have hk':Φ.fns.lookup f=some k:=by refine zF hG.hf ?_;exact hk
 refine wpAny_Call_NameR (wpAny_Name (ziD (v:= .none) G hO hR hg λmg _ hf _=>zM (.ref (Φ.fa k)) (hf f k hk') ?_) hdb)
 refine E22 (G.fn f k hk') λo fd ho hof=>?_
 refine Calls.callWith_function (z7 IH hA hG h1 hds hO hR λvs s_1 Z_1 S_1 r_1=>⟨⟨S_1.ok.sub _ _ (S_1.ok.base _ _ ho),hof⟩,?_⟩)
 exact zac S_1 (IC k ds d hd A Z_1 s_1 vs ⟨f,hk'⟩ hA S_1.ok r_1)
theorem zhV {b:BI} {pes:List PE} {d} (h:zc7 S ρ (.bi b pes)=some d):(∃a,b= .len/\ pes=[a]/\ ((rcv S ρ a).bind λx=>biD .len [x])=some d) \/((exs S ρ pes).bind λxs=>biD b xs)=some d:=by
 induction b
 case len=>
  match pes,h with
  | [],h=>exact .inr h
  | [a],h=>exact .inl (I13 a rfl rfl h)
  |_::_::_,h=>exact .inr h
 all_goals exact .inr h
theorem zmH {α β:Type} {f:α ->Option β} {l:List α} {y:β} (h:zN f l=some [y]):∃x,l=[x]/\ f x=some y:=by
 match l,h with
 | [],h=>cases h
 | [x],h=>exact zc h λz hz h=>zP h λu e e1=>by refine eqE e ?_;cases e1;exact zM x rfl hz
 |_::_::_,h=>exact zc h λz u h=>zP h λu h e1=>zc h λu v h=>zP h λu v e2=>by induction e2;exact nomatch e1
theorem zst (IH:za1 Ω Φ S n (tr m)) (hA:Rm A n) (hG:GlC c Φ) (G:Gl Ω.B Φ) {pos:Pos} {args:List PySem.Expr} {a:PE} {d:PyData} (h1:zN (tr m c) args=some [a]) (hd:((rcv S ρ a).bind zpT)=some d) (hO:Ok Ω Z s) (hR:Rel c env Z s.heap ρ ad):
  wpAny Ω.m A (evalArgs (.builtin "len") true (backTo pos (starEach args env)) []) (λa s_1=>wpAny Ω.m A (call (.builtin "len") a.pos a.kw) (Pst Ω Z s d) zf s_1) zf s:=by
 refine zm (zmH h1) λe e9 he=>?_;refine za e9 ?_
 refine zc hd λx hx hd=>?_
 refine za (zav (za5 he)) (Calls.evalArgs_plain ?_)
 show wpAny _ _ (do let v <-eval e env;let here <-pure [v];return here++(<-holding here (spliced []))) _ _ _
 refine wB (wpAny_mono (zk0 IH hA hG G he hx hO hR) (λv s_1 p=>?_) λu w q=>q.elim)
 refine zm p λZ_1 S_1 r_1=>?_
 clear p
 exact wB (wPu (wB (wpAny_holding (wPu (wPu (zac S_1 (znE S_1.ok r_1 hd)))))))
theorem zut (IH:za1 Ω Φ S n (tr m)) (hA:Rm A n) (hG:GlC c Φ) (G:Gl Ω.B Φ) {f p pos} {args:List PySem.Expr} {pes:List PE} {b:BI} {d}
  (hdb:(f==("__debug__" :Str))=false) (hg:zk c f=true) (hb:zp2 f args=some b)
  (h1:zN (tr m c) args=some pes) (hd:zc7 S ρ (.bi b pes)=some d) (hO:Ok Ω Z s) (hR:Rel c env Z s.heap ρ ad):
  wpAny Ω.m A (eval (.Call (.Name f p) args [] pos) env) (Pst Ω Z s d) zf s:=by
 have ht:=zss hb
 refine wpAny_Call_NameR (wpAny_Name (zdD G hO hR hg ht ?_) hdb)
 by_cases hbi:b= .int
 ·subst hbi
  refine Or.elim (zhV hd) (λh9=>by refine zm h9 λa e1 _=>?_;clear h9;exact nomatch e1) λhd=>?_
  refine zc hd λds hds hd=>?_
  refine PySem.callWith_type (zbo pos h1) (z7 IH hA hG h1 hds hO hR λvs s_1 Z_1 S_1 r_1=>?_)
  exact zac S_1 (zrH (b:= .int) S_1.ok hA.handled r_1 hd)
 have hbf:∃x,biF b= .builtin x:=by induction b<;>first|exact ⟨_,rfl⟩|exact absurd rfl hbi
 refine zO hbf λx hx=>?_
 clear hbf
 refine za hx (Calls.callWith_builtin (zbo pos h1) ?_)
 refine zF hx ?_
 have main:((exs S ρ pes).bind λxs=>biD b xs)=some d ->wpAny Ω.m A (evalArgs (biF b) true (backTo pos (starEach args env)) []) (λa s_1=>wpAny Ω.m A (call (biF b) a.pos a.kw) (Pst Ω Z s d) zf s_1) zf s:=λhd=>
  zc hd λds hds hd=>z7 IH hA hG h1 hds hO hR λvs s_1 Z_1 S_1 r_1=>by
   have:=zrH (Ω:=Ω) (A:=A) S_1.ok hA.handled r_1 hd
   exact zac S_1 this
 refine Or.elim (zhV hd) (λh9=>?_) λhd=>?_
 ·refine E13 h9 λa e90 e91 hd=>?_
  clear h9;obtain rfl:=e90.symm;obtain rfl:=e91.symm
  exact zst IH hA hG G h1 hd hO hR
 ·exact main hd
theorem zk3:∀p∈zlK,p.1=ziB p.2:=by decide+kernel
theorem zlO {k:Str} {m:ME} (h:znI k=some m):k=ziB m:=zk3 _ (zbj h)
theorem zuu (IH:za1 Ω Φ S n (tr m)) (hA:Rm A n) (hG:GlC c Φ) {o:PySem.Expr} {k:Str} {apos pos} {args:List PySem.Expr} {pa:PE} {pes:List PE} {b:ME} {d}
  (hp:zbQ o=true) (hl:(apos.endLine==pos.line)=true) (hn:args.length<29) (hk:znI k=some b) (h0:tr m c o=some pa) (h1:zN (tr m c) args=some pes)
  (hd:((S.ex ρ pa).bind λx=>(exs S ρ pes).bind λxs=>meD b x xs)=some d) (hO:Ok Ω Z s) (hR:Rel c env Z s.heap ρ ad):
  wpAny Ω.m A (eval (.Call (.Attribute o k apos) args [] pos) env) (Pst Ω Z s d) zf s:=by
 refine zc hd λx hx hd=>zc hd λds hds hd=>?_
 have hns:=zbo (env:=env) pos h1
 refine wpAny_Call_method_lateS (zcx hp _) ?_ hl ?_
 ·have e1:(backTo pos (starEach args env)).all (λx=> !x.1)=true:=by
   refine za List.all_eq_not_any_not ?_;simp only [Bool.not_not,hns];rfl
  exact za e1 (decide_eq_true (Nat.lt_succ_of_lt hn))
 refine Pst.then (IH c o pa ρ x h0 hx A env Z s ad hA hG hO hR) λv s_1 Z_1 S_1 r_1=>?_
 refine E21 (znH hd) λT id hid=>?_
 refine za (zlO hk) (E05 (zlI Ω S_1.ok r_1 hid) λq1 q2 q3 q4 q5=>?_)
 refine I26 T id q1 q2 q3 q4 q5 ?_
 refine Calls.callWith_builtin hns (z7 IH hA hG h1 hds S_1.ok (hR.stp S_1) λvs s_2 Z_2 S_2 r_2=>?_)
 exact zac (S_1.trans S_2) (zul S_2.ok hA.handled hA.u hid (r_1.mono S_2.f) r_2 hd)
end
theorem zb8 {α β:Type} {f:α ->Option β}:∀{l:List α} {r:List β},zN f l=some r ->r.length=l.length
 | [],r,h=>by refine eqE h ?_;rfl
 |x::l,r,h=>by
  refine zc h λy _ h=>?_
  refine zm (Option.map_eq_some_iff.mp h) λr' h' e9=>?_;refine za e9.symm ?_
  simp [zb8 h']
theorem zed {S:Sv} {ρ:Rho}:∀{l:List PE} {r:List PyData},exs S ρ l=some r ->r.length=l.length
 | [],r,h=>by refine eqE h ?_;rfl
 |x::l,r,h=>by
  refine zc h λy _ h=>?_
  refine zm (Option.map_eq_some_iff.mp h) λr' h' e9=>?_;refine za e9.symm ?_
  simp [zed h']
section
variable {Ω:En} {A:Around} {Z Z':Heap} {s s':Shared} {c:TC} {env:Env} {ρ:Rho} {ad:Nat ->Addr}
 {Φ:Fs} {S:Sv} {n m:Nat}
theorem zgr {xs:List PyData} {v:Value} {s_2:Shared} (S':Stp Ω Z s Z' s') (p:zes Ω Z' s' xs v s_2):zes Ω Z s xs v s_2:=by
 refine cps λG0 hG_0=>?_
 refine E46 p λZ2 a vs n S2 e9 h1 h2 h3 r=>?_
 clear p;obtain rfl:=e9.symm
 refine hG_0 ?_
 refine I46 Z2 a vs n (S'.trans S2) rfl ?_ h2 h3 r
 exact S'.fresh h1
theorem zez (IH:za1 Ω Φ S n (tr m)) (hA:Rm A n) (hG:GlC c Φ) {es pos pes ds} (hl:es.length<=1000) (h1:zN (tr m c) es=some pes) (hd:exs S ρ pes=some ds)
  (hO:Ok Ω Z s) (hR:Rel c env Z s.heap ρ ad):
  wpAny Ω.m A (eval (.List es pos) env) (zes Ω Z s ds) zf s:=by
 refine List_ (wpM (zcM IH hA hG h1 hd hO hR) (λvs s_1 p=>?_))
 refine zm p λZ_1 S_1 r_1=>?_
 clear p
 have hlen:vs.length<=sizeLine:=by
  refine za r_1.length ?_;refine za (zed hd) ?_;refine za (zb8 h1) ?_;exact zv hl (by decide)
 refine wpAny_newList ?_ hlen
 exact zgr S_1 (zbP (n:=s_1.toks) S_1.ok (vs:=vs.toArray) (by simpa using r_1))
theorem zdX (IH:za1 Ω Φ S n (tr m)) (hA:Rm A n) (hG:GlC c Φ) {es k pos pes ds} (hl:es.length<=1000) (h1:zN (tr m c) es=some pes) (hd:exs S ρ pes=some ds)
  (hO:Ok Ω Z s) (hR:Rel c env Z s.heap ρ ad):
  wpAny Ω.m A (eval (.Tuple es k pos) env) (Pst Ω Z s (.tuple ds)) zf s:=by
 refine Tuple_ (wpM (zcM IH hA hG h1 hd hO hR) (λvs s_1 p=>?_))
 refine zm p λZ_1 S_1 r_1=>?_
 clear p
 have hlen:vs.length<=sizeLine:=by
  refine za r_1.length ?_;refine za (zed hd) ?_;refine za (zb8 h1) ?_;exact zv hl (by decide)
 refine wpAny_newTuple ?_ hlen
 exact zdC S_1 (zdT S_1.ok (vs:=vs.toArray) (n:=s_1.toks) (by simpa using r_1))
theorem zgs (IH:za1 Ω Φ S n (tr m)) (hA:Rm A n) (hG:GlC c Φ) {pos:Pos}:∀{es:List PySem.Expr} {pes:List PE} {d:PyData} {s:Shared} {Z:Heap},
  zN (tr m c) es=some pes ->zgf S ρ pes=some d ->Ok Ω Z s ->Rel c env Z s.heap ρ ad ->
  wpAny Ω.m A (boolOp pos .And (evalEach es env)) (Pst Ω Z s d) zf s
 | [],pes,d,s,Z,h1,h2,hO,hR=>by cases h1;exact zb h2
 | [e],pes,d,s,Z,h1,h2,hO,hR=>by
  refine zc h1 λpe he h1=>?_
  cases h1
  exact IH c e pe ρ d he h2 A env Z s ad hA hG hO hR
 |e::e'::es,pes,d,s,Z,h1,h2,hO,hR=>by
  refine zc h1 λpe he h1=>?_
  refine cps λG0 hG_0=>?_
  refine zm (Option.map_eq_some_iff.mp h1) λpes' hes e9=>?_;subst e9
  obtain ⟨pe2,pes2,rfl⟩:∃a b,pes'=a::b:=by
   refine zc hes λa _ h=>?_
   refine zP h λb _ e_0=>?_
   (first|refine zkP e_0 ?_|subst e_0)
   exact I21 _ _ rfl
  refine hG_0 ?_
  change ((S.ex ρ pe).bind λd=>(zaI d).bind λb=>if b then zgf S ρ (pe2::pes2) else some d)=some d at h2
  refine zc h2 λx hx h2=>?_
  refine zc h2 λb hb h2=>?_
  show wpAny _ _ (do
   let v <-eval e env
   standAt pos
   let t <-holding [v] (truthy v)
   match BoolOp.And,t with
   | .And,false| .Or,true=>pure v
   |_,_=>boolOp pos .And (evalEach (e'::es) env)) _ _ _
  refine Pst.bind (IH c e pe ρ x he hx A env Z s ad hA hG hO hR) λv s_1 Z_1 S_1 r_1=>?_
  refine wB (wpAny_standAt (wB (wpAny_holding (za9.then (zep S_1.ok (.inl r_1) hb) λs_2 Z_2 S_2=>?_))))
  induction b with
  |false=>
   refine eqE h2 ?_
   exact wPu (zdC (S_1.trans S_2) (zA S_2.ok (r_1.mono S_2.f)))
  |true=>exact zac (S_1.trans S_2) (zgs IH hA hG hes h2 S_2.ok ((hR.stp S_1).stp S_2))
theorem zhW (IH:za1 Ω Φ S n (tr m)) (hA:Rm A n) (hG:GlC c Φ) {pos:Pos}:∀{es:List PySem.Expr} {pes:List PE} {d:PyData} {s:Shared} {Z:Heap},
  zN (tr m c) es=some pes ->orD S ρ pes=some d ->Ok Ω Z s ->Rel c env Z s.heap ρ ad ->
  wpAny Ω.m A (boolOp pos .Or (evalEach es env)) (Pst Ω Z s d) zf s
 | [],pes,d,s,Z,h1,h2,hO,hR=>by cases h1;exact zb h2
 | [e],pes,d,s,Z,h1,h2,hO,hR=>by
  refine zc h1 λpe he h1=>?_
  cases h1
  exact IH c e pe ρ d he h2 A env Z s ad hA hG hO hR
 |e::e'::es,pes,d,s,Z,h1,h2,hO,hR=>by
  refine zc h1 λpe he h1=>?_
  refine cps λG0 hG_0=>?_
  refine zm (Option.map_eq_some_iff.mp h1) λpes' hes e9=>?_;obtain rfl:=e9.symm
  obtain ⟨pe2,pes2,rfl⟩:∃a b,pes'=a::b:=by
   refine zc hes λa _ h=>?_
   refine zP h λb _ e_0=>?_
   (first|refine zkP e_0 ?_|subst e_0)
   exact I21 _ _ rfl
  refine hG_0 ?_
  change ((S.ex ρ pe).bind λd=>(zaI d).bind λb=>if b then some d else orD S ρ (pe2::pes2))=some d at h2
  refine zc h2 λx hx h2=>?_
  refine zc h2 λb hb h2=>?_
  show wpAny _ _ (do
   let v <-eval e env
   standAt pos
   let t <-holding [v] (truthy v)
   match BoolOp.Or,t with
   | .And,false| .Or,true=>pure v
   |_,_=>boolOp pos .Or (evalEach (e'::es) env)) _ _ _
  refine Pst.bind (IH c e pe ρ x he hx A env Z s ad hA hG hO hR) λv s_1 Z_1 S_1 r_1=>?_
  refine wB (wpAny_standAt (wB (wpAny_holding (za9.then (zep S_1.ok (.inl r_1) hb) λs_2 Z_2 S_2=>?_))))
  induction b with
  |true=>
   refine eqE h2 ?_
   exact wPu (zdC (S_1.trans S_2) (zA S_2.ok (r_1.mono S_2.f)))
  |false=>exact zac (S_1.trans S_2) (zhW IH hA hG hes h2 S_2.ok ((hR.stp S_1).stp S_2))
theorem zhX (IT:zex Ω Φ S n (tr m)) (hA:Rm A n) (hG:GlC c Φ):∀{es:List PySem.Expr} {pes:List PE} {d:PyData} {b:Bool} {s:Shared} {Z:Heap},
  zN (tr m c) es=some pes ->zgf S ρ pes=some d ->zaI d=some b ->Ok Ω Z s ->Rel c env Z s.heap ρ ad ->
  wpAny Ω.m A (allTrue .And es env) (za9 Ω Z s b) zf s
 | [],pes,d,b,s,Z,h1,h2,hb,hO,hR=>by cases h1;exact zb h2
 | [e],pes,d,b,s,Z,h1,h2,hb,hO,hR=>by
  refine zc h1 λpe he h1=>?_
  cases h1
  show wpAny _ _ (do
   match BoolOp.And,<-isTrue e env (eval e env) with
   | .And,false=>pure false
   | .Or,true=>pure true
   |_,_=>allTrue .And [] env) _ _ _
  refine wB (za9.then (IT c e pe ρ d b he h2 hb A env Z s ad hA hG hO hR) λs_1 Z_1 S_1=>?_)
  induction b
  ·exact wPu ⟨rfl,Z_1,S_1⟩
  ·exact wPu ⟨rfl,Z_1,S_1⟩
 |e::e'::es,pes,d,b,s,Z,h1,h2,hb,hO,hR=>by
  refine zc h1 λpe he h1=>?_
  refine cps λG0 hG_0=>?_
  refine zm (Option.map_eq_some_iff.mp h1) λpes' hes e9=>?_;obtain rfl:=e9.symm
  obtain ⟨pe2,pes2,rfl⟩:∃a b,pes'=a::b:=by
   refine zc hes λa _ h=>?_
   refine zP h λb _ e_0=>?_
   (first|refine zkP e_0 ?_|subst e_0)
   exact I21 _ _ rfl
  refine hG_0 ?_
  change ((S.ex ρ pe).bind λd=>(zaI d).bind λb=>if b then zgf S ρ (pe2::pes2) else some d)=some d at h2
  refine zc h2 λx hx h2=>?_
  refine zm (Option.bind_eq_some_iff.mp h2) λb' hb' h2=>?_
  show wpAny _ _ (do
   match BoolOp.And,<-isTrue e env (eval e env) with
   | .And,false=>pure false
   | .Or,true=>pure true
   |_,_=>allTrue .And (e'::es) env) _ _ _
  refine wB (za9.then (IT c e pe ρ x b' he hx hb' A env Z s ad hA hG hO hR) λs_1 Z_1 S_1=>?_)
  induction b' with
  |false=>
   cases h2
   refine eqE (hb'.symm.trans hb) ?_
   exact wPu ⟨rfl,Z_1,S_1⟩
  |true=>exact zbS S_1 (zhX IT hA hG hes h2 hb S_1.ok (hR.stp S_1))
theorem zjP (IT:zex Ω Φ S n (tr m)) (hA:Rm A n) (hG:GlC c Φ):∀{es:List PySem.Expr} {pes:List PE} {d:PyData} {b:Bool} {s:Shared} {Z:Heap},
  zN (tr m c) es=some pes ->orD S ρ pes=some d ->zaI d=some b ->Ok Ω Z s ->Rel c env Z s.heap ρ ad ->
  wpAny Ω.m A (allTrue .Or es env) (za9 Ω Z s b) zf s
 | [],pes,d,b,s,Z,h1,h2,hb,hO,hR=>by cases h1;exact zb h2
 | [e],pes,d,b,s,Z,h1,h2,hb,hO,hR=>by
  refine zc h1 λpe he h1=>?_
  cases h1
  show wpAny _ _ (do
   match BoolOp.Or,<-isTrue e env (eval e env) with
   | .And,false=>pure false
   | .Or,true=>pure true
   |_,_=>allTrue .Or [] env) _ _ _
  refine wB (za9.then (IT c e pe ρ d b he h2 hb A env Z s ad hA hG hO hR) λs_1 Z_1 S_1=>?_)
  induction b
  ·exact wPu ⟨rfl,Z_1,S_1⟩
  ·exact wPu ⟨rfl,Z_1,S_1⟩
 |e::e'::es,pes,d,b,s,Z,h1,h2,hb,hO,hR=>by
  refine zc h1 λpe he h1=>?_
  refine cps λG0 hG_0=>?_
  refine zm (Option.map_eq_some_iff.mp h1) λpes' hes e9=>?_;obtain rfl:=e9.symm
  obtain ⟨pe2,pes2,rfl⟩:∃a b,pes'=a::b:=by
   refine zc hes λa _ h=>?_
   refine zP h λb _ e_0=>?_
   (first|refine zkP e_0 ?_|subst e_0)
   exact I21 _ _ rfl
  refine hG_0 ?_
  change ((S.ex ρ pe).bind λd=>(zaI d).bind λb=>if b then some d else orD S ρ (pe2::pes2))=some d at h2
  refine zc h2 λx hx h2=>?_
  refine zm (Option.bind_eq_some_iff.mp h2) λb' hb' h2=>?_
  show wpAny _ _ (do
   match BoolOp.Or,<-isTrue e env (eval e env) with
   | .And,false=>pure false
   | .Or,true=>pure true
   |_,_=>allTrue .Or (e'::es) env) _ _ _
  refine wB (za9.then (IT c e pe ρ x b' he hx hb' A env Z s ad hA hG hO hR) λs_1 Z_1 S_1=>?_)
  induction b' with
  |true=>
   cases h2
   refine eqE (hb'.symm.trans hb) ?_
   exact wPu ⟨rfl,Z_1,S_1⟩
  |false=>exact zbS S_1 (zjP IT hA hG hes h2 hb S_1.ok (hR.stp S_1))
end
def Own (c:TC) (env:Env) (ρ:Rho) (ad:Nat ->Addr) (a:Addr):Prop:=
 a=env.locals \/(∃x k i,c.nm.lookup x=some (k,i)/\ (k= .cell \/k= .free)/\ c.lo<=i/\ env.cells.lookup x=some a) \/(∃i xs,ρ[i]?=some (some (.m xs))/\ c.lo<=i/\ a=ad i)
def zaF (c:TC) (env:Env) (ρ:Rho) (ad:Nat ->Addr) (a:Addr):Prop:=
 a=env.locals \/(∃x k i,c.nm.lookup x=some (k,i)/\ (k= .cell \/k= .free)/\ env.cells.lookup x=some a) \/(∃i xs,ρ[i]?=some (some (.m xs))/\ a=ad i)
structure StX (W:Addr ->Prop) (GI:Nat ->Prop) (Ω:En) (Z:Heap) (s:Shared) (Z':Heap) (s':Shared):Prop where
 ok:Ok Ω Z' s'
 f:Sub Z Z'
 new:∀b o,¬W b ->¬Ω.tab b ->s.heap.get? b=some o ->Z'.get? b=Z.get? b
 t:∀b,Ω.tab b ->∃o vs,s.heap.get? b=some o/\ o.data= .fields vs/\ o.cls= .none
 h:∀b o,¬W b ->¬Ω.tab b ->s.heap.get? b=some o ->s'.heap.get? b=some o
 g:∀(i:Nat) (x:GenState),¬GI i ->s.gens[i]?=some x ->s'.gens[i]?=some x
 gs:s.gens.size<=s'.gens.size
section
variable {Ω:En} {A:Around} {Z Z' Z'':Heap} {s s' s'':Shared} {c:TC} {env:Env} {ρ:Rho} {ad:Nat ->Addr}
 {W W':Addr ->Prop} {GI GI':Nat ->Prop}
theorem GK.size {g g':Array GenState} (h:GK g g'):g.size<=g'.size:=by
 refine Or.elim (Nat.eq_zero_or_pos g.size) (λe=>?_) λe=>?_
 ·lia
 ·have:=h (g.size-1) g[g.size-1] (by exact za (Array.getElem?_eq_getElem (by omega)) rfl)
  have:g.size-1<g'.size:=by
   refine Or.elim (Nat.lt_or_ge (g.size-1) g'.size) (λq=>?_) λq=>?_
   ·exact q
   ·exact zb ((Array.getElem?_eq_none q).symm.trans this)
  omega
theorem Stp.x (S:Stp Ω Z s Z' s'):StX W GI Ω Z s Z' s':=
 ⟨S.ok,S.f,λb o u t e=>S.new b o t e,S.t,λb o u t e=>S.h b o t e,λi x u e=>S.g i x e,GK.size S.g⟩
theorem StX.stp (S:StX (λu=>False) (λu=>False) Ω Z s Z' s'):Stp Ω Z s Z' s':=
 ⟨S.ok,S.f,λb o t e=>S.new b o id t e,S.t,λb o t e=>S.h b o id t e,λi x e=>S.g i x id e⟩
theorem StX.refl (h:Ok Ω Z s):StX W GI Ω Z s Z s:=(Stp.refl h).x
theorem StX.nt (S:StX W GI Ω Z s Z' s') {b:Addr} {o:Obj} (n:NoF o) (e:s.heap.get? b=some o):¬Ω.tab b:=λt=>
 E22 (S.t b t) λo' vs e' d=>by cases e.symm.trans e';exact n vs d.1
theorem StX.ntF (S:StX W GI Ω Z s Z' s') {b:Addr} (e:s.heap.get? b=none):¬Ω.tab b:=λt=>E22 (S.t b t) λo' vs e' d=>zb (e.symm.trans e')
theorem StX.ntC (S:StX W GI Ω Z s Z' s') {b:Addr} {o:Obj} {T:String} (e:s.heap.get? b=some o) (hc:o.cls= .type T):¬Ω.tab b:=λt=>
 E22 (S.t b t) λo' vs e' d=>by cases e.symm.trans e';exact nomatch d.2.symm.trans hc
theorem StX.hN (S:StX W GI Ω Z s Z' s') {b:Addr} {o:Obj} (w:¬W b) (n:NoF o) (e:s.heap.get? b=some o):s'.heap.get? b=some o:=S.h b o w (S.nt n e) e
theorem StX.newN (S:StX W GI Ω Z s Z' s') {b:Addr} {o:Obj} (w:¬W b) (n:NoF o) (e:s.heap.get? b=some o):Z'.get? b=Z.get? b:=S.new b o w (S.nt n e) e
theorem StX.trans (a:StX W GI Ω Z s Z' s') (b:StX W' GI' Ω Z' s' Z'' s'') (hW:∀x,W' x ->W x \/s.heap.get? x=none) (hG:∀i,GI' i ->GI i \/s.gens.size<=i):StX W GI Ω Z s Z'' s'':=
 have n':∀{x o},¬W x ->s.heap.get? x=some o ->¬W' x:=λn e q=>(hW _ q).elim n λq=>zb (q.symm.trans e)
 {ok:=b.ok
  f:=a.f.trans b.f
  new:=λx o n t e=>(b.new x o (n' n e) t (a.h x o n t e)).trans (a.new x o n t e)
  t:=a.t
  h:=λx o n t e=>b.h x o (n' n e) t (a.h x o n t e)
  g:=λi x n e=>b.g i x (λq=>(hG i q).elim n λq=>zb ((Array.getElem?_eq_none q).symm.trans e)) (a.g i x n e)
  gs:=zv a.gs b.gs}
theorem StX.mono (a:StX W GI Ω Z s Z' s') (hW:∀x,W x ->W' x \/s.heap.get? x=none) (hG:∀i,GI i ->GI' i \/s.gens.size<=i):StX W' GI' Ω Z s Z' s':=
 have n':∀{x o},¬W' x ->s.heap.get? x=some o ->¬W x:=λn e q=>(hW _ q).elim n λq=>zb (q.symm.trans e)
 {ok:=a.ok
  f:=a.f
  new:=λx o n t e=>a.new x o (n' n e) t e
  t:=a.t
  h:=λx o n t e=>a.h x o (n' n e) t e
  g:=λi x n e=>a.g i x (λq=>(hG i q).elim n λq=>zb ((Array.getElem?_eq_none q).symm.trans e)) e
  gs:=a.gs}
theorem StX.fresh (a:StX W GI Ω Z s Z' s') {x:Addr} (h:s'.heap.get? x=none):W x \/s.heap.get? x=none:=by
 by_cases w:W x
 ·exact .inl w
 refine .inr ?_
 induction e:s.heap.get? x with
 |none=>rfl
 |some o=>cases (a.h x o w (λt=>E22 (Ω.jf _ a.ok.j x t) λo' vs e' d=>zb (h.symm.trans e')) e).symm.trans h
theorem StX.write (hO:Ok Ω Z s) {a:Addr} {h':Heap} {n:Nat} (ht:NoP Ω s.heap a) (hz:Z.get? a=none) (hW:W a) (hs:Heap.SameBut a s.heap h'):
  StX W GI Ω Z s Z {s with heap:=h',toks:=n} where
 ok:=⟨λb o e=>by
  have hb:b≠a:=by rintro rfl;exact zb (hz.symm.trans e)
  exact (hs.2 b hb).trans (hO.sub b o e),hO.base,hO.os,hO.gens,Ω.jk _ _ hO.j (λb o t e=>(hs.2 b λx=>by subst x;exact t.elim ht.1 (ht.2 o e)).trans e),hO.zt⟩
 f:= .refl _
 new:=λu v w x y=>rfl
 t:=hO.lv
 h:=λb o nb t e=>by
  have hb:b≠a:=by rintro rfl;exact nb hW
  exact (hs.2 b hb).trans e
 g:=λu v w e=>e
 gs:=Nat.le_refl _
theorem Rel.stX (R:Rel c env Z s.heap ρ ad) (S:StX W GI Ω Z s Z' s') (d:∀a,zaF c env ρ ad a ->¬W a):Rel c env Z' s'.heap ρ ad where
 kind:=R.kind
 names:=R.names
 glob:=R.glob
 blt:=R.blt
 loc:=by
  refine cps λG0 hG_0=>?_
  refine zm R.loc λm q1 hm=>?_
  refine E32 q1 λo es ep ho r=>?_
  clear q1
  refine hG_0 ?_
  exact zM m (I32 o es ep (S.hN (d _ (.inl rfl)) (noF r.1 λ_ x=>nomatch x) ho) r) (λx i pv a b=>zm (hm x i pv a b) λv e r=>(zM v e (r.mono S.f)))
 cel:=λx k i a b=>by
  refine E24 (R.cel x k i a b) λca ov e q2 hz hv=>?_
  refine zm q2 λo ho hd=>?_
  clear q2
  have hn:=d ca (.inr (.inl (I33 x k i a b e)))
  have hf:NoF o:=noF hd λ_ x=>nomatch x
  exact I24 ca ov e (zM o (S.hN hn hf ho) hd) (by refine za (S.newN hn hf ho) ?_;exact hz) (λpv q=>zm (hv pv q) λv e r=>(zM v e (r.mono S.f)))
 apL:=by
  refine cps λG0 hG_0=>?_
  refine zm R.loc λm q3 _=>?_
  refine E32 q3 λo _ _ ho r=>?_
  clear q3
  refine hG_0 ?_
  refine za (S.newN (d _ (.inl rfl)) (noF r.1 λ_ x=>nomatch x) ho) ?_;exact R.apL
 injS:=R.injS
 injC:=R.injC
 own:=λi xs e=>by
  refine E23 (R.own i xs e) λvs n a b z=>?_
  have hn:=d (ad i) (.inr (.inr (I22 i xs e rfl)))
  exact I23 vs n (S.hN hn zak a) (b.mono S.f) (by refine za (S.newN hn zak a) ?_;exact z)
 ownInj:=R.ownInj
 hi:=R.hi
 slot:=R.slot
 mainL:=R.mainL
theorem Rel.foot_live {h:Heap} (R:Rel c env Z h ρ ad) {a:Addr} (f:zaF c env ρ ad a):(∃o,h.get? a=some o)/\ Z.get? a=none:=by
 rcases f with rfl| ⟨x,k,i,e,hk,hc⟩| ⟨i,xs,e,rfl⟩
 ·refine cps λG0 hG_0=>?_
  refine zm R.loc λm q4 _=>?_
  refine E32 q4 λo _ _ ho _=>?_
  clear q4
  refine hG_0 ?_
  exact ⟨⟨o,ho⟩,R.apL⟩
 ·refine E24 (R.cel x k i e hk) λca ov e' q5 hz _=>?_
  refine zm q5 λo ho _=>?_
  clear q5
  cases hc.symm.trans e'
  exact ⟨⟨o,ho⟩,hz⟩
 ·refine E23 (R.own i xs e) λvs n a b z=>?_
  exact ⟨⟨_,a⟩,z⟩
theorem Own.foot {a:Addr} (o:Own c env ρ ad a):zaF c env ρ ad a:=by
 rcases o with h| ⟨x,k,i,e,hk,_,hc⟩| ⟨i,xs,e,_,h⟩
 ·exact .inl h
 ·exact .inr (.inl (I33 x k i e hk hc))
 ·exact .inr (.inr (I22 i xs e h))
theorem zrO (hO:Ok Ω Z s) {a:Addr} {m:Str ->Option Value} (x:s.heap.Ns a m):NoP Ω s.heap a:=E32 x λo es ep ho r=>hO.np ho (noF r.1 λ_ x=>nomatch x)
theorem zf3 (hO:Ok Ω Z s) {a:Addr} {v:Option Value} (x:s.heap.IsCell a v):NoP Ω s.heap a:=zm x λo ho r=>hO.np ho (noF r λ_ x=>nomatch x)
theorem zeA (hO:Ok Ω Z s) (R:Rel c env Z s.heap ρ ad) {a:Addr} (f:zaF c env ρ ad a):NoP Ω s.heap a:=by
 rcases f with rfl| ⟨x,k,i,e,hk,hc⟩| ⟨i,xs,e,h⟩
 ·exact zm R.loc λm hns h=>zrO hO hns
 ·exact E24 (R.cel x k i e hk) λca ov e' hcell hz hv=>by cases hc.symm.trans e';exact zf3 hO hcell
 ·exact E23 (R.own i xs e) λvs n ho r z=>hO.np (h▸ho) zak
theorem zf4 (hO:Ok Ω Z s) (R:Rel c env Z s.heap ρ ad) {a:Addr} (f:zaF c env ρ ad a):¬Ω.tab a:=(zeA hO R f).1
theorem ziG {h:Heap} {a b:Addr} {m v} (x:h.Ns a m) (y:h.IsCell b v):b≠a:=by
 rintro rfl
 refine E33 x λo es ep ho hd _=>?_
 clear x
 refine zm y λo' ho' hd'=>?_
 clear y
 cases ho.symm.trans ho'
 cases hd.symm.trans hd'
theorem zgt {h:Heap} {a b:Addr} {m xs} (x:h.Ns a m) (y:zbu Z h b xs):b≠a:=by
 rintro rfl
 refine E33 x λo es ep ho hd _=>?_
 clear x
 refine E22 y λvs n ho' _=>?_
 clear y
 cases ho.symm.trans ho'
 cases hd
theorem zeB {h:Heap} {a b:Addr} {v xs} (x:h.IsCell a v) (y:zbu Z h b xs):b≠a:=by
 rintro rfl
 refine zm x λo ho hd=>?_
 clear x
 refine E22 y λvs n ho' _=>?_
 clear y
 cases ho.symm.trans ho'
 cases hd
theorem zbu.but {h h':Heap} {a b:Addr} {xs} (x:zbu Z h b xs) (hs:Heap.SameBut a h h') (hb:b≠a):zbu Z h' b xs:=
 E23 x λvs n e r z=>(I23 vs n ((hs.2 b hb).trans e) r z)
theorem zeC {x:Str} {i:Nat} (h:zK c x=some i):c.lo<=i/\ (c.nm.lookup x=some (.local,i) \/c.nm.lookup x=some (.cell,i)):=by
 refine ifN h λhcd h=>?_
 clear hcd
 revert h
 induction c.nm.lookup x with
 |none=>exact λh=>zb h
 |some p=>
  induction p with
  |mk k j=>
   induction k using NameKind.casesOn with
   |«local»=>exact λh=>ifE h λhl h=>eqE h ⟨hl,.inl rfl⟩
   |cell=>exact λh=>ifE h λhl h=>eqE h ⟨hl,.inr rfl⟩
   |_=>exact λh=>zb h
theorem zbv {x:Str} {i:Nat} (h:zK c x=some i):(x==("__debug__" :Str))=false:=by
 exact ifN h λhcd _=>Bool.not_eq_true _▸hcd
theorem zy {ρ:Rho} {i j:Nat} {pv pv':PV} (h:(ρ.set i (some pv))[j]?=some (some pv')):(j=i/\ pv'=pv) \/(j≠i/\ ρ[j]?=some (some pv')):=by
 have h:=List.getElem?_set▸h
 split at h
 ·refine ifE h λ_ h=>?_
  cases h;exact .inl ⟨by lia,rfl⟩
 ·exact .inr ⟨by lia,h⟩
theorem zf5 {ad ad':Nat ->Addr} {i:Nat} {v:Value} {pv:PV} (h:ad' i=ad i) (r:zc2 Z ad i v pv):zc2 Z ad' i v pv:=by
 induction pv with
 |d x=>exact r
 |m xs=>exact r.trans (by exact za h rfl)
theorem zde {x:Str} {i:Nat} {v:Value} {pv:PV} {ad':Nat ->Addr} (hs:zK c x=some i) (hO:Ok Ω Z s) (R:Rel c env Z s.heap ρ ad)
  (had:∀j,j≠i ->ad' j=ad j) (hv:zc2 Z ad' i v pv) (hm:∀xs,pv= .m xs ->zbu Z s.heap (ad' i) xs/\ ∀j ys,j≠i ->ρ[j]?=some (some (.m ys)) ->ad j≠ad' i)
  {Q:Unit ->Shared ->Prop} {E} (h:∀s',StX (Own c env ρ ad) GI Ω Z s Z s' ->Rel c env Z s'.heap (ρ.set i (some pv)) ad' ->Q () s'):
  wpAny Ω.m A (storeName env x v) Q E s:=by
 refine zR (zeC hs) λhlo hx=>?_
 have hn:=R.names x
 refine zm R.loc λm hns hml=>?_
 have slotx:∀y k j,c.nm.lookup y=some (k,j) ->k≠ .globalImplicit ->j=i ->y=x:=λy k j e hk ej=>by
  obtain rfl:=ej.symm
  refine Or.elim hx (λhx=>?_) λhx=>?_
  ·exact R.injS y x _ _ _ e hx hk (by decide)
  ·exact R.injS y x _ _ _ e hx hk (by decide)
 have hi:i<c.nx:=by
  refine Or.elim hx (λhx=>?_) λhx=>?_
  ·exact R.slot _ _ _ hx (by decide)
  ·exact R.slot _ _ _ hx (by decide)
 rcases hx with hx|hx
 ·
  have hn:=hx▸hn
  refine wpAny_storeName_local hn hns (λh' hns' hs'=>h _ (StX.write (W:=Own c env ρ ad) hO (zrO hO hns) R.apL (.inl rfl) hs') ?_) (by refine za R.kind ?_;rfl)
  refine {R with loc:=zM _ hns' ?_,cel:= ?_,own:= ?_,ownInj:= ?_,hi:= ?_}
  ·intro y j pv' e q
   refine Or.elim (zy q) (λh9=>?_) λh9=>?_
   ·refine zR h9 λe90 e91=>?_
    clear h9;obtain rfl:=e90.symm;refine zF e91.symm ?_
    cases slotx y _ _ e (by decide) rfl
    exact zM v (if_pos rfl) hv
   ·refine zR h9 λhj q=>?_
    clear h9
    refine zm (hml y j pv' e q) λu hu r=>?_
    have hy:y≠x:=by intro h9;obtain rfl:=h9.symm;cases hx.symm.trans e;exact hj rfl
    exact zM u ((if_neg hy).trans hu) (zf5 (had j hj) r)
  ·intro y k j e hk
   refine E24 (R.cel y k j e hk) λca ov e' hc hz hv'=>?_
   refine I24 ca ov e' (hc.sameBut hs' (ziG hns hc)) hz (λpv' q=>?_)
   refine Or.elim (zy q) (λh9=>?_) λh9=>?_
   ·refine zR h9 λe90 e91=>?_
    clear h9;obtain rfl:=e90.symm;refine za e91.symm ?_
    obtain rfl:=slotx y _ _ e (by rcases hk with rfl|rfl<;>decide) rfl
    cases hx.symm.trans e
    rcases hk with h|h<;>cases h
   ·refine zR h9 λhj q=>?_
    clear h9
    refine zm (hv' pv' q) λu hu r=>?_
    exact zM u hu (zf5 (had j hj) r)
  ·intro j xs q
   refine Or.elim (zy q) (λh9=>?_) λh9=>?_
   ·refine zR h9 λe90 e=>?_
    clear h9;refine za e90 ?_
    have hm':=(hm xs e.symm).1
    exact hm'.but hs' (zgt hns hm')
   ·refine zR h9 λhj q=>?_
    clear h9
    exact za (had j hj) ((R.own j xs q).but hs' (zgt hns (R.own j xs q)))
  ·intro j k xs ys q q' e
   refine Or.elim (zy q) (λh9=>?_) λh9=>?_
   ·refine zR h9 λe90 e1=>?_
    clear h9;obtain rfl:=e90.symm
    refine Or.elim (zy q') (λh9=>?_) λh9=>?_
    ·refine zR h9 λe90 e2=>?_
     clear h9;refine za e90.symm ?_
     rfl
    ·refine zR h9 λhk q'=>?_
     clear h9
     have e:=(had k hk)▸e
     exact absurd e.symm ((hm xs e1.symm).2 k ys hk q')
   ·refine zR h9 λhj q=>?_
    clear h9
    rcases zy q' with ⟨ek,e2⟩| ⟨hk,q'⟩
    ·obtain rfl:=ek.symm
     rw [had j hj] at e
     exact absurd e ((hm ys e2.symm).2 j xs hj (by assumption))
    ·rw [had j hj,had k hk] at e
     exact R.ownInj j k xs ys q q' e
  ·intro j pv' q
   refine Or.elim (zy q) (λh9=>?_) λh9=>?_
   ·refine zR h9 λe90 e91=>?_
    clear h9;refine zF e90.symm ?_;refine za e91.symm ?_
    exact hi
   ·refine zR h9 λhj q=>?_
    clear h9
    exact R.hi j pv' q
 ·
  have hn:=hx▸hn
  refine E24 (R.cel x _ i hx (.inl rfl)) λca ov hca hc hz hv'=>?_
  refine wpAny_storeName_cell R.kind hn hca hc (λh' hc' hs'=>h _ (StX.write (n:=s.toks) (W:=Own c env ρ ad) hO (zf3 hO hc) hz (.inr (.inl (I34 x _ i hx (.inl rfl) hlo hca))) hs') ?_)
  refine {R with loc:=zM _ (hns.sameBut hs' (ziG hns hc).symm) ?_,cel:= ?_,own:= ?_,ownInj:= ?_,hi:= ?_}
  ·intro y j pv' e q
   refine Or.elim (zy q) (λh9=>?_) λh9=>?_
   ·refine zR h9 λe90 e91=>?_
    clear h9;obtain rfl:=e90.symm;refine za e91.symm ?_
    cases slotx y _ _ e (by decide) rfl
    cases hx.symm.trans e
   ·refine zR h9 λhj q=>?_
    clear h9
    refine zm (hml y j pv' e q) λu hu r=>?_
    exact zM u hu (zf5 (had j hj) r)
  ·intro y k j e hk
   refine E24 (R.cel y k j e hk) λcb ob e' hc2 hz2 hv2=>?_
   by_cases hy:y=x
   ·obtain rfl:=hy.symm
    refine eqE (hca.symm.trans e') ?_
    refine zay (hx.symm.trans e) ?_
    refine I24 ca (some v) hca hc' hz (λpv' q=>?_)
    refine Or.elim (zy q) (λh9=>?_) λh9=>?_
    ·refine zR h9 λ_ e90=>?_
     clear h9;refine zF e90.symm ?_
     exact zM v rfl hv
    ·refine zR h9 λhj q=>?_
     clear h9
     exact absurd rfl hj
   ·have hne:cb≠ca:=by intro h9;obtain rfl:=h9.symm;exact hy (R.injC y x _ e' hca)
    refine I24 cb ob e' (hc2.sameBut hs' hne) hz2 (λpv' q=>?_)
    refine Or.elim (zy q) (λh9=>?_) λh9=>?_
    ·refine zR h9 λe90 e91=>?_
     clear h9;obtain rfl:=e90.symm;refine za e91.symm ?_
     exact absurd (slotx y _ _ e (by rcases hk with rfl|rfl<;>decide) rfl) hy
    ·refine zR h9 λhj q=>?_
     clear h9
     refine zm (hv2 pv' q) λu hu r=>?_
     exact zM u hu (zf5 (had j hj) r)
  ·intro j xs q
   refine Or.elim (zy q) (λh9=>?_) λh9=>?_
   ·refine zR h9 λe90 e=>?_
    clear h9;refine za e90 ?_
    have hm':=(hm xs e.symm).1
    exact hm'.but hs' (zeB hc hm')
   ·refine zR h9 λhj q=>?_
    clear h9
    exact za (had j hj) ((R.own j xs q).but hs' (zeB hc (R.own j xs q)))
  ·intro j k xs ys q q' e
   refine Or.elim (zy q) (λh9=>?_) λh9=>?_
   ·refine zR h9 λe90 e1=>?_
    clear h9;obtain rfl:=e90.symm
    refine Or.elim (zy q') (λh9=>?_) λh9=>?_
    ·refine zR h9 λe90 e2=>?_
     clear h9;refine za e90.symm ?_
     rfl
    ·refine zR h9 λhk q'=>?_
     clear h9
     rw [had k hk] at e
     exact absurd e.symm ((hm xs e1.symm).2 k ys hk q')
   ·refine zR h9 λhj q=>?_
    clear h9
    rcases zy q' with ⟨ek,e2⟩| ⟨hk,q'⟩
    ·obtain rfl:=ek.symm
     rw [had j hj] at e
     exact absurd e ((hm ys e2.symm).2 j xs hj (by assumption))
    ·rw [had j hj,had k hk] at e
     exact R.ownInj j k xs ys q q' e
  ·intro j pv' q
   refine Or.elim (zy q) (λh9=>?_) λh9=>?_
   ·refine zR h9 λe90 e91=>?_
    clear h9;refine zF e90.symm ?_;refine za e91.symm ?_
    exact hi
   ·refine zR h9 λhj q=>?_
    clear h9
    exact R.hi j pv' q
end
section
variable {Ω:En} {A:Around} {Z Z' Z'':Heap} {s s' s'':Shared} {c:TC} {env:Env} {ρ:Rho} {ad:Nat ->Addr}
 {W W':Addr ->Prop} {GI GI':Nat ->Prop} {E:Value ->Shared ->Prop}
theorem zhY {it l:Addr} {items:Array Value} (hne:l≠it):∀(n i:Nat) (s:Shared) (Q:List Value ->Shared ->Prop),s.heap.IsListIter it l i ->s.heap.IsList l items ->i+n<=items.size ->
  (∀h',h'.IsListIter it l (i+n) ->Heap.SameBut it s.heap h' ->Q ((items.toList.drop i).take n) {s with heap:=h'}) ->wpAny Ω.m A (draw (.ref it) n) Q E s
 |0,i,s,Q,hit,_,_,hQ=>by
  exact wPu (by simpa using hQ s.heap hit (Heap.SameBut.refl ..))
 |n+1,i,s,Q,hit,ht,hle,hQ=>by
  have hlt:i<items.size:=by lia
  refine wB (wpAny_pyNext_list_item hit ht (x:=items[i]) (by simp) λh_1 hit_1 hs_1=>?_)
  refine wB (wpAny_holding (zhY hne n (i+1) _ _ hit_1 (ht.extBut hs_1.extBut hne) (by lia) λh_2 hit_2 hs_2=>wPu ?_))
  have:=hQ h_2 (by refine za (show i+(n+1)=i+1+n by lia) ?_;exact hit_2) (hs_1.trans hs_2)
  rw [(by simp [List.drop_eq_getElem_cons,hlt]:items.toList.drop i=items[i]::items.toList.drop (i+1)),List.take_succ_cons] at this
  exact this
theorem zjQ {t:Addr} {items:Array Value} {Q:List Value ->Shared ->Prop} (hh:A.handled=none) (ht:s.heap.IsList t items)
  (hQ:∀h',Heap.ExtBut s.heap.objs.size s.heap h' ->Q items.toList {s with heap:=h'}):wpAny Ω.m A (unpackItems (.ref t) items.size none) Q E s:=by
 have hlt:t≠s.heap.objs.size:=by refine zm ht λo ho _=>?_;clear ht;exact Nat.ne_of_lt (Heap.lt_size ho)
 refine wB ?_
 ·refine wB (wpAny_specialOf ht.typeIs PySem.slot_list_iter.lookup ?_)
  refine wPu ?_
  refine wB (wpAny_holding (wpAny_pyIter_list ht ?_))
  refine wB (wpAny_holding (zhY hlt items.size 0 _ _ (I13 _ (Heap.get?_push_size _ rfl) rfl rfl) (ht.push _) (by simp) λh_1 hit_1 hs_1=>?_))
  have hall:List.take items.size (List.drop 0 items.toList)=items.toList:=by
   exact List.take_of_length_le (by simp)
  refine za hall (za (if_neg (by simp)) ?_)
  refine wB (wpAny_holding (wpAny_pyNext_list_end hh hit_1 ((ht.push _).extBut hs_1.extBut hlt) (by simp) λh_2 he_2=>?_))
  refine wPu (hQ h_2 λb o hb e=>he_2 b o hb (hs_1.extBut b o hb (Heap.get?_push_of_some _ e)))
theorem zbp {h h':Heap} (x:Heap.ExtBut h.objs.size h h'):Sub h h':=λb o e=>x b o (Nat.ne_of_lt (Heap.lt_size e)) e
theorem zeD {i:Nat} {d:PyData} {a:Addr} (o:Own c env (ρ.set i (some (.d d))) ad a):Own c env ρ ad a:=by
 rcases o with h|h| ⟨j,xs,e,hl,h⟩
 ·exact .inl h
 ·exact .inr (.inl h)
 ·rcases zy e with ⟨_,e⟩| ⟨_,e⟩
  ·cases e
  ·exact .inr (.inr (I23 j xs e hl h))
mutual
theorem zbT:∀{t:Tgt} {x:PyData} {ρ ρ':Rho} {a:Addr},zaz t x ρ=some ρ' ->Own c env ρ' ad a ->Own c env ρ ad a
 | .v i,x,ρ,ρ',a,h,o=>by
  exact zeD ((Option.some.inj h).symm▸o)
 | .t ts,x,ρ,ρ',a,h,o=>by
  induction x using PyData.casesOn with
  |tuple xs=>exact zee h o
  |list xs=>exact zee h o
  |_=>exact zb h
theorem zee:∀{ts:List Tgt} {xs:List PyData} {ρ ρ':Rho} {a:Addr},zck ts xs ρ=some ρ' ->Own c env ρ' ad a ->Own c env ρ ad a
 | [],xs,ρ,ρ',a,h,o=>by
  induction xs using List.casesOn with
  |nil=>cases h;exact o
  |cons x xs=>exact zb h
 |t::ts,xs,ρ,ρ',a,h,o=>by
  induction xs using List.casesOn with
  |nil=>exact zb h
  |cons x xs=>
   refine zc h λρ1 h1 h2=>?_
   exact zbT h1 (zee h2 o)
end
mutual
theorem zfc:∀{t:Tgt} {x:PyData} {ρ ρ':Rho} {j:Nat},zaz t x ρ=some ρ' ->j∉zZ t ->ρ'[j]?=ρ[j]?
 | .v i,x,ρ,ρ',j,h,o=>by
  refine eqE h ?_
  simp only [zZ,List.mem_singleton] at o
  refine za List.getElem?_set ?_
  exact za (if_neg (λe=>o e.symm)) rfl
 | .t ts,x,ρ,ρ',a,h,o=>by
  induction x using PyData.casesOn with
  |tuple xs=>exact zef h o
  |list xs=>exact zef h o
  |_=>exact zb h
theorem zef:∀{ts:List Tgt} {xs:List PyData} {ρ ρ':Rho} {j:Nat},zck ts xs ρ=some ρ' ->j∉zdy ts ->ρ'[j]?=ρ[j]?
 | [],xs,ρ,ρ',a,h,o=>by
  induction xs using List.casesOn with
  |nil=>refine eqE h ?_;rfl
  |cons x xs=>exact zb h
 |t::ts,xs,ρ,ρ',a,h,o=>by
  induction xs using List.casesOn with
  |nil=>exact zb h
  |cons x xs=>
   simp only [zdy,List.mem_append,not_or] at o
   refine zc h λρ1 h1 h2=>?_
   exact za (zef h2 o.2) (za (zfc h1 o.1) rfl)
end
theorem zfA {n:Nat} {e:PySem.Expr} {t:Tgt} (h:trT c n e=some t):zcw e=false:=by
 induction n using Nat.casesOn with
 |zero=>exact zb h
 |succ n=>cases e<;>first|rfl| (exact zb h)
theorem zcW {e:PySem.Expr} {rest:List PySem.Expr} (h:zcw e=false):assignEach (e::rest) env=(false,assign e env)::assignEach rest env:=by
 cases e<;>first|rfl| (exact Bool.noConfusion h)
theorem zdf {n:Nat}:∀{es:List PySem.Expr} {ts:List Tgt},zN (trT c n) es=some ts ->(assignEach es env).length=ts.length/\ (assignEach es env).findIdx? (·.1)=none
 | [],ts,h=>by refine eqE h ?_;exact ⟨rfl,rfl⟩
 |e::es,ts,h=>by
  refine zc h λt ht h=>?_
  refine zm (Option.map_eq_some_iff.mp h) λts' hts e9=>?_;refine za e9.symm ?_
  obtain (⟨h1,h2⟩):=zdf hts
  refine za (zcW (zfA ht)) ⟨by simp [h1],?_⟩
  refine za List.findIdx?_cons ?_
  simp [h2]
theorem zcN:∀{ts:List Tgt} {xs:List PyData} {ρ ρ':Rho},zck ts xs ρ=some ρ' ->ts.length=xs.length
 | [],xs,ρ,ρ',h=>by
  induction xs using List.casesOn with
  |nil=>rfl
  |cons x xs=>exact zb h
 |t::ts,xs,ρ,ρ',h=>by
  induction xs using List.casesOn with
  |nil=>exact zb h
  |cons x xs=>
   refine zc h λρ1 h1 h2=>?_
   simp [zcN h2]
def zrP (Ω:En) (A:Around) (GI:Nat ->Prop) (c:TC) (env:Env) (ad:Nat ->Addr) (e:PySem.Expr) (t:Tgt):Prop:=
 ∀x v ρ ρ' s Z,zaz t x ρ=some ρ' ->Ok Ω Z s ->Rel c env Z s.heap ρ ad ->Rep Z v x ->
  wpAny Ω.m A (assign e env v) (λu s'=>StX (Own c env ρ ad) GI Ω Z s Z s'/\ Rel c env Z s'.heap ρ' ad) zf s
theorem zgu {n:Nat} (IH:∀e t,trT c n e=some t ->zrP Ω A GI c env ad e t):∀(es:List PySem.Expr) (ts:List Tgt) (xs:List PyData) (vs:List Value) (ρ ρ':Rho) (s:Shared),
  zN (trT c n) es=some ts ->zck ts xs ρ=some ρ' ->Ok Ω Z s ->Rel c env Z s.heap ρ ad ->zC Z vs xs ->
  wpAny Ω.m A (assignInOrder ((assignEach es env).map (·.2)) vs) (λu s'=>StX (Own c env ρ ad) GI Ω Z s Z s'/\ Rel c env Z s'.heap ρ' ad) zf s
 | [],ts,xs,vs,ρ,ρ',s,h1,h2,hO,hR,hr=>by
  cases h1
  obtain rfl:xs=[]:=List.length_eq_zero_iff.mp (by simpa using (zcN h2).symm)
  refine eqE h2 ?_
  exact wPu ⟨StX.refl hO,hR⟩
 |e::es,ts,xs,vs,ρ,ρ',s,h1,h2,hO,hR,hr=>by
  refine zc h1 λt ht h1=>?_
  refine zm (Option.map_eq_some_iff.mp h1) λts' hts e9=>?_;obtain rfl:=e9.symm
  induction xs using List.casesOn with
  |nil=>exact zb h2
  |cons x xs=>
   refine zc h2 λρ1 hb1 hb2=>?_
   refine E23 (zG.mp hr) λv vs' e9 r1 r2=>?_;refine za e9 ?_
   refine za (zcW (zfA ht)) ?_
   show wpAny _ _ (do holding vs' (assign e env v);assignInOrder ((assignEach es env).map (·.2)) vs') _ _ _
   refine wB (wpAny_holding (wpAny_mono (IH e t ht x v ρ ρ1 s Z hb1 hO hR r1) (λu s_1 p=>?_) λu w q=>q))
   refine wpAny_mono (zgu IH es ts' xs vs' ρ1 ρ' s_1 hts hb2 p.1.ok p.2 r2) (λu s_2 p=>?_) λu w q=>q
   refine zR p λS_2 R_2=>?_
   clear p
   exact ⟨p.1.trans S_2 (λa o=> .inl (zbT hb1 o)) (λi g=> .inl g),R_2⟩
theorem zbU (hA:A.handled=none):∀(n:Nat) (e:PySem.Expr) (t:Tgt),trT c n e=some t ->zrP Ω A GI c env ad e t
 |0,e,t,h=>by exact zb h
 |n+1,e,t,h=>by
  intro x v ρ ρ' s Z hb hO hR r
  induction e using PySem.Expr.casesOn with
  |Name y p=>
   refine zc h λi hi h=>?_
   refine ifN h λ_ h=>?_
   cases h
   refine eqE hb ?_
   exact wpAny_assign_Name (zde (ad':=ad) (pv:= .d x) hi hO hR (λu w=>rfl) r (λxs e=>nomatch e) λs' S R=>⟨S,R⟩)
  |Tuple es k p=>
   refine zP h λts hts e_0=>?_
   subst e_0
   obtain (⟨hl,hst⟩):=zdf (env:=env) hts
   refine wB (wpAny_standAt ?_)
   unfold unpack
   refine za hst ?_
   have fin:∀{xs vs h'},zck ts xs ρ=some ρ' ->zC Z vs xs ->Heap.ExtBut s.heap.objs.size s.heap h' ->
     wpAny Ω.m A (assignInOrder ((assignEach es env).map (·.2)) vs) (λu s'=>StX (Own c env ρ ad) GI Ω Z s Z s'/\ Rel c env Z s'.heap ρ' ad) zf {s with heap:=h'}:=by
    intro xs vs h' hb rs hx
    have S_1:Stp Ω Z s Z {s with heap:=h'}:=Stp.grow (n:=s.toks) hO (zbp hx)
    refine wpAny_mono (zgu (zbU hA n) es ts xs vs ρ ρ' _ hts hb S_1.ok (hR.stp S_1) rs) (λu s_2 p=>?_) λu w q=>q
    exact ⟨S_1.x.trans p.1 (λa o=> .inl o) (λi g=> .inl g),p.2⟩
   induction x using PyData.casesOn with
   |tuple xs=>
    obtain (⟨a,vs,k,rfl,e,r⟩):=r
    have hn:(assignEach es env).length=vs.size:=by rw [hl,zcN hb,zx r] at |-
    rw [hn] at |-
    exact wB (wpAny_holding (wpAny_unpackItems_tuple hA ⟨_,hO.sub _ _ e,rfl,k,rfl⟩ λh' hx=>fin hb r hx))
   |list xs=>
    obtain (⟨a,vs,k,rfl,e,r⟩):=r
    have hn:(assignEach es env).length=vs.size:=by rw [hl,zcN hb,zx r] at |-
    rw [hn] at |-
    exact wB (wpAny_holding (zjQ hA ⟨_,hO.sub _ _ e,rfl,k,rfl⟩ λh' hx=>fin hb r hx))
   |_=>exact zb hb
  |_=>exact zb h
end
noncomputable def zp5:List String:=["enumerate","zip","dict_itemiterator","dict_reverseitemiterator","odict_iterator","itertools.zip_longest","itertools.pairwise"]
section
variable {Ω:En} {A:Around} {Z Z' Z'':Heap} {s s' s'':Shared} {c:TC} {env:Env} {ρ:Rho} {ad:Nat ->Addr}
 {W W':Addr ->Prop} {GI GI':Nat ->Prop} {E:Value ->Shared ->Prop}
set_option tactic.hygienic true in
theorem zfB {target:PySem.Expr} {I:Addr} {v:Value} {o:Obj} {T:String} {Q:Unit ->Shared ->Prop} (ho:s.heap.get? I=some o) (hc:o.cls= .type T) (hT:zp5.contains T=false) (h:Q () s):
  wpAny Ω.m A (letOwnedTupleGo target (.ref I) v) Q E s:=by
 have main:∀a,wpAny Ω.m A (do
   let o <-load I
   match o.cls,o.data with
   | .type n,.fields vs=>
    if ["enumerate","zip","dict_itemiterator","dict_reverseitemiterator","odict_iterator","itertools.zip_longest","itertools.pairwise"].contains n&&vs[0]?==some (rawInt a) then
     rule "for.unpacks-the-owned-tuple"
     updateField I 0 .none
   |_,_=>pure ()) Q E s:=by
  intro a
  refine wB (wpAny_load ho ?_)
  refine za hc ?_
  cases hd:o.data<;>try exact wPu h
  rename_i vs
  show wpAny _ _ (if (zp5.contains T&&vs[0]?==some (rawInt a))=true then _ else _) Q E s
  exact za hT (wPu h)
 cases target<;>first
  |exact wPu h
  | (induction v<;>first
    |exact wPu h
    |exact main _)
theorem StX.freezeNew {Z_1:Heap} {a:Addr} {o:Obj} (S:StX W GI Ω Z s Z_1 s') (hn:s.heap.get? a=none) (hF:Z_1.get? a=none) (ho:s'.heap.get? a=some o):
  ∃Z',StX W GI Ω Z s Z' s'/\ Z'.get? a=some o/\ Sub Z_1 Z'/\ ∀b,b≠a ->Z'.get? b=Z_1.get? b:=by
 have hf:o.isFreed=false:=zba (by rw [<-zaN];exact ho)
 refine E13 (zkS Z_1 a o hF hf) λF' h1 h2 h3=>?_
 have nt:¬Ω.tab a:=S.ntF hn
 refine I14 F' ⟨⟨λb o' e=>?_,S.ok.base.trans h1,S.ok.os,S.ok.gens,S.ok.j,λb t=>?_⟩,S.f.trans h1,λb o' n t e=>?_,S.t,S.h,S.g,S.gs⟩ h2 h1 h3
 ·by_cases hb:b=a
  ·obtain rfl:=hb.symm;refine eqE (h2.symm.trans e) ?_;exact ho
  ·rw [h3 b hb] at e;exact S.ok.sub _ _ e
 ·refine za (h3 b λx=>nt (x▸t)) ?_;exact S.ok.zt b t
 ·have hb:b≠a:=by rintro rfl;exact zb (hn.symm.trans e)
  refine za (h3 b hb) ?_;exact S.new _ _ n t e
theorem StX.at {h':Heap} {n:Nat} (hO:Ok Ω Z s) (ht:∀b,W b ->NoP Ω s.heap b) (hz:∀b,W b ->Z.get? b=none) (hk:∀b o,¬W b ->s.heap.get? b=some o ->h'.get? b=some o):
  StX W GI Ω Z s Z {s with heap:=h',toks:=n} where
 ok:=⟨λb o e=>hk b o (λq=>by exact zb ((hz b q).symm.trans e)) (hO.sub b o e),hO.base,hO.os,hO.gens,Ω.jk _ _ hO.j (λb o t e=>hk b o (λw=>t.elim (ht b w).1 ((ht b w).2 o e)) e),hO.zt⟩
 f:= .refl _
 new:=λu v w x y=>rfl
 t:=hO.lv
 h:=λb o w t e=>hk b o w e
 g:=λu v w e=>e
 gs:=Nat.le_refl _
end
structure ziH (Ω:En) (it:Value) (fp wr:List Addr) (GI:Nat ->Prop) (pair:Bool)
  (St:List PyData ->Heap ->Shared ->Prop) (Mid:Value ->List PyData ->Heap ->Shared ->Prop) (n:Nat):Prop where
 sub:∀b∈wr,b∈fp
 nt:∀b∈fp,¬Ω.tab b
 live:∀xs Z s,St xs Z s ->(∀b∈fp,∃o,s.heap.get? b=some o)/\ (∀b∈wr,Z.get? b=none)/\ ∀i,GI i ->∃x,s.gens[i]?=some x
 frame:∀xs Z s W' GI' Z' s',St xs Z s ->StX W' GI' Ω Z s Z' s' ->(∀b∈fp,¬W' b) ->(∀i,GI i ->¬GI' i) ->St xs Z' s'
 next:∀A,Rm A n ->∀x xs Z s,St (x::xs) Z s ->Ok Ω Z s ->wpAny Ω.m A (pyNext it) (λr s_1=>∃v Z_1,r=some v/\ StX (· ∈wr) GI Ω Z s Z_1 s_1/\ Rep Z_1 v x/\ Mid v xs Z_1 s_1) zf s
 go:∀A,Rm A n ->∀target v xs Z s,Mid v xs Z s ->Ok Ω Z s ->(pair=true ->∃es k p,target= .Tuple es k p) ->wpAny Ω.m A (letOwnedTupleGo target it v) (λ_ s_1=>StX (· ∈wr) GI Ω Z s Z s_1/\ St xs Z s_1) zf s
 done:∀A,Rm A n ->∀Z s,St [] Z s ->Ok Ω Z s ->wpAny Ω.m A (pyNext it) (λr s_1=>r=none/\ ∃Z_1,StX (· ∈wr) GI Ω Z s Z_1 s_1) zf s
 self:∀A,Rm A n ->∀xs Z s,St xs Z s ->Ok Ω Z s ->wpAny Ω.m A (pyIter it) (λv s_1=>v=it/\ s_1=s) zf s
abbrev DSt:=List Addr ->List Addr ->List PyData ->Heap ->Shared ->Prop
abbrev zsu:=List Addr ->List Addr ->Value ->List PyData ->Heap ->Shared ->Prop
structure zjR (Ω:En) (A:Around) (it:Value) (GI:Nat ->Prop) (pair:Bool) (St:DSt) (Mid:zsu):Prop where
 sub:∀fp wr xs Z s,St fp wr xs Z s ->∀b∈wr,b∈fp
 nt:∀fp wr xs Z s,St fp wr xs Z s ->∀b∈fp,¬Ω.tab b
 live:∀fp wr xs Z s,St fp wr xs Z s ->(∀b∈fp,∃o,s.heap.get? b=some o)/\ (∀b∈wr,Z.get? b=none)/\ ∀i,GI i ->∃x,s.gens[i]?=some x
 frame:∀fp wr xs Z s W' GI' Z' s',St fp wr xs Z s ->StX W' GI' Ω Z s Z' s' ->(∀b∈fp,¬W' b) ->(∀i,GI i ->¬GI' i) ->St fp wr xs Z' s'
 next:∀fp wr x xs Z s,St fp wr (x::xs) Z s ->Ok Ω Z s ->wpAny Ω.m A (pyNext it) (λr s_1=>∃v Z_1 fp' wr',r=some v/\ StX (· ∈wr) GI Ω Z s Z_1 s_1/\ Rep Z_1 v x/\ Mid fp' wr' v xs Z_1 s_1/\
  (∀b∈fp',b∈fp \/s.heap.get? b=none)/\ ∀b∈wr',b∈fp'/\ (b∈wr \/s.heap.get? b=none)) zf s
 go:∀fp wr target v xs Z s,Mid fp wr v xs Z s ->Ok Ω Z s ->(pair=true ->∃es k p,target= .Tuple es k p) ->wpAny Ω.m A (letOwnedTupleGo target it v) (λ_ s_1=>StX (· ∈wr) GI Ω Z s Z s_1/\ St fp wr xs Z s_1) zf s
 done:∀fp wr Z s,St fp wr [] Z s ->Ok Ω Z s ->wpAny Ω.m A (pyNext it) (λr s_1=>r=none/\ ∃Z_1,StX (· ∈wr) GI Ω Z s Z_1 s_1) zf s
 self:∀fp wr xs Z s,St fp wr xs Z s ->Ok Ω Z s ->wpAny Ω.m A (pyIter it) (λv s_1=>v=it/\ s_1=s) zf s
theorem ziH.at {Ω:En} {A:Around} {n:Nat} {it:Value} {fp wr:List Addr} {GI:Nat ->Prop} {pair:Bool} {St:List PyData ->Heap ->Shared ->Prop} {Mid:Value ->List PyData ->Heap ->Shared ->Prop}
  (X:ziH Ω it fp wr GI pair St Mid n) (hA:Rm A n):zjR Ω A it GI pair (λf r xs Z s=>f=fp/\ r=wr/\ St xs Z s) (λf r v xs Z s=>f=fp/\ r=wr/\ Mid v xs Z s) where
 sub:=λf r xs Z s ⟨a,b,_⟩=>by refine za a ?_;refine za b ?_;exact X.sub
 nt:=λf r xs Z s ⟨a,b,_⟩=>by refine za a ?_;exact X.nt
 live:=λf r xs Z s ⟨a,b,h⟩=>by refine za a ?_;refine za b ?_;exact X.live xs Z s h
 frame:=λf r xs Z s W' GI' Z' s' ⟨a,b,h⟩ S h1 h2=>by subst a;refine za b ?_;exact I03 rfl rfl (X.frame xs Z s W' GI' Z' s' h S h1 h2)
 next:=λf r x xs Z s ⟨a,b,h⟩ hO=>by
  refine za a ?_;refine za b ?_
  exact wpM (X.next A hA x xs Z s h hO) (λr s_1 ⟨v,Z_1,h1,h2,h3,h4⟩=>I46 v Z_1 _ _ h1 h2 h3 (I03 rfl rfl h4) (λb hb=> .inl hb) (λb hb=>⟨X.sub b hb,.inl hb⟩))
 go:=λf r target v xs Z s ⟨a,b,h⟩ hO hp=>by
  refine za a ?_;refine za b ?_
  exact wpM (X.go A hA target v xs Z s h hO hp) (λ_ s_1 ⟨h1,h2⟩=>I04 h1 rfl rfl h2)
 done:=λf r Z s ⟨a,b,h⟩ hO=>by refine za a ?_;refine za b ?_;exact X.done A hA Z s h hO
 self:=λf r xs Z s ⟨a,b,h⟩ hO=>X.self A hA xs Z s h hO
section
variable {Ω:En} {Z Z' Z'':Heap} {s s' s'':Shared} {n m:Nat}
theorem ziH.ofWalks {I:Addr} {fp:List Addr} {N:Nat} {P:Nat ->Value ->Prop} {St:Nat ->Heap ->Prop} {xs:List PyData} {Z₀:Heap}
  (W:∀A:Around,A.handled=none ->Walks Ω.prog Ω.w A I fp [I] N P St) (hN:xs.length=N) (hI:I∈fp) (hP:∀i v x,P i v ->xs[i]?=some x ->Rep Z₀ v x)
  (hc:∀i h,St i h ->∃o T,h.get? I=some o/\ o.cls= .type T/\ (zp5.contains T=false/\ T≠ "code")) (hl:∀i h,St i h ->∀b∈fp,∃o,h.get? b=some o) (hnt:∀b∈fp,¬Ω.tab b):
  ziH Ω (.ref I) fp [I] (λu=>False) false
   (λrem Z s=>∃i,i<=xs.length/\ rem=xs.drop i/\ St i s.heap/\ Sub Z₀ Z/\ ∀b∈[I],Z.get? b=none)
   (λv rem Z s=>∃i,i<=xs.length/\ rem=xs.drop i/\ St i s.heap/\ Sub Z₀ Z/\ ∀b∈[I],Z.get? b=none) n where
 sub:=(W {} rfl).sub
 nt:=hnt
 live:=λxs Z s ⟨i,hi,_,st,_,hw⟩=>I03 (hl i _ st) hw (λu h=>h.elim)
 frame:=λrem Z s W' GI' Z' s' ⟨i,hi,e,st,f,hw⟩ S hd _=>I15 i hi e ((W {} rfl).frame i _ _ st λb hb o eo=>S.h b o (hd b hb) (hnt b hb) eo) (f.trans S.f) (λb hb=>by
   have hb':=(W {} rfl).sub b hb
   refine zO (hl i _ st b hb') λo ho=>?_
   refine za (S.new b o (hd b hb') (hnt b hb') ho) ?_;exact hw b hb)
 next:=λA hA x rem Z s ⟨i,hi,e,st,f,hw⟩ hO=>by
  have hlt:i<xs.length:=by
   refine Or.elim (Nat.lt_or_ge i xs.length) (λh=>?_) λh=>?_
   ·exact h
   ·have e:=(List.drop_eq_nil_of_le h)▸e;cases e
  rw [List.drop_eq_getElem_cons hlt] at e
  injection e with e1 e2
  refine za e1 ((W A hA.handled).item i s _ _ (hN▸hlt) st λv h' tk hv st' hk=>?_)
  refine ⟨v,Z,rfl,StX.at (W:=(· ∈[I])) hO (λb hb=>by refine za (List.mem_singleton.mp hb) ?_;exact E23 (hc _ _ st) λo T ho h1 h2=>npC (hnt I hI) ho h1 h2.2) (λb hb=>hw b hb) hk,Rep.mono f (hP i v _ hv (List.getElem?_eq_getElem hlt)),i+1,hlt,e2,st',f,hw⟩
 go:=λA hA target v rem Z s ⟨i,hi,e,st,f,hw⟩ hO _=>by
  refine E23 (hc i _ st) λo T ho hcl hT=>?_
  exact zfB ho hcl hT.1 ⟨StX.refl hO,i,hi,e,st,f,hw⟩
 done:=λA hA Z s ⟨i,hi,e,st,f,hw⟩ hO=>by
  have hi':i=N:=by
   refine Or.elim (Nat.lt_or_ge i xs.length) (λh=>?_) λh=>?_
   ·have e:=(List.drop_eq_getElem_cons h)▸e;cases e
   ·lia
  obtain rfl:=hi'.symm
  exact (W A hA.handled).done s _ _ st λh' tk hk=>⟨rfl,Z,StX.at (W:=(· ∈[I])) hO (λb hb=>by refine za (List.mem_singleton.mp hb) ?_;exact E23 (hc _ _ st) λo T ho h1 h2=>npC (hnt I hI) ho h1 h2.2) (λb hb=>hw b hb) hk⟩
 self:=λA hA rem Z s ⟨i,hi,e,st,f,hw⟩ hO=>(W A hA.handled).self i s _ _ st ⟨rfl,rfl⟩
end
def zdY (Ω:En) (A:Around) (pair:Bool) (Z:Heap) (s:Shared) (xs:List PyData):Value ->Shared ->Prop:=λit s_2=>
 ∃fp wr GI St Mid Z_2,Stp Ω Z s Z_2 s_2/\ zjR Ω A it GI pair St Mid/\ St fp wr xs Z_2 s_2/\ (∀b∈wr,s.heap.get? b=none)/\ (∀i,GI i ->s.gens.size<=i)/\
  (∀b∈fp,s.heap.get? b=none \/ ∃o,Z_2.get? b=some o)
section
variable {Ω:En} {A:Around} {Z Z' Z'':Heap} {s s' s'':Shared} {c:TC} {env:Env} {ρ:Rho} {ad:Nat ->Addr} {n m:Nat} {pair:Bool}
theorem zb9 {xs:List PyData} {it:Value} (S:Stp Ω Z s Z' s') (p:zdY Ω A pair Z' s' xs it s''):zdY Ω A pair Z s xs it s'':=by
 refine cps λG0 hG_0=>?_
 obtain ⟨fp,wr,GI,St,Mid,Z_2,S_2,M,st,h1,h2,h3⟩:=p
 refine hG_0 ?_
 refine ⟨fp,wr,GI,St,Mid,Z_2,S.trans S_2,M,st,λb hb=>S.fresh (h1 b hb),λi g=>zv (GK.size S.g) (h2 i g),λb hb=>?_⟩
 refine Or.elim (h3 b hb) (λh=>?_) λh=>?_
 ·exact .inl (S.fresh h)
 ·exact .inr h
theorem zcy (hA:Rm A n) (hO:Ok Ω Z s) {o:Obj} {fp:List Addr} {N tk:Nat} {P:Nat ->Value ->Prop} {St:Nat ->Heap ->Prop} {xs:List PyData}
  (W:∀A:Around,A.handled=none ->Walks Ω.prog Ω.w A s.heap.objs.size fp [s.heap.objs.size] N P St) (hN:xs.length=N) (hI:s.heap.objs.size∈fp)
  (hP:∀i v x,P i v ->xs[i]?=some x ->Rep Z v x) (hc:∀i h,St i h ->∃o T,h.get? s.heap.objs.size=some o/\ o.cls= .type T/\ (zp5.contains T=false/\ T≠ "code"))
  (hl:∀i h,St i h ->∀b∈fp,∃o,h.get? b=some o) (h0:St 0 (s.heap.push o)) (hfp:∀b∈fp,b=s.heap.objs.size \/ ∃o,Z.get? b=some o/\ NoF o):
  zdY Ω A false Z s xs (.ref s.heap.objs.size) {s with heap:=s.heap.push o,toks:=tk}:=by
 have hn:s.heap.get? s.heap.objs.size=none:=zh _
 refine ⟨fp,[s.heap.objs.size],_,_,_,Z,Stp.grow hO (Sub.push _ _),(ziH.ofWalks W hN hI hP hc hl λb hb=>(hfp b hb).elim (λe=>by refine za e ?_;exact hO.ntF hn) λh=>zm h λo e n=>hO.nt (hO.sub _ _ e) n).at hA,⟨rfl,rfl,0,Nat.zero_le _,rfl,h0,.refl _,?_⟩,?_,λu h=>h.elim,?_⟩
 ·intro b hb
  rw [List.mem_singleton] at hb;subst hb
  exact hO.sub.none hn
 ·intro b hb
  rw [List.mem_singleton] at hb;subst hb
  exact hn
 ·intro b hb
  rcases hfp b hb with rfl|h
  ·exact .inl hn
  ·exact .inr (zm h λo e n=>⟨o,e⟩)
theorem zcz {vs:Array Value} {xs:List PyData} (r:zC Z vs.toList xs) (i:Nat) (v:Value) (x:PyData) (h:vs[i]?=some v) (hx:xs[i]?=some x):Rep Z v x:=by
 refine zm (r.get hx) λu hu ru=>?_
 rw [Array.getElem?_toList] at hu
 refine eqE (hu.symm.trans h) ?_;exact ru
theorem zhZ {x:Str} {i:Nat} {d:PyData} (h:(zbE x)[i]?=some d):∃c,x.cps[i]?=some c/\ d= .str ⟨#[c]⟩:=by
 have h:=List.getElem?_map▸h
 induction e:x.cps.toList[i]? with
 |none=>rw [e] at h;exact zb h
 |some c=>rw [e] at h;refine eqE h ?_;exact zM c (by simpa using e) rfl
@[elab_as_elim] theorem zuv {P:PyData ->List PyData ->Prop} {d:PyData} {xs:List PyData} (h:zbs d=some xs) (l:∀xs,P (.list xs) xs) (t:∀xs,P (.tuple xs) xs)
  (s:∀x,P (.str x) (zbE x)):P d xs:=by
 cases d with
 |list ys=>exact eqE h (l ys)
 |tuple ys=>exact eqE h (t ys)
 |str x=>exact eqE h (s x)
 |_=>exact zb h
set_option tactic.hygienic true in
theorem zn0 (hA:Rm A n) (hO:Ok Ω Z s) {v:Value} {d:PyData} {xs:List PyData} (r:Rep Z v d) (hi:zbs d=some xs):
  wpAny Ω.m A (pyIter v) (zdY Ω A false Z s xs) zf s:=by
 revert r
 refine zuv hi (λxs r=>?_) (λxs r=>?_) λx r=>?_
 ·obtain (⟨a,vs,k,rfl,e,r⟩):=r
  have hs:=hO.sub _ _ e
  have hne:a≠s.heap.objs.size:=Nat.ne_of_lt (Heap.lt_size hs)
  refine wpAny_pyIter_list (items:=vs) ⟨_,hs,rfl,k,rfl⟩ ?_
  refine zcy (tk:=s.toks) hA hO (λA hA=>Walks.list hA _ a hne vs) (zx r).symm (by simp) (λi v x h hx=>zcz r i v x h hx) ?_ ?_ ⟨(I13 _ (Heap.get?_push_size _ rfl) rfl rfl),⟨_,Heap.get?_push_of_some _ hs,rfl,k,rfl⟩⟩ ?_
  ·intro i h h9;refine zR h9 λq1 _=>?_;clear h9;refine E13 q1 λo ho hc _=>?_;clear q1
   exact ⟨o,_,ho,hc,by decide+kernel,by decide⟩
  ·intro i h h9 b hb;refine zR h9 λq2 q3=>?_;clear h9;refine E13 q2 λo ho hc _=>?_;clear q2;refine zm q3 λo' ho' _=>?_;clear q3
   refine zaW hb ?_ ?_
   ·exact ⟨_,ho⟩
   ·exact ⟨_,ho'⟩
  ·intro b hb
   refine zaW hb ?_ ?_
   ·exact .inl rfl
   ·exact .inr (zM _ e zak)
 ·obtain (⟨a,vs,k,rfl,e,r⟩):=r
  have hs:=hO.sub _ _ e
  have hne:a≠s.heap.objs.size:=Nat.ne_of_lt (Heap.lt_size hs)
  refine wpAny_pyIter_tuple (items:=vs) ⟨_,hs,rfl,k,rfl⟩ ?_
  refine zcy (tk:=s.toks) hA hO (λA hA=>Walks.tuple hA _ a hne vs) (zx r).symm (by simp) (λi v x h hx=>zcz r i v x h hx) ?_ ?_ ⟨(I13 _ (Heap.get?_push_size _ rfl) rfl rfl),⟨_,Heap.get?_push_of_some _ hs,rfl,k,rfl⟩⟩ ?_
  ·intro i h h9;refine zR h9 λq4 _=>?_;clear h9;refine E13 q4 λo ho hc _=>?_;clear q4
   exact ⟨o,_,ho,hc,by decide+kernel,by decide⟩
  ·intro i h h9 b hb;refine zR h9 λq5 q6=>?_;clear h9;refine E13 q5 λo ho hc _=>?_;clear q5;refine zm q6 λo' ho' _=>?_;clear q6
   refine zaW hb ?_ ?_
   ·exact ⟨_,ho⟩
   ·exact ⟨_,ho'⟩
  ·intro b hb
   refine zaW hb ?_ ?_
   ·exact .inl rfl
   ·exact .inr (zM _ e zak)
 ·refine zb6 r λt=>?_
  have hlen:(zbE x).length=x.cps.size:=by simp [zbE]
  have hPs:∀i v d,SignAt x i v ->(zbE x)[i]?=some d ->Rep Z v d:=by
   intro i v d h9 hd;refine E22 h9 λc u hc q7=>?_;clear h9;obtain rfl:=q7
   refine zm (zhZ hd) λc' hc' e9=>?_;refine za e9 ?_
   refine eqE (hc.symm.trans hc') ?_
   exact zU.mpr ⟨u,rfl⟩
  cases ha:x.cps.all (· <128)
  ·refine wpAny_pyIter_wide ha ?_
   refine zcy (tk:=s.toks) hA hO (λA hA=>Walks.strWide hA _ x t) hlen (by simp) hPs ?_ ?_ (I13 _ (Heap.get?_push_size _ rfl) rfl rfl) ?_
   ·intro i h h9;refine E13 h9 λo ho hc _=>?_;clear h9
    exact ⟨o,_,ho,hc,by decide+kernel,by decide⟩
   ·intro i h h9 b hb;refine E13 h9 λo ho hc _=>?_;clear h9
    rw [List.mem_singleton] at hb;subst hb;exact ⟨_,ho⟩
   ·intro b hb
    rw [List.mem_singleton] at hb;exact .inl hb
  ·refine wpAny_pyIter_ascii ha ?_
   refine zcy (tk:=s.toks) hA hO (λA hA=>Walks.strAscii hA _ x t) hlen (by simp) hPs ?_ ?_ (I13 _ (Heap.get?_push_size _ rfl) rfl rfl) ?_
   ·intro i h h9;refine E13 h9 λo ho hc _=>?_;clear h9
    exact ⟨o,_,ho,hc,by decide+kernel,by decide⟩
   ·intro i h h9 b hb;refine E13 h9 λo ho hc _=>?_;clear h9
    rw [List.mem_singleton] at hb;subst hb;exact ⟨_,ho⟩
   ·intro b hb
    rw [List.mem_singleton] at hb;exact .inl hb
theorem zgv (hA:Rm A n) (hO:Ok Ω Z s) {r:Addr} {a b:Int} {t u v:Tok} (hr:IsRange s.heap r a b 1 t u v) (h1: -(2^62)<=a) (h2:a<2^62) (h3: -(2^62)<=b) (h4:b<2^62):
  wpAny Ω.m A (pyIter (.ref r)) (zdY Ω A false Z s ((List.range (b-a).toNat).map λ(k:Nat)=>PyData.int (a+(k:Int)))) zf s:=by
 refine wpAny_pyIter_range hr (small_one h1 h2 h3 h4) ?_
 have hsz:Builtin.Range.rangeSize a b 1=((b-a).toNat:Int):=by rw [rangeSize_one];split<;>lia
 refine zcy (tk:=s.toks) hA hO (λA hA=>Walks.range hA _ a 1 (b-a).toNat) (by simp) (by simp) ?_ ?_ ?_ ?_ ?_
 ·intro i v x h9 hx;refine zO h9 λt e9=>?_;clear h9;subst e9
  rw [List.getElem?_map] at hx
  rcases Nat.lt_or_ge i (b-a).toNat with hi|hi
  ·rw [List.getElem?_range hi] at hx
   refine eqE hx ?_
   exact zu.mpr ⟨t,by simp⟩
  ·rw [List.getElem?_eq_none (by simpa using hi)] at hx;exact zb hx
 ·rintro i h ho
  exact I23 _ _ ho rfl ⟨by decide+kernel,by decide⟩
 ·rintro i h ho b hb
  rw [List.mem_singleton] at hb;subst hb;exact ⟨_,ho⟩
 ·have e2:(((b-a).toNat:Int)-((0:Nat):Int))=Builtin.Range.rangeSize a b 1:=by refine za hsz ?_;rfl
  refine za (by simp:(a+((0:Nat):Int)*1)=a) (za e2 ?_)
  exact Heap.get?_push_size _ rfl
 ·intro b hb
  rw [List.mem_singleton] at hb;exact .inl hb
theorem zn1 (hA:Rm A n) (hO:Ok Ω Z s) {l:Addr} {vs:Array Value} {k:Nat} {xs:List PyData} {I:Addr} (e:Z.get? l=some {cls:= .type "list",data:= .seq vs k}) (r:zC Z vs.toList xs)
  (s_0:Shared) (Z₀:Heap) (S:Stp Ω Z₀ s_0 Z s) (hI:s.heap.IsRevIter I l ((vs.size:Int)-1)) (hn:s_0.heap.get? I=none) (hz:Z.get? I=none):
  wpAny Ω.m A (pyIter (.ref I)) (zdY Ω A false Z₀ s_0 xs.reverse) zf s:=by
 have hne:l≠I:=by intro h9;obtain rfl:=h9;exact zb (hz.symm.trans e)
 refine wpAny_pyIter_revIter hI ?_
 refine ⟨[I,l],[I],_,_,_,Z,S,(ziH.ofWalks (λA hA=>Walks.listRev hA I l hne vs) (xs:=xs.reverse) (Z₀:=Z) (by simp [zx r]) (by simp) ?_ ?_ ?_ ?_).at hA,⟨rfl,rfl,0,Nat.zero_le _,rfl,(I03 (Nat.zero_le _) (by simpa using hI) ⟨_,(hO.sub _ _ e),rfl,k,rfl⟩),.refl _,?_⟩,?_,λu h=>h.elim,?_⟩
 ·intro i v x h hx
  have hi:i<xs.length:=by
   refine Or.elim (Nat.lt_or_ge i xs.reverse.length) (λh=>?_) λh=>?_
   ·simpa using h
   ·rw [List.getElem?_eq_none h] at hx;exact zb hx
  rw [List.getElem?_reverse hi] at hx
  rw [(zx r)] at h
  exact zcz r _ v x h hx
 ·intro i h h9;refine E03 h9 λ_ q8 _=>?_;clear h9;refine E13 q8 λo ho hc _=>?_;clear q8
  exact I23 o _ ho hc ⟨by decide+kernel,by decide⟩
 ·intro i h h9 b hb;refine E03 h9 λ_ q9 q10=>?_;clear h9;refine E13 q9 λo ho hc _=>?_;clear q9;refine zm q10 λo' ho' _=>?_;clear q10
  refine zaW hb ?_ ?_
  ·exact ⟨_,ho⟩
  ·exact ⟨_,ho'⟩
 ·intro b hb
  refine zaW hb (S.ntF hn) ?_
  exact hO.nt (hO.sub _ _ e) zak
 ·intro b hb
  rw [List.mem_singleton] at hb;refine za hb ?_;exact hz
 ·intro b hb
  rw [List.mem_singleton] at hb;refine za hb ?_;exact hn
 ·intro b hb
  refine zaW hb ?_ ?_
  ·exact .inl hn
  ·exact .inr ⟨_,e⟩
end
section
open PySem.AutoSeq1 (wpAny_loadPart')
section
variable {Ω:En} {A:Around} {E:Value ->Shared ->Prop} {s:Shared}
theorem zeE {it l:Addr} {i:Nat} {items} {x:Value} {Q:Value ->Shared ->Prop} (hit:s.heap.IsTupleIter it l i)
  (hl:s.heap.IsTuple l items) (hx:items[i]?=some x)
  (hQ:∀h',h'.IsTupleIter it l (i+1) ->Heap.SameBut it s.heap h' ->Q x {s with heap:=h'}):
  wpAny Ω.m A (Builtin.SmallTypes.nextOf (.ref it)) Q E s:=by
 refine cps λG0 hG_0=>?_
 refine E13 (id hit) λo ho hc hd=>?_
 obtain ⟨ol,hol,_,nl,hdl⟩:=hl
 refine hG_0 ?_
 refine wB (wpAny_callSpecial?_slot (name:=Str.ofString "__next__") hit.typeIs F.slot_tuple_iterator_next
  (wpAny_call_entry F.slot_tuple_iterator_next hit.typeIs F.entry_tuple_iterator_next ?_ (F.args_tuple_iterator_next_1 _)))
 show wpAny _ _ (field (.ref it) 0>>=_) _ _ s
 refine wB (wpAny_field ho hd (x:= .ref l) rfl ?_)
 refine wB (wpAny_field ho hd (x:= .int i 0) rfl ?_)
 refine wB (wpAny_seqItems hol hdl ?_)
 simp only [Int.toNat_natCast,hx]
 refine wB (wpAny_setField ho hd (by simp) (wPu (zM x rfl (wPu (hQ _ ?_ (Heap.SameBut.update ..))))))
 exact I13 _ (Heap.get?_update_self _ ho (Obj.isFreed_of_fields (Obj.data_mapFields hd _))) ((Obj.cls_mapFields ..).trans hc) (by
  rw [Obj.data_mapFields hd];rfl)
theorem zfd {it l:Addr} {i:Nat} {items} {Q:Value ->Shared ->Prop} (hh:A.handled=none)
  (hit:s.heap.IsTupleIter it l i) (hl:s.heap.IsTuple l items) (hx:items[i]?=none)
  (hE:∀h' e,Heap.ExtBut it s.heap h' ->(∃o,h'.get? e=some o/\ o.cls= .type "StopIteration") ->E (.ref e) {s with heap:=h'}):
  wpAny Ω.m A (Builtin.SmallTypes.nextOf (.ref it)) Q E s:=by
 refine cps λG0 hG_0=>?_
 refine E13 (id hit) λo ho hc hd=>?_
 obtain ⟨ol,hol,_,nl,hdl⟩:=hl
 refine hG_0 ?_
 refine wB (wpAny_callSpecial?_slot (name:=Str.ofString "__next__") hit.typeIs F.slot_tuple_iterator_next
  (wpAny_call_entry F.slot_tuple_iterator_next hit.typeIs F.entry_tuple_iterator_next ?_ (F.args_tuple_iterator_next_1 _)))
 show wpAny _ _ (field (.ref it) 0>>=_) _ _ s
 refine wB (wpAny_field ho hd (x:= .ref l) rfl ?_)
 refine wB (wpAny_field ho hd (x:= .int i 0) rfl ?_)
 refine wB (wpAny_seqItems hol hdl ?_)
 simp only [Int.toNat_natCast,hx]
 refine wB (wpAny_rule (wB (wpAny_setField ho hd (by simp) ?_)))
 refine wB ?_
 refine wB (wpAny_newObj_type ?_ (by size_fits))
 refine wB (m:=firstArgMember _ _) (wpAny_of_eq (a:=Value.none) (by first|rfl| (rfl;rfl)) ?_)
 refine wpAny_newObj_type ?_ (by size_fits)
 refine wB (wpAny_handled ?_)
 first|refine za (show A.in1.handled=none from hh) ?_|rw [hh]
 refine wB (wPu (wpAny_throw ?_))
 exact hE _ _ (((Heap.SameBut.update ..).extBut.push _).push _) (zM _ (Heap.get?_push_size _ rfl) rfl)
theorem zk4 (hh:A.handled=none) (it l:Addr) (hne:l≠it) (items:Array Value):
  Draws Ω.prog Ω.w A it [it,l] items.size (λi v=>items[i]?=some v) (λi h=>h.IsTupleIter it l i/\ h.IsTuple l items) where
 live:=λu y st=>zm st.1 λo ho u=>⟨o,ho⟩
 frame:=λu y z st hk=>⟨st.1.at λo e=>hk it (by simp) o e,zm st.2 λo ho r=>(zM o (hk l (by simp) o ho) r)⟩
 item:=λi s Q E hi st hQ=>by
  refine zeE st.1 st.2 (x:=items[i]) (by simp) λh' hit' hs'=>?_
  exact hQ _ h' s.toks (by simp) ⟨hit',st.2.extBut hs'.extBut hne⟩ hs'
 done:=λs Q E st hE=>zfd hh st.1 st.2 (by simp) hE
set_option tactic.hygienic true in
theorem zfe (l:Addr) (items:Array Value) (n:Nat):
  Meets (Builtin.«enumerate.__new__» ⟨[.type "enumerate",.ref l],[]⟩) (λu R s=>s.heap.get? l=some {cls:= .type "tuple",data:= .seq items n}/\
   R (.ok (.ret (.ref (s.heap.push {cls:= .type "tuple_iterator",data:= .fields #[.ref l,.int 0 0]}).objs.size)))
    {s with heap:=(s.heap.push {cls:= .type "tuple_iterator",data:= .fields #[.ref l,.int 0 0]}).push {cls:= .type "enumerate",data:= .fields #[.none,.bool false,.ref s.heap.objs.size,rawInt 0,.none,.none]}}):=
 .of_wp λprog w A R s h=>by
  obtain ⟨hp,g,d,tk,os⟩:=s;refine zR h λhl h=>?_
  have hsub:=sub_enumerate
  have hL:Heap.IsTuple (Shared.heap ⟨hp,g,d,tk,os⟩) l items:=⟨_,hl,rfl,n,rfl⟩
  wp_walk using wpAny_loadPart' hl
  refine wpAny_stack_any λst=>wPu ?_
  generalize Builtin.SmallTypes.calledThroughType.match_1 (λ_=>Bool) _ _ _=b
  cases b<;>wp_walk using wpAny_loadPart' hl,wpAny_pyIter_tuple hL
  all_goals exact ⟨_,rfl,h⟩
theorem zfT {l:Addr} {items:Array Value} {n:Nat} {Q:Value ->Shared ->Prop} (hl:s.heap.get? l=some {cls:= .type "tuple",data:= .seq items n})
  (h:∀h',IsEnum h' (s.heap.objs.size+1) s.heap.objs.size 0 .none ->h'.IsTupleIter s.heap.objs.size l 0 ->h'.objs.size=s.heap.objs.size+2 ->
   (∀b o,s.heap.get? b=some o ->h'.get? b=some o) ->Q (.ref (s.heap.objs.size+1)) {s with heap:=h'}):
  wpAny Ω.m A (call (.type "enumerate") [.ref l]) Q E s:=by
 refine callType_new F.called_enumerate (rfl) (F.typeCall_enumerate_1 _) (F.newCall_enumerate_1 _) (λobj=>F.args_object_init_2 obj _) F.entry_enumerate_new
  (zfe l items n) ⟨hl,?_⟩
 have hz:(s.heap.push {cls:= .type "tuple_iterator",data:= .fields #[.ref l,.int 0 0]}).objs.size=s.heap.objs.size+1:=Heap.size_push ..
 refine za hz ?_
 have he:IsEnum ((s.heap.push {cls:= .type "tuple_iterator",data:= .fields #[.ref l,.int 0 0]}).push
   {cls:= .type "enumerate",data:= .fields #[.none,.bool false,.ref s.heap.objs.size,rawInt 0,.none,.none]}) (s.heap.objs.size+1) s.heap.objs.size 0 .none:=by
  have:=Heap.get?_push_size (s.heap.push {cls:= .type "tuple_iterator",data:= .fields #[.ref l,.int 0 0]})
   (o:={cls:= .type "enumerate",data:= .fields #[.none,.bool false,.ref s.heap.objs.size,rawInt 0,.none,.none]}) rfl
  rw [hz] at this;exact this
 refine ⟨(zM _ he rfl),h _ he (I13 _ (Heap.get?_push_of_some _ (Heap.get?_push_size _ rfl)) rfl rfl) (by rw [Heap.size_push];exact za hz rfl) λb o x=>Heap.get?_push_of_some _ (Heap.get?_push_of_some _ x)⟩
end
section
variable {Ω:En} {A:Around} {Z Z' Z'':Heap} {s s' s'':Shared} {n m:Nat}
structure Src (Ω:En) (Z:Heap) (xs:List PyData) (it:Addr) (fp:List Addr) (P:Nat ->Value ->Prop) (St:Nat ->Heap ->Prop):Prop where
 draws:∀A:Around,A.handled=none ->Draws Ω.prog Ω.w A it fp xs.length P St
 mem:it∈fp
 rep:∀i v x,P i v ->xs[i]?=some x ->Rep Z v x
 live:∀i h,St i h ->∀b∈fp,∃o,h.get? b=some o
 cls:∀i h,St i h ->∃o T,h.get? it=some o/\ o.cls= .type T/\ T≠ "code"
 old:∀b∈fp,b=it \/ ∃o,Z.get? b=some o/\ NoF o
theorem zgw {l it:Addr} {vs:Array Value} {k:Nat} {xs:List PyData} (hne:l≠it) (e:Z.get? l=some {cls:= .type "list",data:= .seq vs k}) (r:zC Z vs.toList xs):
  Src Ω Z xs it [it,l] (λi v=>vs[i]?=some v) (λi h=>h.IsListIter it l i/\ h.IsList l vs) where
 draws:=λA hA=>by refine zF (zx r) ?_;exact Draws.list hA it l hne vs
 mem:=by simp
 rep:=λi v x h hx=>zcz r i v x h hx
 live:=by
  intro i h h9 b hb;refine zR h9 λq1 q2=>?_;clear h9;refine E13 q1 λo ho hc _=>?_;clear q1;refine zm q2 λo' ho' _=>?_;clear q2
  refine zaW hb ?_ ?_
  ·exact ⟨_,ho⟩
  ·exact ⟨_,ho'⟩
 cls:=λi h h9=>zm h9.1 λo ho hc=>⟨o,_,ho,hc.1,by decide⟩
 old:=λb hb=>by
  refine zaW hb ?_ ?_
  ·exact .inl rfl
  ·exact .inr (zM _ e zak)
theorem zmI {l it:Addr} {vs:Array Value} {k:Nat} {xs:List PyData} (hne:l≠it) (e:Z.get? l=some {cls:= .type "tuple",data:= .seq vs k}) (r:zC Z vs.toList xs):
  Src Ω Z xs it [it,l] (λi v=>vs[i]?=some v) (λi h=>h.IsTupleIter it l i/\ h.IsTuple l vs) where
 draws:=λA hA=>by refine zF (zx r) ?_;exact zk4 hA it l hne vs
 mem:=by simp
 rep:=λi v x h hx=>zcz r i v x h hx
 live:=by
  intro i h h9 b hb;refine zR h9 λq3 q4=>?_;clear h9;refine E13 q3 λo ho hc _=>?_;clear q3;refine zm q4 λo' ho' _=>?_;clear q4
  refine zaW hb ?_ ?_
  ·exact ⟨_,ho⟩
  ·exact ⟨_,ho'⟩
 cls:=λi h h9=>zm h9.1 λo ho hc=>⟨o,_,ho,hc.1,by decide⟩
 old:=λb hb=>by
  refine zaW hb ?_ ?_
  ·exact .inl rfl
  ·exact .inr (zM _ e zak)
theorem zlP {it:Addr} {x:Str} {t:Tok}:
  Src Ω Z (zbE x) it [it] (λi v=>∃c u,x.cps[i]?=some c/\ v= .str ⟨#[c]⟩ u) (λi h=>h.IsStrIter it (strIterType x) x t i) where
 draws:=λA hA=>by
  refine za (by simp [zbE]:(zbE x).length=x.cps.size) ?_
  unfold strIterType
  cases ha:x.cps.all (· <128)
  ·exact Draws.strWide hA it x t
  ·exact Draws.strAscii hA it x t
 mem:=by simp
 rep:=by
  intro i v d h9 hd;refine E22 h9 λc u hc q5=>?_;clear h9;obtain rfl:=q5
  refine zm (zhZ hd) λc' hc' e9=>?_;refine za e9 ?_
  refine eqE (hc.symm.trans hc') ?_
  exact zU.mpr ⟨u,rfl⟩
 live:=by
  intro i h h9 b hb;refine E13 h9 λo ho hc _=>?_;clear h9
  rw [List.mem_singleton] at hb;refine za hb ?_;exact ⟨_,ho⟩
 cls:=λi h h9=>zm h9 λo ho hc=>⟨o,_,ho,hc.1,by unfold strIterType;split<;>decide⟩
 old:=λb hb=>by
  rw [List.mem_singleton] at hb;exact .inl hb
def zlQ (Ω:En) (Z:Heap) (s:Shared) (xs:List PyData):Value ->Shared ->Prop:=λu s'=>
 ∃e it fp P St,u= .ref e/\ Stp Ω Z s Z s'/\ s.heap.get? e=none/\ s.heap.get? it=none/\ e≠it/\ e∉fp/\ Src Ω Z xs it fp P St/\ St 0 s'.heap/\ IsEnum s'.heap e it 0 .none
theorem z4 {h:Heap} {a:Addr} (ha:h.objs.size<=a):h.get? a=none:=by
 induction e:h.get? a with
 |none=>rfl
 |some o'=>exact absurd (Heap.lt_size e) (Nat.not_lt.mpr ha)
theorem zmJ (hO:Ok Ω Z s) {v:Value} {d:PyData} {xs:List PyData} (r:Rep Z v d) (hi:zbs d=some xs):
  wpAny Ω.m A (call (.type "enumerate") [v]) (zlQ Ω Z s xs) zf s:=by
 have f1:s.heap.get? (s.heap.objs.size+1)=none:=z4 (Nat.le_succ _)
 have f0:s.heap.get? s.heap.objs.size=none:=zh _
 have hne:s.heap.objs.size+1≠s.heap.objs.size:=Nat.succ_ne_self _
 have ef:∀{l o},s.heap.get? l=some o ->s.heap.objs.size+1∉[s.heap.objs.size,l]:=by
  intro l o hs hb
  simp only [List.mem_cons,List.not_mem_nil,or_false] at hb
  refine Or.elim hb (λh=>?_) λh=>?_
  ·exact hne h
  ·rw [<-h] at hs;exact zb (f1.symm.trans hs)
 revert r
 refine zuv hi (λxs r=>?_) (λxs r=>?_) λx r=>?_
 ·obtain (⟨a,vs,k,rfl,e,r⟩):=r
  have hs:=hO.sub _ _ e
  have hna:a≠s.heap.objs.size:=Nat.ne_of_lt (Heap.lt_size hs)
  refine call_enumerate_list (items:=vs) ⟨_,hs,rfl,k,rfl⟩ λh' he hit u hk=>?_
  exact ⟨_,_,_,_,_,rfl,Stp.grow (n:=s.toks) hO hk,f1,f0,hne,ef hs,zgw hna e r,⟨hit,_,hk _ _ hs,rfl,k,rfl⟩,he⟩
 ·obtain (⟨a,vs,k,rfl,e,r⟩):=r
  have hs:=hO.sub _ _ e
  have hna:a≠s.heap.objs.size:=Nat.ne_of_lt (Heap.lt_size hs)
  refine zfT hs λh' he hit u hk=>?_
  exact ⟨_,_,_,_,_,rfl,Stp.grow (n:=s.toks) hO hk,f1,f0,hne,ef hs,zmI hna e r,⟨hit,_,hk _ _ hs,rfl,k,rfl⟩,he⟩
 ·refine zb6 r λt=>?_
  refine call_enumerate_str λh' he hit u hk=>?_
  exact ⟨_,_,_,_,_,rfl,Stp.grow (n:=s.toks) hO hk,f1,f0,hne,by simp,zlP,hit,he⟩
theorem zgx:∀{xs:List PyData} {k i:Nat},(zen xs k)[i]?=xs[i]?.map λx=>PyData.tuple [.int ((k+i:Nat):Int),x]
 | [],k,i=>rfl
 |x::xs,k,0=>rfl
 |x::xs,k,i+1=>by
  show (zen xs (k+1))[i]?=_
  refine za zgx (za List.getElem?_cons_succ ?_)
  congr 1;funext y;congr 3;lia
theorem zeF:∀{xs:List PyData} {k:Nat},(zen xs k).length=xs.length
 | [],k=>rfl
 |x::xs,k=>congrArg (· +1) zeF
theorem zh0 {xs:List PyData} {e it:Addr} {fp:List Addr} {P:Nat ->Value ->Prop} {St:Nat ->Heap ->Prop} {Z₀:Heap} (X:Src Ω Z₀ xs it fp P St) (hne:e≠it) (hef:e∉fp) (hnt:∀b∈e::fp,¬Ω.tab b):
  ziH Ω (.ref e) (e::fp) [e,it] (λw=>False) true
   (λrem Z s=>∃i old,i<=xs.length/\ rem=(zen xs 0).drop i/\ St i s.heap/\ IsEnum s.heap e it i old/\ Sub Z₀ Z/\ Z.get? e=none/\ Z.get? it=none)
   (λv rem Z s=>∃(i:Nat) (T:Addr) (x:Value),v= .ref T/\ i+1<=xs.length/\ rem=(zen xs 0).drop (i+1)/\ St (i+1) s.heap/\ IsEnumOut s.heap e it ((i:Int)+1) x T/\ Sub Z₀ Z/\ Z.get? e=none/\ Z.get? it=none) n where
 sub:=λb hb=>by
  refine zaW hb ?_ ?_
  ·simp
  ·exact List.mem_cons_of_mem _ X.mem
 nt:=hnt
 live:=by
  intro rem Z s h9;refine E27 h9 λi old hi _ st he f z1 z2=>?_;clear h9
  refine I03 (λb hb=>?_) (λb hb=>?_) (λw h=>h.elim)
  ·rcases List.mem_cons.mp hb with rfl|hb
   ·exact ⟨_,he⟩
   ·exact X.live i _ st b hb
  ·refine zaW hb ?_ ?_
   ·exact z1
   ·exact z2
 frame:=by
  intro rem Z s W' GI' Z' s' h9 S hd _;refine E27 h9 λi old hi er st he f z1 z2=>?_;clear h9
  refine zO (X.live i _ st it X.mem) λoi ho=>?_
  refine I27 i old hi er ((X.draws {} rfl).frame i _ _ st λb hb o eo=>S.h b o (hd b (List.mem_cons_of_mem _ hb)) (hnt b (List.mem_cons_of_mem _ hb)) eo) (S.h _ _ (hd e (by simp)) (hnt e (by simp)) he) (f.trans S.f) ?_ ?_
  ·refine za (S.new _ _ (hd e (by simp)) (hnt e (by simp)) he) ?_;exact z1
  ·refine za (S.new _ _ (hd it (List.mem_cons_of_mem _ X.mem)) (hnt it (List.mem_cons_of_mem _ X.mem)) ho) ?_;exact z2
 next:=by
  intro A hA x rem Z s h9 hO;refine E27 h9 λi old hi er st he f z1 z2=>?_;clear h9
  have hlt:i<xs.length:=by
   refine Or.elim (Nat.lt_or_ge i xs.length) (λh=>?_) λh=>?_
   ·exact h
   ·rw [List.drop_eq_nil_of_le (by refine za zeF ?_;exact h)] at er;exact nomatch er
  have hx:=List.getElem?_eq_getElem hlt
  have hg:(zen xs 0)[i]?=some (PyData.tuple [.int (i:Int),xs[i]]):=by refine za zgx ?_;refine za hx ?_;simp
  obtain (⟨hlt',hg'⟩):=List.getElem?_eq_some_iff.mp hg
  rw [List.drop_eq_getElem_cons hlt',hg'] at er
  injection er with e1 e2
  refine za e1 (wpAny_pyNext_enum_itemD (X.draws A.in1 hA.handled) he st hlt hne hef λu h' tk hu ho st' hT w hk=>?_)
  have S_1:StX (· ∈[e,it]) (λw=>False) Ω Z s Z {s with heap:=h',toks:=tk+1}:=StX.at hO (λb hb=>zaW hb (npC (hnt e (by simp)) he rfl (by decide)) (E23 (X.cls _ _ st) λo T ho h1 h2=>npC (hnt it (List.mem_cons_of_mem _ X.mem)) ho h1 h2)) (λb hb=>zaW hb z1 z2) λb o nb eo=>by
    have nb:=nm2 nb
    exact hk b o nb.1 nb.2 eo
  refine E14 (S_1.freezeNew (a:=s.heap.objs.size) (zh _) (hO.sub.none (zh _)) hT) λZ' S_2 hz f' hoff=>?_
  have his:it≠s.heap.objs.size:=by refine zO (X.live i _ st it X.mem) λo ho=>?_;exact Nat.ne_of_lt (Heap.lt_size ho)
  refine ⟨_,Z',rfl,S_2,zbi.mpr (I33 _ _ 0 rfl hz ?_),i,_,u,rfl,hlt,e2,st',ho,f.trans f',by refine za (hoff _ (Nat.ne_of_lt (Heap.lt_size he))) ?_;exact z1,by refine za (hoff _ his) ?_;exact z2⟩
  exact .cons (zu.mpr ⟨_,rfl⟩) (.one ((X.rep i u _ hu hx).mono (f.trans f')))
 go:=by
  intro A hA target v rem Z s h9 hO hp;refine E38 h9 λi T x q6 hi er st he f z1 z2=>?_;clear h9;obtain rfl:=q6
  refine E31 (hp rfl) λes k p e9=>?_;refine za e9 ?_
  refine wpAny_letOwnedTupleGo_enum he λh' he' hs'=>?_
  refine ⟨StX.at (n:=s.toks) hO (λb hb=>zaW hb (npC (hnt e (by simp)) he rfl (by decide)) (E23 (X.cls _ _ st) λo T ho h1 h2=>npC (hnt it (List.mem_cons_of_mem _ X.mem)) ho h1 h2)) (λb hb=>zaW hb z1 z2) λb o nb eo=>by
    have nb:=nm2 nb
    exact (hs'.2 b nb.1).trans eo,i+1,x,hi,er,?_,by simpa using he',f,z1,z2⟩
  exact (X.draws {} rfl).frame (i+1) _ _ st λb hb o eo=>(hs'.2 b (λq=>hef (q▸hb))).trans eo
 done:=by
  intro A hA Z s h9 hO;refine E27 h9 λi old hi er st he f z1 z2=>?_;clear h9
  have hi':i=xs.length:=by
   refine Or.elim (Nat.lt_or_ge i xs.length) (λh=>?_) λh=>?_
   ·have:=congrArg List.length er
    rw [List.length_drop,zeF] at this
    simp at this;lia
   ·lia
  subst hi'
  refine wpAny_pyNext_enum_endD (X.draws A.in1 hA.handled) he st λh' he'=>⟨rfl,Z,?_⟩
  exact StX.at (n:=s.toks) hO (λb hb=>zaW hb (npC (hnt e (by simp)) he rfl (by decide)) (E23 (X.cls _ _ st) λo T ho h1 h2=>npC (hnt it (List.mem_cons_of_mem _ X.mem)) ho h1 h2)) (λb hb=>zaW hb z1 z2) λb o nb eo=>by
    have nb:=nm2 nb
    exact he' b o nb.2 eo
 self:=by
  intro A hA rem Z s h9 hO;refine E27 h9 λi old hi er st he f z1 z2=>?_;clear h9
  exact wpAny_pyIter_enum he ⟨rfl,rfl⟩
theorem zmK (hA:Rm A n) {s_0:Shared} {Z₀:Heap} (S:Stp Ω Z₀ s_0 Z s) {u:Value} {xs:List PyData} (h:zlQ Ω Z s xs u s'):
  wpAny Ω.m A (pyIter u) (zdY Ω A true Z₀ s_0 (zen xs 0)) zf s':=by
 refine cps λG0 hG_0=>?_
 obtain ⟨e,it,fp,P,St,e9,S',h1,h2,h3,h4,X,st,he⟩:=h;subst e9
 refine hG_0 ?_
 refine wpAny_pyIter_enum he ?_
 have z2:Z.get? it=none:=S.ok.sub.none h2
 refine ⟨_,_,_,_,_,Z,S.trans S',(zh0 X h3 h4 λb hb=>(List.mem_cons.mp hb).elim (λe=>by refine za e ?_;exact S.ok.ntF h1) λhb=>(X.old b hb).elim (λe=>by refine za e ?_;exact S.ok.ntF h2) λh=>zm h λo e n=>S.ok.nt (S.ok.sub _ _ e) n).at hA,⟨rfl,rfl,0,.none,Nat.zero_le _,rfl,st,he,.refl _,(S.ok.sub.none h1),z2⟩,?_,λv h=>h.elim,?_⟩
 ·intro b hb
  refine zaW hb ?_ ?_
  ·exact S.fresh h1
  ·exact S.fresh h2
 ·intro b hb
  rcases List.mem_cons.mp hb with rfl|hb
  ·exact .inl (S.fresh h1)
  ·rcases X.old b hb with rfl|h
   ·exact .inl (S.fresh h2)
   ·exact .inr (zm h λo e n=>⟨o,e⟩)
end
end
structure Zap (z TI TO i1 i2:Addr) (fp1 fp2:List Addr):Prop where
 m1:i1∈fp1
 m2:i2∈fp2
 z1:z∉fp1
 z2:z∉fp2
 o1:TO∉fp1
 o2:TO∉fp2
 x12:i1∉fp2
 x21:i2∉fp1
 TIz:TI≠z
 TITO:TI≠TO
 TIi1:TI≠i1
 TIi2:TI≠i2
 TOz:TO≠z
namespace Zap
variable {z TI TO i1 i2:Addr} {fp1 fp2:List Addr}
theorem i1z (D:Zap z TI TO i1 i2 fp1 fp2):i1≠z:=λe=>D.z1 (e▸D.m1)
theorem i2z (D:Zap z TI TO i1 i2 fp1 fp2):i2≠z:=λe=>D.z2 (e▸D.m2)
theorem i1o (D:Zap z TI TO i1 i2 fp1 fp2):i1≠TO:=λe=>D.o1 (e▸D.m1)
theorem i2o (D:Zap z TI TO i1 i2 fp1 fp2):i2≠TO:=λe=>D.o2 (e▸D.m2)
end Zap
section
variable {Ω:En} {A:Around} {E:Value ->Shared ->Prop} {s:Shared}
theorem zat {it:Addr} {fp:List Addr} {n:Nat} {P:Nat ->Value ->Prop} {St:Nat ->Heap ->Prop} (D:Draws Ω.prog Ω.w A it fp n P St) {a:Addr} {i:Nat} {h h':Heap} (st:St i h) (hs:Heap.ExtBut a h h') (ha:a∉fp):St i h':=
 D.frame i h h' st λb hb o e=>hs b o (λq=>ha (q▸hb)) e
theorem zmL {z TI TO i1 i2:Addr} {fp1 fp2:List Addr} {n1 n2 k:Nat} {P1 P2:Nat ->Value ->Prop} {St1 St2:Nat ->Heap ->Prop} {a b:Value} {Q:Value ->Shared ->Prop}
  (D:Zap z TI TO i1 i2 fp1 fp2) (D1:Draws Ω.prog Ω.w A i1 fp1 n1 P1 St1) (D2:Draws Ω.prog Ω.w A i2 fp2 n2 P2 St2)
  (hz:IsZip s.heap z TI TO .none) (hTI:IsPair s.heap TI (.ref i1) (.ref i2)) (hTO:IsPair s.heap TO a b) (h1:St1 k s.heap) (h2:St2 k s.heap) (k1:k<n1) (k2:k<n2)
  (hQ:∀x y h' tk,P1 k x ->P2 k y ->IsZip h' z TI TO (rawInt s.heap.objs.size) ->IsPair h' TO x y ->St1 (k+1) h' ->St2 (k+1) h' ->IsPair h' s.heap.objs.size x y ->
   (∀c o,c≠z ->c≠TO ->c≠i1 ->c≠i2 ->s.heap.get? c=some o ->h'.get? c=some o) ->Q (.ref s.heap.objs.size) {s with heap:=h',toks:=tk}):
  wpAny Ω.m A (Builtin.«zip.__next__» ⟨[.ref z],[]⟩) (λfin s'=>∃v,fin= .done (.ret v)/\ Q v s') E s:=by
 obtain ⟨hp,g,d,tk_0,os⟩:=s
 show wpAny _ _ (field (.ref z) 2>>=_) _ _ _
 refine wB (wpAny_field hz rfl (x:= .bool false) rfl ?_)
 refine wB (wpAny_field hz rfl (x:= .ref TI) rfl ?_)
 refine wB (wpAny_seqItems hTI rfl ?_)
 refine wB ?_
 refine wB (wpAny_field hz rfl (x:= .none) rfl (wPu ?_))
 refine wB (wpAny_rule ?_)
 refine wB (wpAny_field hz rfl (x:= .ref TO) rfl ?_)
 refine wB (wpAny_setField_rec hz (by simp) λh_1 hz_1 hs_1=>?_)
 refine wB ?_
 refine wB (wB (wpAny_onRaise ?_))
 refine wB (D1.item k _ _ _ k1 (zat D1 h1 hs_1.extBut D.z1) λx h_2 tk_1 px h1_2 hs_2=>wPu ?_)
 replace hs_2:Heap.SameBut i1 h_1 h_2:=hs_2
 have hTO_2:IsPair h_2 TO a b:=hs_2.extBut _ _ D.i1o.symm (hs_1.extBut _ _ D.TOz hTO)
 refine wB (wpAny_seqItems hTO_2 rfl ?_)
 refine wB (wpAny_updateSeq_pair hTO_2 λh_3 hTO_3 hs_3=>?_)
 replace hs_3:Heap.SameBut TO h_2 h_3:=hs_3
 refine wB (wpAny_letGo (wPu ?_))
 refine wB (wB (wpAny_onRaise ?_))
 show wpAny _ _ (Builtin.SmallTypes.nextOf (.ref i2)>>=_) _ _ ⟨h_3,g,d,tk_1,os⟩
 refine wB (D2.item k _ _ _ k2 (zat D2 (zat D2 (zat D2 h2 hs_1.extBut D.z2) hs_2.extBut D.x12) hs_3.extBut D.o2) λy h_4 tk_2 py h2_4 hs_4=>wPu ?_)
 replace hs_4:Heap.SameBut i2 h_3 h_4:=hs_4
 have hTO_4:IsPair h_4 TO x b:=hs_4.extBut _ _ D.i2o.symm hTO_3
 refine wB (wpAny_seqItems hTO_4 rfl ?_)
 refine wB (wpAny_updateSeq_pair hTO_4 λh_5 hTO_5 hs_5=>?_)
 replace hTO_5:IsPair h_5 TO x y:=hTO_5
 refine wB (wpAny_letGo (wPu (wPu ?_)))
 refine wB (wpAny_seqItems hTO_5 rfl ?_)
 refine wB (wpAny_newTuple ?_)
 have hsz:h_5.objs.size=hp.objs.size:=by refine za hs_5.1 ?_;refine za hs_4.1 ?_;refine za hs_3.1 ?_;refine za hs_2.1 ?_;exact za hs_1.1 rfl
 have hz_5:IsZip h_5 z TI TO .ellipsis:=hs_5.extBut _ _ D.TOz.symm (hs_4.extBut _ _ D.i2z.symm (hs_3.extBut _ _ D.TOz.symm (hs_2.extBut _ _ D.i1z.symm hz_1)))
 have hk_5:∀c o,c≠z ->c≠TO ->c≠i1 ->c≠i2 ->hp.get? c=some o ->h_5.get? c=some o:=λc o c1 c2 c3 c4 e=>
  hs_5.extBut _ _ c2 (hs_4.extBut _ _ c4 (hs_3.extBut _ _ c2 (hs_2.extBut _ _ c3 (hs_1.extBut _ _ c1 e))))
 have h1_5:St1 (k+1) h_5:=zat D1 (zat D1 (zat D1 h1_2 hs_3.extBut D.o1) hs_4.extBut D.x21) hs_5.extBut D.o1
 have h2_5:St2 (k+1) h_5:=zat D2 h2_4 hs_5.extBut D.o2
 have hzlt:z<h_5.objs.size:=Heap.lt_size hz_5
 refine wB ?_
 have hz_6:IsZip (h_5.push {cls:= .type "tuple",data:= .seq #[x,y]}) z TI TO .ellipsis:=Heap.get?_push_of_some _ hz_5
 refine wB (wpAny_setField_rec hz_6 (by simp) λh_7 hz_7 hs_7=>?_)
 refine wpAny_setField_rec hz_7 (by simp) λh_8 hz_8 hs_8=>?_
 have up:∀c o,c≠z ->h_5.get? c=some o ->h_8.get? c=some o:=λc o c1 e=>hs_8.extBut _ _ c1 (hs_7.extBut _ _ c1 (Heap.get?_push_of_some _ e))
 have hT_8:IsPair h_8 h_5.objs.size x y:=hs_8.extBut _ _ (Nat.ne_of_gt hzlt) (hs_7.extBut _ _ (Nat.ne_of_gt hzlt) (Heap.get?_push_size _ rfl))
 rw [hsz] at hz_8 hT_8
 refine wPu (zM _ rfl ?_)
 exact za hsz (hQ x y h_8 tk_2 px py hz_8 (up _ _ D.TOz hTO_5) (D1.frame _ _ _ h1_5 λc hc o e=>up c o (λq=>D.z1 (q▸hc)) e) (D2.frame _ _ _ h2_5 λc hc o e=>up c o (λq=>D.z2 (q▸hc)) e) hT_8 λc o c1 c2 c3 c4 e=>up c o c1 (hk_5 c o c1 c2 c3 c4 e))
theorem zn2 {z TI TO i1 i2:Addr} {fp1 fp2:List Addr} {n1 n2 k:Nat} {P1 P2:Nat ->Value ->Prop} {St1 St2:Nat ->Heap ->Prop} {a b:Value} {Q:Fin ->Shared ->Prop}
  (D:Zap z TI TO i1 i2 fp1 fp2) (D1:Draws Ω.prog Ω.w A i1 fp1 n1 P1 St1) (D2:Draws Ω.prog Ω.w A i2 fp2 n2 P2 St2)
  (hz:IsZip s.heap z TI TO .none) (hTI:IsPair s.heap TI (.ref i1) (.ref i2)) (hTO:IsPair s.heap TO a b) (h1:St1 k s.heap) (h2:St2 k s.heap) (k1:k<=n1) (k2:k<=n2) (hend:k=n1 \/k=n2)
  (hE:∀h' tk e,(∀c o,c≠z ->c≠TO ->c≠i1 ->c≠i2 ->s.heap.get? c=some o ->h'.get? c=some o) ->(∃o,h'.get? e=some o/\ o.cls= .type "StopIteration") ->E (.ref e) {s with heap:=h',toks:=tk}):
  wpAny Ω.m A (Builtin.«zip.__next__» ⟨[.ref z],[]⟩) Q E s:=by
 obtain ⟨hp,g,d,tk_0,os⟩:=s
 show wpAny _ _ (field (.ref z) 2>>=_) _ _ _
 refine wB (wpAny_field hz rfl (x:= .bool false) rfl ?_)
 refine wB (wpAny_field hz rfl (x:= .ref TI) rfl ?_)
 refine wB (wpAny_seqItems hTI rfl ?_)
 refine wB ?_
 refine wB (wpAny_field hz rfl (x:= .none) rfl (wPu ?_))
 refine wB (wpAny_rule ?_)
 refine wB (wpAny_field hz rfl (x:= .ref TO) rfl ?_)
 refine wB (wpAny_setField_rec hz (by simp) λh_1 hz_1 hs_1=>?_)
 refine wB ?_
 refine wB (wB (wpAny_onRaise ?_))
 have h1_1:St1 k h_1:=zat D1 h1 hs_1.extBut D.z1
 by_cases hk1:k=n1
 ·subst hk1
  refine wB (D1.done _ _ _ h1_1 λh_2 e hs_2 he=>?_)
  refine zm he λoe hoe hce=>?_
  clear he
  have hz_2:IsZip h_2 z TI TO .ellipsis:=hs_2 _ _ D.i1z.symm hz_1
  have hez:e≠z:=λx=>by obtain rfl:=x.symm;rw [hz_2] at hoe;cases hoe;simp at hce
  refine wpAny_setField_rec hz_2 (by simp) λh_3 u hs_3=>hE h_3 tk_0 e (λc o c1 u c3 v x=>hs_3.extBut _ _ c1 (hs_2 _ _ c3 (hs_1.extBut _ _ c1 x))) ⟨oe,hs_3.extBut _ _ hez hoe,hce⟩
 ·have hk2:k=n2:=by lia
  subst hk2
  refine wB (D1.item k _ _ _ (by lia) h1_1 λx h_2 tk_1 px h1_2 hs_2=>wPu ?_)
  have hTO_2:IsPair h_2 TO a b:=hs_2.extBut _ _ D.i1o.symm (hs_1.extBut _ _ D.TOz hTO)
  refine wB (wpAny_seqItems hTO_2 rfl ?_)
  refine wB (wpAny_updateSeq_pair hTO_2 λh_3 hTO_3 hs_3=>?_)
  replace hs_3:Heap.SameBut TO h_2 h_3:=hs_3
  refine wB (wpAny_letGo (wPu ?_))
  refine wB (wB (wpAny_onRaise ?_))
  show wpAny _ _ (Builtin.SmallTypes.nextOf (.ref i2)>>=_) _ _ ⟨h_3,g,d,tk_1,os⟩
  refine wB (D2.done _ _ _ (zat D2 (zat D2 (zat D2 h2 hs_1.extBut D.z2) hs_2.extBut D.x12) hs_3.extBut D.o2) λh_4 e hs_4 he=>?_)
  refine zm he λoe hoe hce=>?_
  clear he
  have hz_4:IsZip h_4 z TI TO .ellipsis:=hs_4 _ _ D.i2z.symm (hs_3.extBut _ _ D.TOz.symm (hs_2.extBut _ _ D.i1z.symm hz_1))
  have hez:e≠z:=λx=>by obtain rfl:=x.symm;rw [hz_4] at hoe;cases hoe;simp at hce
  refine wpAny_setField_rec hz_4 (by simp) λh_5 u hs_5=>hE h_5 tk_1 e (λc o c1 c2 c3 c4 x=>hs_5.extBut _ _ c1 (hs_4 _ _ c4 (hs_3.extBut _ _ c2 (hs_2.extBut _ _ c3 (hs_1.extBut _ _ c1 x))))) ⟨oe,hs_5.extBut _ _ hez hoe,hce⟩
end
section
variable {Ω:En} {A:Around} {Z Z' Z'':Heap} {s s' s'':Shared} {n m:Nat}
def zn3 (Ω:En) (Z:Heap) (s:Shared) (xs ys:List PyData):Value ->Shared ->Prop:=λu s'=>
 ∃z TI TO i1 i2 fp1 fp2 P1 P2 St1 St2 a b,u= .ref z/\ Stp Ω Z s Z s'/\ (∀c∈[z,TI,TO,i1,i2],s.heap.get? c=none)/\ Zap z TI TO i1 i2 fp1 fp2/\
  Src Ω Z xs i1 fp1 P1 St1/\ Src Ω Z ys i2 fp2 P2 St2/\ St1 0 s'.heap/\ St2 0 s'.heap/\ IsZip s'.heap z TI TO .none/\ IsPair s'.heap TI (.ref i1) (.ref i2)/\ IsPair s'.heap TO a b
theorem zp6 {k:Nat} {a b:Nat} (ha:a<k) (hb:b<k):Zap (k+4) (k+2) (k+3) k (k+1) [k,a] [k+1,b]:=by
 have nin:∀x y z:Nat,x≠y ->x≠z ->x∉[y,z]:=by intro x y z h1 h2 h;simp at h;lia
 have ne:∀x y:Nat,x≠y ->(x:Addr)≠y:=λu v h=>h
 exact ⟨by simp,by simp,nin _ _ _ (by lia) (by lia),nin _ _ _ (by simp) (by lia),nin _ _ _ (by simp) (by lia),nin _ _ _ (by simp) (by lia),nin _ _ _ (by simp) (by lia),nin _ _ _ (by simp) (by lia),
  ne _ _ (by simp),ne _ _ (by simp),ne _ _ (by simp),ne _ _ (by simp),ne _ _ (by simp)⟩
theorem zn4 (hO:Ok Ω Z s) {v v':Value} {d d':PyData} {p:List PyData×List PyData} (r:Rep Z v d) (r':Rep Z v' d') (hi:zkT d d'=some p):
  wpAny Ω.m A (call (.type "zip") [v,v']) (zn3 Ω Z s p.1 p.2) zf s:=by
 have hf:∀c∈[s.heap.objs.size+4,s.heap.objs.size+2,s.heap.objs.size+3,s.heap.objs.size,s.heap.objs.size+1],s.heap.get? c=none:=by
  intro c hc
  simp only [List.mem_cons,List.not_mem_nil,or_false] at hc
  exact z4 (by rcases hc with h|h|h|h|h<;>lia)
 unfold zkT at hi
 split at hi
 ·refine eqE hi ?_
  refine cps λG0 hG_0=>?_
  obtain (⟨a,vs,k,rfl,e,r⟩):=r
  obtain (⟨b,us,k',rfl,e',r'⟩):=r'
  refine hG_0 ?_
  have hs:=hO.sub _ _ e
  have hs':=hO.sub _ _ e'
  have la:=Heap.lt_size hs
  have lb:=Heap.lt_size hs'
  refine call_zip_2 (xs:=vs) (ys:=us) ⟨_,hs,rfl,k,rfl⟩ ⟨_,hs',rfl,k',rfl⟩ λh' hz hTI hTO h1 h2 u hk=>?_
  exact ⟨_,_,_,_,_,_,_,_,_,_,_,_,_,rfl,Stp.grow (n:=s.toks) hO hk,hf,zp6 la lb,zgw (Nat.ne_of_lt la) e r,zgw (Nat.ne_of_lt (Nat.lt_succ_of_lt lb)) e' r',
   ⟨h1,_,hk _ _ hs,rfl,k,rfl⟩,⟨h2,_,hk _ _ hs',rfl,k',rfl⟩,hz,hTI,hTO⟩
 ·exact zb hi
theorem zjS:∀{xs ys:List PyData} {i:Nat} {x y:PyData},xs[i]?=some x ->ys[i]?=some y ->(zgg xs ys)[i]?=some (.tuple [x,y])
 | [],ys,i,x,y,h,_=>by exact zb h
 |_::_,[],i,x,y,_,h=>by exact zb h
 |a::xs,b::ys,0,x,y,h,h'=>by simp at h h';subst h;subst h';rfl
 |a::xs,b::ys,i+1,x,y,h,h'=>by
  show (zgg xs ys)[i]?=_
  exact zjS h h'
theorem zgy:∀{xs ys:List PyData},(zgg xs ys).length=min xs.length ys.length
 | [],ys=>rfl
 |_::_,[]=>rfl
 |a::xs,b::ys=>(congrArg (· +1) zgy).trans (Nat.succ_min_succ ..).symm
structure ZS (xs ys:List PyData) (z TI TO i1 i2:Addr) (St1 St2:Nat ->Heap ->Prop) (Z₀:Heap) (v:Value) (i:Nat) (rem:List PyData) (Z:Heap) (s:Shared):Prop where
 hi:i<=xs.length
 hj:i<=ys.length
 er:rem=(zgg xs ys).drop i
 st1:St1 i s.heap
 st2:St2 i s.heap
 hz:IsZip s.heap z TI TO v
 hTI:IsPair s.heap TI (.ref i1) (.ref i2)
 hTO:∃a b,IsPair s.heap TO a b
 f:Sub Z₀ Z
 zz:∀b∈[z,TO,i1,i2],Z.get? b=none
theorem zlR {xs ys:List PyData} {z TI TO i1 i2:Addr} {fp1 fp2:List Addr} {P1 P2:Nat ->Value ->Prop} {St1 St2:Nat ->Heap ->Prop} {Z₀:Heap} (X:Src Ω Z₀ xs i1 fp1 P1 St1) (Y:Src Ω Z₀ ys i2 fp2 P2 St2) (D:Zap z TI TO i1 i2 fp1 fp2)
  {v:Value} {i:Nat} {rem:List PyData} (H:ZS xs ys z TI TO i1 i2 St1 St2 Z₀ v i rem Z s) {c:Addr} (hc:c∈[z,TO,i1,i2]):∃o,s.heap.get? c=some o:=by
 refine zdO hc ?_ λhc=>zdO hc ?_ λhc=>zaW hc ?_ ?_
 ·exact ⟨_,H.hz⟩
 ·exact H.hTO.elim λ_ h=>h.elim λ_ h=>⟨_,h⟩
 ·exact X.live i _ H.st1 _ D.m1
 ·exact Y.live i _ H.st2 _ D.m2
theorem ziI {z TI TO i1 i2:Addr} {fp1 fp2:List Addr} (D:Zap z TI TO i1 i2 fp1 fp2):∀b∈[z,TO,i1,i2],b∈[z,TI,TO]++(fp1++fp2):=λb hb=>by
 simp only [List.mem_cons,List.not_mem_nil,or_false] at hb
 have:=D.m1;have:=D.m2
 rcases hb with rfl|rfl|rfl|rfl<;>simp [*]
theorem zn5 {xs ys:List PyData} {z TI TO i1 i2:Addr} {fp1 fp2:List Addr} {P1 P2:Nat ->Value ->Prop} {St1 St2:Nat ->Heap ->Prop} {Z₀:Heap} (X:Src Ω Z₀ xs i1 fp1 P1 St1) (Y:Src Ω Z₀ ys i2 fp2 P2 St2) (D:Zap z TI TO i1 i2 fp1 fp2)
  (hnt:∀b∈[z,TI,TO]++(fp1++fp2),¬Ω.tab b) {v:Value} {i:Nat} {rem:List PyData} (H:ZS xs ys z TI TO i1 i2 St1 St2 Z₀ v i rem Z s) {c:Addr} (hc:c∈[z,TO,i1,i2]):NoP Ω s.heap c:=by
 have t:∀b∈[z,TO,i1,i2],¬Ω.tab b:=λb hb=>hnt b (ziI D b hb)
 refine zdO hc ?_ λhc=>zdO hc ?_ λhc=>zaW hc ?_ ?_
 ·exact npC (t _ (by simp)) H.hz rfl (by decide)
 ·exact E21 H.hTO λa b h=>npC (t _ (by simp)) h rfl (by decide)
 ·exact E23 (X.cls _ _ H.st1) λo T ho h1 h2=>npC (t _ (by simp)) ho h1 h2
 ·exact E23 (Y.cls _ _ H.st2) λo T ho h1 h2=>npC (t _ (by simp)) ho h1 h2
theorem zn6 {xs ys:List PyData} {z TI TO i1 i2:Addr} {fp1 fp2:List Addr} {P1 P2:Nat ->Value ->Prop} {St1 St2:Nat ->Heap ->Prop} {Z₀:Heap}
  (X:Src Ω Z₀ xs i1 fp1 P1 St1) (Y:Src Ω Z₀ ys i2 fp2 P2 St2) (D:Zap z TI TO i1 i2 fp1 fp2) (hnt:∀b∈[z,TI,TO]++(fp1++fp2),¬Ω.tab b):
  ziH Ω (.ref z) ([z,TI,TO]++(fp1++fp2)) [z,TO,i1,i2] (λw=>False) true
   (λrem Z s=>∃i,ZS xs ys z TI TO i1 i2 St1 St2 Z₀ .none i rem Z s)
   (λv rem Z s=>∃(i:Nat) (T:Addr),v= .ref T/\ ZS xs ys z TI TO i1 i2 St1 St2 Z₀ (rawInt T) (i+1) rem Z s) n where
 sub:=ziI D
 nt:=hnt
 live:=λrem Z s h=>zO h λi H=>by
  refine I03 (λb hb=>?_) H.zz (λw h=>h.elim)
  refine Or.elim (List.mem_append.mp hb) (λhb=>?_) λhb=>?_
  ·refine zdO hb ?_ λhb=>zaW hb ?_ ?_
   ·exact ⟨_,H.hz⟩
   ·exact ⟨_,H.hTI⟩
   ·exact H.hTO.elim λ_ h=>h.elim λ_ h=>⟨_,h⟩
  ·refine Or.elim (List.mem_append.mp hb) (λhb=>?_) λhb=>?_
   ·exact X.live i _ H.st1 b hb
   ·exact Y.live i _ H.st2 b hb
 frame:=λrem Z s W' GI' Z' s' h S hd _=>zO h λi H=>by
  have d1:∀b∈fp1,¬W' b:=λb hb=>hd b (List.mem_append_right _ (List.mem_append_left _ hb))
  have d2:∀b∈fp2,¬W' b:=λb hb=>hd b (List.mem_append_right _ (List.mem_append_right _ hb))
  refine ⟨i,H.hi,H.hj,H.er,(X.draws {} rfl).frame i _ _ H.st1 λb hb o eo=>S.h b o (d1 b hb) (hnt b (List.mem_append_right _ (List.mem_append_left _ hb))) eo,(Y.draws {} rfl).frame i _ _ H.st2 λb hb o eo=>S.h b o (d2 b hb) (hnt b (List.mem_append_right _ (List.mem_append_right _ hb))) eo,
   S.h _ _ (hd z (by simp)) (hnt z (by simp)) H.hz,S.h _ _ (hd TI (by simp)) (hnt TI (by simp)) H.hTI,E21 H.hTO λa b h=>I21 a b (S.h _ _ (hd TO (by simp)) (hnt TO (by simp)) h),H.f.trans S.f,λc hc=>?_⟩
  have hm:=ziI D c hc
  exact zO (zlR X Y D H hc) λo ho=>(S.new _ _ (hd c hm) (hnt c hm) ho).trans (H.zz c hc)
 next:=λA hA x rem Z s h hO=>zO h λi H=>by
  have er:=H.er
  have hlen:i<(zgg xs ys).length:=by
   refine Or.elim (Nat.lt_or_ge i (zgg xs ys).length) (λh=>h) λh=>?_
   rw [List.drop_eq_nil_of_le h] at er;exact nomatch er
  have hmin:=hlen
  rw [zgy] at hmin
  have hlt:i<xs.length:=by lia
  have hlt':i<ys.length:=by lia
  have hx:=List.getElem?_eq_getElem hlt
  have hy:=List.getElem?_eq_getElem hlt'
  refine zO (List.getElem?_eq_some_iff.mp (zjS hx hy)) λ_ hg'=>?_
  rw [List.drop_eq_getElem_cons hlen,hg'] at er
  injection er with e1 e2
  refine za e1 ?_
  have hT:s.TypeIs (.ref z) "zip" :=zM _ H.hz rfl
  refine E21 H.hTO λa b hTO=>wB (wpAny_attempt (wpAny_callSpecial?_slot (name:=Str.ofString "__next__") hT F.slot_zip_next
   (wpAny_call_entry F.slot_zip_next hT F.entry_zip_next
    (zmL (Q:=λv s_1=>wpAny Ω.m A _ _ _ s_1) D (X.draws A.in1 hA.handled) (Y.draws A.in1 hA.handled) H.hz H.hTI hTO H.st1 H.st2 hlt hlt' λu v h' tk pu pv hz' hTO' st1' st2' hT' hk=>wPu ?_) (F.args_zip_next_1 _))))
  have S_1:StX (· ∈[z,TO,i1,i2]) (λw=>False) Ω Z s Z {s with heap:=h',toks:=tk}:=StX.at hO (λc hc=>zn5 X Y D hnt H hc) H.zz λc o nb eo=>by
   have nb:=nm4 nb
   exact hk c o nb.1 nb.2.1 nb.2.2.1 nb.2.2.2 eo
  refine E14 (S_1.freezeNew (a:=s.heap.objs.size) (zh _) (hO.sub.none (zh _)) hT') λZ' S_2 hzz f' hoff=>?_
  have f:=H.f.trans f'
  refine ⟨_,Z',rfl,S_2,zbi.mpr (I33 _ _ 0 rfl hzz ?_),i,_,rfl,hlt,hlt',e2,st1',st2',hz',hk TI _ D.TIz D.TITO D.TIi1 D.TIi2 H.hTI,I21 _ _ hTO',f,λc hc=>(hoff _ (zO (zlR X Y D H hc) λo ho=>Nat.ne_of_lt (Heap.lt_size ho))).trans (H.zz c hc)⟩
  exact .cons ((X.rep i u _ pu hx).mono f) (.one ((Y.rep i v _ pv hy).mono f))
 go:=λA hA target v rem Z s h hO hp=>E22 h λi T ev H=>by
  refine E31 (hp rfl) λes k p e9=>?_;refine za e9 ?_
  refine za ev (wpAny_letOwnedTupleGo_zip H.hz λh' hz' hs'=>?_)
  exact ⟨StX.at (n:=s.toks) hO (λc hc=>zn5 X Y D hnt H hc) H.zz λc o nb eo=>by
    have nb:=nm4 nb
    exact hs'.extBut _ _ nb.1 eo,i+1,H.hi,H.hj,H.er,zat (X.draws {} rfl) H.st1 hs'.extBut D.z1,zat (Y.draws {} rfl) H.st2 hs'.extBut D.z2,hz',hs'.extBut _ _ D.TIz H.hTI,E21 H.hTO λa b h=>I21 a b (hs'.extBut _ _ D.TOz h),H.f,H.zz⟩
 done:=λA hA Z s h hO=>zO h λi H=>by
  have hi:=H.hi;have hj:=H.hj
  have hlen:(zgg xs ys).length<=i:=by
   refine Or.elim (Nat.lt_or_ge i (zgg xs ys).length) (λh=>?_) λh=>h
   have:=congrArg List.length H.er
   simp at this;lia
  rw [zgy] at hlen
  have hT:s.TypeIs (.ref z) "zip" :=zM _ H.hz rfl
  refine E21 H.hTO λa b hTO=>wB (wpAny_attempt (wpAny_callSpecial?_slot (name:=Str.ofString "__next__") hT F.slot_zip_next
   (wpAny_call_entry F.slot_zip_next hT F.entry_zip_next (zn2 D (X.draws A.in1 hA.handled) (Y.draws A.in1 hA.handled) H.hz H.hTI hTO H.st1 H.st2 H.hi H.hj (by lia) λh' tk e hk he=>?_) (F.args_zip_next_1 _))))
  refine zm he λo ho hc=>wB (wpAny_isInstance (T:="StopIteration") (b:=true) (zM o ho hc) isSubtype_stop ?_)
  exact wPu ⟨rfl,Z,StX.at hO (λc hc=>zn5 X Y D hnt H hc) H.zz λc o nb eo=>by
    have nb:=nm4 nb
    exact hk c o nb.1 nb.2.1 nb.2.2.1 nb.2.2.2 eo⟩
 self:=λA hA rem Z s h hO=>zO h λi H=>wpAny_pyIter_zip H.hz ⟨rfl,rfl⟩
theorem zn7 (hA:Rm A n) {s_0:Shared} {Z₀:Heap} (S:Stp Ω Z₀ s_0 Z s) {u:Value} {xs ys:List PyData} (h:zn3 Ω Z s xs ys u s'):
  wpAny Ω.m A (pyIter u) (zdY Ω A true Z₀ s_0 (zgg xs ys)) zf s':=by
 refine cps λG0 hG_0=>?_
 obtain ⟨z,TI,TO,i1,i2,fp1,fp2,P1,P2,St1,St2,a,b,e9,S',hf,D,X,Y,st1,st2,hz,hTI,hTO⟩:=h;obtain rfl:=e9.symm
 refine hG_0 ?_
 refine wpAny_pyIter_zip hz ?_
 have hz0:∀c∈[z,TO,i1,i2],Z.get? c=none:=λc hc=>S.ok.sub.none (hf c (by
  simp only [List.mem_cons,List.not_mem_nil,or_false] at hc |-
  rcases hc with h|h|h|h<;>simp [h]))
 have old:∀c∈[z,TI,TO]++(fp1++fp2),s.heap.get? c=none \/ ∃o,Z.get? c=some o/\ NoF o:=by
  intro c hc
  refine Or.elim (List.mem_append.mp hc) (λhc=>?_) λhc=>?_
  ·refine .inl (hf c ?_)
   simp only [List.mem_cons,List.not_mem_nil,or_false] at hc |-
   rcases hc with h|h|h<;>simp [h]
  ·refine Or.elim (List.mem_append.mp hc) (λhc=>?_) λhc=>?_
   ·rcases X.old c hc with rfl|h
    ·exact .inl (hf c (by simp))
    ·exact .inr h
   ·rcases Y.old c hc with rfl|h
    ·exact .inl (hf c (by simp))
    ·exact .inr h
 refine ⟨_,_,_,_,_,Z,S.trans S',(zn6 X Y D λc hc=>(old c hc).elim S.ok.ntF λh=>zm h λo e n=>S.ok.nt (S.ok.sub _ _ e) n).at hA,⟨rfl,rfl,0,Nat.zero_le _,Nat.zero_le _,rfl,st1,st2,hz,hTI,(I21 a b hTO),.refl _,hz0⟩,?_,λv h=>h.elim,?_⟩
 ·intro c hc
  refine S.fresh (hf c ?_)
  simp only [List.mem_cons,List.not_mem_nil,or_false] at hc |-
  rcases hc with h|h|h|h<;>simp [h]
 ·exact λc hc=>(old c hc).elim (λh=> .inl (S.fresh h)) λh=> .inr (zm h λo e n=>⟨o,e⟩)
end
noncomputable def zsv (e:PE):Bool:=pE false e (rn:=λ_=>true) (en:=λ_=>true) (zp:=λ_ _=>true) (rv:=λ_=>true) (gn:=λ_=>true)
noncomputable def ziJ (e:PE):Bool:=pE false e (en:=λ_=>true) (zp:=λ_ _=>true)
theorem zp7 {n:Nat} {c:TC} {e:PySem.Expr} {pe:PE} (h:tr n c e=some pe):zsv pe=false:=by
 induction n using Nat.casesOn with
 |zero=>exact zb h
 |succ n=>induction zbm h<;>exact Eq.refl false
theorem zmM {S:Sv} {ρ:Rho} {pe:PE} (h:zsv pe=false):itD S ρ pe=(S.ex ρ pe).bind λd=>(zbs d).bind λxs=>if xs.length<=big then some xs else none:=by
 cases pe<;>first|exact Eq.refl _|exact Bool.noConfusion h
theorem ziK {pe:PE} (h:zsv pe=false):ziJ pe=false:=by
 cases pe<;>first|rfl|exact Bool.noConfusion h
theorem zdg {n:Nat} {c:TC} {e:PySem.Expr} {pe:PE} (h:zfQ (tr n) c e=some pe):zda e=false:=by
 induction zjG h<;>first|assumption|exact Eq.refl false
section
variable {Ω:En} {A:Around} {Z Z':Heap} {s s':Shared} {c:TC} {env:Env} {ρ:Rho} {ad:Nat ->Addr}
 {Φ:Fs} {S:Sv} {n m:Nat}
structure GlG (B:Heap) (gen:Str) (ga:Addr):Prop where
 ns:∃mg,B.Ns mainGlobals mg/\ mg gen=some (.ref ga)
 fn:∃o fd,B.get? ga=some o/\ o.data= .func fd
def zdh (Ω:En) (ga:Addr) (n:Nat):Prop:=
 ∀A Z s v d xs,Rm A n ->Ok Ω Z s ->Rep Z v d ->znx d=some xs ->
  wpAny Ω.m A (call (.ref ga) [v]) (λu s'=>wpAny Ω.m A (pyIter u) (zdY Ω A false Z s xs) zf s') zf s
theorem zn8 {g:Str} {ga:Addr} (GG:GlG Ω.B g ga) (h:Ok Ω Z s) (R:Rel c env Z s.heap ρ ad) {Q:Value ->Shared ->Prop} {E} (hx:zk c g=true)
  (q:Q (.ref ga) s):wpAny Ω.m A (loadName env g) Q E s:=by
 refine zm GG.ns λmg h1 h2=>?_
 refine zcn R hx ?_
 unfold loadGlobal
 refine za R.glob (wB (wpAny_nsGet (h1.keeps (h.base.trans h.sub)) ?_))
 exact za h2 (wPu q)
def zlS (Ω:En) (A:Around) (pair:Bool) (Z:Heap) (s:Shared) (xs:List PyData):Value ->Shared ->Prop:=
 λxv s_1=>wpAny Ω.m A (pyIter xv) (zdY Ω A pair Z s xs) zf s_1
theorem zjT {xs:List PyData} {pair} {t:Sem Value} (S':Stp Ω Z s Z' s') (h:wpAny Ω.m A t (zlS Ω A pair Z' s' xs) zf s'):
  wpAny Ω.m A t (zlS Ω A pair Z s xs) zf s':=
 wpAny_mono h (λu v p=>wpAny_mono p (λu v q=>zb9 S' q) λu v x=>x) λu v x=>x
theorem zlT {f:Str} {T:String} {p q:Pos} {args:List PySem.Expr} {pes:List PE} {ds:List PyData} {Q:Value ->Shared ->Prop} (IH:za1 Ω Φ S n (tr m)) (hA:Rm A n) (hG:GlC c Φ) (G:Gl Ω.B Φ)
  (hO:Ok Ω Z s) (hR:Rel c env Z s.heap ρ ad) (hx:zk c f=true) (hv:zdW.lookup f=some (.type T)) (hdb:(f==("__debug__" :Str))=false) (h1:zN (tr m c) args=some pes) (h2:exs S ρ pes=some ds)
  (k:∀vs s' Z',Stp Ω Z s Z' s' ->zC Z' vs ds ->wpAny Ω.m A (call (.type T) vs) Q zf s'):
  wpAny Ω.m A (eval (.Call (.Name f p) args [] q) env) Q zf s:=
 wpAny_Call_NameR (wpAny_Name (zdD G hO hR hx hv (PySem.callWith_type (zbo q h1) (z7 IH hA hG h1 h2 hO hR λvs s' Z' S' r=>k vs s' Z' S' r))) hdb)
theorem ziL {α β:Type} {f:α ->Option β} {a:α} {b:β} {l:List α} {bs:List β} (h:f a=some b) (t:zN f l=some bs):zN f (a::l)=some (b::bs):=
 (congrArg (λo=>o.bind λb=>(zN f l).map (b:: ·)) h).trans (congrArg (Option.map (b:: ·)) t)
theorem zjU {pe:PE} {pes:List PE} {d:PyData} {ds:List PyData} (h:S.ex ρ pe=some d) (t:exs S ρ pes=some ds):exs S ρ (pe::pes)=some (d::ds):=
 (congrArg (λo=>o.bind λb=>(exs S ρ pes).map (b:: ·)) h).trans (congrArg (Option.map (d:: ·)) t)
theorem zgz {α β:Type} {f:α ->Option β} {a:α} {b:β} (h:f a=some b):zN f [a]=some [b]:=ziL h rfl
theorem zcA {α β:Type} {f:α ->Option β} {a a':α} {b b':β} (h:f a=some b) (h':f a'=some b'):zN f [a,a']=some [b,b']:=ziL h (ziL h' rfl)
theorem ziM {pe:PE} {d:PyData} (h:S.ex ρ pe=some d):exs S ρ [pe]=some [d]:=zjU h rfl
theorem zdE {pe pe':PE} {d d':PyData} (h:S.ex ρ pe=some d) (h':S.ex ρ pe'=some d'):exs S ρ [pe,pe']=some [d,d']:=zjU h (zjU h' rfl)
def ItW (Ω:En) (A:Around) (env:Env) (Z:Heap) (s:Shared) (xs:List PyData) (e:PySem.Expr) (pair:Bool):Prop:=
 wpAny Ω.m A (eval e env) (zlS Ω A pair Z s xs) zf s
theorem zn9 (IH:za1 Ω Φ S n (tr m)) (hA:Rm A n) (hG:GlC c Φ) {e:PySem.Expr} {pe:PE} {xs:List PyData}
  (h1:tr m c e=some pe) (h2:itD S ρ pe=some xs) (hO:Ok Ω Z s) (hR:Rel c env Z s.heap ρ ad):ItW Ω A env Z s xs e (ziJ pe):=by
 have hn:=zp7 h1
 rw [zmM hn] at h2
 refine za (ziK hn) (zc h2 λd hd h2=>zc h2 λys hy h2=>ifE h2 λu e1=>?_)
 refine eqE e1 ?_
 exact Pst.then (IH c e pe ρ d h1 hd A env Z s ad hA hG hO hR) λv s' Z' S' r=>wpM (zn0 hA S'.ok r hy) (λu w q=>zb9 S' q)
theorem zsw (IH:za1 Ω Φ S n (tr m)) (hA:Rm A n) (hG:GlC c Φ) (GG:GlG Ω.B c.gen Φ.ga) (hGn:zdh Ω Φ.ga n) (hgd:(c.gen==("__debug__" :Str))=false) {a:PySem.Expr} {pa:PE} {xs:List PyData} {p q:Pos}
  (hg:zk c c.gen=true) (ha:tr m c a=some pa) (h2:itD S ρ (.gen pa)=some xs) (hO:Ok Ω Z s) (hR:Rel c env Z s.heap ρ ad):ItW Ω A env Z s xs (.Call (.Name c.gen p) [a] [] q) false:=by
 refine zc h2 λd hd h2=>?_
 refine E22 GG.fn λo fd ho hof=>?_
 refine wpAny_Call_NameR (wpAny_Name (zn8 GG hO hR hg ?_) hgd)
 refine Calls.callWith_function (z7 IH hA hG (zgz ha) (ziM hd) hO hR λvs s_1 Z_1 S_1 r_1=>⟨⟨S_1.ok.sub _ _ (S_1.ok.base _ _ ho),hof⟩,?_⟩)
 refine zm (zcK r_1) λv e9 r=>?_;refine za e9 ?_
 exact zjT S_1 (hGn A Z_1 s_1 v d xs hA S_1.ok r h2)
theorem zsx (IH:za1 Ω Φ S n (tr m)) (hA:Rm A n) (hG:GlC c Φ) (G:Gl Ω.B Φ) {args:List PySem.Expr} {pes:List PE} {xs:List PyData} {p q:Pos}
  (hg:zk c "range" =true) (hp:zN (tr m c) args=some pes) (h2:itD S ρ (.rng pes)=some xs) (hO:Ok Ω Z s) (hR:Rel c env Z s.heap ρ ad):ItW Ω A env Z s xs (.Call (.Name "range" p) args [] q) false:=by
 refine zc h2 λds hds h2=>zlT IH hA hG G hO hR hg (T:="range") (by decide+kernel) (by decide+kernel) hp hds λvs s' Z' S' r=>?_
 match ds,r,h2 with
 | [a],r,h2=>
  refine zc h2 λk hk h2=>ifE h2 λhb e=>?_
  refine zm (zcK r) λv e9 r1=>?_;refine za e9 ?_
  refine ze8 hk r1 λt=>?_
  refine eqE e ?_
  refine call_range_1 ?_
  have S_2:Stp Ω Z' s' Z' {s' with heap:=s'.heap.push {cls:= .type "range",data:= .fields #[.int 0 s'.toks,.int k t,.int 1 (s'.toks+1)]},toks:=s'.toks+1+1}:=Stp.grow S'.ok (Sub.push _ _)
  have:=zgv (Ω:=Ω) (A:=A) (n:=n) hA S_2.ok (IsRange.new s'.heap 0 k 1 s'.toks t (s'.toks+1)) (by simp) (by simp) (by have:big=1000000:=rfl;lia) (by have:big=1000000:=rfl;lia)
  refine wpM this (λu w q=>zb9 (S'.trans S_2) ?_)
  simpa using q
 | [a,b],r,h2=>
  refine zc h2 λa ha h2=>zc h2 λb hb h2=>ifE h2 λhk e=>?_
  refine E23 (zec r) λv v' e9 r1 r2=>?_;refine za e9 ?_
  refine zO (zaR ha r1) λt e9=>?_;refine za e9 ?_
  refine zO (zaR hb r2) λt' e9=>?_;refine za e9 ?_
  refine eqE e ?_
  refine call_range_2 ?_
  have S_2:Stp Ω Z' s' Z' {s' with heap:=s'.heap.push {cls:= .type "range",data:= .fields #[.int a t,.int b t',.int 1 s'.toks]},toks:=s'.toks+1}:=Stp.grow S'.ok (Sub.push _ _)
  have:=zgv (Ω:=Ω) (A:=A) (n:=n) hA S_2.ok (IsRange.new s'.heap a b 1 t t' s'.toks) (by have:big=1000000:=rfl;lia) (by have:big=1000000:=rfl;lia) (by have:big=1000000:=rfl;lia) (by have:big=1000000:=rfl;lia)
  exact wpM this (λu w q=>zb9 (S'.trans S_2) q)
 | [],r,h2=>exact zb h2
 |_::_::_::_,r,h2=>exact zb h2
theorem zsy (IH:za1 Ω Φ S n (tr m)) (hA:Rm A n) (hG:GlC c Φ) (G:Gl Ω.B Φ) {a:PySem.Expr} {pa:PE} {xs:List PyData} {p q:Pos}
  (hg:zk c "enumerate" =true) (ha:tr m c a=some pa) (h2:itD S ρ (.enm pa)=some xs) (hO:Ok Ω Z s) (hR:Rel c env Z s.heap ρ ad):ItW Ω A env Z s xs (.Call (.Name "enumerate" p) [a] [] q) true:=by
 refine zc h2 λd hd h2=>zc h2 λys hy h2=>ifE h2 λw e=>zlT IH hA hG G hO hR hg (T:="enumerate") (by decide+kernel) (by decide+kernel) (zgz ha) (ziM hd) λvs s' Z' S' r=>?_
 refine eqE e ?_
 refine zm (zcK r) λv e9 r1=>?_;refine za e9 ?_
 exact wpM (zmJ S'.ok r1 hy) (λu s_1 p=>zmK hA S' p)
theorem zsz (IH:za1 Ω Φ S n (tr m)) (hA:Rm A n) (hG:GlC c Φ) (G:Gl Ω.B Φ) {a b:PySem.Expr} {pa pb:PE} {xs:List PyData} {p q:Pos}
  (hg:zk c "zip" =true) (ha:tr m c a=some pa) (hb:tr m c b=some pb) (h2:itD S ρ (.zip pa pb)=some xs) (hO:Ok Ω Z s) (hR:Rel c env Z s.heap ρ ad):ItW Ω A env Z s xs (.Call (.Name "zip" p) [a,b] [] q) true:=by
 refine zc h2 λd hd h2=>zc h2 λd' hd' h2=>zc h2 λys hy h2=>ifE h2 λw e=>zlT IH hA hG G hO hR hg (T:="zip") (by decide+kernel) (by decide+kernel) (zcA ha hb) (zdE hd hd') λvs s' Z' S' r=>?_
 refine eqE e ?_
 refine E23 (zec r) λv v' e9 r1 r2=>?_;refine za e9 ?_
 exact wpM (zn4 S'.ok r1 r2 hy) (λu s_1 p=>zn7 hA S' p)
theorem zsA (IH:za1 Ω Φ S n (tr m)) (hA:Rm A n) (hG:GlC c Φ) (G:Gl Ω.B Φ) {a:PySem.Expr} {pa:PE} {xs:List PyData} {p q:Pos}
  (hg:zk c "reversed" =true) (ha:tr m c a=some pa) (h2:itD S ρ (.rev pa)=some xs) (hO:Ok Ω Z s) (hR:Rel c env Z s.heap ρ ad):ItW Ω A env Z s xs (.Call (.Name "reversed" p) [a] [] q) false:=by
 refine zc h2 λd hd h2=>zlT IH hA hG G hO hR hg (T:="reversed") (by decide+kernel) (by decide+kernel) (zgz ha) (ziM hd) λvs s' Z' S' r=>?_
 refine zm (zcK r) λv e9 r1=>?_;refine za e9 ?_
 cases d<;>first|exact zb h2|skip
 refine ifE h2 λu e=>?_
 refine eqE e ?_
 refine E33 (zah.mp r1) λl us k e9 el r1=>?_;refine za e9 ?_
 refine call_reversed_list (items:=us) ⟨_,S'.ok.sub _ _ el,rfl,k,rfl⟩ ?_
 have S_2:Stp Ω Z' s' Z' {s' with heap:=s'.heap.push (revObj l ((us.size:Int)-1))}:=Stp.grow (n:=s'.toks) S'.ok (Sub.push _ _)
 exact zn1 (n:=n) hA S_2.ok el r1 s Z (S'.trans S_2) (I13 _ (Heap.get?_push_size _ rfl) rfl rfl) (S'.fresh (zh _)) (S'.ok.sub.none (zh _))
theorem zgA (IH:za1 Ω Φ S n (tr m)) (hA:Rm A n) (hG:GlC c Φ) (G:Gl Ω.B Φ) (GG:GlG Ω.B Φ.gen Φ.ga) (hGn:zdh Ω Φ.ga n) (hgd:(Φ.gen==("__debug__" :Str))=false) {e:PySem.Expr} {pe:PE} {xs:List PyData}
  (h1:zfQ (tr m) c e=some pe) (h2:itD S ρ pe=some xs) (hO:Ok Ω Z s) (hR:Rel c env Z s.heap ρ ad):
  wpAny Ω.m A (eval e env) (zlS Ω A (ziJ pe) Z s xs) zf s:=by
 rw [<-hG.hg] at GG hgd
 have h9:=zjG h1;induction h9 with
 |plain hs h=>exact zn9 IH hA hG h h2 hO hR
 |gen hg ha=>exact zsw IH hA hG GG hGn hgd hg ha h2 hO hR
 |rng hg hp=>exact zsx IH hA hG G hg hp h2 hO hR
 |enm hg ha=>exact zsy IH hA hG G hg ha h2 hO hR
 |zip hg ha hb=>exact zsz IH hA hG G hg ha hb h2 hO hR
 |rev hg ha=>exact zsA IH hA hG G hg ha h2 hO hR
end
theorem zdZ {is:List Nat}:∀{ρ:Rho} {j:Nat} {pv:PV},(zai is ρ)[j]?=some (some pv) ->ρ[j]?=some (some pv)/\ j∉is:=by
 induction is with
 |nil=>intro ρ j pv h;exact ⟨h,by simp⟩
 |cons i is ih=>
  intro ρ j pv h
  refine zR (ih (ρ:=ρ.set i none) h) λh1 h2=>?_
  rw [List.getElem?_set] at h1
  split at h1
  ·split at h1<;>exact nomatch h1
  ·rename_i hne
   exact ⟨h1,by simp;exact ⟨λe=>hne e.symm,h2⟩⟩
noncomputable def zae (env:Env):List (Str×NameKind) ->List (Str×Addr) ->List (Str×Addr)
 | [],acc=>acc
 | (x,k)::r,acc=>if k== .free then zae env r ((x,(env.cells.lookup x).getD 0)::acc) else zae env r acc
theorem zca {env:Env} {x:Str} {k:NameKind} {r:List (Str×NameKind)} {acc:List (Str×Addr)}:zae env ((x,k)::r) acc=if k== .free then zae env r ((x,(env.cells.lookup x).getD 0)::acc) else zae env r acc:=rfl
theorem zhD {scope:Scope} {env:Env} (h:∀x,(x,NameKind.free)∈scope.names ->∃a,env.cells.lookup x=some a):closureFor scope env=pure (zae env scope.names []):=by
 have go:∀(f:Str×NameKind ->List (Str×Addr) ->Sem (ForInStep (List (Str×Addr)))) (hf:∀x k r,(∀a,cellOf env x=pure a ->k=NameKind.free ->f (x,k) r=pure (.yield ((x,a)::r)))/\ (k≠NameKind.free ->f (x,k) r=pure (.yield r)))
   (l:List (Str×NameKind)) (acc:List (Str×Addr)),(∀x,(x,NameKind.free)∈l ->∃a,env.cells.lookup x=some a) ->(forIn l acc f:Sem (List (Str×Addr)))=pure (zae env l acc):=by
  intro f hf l
  induction l with
  |nil=>intro acc _;rfl
  |cons p l ih=>
   intro acc hl
   obtain ⟨x,k⟩:=p
   rw [List.forIn_cons]
   have hl':∀y,(y,NameKind.free)∈l ->∃a,env.cells.lookup y=some a:=λy hy=>hl y (List.mem_cons_of_mem _ hy)
   by_cases hk:k=NameKind.free
   ·subst hk
    refine zO (hl x List.mem_cons_self) λa ha=>?_
    have hc:cellOf env x=pure a:=by unfold cellOf;exact za ha rfl
    refine za ((hf x .free acc).1 a hc rfl) (za zca (za (if_pos rfl) ?_))
    exact za ha (ih _ hl')
   ·refine za ((hf x k acc).2 hk) (za zca (za (if_neg λe=>hk (eq_of_beq e)) ?_))
    exact ih _ hl'
 simp only [closureFor]
 rw [go _ ?_ scope.names [] h] at |-
 ·rfl
 ·intro x k r
  refine ⟨λa ha hk=>?_,λhk=>?_⟩
  ·refine zF hk ?_;simp [ha]
  ·have:(k==NameKind.free)=false:=by simpa using hk
   simp [this]
theorem lkE {β:Type} {x n:Str} {v a:β} {acc:List (Str×β)} {G:Prop} (h:((n,v)::acc).lookup x=some a) (k1:x=n ->v=a ->G) (k2:acc.lookup x=some a ->G):G:=by
 rw [List.lookup_cons] at h
 induction e:x==n with
 |true=>rw [e] at h;exact k1 (eq_of_beq e) (Option.some.inj h)
 |false=>rw [e] at h;exact k2 h
theorem lkI {β:Type} {x n:Str} {v:β} {acc:List (Str×β)} (h:x=n \/ ∃a,acc.lookup x=some a):∃a,((n,v)::acc).lookup x=some a:=by
 rw [List.lookup_cons]
 induction e:x==n with
 |true=>exact I11 v rfl
 |false=>exact h.resolve_left λq=>Bool.noConfusion (e.symm.trans (beq_iff_eq.mpr q))
theorem zdi {env:Env} {l:List (Str×NameKind)} {acc:List (Str×Addr)} {x:Str} {a:Addr} (hl:∀x,(x,NameKind.free)∈l ->∃a,env.cells.lookup x=some a)
  (h:(zae env l acc).lookup x=some a):((x,NameKind.free)∈l/\ env.cells.lookup x=some a) \/acc.lookup x=some a:=by
 induction l generalizing acc with
 |nil=>exact .inr h
 |cons q r ih=>
  have ih {acc}:= @ih acc λy hy=>hl y (.tail _ hy)
  rw [zca] at h
  by_cases hk:(q.2== .free)=true
  ·rw [if_pos hk] at h
   have hm:(q.1,NameKind.free)∈q::r:=by rw [<-eq_of_beq hk];exact .head _
   exact (ih h).elim (λw=> .inl (I02 (.tail _ w.1) w.2)) λh=>lkE h (λe1 e2=>zO (hl q.1 hm) λb hb=> .inl (I02 (by rw [e1];exact hm) (by rw [e1,<-e2,hb];rfl))) .inr
  ·rw [if_neg hk] at h
   exact (ih h).imp_left λw=>I02 (.tail _ w.1) w.2
theorem zhE {env:Env} {l:List (Str×NameKind)} {acc:List (Str×Addr)} {x:Str} (h:(x,NameKind.free)∈l \/ ∃a,acc.lookup x=some a):∃a,(zae env l acc).lookup x=some a:=by
 induction l generalizing acc with
 |nil=>exact h.resolve_left nofun
 |cons q r ih=>
  refine za zca ?_
  by_cases hk:(q.2== .free)=true
  ·refine za (if_pos hk) (ih (h.elim (λe=>(List.mem_cons.mp e).elim (λe=> .inr (lkI (.inl (congrArg Prod.fst e)))) .inl) λe=> .inr (lkI (.inr e))))
  ·refine za (if_neg hk) (ih (h.imp_left λe=>(List.mem_cons.mp e).resolve_left λe=>hk (beq_iff_eq.mpr (congrArg Prod.snd e).symm)))
def zp8:Obj:={cls:= .type "cell",data:= .cell none}
theorem zdj {n:Nat} {x:Str} {k:NameKind} {r acc}:cellsFrom n ((x,k)::r) acc=if k== .cell then cellsFrom (n+1) r ((x,n)::acc) else cellsFrom n r acc:=rfl
theorem zjV {h:Heap} {x:Str} {k:NameKind} {r}:pushCells h ((x,k)::r)=if k== .cell then pushCells (h.push zp8) r else pushCells h r:=rfl
theorem zrQ {x:Str} {a:Addr} (names:List (Str×NameKind)):∀(h:Heap) (n:Nat) (acc:List (Str×Addr)),h.objs.size=n ->(cellsFrom n names acc).lookup x=some a ->((x,NameKind.cell)∈names/\ n<=a/\ (pushCells h names).get? a=some zp8) \/acc.lookup x=some a:=by
 induction names with
 |nil=>exact λh n acc hn e=> .inr e
 |cons q r ih=>
  intro h n acc hn e
  rw [zdj] at e
  refine za zjV ?_
  by_cases hk:(q.2== .cell)=true
  ·rw [if_pos hk] at e |-
   refine (ih (h.push zp8) (n+1) _ ((Heap.size_push ..).trans (congrArg _ hn)) e).elim (λw=> .inl (I03 (.tail _ w.1) (Nat.le_of_succ_le w.2.1) w.2.2)) λe=>lkE e (λe1 e2=> .inl (I03 ?_ (Nat.le_of_eq e2) ?_)) .inr
   ·refine za e1 (zF (eq_of_beq hk) (.head _))
   ·refine zF e2 (zF hn (pushCells_keeps r _ _ _ (Heap.get?_push_size _ rfl)))
  ·rw [if_neg hk] at e |-
   exact (ih h n acc hn e).imp_left λw=>I03 (.tail _ w.1) w.2.1 w.2.2
theorem zuw {x:Str} (names:List (Str×NameKind)):∀(n:Nat) (acc:List (Str×Addr)),((x,NameKind.cell)∈names \/ ∃a,acc.lookup x=some a) ->∃a,(cellsFrom n names acc).lookup x=some a:=by
 induction names with
 |nil=>exact λn acc e=>e.resolve_left nofun
 |cons q r ih=>
  intro n acc e
  refine za zdj ?_
  by_cases hk:(q.2== .cell)=true
  ·refine za (if_pos hk) (ih _ _ (e.elim (λe=>(List.mem_cons.mp e).elim (λe=> .inr (lkI (.inl (congrArg Prod.fst e)))) .inl) λe=> .inr (lkI (.inr e))))
  ·refine za (if_neg hk) (ih _ _ (e.imp_left λe=>(List.mem_cons.mp e).resolve_left λe=>hk (beq_iff_eq.mpr (congrArg Prod.snd e).symm)))
theorem zux {x y:Str} {a:Addr} (names:List (Str×NameKind)):∀(n:Nat) (acc:List (Str×Addr)),n<=a ->(∀z b,acc.lookup z=some b ->b<n) ->(cellsFrom n names acc).lookup x=some a ->(cellsFrom n names acc).lookup y=some a ->x=y:=by
 induction names with
 |nil=>exact λn acc ha hacc e _=>absurd (hacc x a e) (Nat.not_lt.mpr ha)
 |cons q r ih=>
  intro n acc ha hacc e e'
  rw [zdj] at e e'
  by_cases hk:(q.2== .cell)=true
  ·rw [if_pos hk] at e e'
   refine Or.elim (Nat.eq_or_lt_of_le ha) (λw=>?_) λw=>ih _ _ w (λz b hz=>lkE hz (λ_ e=>e▸Nat.lt_succ_self _) λhz=>Nat.lt_succ_of_lt (hacc z b hz)) e e'
   have at0:∀x,(cellsFrom (n+1) r ((q.1,n)::acc)).lookup x=some a ->x=q.1:=λx e=>
    (zrQ r ⟨Array.replicate (n+1) zp8,{}⟩ (n+1) _ Array.size_replicate e).elim (λz=>absurd z.2.1 (by rw [<-w];exact Nat.not_succ_le_self _)) λe=>lkE e (λe _=>e) λe=>absurd (hacc _ _ e) (by rw [<-w];exact Nat.lt_irrefl _)
   exact (at0 x e).trans (at0 y e').symm
  ·rw [if_neg hk] at e e'
   exact ih _ _ ha hacc e e'
theorem zeG (names:List (Str×NameKind)) (h:Heap) (acc:List (Str×Addr)):
  (∀x a,(cellsFrom h.objs.size names acc).lookup x=some a ->((x,NameKind.cell)∈names/\ h.objs.size<=a/\ (pushCells h names).get? a=some {cls:= .type "cell",data:= .cell none}) \/acc.lookup x=some a)/\
  (∀x,((x,NameKind.cell)∈names \/ ∃a,acc.lookup x=some a) ->∃a,(cellsFrom h.objs.size names acc).lookup x=some a)/\
  (∀x y a,h.objs.size<=a ->(∀z b,acc.lookup z=some b ->b<h.objs.size) ->(cellsFrom h.objs.size names acc).lookup x=some a ->(cellsFrom h.objs.size names acc).lookup y=some a ->x=y):=
 ⟨λ_ _=>zrQ names h _ acc rfl,λ_=>zuw names _ _,λ_ _ _=>zux names _ _⟩
section
variable {M:Model} {A:Around} {E:Value ->Shared ->Prop} {s:Shared}
theorem zk5 {scope:Scope} {env:Env} {cl:List (Str×Addr)} {Q:Env ->Shared ->Prop}
  (h:Q {scope:=scope,locals:=s.heap.objs.size,globals:=env.globals,cells:=cellsFrom (s.heap.objs.size+1) scope.names cl,qual:=env.qual,func:=none,code:=env.code,frame:=env.frame,builtins:=env.builtins}
   {s with heap:=pushCells (s.heap.push {cls:= .type "dict",data:= .dict #[]}) scope.names}):
  wpAny M A (newFunctionEnv scope env.globals cl [] env.qual none .none (some env)) Q E s:=by
 simp only [newFunctionEnv,Option.isSome_some,if_true]
 refine wB (wpAny_alloc ?_)
 refine wB (wpAny_layCells _ (λname kind cells=>by cases hkc:kind==NameKind.cell<;>rfl) _ _ _ _ ?_)
 exact za (show ({s with heap:=s.heap.push {cls:= .type "dict",data:= .dict #[]}}:Shared).heap.objs.size=s.heap.objs.size+1 from Heap.size_push ..) (wB (by exact wPu (wPu h)))
end
theorem za2 {l:List (Str×NameKind)} {x:Str} {k:NameKind}:zaJ (l.map (·.1))=true ->(x,k)∈l ->l.lookup x=some k:=by
 induction l with
 |nil=>exact λ_ m=>absurd m List.not_mem_nil
 |cons a l ih=>
  refine λh m=>zaH h λh1 h2=>Or.elim (List.mem_cons.mp m) (λe=>e▸List.lookup_cons_self) λm2=>?_
  have c:(x==a.1)=false:=beq_eq_false_iff_ne.mpr λe=>Bool.noConfusion ((congrArg not (List.contains_iff_mem.mpr (List.mem_map.mpr (zM _ m2 e)))).symm.trans h1)
  refine za List.lookup_cons ?_;refine za c ?_;exact ih h2 m2
theorem z8 {l:List (Str×NameKind)} {x:Str} {k k':NameKind} (h:zaJ (l.map (·.1))=true) (m:(x,k)∈l) (m':(x,k')∈l):k=k':=Option.some.inj ((za2 h m).symm.trans (za2 h m'))
noncomputable def zuy (env:Env) (l:List (Str×NameKind)):List (Str×NameKind):=l.map λ(n,k)=>if (k== .free&&env.scope.kind== .function&&env.kindOf n==some .cell) then (n,.cell) else (n,k)
structure zuz (c:TC) (env:Env) (l:List (Str×NameKind)) (k:Nat) (nm:List (Str×NameKind×Nat)) (k':Nat):Prop where
 le:k<=k'
 cases:∀x kd i,nm.lookup x=some (kd,i) ->(kd= .local/\ k<=i/\ i<k'/\ (x,NameKind.local)∈l) \/(kd= .cell/\ k<=i/\ i<k'/\ (x,NameKind.cell)∈l) \/((x,NameKind.free)∈l/\ c.nm.lookup x=some (kd,i)/\ (kd= .cell \/kd= .free)) \/(kd= .globalImplicit/\ i=0)
 names:∀x,(zuy env l).lookup x=(nm.lookup x).map (·.1)
 inj:∀x y kd kd' i,k<=i ->nm.lookup x=some (kd,i) ->nm.lookup y=some (kd',i) ->((x,NameKind.free)∉l) ->((y,NameKind.free)∉l) ->kd≠ .globalImplicit ->kd'≠ .globalImplicit ->x=y
 free:∀x,(x,NameKind.free)∈l ->∃kd i,c.nm.lookup x=some (kd,i)/\ (kd= .cell \/kd= .free)
theorem zdk {α:Type}:∀{l:List (Str×α)} {x:Str},x∉l.map (·.1) ->l.lookup x=none
 | [],x,_=>rfl
 | (y,a)::l,x,h=>by
  simp only [List.map_cons,List.mem_cons,not_or] at h
  refine za List.lookup_cons (za (beq_false_of_ne h.1) ?_)
  exact zdk h.2
theorem zfC {nm:List (Str×NameKind×Nat)} {l:List (Str×NameKind)} (h:∀x∈nm.map (·.1),l.lookup x=(nm.lookup x).map (·.1)) (h':∀x∈l.map (·.1),x∈nm.map (·.1)) (x:Str):l.lookup x=(nm.lookup x).map (·.1):=by
 by_cases hx:x∈nm.map (·.1)
 ·exact h x hx
 ·refine za (zdk hx) ?_;refine za (zdk λq=>hx (h' x q)) ?_;rfl
theorem zp9 {c:TC} {env:Env} (hk:env.scope.kind= .function) (hn:∀x,env.kindOf x=(c.nm.lookup x).map (·.1)) (l:List (Str×NameKind)):zuy env l=zum c l:=by
 refine List.map_congr_left λq _=>?_
 obtain ⟨n,kd⟩:=q
 show (if (kd== .free&&env.scope.kind== .function&&env.kindOf n==some .cell) then (n,NameKind.cell) else (n,kd))=_
 refine za hk (za (hn n) ?_)
 induction kd<;>rfl
theorem zcb {l:List (Str×NameKind)} {p:Str×NameKind} (h:l.contains p=true):p∈l:=List.contains_iff_mem.mp h
theorem zoa {c:TC} {l:List (Str×NameKind)} {k k':Nat} {x:Str} {kd:NameKind} {i:Nat} (h:zrI c l k k' (x,kd,i)=true):(kd= .local/\ k<=i/\ i<k'/\ (x,NameKind.local)∈l) \/(kd= .cell/\ k<=i/\ i<k'/\ (x,NameKind.cell)∈l) \/((x,NameKind.free)∈l/\ c.nm.lookup x=some (kd,i)/\ (kd= .cell \/kd= .free)) \/(kd= .globalImplicit/\ i=0):=by
 refine Or.elim (Bool.or_eq_true_iff.mp h) (λh=>?_) λh=>?_
 ·refine Or.elim (Bool.or_eq_true_iff.mp h) (λh=>?_) λh=>?_
  ·refine Or.elim (Bool.or_eq_true_iff.mp h) (λh=>?_) λh=>?_
   ·exact zaH h λh h4=>zaH h λh h3=>zaH h λh1 h2=> .inl (I04 (eq_of_beq h1) (of_decide_eq_true h2) (of_decide_eq_true h3) (zcb h4))
   ·exact zaH h λh h4=>zaH h λh h3=>zaH h λh1 h2=> .inr (.inl (I04 (eq_of_beq h1) (of_decide_eq_true h2) (of_decide_eq_true h3) (zcb h4)))
  ·exact zaH h λh h3=>zaH h λh1 h2=> .inr (.inr (.inl (I03 (zcb h1) (eq_of_beq h2) ((Bool.or_eq_true_iff.mp h3).imp eq_of_beq eq_of_beq))))
 ·exact zaH h λh1 h2=> .inr (.inr (.inr ⟨eq_of_beq h1,eq_of_beq h2⟩))
theorem zb0 {c:TC} {env:Env} (hk:env.scope.kind= .function) (hn:∀x,env.kindOf x=(c.nm.lookup x).map (·.1)) {l:List (Str×NameKind)} {k:Nat} {nm:List (Str×NameKind×Nat)} {k':Nat} (h:znK c l k nm k'=true):zuz c env l k nm k':=
 zaH h λh b5=>zaH h λh b4=>zaH h λh b3=>zaH h λb1 b2=>
 {le:=of_decide_eq_true b1
  cases:=λx kd i e=>zoa (List.all_eq_true.mp b2 _ (zbj e))
  names:=λx=>by
   rw [zp9 hk hn]
   exact zaH b3 λn1 n2=>zfC (λx hx=>by
    refine zm (List.mem_map.mp hx) λq hq e9=>?_;refine zF e9 ?_
    exact eq_of_beq (List.all_eq_true.mp n1 q hq)) (λx hx=>by
    refine zm (List.mem_map.mp hx) λq hq e9=>?_;refine za e9.symm ?_
    exact List.contains_iff_mem.mp (List.all_eq_true.mp n2 q hq)) x
  inj:=λx y kd kd' i hi hx hy fx fy gx gy=>by
   have z:=List.all_eq_true.mp (List.all_eq_true.mp b4 _ (zbj hx)) _ (zbj hy)
   have ow:∀{z:Str} {kz:NameKind},(z,NameKind.free)∉l ->kz≠ .globalImplicit ->zsk l k (z,kz,i)=true:=λ{z kz} f g=>by
    have g:(kz== .globalImplicit)=false:=Bool.eq_false_iff.mpr λq=>g (eq_of_beq q)
    show (decide (k<=i)&& !l.contains (z,NameKind.free)&& !(kz== .globalImplicit))=true
    refine za (decide_eq_true hi) ?_;refine za (Bool.eq_false_iff.mpr λq=>f (zcb q)) ?_;refine za g ?_;rfl
   rw [ow fx gx,ow fy gy,beq_self_eq_true] at z
   exact eq_of_beq z
  free:=λx hx=>by
   have z:(!(NameKind.free== .free)|| (match c.nm.lookup x with|some r=>r.1== .cell||r.1== .free|none=>false))=true:=List.all_eq_true.mp b5 _ hx
   induction e:c.nm.lookup x with
   |none=>have z:=e▸z;cases z
   |some r=>
    have z:=e▸z
    exact I22 r.1 r.2 rfl ((Bool.or_eq_true_iff.mp (show (r.1==NameKind.cell||r.1==NameKind.free)=true from z)).imp eq_of_beq eq_of_beq)}
def zob (scope:Scope) (env:Env) (h:Heap):Env:=
 {scope:=relabel scope env,locals:=h.objs.size,globals:=env.globals,cells:=cellsFrom (h.objs.size+1) scope.names (zae env scope.names []),qual:=env.qual,func:=none,code:=env.code,frame:=env.frame,builtins:=env.builtins}
noncomputable def zjW (scope:Scope) (h:Heap):Heap:=pushCells (h.push {cls:= .type "dict",data:= .dict #[]}) scope.names
section
variable {Z Z':Heap} {s s':Shared} {c c':TC} {env:Env} {ρ:Rho} {ad:Nat ->Addr} {scope:Scope}
theorem zdF:Sub s.heap (zjW scope s.heap):=λb o e=>pushCells_keeps _ _ b o (Heap.get?_push_of_some _ e)
theorem zbJ (h:zb7 c scope=some c'):scope.kind= .function/\ zaJ (scope.names.map (·.1))=true/\ ∃p:List (Str×NameKind×Nat)×Nat,znK c scope.names c.nx p.1 p.2=true/\ c'={c with nm:=p.1,nx:=p.2,mu:=[],lo:=c.nx}:=
 ifE h λhk h=>zaH hk λh1 h2=>zc h λp _ h=>ifE h λhs e=>⟨eq_of_beq h1,h2,p,hs,(Option.some.inj e).symm⟩
theorem zff (R:Rel c env Z s.heap ρ ad) (h:zb7 c scope=some c'):∀x,(x,NameKind.free)∈scope.names ->∃a,env.cells.lookup x=some a:=by
 refine cps λG0 hG_0=>?_
 obtain ⟨hk,hd,p,hp,rfl⟩:=zbJ h
 refine hG_0 ?_
 intro x hx
 refine E22 ((zb0 R.kind R.names hp).free x hx) λkd i e hkd=>?_
 refine E22 (R.cel x kd i e hkd) λca ov ec _=>?_
 exact ⟨ca,ec⟩
theorem zoc (hO:Ok Ω Z s) (R:Rel c env Z s.heap ρ ad) (hm:∃o,s.heap.get? mainGlobals=some o) (h:zb7 c scope=some c'):
  Rel c' (zob scope env s.heap) Z (zjW scope s.heap) ρ ad/\ (∀a,Own c' (zob scope env s.heap) ρ ad a ->s.heap.objs.size<=a):=by
 obtain ⟨hk,hd,p,hp,e9⟩:=zbJ h;refine za e9 ?_
 have C:=zb0 R.kind R.names hp
 have hsz:(s.heap.push {cls:= .type "dict",data:= .dict #[]}).objs.size=s.heap.objs.size+1:=Heap.size_push ..
 refine E03 (zeG scope.names (s.heap.push {cls:= .type "dict",data:= .dict #[]}) (zae env scope.names [])) λn1 n2 n3=>?_
 rw [hsz] at n1 n2 n3
 have clLook:∀{x a},(zae env scope.names []).lookup x=some a ->(x,NameKind.free)∈scope.names/\ env.cells.lookup x=some a:=by
  intro x a e
  refine Or.elim (zdi (zff R h) e) (λh=>?_) λh=>?_
  ·exact h
  ·exact zb h
 have clLt:∀z b,(zae env scope.names []).lookup z=some b ->b<s.heap.objs.size:=by
  intro z b e
  refine zR (clLook e) λhz ez=>?_
  refine E22 (C.free z hz) λkd i e hkd=>?_
  refine E23 (R.cel z kd i e hkd) λca ov ec q1 _=>?_
  refine zm q1 λo ho _=>?_
  clear q1
  cases ez.symm.trans ec
  exact Heap.lt_size ho
 have hsub:Sub s.heap (zjW scope s.heap):=zdF
 have fresh:∀a,s.heap.objs.size<=a ->Z.get? a=none:=λa ha=>hO.sub.none (z4 ha)
 refine ⟨?_,?_⟩
 ·refine {kind:=hk,names:=C.names,glob:=R.glob,blt:=R.blt,loc:= ?_,cel:= ?_,apL:=fresh _ (Nat.le_refl _),injS:= ?_,injC:= ?_,own:= ?_,ownInj:=R.ownInj,hi:= ?_,slot:= ?_,mainL:= ?_}
  ·refine zM (λ_=>none) ((Heap.Ns.new s.heap (.type "dict")).keeps (pushCells_keeps _ _)) (λx i pv e q=>?_)
   have:=R.hi i pv q
   rcases C.cases x _ i e with ⟨_,b,_⟩| ⟨q,_⟩| ⟨_,_,q|q⟩| ⟨q,_⟩
   ·lia
   ·cases q
   ·cases q
   ·cases q
   ·cases q
  ·intro x kd i e hkd
   have new:kd= .cell ->(x,NameKind.cell)∈scope.names ->c.nx<=i ->∃a ov,(zob scope env s.heap).cells.lookup x=some a/\ (zjW scope s.heap).IsCell a ov/\ Z.get? a=none/\ ∀pv,ρ[i]?=some (some pv) ->∃v,ov=some v/\ zc2 Z ad i v pv:=by
    intro _ hx hi
    refine zO (n2 x (.inl hx)) λa ha=>?_
    rcases n1 x a ha with ⟨_,hge,ho⟩|h
    ·exact I24 a none ha (zM _ ho rfl) (fresh _ (Nat.le_of_succ_le hge)) (λpv q=>absurd (R.hi i pv q) (by lia))
    ·have:=(clLook h).1
     cases z8 hd hx this
   rcases C.cases x kd i e with ⟨q,_⟩| ⟨q,b,_,hx⟩| ⟨hx,e',_⟩| ⟨q,_⟩
   ·subst q;rcases hkd with q|q<;>cases q
   ·exact new q hx b
   ·refine E24 (R.cel x kd i e' hkd) λca ov ec hc hz hv=>?_
    refine zO (n2 x (.inr (zhE (.inl hx)))) λa ha=>?_
    rcases n1 x a ha with ⟨hx',_,_⟩|h
    ·cases z8 hd hx hx'
    ·have:=(clLook h).2
     replace this:=ec▸this;cases this
     exact I24 ca ov ha (hc.keeps hsub) hz hv
   ·subst q;rcases hkd with q|q<;>cases q
  ·intro x y kd kd' i hx hy gx gy
   rcases C.cases x kd i hx with ⟨qx,bx,_,mx⟩| ⟨qx,bx,_,mx⟩| ⟨fx,ex,_⟩| ⟨q,_⟩
   ·rcases C.cases y kd' i hy with ⟨qy,by',_,my⟩| ⟨qy,by',_,my⟩| ⟨fy,ey,_⟩| ⟨q,_⟩
    ·exact C.inj x y kd kd' i bx hx hy (λq=>by cases z8 hd mx q) (λq=>by cases z8 hd my q) gx gy
    ·exact C.inj x y kd kd' i bx hx hy (λq=>by cases z8 hd mx q) (λq=>by cases z8 hd my q) gx gy
    ·exact absurd (R.slot y kd' i ey gy) (by lia)
    ·exact absurd q gy
   ·rcases C.cases y kd' i hy with ⟨qy,by',_,my⟩| ⟨qy,by',_,my⟩| ⟨fy,ey,_⟩| ⟨q,_⟩
    ·exact C.inj x y kd kd' i bx hx hy (λq=>by cases z8 hd mx q) (λq=>by cases z8 hd my q) gx gy
    ·exact C.inj x y kd kd' i bx hx hy (λq=>by cases z8 hd mx q) (λq=>by cases z8 hd my q) gx gy
    ·exact absurd (R.slot y kd' i ey gy) (by lia)
    ·exact absurd q gy
   ·rcases C.cases y kd' i hy with ⟨qy,by',_,my⟩| ⟨qy,by',_,my⟩| ⟨fy,ey,_⟩| ⟨q,_⟩
    ·exact absurd (R.slot x kd i ex gx) (by lia)
    ·exact absurd (R.slot x kd i ex gx) (by lia)
    ·exact R.injS x y kd kd' i ex ey gx gy
    ·exact absurd q gy
   ·exact absurd q gx
  ·intro x y a ex ey
   by_cases ha:s.heap.objs.size+1<=a
   ·exact n3 x y a ha (λz b hz=>Nat.lt_succ_of_lt (clLt z b hz)) ex ey
   ·rcases n1 x a ex with ⟨_,h,_⟩|h1
    ·exact absurd h ha
    ·rcases n1 y a ey with ⟨_,h,_⟩|h2
     ·exact absurd h ha
     ·exact R.injC x y a (clLook h1).2 (clLook h2).2
  ·intro i xs e
   refine E23 (R.own i xs e) λvs n a b z=>?_
   exact I23 vs n (hsub _ _ a) b z
  ·intro i pv e
   exact Nat.lt_of_lt_of_le (R.hi i pv e) C.le
  ·intro x kd i e g
   rcases C.cases x kd i e with ⟨_,_,q,_⟩| ⟨_,_,q,_⟩| ⟨_,e',_⟩| ⟨q,_⟩
   ·exact q
   ·exact q
   ·exact Nat.lt_of_lt_of_le (R.slot x kd i e' g) C.le
   ·exact absurd q g
  ·intro e
   refine zO hm λo ho=>?_
   clear hm
   have:s.heap.objs.size=mainGlobals:=e
   have h1:=Heap.lt_size ho
   have h1:=this▸h1
   exact Nat.lt_irrefl _ h1
 ·rintro a (rfl| ⟨x,kd,i,e,hkd,hlo,hc⟩| ⟨i,xs,e,hlo,_⟩)
  ·exact Nat.le_refl _
  ·rcases n1 x a hc with ⟨_,hge,_⟩|h
   ·exact Nat.le_of_succ_le hge
   ·have hx:=(clLook h).1
    rcases C.cases x kd i e with ⟨_,_,_,mx⟩| ⟨_,_,_,mx⟩| ⟨_,ex,_⟩| ⟨q,_⟩
    ·cases z8 hd hx mx
    ·cases z8 hd hx mx
    ·exact absurd (R.slot x kd i ex (by rcases hkd with rfl|rfl<;>decide)) (by lia)
    ·subst q;rcases hkd with q|q<;>cases q
  ·exact absurd (R.hi i _ e) (by lia)
end
noncomputable def ziN (ifs:List PySem.Expr) (env:Env):Sem Bool:=forIn ifs true λc r=>if r=true then do let ok <-isTrue c env (eval c env);pure (ForInStep.yield ok) else pure (ForInStep.yield r)
def zrR (Ω:En) (A:Around) (E:Value ->Shared ->Prop) (target:PySem.Expr) (ifs:List PySem.Expr) (next:Option PySem.Expr) (emit:Sem Unit) (start:Value ->Code) (back:Code) (it:Value) (env:Env)
  (Q:Fin ->Shared ->Prop) (s:Shared):Prop:=
 wpAny Ω.m A (pyNext it) (λr s_1=>match r with
  |none=>Q (.done .next) s_1
  |some v=>wpAny Ω.m A (letOwnedTupleGo target it v) (λu s_2=>wpAny Ω.m A (assign target env v) (λu s_3=>wpAny Ω.m A (ziN ifs env) (λok s_4=>
    if ok=true then (match next with
     |none=>wpAny Ω.m A emit (λu s_5=>Q (.again back) s_5) E s_4
     |some iter'=>wpAny Ω.m A (eval iter' env) (λx s_5=>wpAny Ω.m A (pyIter x) (λit' s_6=>wpAny Ω.m A (runOwn (start it') env) (λu s_7=>Q (.again back) s_7) E s_6) E s_5) E s_4)
    else Q (.again back) s_4) E s_3) E s_2) E s_1) E s
section
variable {Ω:En} {A:Around} {E:Value ->Shared ->Prop} {s:Shared} {env:Env}
noncomputable def zeH (acc:Value) (elt:PySem.Expr) (env:Env):Sem Unit:=do let _ <-call (.builtin "list.append") [acc,<-eval elt env]
noncomputable def zuA (acc:Value) (k v:PySem.Expr) (env:Env):Sem Unit:=do
    let kv <-eval k env
    let vv <-holding [kv] (eval v env)
    match acc with
    | .ref d=>do
     standAt {k.pos with endLine:=v.pos.endLine,endCol:=v.pos.endCol}
     holding [kv,vv] (dictSet d kv vv)
    |_=>unsupported "internal:dictcomp"
theorem zmN {elt target iter:PySem.Expr} {ifs:List PySem.Expr} {gens:List Comprehension} {scope:Scope} {pos:Pos} {k:Nat} {it acc:Value} {Q:Fin ->Shared ->Prop} {next:Option PySem.Expr}
  (hg:gens[k]?=some ⟨target,iter,ifs,0⟩) (hn:match next with|none=>gens[k+1]?=none|some i=>zda i=false/\ ∃t l,gens[k+1]?=some ⟨t,i,l,0⟩)
  (h:zrR Ω A E target ifs next (zeH acc elt env) (λit'=> .compStart (.ListComp elt gens scope pos) (k+1) it' acc env) (.compLoop (.ListComp elt gens scope pos) k it acc env) it env Q s):
  wpAny Ω.m A (compTurn (.ListComp elt gens scope pos) k it acc env) Q E s:=by
 unfold compTurn
 simp only [hg]
 refine wB (wpAny_standAt (wB (wpAny_mono h (λr s_1 h_1=>?_) λu w e=>e)))
 induction r with
 |none=>exact wPu h_1
 |some v=>
  refine wB (wpAny_mono h_1 (λu s_2 h_2=>wB (wpAny_mono h_2 (λu s_3 h_3=>?_) λu w e=>e)) λu w e=>e)
  refine wB (wpAny_mono h_3 (λok s_4 h_4=>?_) λu w e=>e)
  induction ok with
  |false=>exact wPu h_4
  |true=>
   induction next with
   |none=>
    exact za hn (wB (wpAny_mono h_4 (λu s_5 h_5=>wPu h_5) λu w e=>e))
   |some i=>
    obtain ⟨hs,t,l,hn⟩:=hn
    refine za hn (wB (wpAny_mono h_4 (λx s_5 h_5=>?_) λu w e=>e))
    refine wB (wpAny_standAt (wB (wpAny_of_eq (zfb hs x) (wB (wpAny_holding (wpAny_mono h_5 (λit' s_6 h_6=>?_) λu w e=>e))))))
    exact wB (wpAny_mono h_6 (λu s_7 h_7=>wPu h_7) λu w e=>e)
theorem zgB {e:PySem.Expr} {k:Nat} {it acc:Value} {R:Result ->Shared ->Prop} (he:(Code.compStart e k it acc env).isFrame=false) (ha:((clausesOf e)[k]?).elim false (·.is_async !=0)=false)
  (hq:∀it',(Code.compLoop e k it' acc env).quiet=true)
  (hfr:A.under (.compStart e k it acc env)=A)
  (h0:codeAny Ω.m A (.compLoop e k it acc env) R s)
  (h:wpAny Ω.m A (pyIter it) (λit' s'=>codeAny Ω.m A (.compLoop e k it' acc env) R s') zf s):
  codeAny Ω.m A (.compStart e k it acc env) R s:=by
 refine codeAny_of_tree ?_
 refine za hfr ?_
 show wpAny _ _ (if (Code.compStart e k it acc env).isFrame then (compStart e k it acc env).onRaise (leaving env) else (compStart e k it acc env).onRaise (λx=>do noteFrame x env;standAt theWindowsPlace)) _ _ s
 refine za he (wpAny_notedAt ?_)
 unfold compStart
 refine za ha (wB (wpAny_askSetting (wpAny_ite ?_)))
 have h':=wpAny_mono h (λit' s' p=>p) (E':=notedBy Ω.m A env λx s'=>R (.error x) s') λu v x=>x.elim
 split
 ·first
   |exact wB (wPu (wPu (And.intro (hq it) h0)))
   |exact wPu (And.intro (hq it) h0)
 ·refine wB (wpAny_rule ?_)
  split
  ·exact wB (wpAny_standAt (wB (wpM h' (λit' s' h'=>wPu (And.intro (hq it') h')))))
  ·exact wB (wpM h' (λit' s' h'=>wPu (And.intro (hq it') h')))
end
section
variable {Ω:En} {A:Around} {Z Z':Heap} {s s':Shared} {c:TC} {env:Env} {ρ:Rho} {ad:Nat ->Addr}
 {Φ:Fs} {S:Sv} {n m:Nat}
theorem zfD (env:Env):∀(ifs:List PySem.Expr) {s:Shared} {Q:Bool ->Shared ->Prop} {E},Q false s ->
  wpAny Ω.m A (forIn ifs false λc r=>if r=true then do let ok <-isTrue c env (eval c env);pure (ForInStep.yield ok) else pure (ForInStep.yield r)) Q E s
 | [],s,Q,E,h=>by exact wPu h
 |e::es,s,Q,E,h=>by
  rw [List.forIn_cons]
  exact wB (wPu (zfD env es h))
theorem zjX (IT:zex Ω Φ S n (tr m)) (hA:Rm A n) (hG:GlC c Φ):∀{ifs:List PySem.Expr} {pifs:List PE} {ok:Bool} {s:Shared} {Z:Heap},
  zN (tr m c) ifs=some pifs ->zgh S ρ pifs=some ok ->Ok Ω Z s ->Rel c env Z s.heap ρ ad ->
  wpAny Ω.m A (ziN ifs env) (za9 Ω Z s ok) zf s
 | [],pifs,ok,s,Z,h1,h2,hO,hR=>by
  cases h1;refine eqE h2 ?_
  unfold ziN
  exact wPu ⟨rfl,Z,Stp.refl hO⟩
 |e::es,pifs,ok,s,Z,h1,h2,hO,hR=>by
  refine zc h1 λpe he h1=>?_
  refine zP h1 λpes hes e_0=>?_
  subst e_0
  refine zc h2 λb hb h2=>?_
  refine zc hb λd hd hb=>?_
  unfold ziN
  rw [List.forIn_cons]
  refine wB (wB (za9.then (IT c e pe ρ d b he hd hb A env Z s ad hA hG hO hR) λs_1 Z_1 S_1=>wPu ?_))
  induction b with
  |true=>
   exact zbS S_1 (zjX IT hA hG hes h2 S_1.ok (hR.stp S_1))
  |false=>
   refine eqE h2 ?_
   refine eqE h2 ?_
   exact zfD env es ⟨rfl,Z_1,S_1⟩
theorem zmO {k:Nat} {e:PySem.Expr} {ts:List Tgt} (h:trT c k e=some (.t ts)):∃es j p,e= .Tuple es j p:=by
 induction k using Nat.casesOn with
 |zero=>exact zb h
 |succ k=>
  induction e using PySem.Expr.casesOn with
  |Name y p=>exact zc h λi hi h=>ifN h λ_ h=>nomatch h
  |Tuple es j p=>exact I31 _ _ _ rfl
  |_=>exact zb h
theorem zeg {k:Nat} {e:PySem.Expr} {t:Tgt} {it:PE} (h:trT c k e=some t) (hp:zcL it t=true) (hi:ziJ it=true):∃es j p,e= .Tuple es j p:=by
 induction t using Tgt.casesOn with
 |v i=>cases it<;>first| (exact Bool.noConfusion hi)| (exact Bool.noConfusion hp)
 |t ts=>exact zmO h
def zod (gens:List Comprehension) (k:Nat):Option PySem.Expr ->Prop
 |none=>gens[k+1]?=none
 |some i=>zda i=false/\ ∃t l,gens[k+1]?=some ⟨t,i,l,0⟩
structure zlU (Ω:En) (A:Around) (e:PySem.Expr) (gens:List Comprehension) (emit:Sem Unit) (D:Addr) (cenv:Env):Prop where
 turn:∀k target iter ifs next it Q E s,gens[k]?=some ⟨target,iter,ifs,0⟩ ->zod gens k next ->
  zrR Ω A E target ifs next emit (λit'=> .compStart e (k+1) it' (.ref D) cenv) (.compLoop e k it (.ref D) cenv) it cenv Q s ->wpAny Ω.m A (compTurn e k it (.ref D) cenv) Q E s
 start:∀k it R s,(∃g,gens[k]?=some g/\ g.is_async=0) ->codeAny Ω.m A (.compLoop e k it (.ref D) cenv) R s ->wpAny Ω.m A (pyIter it) (λit' s'=>codeAny Ω.m A (.compLoop e k it' (.ref D) cenv) R s') zf s ->
  codeAny Ω.m A (.compStart e k it (.ref D) cenv) R s
 loop:∀k it (R:Result ->Shared ->Prop) (I:Nat ->Shared ->Prop),(∀n s,I n s ->wpAny Ω.m A (compTurn e k it (.ref D) cenv) (λfin s'=>match fin with| .done f=>R (.ok f) s'| .again c'=>c'= .compLoop e k it (.ref D) cenv/\ ∃m,m<n/\ I m s') zf s) ->
  ∀n s,I n s ->codeAny Ω.m A (.compLoop e k it (.ref D) cenv) R s
structure za6 {β:Type} (Ω:En) (c:TC) (env:Env) (ad:Nat ->Addr) (D:Addr) (AccI:Heap ->Heap ->List β ->Prop) (Z:Heap) (s:Shared) (ρ:Rho) (acc:List β):Prop where
 ok:Ok Ω Z s
 rel:Rel c env Z s.heap ρ ad
 acc:AccI Z s.heap acc
 live:∃o,s.heap.get? D=some o/\ NoF o
 out:Z.get? D=none
theorem za6.nt {β:Type} {D:Addr} {AccI:Heap ->Heap ->List β ->Prop} {acc:List β} (I:za6 Ω c env ad D AccI Z s ρ acc):¬Ω.tab D:=zm I.live λ_ e n=>I.ok.nt e n
theorem za6.np {β:Type} {D:Addr} {AccI:Heap ->Heap ->List β ->Prop} {acc:List β} (I:za6 Ω c env ad D AccI Z s ρ acc):NoP Ω s.heap D:=zm I.live λ_ e n=>I.ok.np e n
def WC (c:TC) (env:Env) (D:Addr) (a:Addr):Prop:=a=D \/a=env.locals \/ ∃x k i,c.nm.lookup x=some (k,i)/\ (k= .cell \/k= .free)/\ c.lo<=i/\ env.cells.lookup x=some a
variable {β:Type} {D:Addr} {AccI:Heap ->Heap ->List β ->Prop} {W:Addr ->Prop} {GI:Nat ->Prop}
theorem za6.stX (hAcc:∀Z h acc Z' h',AccI Z h acc ->Sub Z Z' ->(∀o,h.get? D=some o ->h'.get? D=some o) ->AccI Z' h' acc) {acc:List β} (I:za6 Ω c env ad D AccI Z s ρ acc) (S:StX W GI Ω Z s Z' s')
  (hf:∀a,zaF c env ρ ad a ->¬W a) (hD:¬W D):za6 Ω c env ad D AccI Z' s' ρ acc:=by
 refine zm I.live λo ho hn=>?_
 exact ⟨S.ok,I.rel.stX S hf,hAcc _ _ _ _ _ I.acc S.f (λo e=>S.h _ _ hD I.nt e),⟨o,S.h _ _ hD I.nt ho,hn⟩,by refine za (S.new _ _ hD I.nt ho) ?_;exact I.out⟩
theorem zsB (hM:∀i xs,c.lo<=i ->ρ[i]?≠some (some (.m xs))) {a:Addr} (h:Own c env ρ ad a):WC c env D a:=by
 rcases h with h| ⟨x,k,i,a1,a2,a3,a4⟩| ⟨i,xs,e,hl,_⟩
 ·exact .inr (.inl h)
 ·exact .inr (.inr (I34 x k i a1 a2 a3 a4))
 ·exact absurd e (hM i xs hl)
theorem zlV {a:Addr} (h:WC c env D a):a=D \/zaF c env ρ ad a:=by
 rcases h with h|h| ⟨x,k,i,a1,a2,_,a4⟩
 ·exact .inl h
 ·exact .inr (.inl h)
 ·exact .inr (.inr (.inl (I33 x k i a1 a2 a4)))
mutual
theorem ziO:∀{t:Tgt} {x:PyData} {ρ ρ':Rho} {i:Nat} {xs:List PyData},zaz t x ρ=some ρ' ->ρ'[i]?=some (some (.m xs)) ->ρ[i]?=some (some (.m xs))
 | .v j,x,ρ,ρ',i,xs,h,e=>by
  cases h
  rcases zy e with ⟨_,e⟩| ⟨_,e⟩
  ·cases e
  ·exact e
 | .t ts,x,ρ,ρ',i,xs,h,e=>by
  simp only [zaz] at h
  split at h
  ·exact zgC h e
  ·exact zgC h e
  ·exact zb h
theorem zgC:∀{ts:List Tgt} {ds:List PyData} {ρ ρ':Rho} {i:Nat} {xs:List PyData},zck ts ds ρ=some ρ' ->ρ'[i]?=some (some (.m xs)) ->ρ[i]?=some (some (.m xs))
 | [],ds,ρ,ρ',i,xs,h,e=>by
  induction ds using List.casesOn with
  |nil=>cases h;exact e
  |cons x ds=>exact zb h
 |t::ts,ds,ρ,ρ',i,xs,h,e=>by
  induction ds using List.casesOn with
  |nil=>exact zb h
  |cons x ds=>
   refine zc h λρ1 h1 h2=>?_
   exact ziO h1 (zgC h2 e)
end
theorem zk6 {t:Tgt} {x:PyData} {ρ ρ':Rho} {a:Addr} (h:zaz t x ρ=some ρ') (o:zaF c env ρ' ad a):zaF c env ρ ad a:=by
 rcases o with o|o| ⟨i,xs,e,o⟩
 ·exact .inl o
 ·exact .inr (.inl o)
 ·exact .inr (.inr (I22 i xs (ziO h e) o))
def zoe {β:Type} (S:Sv) (em:Rho ->Option β) (t:Tgt) (ifs:List PE) (gs:List Gn) (ρ:Rho) (x:PyData):Option (List β):=
 (zaz t x ρ).bind λρ'=>(zgh S ρ' ifs).bind λok=>if ok then zjw S em gs ρ' else some []
theorem zeI {a b:List Nat} (h:zbc (a++b)=true):zbc b=true/\ ∀x∈a,x∉b:=by
 induction a with
 |nil=>exact ⟨h,λu h=>nomatch h⟩
 |cons y a ih=>
  simp only [List.cons_append,zbc,Bool.and_eq_true,Bool.not_eq_true',List.contains_eq_mem,decide_eq_false_iff_not,List.mem_append,not_or] at h
  refine zR (ih h.2) λh1 h2=>?_
  refine ⟨h1,λx hx=>?_⟩
  rcases List.mem_cons.mp hx with rfl|hx
  ·exact h.1.2
  ·exact h2 x hx
def zqa {β:Type} (Ω:En) (A:Around) (c:TC) (env:Env) (ad:Nat ->Addr) (D:Addr) (AccI:Heap ->Heap ->List β ->Prop) (S:Sv) (em:Rho ->Option β) (emit:Sem Unit) (e:PySem.Expr) (k:Nat)
  (prest:List Gn) (next:Option PySem.Expr):Prop:=
 ∀(ρ:Rho) (ys acc:List β) (Z:Heap) (s:Shared) (Q:Shared ->Prop),zjw S em prest ρ=some ys ->(∀j∈prest.flatMap zas,∀pv,ρ[j]?≠some (some pv)) ->(∀i xs,c.lo<=i ->ρ[i]?≠some (some (.m xs))) ->¬zaF c env ρ ad D ->
  za6 Ω c env ad D AccI Z s ρ acc ->acc.length+ys.length<=big ->(∀s' Z',StX (WC c env D) (λu=>False) Ω Z s Z' s' ->za6 Ω c env ad D AccI Z' s' ρ (acc++ys) ->Q s') ->
  (match next with
   |none=>wpAny Ω.m A emit (λu s_5=>Q s_5) zf s
   |some iter'=>wpAny Ω.m A (eval iter' env) (λx s_5=>wpAny Ω.m A (pyIter x) (λit' s_6=>wpAny Ω.m A (runOwn (.compStart e (k+1) it' (.ref D) env) env) (λu s_7=>Q s_7) zf s_6) zf s_5) zf s)
theorem zgD (IT:zex Ω Φ S n (tr m)) (hA:Rm A n) (hG:GlC c Φ) {e:PySem.Expr} {gens:List Comprehension} {emit:Sem Unit} (X:zlU Ω A e gens emit D env) {em:Rho ->Option β}
  (hAcc:∀Z h acc Z' h',AccI Z h acc ->Sub Z Z' ->(∀o,h.get? D=some o ->h'.get? D=some o) ->AccI Z' h' acc)
  {k:Nat} {prest:List Gn} {next:Option PySem.Expr} {target iter:PySem.Expr} {ifs:List PySem.Expr} {t:Tgt} {pifs:List PE} (hIn:zqa Ω A c env ad D AccI S em emit e k prest next)
  (hk:gens[k]?=some ⟨target,iter,ifs,0⟩) (hnext:zod gens k next)
  (ht:trT c 9 target=some t) (hifs:zN (tr m c) ifs=some pifs) (hnd:zbc (zZ t++prest.flatMap zas)=true)
  {ρ:Rho} {xs:List PyData} {outs acc:List β} {Z:Heap} {s:Shared} {it:Value} {fp wr:List Addr} {GI:Nat ->Prop} {pair:Bool} {St:DSt} {Mid:zsu}
  (houts:zmA (zoe S em t pifs prest ρ) xs=some outs) (hfre:∀j∈zZ t++prest.flatMap zas,∀pv,ρ[j]?≠some (some pv)) (hM:∀i xs,c.lo<=i ->ρ[i]?≠some (some (.m xs))) (hfD:¬zaF c env ρ ad D)
  (M:zjR Ω A it GI pair St Mid) (hpair:pair=true ->∃es k p,target= .Tuple es k p) (hst:St fp wr xs Z s) (hI:za6 Ω c env ad D AccI Z s ρ acc) (hfp:∀b∈fp,¬zaF c env ρ ad b/\ b≠D) (hsz:acc.length+outs.length<=big):
  codeAny Ω.m A (.compLoop e k it (.ref D) env) (λr s'=>(∃f,r= .ok f)/\ ∃Z',StX (λa=>WC c env D a \/a∈wr) GI Ω Z s Z' s'/\ za6 Ω c env ad D AccI Z' s' ρ (acc++outs)) s:=by
 have mk:∀{fp wr:List Addr} {s_0:Shared} {Z₀:Heap} {ys:List PyData},St fp wr ys Z₀ s_0 ->(∀b∈fp,¬zaF c env ρ ad b/\ b≠D) ->(∀a,zaF c env ρ ad a ->¬a∈wr)/\ (¬D∈wr)/\ ∀b∈fp,¬WC c env D b:=by
  intro fp wr s_0 Z₀ ys h hfp
  refine I03 (λa fa ha=>(hfp a (M.sub _ _ _ _ _ h a ha)).1 fa) (λhd=>(hfp D (M.sub _ _ _ _ _ h D hd)).2 rfl) (λb hb h=>?_)
  refine Or.elim (zlV (ρ:=ρ) (ad:=ad) h) (λh=>?_) λh=>?_
  ·exact (hfp b hb).2 h
  ·exact (hfp b hb).1 h
 refine zud λQ hQ=>?_
 refine zvH (λj s'=>∃fp1 wr1 ys Z' acc' outs',j=ys.length/\ zmA (zoe S em t pifs prest ρ) ys=some outs'/\ acc'++outs'=acc++outs/\ St fp1 wr1 ys Z' s'/\ za6 Ω c env ad D AccI Z' s' ρ acc'/\
  StX (λa=>WC c env D a \/a∈wr) GI Ω Z s Z' s'/\ (∀b∈fp1,¬zaF c env ρ ad b/\ b≠D)/\ ∀b∈wr1,(WC c env D b \/b∈wr) \/s.heap.get? b=none) λI hi ho=>?_
 refine X.loop k it _ I ?_ xs.length s (hi _ _ ⟨fp,wr,xs,Z,acc,outs,rfl,houts,rfl,hst,hI,StX.refl hI.ok,hfp,λb hb=> .inl (.inr hb)⟩)
 intro j s_0 hj
 refine X.turn k target iter ifs next it _ _ s_0 hk hnext ?_
 refine cps λG kG=>?_
 obtain (⟨fp1,wr1,ys,Z₀,acc',outs',ej,ho,hacc,hst_0,I0,S_0,hfp1,hwr1⟩):=ho _ _ hj
 refine E03 (mk hst_0 hfp1) λwrF wrD fpWC=>?_
 refine kG ?_
 induction ys using List.casesOn with
 |nil=>
  cases ho
  refine wpM (M.done _ _ Z₀ s_0 hst_0 I0.ok) (λr s_1 p=>?_)
  obtain ⟨rfl,Z_1,S_1⟩:=p
  refine hQ _ _ ⟨⟨_,rfl⟩,Z_1,S_0.trans S_1 (λa ha=>hwr1 a ha) (λi g=> .inl g),?_⟩
  rw [<-hacc,List.append_nil] at |-
  exact I0.stX hAcc S_1 wrF wrD
 |cons y ys=>
  refine cps λG kG=>?_
  refine zc ho λo1 ho1 ho=>?_
  refine zP ho λo2 ho2 e_0=>?_
  subst e_0
  refine zc ho1 λρ_1 hb ho1=>?_
  refine zc ho1 λok hok ho1=>?_
  refine kG ?_
  refine wpM (M.next _ _ y ys Z₀ s_0 hst_0 I0.ok) (λr s_1 p=>?_)
  refine cps λG kG=>?_
  obtain (⟨v,Z_1,fp2,wr2,hr,S_1,rv,hmid,hf2,hw2⟩):=p
  refine kG (za hr ?_)
  have I1:=I0.stX hAcc S_1 wrF wrD
  have hfp2:∀b∈fp2,¬zaF c env ρ ad b/\ b≠D:=by
   intro b hb
   refine Or.elim (hf2 b hb) (λh=>?_) λh=>?_
   ·exact hfp1 b h
   ·refine ⟨λhF=>?_,λhD=>?_⟩
    ·obtain (⟨⟨o,ho⟩,_⟩):=I0.rel.foot_live hF
     exact zb (h.symm.trans ho)
    ·refine zm I0.live λo ho _=>?_
     rw [hD] at h
     exact zb (h.symm.trans ho)
  have hwr2:∀b∈wr2,(WC c env D b \/b∈wr) \/s.heap.get? b=none:=by
   intro b hb
   refine Or.elim ((hw2 b hb).2) (λh=>?_) λh=>?_
   ·exact hwr1 b h
   ·exact S_0.fresh h
  have wrD2:¬D∈wr2:=λh=>(hfp2 D (hw2 D h).1).2 rfl
  have fpWC2:∀b∈fp2,¬WC c env D b:=λb hb h=>by
   refine Or.elim (zlV (ρ:=ρ) (ad:=ad) h) (λh=>?_) λh=>?_
   ·exact (hfp2 b hb).2 h
   ·exact (hfp2 b hb).1 h
  refine wpM (M.go _ _ target v ys Z_1 s_1 hmid I1.ok hpair) (λu s_2 p=>?_)
  have I2:=I1.stX hAcc p.1 (λa fa ha=>(hfp2 a (hw2 a ha).1).1 fa) wrD2
  refine wpM (zbU (GI:=λu=>False) hA.handled 9 target t ht y v ρ ρ_1 s_2 Z_1 hb I2.ok I2.rel rv) (λu s_3 p=>?_)
  refine zR p λS_3 R3=>?_
  clear p
  have nD:¬Own c env ρ ad D:=λh=>hfD h.foot
  have I3:za6 Ω c env ad D AccI Z_1 s_3 ρ_1 acc':=by
   refine zm I2.live λo ho hn=>?_
   exact ⟨S_3.ok,R3,hAcc _ _ _ _ _ I2.acc (.refl _) (λo e=>S_3.h _ _ nD I2.nt e),⟨o,S_3.h _ _ nD I2.nt ho,hn⟩,I2.out⟩
  refine wpM (zjX IT hA hG hifs hok S_3.ok R3) (λok' s_4 p=>?_)
  refine cps λG kG=>?_
  obtain (⟨hr,Z_2,S_4⟩):=p
  refine kG (za hr ?_)
  have foot1:∀a,zaF c env ρ_1 ad a ->zaF c env ρ ad a:=λa h=>zk6 hb h
  have I4:za6 Ω c env ad D AccI Z_2 s_4 ρ_1 acc':=I3.stX hAcc (W:=λu=>False) (GI:=λu=>False) S_4.x (λu w h=>h) (λh=>h)
  have hst_4:St fp2 wr2 ys Z_2 s_4:=M.frame _ _ _ _ _ (λu=>False) (λu=>False) _ _ (M.frame _ _ _ _ _ _ _ _ _ p.2 S_3 (λb hb h=>(hfp2 b hb).1 h.foot) (λu w h=>h)) S_4.x (λu w h=>h) (λu w h=>h)
  have S04:StX (λa=>WC c env D a \/a∈wr) GI Ω Z s Z_2 s_4:=
   (((S_0.trans S_1 (λa ha=>hwr1 a ha) (λi g=> .inl g)).trans p.1 (λa ha=>hwr2 a ha) (λi g=> .inl g)).trans S_3 (λa ha=> .inl (.inl (zsB hM ha))) (λi g=>g.elim)).trans
    (S_4.x (W:=λu=>False) (GI:=λu=>False)) (λu h=>h.elim) (λu h=>h.elim)
  have back:∀{Z s acc},za6 Ω c env ad D AccI Z s ρ_1 acc ->za6 Ω c env ad D AccI Z s ρ acc:=λI=>
   ⟨I.ok,I.rel.weaken λi pv e=>by
    rw [zfc hb (λhi=>hfre i (List.mem_append_left _ hi) pv e)] at |-;exact e,I.acc,I.live,I.out⟩
  induction ok with
  |false=>
   simp only [Bool.false_eq_true,if_false] at ho1 |-
   obtain rfl:=Option.some.inj ho1
   exact ⟨trivial,ys.length,by refine za ej ?_;exact Nat.lt_succ_self _,hi _ _ ⟨fp2,wr2,ys,Z_2,acc',o2,rfl,ho2,hacc,hst_4,back I4,S04,hfp2,hwr2⟩⟩
  |true=>
   simp only [if_true] at ho1 |-
   have hlen:acc'.length+o1.length<=big:=by
    have:=congrArg List.length hacc
    simp only [List.length_append] at this
    lia
   have key:=hIn ρ_1 o1 acc' Z_2 s_4 (λs'=>∃m,m<j/\ I m s') ho1
    (λj hj pv e=>by
     rw [zfc hb (λh=>(zeI hnd).2 j h hj)] at e
     exact hfre j (List.mem_append_right _ hj) pv e)
    (λi xs hl e=>hM i xs hl (ziO hb e)) (λh=>hfD (foot1 _ h)) I4 hlen
    (λs' Z' S' I'=>⟨ys.length,by refine za ej ?_;exact Nat.lt_succ_self _,hi _ _ ⟨fp2,wr2,ys,Z',acc'++o1,o2,rfl,ho2,by rw [List.append_assoc] at |-;exact hacc,M.frame _ _ _ _ _ _ _ _ _ hst_4 S' fpWC2 (λu w h=>h),back I',
     S04.trans S' (λa ha=> .inl (.inl ha)) (λu h=>h.elim),hfp2,hwr2⟩⟩)
   induction next with
   |none=>exact wpM key (λu s_5 h=>⟨trivial,h⟩)
   |some i=>exact wpAny_mono key (λx s_5 h=>wpAny_mono h (λit' s_6 h=>wpAny_mono h (λu s_7 h=>⟨trivial,h⟩) λu w x=>x) λu w x=>x) λu w x=>x
theorem zof {g:Comprehension} {pg:Gn} (h:trG (tr m) c g=some pg):∃target iter ifs t it pifs,g=⟨target,iter,ifs,0⟩/\ pg= .mk t it pifs/\ trT c 9 target=some t/\ zfQ (tr m) c iter=some it/\ zN (tr m c) ifs=some pifs/\ zcL it t=true:=by
 obtain ⟨target,iter,ifs,a⟩:=g
 refine ifE h λha h=>?_
 have:a=0:=by simpa using ha
 refine za this (zc h λt ht h=>?_)
 refine zc h λit hit h=>?_
 refine zc h λpifs hifs h=>?_
 split at h
 ·refine eqE h ?_
  exact ⟨target,iter,ifs,t,it,pifs,rfl,rfl,ht,hit,hifs,by assumption⟩
 ·exact zb h
theorem zuB (IH:za1 Ω Φ S n (tr m)) (IT:zex Ω Φ S n (tr m)) (hA:Rm A n) (hG:GlC c Φ) (G:Gl Ω.B Φ) (GG:GlG Ω.B Φ.gen Φ.ga) (hGn:zdh Ω Φ.ga n)
  (hgd:(Φ.gen==("__debug__" :Str))=false) {e:PySem.Expr} {gens:List Comprehension} {emit:Sem Unit} (X:zlU Ω A e gens emit D env) {em:Rho ->Option β}
  (hAcc:∀Z h acc Z' h',AccI Z h acc ->Sub Z Z' ->(∀o,h.get? D=some o ->h'.get? D=some o) ->AccI Z' h' acc)
  (hEm:∀ρ d acc Z s,em ρ=some d ->acc.length<big ->za6 Ω c env ad D AccI Z s ρ acc ->¬zaF c env ρ ad D ->wpAny Ω.m A emit (λu s'=>∃Z',StX (WC c env D) (λu=>False) Ω Z s Z' s'/\ za6 Ω c env ad D AccI Z' s' ρ (acc++[d])) zf s):
  ∀(rest:List Comprehension) (prest:List Gn) (k:Nat) (target iter:PySem.Expr) (ifs:List PySem.Expr) (t:Tgt) (pifs:List PE),
   gens.drop k=⟨target,iter,ifs,0⟩::rest ->trT c 9 target=some t ->zN (tr m c) ifs=some pifs ->zN (trG (tr m) c) rest=some prest ->zbc (zZ t++prest.flatMap zas)=true ->
  ∀(ρ:Rho) (xs:List PyData) (outs acc:List β) (Z:Heap) (s:Shared) (it:Value) (fp wr:List Addr) (GI:Nat ->Prop) (pair:Bool) (St:DSt) (Mid:zsu),
   zmA (zoe S em t pifs prest ρ) xs=some outs ->(∀j∈zZ t++prest.flatMap zas,∀pv,ρ[j]?≠some (some pv)) ->(∀i xs,c.lo<=i ->ρ[i]?≠some (some (.m xs))) ->¬zaF c env ρ ad D ->
   zjR Ω A it GI pair St Mid ->(pair=true ->∃es k p,target= .Tuple es k p) ->St fp wr xs Z s ->za6 Ω c env ad D AccI Z s ρ acc ->(∀b∈fp,¬zaF c env ρ ad b/\ b≠D) ->acc.length+outs.length<=big ->
   codeAny Ω.m A (.compLoop e k it (.ref D) env) (λr s'=>(∃f,r= .ok f)/\ ∃Z',StX (λa=>WC c env D a \/a∈wr) GI Ω Z s Z' s'/\ za6 Ω c env ad D AccI Z' s' ρ (acc++outs)) s:=by
 intro rest
 induction rest with
 |nil=>
  intro prest k target iter ifs t pifs hk ht hifs hpr hnd ρ xs outs acc Z s it fp wr GI pair St Mid houts hfre hM hfD M hpair hst hI hfp hsz
  cases hpr
  have hk0:gens[k]?=some ⟨target,iter,ifs,0⟩:=by
   have:=congrArg (·[0]?) hk
   simpa using this
  have hk1:gens[k+1]?=none:=by
   have:=congrArg (·[1]?) hk
   simpa using this
  refine zgD IT hA hG X hAcc (next:=none) ?_ hk0 hk1 ht hifs hnd houts hfre hM hfD M hpair hst hI hfp hsz
  intro ρ ys acc Z s Q hys _ hM hfD I hl hQ
  refine zP hys λd hd e_0=>?_
  subst e_0
  exact wpM (hEm ρ d acc Z s hd (by assumption) I hfD) (λu s' p=>zm p λZ' S' I'=>hQ s' Z' S' I')
 |cons g rest ih=>
  intro prest k target iter ifs t pifs hk ht hifs hpr hnd ρ xs outs acc Z s it fp wr GI pair St Mid houts hfre hM hfD M hpair hst hI hfp hsz
  refine zc hpr λpg hpg hpr=>?_
  refine cps λG0 hG_0=>?_
  refine zm (Option.map_eq_some_iff.mp hpr) λprest' hpr' e9=>?_;obtain rfl:=e9.symm
  obtain ⟨target',iter',ifs',t',it',pifs',rfl,rfl,ht',hit',hifs',hpo⟩:=zof hpg
  refine hG_0 ?_
  have hk0:gens[k]?=some ⟨target,iter,ifs,0⟩:=by
   have:=congrArg (·[0]?) hk
   simpa using this
  have hk1:gens[k+1]?=some ⟨target',iter',ifs',0⟩:=by
   have:=congrArg (·[1]?) hk
   simpa using this
  have hkd:gens.drop (k+1)=⟨target',iter',ifs',0⟩::rest:=by
   rw [<-List.drop_drop,hk] at |-;rfl
  have hns:zda iter'=false:=zdg hit'
  refine zgD IT hA hG X hAcc (next:=some iter') ?_ hk0 ⟨hns,_,_,hk1⟩ ht hifs hnd houts hfre hM hfD M hpair hst hI hfp hsz
  intro ρ ys acc Z s Q hys hfre hM hfD I hl hQ
  refine zm (Option.bind_eq_some_iff.mp hys) λxs' hxs' hys=>?_
  refine wpAny_mono (zgA IH hA hG G GG hGn hgd hit' hxs' I.ok I.rel) (λx s_5 p=>wpAny_mono p (λiv s_6 p=>?_) λu w x=>x) λu w x=>x
  refine cps λG0 hG_0=>?_
  obtain ⟨fp',wr',GI',St',Mid',Z_2,S_2,M',hst',hw',hg',hf'⟩:=p
  refine hG_0 ?_
  have I2:za6 Ω c env ad D AccI Z_2 s_6 ρ acc:=I.stX hAcc (W:=λu=>False) (GI:=λu=>False) S_2.x (λu w h=>h) (λh=>h)
  have hfp':∀b∈fp',¬zaF c env ρ ad b/\ b≠D:=by
   intro b hb
   refine ⟨λhF=>?_,λhD=>?_⟩
   ·obtain (⟨⟨o,ho⟩,hz⟩):=I.rel.foot_live hF
    rcases hf' b hb with h| ⟨o',h⟩
    ·exact zb (h.symm.trans ho)
    ·exact zb (hz.symm.trans ((S_2.new _ _ (zf4 I.ok I.rel hF) ho).symm.trans h))
   ·subst hD
    refine zm I.live λo ho _=>?_
    rcases hf' b hb with h| ⟨o',h⟩
    ·exact zb (h.symm.trans ho)
    ·exact zb (I.out.symm.trans ((S_2.new _ _ I.nt ho).symm.trans h))
  have key:=ih prest' (k+1) target' iter' ifs' t' pifs' hkd ht' hifs' hpr' (by simpa [zas] using (zeI hnd).1) ρ xs' ys acc Z_2 s_6 iv fp' wr' GI' _ St' Mid' hys (λj hj=>hfre j (by simpa [zas] using hj)) hM hfD M'
   (λh=>zeg ht' hpo h) hst' I2 hfp' hl
  refine wpAny_runOwn (A:=A) ?_
  have hfin:∀(r:Result) s',((∃f,r=Except.ok f)/\ ∃Z',StX (λa=>WC c env D a \/a∈wr') GI' Ω Z_2 s_6 Z' s'/\ za6 Ω c env ad D AccI Z' s' ρ (acc++ys)) ->
    (match r with| .ok f=>Q s'| .error e=>cameBackBy Ω.m A env zf e s'):=by
   rintro r s' ⟨⟨f,rfl⟩,Z',S',I'⟩
   exact hQ s' Z' ((S_2.x (W:=WC c env D) (GI:=λu=>False)).trans S' (λa ha=>ha.elim .inl (λh=> .inr (hw' a h))) (λi h=> .inr (hg' i h))) I'
  refine codeAny_mono (X.start (k+1) iv _ _ (zM _ hk1 rfl) key ?_) hfin
  refine wpM (M'.self _ _ xs' Z_2 s_6 hst' I2.ok) (λv s_7 p=>?_)
  obtain (⟨e9,rfl⟩):=p;refine za e9 ?_
  exact key
end
section
variable {Ω:En} {A:Around}
theorem zqb {e:PySem.Expr} {k:Nat} {it acc:Value} {env:Env} {R:Result ->Shared ->Prop} (hq:(Code.compLoop e k it acc env).quiet=true) (hf:(Code.compLoop e k it acc env).isFrame=false) (hu:A.under (.compLoop e k it acc env)=A)
  (I:Nat ->Shared ->Prop) (h:∀n s,I n s ->wpAny Ω.m A (compTurn e k it acc env) (λfin s'=>match fin with| .done f=>R (.ok f) s'| .again c'=>c'= .compLoop e k it acc env/\ ∃m,m<n/\ I m s') zf s)
  (n:Nat) (s:Shared) (hI:I n s):codeAny Ω.m A (.compLoop e k it acc env) R s:=by
 refine codeAny_loop hq I (λn s hI=>?_) n hI
 refine za hu ?_
 show wpAny _ _ (if (Code.compLoop e k it acc env).isFrame then (compTurn e k it acc env).onRaise (leaving env) else (compTurn e k it acc env).onRaise (λx=>do noteFrame x env;theTreesLotGoes x)) _ _ s
 exact za hf (wpAny_noted (wpAny_mono (h n s hI) (λ_ _ p=>p) λ_ _ x=>x.elim))
theorem zqc (elt:PySem.Expr) (gens:List Comprehension) (scope:Scope) (pos:Pos) (D:Addr) (cenv:Env):zlU Ω A (.ListComp elt gens scope pos) gens (zeH (.ref D) elt cenv) D cenv where
 turn:=λk target iter ifs next it Q E s hg hn h=>zmN hg (by induction next<;>exact hn) h
 start:=λk it R s ⟨g,hg,ha⟩ h0 h=>zgB rfl (by refine za hg ?_;simp [ha]) (λ_=>rfl) rfl h0 h
 loop:=λk it R I h n s hI=>zqb rfl rfl rfl I h n s hI
end
section
variable {Ω:En} {A:Around} {Z Z':Heap} {s s':Shared} {c c':TC} {env:Env} {ρ:Rho} {ad:Nat ->Addr} {scope:Scope}
 {Φ:Fs} {S:Sv} {n m:Nat}
theorem zh1 (hO:Ok Ω Z s) (R:Rel c env Z s.heap ρ ad) (h:zb7 c scope=some c') {a:Addr} (f:zaF c' (zob scope env s.heap) ρ ad a):s.heap.objs.size<=a \/zaF c env ρ ad a:=by
 have hfree:=zff R h
 refine cps λG0 hG_0=>?_
 obtain ⟨hk,hd,p,hp,e9⟩:=zbJ h;refine za e9 ?_
 have hsz:(s.heap.push {cls:= .type "dict",data:= .dict #[]}).objs.size=s.heap.objs.size+1:=Heap.size_push ..
 refine E03 (zeG scope.names (s.heap.push {cls:= .type "dict",data:= .dict #[]}) (zae env scope.names [])) λn1 n2 n3=>?_
 refine hG_0 ?_
 rw [hsz] at n1 n2 n3
 rcases f with rfl| ⟨x,kd,i,e,hkd,hc⟩| ⟨i,xs,e,h⟩
 ·exact .inl (Nat.le_refl _)
 ·rcases n1 x a hc with ⟨_,hge,_⟩|h
  ·exact .inl (Nat.le_of_succ_le hge)
  ·rcases zdi hfree h with ⟨hx,ex⟩|h
   ·refine E22 ((zb0 R.kind R.names hp).free x hx) λkd' j ej hkd'=>?_
    exact .inr (.inr (.inl (I33 x kd' j ej hkd' ex)))
   ·exact zb h
 ·exact .inr (.inr (.inr (I22 i xs e h)))
theorem zmP {β:Type} (IH:za1 Ω Φ S n (tr m)) (IT:zex Ω Φ S n (tr m)) (hA:Rm A n) (hG:GlC c Φ) (G:Gl Ω.B Φ) (GG:GlG Ω.B Φ.gen Φ.ga) (hGn:zdh Ω Φ.ga n)
  (hgd:(Φ.gen==("__debug__" :Str))=false) {e:PySem.Expr} {target iter:PySem.Expr} {ifs:List PySem.Expr} {rest:List Comprehension} {pos:Pos} {newAcc:Sem Value} {emit:Addr ->Env ->Sem Unit} {AccI:Addr ->Heap ->Heap ->List β ->Prop}
  {t:Tgt} {pit:PE} {pifs:List PE} {prest:List Gn} {em:Rho ->Option β} {outs:List β} {use:Option (Value ->Sem Unit)} {Q:Value ->Shared ->Prop}
  (hcl:clausesOf e=⟨target,iter,ifs,0⟩::rest) (X:∀D cenv,zlU Ω A e (⟨target,iter,ifs,0⟩::rest) (emit D cenv) D cenv)
  (hctx:zb7 c scope=some c') (ht:trT c' 9 target=some t) (hit:zfQ (tr m) c iter=some pit) (hifs:zN (tr m c') ifs=some pifs) (hrest:zN (trG (tr m) c') rest=some prest) (hpo:zcL pit t=true)
  (hnd:zbc ((Gn.mk t pit pifs::prest).flatMap zas)=true) (hout:zjw S em (.mk t pit pifs::prest) (zai ((Gn.mk t pit pifs::prest).flatMap zas) ρ)=some outs) (hlen:outs.length<=big)
  (hO:Ok Ω Z s) (hR:Rel c env Z s.heap ρ ad)
  (hAcc:∀D Z h acc Z' h',AccI D Z h acc ->Sub Z Z' ->(∀o,h.get? D=some o ->h'.get? D=some o) ->AccI D Z' h' acc)
  (hNew:∀(s:Shared) (Q:Value ->Shared ->Prop),(∀o,NoF o ->(∀Z,AccI s.heap.objs.size Z (s.heap.push o) []) ->(s.heap.push o).get? s.heap.objs.size=some o ->Q (.ref s.heap.objs.size) {s with heap:=s.heap.push o}) ->wpAny Ω.m A newAcc Q zf s)
  (hEm:∀D cenv ρ d acc Z s,em ρ=some d ->acc.length<big ->za6 Ω c' cenv ad D (AccI D) Z s ρ acc ->¬zaF c' cenv ρ ad D ->GlC c' Φ ->
   wpAny Ω.m A (emit D cenv) (λw s'=>∃Z',StX (WC c' cenv D) (λw=>False) Ω Z s Z' s'/\ za6 Ω c' cenv ad D (AccI D) Z' s' ρ (acc++[d])) zf s)
  (hfin:∀(C D:Addr) (s':Shared) (Z':Heap),Stp Ω Z s Z' s' ->s.heap.get? C=none ->s.heap.get? D=none ->C≠D ->(Z'.get? C=none/\ ∃o,s'.heap.get? C=some o/\ NoF o) ->Z'.get? D=none ->AccI D Z' s'.heap outs ->
   match use with
   |none=>∀h',Heap.SameBut C s'.heap h' ->Q (.ref D) {s' with heap:=h'}
   |some u=>wpAny Ω.m A (u (.ref D)) (λw s''=>(∀o,s'.heap.get? C=some o ->s''.heap.get? C=some o)/\ ∀h',Heap.SameBut C s''.heap h' ->Q .none {s'' with heap:=h'}) zf s'):
  wpAny Ω.m A (comprehension e scope env pos newAcc false (eval iter env) use) Q zf s:=by
 have hspec:=zbJ hctx
 have hlo:c'.lo=c.nx/\ c'.fns=c.fns/\ c'.cst=c.cst/\ c'.gen=c.gen:=by
  obtain ⟨_,_,p,_,e9⟩:=hspec;refine za e9 ?_
  exact I04 rfl rfl rfl rfl
 have hG':GlC c' Φ:=⟨hlo.2.1.trans hG.hf,hlo.2.2.1.trans hG.hc,hlo.2.2.2.trans hG.hg⟩
 let ρ0:=zai ((Gn.mk t pit pifs::prest).flatMap zas) ρ
 have hR_0:Rel c env Z s.heap ρ0 ad:=hR.weaken λi pv e=>(zdZ e).1
 have hM:∀i xs,c'.lo<=i ->ρ0[i]?≠some (some (.m xs)):=λi xs hl e=>by
  have:=hR_0.hi i _ e
  rw [hlo.1] at hl
  lia
 refine zc hout λxs hxs hout=>?_
 refine wpAny_comprehension_free hcl (λx=>zfb (zdg hit) x) (zhD (zff hR hctx)) hspec.1 (λx hx hk=>by
   refine zF hk ?_
   exact za2 hspec.2.1 hx) ?_
 refine wpAny_mono (zgA IH hA hG G GG hGn hgd hit hxs hO hR_0) (λxv s_1 p=>wpAny_mono p (λiv s_2 p=>?_) λw y x=>x) λw y x=>x
 refine cps λG0 hG_0=>?_
 obtain ⟨fp,wr,GI,St,Mid,Z_2,S_2,M,hst,hw,hg,hf⟩:=p
 refine hG_0 ?_
 refine hNew s_2 _ λo hnf hA0 hoD=>?_
 let s_3:Shared:={s_2 with heap:=s_2.heap.push o}
 have S_3:Stp Ω Z_2 s_2 Z_2 s_3:=Stp.grow (n:=s_2.toks) S_2.ok (Sub.push _ _)
 have hsz_3:s_3.heap.objs.size=s_2.heap.objs.size+1:=Heap.size_push ..
 have R3:Rel c env Z_2 s_3.heap ρ0 ad:=(hR_0.stp S_2).stp S_3
 have hmain:∃o,s_3.heap.get? mainGlobals=some o:=by
  refine E22 G.ns λmg mb q1 _=>?_
  refine E32 q1 λo _ _ ho _=>?_
  clear q1
  exact ⟨o,S_3.ok.sub _ _ (S_3.ok.base _ _ ho)⟩
 refine zR (zoc S_3.ok R3 hmain hctx) λR4 hown=>?_
 refine zk5 ?_
 let s_4:Shared:={s_3 with heap:=zjW scope s_3.heap}
 have S_4:Stp Ω Z_2 s_3 Z_2 s_4:=Stp.grow (n:=s_3.toks) S_3.ok zdF
 let cenv:=zob scope env s_3.heap
 let D:=s_2.heap.objs.size
 have hD_4:s_4.heap.get? D=some o:=zdF _ _ hoD
 have hDfresh:s.heap.get? D=none:=S_2.fresh (zh _)
 have I4:za6 Ω c' cenv ad D (AccI D) Z_2 s_4 ρ0 []:=
  ⟨S_4.ok,R4,hAcc D _ _ _ _ _ (hA0 Z_2) (.refl _) (λo e=>zdF _ _ e),⟨o,hD_4,hnf⟩,S_2.ok.sub.none (zh _)⟩
 have footS:∀a,zaF c env ρ0 ad a ->(∃o,s.heap.get? a=some o)/\ Z.get? a=none/\ ¬Ω.tab a:=λa h=>⟨(hR_0.foot_live h).1,(hR_0.foot_live h).2,zf4 hO hR_0 h⟩
 have hfD:¬zaF c' cenv ρ0 ad D:=λh=>by
  refine Or.elim (zh1 S_3.ok R3 hctx h) (λh=>?_) λh=>?_
  ·rw [hsz_3] at h;exact absurd h (Nat.not_succ_le_self _)
  ·refine zR (footS _ h) λq2 _=>?_
   refine zO q2 λo ho=>?_
   clear q2
   exact zb (hDfresh.symm.trans ho)
 have hfp:∀b∈fp,¬zaF c' cenv ρ0 ad b/\ b≠D:=by
  intro b hb
  refine zO ((M.live _ _ _ _ _ hst).1 b hb) λo ho=>?_
  have hlt:=Heap.lt_size ho
  refine ⟨λh=>?_,Nat.ne_of_lt hlt⟩
  refine Or.elim (zh1 S_3.ok R3 hctx h) (λh=>?_) λh=>?_
  ·rw [hsz_3] at h
   exact absurd (Nat.lt_of_lt_of_le hlt (Nat.le_of_succ_le h)) (Nat.lt_irrefl _)
  ·refine zR (footS _ h) λq3 hz=>?_
   refine zO q3 λo' ho'=>?_
   clear q3
   rcases hf b hb with q| ⟨o2,q⟩
   ·exact zb (q.symm.trans ho')
   ·exact zb (hz.1.symm.trans ((S_2.new _ _ hz.2 ho').symm.trans q))
 have hst_4:St fp wr xs Z_2 s_4:=M.frame _ _ _ _ _ (λw=>False) (λw=>False) _ _ hst ((S_3.trans S_4).x) (λw y h=>h) (λw y h=>h)
 have key:=zuB IH IT hA hG' G GG hGn hgd (X D cenv) (hAcc D) (λρ d acc Z s a b d e=>hEm D cenv ρ _ acc Z s a b d e hG') rest prest 0 target iter ifs t pifs rfl ht hifs hrest (by simpa [zas] using hnd) ρ0 xs outs [] Z_2 s_4 iv fp wr GI _ St Mid
  hout (λj hj pv e=>(zdZ e).2 (by simpa [zas] using hj)) hM hfD M (λh=>zeg ht hpo h) hst_4 I4 hfp (by simpa using hlen)
 have hpost:∀(r:Result) s',((∃f,r=Except.ok f)/\ ∃Z',StX (λa=>WC c' cenv D a \/a∈wr) GI Ω Z_2 s_4 Z' s'/\ za6 Ω c' cenv ad D (AccI D) Z' s' ρ0 ([]++outs)) ->
   compPost Ω.m A zf use Q (.ref D) s_3.heap.objs.size r s':=by
  rintro r s' ⟨⟨f,rfl⟩,Z',S',I'⟩
  have hWf:∀a,WC c' cenv D a \/a∈wr ->s.heap.get? a=none:=by
   rintro a (h|h)
   ·rcases h with h|h| ⟨x,k,i,a1,a2,a3,a4⟩
    ·refine za h ?_;exact hDfresh
    ·exact S_2.fresh (S_3.fresh (z4 (hown a (.inl h))))
    ·exact S_2.fresh (S_3.fresh (z4 (hown a (.inr (.inl (I34 x k i a1 a2 a3 a4))))))
   ·exact hw a h
  have hC0:s.heap.get? s_3.heap.objs.size=none:=S_2.fresh (S_3.fresh (zh _))
  have hCD:s_3.heap.objs.size≠D:=by refine za hsz_3 ?_;exact Nat.succ_ne_self _
  have hCz:Z'.get? s_3.heap.objs.size=none:=I'.rel.apL
  refine zm I'.rel.loc λm' hns _=>?_
  have F:=hfin s_3.heap.objs.size D s' Z' ((StX.trans (W:=λw=>False) (GI:=λw=>False) (((S_2.trans S_3).trans S_4).x) S' (λa h=> .inr (hWf a h)) (λi g=> .inr (hg i g))).stp) hC0 hDfresh hCD ⟨hCz,E32 hns λo _ _ ho r=>⟨o,ho,noF r.1 λ_ x=>nomatch x⟩⟩ I'.out (by simpa using I'.acc)
  induction use with
  |none=>exact zM m' hns F
  |some u=>
   refine wpM F (λw s'' p=>?_)
   refine zR p λe q=>?_
   clear p
   exact zM m' (hns.at' (λo ho=>e o ho)) q
 refine codeAny_mono ((X D cenv).start 0 iv _ s_4 (zM _ rfl rfl) key ?_) hpost
 refine wpM (M.self _ _ xs Z_2 s_4 hst_4 I4.ok) (λv s_7 p=>?_)
 obtain (⟨e9,rfl⟩):=p;refine za e9 ?_
 exact key
def zhF (D:Addr) (Z h:Heap) (outs:List PyData):Prop:=∃vs n,h.get? D=some {cls:= .type "list",data:= .seq vs n}/\ zC Z vs.toList outs
theorem zh2 (D:Addr) (Z h:Heap) (acc:List PyData) (Z' h':Heap) (a:zhF D Z h acc) (f:Sub Z Z') (k:∀o,h.get? D=some o ->h'.get? D=some o):zhF D Z' h' acc:=
 E22 a λvs n e r=>(I22 vs n (k _ e) (r.mono f))
theorem zog (s:Shared) (Q:Value ->Shared ->Prop) (h:∀o,NoF o ->(∀Z,zhF s.heap.objs.size Z (s.heap.push o) []) ->(s.heap.push o).get? s.heap.objs.size=some o ->Q (.ref s.heap.objs.size) {s with heap:=s.heap.push o}):
  wpAny Ω.m A (newList []) Q zf s:=by
 refine wpAny_newList ?_
 exact h _ zak (λZ=>I22 #[] 0 (Heap.get?_push_size _ rfl) .nil) (Heap.get?_push_size _ rfl)
theorem zk7 {β:Type} {D:Addr} {AccI:Heap ->Heap ->List β ->Prop} {acc acc':List β} {h':Heap} {tk:Nat} (I:za6 Ω c env ad D AccI Z s ρ acc) (hfD:¬zaF c env ρ ad D) (hs:Heap.SameBut D s.heap h') (ho:∃o,h'.get? D=some o/\ NoF o) (ha:AccI Z h' acc'):
  StX (WC c env D) (λu=>False) Ω Z s Z {s with heap:=h',toks:=tk}/\ za6 Ω c env ad D AccI Z {s with heap:=h',toks:=tk} ρ acc':=by
 have S:StX (λa=>a=D) (λu=>False) Ω Z s Z {s with heap:=h',toks:=tk}:=StX.write I.ok I.np I.out rfl hs
 refine ⟨S.mono (λa h=> .inl (.inl h)) (λu h=>h.elim),S.ok,I.rel.stX S (λa fa e=>hfD (e▸fa)),ha,ho,I.out⟩
theorem zmQ (IH:za1 Ω Φ S n (tr m)) (hA:Rm A n) (hG:GlC c Φ) {elt:PySem.Expr} {pelt:PE} (he:tr m c elt=some pelt) {D:Addr} {d:PyData} {acc:List PyData}
  (hd:S.ex ρ pelt=some d) (hl:acc.length<big) (I:za6 Ω c env ad D (zhF D) Z s ρ acc) (hfD:¬zaF c env ρ ad D):
  wpAny Ω.m A (zeH (.ref D) elt env) (λu s'=>∃Z',StX (WC c env D) (λu=>False) Ω Z s Z' s'/\ za6 Ω c env ad D (zhF D) Z' s' ρ (acc++[d])) zf s:=by
 refine Pst.bind (IH c elt pelt ρ d he hd A env Z s ad hA hG I.ok I.rel) λv s_1 Z_1 S_1 r_1=>?_
 have I1:za6 Ω c env ad D (zhF D) Z_1 s_1 ρ acc:=I.stX (zh2 D) (W:=λu=>False) (GI:=λu=>False) S_1.x (λu w h=>h) (λh=>h)
 refine E22 I1.acc λvs k e r=>?_
 have hsz:vs.size<=sizeLine:=by refine za (zx r) ?_;exact zv (Nat.le_of_lt hl) (by decide)
 refine wB (wpAny_list_append_plain (hsz:=hsz) (items:=vs) ⟨k,e⟩ λh' hp hs=>wPu ?_)
 refine zO hp λk' e'=>?_
 clear hp
 refine zR (zk7 (tk:=s_1.toks) (acc':=acc++[d]) I1 hfD hs ⟨_,e',zak⟩ (I22 _ k' e' (by refine za Array.toList_push ?_;exact r.append (.one r_1)))) λS_2 I2=>?_
 exact zM Z_1 ((S_1.x (W:=WC c env D) (GI:=λu=>False)).trans S_2 (λu h=> .inl h) (λu h=>h.elim)) I2
theorem zlW (IH:za1 Ω Φ S n (tr m)) (IT:zex Ω Φ S n (tr m)) (hA:Rm A n) (hG:GlC c Φ) (G:Gl Ω.B Φ) (GG:GlG Ω.B Φ.gen Φ.ga) (hGn:zdh Ω Φ.ga n)
  (hgd:(Φ.gen==("__debug__" :Str))=false) {target iter elt:PySem.Expr} {ifs:List PySem.Expr} {rest:List Comprehension} {pos pos':Pos}
  {t:Tgt} {pit pelt:PE} {pifs:List PE} {prest:List Gn} {outs:List PyData} {use:Option (Value ->Sem Unit)} {Q:Value ->Shared ->Prop}
  (hctx:zb7 c scope=some c') (ht:trT c' 9 target=some t) (hit:zfQ (tr m) c iter=some pit) (hifs:zN (tr m c') ifs=some pifs) (hrest:zN (trG (tr m) c') rest=some prest) (he:tr m c' elt=some pelt) (hpo:zcL pit t=true)
  (hnd:zbc ((Gn.mk t pit pifs::prest).flatMap zas)=true) (hout:zc6 S pelt (.mk t pit pifs::prest) ρ=some outs) (hlen:outs.length<=big)
  (hO:Ok Ω Z s) (hR:Rel c env Z s.heap ρ ad)
  (hfin:∀(C D:Addr) (s':Shared) (Z':Heap),Stp Ω Z s Z' s' ->s.heap.get? C=none ->s.heap.get? D=none ->C≠D ->(Z'.get? C=none/\ ∃o,s'.heap.get? C=some o/\ NoF o) ->Z'.get? D=none ->zhF D Z' s'.heap outs ->
   match use with
   |none=>∀h',Heap.SameBut C s'.heap h' ->Q (.ref D) {s' with heap:=h'}
   |some u=>wpAny Ω.m A (u (.ref D)) (λv s''=>(∀o,s'.heap.get? C=some o ->s''.heap.get? C=some o)/\ ∀h',Heap.SameBut C s''.heap h' ->Q .none {s'' with heap:=h'}) zf s'):
  wpAny Ω.m A (comprehension (.ListComp elt (⟨target,iter,ifs,0⟩::rest) scope pos) scope env pos' (newList []) false (eval iter env) use) Q zf s:=
 zmP (AccI:=zhF) (emit:=λD cenv=>zeH (.ref D) elt cenv) (em:=λρ'=>S.ex ρ' pelt) IH IT hA hG G GG hGn hgd rfl (λD cenv=>zqc elt _ scope pos D cenv) hctx ht hit hifs hrest hpo hnd hout hlen hO hR zh2 (λs Q h=>zog s Q h)
  (λD cenv ρ d acc Z s a b I f hG'=>zmQ IH hA hG' he a b I f) hfin
theorem zqd {C:Addr} {h':Heap} (S:Stp Ω Z s Z' s') (hC:s.heap.get? C=none) (hz:Z'.get? C=none/\ ∃o,s'.heap.get? C=some o/\ NoF o) (hs:Heap.SameBut C s'.heap h'):Stp Ω Z s Z' {s' with heap:=h'}:=
 (StX.trans (W:=λu=>False) (GI:=λu=>False) S.x (StX.write (W:=λa=>a=C) (GI:=λu=>False) (n:=s'.toks) S.ok (zm hz.2 λ_ e n=>S.ok.np e n) hz.1 rfl hs) (λa e=> .inr (by refine za e ?_;exact hC)) (λu h=>h.elim)).stp
theorem zmR {C D:Addr} {outs:List PyData} {h':Heap} (S:Stp Ω Z s Z' s') (hC:s.heap.get? C=none) (hD:s.heap.get? D=none) (hCD:C≠D) (hCz:Z'.get? C=none/\ ∃o,s'.heap.get? C=some o/\ NoF o) (hDz:Z'.get? D=none) (a:zhF D Z' s'.heap outs) (hs:Heap.SameBut C s'.heap h'):
  zes Ω Z s outs (.ref D) {s' with heap:=h'}:=by
 refine E22 a λvs k e r=>?_
 clear a
 exact I46 Z' D vs k (zqd S hC hCz hs) rfl hD hDz ((hs.2 D (Ne.symm hCD)).trans e) r
end
section
variable {K:Type} [DecidableEq K]
end
section
variable {Ω:En} {A:Around} {Z Z':Heap} {s s':Shared} {c c':TC} {env:Env} {ρ:Rho} {ad:Nat ->Addr} {scope:Scope}
 {Φ:Fs} {S:Sv} {n m:Nat}
structure Held (Ω:En) (Φ:Fs) (S:Sv) (n:Nat):Prop where
 ex:∀m,za1 Ω Φ S n (tr m)
 tst:∀m,zex Ω Φ S n (tr m)
 call:zkZ Ω Φ S n
 gl:Gl Ω.B Φ
 glg:GlG Ω.B Φ.gen Φ.ga
 gok:zdh Ω Φ.ga n
 gd:(Φ.gen==("__debug__" :Str))=false
 bin:Ω.B.get? mainGlobals≠none
theorem zoh (hO:Ok Ω Z' s') {v:Value} {y:PyData} {b:Bool} (r:Rep Z' v y) (hb:zaI y=some b):wpAny Ω.m A (unaryOp .Not v) (Pst Ω Z' s' (.bool (!b))) zf s':=
 not_of (za9.then (zep hO (.inl r) hb) λs_1 Z_1 S_1=>zM Z_1 S_1 (zH.mpr rfl))
theorem zk8 {outs:List PyData} {d:PyData} (h:zny (.list outs)=some d):d= .list outs/\ outs.length<=big:=ifE (c:=outs.length<=big) (x:=some (PyData.list outs)) h λhl e=>⟨(Option.some.inj e).symm,hl⟩
theorem zgE (H:Held Ω Φ S n) (hA:Rm A n) (hG:GlC c Φ) {e:PySem.Expr} {elt:PE} {gs:List Gn} {outs:List PyData}
  (h:zS (tr m) c e (.comp elt gs)) (hd:zc6 S elt gs ρ=some outs) (hl:outs.length<=big) (hO:Ok Ω Z s) (hR:Rel c env Z s.heap ρ ad):
  wpAny Ω.m A (eval e env) (zes Ω Z s outs) zf s:=by
 cases h with
 |comp h=>
  exact zlW (H.ex m) (H.tst m) hA hG H.gl H.glg H.gok H.gd (use:=none) h.ctx h.tgt h.it h.ifs h.gs h.elt h.po h.nd hd hl hO hR λC D s' Z' S' hC hD hCD hCz hDz ha h' hs=>zmR S' hC hD hCD hCz hDz ha hs
theorem zmS (H:Held Ω Φ S n) (hA:Rm A n) (hG:GlC c Φ) {e:PySem.Expr} {es:List PE} {outs:List PyData}
  (h:zS (tr m) c e (.lst es)) (hd:exs S ρ es=some outs) (hO:Ok Ω Z s) (hR:Rel c env Z s.heap ρ ad):
  wpAny Ω.m A (eval e env) (zes Ω Z s outs) zf s:=by
 cases h with
 |lst hl hp=>exact zez (H.ex m) hA hG hl hp hd hO hR
theorem zfg {elt:PE} {gs:List Gn} {d:PyData} {G:Prop} (hd:((zc6 S elt gs ρ).map PyData.list).bind zny=some d) (k:∀outs,zc6 S elt gs ρ=some outs ->d= .list outs ->outs.length<=big ->G):G:=
 zc hd λq hq hd=>zP hq λouts hout e=>by
  subst e
  refine zR (zk8 hd) λe hl=>?_
  exact k outs hout e hl
def ExW (Ω:En) (A:Around) (env:Env) (Z:Heap) (s:Shared) (e:PySem.Expr) (d:PyData):Prop:=wpAny Ω.m A (eval e env) (Pst Ω Z s d) zf s
theorem zsC (H:Held Ω Φ S n) (hA:Rm A n) (hG:GlC c Φ) {t a b:PySem.Expr} {p:Pos} {pt pa pb:PE} {d:PyData} (ht:tr m c t=some pt) (ha:tr m c a=some pa) (hb:tr m c b=some pb)
  (hd:zc7 S ρ (.ite pt pa pb)=some d) (hO:Ok Ω Z s) (hR:Rel c env Z s.heap ρ ad):ExW Ω A env Z s (.IfExp t a b p) d:=
 zc hd λcb hc hd=>zc hc λy hy hc=>by
  refine wpAny_IfExp (za9.then (H.tst m c _ pt ρ y cb ht hy hc A env Z s ad hA hG hO hR) λs_1 Z_1 S_1=>?_)
  induction cb with
  |true=>exact zac S_1 (H.ex m c _ pa ρ d ha hd A env Z_1 s_1 ad hA hG S_1.ok (hR.stp S_1))
  |false=>exact zac S_1 (H.ex m c _ pb ρ d hb hd A env Z_1 s_1 ad hA hG S_1.ok (hR.stp S_1))
theorem zsD (H:Held Ω Φ S n) (hA:Rm A n) (hG:GlC c Φ) {e:PySem.Expr} {pe:PE} {d:PyData} (h:zS (tr m) c e pe)
  (hd:zc7 S ρ pe=some d) (hO:Ok Ω Z s) (hR:Rel c env Z s.heap ρ ad):ExW Ω A env Z s e d:=by
 induction h with
 |int i k p=>refine eqE hd ?_;exact wpAny_Constant_int (zB hO _ (zu.mpr ⟨_,rfl⟩))
 |str x k p=>refine eqE hd ?_;exact wpAny_Constant_str (zB hO _ (zU.mpr ⟨_,rfl⟩))
 |bool b k p=>refine eqE hd ?_;exact wpAny_Constant_bool (zA hO (zH.mpr rfl))
 |none k p=>refine eqE hd ?_;exact wpAny_Constant_none (zA hO (zju.mpr rfl))
 |name hx h=>exact zsq hA hx h hd hO hR
 |glob hx h hg hc=>exact zp4 hG H.gl hx hg hc hd hO hR
 |bin ha hb=>exact zso (H.ex m) hA hG ha hb hd hO hR
 |not ha=>exact zP hd λb hb e=>by subst e;exact zc hb λy hy hb=>znX (H.ex m) hA hG ha hy hO hR λv s' Z' hO' r=>zoh hO' r hb
 |neg ha=>
  refine zc hd λy hy hd=>?_
  cases y<;>first|exact zb hd|skip
  refine eqE hd ?_
  refine znX (H.ex m) hA hG ha hy hO hR λv s' Z' hO' r=>?_
  refine zcr r λt=>?_
  exact PyProof.Rows.neg_int (zB hO' _ (zu.mpr ⟨_,rfl⟩))
 |inv ha=>
  refine zc hd λy hy hd=>?_
  cases y<;>first|exact zb hd|skip
  refine eqE hd ?_
  refine znX (H.ex m) hA hG ha hy hO hR λv s' Z' hO' r=>?_
  refine zcr r λt=>?_
  exact PyProof.Rows.invert_int (zB hO' _ (zu.mpr ⟨_,rfl⟩))
 |and hp=>exact zgs (H.ex m) hA hG hp hd hO hR
 |or hp=>exact zhW (H.ex m) hA hG hp hd hO hR
 |cmp hs ha hb=>
  refine zm (znY (H.ex m) hA hG H.gl hs ha hb hd hO hR) λbb e9 hw=>?_;refine za e9 ?_
  exact wpAny_Compare1 hw (zhT hs)
 |ite ht ha hb=>exact zsC H hA hG ht ha hb hd hO hR
 |lst hl hp=>exact zP hd λds hds e=>by refine zF e ?_;exact wpM (zez (H.ex m) hA hG hl hp hds hO hR) (λu w p=>p.pst)
 |tup hl hp=>exact zP hd λds hds e=>by refine zF e ?_;exact zdX (H.ex m) hA hG hl hp hds hO hR
 |sl ha h1 h2 h3=>exact zus (H.ex m) hA hG ha h1 h2 h3 hd hO hR
 |idx ha hb=>exact zsr (H.ex m) hA hG H.gl ha hb hd hO hR
 |callF hx hg hk hp=>exact znZ (H.ex m) H.call hA hG H.gl hx hg hk hp hd hO hR
 |bi hx hg hb hp=>exact zut (H.ex m) hA hG H.gl hx hg hb hp hd hO hR
 |me h1 h2 h3 hk ha hp=>exact zuu (H.ex m) hA hG h1 h2 h3 hk ha hp hd hO hR
 |comp h=>exact zfg hd λouts hout e hl=>by refine za e ?_;exact wpM (zgE H hA hG (.comp h) hout hl hO hR) (λu w p=>p.pst)
theorem zlX (H:Held Ω Φ S n) (tbl:Nat ->Option Fn):∀m,za1 Ω Φ (step tbl S) (n+1) (tr m)
 |0=>λc e pe ρ d h=>zb h
 |m+1=>λc e pe ρ d h hd A env Z s ad hA' hG hO hR=>zsD H (hA'.le (Nat.le_succ n)) hG (zbm h) hd hO hR
theorem zbw {b:Bool} {Q:Bool ->Shared ->Prop} {E} (h:Q b s):wpAny Ω.m A (truthy (.bool b)) Q E s:=λu v w=>h
theorem zoi (H:Held Ω Φ S n) (tbl:Nat ->Option Fn):∀m,zex Ω Φ (step tbl S) (n+1) (tr m)
 |0=>λc e pe ρ d b h=>zb h
 |m+1=>λc e pe ρ d b h hd hb A env Z s ad hA' hG hO hR=>by
  have dflt:isTrue e env (eval e env)=(do let v <-eval e env;standAt e.pos;holding [v] (truthy v)) ->wpAny Ω.m A (isTrue e env (eval e env)) (za9 Ω Z s b) zf s:=
   λhe=>zjM (zlX H tbl (m+1) c e pe ρ d h hd A env Z s ad hA' hG hO hR) hb he
  have hA:Rm A n:=hA'.le (Nat.le_succ n)
  have hd':zc7 S ρ pe=some d:=hd
  have h9:=zbm h;induction h9 with
  |not ha=>
   refine zP hd' λb0 hb0 e=>zc hb0 λy hy hb0=>?_
   induction e;refine eqE hb ?_
   exact wpAny_isTrue_Not (za9.then (H.tst m c _ _ ρ y b0 ha hy hb0 A env Z s ad hA hG hO hR) λs_1 Z_1 S_1=>⟨rfl,Z_1,S_1⟩)
  |and hp=>exact wpAny_isTrue_BoolOp (zhX (H.tst m) hA hG hp hd' hb hO hR)
  |or hp=>exact wpAny_isTrue_BoolOp (zjP (H.tst m) hA hG hp hd' hb hO hR)
  | @ite t a b' pos pt pa pb ht ha hb'=>
   refine zc hd' λcb hc hd'=>zc hc λy hy hc=>?_
   refine wB (za9.then (H.tst m c _ pt ρ y cb ht hy hc A env Z s ad hA hG hO hR) λs_1 Z_1 S_1=>?_)
   induction cb with
   |true=>exact zbS S_1 (H.tst m c _ pa ρ d b ha hd' hb A env Z_1 s_1 ad hA hG S_1.ok (hR.stp S_1))
   |false=>exact zbS S_1 (H.tst m c _ pb ρ d b hb' hd' hb A env Z_1 s_1 ad hA hG S_1.ok (hR.stp S_1))
  |cmp hs ha hb'=>
   refine zm (znY (H.ex m) hA hG H.gl hs ha hb' hd' hO hR) λbb e9 hw=>?_;obtain rfl:=e9.symm
   refine eqE hb ?_
   refine wpAny_isTrue_Compare1 (wpAny_mono hw (λv s_1 p=>wpAny_mono p (λu s_2 q=>wpAny_mono q (λr s_3 q=>?_) λw z x=>x) λw z x=>x) λw z x=>x) (zhT hs)
   refine zm q λZ' S' r'=>?_
   clear q
   exact za (zH.mp r') (zbw ⟨rfl,Z',S'⟩)
  |_=>exact dflt rfl
end
structure Adv (Ω:En) (c:TC) (env:Env) (ρ:Rho) (ad:Nat ->Addr) (Z:Heap) (s:Shared) (ρ':Rho) (ad':Nat ->Addr) (Z':Heap) (s':Shared):Prop where
 stx:StX (Own c env ρ ad) (λ_=>False) Ω Z s Z' s'
 rel:Rel c env Z' s'.heap ρ' ad'
 own:∀a,Own c env ρ' ad' a ->Own c env ρ ad a \/s.heap.get? a=none
def zbh (Ω:En) (c:TC) (env:Env) (ρ:Rho) (ad:Nat ->Addr) (Z:Heap) (s:Shared) (ρ':Rho) (fl:Fl):Flow ->Shared ->Prop:=λf s'=>
 match fl with
 | .next=>f= .next/\ ∃Z' ad',Adv Ω c env ρ ad Z s ρ' ad' Z' s'
 | .brk=>f= .brk/\ ∃Z' ad',Adv Ω c env ρ ad Z s ρ' ad' Z' s'
 | .ret d=>∃Z' v,f= .ret v/\ StX (Own c env ρ ad) (λu=>False) Ω Z s Z' s'/\ Rep Z' v d
section
variable {Ω:En} {A:Around} {Z Z' Z'':Heap} {s s' s'':Shared} {c:TC} {env:Env} {ρ ρ' ρ'':Rho} {ad ad' ad'':Nat ->Addr}
 {Φ:Fs} {S:Sv} {n m:Nat}
theorem Adv.refl (hO:Ok Ω Z s) (R:Rel c env Z s.heap ρ ad):Adv Ω c env ρ ad Z s ρ ad Z s:=⟨StX.refl hO,R,λu o=> .inl o⟩
theorem Adv.ofStp (S:Stp Ω Z s Z' s') (R:Rel c env Z s.heap ρ ad):Adv Ω c env ρ ad Z s ρ ad Z' s':=⟨S.x,R.stp S,λu o=> .inl o⟩
theorem Adv.trans (a:Adv Ω c env ρ ad Z s ρ' ad' Z' s') (b:Adv Ω c env ρ' ad' Z' s' ρ'' ad'' Z'' s''):Adv Ω c env ρ ad Z s ρ'' ad'' Z'' s'':=
 ⟨a.stx.trans b.stx a.own (λu h=>h.elim),b.rel,λx o=>(b.own x o).elim (a.own x) λh=>a.stx.fresh h⟩
theorem za7 {fl:Fl} {f:Flow} (a:Adv Ω c env ρ ad Z s ρ' ad' Z' s') (p:zbh Ω c env ρ' ad' Z' s' ρ'' fl f s''):zbh Ω c env ρ ad Z s ρ'' fl f s'':=by
 induction fl with
 |next=>exact ⟨p.1,let ⟨Z2,ad2,b⟩:=p.2;⟨Z2,ad2,a.trans b⟩⟩
 |brk=>exact ⟨p.1,let ⟨Z2,ad2,b⟩:=p.2;⟨Z2,ad2,a.trans b⟩⟩
 |ret d=>exact E23 p λZ2 v e S r=>(I23 Z2 v e (a.stx.trans S a.own (λu h=>h.elim)) r)
theorem Own.mk_m (hlo:c.lo=0) {i:Nat} {xs} (e:ρ[i]?=some (some (.m xs))):Own c env ρ ad (ad i):= .inr (.inr (I23 i xs e (by refine za hlo ?_;exact Nat.zero_le _) rfl))
theorem zqe (hlo:c.lo=0) (hO:Ok Ω Z s) (R:Rel c env Z s.heap ρ ad) {i:Nat} {xs:List PyData} (e:ρ[i]?=some (some (.m xs))):
  ∃Z',Adv Ω c env ρ ad Z s (ρ.set i (some (.d (.list xs)))) ad Z' s:=by
 refine E23 (R.own i xs e) λvs k ho r hz=>?_
 refine E13 (zkS Z (ad i) _ hz (zba (by exact ho))) λZ' h1 h2 h3=>?_
 have hrep:Rep Z' (.ref (ad i)) (.list xs):=zah.mpr (I33 _ vs k rfl h2 (r.mono h1))
 have hok:Ok Ω Z' s:=⟨λb o eb=>by
  by_cases hb:b=ad i
  ·subst hb;refine eqE (h2.symm.trans eb) ?_;exact ho
  ·rw [h3 b hb] at eb;exact hO.sub _ _ eb,hO.base.trans h1,hO.os,hO.gens,hO.j,λb t=>(h3 b λx=>hO.nt ho zak (x▸t)).trans (hO.zt b t)⟩
 have off:∀b,b≠ad i ->Z.get? b=none ->Z'.get? b=none:=λb hb h=>(h3 b hb).trans h
 refine zm R.loc λm hns hm=>?_
 have hown:=R.own i xs e
 have prep:∀j v pv,(ρ.set i (some (.d (.list xs))))[j]?=some (some pv) ->(∀pv',ρ[j]?=some (some pv') ->∃v',v=v'/\ zc2 Z ad j v' pv') ->zc2 Z' ad j v pv:=by
  intro j v pv q hv
  rcases zy q with ⟨rfl,rfl⟩| ⟨hj,q⟩
  ·refine zm (hv _ e) λv' e9 hp=>?_;refine za e9 ?_
   refine za hp ?_;exact hrep
  ·refine zm (hv _ q) λv' e9 hp=>?_;refine za e9 ?_
   exact hp.mono h1
 refine ⟨Z',⟨hok,h1,λb o nb t eb=>?_,hO.lv,λu w y t h=>h,λu w y h=>h,Nat.le_refl _⟩,?_,λa o=> .inl (zeD o)⟩
 ·exact h3 b λhb=>nb (hb▸Own.mk_m hlo e)
 ·refine {R with loc:=zM m hns (λx j pv hx q=>?_),cel:=λx k j hx hk=>?_,apL:=off _ (Ne.symm (zgt hns hown)) R.apL,own:=λj ys q=>?_,ownInj:=λj k ys zs q q'=>?_,hi:=λj pv q=>?_}
  ·rcases zy q with ⟨ej,rfl⟩| ⟨hj,q'⟩
   ·obtain rfl:=ej.symm
    refine zm (hm x _ _ hx e) λv hv hp=>?_
    exact zM v hv (by refine za hp ?_;exact hrep)
   ·refine zm (hm x _ _ hx q') λv hv hp=>?_
    exact zM v hv (hp.mono h1)
  ·refine E24 (R.cel x k j hx hk) λca ov a hc hz' hv=>?_
   refine I24 ca ov a hc (off _ (Ne.symm (zeB hc hown)) hz') (λpv q=>?_)
   rcases zy q with ⟨ej,rfl⟩| ⟨hj,q'⟩
   ·obtain rfl:=ej.symm
    refine zm (hv _ e) λv hv hp=>?_
    exact zM v hv (by refine za hp ?_;exact hrep)
   ·refine zm (hv _ q') λv hv hp=>?_
    exact zM v hv (hp.mono h1)
  ·rcases zy q with ⟨_,q⟩| ⟨hj,q⟩
   ·cases q
   ·refine E23 (R.own j ys q) λus k' a b z=>?_
    exact I23 us k' a (b.mono h1) (off _ (λe'=>hj (R.ownInj j i ys xs q e e')) z)
  ·rcases zy q with ⟨_,q⟩| ⟨_,q⟩
   ·cases q
   ·rcases zy q' with ⟨_,q'⟩| ⟨_,q'⟩
    ·cases q'
    ·exact R.ownInj j k ys zs q q'
  ·refine Or.elim (zy q) (λh9=>?_) λh9=>?_
   ·refine zR h9 λe90 _=>?_
    clear h9;refine zF e90.symm ?_
    exact R.hi _ _ e
   ·refine zR h9 λ_ q=>?_
    clear h9
    exact R.hi _ _ q
theorem zgF (hlo:c.lo=0) (S:Sv):∀(fz:List Nat) {rest:List PS} {ρ:Rho} {r:Rho×Fl} {Z:Heap},zE S (fz.map .frz++rest) ρ=some r ->Ok Ω Z s ->Rel c env Z s.heap ρ ad ->
  ∃ρ' Z',Adv Ω c env ρ ad Z s ρ' ad Z' s/\ zE S rest ρ'=some r
 | [],rest,ρ,r,Z,h,hO,R=>I22 ρ Z (Adv.refl hO R) h
 |i::fz,rest,ρ,r,Z,h,hO,R=>by
  refine zc h λx hx h=>?_
  have hx:(match zcV ρ i with|some xs=>some (ρ.set i (some (.d (.list xs))),Fl.next)|none=>some (ρ,Fl.next))=some x:=hx
  induction e:zcV ρ i with
  |some xs=>
   rw [e] at hx
   cases hx
   refine cps λG0 hG_0=>?_
   refine zO (zqe hlo hO R (zc9 e)) λZ1 a1=>?_
   refine E22 (zgF hlo S fz h a1.stx.ok a1.rel) λρ2 Z2 a2 h2=>?_
   refine hG_0 ?_
   exact I22 ρ2 Z2 (a1.trans a2) h2
  |none=>
   have hx:=e▸hx
   cases hx
   exact zgF hlo S fz h hO R
theorem zdG {i:Nat} {xs xs':List PyData} {h':Heap} {tk:Nat} (hlo:c.lo=0) (hO:Ok Ω Z s) (R:Rel c env Z s.heap ρ ad) (e:ρ[i]?=some (some (.m xs))) (hs:Heap.SameBut (ad i) s.heap h')
  (ho:∃vs n,h'.get? (ad i)=some {cls:= .type "list",data:= .seq vs n}/\ zC Z vs.toList xs'):Adv Ω c env ρ ad Z s (ρ.set i (some (.m xs'))) ad Z {s with heap:=h',toks:=tk}:=by
 refine E22 ho λvs k ho' r=>?_
 clear ho
 have hown:=R.own i xs e
 have hz:Z.get? (ad i)=none:=E23 hown λu w y d z=>z
 refine zm R.loc λm hns hm=>?_
 have back:∀j pv,(ρ.set i (some (.m xs')))[j]?=some (some pv) ->∃pv',ρ[j]?=some (some pv')/\ ∀v,zc2 Z ad j v pv' ->zc2 Z ad j v pv:=by
  intro j pv q
  refine Or.elim (zy q) (λh9=>?_) λh9=>?_
  ·refine zR h9 λe90 e91=>?_
   clear h9;refine zF e90.symm ?_;refine zF e91.symm ?_
   exact zM _ e (λv h=>h)
  ·refine zR h9 λ_ q=>?_
   clear h9
   exact zM _ q (λv h=>h)
 refine ⟨StX.write hO (E23 hown λ_ _ e _ _=>hO.np e zak) hz (Own.mk_m hlo e) hs,?_,λa o=> .inl ?_⟩
 ·refine {R with loc:=zM m (hns.sameBut hs (Ne.symm (zgt hns hown))) (λx j pv hx q=>?_),cel:=λx k j hx hk=>?_,own:=λj ys q=>?_,ownInj:=λj k ys zs q q'=>?_,hi:=λj pv q=>?_}
  ·refine zm (back j pv q) λpv' q' hp=>?_
   refine zm (hm x j pv' hx q') λv hv r=>?_
   exact zM v hv (hp v r)
  ·refine E24 (R.cel x k j hx hk) λca ov a hc hz' hv=>?_
   refine I24 ca ov a (hc.sameBut hs (Ne.symm (zeB hc hown))) hz' (λpv q=>?_)
   refine zm (back j pv q) λpv' q' hp=>?_
   refine zm (hv pv' q') λv hv r=>?_
   exact zM v hv (hp v r)
  ·rcases zy q with ⟨ej,q2⟩| ⟨hj,q⟩
   ·refine za ej ?_
    injection q2 with q2
    exact za q2 (I23 vs k ho' r hz)
   ·refine E23 (R.own j ys q) λus k' a b z=>?_
    exact I23 us k' ((hs.2 _ (λe'=>hj (R.ownInj j i ys xs q e e'))).trans a) b z
  ·have mk:∀(j:Nat) (ys:List PyData),(ρ.set i (some (PV.m xs')))[j]?=some (some (PV.m ys)) ->∃ys':List PyData,ρ[j]?=some (some (PV.m ys')):=by
    intro j ys q
    refine Or.elim (zy q) (λh9=>?_) λh9=>?_
    ·refine zR h9 λe90 _=>?_
     clear h9;refine zF e90.symm ?_
     exact ⟨_,e⟩
    ·refine zR h9 λ_ q=>?_
     clear h9
     exact ⟨_,q⟩
   refine zO (mk _ _ q) λ_ q=>?_
   refine zO (mk _ _ q') λ_ q'=>?_
   exact R.ownInj j k _ _ q q'
  ·refine zm (back j pv q) λpv' q' _=>?_
   exact R.hi _ _ q'
 ·rcases o with o|o| ⟨j,ys,q,hl,rfl⟩
  ·exact .inl o
  ·exact .inr (.inl o)
  ·refine Or.elim (zy q) (λh9=>?_) λh9=>?_
   ·refine zR h9 λe90 _=>?_
    clear h9;refine zF e90.symm ?_
    exact Own.mk_m hlo e
   ·refine zR h9 λ_ q=>?_
    clear h9
    exact .inr (.inr (I23 j ys q hl rfl))
theorem zjY {C:Addr} {h':Heap} (a:Adv Ω c env ρ ad Z s ρ' ad' Z' s') (hC:s.heap.get? C=none) (hz:Z'.get? C=none/\ ∃o,s'.heap.get? C=some o/\ NoF o) (hf:¬zaF c env ρ' ad' C) (hs:Heap.SameBut C s'.heap h'):
  Adv Ω c env ρ ad Z s ρ' ad' Z' {s' with heap:=h'}:=by
 have S:=StX.write (W:=λa=>a=C) (GI:=λ_=>False) (n:=s'.toks) a.stx.ok (zm hz.2 λ_ e n=>a.stx.ok.np e n) hz.1 rfl hs
 exact ⟨a.stx.trans S (λx e=> .inr (by refine za e ?_;exact hC)) (λ_ h=>h.elim),a.rel.stX S (λx fx e=>hf (e▸fx)),a.own⟩
theorem zaA {C:Addr} (R:Rel c env Z s.heap ρ ad) (hC:s.heap.get? C=none):¬zaF c env ρ ad C:=λh=>by
 refine zR (R.foot_live h) λq1 _=>?_
 refine zO q1 λo ho=>?_
 clear q1
 exact zb (hC.symm.trans ho)
theorem zaQ {x:Str} {i:Nat} {v:Value} {d:PyData} (hs:zK c x=some i) (hO:Ok Ω Z s) (R:Rel c env Z s.heap ρ ad) (r:Rep Z v d) {Q:Unit ->Shared ->Prop} {E}
  (h:∀s',Adv Ω c env ρ ad Z s (ρ.set i (some (.d d))) ad Z s' ->Q () s'):wpAny Ω.m A (storeName env x v) Q E s:=
 zde (GI:=λu=>False) (ad':=ad) (pv:= .d d) hs hO R (λu w=>rfl) r (λxs e=>nomatch e) λs' S R'=>h s' ⟨S,R',λa o=> .inl (zeD o)⟩
theorem zqf {x:Str} {i:Nat} {a:Addr} {xs:List PyData} {vs:Array Value} {k:Nat} (hlo:c.lo=0) {s_0:Shared} {Z₀:Heap} (T:Stp Ω Z₀ s_0 Z s) (hs:zK c x=some i) (R:Rel c env Z₀ s_0.heap ρ ad)
  (hn:s_0.heap.get? a=none) (hz:Z.get? a=none) (ho:s.heap.get? a=some {cls:= .type "list",data:= .seq vs k}) (r:zC Z vs.toList xs) {Q:Unit ->Shared ->Prop} {E}
  (h:∀s',Adv Ω c env ρ ad Z₀ s_0 (ρ.set i (some (.m xs))) (λj=>if j=i then a else ad j) Z s' ->Q () s'):wpAny Ω.m A (storeName env x (.ref a)) Q E s:=by
 refine zde (GI:=λu=>False) (ad':=λj=>if j=i then a else ad j) (pv:= .m xs) hs T.ok (R.stp T) (λj hj=>if_neg hj) (by show Value.ref a= .ref (if i=i then a else ad i);exact za (if_pos rfl) rfl) (λys e=>?_) λs' S R_2=>h s' ?_
 ·cases e
  refine ⟨by refine za (if_pos rfl) ?_;exact I23 vs k ho r hz,λj ys hj e=>?_⟩
  refine za (if_pos rfl) ?_
  intro e'
  refine E22 (R.own j ys e) λus k' ho' _=>?_
  rw [e',hn] at ho';exact zb ho'
 ·refine ⟨T.x.trans S (λa o=> .inl o) (λu h=>h.elim),R_2,λb o=>?_⟩
  rcases o with o|o| ⟨j,ys,q,hl,rfl⟩
  ·exact .inl (.inl o)
  ·exact .inl (.inr (.inl o))
  ·rcases zy q with ⟨rfl,_⟩| ⟨hj,q⟩
   ·have e:(if j=j then a else ad j)=a:=if_pos rfl
    show Own c env ρ ad (if j=j then a else ad j) \/s_0.heap.get? (if j=j then a else ad j)=none
    refine za e ?_;exact .inr hn
   ·show Own c env ρ ad (if j=i then a else ad j) \/s_0.heap.get? (if j=i then a else ad j)=none
    refine za (if_neg hj) ?_;exact .inl (.inr (.inr (I23 j ys q hl rfl)))
theorem zgG (x:Str) (p:Pos) (v:PySem.Expr) (pos:Pos):exec (.Assign [.Name x p] v pos) env=(do
   standAt pos
   if <-swapsWith v (some (.Name x p)) pos.line env then
    evalThenUse v env (assign (.Name x p) env)
    return .next
   let v <-eval v env
   standAt p
   bindName env x v
   pure .next):=rfl
theorem zfh {x:Str} {p pos:Pos} {v:PySem.Expr} {Q:Flow ->Shared ->Prop} (hsw:swapsWith v (some (.Name x p)) pos.line env=pure false)
  (h:wpAny Ω.m A (eval v env) (λu s_1=>wpAny Ω.m A (storeName env x u) (λw s_2=>Q .next s_2) zf s_1) zf s):
  wpAny Ω.m A (exec (.Assign [.Name x p] v pos) env) Q zf s:=by
 rw [zgG]
 refine za hsw (wB (wpAny_standAt ?_))
 show wpAny _ _ (eval v env>>=λv=>standAt p>>=λw=>bindName env x v>>=λw=>pure Flow.next) _ _ _
 exact wB (wpAny_mono h (λu s_1 h_1=>wB (wpAny_standAt (wB (wpAny_bindName (wpAny_mono h_1 (λw s_2 h_2=>wPu h_2) λw y x=>x))))) λw y x=>x)
theorem zjZ {x:Str} {p pos:Pos} {v:PySem.Expr} {Q:Flow ->Shared ->Prop} (hsw:swapsWith v (some (.Name x p)) pos.line env=pure true)
  (h:wpAny Ω.m A (evalThenUse v env (assign (.Name x p) env)) (λu s_2=>Q .next s_2) zf s):wpAny Ω.m A (exec (.Assign [.Name x p] v pos) env) Q zf s:=by
 rw [zgG]
 refine za hsw (wB (wpAny_standAt ?_))
 show wpAny _ _ (evalThenUse v env (assign (.Name x p) env)>>=λu=>pure Flow.next) _ _ _
 exact wB (wpM h (λu s_2 h_2=>wPu h_2))
noncomputable def zgH:PySem.Expr ->Bool
 | .ListComp .. =>true
 |_=>false
set_option tactic.hygienic true in
theorem zfE {v:PySem.Expr} {pe:PE} (h:tr m c v=some pe) (x:Str) (p:Pos) (l:Nat):swapsWith v (some (.Name x p)) l env=pure false \/(zgH v=true/\ swapsWith v (some (.Name x p)) l env=pure true):=by
 cases v<;>first
  |exact .inl rfl
  | (induction m<;>exact zb h)
  |skip
 rename_i elt gens sc pos
 refine za (show swapsWith (.ListComp elt gens sc pos) (some (.Name x p)) l env=pure (env.blockKind== .function&&env.kindOf x==some .local&&p.line==pos.line&& !(sc.names.any λ(n,k)=>n==x&&(k== .local||k== .cell))) from rfl) ?_
 cases (env.blockKind== .function&&env.kindOf x==some .local&&p.line==pos.line&& !(sc.names.any λ(n,k)=>n==x&&(k== .local||k== .cell)))
 ·exact .inl rfl
 ·exact .inr ⟨rfl,rfl⟩
end
section
variable (Ω:En) (Φ:Fs)
def zlY (S:Sv) (n:Nat):Prop:=
 ∀m c e pe ρ d,tr m c e=some pe ->zgq pe=true ->S.ex ρ pe=some d ->∃xs,d= .list xs/\ ∀A env Z s ad,Rm A n ->GlC c Φ ->Ok Ω Z s ->Rel c env Z s.heap ρ ad ->
  wpAny Ω.m A (eval e env) (zes Ω Z s xs) zf s
def zrS (S:Sv) (n:Nat):Prop:=
 ∀m c e pe ρ d,tr m c e=some pe ->zgH e=true ->S.ex ρ pe=some d ->∃xs,d= .list xs/\ ∀A env Z s ad,Rm A n ->GlC c Φ ->Ok Ω Z s ->Rel c env Z s.heap ρ ad ->
  ∀(u:Value ->Sem Unit) (Q:Shared ->Prop),(∀(C D:Addr) (s':Shared) (Z':Heap),Stp Ω Z s Z' s' ->s.heap.get? C=none ->s.heap.get? D=none ->C≠D ->(Z'.get? C=none/\ ∃o,s'.heap.get? C=some o/\ NoF o) ->Z'.get? D=none ->zhF D Z' s'.heap xs ->
   wpAny Ω.m A (u (.ref D)) (λv s''=>(∀o,s'.heap.get? C=some o ->s''.heap.get? C=some o)/\ ∀h',Heap.SameBut C s''.heap h' ->Q {s'' with heap:=h'}) zf s') ->
  wpAny Ω.m A (evalThenUse e env u) (λv s'=>Q s') zf s
structure zaf (S:Sv) (n:Nat):Prop extends Held Ω Φ S n where
 fresh:zlY Ω Φ S n
 use:zrS Ω Φ S n
end
section
variable {Ω:En} {A:Around} {Z Z' Z'':Heap} {s s' s'':Shared} {c:TC} {env:Env} {ρ ρ' ρ'':Rho} {ad ad' ad'':Nat ->Addr}
 {Φ:Fs} {S:Sv} {n m:Nat}
theorem zmT {x:PyData} {ds:List PyData} {y:PyData} (h:meD .split x ds=some y):∃xs,y= .list xs:=by
 match ds,h with
 | [],h=>exact zc h λu v h=>ifE h λu e=>⟨_,(Option.some.inj e).symm⟩
 | [_],h=>exact zc h λu v h=>zc h λu v h=>ifE h λu e=>⟨_,(Option.some.inj e).symm⟩
 | [_,_],h=>exact zb h
 | [_,_,_],h=>exact zb h
 |_::_::_::_::_,h=>exact zb h
theorem zmU (hO:Ok Ω Z s) {id T:String} {v:Value} {vs:List Value} {x:PyData} {ds xs:List PyData} (hid:zmE .split x=some (T,id)) (r:Rep Z v x) (rs:zC Z vs ds) (h:meD .split x ds=some (.list xs)):
  wpAny Ω.m A (call (.builtin id) (v::vs)) (zes Ω Z s xs) zf s:=by
 refine za (zbt (m:= .split) hid) ?_
 match ds,rs,h with
 | [],rs,h=>
  refine zc h λt ht h=>ifE h λhl e=>?_
  cases e
  refine zO (zea ht r) λu e9=>?_;refine za e9 ?_
  exact za (zaL.mp rs) (zhS hO hl)
 | [d],rs,h=>
  refine zc h λt ht h=>zc h λu hu h=>ifE h λhl e=>?_
  cases e
  refine zO (zea ht r) λt' e9=>?_;refine za e9 ?_
  refine zm (zcK rs) λv1 e9 r1=>?_;refine za e9 ?_
  refine zO (zea hu r1) λu' e9=>?_;refine za e9 ?_
  exact zhR hO hl.1 hl.2
 | [_,_],rs,h=>exact zb h
 | [_,_,_],rs,h=>exact zb h
 |_::_::_::_::_,rs,h=>exact zb h
theorem zj0 (IH:za1 Ω Φ S n (tr m)) (hA:Rm A n) (hG:GlC c Φ) {o:PySem.Expr} {k:Str} {apos pos} {args:List PySem.Expr} {pa:PE} {pes:List PE} {xs:List PyData}
  (hp:zbQ o=true) (hl:(apos.endLine==pos.line)=true) (hn:args.length<29) (hk:znI k=some .split) (h0:tr m c o=some pa) (h1:zN (tr m c) args=some pes)
  (hd:((S.ex ρ pa).bind λx=>(exs S ρ pes).bind λxs=>meD .split x xs)=some (.list xs)) (hO:Ok Ω Z s) (hR:Rel c env Z s.heap ρ ad):
  wpAny Ω.m A (eval (.Call (.Attribute o k apos) args [] pos) env) (zes Ω Z s xs) zf s:=by
 refine zc hd λx hx hd=>zc hd λds hds hd=>?_
 have hns:=zbo (env:=env) pos h1
 refine wpAny_Call_method_lateS (zcx hp _) ?_ hl ?_
 ·have e1:(backTo pos (starEach args env)).all (λx=> !x.1)=true:=by
   refine za List.all_eq_not_any_not ?_;simp only [Bool.not_not,hns];rfl
  exact za e1 (decide_eq_true (Nat.lt_succ_of_lt hn))
 refine Pst.then (IH c o pa ρ x h0 hx A env Z s ad hA hG hO hR) λv s_1 Z_1 S_1 r_1=>?_
 refine E21 (znH hd) λT id hid=>?_
 refine za (zlO hk) (E05 (zlI Ω S_1.ok r_1 hid) λq1 q2 q3 q4 q5=>?_)
 refine I26 T id q1 q2 q3 q4 q5 ?_
 refine Calls.callWith_builtin hns (z7 IH hA hG h1 hds S_1.ok (hR.stp S_1) λvs s_2 Z_2 S_2 r_2=>?_)
 exact wpM (zmU S_2.ok hid (r_1.mono S_2.f) r_2 hd) (λ_ _ p=>zgr (S_1.trans S_2) p)
set_option tactic.hygienic true in
theorem zk9 (H:Held Ω Φ S n) (tbl:Nat ->Option Fn):zlY Ω Φ (step tbl S) (n+1):=by
 intro m c e pe ρ d h hf hd
 induction m using Nat.casesOn with
 |zero=>exact zb h
 |succ m=>
  replace h:=zbm h
  cases pe<;>first|exact Bool.noConfusion hf|skip
  ·refine zP hd λds hds e=>?_
   exact zM ds e.symm (λA env Z s ad hA hG hO hR=>zmS H (hA.le (Nat.le_succ n)) hG h hds hO hR)
  ·rename_i k a es
   induction k<;>first|exact Bool.noConfusion hf|skip
   refine zc hd λx hx hd1=>zc hd1 λds hds hd1=>?_
   refine zO (zmT hd1) λxs e9=>?_;subst e9
   refine zM xs rfl (λA env Z s ad hA hG hO hR=>?_)
   cases h with
   |me h1 h2 h3 hk ha hp=>exact zj0 (H.ex m) (hA.le (Nat.le_succ n)) hG h1 h2 h3 hk ha hp hd hO hR
  ·exact zfg hd λouts hout e hl=>zM outs e (λA env Z s ad hA hG hO hR=>zgE H (hA.le (Nat.le_succ n)) hG h hout hl hO hR)
set_option tactic.hygienic true in
theorem zoj (H:Held Ω Φ S n) (tbl:Nat ->Option Fn):zrS Ω Φ (step tbl S) (n+1):=by
 intro m c e pe ρ d h hl hd
 induction m using Nat.casesOn with
 |zero=>exact zb h
 |succ m=>
  have h2:=zbm h
  clear h
  induction h2<;>first|exact Bool.noConfusion hl|skip
  rename_i h
  refine zfg hd λouts hout e hlen=>?_
  refine za e (zM outs rfl (λA env Z s ad hA' hG hO hR u Q hu=>?_))
  refine wB (wpM (zlW (H.ex m) (H.tst m) (hA'.le (Nat.le_succ n)) hG H.gl H.glg H.gok H.gd (use:=some u) (Q:=λv s'=>Q s') h.ctx h.tgt h.it h.ifs h.gs h.elt h.po h.nd hout hlen hO hR ?_) (λv s' q=>wPu q))
  intro C D s' Z' S' hC hD hCD hCz hDz ha
  exact hu C D s' Z' S' hC hD hCD hCz hDz ha
end
def zgI (c:TC) (A:Around) (env:Env):Prop:=c.top=true ->A.frames=some [env]/\ env.frame=some env.locals
def zd0 (Ω:En) (Φ:Fs) (S:Sv) (n:Nat):Prop:=
 ∀k c body pb ρ ρ' fl,trB k c body=some pb ->S.blk ρ pb=some (ρ',fl) ->c.lo=0 ->∀A env Z s ad,Rm A n ->GlC c Φ ->zgI c A env ->Ok Ω Z s ->Rel c env Z s.heap ρ ad ->
  wpAny Ω.m A (execs body env) (zbh Ω c env ρ ad Z s ρ' fl) zf s
section
variable {Ω:En} {A:Around} {Z Z' Z'':Heap} {s s' s'':Shared} {c:TC} {env:Env} {ρ ρ' ρ'':Rho} {ad ad' ad'':Nat ->Addr} {fl:Fl}
 {Φ:Fs} {S:Sv} {n m:Nat}
theorem zdl (hlo:c.lo=0) {a:Addr} (f:zaF c env ρ ad a):Own c env ρ ad a:=by
 rcases f with f| ⟨x,k,i,a1,a2,a3⟩| ⟨i,xs,e,h⟩
 ·exact .inl f
 ·exact .inr (.inl (I34 x k i a1 a2 (by refine za hlo ?_;exact Nat.zero_le _) a3))
 ·exact .inr (.inr (I23 i xs e (by refine za hlo ?_;exact Nat.zero_le _) h))
theorem zsE (H:zaf Ω Φ S n) (hA:Rm A n) (hG:GlC c Φ) {e:PySem.Expr} {pe:PE} {pos:Pos} (he:tr 60 c e=some pe) (hd:zg S ρ (.ret pe)=some (ρ',fl))
  (hO:Ok Ω Z s) (hR:Rel c env Z s.heap ρ ad):wpAny Ω.m A (exec (.Return (some e) pos) env) (zbh Ω c env ρ ad Z s ρ' fl) zf s:=by
 refine zP hd λd hd' e=>?_
 cases e
 exact wpAny_Return_some (Pst.then (H.ex 60 c _ pe ρ d he hd' A env Z s ad hA hG hO hR) λv s_1 Z_1 S_1 r=>I23 Z_1 v rfl S_1.x r)
theorem zmV (H:zaf Ω Φ S n) (hA:Rm A n) (hG:GlC c Φ) {e:PySem.Expr} {pe:PE} {pos:Pos} (he:tr 60 c e=some pe) (hd:zg S ρ (.assert pe)=some (ρ',fl))
  (hO:Ok Ω Z s) (hR:Rel c env Z s.heap ρ ad):wpAny Ω.m A (exec (.Assert e none pos) env) (zbh Ω c env ρ ad Z s ρ' fl) zf s:=by
 refine zc hd λb hb hd=>zc hb λd hd' hb=>ifE hd λhbt e=>?_
 refine zay e ?_
 subst hbt
 exact wpAny_Assert_holds (za9.then (H.tst 60 c _ pe ρ d true he hd' hb A env Z s ad hA hG hO hR) λs_1 Z_1 S_1=>⟨rfl,rfl,Z_1,ad,Adv.ofStp S_1 hR⟩)
theorem zsF (hA:A.handled=none) (hO:Ok Ω Z s) {op:Operator} {a b:Int} {t u:Tok} {d:PyData} (ho:znz op=true) (hd:zaZ op (.int a) (.int b)=some d):
  wpAny Ω.m A (inplaceOp op (.int a t) (.int b u)) (Pst Ω Z s d) zf s:=by
 induction op<;>first|exact Bool.noConfusion ho|skip
 ·refine eqE hd ?_;exact PyProof.Rows.iadd_int (zB hO _ (zu.mpr ⟨_,rfl⟩))
 ·refine eqE hd ?_;exact PyProof.Rows.isub_int (zB hO _ (zu.mpr ⟨_,rfl⟩))
 ·exact ifE (c:=0<=b/\ (zo a:Int)+b<=2^27) hd λhc e=>by refine eqE e ?_;exact PyProof.Rows.ilshift_int hc.1 hc.2 (zB hO _ (zu.mpr ⟨_,rfl⟩))
 ·exact ifE (c:=0<=b) hd λhc e=>by refine eqE e ?_;exact PyProof.Rows.irshift_int hc (zB hO _ (zu.mpr ⟨_,rfl⟩))
 ·refine eqE hd ?_;exact PyProof.Rows.ior_int (zB hO _ (zu.mpr ⟨_,rfl⟩))
 ·refine eqE hd ?_;exact PyProof.Rows.ixor_int (zB hO _ (zu.mpr ⟨_,rfl⟩))
 ·refine eqE hd ?_;exact PyProof.Rows.iand_int (zB hO _ (zu.mpr ⟨_,rfl⟩))
theorem zaB (R:Rel c env Z s.heap ρ ad) {x:Str} {i:Nat} {pv:PV} {Q:Value ->Shared ->Prop} {E} (hs:zK c x=some i) (hp:ρ[i]?=some (some pv))
  (h:∀v,zc2 Z ad i v pv ->Q v s):wpAny Ω.m A (loadName env x) Q E s:=by
 refine zR (zeC hs) λ_ hk=>?_
 have hn:=R.names x
 rcases hk with hk|hk
 ·rw [hk] at hn
  refine cps λG0 hG_0=>?_
  refine zm R.loc λm hns hm=>?_
  refine zm (hm x i pv hk hp) λv hv r=>?_
  refine hG_0 ?_
  exact wpAny_loadName_local R.kind hn hns hv (h v r)
 ·rw [hk] at hn
  refine cps λG0 hG_0=>?_
  refine E24 (R.cel x _ i hk (.inl rfl)) λa ov ha hc _ hv=>?_
  refine zm (hv pv hp) λv e9 r=>?_;obtain rfl:=e9.symm
  refine hG_0 ?_
  exact wpAny_loadName_cell R.kind hn ha hc (h v r)
theorem zsG (H:zaf Ω Φ S n) (hA:Rm A n) (hG:GlC c Φ) {x:Str} {i:Nat} {op:Operator} {e:PySem.Expr} {pe:PE} {p pos:Pos} (hi:zK c x=some i) (he:tr 60 c e=some pe) (hd:zg S ρ (.aug i op pe)=some (ρ',fl))
  (hO:Ok Ω Z s) (hR:Rel c env Z s.heap ρ ad):wpAny Ω.m A (exec (.AugAssign (.Name x p) op e pos) env) (zbh Ω c env ρ ad Z s ρ' fl) zf s:=by
 refine zc hd λa hp hd=>zc hd λy hy hd=>zc hd λb hyb hd=>ifE hd λho hd=>zP hd λd hb e'=>?_
 cases e'
 refine wpAny_AugAssign_Name (zaB hR hi (znA hp) λv r=>?_)
 refine zO (zu.mp (show Rep Z v (.int a) from r)) λt e9=>?_;refine za e9 ?_
 refine Pst.then (H.ex 60 c e pe ρ _ he hy A env Z s ad hA hG hO hR) λu s_1 Z_1 S_1 r_1=>?_
 refine ze8 hyb r_1 λt'=>?_
 exact Pst.then (zsF hA.handled S_1.ok ho hb) λu s_2 Z_2 S_2 r_2=>zaQ hi S_2.ok ((hR.stp S_1).stp S_2) r_2 λs_3 a_3=>⟨rfl,Z_2,ad,(Adv.ofStp (S_1.trans S_2) hR).trans a_3⟩
theorem zuC (H:zaf Ω Φ S n) (HB:zd0 Ω Φ S n) (hA:Rm A n) (hG:GlC c Φ) (hT:zgI c A env) (hlo:c.lo=0) {k:Nat} {t:PySem.Expr} {a b:List Stmt} {pt:PE} {pa pb:List PS} {pos:Pos}
  (ht:tr 60 c t=some pt) (ha:trB k c a=some pa) (hb:trB k c b=some pb) (hd:zg S ρ (.iff pt pa pb)=some (ρ',fl))
  (hO:Ok Ω Z s) (hR:Rel c env Z s.heap ρ ad):wpAny Ω.m A (exec (.If t a b pos) env) (zbh Ω c env ρ ad Z s ρ' fl) zf s:=by
 refine zc hd λcb hc hd=>zc hc λy hy hc=>?_
 refine wpAny_If (za9.then (H.tst 60 c _ pt ρ y cb ht hy hc A env Z s ad hA hG hO hR) λs_1 Z_1 S_1=>?_)
 have a_1:=Adv.ofStp (c:=c) (env:=env) S_1 hR
 induction cb with
 |true=>exact wpM (HB k c a pa ρ ρ' fl ha hd hlo A env Z_1 s_1 ad hA hG hT S_1.ok (hR.stp S_1)) (λf s_2 p=>za7 a_1 p)
 |false=>exact wpM (HB k c b pb ρ ρ' fl hb hd hlo A env Z_1 s_1 ad hA hG hT S_1.ok (hR.stp S_1)) (λf s_2 p=>za7 a_1 p)
theorem zsH (H:zaf Ω Φ S n) (HB:zd0 Ω Φ S n) (hA:Rm A n) (hG:GlC c Φ) (hT:zgI c A env) (hlo:c.lo=0) {k:Nat} {target it:PySem.Expr} {a b:List Stmt} {t:Tgt} {pit:PE} {pa pb:List PS} {pos:Pos}
  (ht:trT c 9 target=some t) (hit:zfQ (tr 60) c it=some pit) (ha:trB k c a=some pa) (hb:trB k c b=some pb) (hpo:zcL pit t=true) (hd:zg S ρ (.for_ t pit pa pb)=some (ρ',fl))
  (hO:Ok Ω Z s) (hR:Rel c env Z s.heap ρ ad):wpAny Ω.m A (exec (.For target it a b pos) env) (zbh Ω c env ρ ad Z s ρ' fl) zf s:=by
 refine zc hd λxs hxs hd=>?_
 refine wpAny_For ?_ (λx=>zfb (zdg hit) x)
 refine wpAny_mono (zgA (H.ex 60) hA hG H.gl H.glg H.gok H.gd hit hxs hO hR) (λx s_1 p=>wpAny_mono p (λiv s_2 p=>?_) λu w x=>x) λu w x=>x
 refine cps λG0 hG_0=>?_
 obtain ⟨fp,wr,GI,St,Mid,Z_2,S_2,M,hst,hw,hg,hf⟩:=p
 refine hG_0 ?_
 have hfp:∀b∈fp,¬Own c env ρ ad b:=by
  intro b hb hF
  refine zR (hR.foot_live hF.foot) λq1 hz=>?_
  refine zO q1 λo ho=>?_
  clear q1
  rcases hf b hb with h| ⟨o',h⟩
  ·exact zb (h.symm.trans ho)
  ·exact zb (hz.symm.trans ((S_2.new _ _ (zf4 hO hR hF.foot) ho).symm.trans h))
 refine codeAny_mono (codeAny_forLoop_any (R:=λr s'=>∃f,r= .ok f/\ zbh Ω c env ρ ad Z s ρ' fl f s')
  (λj s'=>∃fp1 wr1 ys ρ1 ad1 Z1,j=ys.length/\ zbF S t pa pb ys ρ1=some (ρ',fl)/\ Adv Ω c env ρ ad Z s ρ1 ad1 Z1 s'/\ St fp1 wr1 ys Z1 s'/\ (∀b∈fp1,¬Own c env ρ1 ad1 b)/\ ∀b∈wr1,Own c env ρ ad b \/s.heap.get? b=none) ?_ xs.length
   ⟨fp,wr,xs,ρ,ad,Z_2,rfl,hd,(Adv.ofStp (c:=c) (env:=env) S_2 hR),hst,hfp,λb hb=> .inr (hw b hb)⟩) ?_
 ·intro j s_1 h9;obtain ⟨fp1,wr1,ys,ρ1,ad1,Z1,rfl,hl,a1,hst1,hfp1,hwr1⟩:=h9
  have wrF:∀a,zaF c env ρ1 ad1 a ->¬a∈wr1:=λa fa ha=>hfp1 a (M.sub _ _ _ _ _ hst1 a ha) (zdl hlo fa)
  have adv_it:∀{s_3:Shared} {Z3:Heap} {s_4:Shared} {Z4:Heap} {wr2:List Addr},Adv Ω c env ρ ad Z s ρ1 ad1 Z3 s_3 ->StX (· ∈wr2) GI Ω Z3 s_3 Z4 s_4 ->(∀a,zaF c env ρ1 ad1 a ->¬a∈wr2) ->(∀b∈wr2,Own c env ρ ad b \/s.heap.get? b=none) ->Adv Ω c env ρ ad Z s ρ1 ad1 Z4 s_4:=λa S' hF hW=>
   ⟨a.stx.trans S' (λx hx=>hW x hx) (λi gi=> .inr (hg i gi)),a.rel.stX S' hF,a.own⟩
  induction ys using List.casesOn with
  |nil=>
   refine wpAny_mono (M.done _ _ Z1 s_1 hst1 a1.stx.ok) (λr s_3 p=>?_) λu w x=>x.elim
   obtain ⟨rfl,Z3,S3⟩:=p
   have a3:=adv_it a1 S3 wrF hwr1
   exact wpAny_mono (HB k c b pb ρ1 ρ' fl hb hl hlo A env Z3 s_3 ad1 hA hG hT a3.stx.ok a3.rel) (λf s_4 p=>zM f rfl (za7 a3 p)) λu w x=>x.elim
  |cons y ys=>
   refine zc hl λρ2 hbind hl=>?_
   refine zm (Option.bind_eq_some_iff.mp hl) λq2 hblk hl=>?_
   obtain ⟨ρ3,f3⟩:=q2
   refine wpAny_mono (M.next _ _ y ys Z1 s_1 hst1 a1.stx.ok) (λr s_3 p=>?_) λu w x=>x.elim
   refine E46 p λv Z3 fp2 wr2 e9 S3 rv hmid hf2 hw2=>?_
   clear p;refine za e9 ?_
   have a3:=adv_it a1 S3 wrF hwr1
   have hfp2':∀b∈fp2,¬Own c env ρ1 ad1 b:=by
    intro b hb hF
    refine Or.elim (hf2 b hb) (λh=>?_) λh=>?_
    ·exact hfp1 b h hF
    ·refine zR (a1.rel.foot_live hF.foot) λq3 _=>?_
     refine zO q3 λo ho=>?_
     clear q3
     exact zb (h.symm.trans ho)
   have hwr2:∀b∈wr2,Own c env ρ ad b \/s.heap.get? b=none:=by
    intro b hb
    refine Or.elim ((hw2 b hb).2) (λh=>?_) λh=>?_
    ·exact hwr1 b h
    ·exact a1.stx.fresh h
   refine wpAny_mono (M.go _ _ target v ys Z3 s_3 hmid a3.stx.ok (λh=>zeg ht hpo h)) (λu s_4 p=>?_) λu w x=>x.elim
   obtain (⟨S4,hst4⟩):=p
   have a4:Adv Ω c env ρ ad Z s ρ1 ad1 Z3 s_4:=adv_it a3 S4 (λa fa ha=>hfp2' a (hw2 a ha).1 (zdl hlo fa)) hwr2
   refine wpAny_mono (zbU (GI:=λu=>False) hA.handled 9 target t ht y v ρ1 ρ2 s_4 Z3 hbind a4.stx.ok a4.rel rv) (λu s_5 p=>?_) λu w x=>x.elim
   have hst5:St fp2 wr2 ys Z3 s_5:=M.frame _ _ _ _ _ _ _ _ _ hst4 p.1 (λb hb h=>hfp2' b hb h) (λu w h=>h)
   have hfp2:∀b∈fp2,¬Own c env ρ2 ad1 b:=λb hb h=>hfp2' b hb (zbT hbind h)
   have a45:=a4.trans ⟨p.1,p.2,λa o=> .inl (zbT hbind o)⟩
   refine wpAny_mono (HB k c a pa ρ2 ρ3 f3 ha hblk hlo A env Z3 s_5 ad1 hA hG hT p.1.ok p.2) (λf s_6 p=>?_) λu w x=>x.elim
   induction f3 with
   |next=>
    obtain ⟨rfl,Z6,ad6,a6⟩:=p
    refine ⟨ys.length,Nat.lt_succ_self _,fp2,wr2,ys,ρ3,ad6,Z6,rfl,hl,a45.trans a6,M.frame _ _ _ _ _ _ _ _ _ hst5 a6.stx hfp2 (λu w h=>h),λb hb h=>?_,hwr2⟩
    refine Or.elim (a6.own b h) (λh=>?_) λh=>?_
    ·exact hfp2 b hb h
    ·refine zO ((M.live _ _ _ _ _ hst5).1 b hb) λo ho=>?_
     exact zb (h.symm.trans ho)
   |brk=>
    obtain ⟨rfl,Z6,ad6,a6⟩:=p
    refine zay hl ?_
    exact ⟨.next,rfl,rfl,Z6,ad6,a45.trans a6⟩
   |ret d=>
    refine zay hl ?_
    refine cps λG0 hG_0=>?_
    refine E23 p λZ6 v' e9 S6 r6=>?_
    clear p;obtain rfl:=e9.symm
    refine hG_0 ?_
    exact zM (.ret v') rfl (za7 a45 (I23 Z6 v' rfl S6 r6))
 ·intro r s' h9;refine zm h9 λf q4 h=>?_;clear h9;obtain rfl:=q4
  exact h
theorem Adv.cons (a:Adv Ω c env ρ ad Z s ρ' ad' Z' s') (S:StX (Own c env ρ' ad') (λu=>False) Ω Z' s' Z'' s'') (R:Rel c env Z'' s''.heap ρ'' ad'') (h:∀b,Own c env ρ'' ad'' b ->Own c env ρ' ad' b \/s.heap.get? b=none):
  Adv Ω c env ρ ad Z s ρ'' ad'' Z'' s'':=
 ⟨a.stx.trans S a.own (λu h=>h.elim),R,λb o=>(h b o).elim (a.own b) .inr⟩
noncomputable def zgJ (ad:Nat ->Addr) (i:Nat) (a:Addr):Nat ->Addr:=λj=>if j=i then a else ad j
theorem zdH {x:Str} {i:Nat} {a:Addr} {xs:List PyData} {vs:Array Value} {k:Nat} (hO:Ok Ω Z s) (hs:zK c x=some i) (R:Rel c env Z s.heap ρ ad)
  (hf:¬zaF c env ρ ad a) (hz:Z.get? a=none) (ho:s.heap.get? a=some {cls:= .type "list",data:= .seq vs k}) (r:zC Z vs.toList xs) {Q:Unit ->Shared ->Prop} {E}
  (h:∀s',StX (Own c env ρ ad) (λu=>False) Ω Z s Z s' ->Rel c env Z s'.heap (ρ.set i (some (.m xs))) (zgJ ad i a) ->(∀b,Own c env (ρ.set i (some (.m xs))) (zgJ ad i a) b ->Own c env ρ ad b \/b=a) ->Q () s'):
  wpAny Ω.m A (storeName env x (.ref a)) Q E s:=by
 have e1:zgJ ad i a i=a:=if_pos rfl
 refine zde (GI:=λu=>False) (ad':=zgJ ad i a) (pv:= .m xs) hs hO R (λj hj=>if_neg hj) (by show Value.ref a= .ref (zgJ ad i a i);exact za e1 rfl) (λys e=>?_) λs' S R_2=>h s' S R_2 λb o=>?_
 ·cases e
  refine za e1 ⟨(I23 vs k ho r hz),λj ys hj e e'=>hf ?_⟩
  exact .inr (.inr (I22 j ys e e'.symm))
 ·rcases o with o|o| ⟨j,ys,q,hl,e⟩
  ·exact .inl (.inl o)
  ·exact .inl (.inr (.inl o))
  ·rcases zy q with ⟨ej,_⟩| ⟨hj,q⟩
   ·obtain rfl:=ej.symm;rw [e1] at e;exact .inr e
   ·rw [(show zgJ ad i a j=ad j from if_neg hj)] at e
    exact .inl (.inr (.inr (I23 j ys q hl e)))
theorem zsI (H:zaf Ω Φ S n) (hA:Rm A n) (hG:GlC c Φ) (hlo:c.lo=0) {x:Str} {i:Nat} {v:PySem.Expr} {pe:PE} {p pos:Pos} (hi:zK c x=some i) (he:tr 60 c v=some pe)
  (hd:zg S ρ (.asg (.v i) pe)=some (ρ',fl)) (hO:Ok Ω Z s) (hR:Rel c env Z s.heap ρ ad):wpAny Ω.m A (exec (.Assign [.Name x p] v pos) env) (zbh Ω c env ρ ad Z s ρ' fl) zf s:=by
 refine zc hd λd hd' hd=>?_
 refine zay hd ?_
 rcases zfE he x p pos.line (env:=env) with hsw| ⟨hlc,hsw⟩
 ·refine zfh hsw (Pst.then (H.ex 60 c v pe ρ d he hd' A env Z s ad hA hG hO hR) λu s_1 Z_1 S_1 r=>?_)
  exact zaQ hi S_1.ok (hR.stp S_1) r λs_2 a_2=>⟨rfl,Z_1,ad,(Adv.ofStp S_1 hR).trans a_2⟩
 ·refine zm (H.use 60 c v pe ρ d he hlc hd') λxs e9 hu=>?_;refine za e9 ?_
  refine zjZ hsw (wpM (hu A env Z s ad hA hG hO hR (assign (.Name x p) env) (λs'=>zbh Ω c env ρ ad Z s (ρ.set i (some (.d (.list xs)))) .next .next s') ?_) (λw s' q=>q))
  intro C D s' Z' S' hC hD hCD hCz hDz ha
  refine E22 ha λvs k ho r=>?_
  clear ha
  refine E14 ((S'.x (W:=λw=>False) (GI:=λw=>False)).freezeNew (a:=D) hD hDz ho) λZ2 S2 hz2 f2 off=>?_
  have S2:=S2.stp
  refine wpAny_assign_Name (zaQ hi S2.ok (hR.stp S2) (zah.mpr (I33 D vs k rfl hz2 (r.mono f2))) λs_2 a_2=>⟨λo ho=>a_2.stx.h C o (λq=>zaA hR hC q.foot) (S2.ntF hC) ho,λh' hs=>?_⟩)
  exact ⟨rfl,Z2,ad,zjY ((Adv.ofStp S2 hR).trans a_2) hC ⟨(off C hCD).trans hCz.1,zm hCz.2 λo e n=>⟨o,a_2.stx.h C o (λq=>zaA hR hC q.foot) (S2.ntF hC) e,n⟩⟩ (λq=>zaA hR hC (zeD (zdl hlo q)).foot) hs⟩
theorem zqg (H:zaf Ω Φ S n) (hA:Rm A n) (hG:GlC c Φ) (hlo:c.lo=0) {x:Str} {i:Nat} {v:PySem.Expr} {pe:PE} {p pos:Pos} (hi:zK c x=some i) (he:tr 60 c v=some pe) (hfr:zgq pe=true)
  (hd:zg S ρ (.asgM i pe)=some (ρ',fl)) (hO:Ok Ω Z s) (hR:Rel c env Z s.heap ρ ad):wpAny Ω.m A (exec (.Assign [.Name x p] v pos) env) (zbh Ω c env ρ ad Z s ρ' fl) zf s:=by
 refine zc hd λd hd' hd=>?_
 rcases zfE he x p pos.line (env:=env) with hsw| ⟨hlc,hsw⟩
 ·refine zm (H.fresh 60 c v pe ρ d he hfr hd') λxs e9 hF=>?_;obtain rfl:=e9.symm
  refine zay hd ?_
  refine zfh hsw (wpM (hF A env Z s ad hA hG hO hR) (λu s_1 q=>?_))
  refine cps λG0 hG_0=>?_
  refine E46 q λZ1 a vs k S1 e9 h1 h2 h3 r=>?_
  clear q;obtain rfl:=e9.symm
  refine hG_0 ?_
  exact zdH S1.ok hi (hR.stp S1) (λq=>zaA hR h1 q) h2 h3 r λs_2 S2 R2 ho=>⟨rfl,Z1,_,(Adv.ofStp S1 hR).cons S2 R2 λb o=>(ho b o).imp id λe=>by refine za e ?_;exact h1⟩
 ·refine zm (H.use 60 c v pe ρ d he hlc hd') λxs e9 hu=>?_;obtain rfl:=e9.symm
  refine zay hd ?_
  refine zjZ hsw (wpM (hu A env Z s ad hA hG hO hR (assign (.Name x p) env) (λs'=>zbh Ω c env ρ ad Z s (ρ.set i (some (.m xs))) .next .next s') ?_) (λw s' q=>q))
  intro C D s' Z' S' hC hD hCD hCz hDz ha
  refine E22 ha λvs k ho r=>?_
  clear ha
  refine wpAny_assign_Name (zdH S'.ok hi (hR.stp S') (λq=>zaA hR hD q) hDz ho r λs_2 S2 R2 hown=>⟨λo ho=>S2.h C o (λq=>zaA hR hC q.foot) (S'.ntF hC) ho,λh' hs=>?_⟩)
  refine ⟨rfl,Z',_,zjY ((Adv.ofStp S' hR).cons S2 R2 λb o=>(hown b o).imp id λe=>by refine za e ?_;exact hD) hC ⟨hCz.1,zm hCz.2 λo e n=>⟨o,S2.h C o (λq=>zaA hR hC q.foot) (S'.ntF hC) e,n⟩⟩ (λq=>?_) hs⟩
  refine Or.elim (hown C (zdl hlo q)) (λq=>?_) λq=>?_
  ·exact zaA hR hC q.foot
  ·exact hCD q
noncomputable def ziP:PySem.Expr ->Bool
 | .Tuple .. =>true
 |_=>false
theorem zfi {ts:List PySem.Expr} {k:Nat} {p:Pos} {v:PySem.Expr} {pos:Pos} {Q:Flow ->Shared ->Prop}
  (h:wpAny Ω.m A (eval v env) (λu s_1=>wpAny Ω.m A (swappedStores [.Tuple ts k p] v env) (λsw s_2=>wpAny Ω.m A (assignStores env u sw [assign (.Tuple ts k p) env]) Q zf s_2) zf s_1) zf s):
  wpAny Ω.m A (exec (.Assign [.Tuple ts k p] v pos) env) Q zf s:=by
 have hsw:swapsWithSole [.Tuple ts k p] v pos.line env=pure false:=by cases v<;>rfl
 show wpAny _ _ (do
  standAt pos
  if <-swapsWithSole [.Tuple ts k p] v pos.line env then do
   evalThenUse v env λv=>assignAll v ((assignEach [.Tuple ts k p] env).map (·.2))
   pure .next
  else do
   let u <-eval v env
   assignStores env u (<-swappedStores [.Tuple ts k p] v env) ((assignEach [.Tuple ts k p] env).map (·.2))) _ _ _
 refine za hsw (wB (wpAny_standAt ?_))
 show wpAny _ _ (eval v env>>=λu=>swappedStores [.Tuple ts k p] v env>>=λsw=>assignStores env u sw [assign (.Tuple ts k p) env]) _ _ _
 exact wB (wpM h (λu s_1 h_1=>wB h_1))
theorem ziQ {ts:List PySem.Expr} {k:Nat} {p:Pos} {v:PySem.Expr} (h:ziP v=false):swappedStores [.Tuple ts k p] v env=pure none:=by
 cases v<;>first|rfl| (exact Bool.noConfusion h)
theorem zqh (H:zaf Ω Φ S n) (hA:Rm A n) (hG:GlC c Φ) {ts:List PySem.Expr} {k:Nat} {t:Tgt} {v:PySem.Expr} {pe:PE} {p pos:Pos} (hnt:ziP v=false) (ht:trT c 9 (.Tuple ts k p)=some t) (he:tr 60 c v=some pe)
  (hd:zg S ρ (.asg t pe)=some (ρ',fl)) (hO:Ok Ω Z s) (hR:Rel c env Z s.heap ρ ad):wpAny Ω.m A (exec (.Assign [.Tuple ts k p] v pos) env) (zbh Ω c env ρ ad Z s ρ' fl) zf s:=by
 refine zc hd λd hd' hd=>?_
 refine zm (Option.map_eq_some_iff.mp hd) λρ1 hb e=>?_
 cases e
 refine zfi (Pst.then (H.ex 60 c v pe ρ d he hd' A env Z s ad hA hG hO hR) λu s_1 Z_1 S_1 r=>?_)
 refine za (ziQ hnt) (wPu ?_)
 show wpAny _ _ (do assign (.Tuple ts k p) env u;pure Flow.next) _ _ _
 refine wB (wpM (zbU (GI:=λw=>False) hA.handled 9 _ t ht d u ρ _ s_1 Z_1 hb S_1.ok (hR.stp S_1) r) (λw s_2 q=>wPu ?_))
 exact ⟨rfl,Z_1,ad,(Adv.ofStp S_1 hR).trans ⟨q.1,q.2,λa o=> .inl (zbT hb o)⟩⟩
theorem zfj {x:Str} {i:Nat} {xs:List PyData} {k:Str} {p apos pos pos':Pos} {args:List PySem.Expr} {id:String} {Q:Flow ->Shared ->Prop} (hl:(apos.endLine==pos.line)=true) (hn:args.length<29)
  (hns:(backTo pos (starEach args env)).any (·.1)=false)
  (hx:(x==("__debug__" :Str))=false) (hi:zK c x=some i) (hp:ρ[i]?=some (some (.m xs))) (hR:Rel c env Z s.heap ρ ad) (hmod:env.scope.kind= .function)
  (hs:Slot "list" k id) (ht:typeOf (.builtin id)=pure (.type "method_descriptor"))
  (h:wpAny Ω.m A (callWith pos (.builtin id) [.ref (ad i)] (backTo pos (starEach args env)) []) (λu=>Q .next) zf s):
  wpAny Ω.m A (exec (.Expr (.Call (.Attribute (.Name x p) k apos) args [] pos) pos') env) Q zf s:=by
 refine E23 (hR.own i xs hp) λvs n' ho r hz=>?_
 refine wpAny_Expr_any (wpAny_Call_method_lateS rfl ?_ hl ?_) (by unfold interactive;refine za hmod ?_;rfl) rfl
 ·have e1:(backTo pos (starEach args env)).all (λx=> !x.1)=true:=by
   refine za List.all_eq_not_any_not ?_;simp only [Bool.not_not,hns];rfl
  exact za e1 (decide_eq_true (Nat.lt_succ_of_lt hn))
 refine wpAny_Name (zaB hR hi hp λv e=>?_) hx
 refine za e ?_
 exact I26 "list" id F.plainAttrs_list hs ht (zM _ ho rfl) (λa e=>by cases e;exact zM _ ho rfl) h
theorem ziR {a:Addr} {f:Array Value ->Array Value} {h:Heap}:Heap.SameBut a h (h.update a (Obj.mapSeq f)):=Heap.SameBut.update ..
theorem ziS {a:Addr} {f:Array Value ->Array Value} {h:Heap} {vs:Array Value} {k:Nat} (ho:h.get? a=some {cls:= .type "list",data:= .seq vs k}):∃k',(h.update a (Obj.mapSeq f)).get? a=some {cls:= .type "list",data:= .seq (f vs) k'}:=
 ⟨_,IsL.update (n:=k) ho _⟩
theorem zeJ {pos:Pos} {a:PySem.Expr} {pa:PE} (ha:tr m c a=some pa):backTo pos (starEach [a] env)=[(false,eval a env)]:=by
 refine za (zav (za5 ha)) ?_;rfl
theorem zsJ (H:zaf Ω Φ S n) (hA:Rm A n) (hG:GlC c Φ) (hlo:c.lo=0) {x:Str} {i:Nat} {a:PySem.Expr} {pe:PE} {p apos pos pos':Pos} (hl:(apos.endLine==pos.line)=true) (hx:(x==("__debug__" :Str))=false)
  (hi:zK c x=some i) (he:tr 60 c a=some pe) (hd:zg S ρ (.app i pe)=some (ρ',fl)) (hO:Ok Ω Z s) (hR:Rel c env Z s.heap ρ ad):
  wpAny Ω.m A (exec (.Expr (.Call (.Attribute (.Name x p) "append" apos) [a] [] pos) pos') env) (zbh Ω c env ρ ad Z s ρ' fl) zf s:=by
 refine zc hd λxs hp hd=>zc hd λd hd' hd=>ifE hd λhsz e=>zay e ?_
 have hp:=zc9 hp
 refine zfj (id:="list.append") hl (by show (1:Nat)<29;simp) (by refine za (zeJ he) ?_;rfl) hx hi hp hR hR.kind F.slot_list_append F.type_list_append ?_
 refine za (zeJ he) (P.append_list (Pst.then (H.ex 60 c a pe ρ d he hd' A env Z s ad hA hG hO hR) λv s_1 Z_1 S_1 r_1=>?_))
 have R1:=hR.stp S_1
 refine E23 (R1.own i xs hp) λvs k ho r hz=>?_
 refine zO (ziS (f:=λxs=>xs.push v) ho) λk' ho'=>?_
 refine ⟨vs,k,by refine za (zx r) ?_;exact zv hsz (by decide),ho,rfl,Z_1,ad,(Adv.ofStp S_1 hR).trans (zdG (tk:=s_1.toks) hlo S_1.ok R1 hp ziR (I22 _ k' ho' ?_))⟩
 refine za Array.toList_push ?_;exact r.append (.one r_1)
theorem zsK (H:zaf Ω Φ S n) (hA:Rm A n) (hG:GlC c Φ) (hlo:c.lo=0) {x:Str} {i:Nat} {a:PySem.Expr} {pe:PE} {p apos pos pos':Pos} (hl:(apos.endLine==pos.line)=true) (hx:(x==("__debug__" :Str))=false)
  (hi:zK c x=some i) (he:tr 60 c a=some pe) (hd:zg S ρ (.ext i pe)=some (ρ',fl)) (hO:Ok Ω Z s) (hR:Rel c env Z s.heap ρ ad):
  wpAny Ω.m A (exec (.Expr (.Call (.Attribute (.Name x p) "extend" apos) [a] [] pos) pos') env) (zbh Ω c env ρ ad Z s ρ' fl) zf s:=by
 refine zc hd λxs hp hd=>zc hd λd hd' hd=>zc hd λys hy hd=>ifE hd λhsz e=>zay e ?_
 have hp:=zc9 hp
 rw [zdz hy] at hd'
 refine zfj (id:="list.extend") hl (by show (1:Nat)<29;simp) (by refine za (zeJ he) ?_;rfl) hx hi hp hR hR.kind F.slot_list_extend F.type_list_extend ?_
 refine za (zeJ he) (P.extend_list (Pst.then (H.ex 60 c a pe ρ _ he hd' A env Z s ad hA hG hO hR) λv s_1 Z_1 S_1 r_1=>?_))
 have R1:=hR.stp S_1
 refine cps λG0 hG_0=>?_
 refine E23 (R1.own i xs hp) λvs k ho r hz=>?_
 refine E33 (zah.mp r_1) λb us kb e9 eb rb=>?_;obtain rfl:=e9.symm
 refine zO (ziS (f:=λxs=>xs++us) ho) λk' ho'=>?_
 refine hG_0 ?_
 have e2:=zx rb
 have hs':vs.size+us.size<=big:=by refine za (zx r) ?_;refine za e2 ?_;exact hsz
 have hbig:big<=sizeLine:=by decide
 refine ⟨b,vs,us,k,kb,by lia,by lia,?_,rfl,ho,S_1.ok.sub _ _ eb,rfl,Z_1,ad,(Adv.ofStp S_1 hR).trans (zdG (tk:=s_1.toks) hlo S_1.ok R1 hp ziR (I22 _ k' ho' ?_))⟩
 ·simp [(show Builtin.List.listTooLong (vs.size+us.size)=false from decide_eq_false (Nat.not_lt.mpr (zv hs' (by decide))))]
 ·refine za Array.toList_append ?_;exact r.append rb
theorem zsL (hA:Rm A n) (hlo:c.lo=0) {x:Str} {i:Nat} {p apos pos pos':Pos} (hl:(apos.endLine==pos.line)=true) (hx:(x==("__debug__" :Str))=false)
  (hi:zK c x=some i) (hd:zg S ρ (.revs i)=some (ρ',fl)) (hO:Ok Ω Z s) (hR:Rel c env Z s.heap ρ ad):
  wpAny Ω.m A (exec (.Expr (.Call (.Attribute (.Name x p) "reverse" apos) [] [] pos) pos') env) (zbh Ω c env ρ ad Z s ρ' fl) zf s:=by
 refine zc hd λxs hp hd=>ifE hd λhsz e=>zay e ?_
 have hp:=zc9 hp
 refine zfj (id:="list.reverse") hl (by simp) rfl hx hi hp hR hR.kind F.slot_list_reverse F.type_list_reverse ?_
 refine E23 (hR.own i xs hp) λvs k ho r hz=>?_
 refine zO (ziS (f:=λxs=>xs.reverse) ho) λk' ho'=>?_
 refine P.reverse_list (items:=vs) (n:=k) ho ⟨rfl,Z,ad,zdG (tk:=s.toks) hlo hO hR hp ziR (I22 _ k' ho' ?_)⟩ (by refine za (zx r) ?_;exact zv hsz (by decide))
 refine za Array.toList_reverse ?_;exact r.reverse
theorem zgK:∀{xs:List PyData} {vs:List Value} {j:Nat},zC Z vs xs ->zC Z (vs.eraseIdx j) (xs.eraseIdx j)
 | [],vs,j,r=>by refine za r ?_;exact .nil
 |x::xs,vs,0,r=>by
  refine E23 (zG.mp r) λv vs' e9 _ r=>?_;refine za e9 ?_
  exact r
 |x::xs,vs,j+1,r=>by
  refine E23 (zG.mp r) λv vs' e9 h r=>?_;refine za e9 ?_
  exact .cons h (zgK r)
theorem zsM (H:zaf Ω Φ S n) (hA:Rm A n) (hG:GlC c Φ) (hlo:c.lo=0) {x:Str} {i:Nat} {a:PySem.Expr} {pe:PE} {p q pos:Pos} (hx:(x==("__debug__" :Str))=false)
  (hi:zK c x=some i) (he:tr 60 c a=some pe) (hd:zg S ρ (.del i pe)=some (ρ',fl)) (hO:Ok Ω Z s) (hR:Rel c env Z s.heap ρ ad):
  wpAny Ω.m A (exec (.Delete [.Subscript (.Name x p) a q] pos) env) (zbh Ω c env ρ ad Z s ρ' fl) zf s:=by
 refine zc hd λxs hp hd=>zc hd λd hd' hd=>zc hd λz hz0 hd=>zc hd λj hj hd=>ifE hd λhsz e=>zay e ?_
 have hp:=zc9 hp
 refine wpAny_Delete (wpAny_deleteEach_cons (wpAny_delete_Subscript (wpAny_Name (zaB hR hi hp λv e=>?_) hx)))
 refine za e (Pst.then (H.ex 60 c a pe ρ _ he hd' A env Z s ad hA hG hO hR) λv s_1 Z_1 S_1 r_1=>?_)
 refine zO (zaR hz0 r_1) λt e9=>?_;refine za e9 ?_
 have R1:=hR.stp S_1
 refine E23 (R1.own i xs hp) λvs k ho r hz=>?_
 have e1:=zx r
 refine zR (zgk hj hsz) λf1 f2=>?_
 have hfit:Builtin.List.listFitsIndex z=true:=by
  unfold Builtin.List.listFitsIndex
  lia
 refine wpAny_delItem_plain ⟨k,ho⟩ hfit (k:=j) (by refine za e1 ?_;exact hj) (λh' hp' hs=>?_) (by refine za e1 ?_;exact zv hsz (by decide))
 refine zO hp' λk' ho'=>?_
 clear hp'
 refine wpAny_deleteEach_nil ⟨rfl,Z_1,ad,(Adv.ofStp S_1 hR).trans (zdG (tk:=s_1.toks) hlo S_1.ok R1 hp hs (I22 _ k' ho' ?_))⟩
 have:(vs.eraseIdxIfInBounds j).toList=vs.toList.eraseIdx j:=by simp
 exact za this (zgK r)
end
noncomputable def zfU:List Nat ->List PyData ->Rho ->Rho
 |i::is,d::ds,ρ=>zfU is ds (ρ.set i (some (.d d)))
 |_,_,ρ=>ρ
theorem zh3:∀{is:List Nat} {ds:List PyData} {ρ:Rho} {i:Nat} {a:Option PV},i∉is ->zfU is ds (ρ.set i a)=(zfU is ds ρ).set i a
 | [],ds,ρ,i,a,_=>rfl
 |j::is,[],ρ,i,a,_=>rfl
 |j::is,d::ds,ρ,i,a,h=>by
  show zfU is ds ((ρ.set i a).set j (some (.d d)))=_
  refine za (List.set_comm _ _ λe=>h (List.mem_cons.mpr (.inl e))) ?_;refine za (zh3 λm=>h (.tail _ m)) ?_;rfl
theorem zh4:∀{is:List Nat} {ds:List PyData} {ρ:Rho} {i:Nat} {d:PyData},is.length=ds.length ->zfU (is++[i]) (ds++[d]) ρ=(zfU is ds ρ).set i (some (.d d))
 | [],[],ρ,i,d,_=>rfl
 | [],_::_,ρ,i,d,h=>by simp at h
 |_::_,[],ρ,i,d,h=>by simp at h
 |j::is,e::ds,ρ,i,d,h=>by
  simp
  exact zh4 (by simpa using h)
theorem zj1:∀{is:List Nat} {ds:List PyData} {ρ:Rho},is.length=ds.length ->zbc is=true ->zfU is.reverse ds.reverse ρ=zfU is ds ρ
 | [],[],ρ,_,_=>rfl
 | [],_::_,ρ,h,_=>by simp at h
 |_::_,[],ρ,h,_=>by simp at h
 |i::is,d::ds,ρ,h,hn=>by
  simp only [zbc,Bool.and_eq_true,Bool.not_eq_true',List.contains_eq_mem,decide_eq_false_iff_not] at hn
  refine za List.reverse_cons (za List.reverse_cons ?_)
  refine za (zh4 (by simpa using h)) (za (zj1 (by simpa using h) hn.2) ?_)
  exact za (zh3 hn.1) rfl
theorem zfF:∀{ns:List (Nat×Bool)} {ds:List PyData} {ρ ρ':Rho},ziw ns ds ρ=some ρ' ->ρ'=zfU (ns.map (·.1)) ds ρ/\ ns.length=ds.length
 | [],[],ρ,ρ',h=>by refine eqE h ?_;exact ⟨rfl,rfl⟩
 | [],_::_,ρ,ρ',h=>zb h
 |p::ns,d::ds,ρ,ρ',h=>ifN h λ_ h=>zR (zfF (ns:=ns) (ds:=ds) h) λe hl=>⟨e,congrArg Nat.succ hl⟩
 |p::ns,[],ρ,ρ',h=>zb h
theorem zcX:∀{ns:List (Nat×Bool)},zbn ns=true ->zbc (ns.map (·.1))=true
 | [],_=>rfl
 | (i,b)::r,h=>by
  simp only [zbn,Bool.and_eq_true] at h
  simp only [List.map_cons,zbc,Bool.and_eq_true]
  exact ⟨h.1,zcX h.2⟩
theorem zfG {α β:Type} {f:α ->Option β}:∀{l l':List α} {r r':List β},zN f l=some r ->zN f l'=some r' ->zN f (l++l')=some (r++r')
 | [],l',r,r',h,h'=>by refine eqE h ?_;exact h'
 |x::l,l',r,r',h,h'=>by
  refine zc h λy hy h=>?_
  refine zP h λr0 h0 e_0=>?_
  (first|refine zkP e_0 ?_|subst e_0)
  simp only [List.cons_append,zN,hy,Option.bind_some,zfG h0 h',Option.map_some]
theorem zeK {α β:Type} {f:α ->Option β}:∀{l:List α} {r:List β},zN f l=some r ->zN f l.reverse=some r.reverse
 | [],r,h=>by refine eqE h ?_;rfl
 |x::l,r,h=>by
  refine zc h λy hy h=>?_
  refine zP h λr0 h0 e_0=>?_
  (first|refine zkP e_0 ?_|subst e_0)
  refine za List.reverse_cons (za List.reverse_cons ?_)
  exact zfG (zeK h0) (by simp [zN,hy])
theorem zcO {c:TC}:∀{ts:List PySem.Expr} {ns:List (Nat×Bool)},zew c ts=some ns ->∃l:List (Str×Pos),ts=l.map (λq=>PySem.Expr.Name q.1 q.2)/\ zN (zK c) (l.map (·.1))=some (ns.map (·.1))/\ ∀p∈ns,p.2=c.mu.contains p.1
 | [],ns,h=>by refine eqE h ?_;exact I13 [] rfl rfl nofun
 |e::ts,ns,h=>by
  refine zc h λx hx h=>zc h λi hi h=>zP h λns' hns e=>?_
  refine zO (zaX hx) λp e9=>?_;refine za e9 ?_
  refine E13 (zcO hns) λl e9 hl hm=>?_;refine za e9 ?_
  refine zF e ?_
  refine I13 ((x,p)::l) rfl (by show ((zK c x).bind λy=>_)=_;refine za hi ?_;rw [Option.bind_some];refine za hl ?_;rfl) (λq hq=>?_)
  rcases List.mem_cons.mp hq with rfl|hq
  ·rfl
  ·exact hm q hq
theorem ziT {f:PySem.Expr ->Option Str} {b:Str ->Pos ->Bool} (hf:∀x p,f (.Name x p)=if b x p then some x else none) (l:List (Str×Pos)):
  ((l.map λq=>PySem.Expr.Name q.1 q.2).filterMap f).length=l.length ->(l.map λq=>PySem.Expr.Name q.1 q.2).filterMap f=l.map (·.1):=by
 induction l with
 |nil=>exact λ_=>rfl
 |cons q l ih=>
  intro h
  rw [List.map_cons] at h |-
  induction hb:b q.1 q.2 with
  |true=>
   rw [List.filterMap_cons_some ((hf q.1 q.2).trans (if_pos hb))] at h |-
   exact congrArg _ (ih (Nat.succ.inj h))
  |false=>
   rw [List.filterMap_cons_none ((hf q.1 q.2).trans (if_neg (by rw [hb];exact Bool.false_ne_true)))] at h
   exact absurd (zv (Nat.le_of_eq h.symm) (List.length_filterMap_le _ _)) (by rw [List.length_map];exact Nat.not_succ_le_self _)
section
variable {Ω:En} {A:Around} {Z Z' Z'':Heap} {s s' s'':Shared} {c:TC} {env:Env} {ρ ρ' ρ'':Rho} {ad ad' ad'':Nat ->Addr} {fl:Fl}
 {Φ:Fs} {S:Sv} {n m:Nat}
theorem zlZ {α:Type} {p:Prop} [Decidable p] {a b y:α} (h:¬p ->b=a \/b=y):(if p then a else b)=a \/(if p then a else b)=y:=by
 by_cases q:p
 ·exact .inl (if_pos q)
 ·rw [if_neg q];exact h q
theorem zd1 {l:List (Str×Pos)} {k k':Nat} {p p':Pos} {vs:List PySem.Expr} {es:List PE} (hv:zN (tr m c) vs=some es) (hc:zaS vs=false):
  swappedStores [.Tuple (l.map (λq=>PySem.Expr.Name q.1 q.2)) k p] (.Tuple vs k' p') env=pure none \/(swappedStores [.Tuple (l.map (λq=>PySem.Expr.Name q.1 q.2)) k p] (.Tuple vs k' p') env=pure (some (l.map (·.1)))):=by
 unfold swappedStores
 refine zlZ λ_=>zlZ λ_=>zlZ λhn=>zlZ λhf=> .inr ((if_neg λh=>?_).trans (congrArg (λl=>pure (some l)) (ziT (λx p=>rfl) l ?_)))
 ·rw [zaS,h,Bool.true_and,Bool.not_eq_false'] at hc
  exact hf hc
 ·rw [Bool.or_eq_true,not_or,bne_iff_ne,Decidable.not_not,List.length_map] at hn
  exact hn.1
theorem zh5:∀(xs:List Str) (is:List Nat) (vs:List Value) (ds:List PyData) (ρ:Rho) (s:Shared),zN (zK c) xs=some is ->zC Z vs ds ->Ok Ω Z s ->Rel c env Z s.heap ρ ad ->xs.length=ds.length ->
  wpAny Ω.m A (assignInOrder (xs.map λx=>bindName env x) vs) (λ_ s'=>Adv Ω c env ρ ad Z s (zfU is ds ρ) ad Z s') zf s
 | [],is,vs,ds,ρ,s,h,r,hO,hR,hl=>by
  refine eqE h ?_
  obtain rfl:ds=[]:=List.length_eq_zero_iff.mp (by simpa using hl.symm)
  exact wPu (Adv.refl hO hR)
 |x::xs,is,vs,ds,ρ,s,h,r,hO,hR,hl=>by
  refine zc h λi hi h=>?_
  refine zm (Option.map_eq_some_iff.mp h) λis' his e9=>?_;refine za e9.symm ?_
  induction ds using List.casesOn with
  |nil=>simp at hl
  |cons d ds=>
   refine E23 (zG.mp r) λv vs' e9 r1 r2=>?_;refine za e9 ?_
   show wpAny _ _ (do holding vs' (bindName env x v);assignInOrder (xs.map λx=>bindName env x) vs') _ _ _
   refine wB (wpAny_holding (wpAny_bindName (zaQ hi hO hR r1 λs_1 a_1=>?_)))
   exact wpM (zh5 xs is' vs' ds _ s_1 his r2 a_1.stx.ok a_1.rel (by simpa using hl)) (λ_ s_2 a_2=>a_1.trans a_2)
theorem zh6:∀{l:List (Str×Pos)} {ns:List (Nat×Bool)},zN (zK c) (l.map (·.1))=some (ns.map (·.1)) ->(∀p∈ns,p.2=c.mu.contains p.1) ->ns.all (λp=> !p.2)=true ->
  zN (trT c 8) (l.map (λq=>PySem.Expr.Name q.1 q.2))=some (ns.map λq=>Tgt.v q.1)
 | [],[],_,_,_=>rfl
 | [],_::_,h,_,_=>by simp [zN] at h
 | (x,p)::l,ns,h,hm,hf=>by
  refine zc h λi hi h=>?_
  refine zm (Option.map_eq_some_iff.mp h) λis' his e=>?_
  induction ns using List.casesOn with
  |nil=>simp at e
  |cons q ns=>
   simp only [List.map_cons,List.cons.injEq] at e
   refine zR e λe1 e2=>?_
   clear e
   simp only [List.all_cons,Bool.and_eq_true,Bool.not_eq_true'] at hf
   have hq:=hm q List.mem_cons_self
   rw [hf.1,<-e1] at hq
   have hnc:¬(c.mu.contains i=true):=by refine zF hq ?_;simp
   have h1:trT c 8 (.Name x p)=some (.v i):=by
    show ((zK c x).bind λi=>if c.mu.contains i then none else some (Tgt.v i))=_
    refine za hi ?_
    show (if c.mu.contains i=true then none else some (Tgt.v i))=_
    exact za (if_neg hnc) rfl
   simp only [List.map_cons,zN,h1,(zh6 (l:=l) (ns:=ns) (by refine za his ?_;exact za e2 rfl) (λp hp=>hm p (List.mem_cons_of_mem _ hp)) hf.2),Option.bind_some,Option.map_some,e1]
theorem zgL:∀{is:List Nat} {ds:List PyData} {ρ:Rho},is.length=ds.length ->zck (is.map Tgt.v) ds ρ=some (zfU is ds ρ)
 | [],[],ρ,_=>rfl
 | [],_::_,ρ,h=>by simp at h
 |_::_,[],ρ,h=>by simp at h
 |i::is,d::ds,ρ,h=>by
  simp
  refine za (zgL (by simpa using h)) ?_;rfl
theorem ziU (H:zaf Ω Φ S n) (hA:Rm A n) (hG:GlC c Φ) {ts vs:List PySem.Expr} {k k':Nat} {p p' pos:Pos} {ns:List (Nat×Bool)} {es:List PE}
  (hn:zew c ts=some ns) (hv:zN (tr 60 c) vs=some es) (hf:ns.all (λp=> !p.2)=true) (hsn:zbn ns=true) (hc:zaS vs=false) (hlen:vs.length<=1000)
  (hd:zg S ρ (.asgs ns es)=some (ρ',fl)) (hO:Ok Ω Z s) (hR:Rel c env Z s.heap ρ ad):wpAny Ω.m A (exec (.Assign [.Tuple ts k p] (.Tuple vs k' p') pos) env) (zbh Ω c env ρ ad Z s ρ' fl) zf s:=by
 refine zc hd λds hds hd=>zP hd λρ1 hs e=>?_
 cases e
 refine zR (zfF hs) λe9 hl=>?_;refine za e9 ?_
 refine E13 (zcO hn) λl hts hm hmu=>?_
 have hll:l.length=ns.length:=by have:=zb8 hm;simpa using this.symm
 refine zfi (Pst.then (zdX (H.ex 60) hA hG hlen hv hds hO hR) λu s_1 Z_1 S_1 r=>?_)
 have R1:=hR.stp S_1
 have hcases:=zd1 (env:=env) (l:=l) (k:=k) (p:=p) (k':=k') (p':=p') hv hc
 rw [<-hts] at hcases
 have hnl:(l.map (·.1)).length=ns.length:=by rw [List.length_map];exact za hll rfl
 have hm2:=hm
 generalize l.map (·.1)=names at hcases hm2 hnl
 rcases hcases with hsw|hsw
 ·refine za hsw (wPu ?_)
  show wpAny _ _ (do assign (.Tuple ts k p) env u;pure Flow.next) _ _ _
  have ht:trT c 9 (.Tuple ts k p)=some (.t (ns.map λq=>Tgt.v q.1)):=by
   show (zN (trT c 8) ts).map Tgt.t=_
   refine za hts ?_;refine za (zh6 hm hmu hf) ?_;rfl
  have hb:zaz (.t (ns.map λq=>Tgt.v q.1)) (.tuple ds) ρ=some (zfU (ns.map (·.1)) ds ρ):=by
   have:=zgL (is:=ns.map (·.1)) (ds:=ds) (ρ:=ρ) (by simpa using hl)
   rw [List.map_map] at this
   exact this
  refine wB (wpM (zbU (GI:=λw=>False) hA.handled 9 _ _ ht _ u ρ _ s_1 Z_1 hb S_1.ok R1 r) (λw s_2 q=>wPu ?_))
  exact ⟨rfl,Z_1,ad,(Adv.ofStp S_1 hR).trans ⟨q.1,q.2,λa o=> .inl (zbT hb o)⟩⟩
 ·refine za hsw (wPu ?_)
  refine E33 (zbi.mp r) λa us k2 e9 e2 r=>?_;refine za e9 ?_
  show wpAny _ _ (do rule "assign.swapped-stores";let items <-unpackItems (.ref a) names.length none;assignInOrder (names.reverse.map λn=>bindName env n) items.reverse;pure Flow.next) _ _ _
  refine za (by rw [zx r,<-hl,hnl] at |- :names.length=us.size) (wB (wpAny_rule (wB (wpAny_unpackItems_tuple hA.handled ⟨_,S_1.ok.sub _ _ e2,rfl,k2,rfl⟩ λh' hx=>?_))))
  have S_2:Stp Ω Z_1 s_1 Z_1 {s_1 with heap:=h'}:=Stp.grow (n:=s_1.toks) S_1.ok (zbp hx)
  refine wB (wpM (zh5 _ _ us.toList.reverse ds.reverse ρ _ (zeK hm2) r.reverse S_2.ok (R1.stp S_2) (by simp [hnl,hl])) (λw s_3 a_3=>wPu ?_))
  rw [zj1 (by simpa using hl) (zcX hsn)] at a_3
  exact ⟨rfl,Z_1,ad,(Adv.ofStp (S_1.trans S_2) hR).trans a_3⟩
theorem zok (H:zaf Ω Φ S n) (HB:zd0 Ω Φ S n) (hA:Rm A n) (hG:GlC c Φ) (hT:zgI c A env) (hlo:c.lo=0) {k:Nat} {t:PySem.Expr} {a:List Stmt} {pt:PE} {pa:List PS} {pos:Pos}
  (ht:tr 60 c t=some pt) (ha:trB k c a=some pa) (hd:zg S ρ (.whl pt pa)=some (ρ',fl))
  (hO:Ok Ω Z s) (hR:Rel c env Z s.heap ρ ad):wpAny Ω.m A (exec (.While t a [] pos) env) (zbh Ω c env ρ ad Z s ρ' fl) zf s:=by
 have hd:zd8 S pt pa 6 ρ=some (ρ',fl):=hd
 refine wpAny_While (codeAny_mono (codeAny_whileLoop (R:=λr s'=>∃f,r= .ok f/\ zbh Ω c env ρ ad Z s ρ' fl f s') (λj s'=>∃ρ1 ad1 Z1,zd8 S pt pa j ρ1=some (ρ',fl)/\ Adv Ω c env ρ ad Z s ρ1 ad1 Z1 s') ?_ 6 ⟨ρ,ad,Z,hd,Adv.refl hO hR⟩) ?_)
 ·intro j s_1 h9;refine E32 h9 λρ1 ad1 Z1 hw a1=>?_;clear h9
  induction j using Nat.casesOn with
  |zero=>exact zb hw
  |succ j=>
   refine zc hw λcb hc hw=>zc hc λy hy hc=>?_
   refine wpAny_mono (H.tst 60 c t pt ρ1 y cb ht hy hc A env Z1 s_1 ad1 hA hG a1.stx.ok a1.rel) (λb s_2 p=>?_) λu w x=>x.elim
   obtain ⟨rfl,Z2,S2⟩:=p
   have a2:=a1.trans (Adv.ofStp S2 a1.rel)
   induction b with
   |true=>
    refine zm (Option.bind_eq_some_iff.mp hw) λq4 hb hw=>?_
    obtain ⟨ρ2,f2⟩:=q4
    induction f2 using Fl.casesOn with
    |next=>
     refine wpAny_mono (HB k c a pa ρ1 ρ2 .next ha hb hlo A env Z2 s_2 ad1 hA hG hT a2.stx.ok a2.rel) (λf s_3 p=>?_) λu w x=>x.elim
     obtain ⟨rfl,Z3,ad3,a3⟩:=p
     exact ⟨j,Nat.lt_succ_self _,ρ2,ad3,Z3,hw,a2.trans a3⟩
    |brk=>exact zb hw
    |ret d=>exact zb hw
   |false=>
    refine zay hw ?_
    exact wpAny_execs_nil ⟨.next,rfl,rfl,Z2,ad1,a2⟩
 ·intro r s' h9;refine zm h9 λf q5 h=>?_;clear h9;obtain rfl:=q5
  exact h
theorem ziV (H:zaf Ω Φ S n) (hA:Rm A n) (hG:GlC c Φ) (hlo:c.lo=0) {x y:Str} {px py:Pos} {v1 v2:PySem.Expr} {k k':Nat} {p p' pos:Pos} {i j:Nat} {e1 e2:PE}
  (hi:zK c x=some i) (hj:zK c y=some j) (hij:i≠j) (h1:tr 60 c v1=some e1) (h2:tr 60 c v2=some e2) (hfr:zgq e2=true) (hc:zaS [v1,v2]=false)
  (hd:zg S ρ (.asgP i j e1 e2)=some (ρ',fl)) (hO:Ok Ω Z s) (hR:Rel c env Z s.heap ρ ad):
  wpAny Ω.m A (exec (.Assign [.Tuple [.Name x px,.Name y py] k p] (.Tuple [v1,v2] k' p') pos) env) (zbh Ω c env ρ ad Z s ρ' fl) zf s:=by
 refine zc hd λd1 hd1 hd=>zc hd λd2 hd2 hd=>zP hd λxs hx e=>?_
 cases e
 refine zm (H.fresh 60 c v2 e2 ρ d2 h2 hfr hd2) λxs' e9 hF=>?_
 subst e9
 have e8:xs'=xs:=Option.some.inj hx
 subst e8
 refine zfi (wpAny_mono (Q:=λu s'=>∃(T:Addr) (v:Value) (a:Addr) (vs:Array Value) (kk:Nat) (Z':Heap),u= .ref T/\ s'.heap.get? T=some {cls:= .type "tuple",data:= .seq #[v,.ref a]}/\ Stp Ω Z s Z' s'/\ Rep Z' v d1/\
   s.heap.get? a=none/\ Z'.get? a=none/\ s'.heap.get? a=some {cls:= .type "list",data:= .seq vs kk}/\ zC Z' vs.toList xs') (E:=zf) ?_ (λu s_1 q=>?_) λu w x=>x)
 ·refine Tuple_ ?_
  refine za (zav (za5 h1)) (za (zav (za5 h2)) ?_)
  show wpAny _ _ (do let v <-eval v1 env;let here <-pure [v];return here++(<-holding here (do let v <-eval v2 env;let here <-pure [v];return here++(<-holding here (spliced []))))) _ _ _
  refine Pst.bind (H.ex 60 c v1 e1 ρ d1 h1 hd1 A env Z s ad hA hG hO hR) λv s_1 Z_1 S_1 r_1=>?_
  refine wB (wPu (wB (wpAny_holding ?_)))
  refine wB (wpAny_mono (hF A env Z_1 s_1 ad hA hG S_1.ok (hR.stp S_1)) (λu s_2 q=>?_) λu w x=>x)
  refine E46 q λZ_2 a vs kk S_2 e9 q1 q2 q3 r=>?_
  clear q;refine za e9 ?_
  refine wB (wPu (wB (wpAny_holding (wPu (wPu (wPu ?_))))))
  refine wpAny_newTuple ?_ (by show 2<=sizeLine;decide)
  have S_3:Stp Ω Z_2 s_2 Z_2 {s_2 with heap:=s_2.heap.push {cls:= .type "tuple",data:= .seq ([v,.ref a]:List Value).toArray}}:=Stp.grow (n:=s_2.toks) S_2.ok (Sub.push _ _)
  exact ⟨_,v,a,vs,kk,Z_2,rfl,Heap.get?_push_size _ rfl,(S_1.trans S_2).trans S_3,r_1.mono S_2.f,S_1.fresh q1,q2,Heap.get?_push_of_some _ q3,r⟩
 ·obtain ⟨T,v,a,vs,kk,Z_1,e9,hT,S_1,r1,ha,hz,ho,r⟩:=q
  refine za e9 ?_
  have R1:=hR.stp S_1
  have hcases:=zd1 (env:=env) (l:=[(x,px),(y,py)]) (k:=k) (p:=p) (k':=k') (p':=p') (vs:=[v1,v2]) (es:=[e1,e2]) (c:=c) (m:=60) (zcA h1 h2) hc
  have inorder:∀{h':Heap},Heap.ExtBut s_1.heap.objs.size s_1.heap h' ->wpAny Ω.m A (bindName env x v) (λ_ s_2=>wpAny Ω.m A (bindName env y (.ref a)) (λ_ s'=>zbh Ω c env ρ ad Z s ((ρ.set i (some (.d d1))).set j (some (.m xs'))) .next .next s') zf s_2) zf {s_1 with heap:=h'}:=by
   intro h' hx
   have S_2:Stp Ω Z_1 s_1 Z_1 {s_1 with heap:=h'}:=Stp.grow (n:=s_1.toks) S_1.ok (zbp hx)
   have a_0:=Adv.ofStp (c:=c) (env:=env) (S_1.trans S_2) hR
   refine wpAny_bindName (zaQ hi S_2.ok (R1.stp S_2) r1 λs_2 a_2=>wpAny_bindName ?_)
   have a_12:=a_0.trans a_2
   have hnf:¬zaF c env (ρ.set i (some (.d d1))) ad a:=λq=>zaA hR ha (zeD (zdl hlo q)).foot
   exact zdH a_2.stx.ok hj a_2.rel hnf hz (a_2.stx.h _ _ (λq=>zaA hR ha q.foot) (S_1.ntF ha) (zbp hx _ _ ho)) r λs_3 S_3 R3 hown=>⟨rfl,Z_1,_,a_12.cons S_3 R3 λb o=>(hown b o).imp id λe=>by refine za e ?_;exact ha⟩
  have outorder:∀{h':Heap},Heap.ExtBut s_1.heap.objs.size s_1.heap h' ->wpAny Ω.m A (bindName env y (.ref a)) (λ_ s_2=>wpAny Ω.m A (bindName env x v) (λ_ s'=>zbh Ω c env ρ ad Z s ((ρ.set i (some (.d d1))).set j (some (.m xs'))) .next .next s') zf s_2) zf {s_1 with heap:=h'}:=by
   intro h' hx
   have S_2:Stp Ω Z_1 s_1 Z_1 {s_1 with heap:=h'}:=Stp.grow (n:=s_1.toks) S_1.ok (zbp hx)
   have a_0:=Adv.ofStp (c:=c) (env:=env) (S_1.trans S_2) hR
   refine wpAny_bindName (zdH S_2.ok hj (R1.stp S_2) (λq=>zaA hR ha q) hz (zbp hx _ _ ho) r λs_2 S_3 R3 hown=>wpAny_bindName ?_)
   have a_1:=a_0.cons S_3 R3 λb o=>(hown b o).imp id λe=>by refine za e ?_;exact ha
   refine zaQ hi S_3.ok R3 r1 λs_3 a_3=>⟨rfl,Z_1,zgJ ad j a,?_⟩
   have:=a_1.trans a_3
   rwa [List.set_comm _ _ (Ne.symm hij)] at this
  rcases hcases with hsw|hsw
  ·refine za hsw (wPu ?_)
   show wpAny _ _ (do assign (.Tuple [.Name x px,.Name y py] k p) env (.ref T);pure Flow.next) _ _ _
   rw [arm_assign_Tuple]
   refine wB (wB (wpAny_standAt ?_))
   unfold unpack
   refine wB (wpAny_holding ?_)
   show wpAny _ _ (unpackItems (.ref T) (#[v,.ref a]:Array Value).size none) _ _ _
   refine wpAny_unpackItems_tuple hA.handled ⟨_,hT,rfl,_,rfl⟩ λh' hx=>?_
   show wpAny _ _ (do holding [.ref a] (assign (.Name x px) env v);(do holding [] (assign (.Name y py) env (.ref a));pure ())) _ _ _
   refine wB (wpAny_holding ?_)
   show wpAny _ _ (do standAt px;bindName env x v) _ _ _
   refine wB (wpAny_standAt (wpM (inorder hx) λu s_2 h_2=>?_))
   refine wB (wpAny_holding ?_)
   show wpAny _ _ (do standAt py;bindName env y (.ref a)) _ _ _
   exact wB (wpAny_standAt (wpM h_2 (λu s_3 h_3=>wPu (wPu h_3))))
  ·refine za hsw (wPu ?_)
   show wpAny _ _ (do rule "assign.swapped-stores";let items <-unpackItems (.ref T) (#[v,.ref a]:Array Value).size none;assignInOrder (([x,y]:List Str).reverse.map λn=>bindName env n) items.reverse;pure Flow.next) _ _ _
   refine wB (wpAny_rule (wB (wpAny_unpackItems_tuple hA.handled ⟨_,hT,rfl,_,rfl⟩ λh' hx=>?_)))
   show wpAny _ _ (do (do holding [v] (bindName env y (.ref a));(do holding [] (bindName env x v);pure ()));pure Flow.next) _ _ _
   refine wB (wB (wpAny_holding ?_))
   exact wpM (outorder hx) (λu s_2 h_2=>wB (wpAny_holding (wpM h_2 (λu s_3 h_3=>wPu (wPu h_3)))))
end
theorem zgM (h:Heap) (P:Addr):∃B:Heap,(∀b,b≠P ->B.get? b=h.get? b)/\ B.get? P=none:=by
 refine zM ({h with objs:=h.objs.setIfInBounds P ⟨.none,Option.none,.freed,#[]⟩}) (λb hb=>?_) ?_
 ·rw [zaN,zaN]
  exact za (Array.getElem?_setIfInBounds_ne (Ne.symm hb)) rfl
 ·rw [zaN]
  refine za Array.getElem?_setIfInBounds ?_
  by_cases hP:P<h.objs.size
  ·simp [hP];rfl
  ·simp [hP];rfl
def zvS (base:Heap) (env:Env) (s:Shared):Value ->Shared ->Prop:=λx s'=>
 ∃e t h' tk,x= .ref e/\ s'={s with heap:=h',toks:=tk}/\ Heap.FlyingW base [env] e (.type "ZeroDivisionError") (.ref t) h'/\ h'.TupAt t []/\ base.get? t=none/\ s.heap.UpToSlots h'
def zfk (Ω:En) (fa:Addr):Prop:=∀(A:Around) (n:Nat) (env:Env) (base Z:Heap) (s:Shared) (a:Int) (u v:Tok),Rm A (n+1) ->A.frames=some [env] ->base.StaysIn s.heap ->s.heap.FunFrames base [env] ->Ok Ω Z s ->
 wpAny Ω.m A (call (.ref fa) [.int a u,.int 0 v]) (λ_ _=>False) (zvS base env s) s
theorem zmW {s:Stmt} {q:Str×Str×PySem.Expr×PySem.Expr} (h:znU s=some q):∃p1 p2 p3 p4,s= .Assign [.Name q.1 p1] (.Call (.Name q.2.1 p2) [q.2.2.1,q.2.2.2] [] p3) p4:=by
 induction s using Stmt.casesOn with
 |Assign ts v pos=>
  refine zc h λt ht h=>zc h λx hx h=>zc h λp hp h=>zP h λab hab e=>?_
  refine zO (zaX hx) λp1 e1=>?_
  refine E21 (zdc hp) λp2 p3 e2=>?_
  refine zF e (za (zbk ht) ?_)
  refine za e1 (za e2 ?_)
  exact za (zkX hab) ⟨p1,p2,p3,pos,rfl⟩
 |_=>exact zb h
theorem zmX {s:Stmt} {q:Str×Str×Str} (h:znV s=some q):∃p1 p2 p3 p4 p5,s= .Assign [.Name q.1 p1] (.Call (.Name q.2.1 p2) [.Name q.2.2 p3] [] p4) p5:=by
 induction s using Stmt.casesOn with
 |Assign ts v pos=>
  refine zc h λt ht h=>zc h λx hx h=>zc h λp hp h=>zc h λa ha h=>zP h λy hy e=>?_
  refine zO (zaX hx) λp1 e1=>?_
  refine E21 (zdc hp) λp2 p4 e2=>?_
  refine zO (zaX hy) λp3 e3=>?_
  refine zF e (za (zbk ht) ?_)
  refine za e1 (za e2 ?_)
  refine za (zbk ha) (za e3 ?_)
  exact ⟨p1,p2,p3,p4,pos,rfl⟩
 |_=>exact zb h
theorem zol {x:ExceptHandler} {q:Str×Str×Stmt} (h:zrN x=some q):∃p1 p2,x= .ExceptHandler (some (.Name q.1 p1)) (some q.2.1) [q.2.2] p2:=by
 cases x with
 |ExceptHandler t y b pos=>
  refine zc h λt h1 h=>zc h λt ht h=>zc h λy hy h=>zP h λs hs e=>?_
  refine zO (zaX ht) λp1 e1=>?_
  refine zF e (za h1 ?_)
  refine za hy (za (zbk hs) ?_)
  exact za e1 (I21 p1 pos rfl)
section
variable {Ω:En} {A:Around} {Z Z' Z'':Heap} {s s' s'':Shared} {c:TC} {env:Env} {ρ ρ' ρ'':Rho} {ad ad' ad'':Nat ->Addr} {fl:Fl}
 {Φ:Fs} {S:Sv} {n m:Nat} {E:Value ->Shared ->Prop}
theorem zqi {h h':Heap} (R:Rel c env Z h ρ ad) (keep:∀b o,b≠env.locals ->h.get? b=some o ->h'.get? b=some o)
  (loc:∀m,h.Ns env.locals m ->∃m',h'.Ns env.locals m'/\ ∀x i pv,c.nm.lookup x=some (.local,i) ->ρ[i]?=some (some pv) ->m' x=m x):Rel c env Z h' ρ ad:=
 {R with
  loc:=zm R.loc λm hns hm=>zm (loc m hns) λm' hns' e=>zM m' hns' λx i pv a b=>zm (hm x i pv a b) λv hv r=>zM v ((e x i pv a b).trans hv) r
  cel:=λx k i a b=>zm R.loc λm hns hm=>E24 (R.cel x k i a b) λca ov e hc hz hv=>I24 ca ov e (zm hc λo eo d=>zM o (keep _ _ (ziG hns hc) eo) d) hz hv
  own:=λi xs e=>zm R.loc λm hns hm=>E23 (R.own i xs e) λvs n a b d=>I23 vs n (keep _ _ (zgt hns (R.own i xs e)) a) b d}
theorem ziW {h':Heap} {tk:Nat} (hO:Ok Ω Z s) (R:Rel c env Z s.heap ρ ad) (keep:∀b o,b≠env.locals ->s.heap.get? b=some o ->h'.get? b=some o)
  (loc:∀m,s.heap.Ns env.locals m ->∃m',h'.Ns env.locals m'/\ ∀x i pv,c.nm.lookup x=some (.local,i) ->ρ[i]?=some (some pv) ->m' x=m x):Adv Ω c env ρ ad Z s ρ ad Z {s with heap:=h',toks:=tk}:=
 ⟨(StX.at (W:=(· =env.locals)) (GI:=λ_=>False) hO (λb hb=>by refine za hb ?_;exact zeA hO R (.inl rfl)) (λb hb=>by refine za hb ?_;exact R.apL) λb o hb e=>keep b o hb e).mono (λx e=> .inl (.inl e)) (λ_ h=>h.elim),zqi R keep loc,λb o=> .inl o⟩
theorem zgN {x:Str} {p pos:Pos} {v:PySem.Expr} {Q:Flow ->Shared ->Prop} (hsw:swapsWith v (some (.Name x p)) pos.line env=pure false)
  (h:wpAny Ω.m A (eval v env) (λu s_1=>wpAny Ω.m A (storeName env x u) (λw s_2=>Q .next s_2) E s_1) E s):
  wpAny Ω.m A (exec (.Assign [.Name x p] v pos) env) Q E s:=by
 rw [zgG]
 refine za hsw (wB (wpAny_standAt ?_))
 show wpAny _ _ (eval v env>>=λv=>standAt p>>=λw=>bindName env x v>>=λw=>pure Flow.next) _ _ _
 exact wB (wpAny_mono h (λu s_1 h_1=>wB (wpAny_standAt (wB (wpAny_bindName (wpAny_mono h_1 (λw s_2 h_2=>wPu h_2) λw y x=>x))))) λw y x=>x)
structure zrT (c:TC) (x f y:Str) (ea eb:PySem.Expr) (i j:Nat) (pa pb:PE) (k:Nat):Prop where
 top:c.top=true
 gz:zk c "ZeroDivisionError" =true
 gs:zk c "str" =true
 gf:zk c f=true
 fe:f="int_divmod"
 hi:zK c x=some i
 hy:c.nm.lookup y=some (.local,j)
 ij:i≠j
 yd:(y==("__debug__" :Str))=false
 ha:tr 60 c ea=some pa
 hb:tr 60 c eb=some pb
 hk:c.fns.lookup f=some k
theorem zmY {b:List Stmt} {hs:List ExceptHandler} {r:List Nat×PS} (h:znW c b hs=some r):∃x f y ea eb i j pa pb k p1 p2 p3 p4 p5 p6 p7 p8 p9 p10 p11,r.2= .tryDiv i j pa pb k/\ zrT c x f y ea eb i j pa pb k/\
  b=[.Assign [.Name x p1] (.Call (.Name f p2) [ea,eb] [] p3) p4]/\ hs=[.ExceptHandler (some (.Name "ZeroDivisionError" p5)) (some y) [.Assign [.Name x p6] (.Call (.Name "str" p7) [.Name y p8] [] p9) p10] p11]:=by
 refine zc h λs0 hs0 h=>zc h λq hq h=>zc h λh0 hh0 h=>zc h λu hu h=>zc h λw hw h=>ifE h λhc h=>zc h λi hi h=>zc h λj hj h=>ifN h λhm h=>zc h λpa ha h=>zc h λpb hb h=>zP h λk hk e=>?_
 refine E41 (zmW hq) λp1 p2 p3 p4 e1=>?_
 refine E21 (zol hu) λp5 p11 e2=>?_
 refine E51 (zmX hw) λp6 p7 p8 p9 p10 e3=>?_
 simp only [Bool.and_eq_true] at hc
 refine zR hc λq1 c8=>?_
 clear hc
 refine zR q1 λq2 c7=>?_
 clear q1
 refine zR q2 λq3 c6=>?_
 clear q2
 refine zR q3 λq4 c5=>?_
 clear q3
 refine zR q4 λq5 c4=>?_
 clear q4
 refine zR q5 λq6 c3=>?_
 clear q5
 refine zR q6 λq7 c2=>?_
 clear q6
 refine zR q7 λc0 c1=>?_
 clear q7
 simp only [Bool.or_eq_true,Bool.not_eq_true',not_or,Bool.not_eq_false,Bool.not_eq_true] at hm
 refine zR hm λq8 m3=>?_
 clear hm
 refine zR q8 λ_ m2=>?_
 clear q8
 refine ⟨q.1,q.2.1,u.2.1,q.2.2.1,q.2.2.2,i,j,pa,pb,k,p1,p2,p3,p4,p5,p6,p7,p8,p9,p10,p11,by exact zF e rfl,⟨c0,c6,c7,by refine za (eq_of_beq c5) ?_;exact c8,eq_of_beq c5,hi,eq_of_beq m2,λx=>by rw [x] at m3;simp at m3,zbv hj,ha,hb,hk⟩,by refine za (zbk hs0) ?_;exact za e1 rfl,?_⟩
 refine za (zbk hh0) (za e2 ?_)
 refine za e3 (za (eq_of_beq c1) ?_)
 refine za (eq_of_beq c2) (za (eq_of_beq c3) ?_)
 exact za (eq_of_beq c4) rfl
theorem zsN {h:Heap} {a:Addr} {m m':Str ->Option Value} (x:h.Ns a m) (y:h.Ns a m') (z:Str):m z=m' z:=by
 refine E34 x λo es ep e d _ k=>?_
 clear x
 refine E34 y λo' es' ep' e' d' _ k'=>?_
 clear y
 cases e.symm.trans e'
 cases d.symm.trans d'
 exact (k z).symm.trans (k' z)
theorem zl0 {y:Str} {j:Nat} (hy:c.nm.lookup y=some (.local,j)) (hj:ρ[j]?=some none) {h h':Heap} {a:Addr} {m:Str ->Option Value} {v:Option Value} (hm:h.Ns a m) (hn:h'.Ns a (λx=>if x=y then v else m x)):
  ∀m',h.Ns a m' ->∃m2,h'.Ns a m2/\ ∀x i pv,c.nm.lookup x=some (.local,i) ->ρ[i]?=some (some pv) ->m2 x=m' x:=λm' hm'=>zM _ hn λx i pv hx hp=>by
 by_cases e:x=y
 ·subst e;cases hy.symm.trans hx;exact nomatch hj.symm.trans hp
 ·exact (if_neg e).trans (zsN hm hm' x)
theorem zla {x f y:Str} {ea eb:PySem.Expr} {i j k:Nat} {pa pb:PE} (X:zrT c x f y ea eb i j pa pb k) (G:Gl Ω.B Φ) (hu:A.units<=8000) (hk:env.scope.kind= .function) (hj:ρ[j]?=some none) {p6 p7 p8 p9 p10 p11:Pos} {e t:Addr} {h1:Heap} {base:Heap} {s_1:Shared}
  (hO:Ok Ω Z s_1) (R:Rel c env Z s_1.heap ρ ad) (hb:∀b o,b≠env.locals ->s_1.heap.get? b=some o ->base.get? b=some o)
  (hfl:Heap.FlyingW base [env] e (.type "ZeroDivisionError") (.ref t) h1) (htup:h1.TupAt t []) (hsm:s_1.heap.UpToSlots h1) {p5:Pos} {tk:Nat}:
  wpAny Ω.m A (handleBy (.ref e) env [.ExceptHandler (some (.Name "ZeroDivisionError" p5)) (some y) [.Assign [.Name x p6] (.Call (.Name "str" p7) [.Name y p8] [] p9) p10] p11])
   (zbh Ω c env ρ ad Z s_1 (ρ.set i (some (.d (.str Str.empty)))) .next) zf {s_1 with heap:=h1,toks:=tk}:=by
 have fly:∀{h2:Heap} {tk:Nat},Heap.FlyingW base [env] e (.type "ZeroDivisionError") (.ref t) h2 ->s_1.heap.UpToSlots h2 ->Adv Ω c env ρ ad Z s_1 ρ ad Z {s_1 with heap:=h2,toks:=tk}:=λhf hs=>
  ziW hO R (λb o n e=>hf.1 b o (hb b o n e)) λm hm=>⟨m,hs.ns hm,λ_ _ _ _ _=>rfl⟩
 have a1:=fly (tk:=tk) hfl hsm
 refine zm hfl.there λob hob hobc=>?_
 have hnl:env.kindOf y=some .local:=by rw [R.names];refine za X.hy ?_;rfl
 refine wpAny_handleBy_builtin_as (X:="ZeroDivisionError") (T:="ZeroDivisionError") (b:=true) (by rw [isSubtype_type];kernel_rfl) (by rw [isSubtype_type];kernel_rfl) (by rw [isSubtype_type];kernel_rfl)
  (wpAny_Name (zdD G a1.stx.ok a1.rel X.gz (v:= .type "ZeroDivisionError") (by decide+kernel) ⟨rfl,⟨ob,hob,hobc⟩,?_⟩) (by decide+kernel))
 refine za (if_pos rfl) (lands_againW hfl λh2 hf2 hs2=>?_)
 have hs12:=hsm.trans hs2
 have a2:=fly (tk:=tk) hf2 hs12
 have htup2:=htup.of_slots hs2
 refine E24 hf2.first λoe ws hoe hoec hoed hoe0=>?_
 refine cps λG0 hG_0=>?_
 refine zm a2.rel.loc λm hns hm=>?_
 refine hG_0 ?_
 refine wpAny_storeName_local hnl hns (λh3 hns3 hs3=>?_) (by refine za hk ?_;rfl)
 have a3:∀tk,Adv Ω c env ρ ad Z s_1 ρ ad Z {s_1 with heap:=h3,toks:=tk}:=λtk=>(fly (tk:=tk) hf2 hs12).trans (ziW (fly (tk:=tk) hf2 hs12).stx.ok (fly (tk:=tk) hf2 hs12).rel (λb o n e=>(hs3.2 b n).trans e) (zl0 X.hy hj hns hns3))
 have neL:∀{b:Addr} {o:Obj},h2.get? b=some o ->(∀es ep,o.data≠ .dict es ep) ->b≠env.locals:=λe hd x=>by
  refine E33 hns λo' es ep e' d _=>?_
  clear hns
  subst x
  cases e.symm.trans e'
  exact hd _ _ d
 refine E23 htup2 λot nt hot hotc hotd=>?_
 clear htup2
 have hoe3:=(hs3.2 e (neL hoe λes ep q=>nomatch hoed.symm.trans q)).trans hoe
 have hot3:=(hs3.2 t (neL hot λes ep q=>nomatch hotd.symm.trans q)).trans hot
 refine wpAny_execs_cons (zgN rfl (wpAny_Call_NameR (wpAny_Name (zdD G (a3 _).stx.ok (a3 _).rel X.gs (v:= .type "str") (by decide+kernel) (PySem.callWith_type rfl (Calls.evalArgs_plain
  (Calls.spliced_cons (wpAny_Name (wpAny_loadName_local hk hnl hns3 (if_pos rfl) (Calls.spliced_nil ?_)) X.yd))))) (by decide+kernel))))
 refine P.str_of_exc_none F.excStr_ZeroDivisionError ?_ ⟨oe,ws,hoe3,hoec,hoed,hoe0⟩ ⟨ot,nt,hot3,hotc,hotd⟩ ?_
 ·exact Nat.lt_of_le_of_lt (Nat.add_le_add_right (show (A.mark (some (.ref e))).units<=8000 from hu) 2) (by show 8002<9900;decide)
 refine zaQ X.hi (a3 _).stx.ok (a3 _).rel (zU.mpr ⟨_,rfl⟩) λs5 a5=>wpAny_execs_nil ?_
 have a6:=(a3 _).trans a5
 refine zm a5.rel.loc λm5 hns5 _=>?_
 have hj5:(ρ.set i (some (.d (.str Str.empty))))[j]?=some none:=by refine za (List.getElem?_set_ne X.ij) ?_;exact hj
 refine wpAny_nameGoes_keeps hnl hns5 (by refine za hk ?_;rfl) λh' v hns' hs'=>?_
 exact ⟨rfl,Z,ad,a6.trans (ziW a6.stx.ok a6.rel (λb o n e=>(hs'.2 b n).trans e) (zl0 X.hy hj5 hns5 hns'))⟩
theorem zlb {j:Nat} (h:zf0 ρ j=true):ρ[j]?=some none:=by
 unfold zf0 at h
 split at h
 ·assumption
 ·exact Bool.noConfusion h
theorem zqj {f:Str} {p q:Pos} {args:List PySem.Expr} {pes:List PE} {k:Nat} (hd:(f==("__debug__" :Str))=false) (hg:zk c f=true) (hk:c.fns.lookup f=some k) (hp:zN (tr m c) args=some pes) (hl:args.length<=30):
  tr (m+1) c (.Call (.Name f p) args [] q)=some (.call k pes):=by
 show ziC (tr m) c f args=_
 unfold ziC
 refine za hd (za hg ?_)
 refine za hk (za hp ?_)
 exact if_pos hl
theorem zsO (H:zaf Ω Φ S n) (HZ:∀k,Φ.fns.lookup ("int_divmod" :Str)=some k ->zfk Ω (Φ.fa k)) (hA1:Rm A (n+1)) (hG:GlC c Φ) (hT:zgI c A env) {b:List Stmt} {hs:List ExceptHandler} {pos:Pos} {r:List Nat×PS}
  (h:znW c b hs=some r) (hd:zg S ρ r.2=some (ρ',fl)) (hO:Ok Ω Z s) (hR:Rel c env Z s.heap ρ ad):wpAny Ω.m A (exec (.Try b hs [] [] pos) env) (zbh Ω c env ρ ad Z s ρ' fl) zf s:=by
 obtain ⟨x,f,y,ea,eb,i,j,pa,pb,k,p1,p2,p3,p4,p5,p6,p7,p8,p9,p10,p11,hr,X,hb,hh⟩:=zmY h
 subst hb;subst hh
 rw [hr] at hd
 refine zR (hT X.top) λhfr hframe=>?_
 have hA:=hA1.le (Nat.le_succ n)
 have hfd:(f==("__debug__" :Str))=false:=by refine za X.fe ?_;decide+kernel
 have hk':Φ.fns.lookup f=some k:=by refine zF hG.hf ?_;exact X.hk
 refine wpAny_Try_except ?_
 refine zc hd λdx hx hd=>zc hd λxi hxi hd=>zc hd λdy hy hd=>zc hd λyi hyi hd=>?_
 by_cases h0:yi=0
 ·rw [if_pos h0] at hd
  refine ifE hd λhe e=>?_
  refine zay e ?_
  subst h0
  refine wpAny_execs_cons (zgN rfl (wpAny_Call_NameR (wpAny_Name (ziD (v:= .none) H.gl hO hR X.gf λmg _ hf _=>zM (.ref (Φ.fa k)) (hf _ k hk') ?_) hfd)))
  refine E22 (H.gl.fn _ k hk') λo fd ho hof=>?_
  refine Calls.callWith_function (wpAny_mono (E:=zf) (z7 (H.ex 60) hA hG (zcA X.ha X.hb) (zdE hx hy) hO hR λvs s_1 Z_1 S_1 r_1=>⟨⟨S_1.ok.sub _ _ (S_1.ok.base _ _ ho),hof⟩,?_⟩) (λ_ _ q=>q) λ_ _ q=>q.elim)
  refine E23 (zec r_1) λv1 v2 e9 r1 r2=>?_;refine za e9 ?_
  refine zO (zaR hxi r1) λt1 e9=>?_;refine za e9 ?_
  refine zO (zaR hyi r2) λt2 e9=>?_;refine za e9 ?_
  have R1:=hR.stp S_1
  refine zm (zgM s_1.heap env.locals) λB0 hb1 hb2=>?_
  have stays:B0.StaysIn s_1.heap:=λb o e=>by
   by_cases hbL:b=env.locals
   ·subst hbL;exact zb (hb2.symm.trans e)
   ·rw [hb1 b hbL] at e;exact e
  refine zm R1.loc λm hns _=>?_
  have frames:s_1.heap.FunFrames B0 [env]:=Heap.FunFrames.cons (by refine za R1.kind ?_;decide) hframe hns hb2 trivial
  refine wpAny_mono (HZ k (by refine zF X.fe ?_;exact hk') A n env B0 Z_1 s_1 xi t1 t2 hA1 hfr stays frames S_1.ok) (λ_ _ q=>q.elim) λw s' p=>?_
  refine E46 p λe t h' tk q9 q10 hfl htup hnew hsm=>?_
  clear p
  obtain rfl:=q9
  obtain rfl:=q10
  refine wpAny_looks_onW hfr hframe hfl λh4 hheld4 hsm4=>wpAny_landsW hheld4 λh5 hfl5 hsm5=>?_
  have hsm45:=hsm4.trans hsm5
  exact wpM (zla X H.gl hA.u R1.kind (zlb he) S_1.ok R1 (λb o n e=>(hb1 b n).trans e) hfl5 (htup.of_slots hsm45) (hsm.trans hsm45)) λf s2 p=>za7 (Adv.ofStp S_1 hR) p
 ·rw [if_neg h0] at hd
  refine zP hd λd hd' e=>?_
  cases e
  refine wpAny_execs_cons (wpAny_mono (E:=zf) (zfh (Q:=λf s2=>f= .next/\ ∃Z2,Adv Ω c env ρ ad Z s (ρ.set i (some (.d d))) ad Z2 s2) rfl (Pst.then (H.ex 61 c _ (.call k [pa,pb]) ρ d (zqj hfd X.gf X.hk (zcA X.ha X.hb) (Nat.le_add_left 2 28)) hd' A env Z s ad hA hG hO hR) λu s_1 Z_1 S_1 r=>zaQ X.hi S_1.ok (hR.stp S_1) r λs_2 a_2=>?_)) (λg s2 q=>?_) λ_ _ q=>q.elim)
  ·exact ⟨rfl,Z_1,(Adv.ofStp S_1 hR).trans a_2⟩
  ·obtain ⟨rfl,Z2,a⟩:=q
   exact wpAny_execs_nil (wpAny_execs_nil ⟨rfl,Z2,ad,a⟩)
end
section
variable {Ω:En} {A:Around} {Z Z' Z'':Heap} {s s' s'':Shared} {c:TC} {env:Env} {ρ ρ' ρ'':Rho} {ad ad' ad'':Nat ->Addr} {fl:Fl}
 {Φ:Fs} {S:Sv} {n m:Nat}
def StW (Ω:En) (A:Around) (c:TC) (env:Env) (ρ:Rho) (ad:Nat ->Addr) (Z:Heap) (s:Shared) (ρ':Rho) (fl:Fl) (st:Stmt):Prop:=wpAny Ω.m A (exec st env) (zbh Ω c env ρ ad Z s ρ' fl) zf s
theorem zqk (H:zaf Ω Φ S n) (hA:Rm A n) (hG:GlC c Φ) (hlo:c.lo=0) {x:Str} {v:PySem.Expr} {p pos:Pos} {r:List Nat×PS} (h:znS c x v=some r)
  (hd:zg S ρ r.2=some (ρ',fl)) (hO:Ok Ω Z s) (hR:Rel c env Z s.heap ρ ad):StW Ω A c env ρ ad Z s ρ' fl (.Assign [.Name x p] v pos):=
 zc h λi hi h=>zc h λe he h=>zjF h
  (λu h=>ifE h λhf e=>by cases e;exact zqg H hA hG hlo hi he hf hd hO hR)
  λe=>by cases e;exact zsI H hA hG hlo hi he hd hO hR
theorem zql {v:PySem.Expr} {vs:List PySem.Expr} (h:zjJ v=some vs):∃k p,v= .Tuple vs k p:=by
 cases v<;>first|exact zb h|skip
 refine eqE h ?_;exact I21 _ _ rfl
theorem zmZ {v:PySem.Expr} (h:zjJ v=none):ziP v=false:=by
 cases v<;>first|rfl|cases h
theorem zfH {α β:Type} {f:α ->Option β} {l:List α} {a b:β} (h:zN f l=some [a,b]):∃x y,l=[x,y]/\ f x=some a/\ f y=some b:=by
 induction l using List.casesOn with
 |nil=>exact nomatch (Option.some.inj h)
 |cons x r=>
  refine zc h λa' ha h=>zP h λr' hr e=>?_
  cases e
  induction r using List.casesOn with
  |nil=>exact nomatch (Option.some.inj hr)
  |cons y r=>
   refine zc hr λb' hb hr=>zP hr λr'' hr e=>?_
   cases e
   induction r using List.casesOn with
   |nil=>exact I23 x y rfl ha hb
   |cons _ _=>exact zc hr λ_ _ hr=>zP hr λ_ _ e=>nomatch e
theorem zqm (H:zaf Ω Φ S n) (hA:Rm A n) (hG:GlC c Φ) (hlo:c.lo=0) {ts vs:List PySem.Expr} {k k':Nat} {p p' pos:Pos} {ns:List (Nat×Bool)} {es:List PE} {ps:PS}
  (hn:zew c ts=some ns) (hv:zN (tr 60 c) vs=some es) (hsn:zbn ns=true) (hc:zaS vs=false) (hp:znR ns es=some ps)
  (hd:zg S ρ ps=some (ρ',fl)) (hO:Ok Ω Z s) (hR:Rel c env Z s.heap ρ ad):StW Ω A c env ρ ad Z s ρ' fl (.Assign [.Tuple ts k p] (.Tuple vs k' p') pos):=by
 refine zc hp λq hq hp=>zc hp λq2 hq2 hp=>ifE hp λhf e=>zaH hf λhf hfr=>zaH hf λhf1 hf2=>?_
 cases e
 rw [zkX hq2] at hv
 rw [zkX hq] at hn hsn
 refine E23 (zfH hv) λv1 v2 e9 h1 h2=>?_
 subst e9
 refine E13 (zcO hn) λl hts hm _=>?_
 refine E23 (zfH (f:=zK c) (a:=q.1.1) (b:=q.2.1) hm) λx y e8 hx hy=>?_
 have hij:q.1.1≠q.2.1:=λe=>by
  have:=(Bool.and_eq_true_iff.mp hsn).1
  rw [e] at this
  simp at this
 induction l using List.casesOn with
 |nil=>exact nomatch e8
 |cons a l=>
  induction l using List.casesOn with
  |nil=>exact nomatch e8
  |cons b l=>
   induction l using List.casesOn with
   |nil=>
    cases e8
    subst hts
    exact ziV H hA hG hlo hx hy hij h1 h2 hfr hc hd hO hR
   |cons _ _=>exact nomatch e8
theorem zm0 (H:zaf Ω Φ S n) (hA:Rm A n) (hG:GlC c Φ) (hlo:c.lo=0) {t v:PySem.Expr} {pos:Pos} {r:List Nat×PS} (h:zrL c v t=some r)
  (hd:zg S ρ r.2=some (ρ',fl)) (hO:Ok Ω Z s) (hR:Rel c env Z s.heap ρ ad):StW Ω A c env ρ ad Z s ρ' fl (.Assign [t] v pos):=by
 induction t using PySem.Expr.casesOn with
 |Name x p=>exact zqk H hA hG hlo h hd hO hR
 |Tuple ts k p=>
  have h:(match zjJ v with
   |some vs=>znT c ts vs
   |none=>(trT c 9 (.Tuple ts k p)).bind λt=>(tr 60 c v).map λe=>(zdd c e,PS.asg t e))=some r:=h
  induction hv:zjJ v with
  |some vs=>
   rw [hv] at h
   refine E21 (zql hv) λk' p' e9=>?_;refine za e9 ?_
   refine zc h λns hn h=>zc h λes he h=>ifE h λhc h=>zaH hc λhc hlen=>zaH hc λhsn hca=>?_
   have hca:zaS vs=false:=by rw [Bool.not_eq_true'] at hca;exact hca
   refine zjF h (λhf e=>?_) λh=>?_
   ·cases e
    exact ziU H hA hG hn he hf hsn hca (of_decide_eq_true hlen) hd hO hR
   ·refine zP h λps hp e=>?_
    subst e
    exact zqm H hA hG hlo hn he hsn hca hp hd hO hR
  |none=>
   have h:=hv▸h
   refine zc h λt ht h=>zP h λe he e'=>?_
   induction e'
   exact zqh H hA hG (zmZ hv) ht he hd hO hR
 |_=>exact zb h
theorem zqn (H:zaf Ω Φ S n) (hA:Rm A n) (hG:GlC c Φ) (hlo:c.lo=0) {x m:Str} {args:List PySem.Expr} {p apos pos pos':Pos} (hl:(apos.endLine==pos.line)=true) {r:List Nat×PS} (h:zuq c x m args=some r)
  (hd:zg S ρ r.2=some (ρ',fl)) (hO:Ok Ω Z s) (hR:Rel c env Z s.heap ρ ad):StW Ω A c env ρ ad Z s ρ' fl (.Expr (.Call (.Attribute (.Name x p) m apos) args [] pos) pos'):=by
 refine zc h λi hi h=>ifN h λu h=>?_
 induction args using List.casesOn with
 |nil=>exact ifE h λhm e=>by cases eq_of_beq hm;cases e;exact zsL hA hlo hl (zbv hi) hi hd hO hR
 |cons a r=>
  induction r using List.casesOn with
  |nil=>exact zc h λe he h=>zjF h (λhm e=>by cases eq_of_beq hm;cases e;exact zsJ H hA hG hlo hl (zbv hi) hi he hd hO hR) λh=>ifE h λhm e=>by cases eq_of_beq hm;cases e;exact zsK H hA hG hlo hl (zbv hi) hi he hd hO hR
  |cons _ _=>exact zb h
set_option tactic.hygienic true in
theorem zqo (H:zaf Ω Φ S n) (hA:Rm A n) (hG:GlC c Φ) (hlo:c.lo=0) {e:PySem.Expr} {pos':Pos} {r:List Nat×PS} (h:zlN c e=some r)
  (hd:zg S ρ r.2=some (ρ',fl)) (hO:Ok Ω Z s) (hR:Rel c env Z s.heap ρ ad):StW Ω A c env ρ ad Z s ρ' fl (.Expr e pos'):=by
 cases e<;>first|exact zb h|skip
 rename_i f args kws pos
 cases f<;>first|exact zb h|skip
 refine zc h λx hx h=>ifE h λhc h2=>zaH hc λhk hl=>?_
 refine zO (zaX hx) λp e9=>?_;refine za e9 ?_
 cases List.isEmpty_iff.mp hk
 exact zqn H hA hG hlo hl h2 hd hO hR
theorem zm1 (H:zaf Ω Φ S n) (hA:Rm A n) (hG:GlC c Φ) (hlo:c.lo=0) {e:PySem.Expr} {pos':Pos} {r:List Nat×PS} (h:zrM c e=some r)
  (hd:zg S ρ r.2=some (ρ',fl)) (hO:Ok Ω Z s) (hR:Rel c env Z s.heap ρ ad):StW Ω A c env ρ ad Z s ρ' fl (.Delete [e] pos'):=by
 cases e<;>first|exact zb h|skip
 refine zc h λx hx h=>zc h λi hi h=>ifN h λu h=>zP h λe he e'=>?_
 refine zO (zaX hx) λp e9=>?_;refine za e9 ?_
 induction e'
 exact zsM H hA hG hlo (zbv hi) hi he hd hO hR
theorem zsP (H:zaf Ω Φ S n) (HZ:∀k,Φ.fns.lookup ("int_divmod" :Str)=some k ->zfk Ω (Φ.fa k)) (HB:zd0 Ω Φ S n) (hA1:Rm A (n+1)) (hG:GlC c Φ) (hT:zgI c A env) (hlo:c.lo=0) {k:Nat} {st:Stmt} {r:List Nat×PS}
  (h:trS k c st=some r) (hd:zg S ρ r.2=some (ρ',fl)) (hO:Ok Ω Z s) (hR:Rel c env Z s.heap ρ ad):StW Ω A c env ρ ad Z s ρ' fl st:=by
 have hA:=hA1.le (Nat.le_succ n)
 induction k using Nat.casesOn with
 |zero=>exact zb h
 |succ k=>
  cases st with
  |Assign ts v pos=>exact zc h λt ht h=>by refine za (zbk ht) ?_;exact zm0 H hA hG hlo h hd hO hR
  |AugAssign t op v pos=>
   refine zc h λx hx h=>zc h λi hi h=>zc h λe he h=>ifN h λu e'=>?_
   refine zO (zaX hx) λp e9=>?_;refine za e9 ?_
   cases e'
   exact zsG H hA hG hi he hd hO hR
  |If t a b pos=>exact zc h λt ht h=>zc h λa ha h=>zP h λb hb e=>by induction e;exact zuC H HB hA hG hT hlo ht ha hb hd hO hR
  |While t a b pos=>exact ifE h λhb h=>zc h λt ht h=>zP h λa ha e=>by induction e;cases List.isEmpty_iff.mp hb;exact zok H HB hA hG hT hlo ht ha hd hO hR
  |For t it a b pos=>exact zc h λt ht h=>zc h λit hit h=>zc h λa ha h=>zc h λb hb h=>ifE h λhp e=>by cases e;exact zsH H HB hA hG hT hlo ht hit ha hb hp hd hO hR
  |Return e pos=>exact zc h λe h1 h=>zP h λpe he e'=>by induction e';refine za h1 ?_;exact zsE H hA hG he hd hO hR
  |Assert t m pos=>
   refine ifE h λhm h=>zP h λpe he e'=>?_
   induction e'
   exact za (Option.isNone_iff_eq_none.mp hm) (zmV H hA hG he hd hO hR)
  |Break pos=>cases h;refine zay hd ?_;exact wpAny_Break ⟨rfl,Z,ad,Adv.refl hO hR⟩
  |Raise a b pos=>cases h;exact zb hd
  |Expr e pos=>exact zqo H hA hG hlo h hd hO hR
  |Delete es pos=>exact zc h λe he h=>by refine za (zbk he) ?_;exact zm1 H hA hG hlo h hd hO hR
  |Try b hs o f pos=>
   refine ifE h λhc h=>zaH hc λho hf=>?_
   cases List.isEmpty_iff.mp ho;cases List.isEmpty_iff.mp hf
   exact zsO H HZ hA1 hG hT h hd hO hR
  |_=>exact zb h
theorem zuD (H:zaf Ω Φ S n) (HZ:∀k,Φ.fns.lookup ("int_divmod" :Str)=some k ->zfk Ω (Φ.fa k)) (HB:zd0 Ω Φ S n) (hA1:Rm A (n+1)) (hG:GlC c Φ) (hT:zgI c A env) (hlo:c.lo=0) {k:Nat} {st:Stmt} {fz:List Nat} {ps:PS}
  (h:trS k c st=some (fz,ps)) (hd:zg S ρ ps=some (ρ',fl)) (hO:Ok Ω Z s) (hR:Rel c env Z s.heap ρ ad):
  wpAny Ω.m A (exec st env) (zbh Ω c env ρ ad Z s ρ' fl) zf s:=zsP H HZ HB hA1 hG hT hlo h hd hO hR
theorem zom (H:zaf Ω Φ S n) (HZ:∀k,Φ.fns.lookup ("int_divmod" :Str)=some k ->zfk Ω (Φ.fa k)) (HB:zd0 Ω Φ S n) (tbl:Nat ->Option Fn):zd0 Ω Φ (step tbl S) (n+1):=by
 intro k c body
 induction body with
 |nil=>
  intro pb ρ ρ' fl hb hd hlo A env Z s ad hA' hG hT hO hR
  cases hb
  refine zay hd ?_
  exact wpAny_execs_nil ⟨rfl,Z,ad,Adv.refl hO hR⟩
 |cons st body ih=>
  intro pb ρ ρ' fl hb hd hlo A env Z s ad hA' hG hT hO hR
  refine zP hb λl hl e=>zc hl λq hst hl=>zP hl λl' hl' e2=>?_
  subst e2;subst e
  have hd:zE S ((q.1.map .frz++[q.2])++l'.flatMap λp=>p.1.map .frz++[p.2]) ρ=some (ρ',fl):=hd
  rw [List.append_assoc] at hd
  refine E22 (zgF hlo S q.1 hd hO hR) λρ1 Z1 a1 hd=>?_
  refine zc hd λq hs hd=>?_
  obtain ⟨ρ2,f2⟩:=q
  have hrest:trB k c body=some (l'.flatMap λp=>p.1.map .frz++[p.2]):=by unfold trB;refine za hl' ?_;rfl
  refine wpAny_execs_cons (wpM (zuD H HZ HB hA' hG hT hlo hst hs a1.stx.ok a1.rel) (λf s_2 p=>?_))
  induction f2 with
  |next=>
   obtain ⟨rfl,Z2,ad2,a2⟩:=p
   have a12:=a1.trans a2
   exact wpM (ih _ ρ2 ρ' fl hrest hd hlo A env Z2 s_2 ad2 hA' hG hT a12.stx.ok a12.rel) (λf s_3 p=>za7 a12 p)
  |brk=>
   refine zay hd ?_
   obtain ⟨rfl,Z2,ad2,a2⟩:=p
   exact ⟨rfl,Z2,ad2,a1.trans a2⟩
  |ret d=>
   refine zay hd ?_
   refine E23 p λZ2 v e9 S2 r=>?_
   clear p;refine za e9 ?_
   exact za7 (f:= .ret v) a1 (I23 Z2 v rfl S2 r)
end
theorem zh7 {kindOf:Str ->Option NameKind}:∀{r:List (Str×Value)} {m:Str ->Option Value} {x:Str},x∉r.map (·.1) ->bindL kindOf r m x=m x
 | [],m,x,_=>rfl
 | (n,v)::r,m,x,h=>by
  simp only [List.map_cons,List.mem_cons,not_or] at h
  refine za (zh7 h.2) ?_
  split
  ·exact if_neg h.1
  ·rfl
theorem zh8 {kindOf:Str ->Option NameKind}:∀{r:List (Str×Value)} {m:Str ->Option Value} {x:Str},x∉r.map (·.1) ->bindC kindOf r m x=m x
 | [],m,x,_=>rfl
 | (n,v)::r,m,x,h=>by
  simp only [List.map_cons,List.mem_cons,not_or] at h
  refine za (zh8 h.2) ?_
  split
  ·rfl
  ·exact if_neg h.1
theorem zl1 {ps:List Str} {vals:List Value} {x:Str} (h:x∈(ps.zip vals).map (·.1)):x∈ps:=by
 refine zm (List.mem_map.mp h) λp hp e9=>?_;obtain rfl:=e9.symm
 exact (List.of_mem_zip hp).1
theorem zgO {kindOf:Str ->Option NameKind}:∀{ps:List Str} {vals:List Value} {m:Str ->Option Value} {j:Nat} {x:Str} {v:Value},zaJ ps=true ->ps[j]?=some x ->vals[j]?=some v ->kindOf x=some .local ->
  bindL kindOf (ps.zip vals) m x=some v
 | [],vals,m,j,x,v,_,h,_,_=>by exact zb h
 |_::_,[],m,j,x,v,_,_,h,_=>by exact zb h
 |p::ps,u::vals,m,0,x,v,hn,h,h',hk=>by
  simp at h h';subst h;subst h'
  simp only [zaJ,Bool.and_eq_true,Bool.not_eq_true',List.contains_eq_mem,decide_eq_false_iff_not] at hn
  simp
  refine za (zh7 (λq=>hn.1 (zl1 q))) ?_;refine za (if_pos hk) ?_;simp
 |p::ps,u::vals,m,j+1,x,v,hn,h,h',hk=>by
  simp only [zaJ,Bool.and_eq_true] at hn
  unfold bindL
  exact zgO hn.2 (by simpa using h) (by simpa using h') hk
theorem zgP {kindOf:Str ->Option NameKind}:∀{ps:List Str} {vals:List Value} {m:Str ->Option Value} {j:Nat} {x:Str} {v:Value},zaJ ps=true ->ps[j]?=some x ->vals[j]?=some v ->kindOf x≠some .local ->
  bindC kindOf (ps.zip vals) m x=some v
 | [],vals,m,j,x,v,_,h,_,_=>by exact zb h
 |_::_,[],m,j,x,v,_,_,h,_=>by exact zb h
 |p::ps,u::vals,m,0,x,v,hn,h,h',hk=>by
  simp at h h';subst h;subst h'
  simp only [zaJ,Bool.and_eq_true,Bool.not_eq_true',List.contains_eq_mem,decide_eq_false_iff_not] at hn
  simp
  refine za (zh8 (λq=>hn.1 (zl1 q))) ?_;refine za (if_neg hk) ?_;simp
 |p::ps,u::vals,m,j+1,x,v,hn,h,h',hk=>by
  simp only [zaJ,Bool.and_eq_true] at hn
  unfold bindC
  exact zgP hn.2 (by simpa using h) (by simpa using h') hk
theorem zbx:∀{l:List (Str×NameKind)} {k0:Nat} {x:Str} {k:NameKind} {i:Nat},(zdB l k0).lookup x=some (k,i) ->k0<=i/\ l[i-k0]?=some (x,k)
 | [],k0,x,k,i,h=>by exact zb h
 | (y,j)::l,k0,x,k,i,h=>by
  have h:((y,j,k0)::zdB l (k0+1)).lookup x=some (k,i):=h
  rw [List.lookup_cons] at h
  split at h
  ·rename_i e
   have:x=y:=by simpa using e
   refine za this (zay h ?_)
   exact ⟨Nat.le_refl _,by simp⟩
  ·refine zR (zbx h) λh1 h2=>?_
   refine ⟨Nat.le_of_succ_le h1,?_⟩
   exact za (show i-k0=(i-(k0+1))+1 from (Nat.succ_pred_eq_of_pos (Nat.sub_pos_of_lt h1)).symm) h2
theorem zbK:∀{l:List (Str×NameKind)} {k0:Nat} {x:Str},l.lookup x=((zdB l k0).lookup x).map (·.1)
 | [],k0,x=>rfl
 | (y,j)::l,k0,x=>by
  refine za List.lookup_cons (za List.lookup_cons ?_)
  cases x==y
  ·exact zbK
  ·rfl
structure zqp (B:Heap) (Φ:Fs) (a:Addr) (np:Nat) (pb:List PS):Prop where
 ex:∃o fd src kk ps,B.get? a=some o/\ o.data= .func fd/\ fd.body= .stmts src/\ trB kk (zbI Φ.fns Φ.cst Φ.gen fd.scope src) src=some pb/\ fd.closure=[]/\ fd.globals=mainGlobals/\ fd.builtins=builtinsNs/\ B.CodeRec fd.code fd.qualname/\
  fd.scope.kind= .function/\ fd.scope.isCoroutine=false/\ fd.scope.isGenerator=false/\ zaJ (fd.scope.names.map (·.1))=true/\ (fd.scope.names.all λp=>p.2==NameKind.local||p.2==NameKind.cell||p.2==NameKind.globalImplicit)=true/\
  ps.length=np/\ (∀vals:List Value,vals.length=np ->bindArgs fd ⟨vals,[]⟩=pure (ps.zip vals))/\ zaJ ps=true/\ (∀(j:Nat) (x:Str),ps[j]?=some x ->∃k:NameKind,fd.scope.names[j]?=some (x,k)/\ (k=NameKind.local \/k=NameKind.cell))
section
variable {Ω:En} {A:Around} {Z Z' Z'':Heap} {s s' s'':Shared} {c:TC} {env:Env} {ρ ρ' ρ'':Rho} {ad ad' ad'':Nat ->Addr} {fl:Fl}
 {Φ:Fs} {S:Sv} {n m:Nat}
theorem zaC {args:List PyData} {ns i:Nat} {pv:PV} (h:(args.map (λd=>some (PV.d d))++List.replicate ns none)[i]?=some (some pv)):∃d,args[i]?=some d/\ pv= .d d:=by
 refine Or.elim (Nat.lt_or_ge i args.length) (λhi=>?_) λhi=>?_
 ·rw [List.getElem?_append_left (by simpa using hi)] at h;have h:=List.getElem?_map▸h
  induction e:args[i]? with
  |none=>rw [e] at h;exact zb h
  |some d=>have h:=e▸h;cases h;exact zM d rfl rfl
 ·rw [List.getElem?_append_right (by simpa using hi),List.getElem?_replicate] at h
  split at h<;>exact nomatch h
theorem zh9 (HB:zd0 Ω Φ S n) (G:Gl Ω.B Φ) (hA:Rm A (n+1)) {a:Addr} {np ns:Nat} {pb:List PS} (F:zqp Ω.B Φ a np pb) {args:List PyData} {vals:List Value} {d:PyData} {ρ':Rho} {fl:Fl}
  (hl:args.length=np) (hd:S.blk (args.map (λd=>some (.d d))++List.replicate ns none) pb=some (ρ',fl)) (hfl:(fl= .next/\ d= .none) \/fl= .ret d) (hO:Ok Ω Z s) (r:zC Z vals args):
  wpAny Ω.m A (call (.ref a) vals) (Pst Ω Z s d) zf s:=by
 refine cps λG0 hG_0=>?_
 obtain ⟨o,fd,src,kk,ps,ho,hof,hbody,htr,hclo,hgl,hbl,hcd,hk,hco,hge,hnd,hkinds,hpl,hbind,hpn,hps⟩:=F.ex
 refine hG_0 ?_
 have hlim:=G.lims hO
 have hvl:vals.length=np:=by rw [r.length,hl] at |-
 have hkd:∀x k,(x,k)∈fd.scope.names ->k= .local \/k= .cell \/k= .globalImplicit:=by
  intro x k hm
  have:=List.all_eq_true.mp hkinds _ hm
  simp only [Bool.or_eq_true,beq_iff_eq] at this
  rcases this with (h|h)|h
  ·exact .inl h
  ·exact .inr (.inl h)
  ·exact .inr (.inr h)
 have hlook:∀x k,(x,k)∈fd.scope.names ->fd.scope.names.lookup x=some k:=λx k hm=>za2 hnd hm
 have cells:=zeG fd.scope.names (s.heap.push {cls:= .type "frame",data:= .dict #[]}) []
 rw [show (s.heap.push {cls:= .type "frame",data:= .dict #[]}).objs.size=s.heap.objs.size+1 from Heap.size_push ..] at cells
 refine E03 cells λc1 c2 c3=>?_
 clear cells
 refine wpAny_call (codeAny_call_cells (binds:=ps.zip vals) (Nat.lt_of_le_of_lt (zv (Nat.le_add_right _ _) hA.depth) (by decide)) (hO.sub _ _ (hO.base _ _ ho)) hof hlim (hcd.keeps (hO.base.trans hO.sub)) hbody (hbind vals hvl) hclo ?_ (λs_1 X=>?_) hco hge hk)
 ·intro x hx
  refine cps λG0 hG_0=>?_
  obtain (⟨hx1,_⟩):=List.of_mem_zip hx
  refine zO (List.getElem?_of_mem hx1) λj hj=>?_
  refine zm (hps j _ hj) λk hk' hkk=>?_
  refine hG_0 ?_
  have hm:=List.mem_of_getElem? hk'
  rcases hkk with rfl|rfl
  ·exact .inl (hlook _ _ hm)
  ·refine .inr ⟨hlook _ _ hm,?_⟩
   refine zO (c2 x.1 (.inl hm)) λa' ha'=>?_
   rw [ha'] at |-;rfl
 ·
  let env:=callEnvC fd s.heap.objs.size a
  refine E21 X.toInCall.same λh_1 tk e9=>?_;obtain rfl:=e9.symm
  have S_1:Stp Ω Z s Z {s with heap:=h_1,toks:=tk}:=Stp.grow hO X.toInCall.keep
  let c:=zbI Φ.fns Φ.cst Φ.gen fd.scope src
  have hbind':∀(i:Nat) (x:Str) (k:NameKind),fd.scope.names[i]?=some (x,k) ->∀(pv:PV),(args.map (λd=>some (PV.d d))++List.replicate ns none)[i]?=some (some pv) ->∃v d,ps[i]?=some x/\ vals[i]?=some v/\ pv=PV.d d/\ Rep Z v d:=by
   intro i x k hx pv hp
   refine zm (zaC hp) λd hd e9=>?_;refine za e9 ?_
   refine zm (r.get hd) λv hv rv=>?_
   have hi:i<ps.length:=by
    rw [hpl,<-hvl] at |-
    refine Or.elim (Nat.lt_or_ge i vals.length) (λh=>?_) λh=>?_
    ·exact h
    ·exact zb ((List.getElem?_eq_none h).symm.trans hv)
   refine zm (hps i _ (List.getElem?_eq_getElem hi)) λk' hk' _=>?_
   have hk':=hx▸hk';cases hk'
   exact I24 v d (List.getElem?_eq_getElem hi) hv rfl rv
  have hslot:∀x k i,c.nm.lookup x=some (k,i) ->fd.scope.names[i]?=some (x,k):=λx k i h=>by
   have:=(zbx h).2
   simpa using this
  have fresh:∀b,s.heap.objs.size<=b ->Z.get? b=none:=λb hb=>hO.sub.none (z4 hb)
  have R:Rel c env Z h_1 (args.map (λd=>some (.d d))++List.replicate ns none) (λu=>0):=by
   refine {kind:=hk,names:=λx=>zbK,glob:=hgl,blt:=hbl,loc:=zM _ X.toInCall.ns ?_,cel:= ?_,apL:=fresh _ (Nat.le_refl _),injS:= ?_,injC:= ?_,own:= ?_,ownInj:= ?_,hi:= ?_,slot:= ?_,mainL:= ?_}
   ·intro x i pv e q
    have hx:=hslot x _ i e
    refine cps λG0 hG_0=>?_
    refine E24 (hbind' i x _ hx pv q) λv d h1 h2 e9 rv=>?_;obtain rfl:=e9.symm
    refine hG_0 ?_
    exact zM v (zgO hpn h1 h2 (hlook _ _ (List.mem_of_getElem? hx))) rv
   ·intro x k i e hkk
    have hx:=hslot x k i e
    have hm:=List.mem_of_getElem? hx
    have hkc:k= .cell:=by
     refine Or.elim hkk (λh=>?_) λh=>?_
     ·exact h
     ·rcases hkd x k hm with h'|h'|h'<;>rw [h'] at h<;>cases h
    subst hkc
    obtain (⟨a',ha'⟩):=c2 x (.inl hm)
    refine I24 a' _ ha' (X.cell x a' ha') ?_ (λpv q=>?_)
    ·rcases c1 x a' ha' with ⟨_,h,_⟩|h
     ·exact fresh _ (Nat.le_of_succ_le h)
     ·exact zb h
    ·refine cps λG0 hG_0=>?_
     refine E24 (hbind' i x _ hx pv q) λv d h1 h2 e9 rv=>?_;obtain rfl:=e9.symm
     refine hG_0 ?_
     refine zM v (zgP hpn h1 h2 ?_) rv
     show fd.scope.names.lookup x≠some .local
     rw [hlook _ _ hm] at |-;decide
   ·intro x y k k' i hx hy _ _
    have h1:=hslot x k i hx
    refine zay (h1.symm.trans (hslot y k' i hy)) ?_;rfl
   ·intro x y b hx hy
    exact name_of_addr X.apart (mem_of_lookup hx) (mem_of_lookup hy)
   ·intro i xs e
    refine zm (zaC e) λd _ h=>?_
    cases h
   ·intro i j xs ys e
    refine zm (zaC e) λd _ h=>?_
    cases h
   ·intro i pv e
    refine zm (zaC e) λd h _=>?_
    have:i<args.length:=by
     refine Or.elim (Nat.lt_or_ge i args.length) (λh'=>?_) λh'=>?_
     ·exact h'
     ·exact zb ((List.getElem?_eq_none h').symm.trans h)
    have hi:i<ps.length:=by rw [hpl,<-hl] at |-;exact this
    refine zm (hps i _ (List.getElem?_eq_getElem hi)) λk' hk' _=>?_
    refine Or.elim (Nat.lt_or_ge i fd.scope.names.length) (λh'=>?_) λh'=>?_
    ·exact h'
    ·exact zb ((List.getElem?_eq_none h').symm.trans hk')
   ·intro x k i e _
    have h:=hslot x k i e
    refine Or.elim (Nat.lt_or_ge i fd.scope.names.length) (λh'=>?_) λh'=>?_
    ·exact h'
    ·exact zb ((List.getElem?_eq_none h').symm.trans h)
   ·intro e
    refine E22 G.ns λmg mb q1 _=>?_
    refine E32 q1 λo' _ _ hm _=>?_
    clear q1
    have h1:=Heap.lt_size (hO.sub _ _ (hO.base _ _ hm))
    have h1:=e▸h1
    exact Nat.lt_irrefl _ h1
  have hA':Rm (A.deeper env) n:=hA.deep
  refine wpAny_mono (HB kk c src pb _ ρ' fl htr hd rfl (A.deeper env) env Z _ _ hA' ⟨rfl,rfl,rfl⟩ (λh=>nomatch h) S_1.ok R) (λf s_2 p=>?_) λu w x=>x.elim
  have hfo:∀b,Own c env (args.map (λd=>some (PV.d d))++List.replicate ns none) (λu=>0) b ->s.heap.get? b=none:=by
   rintro b (h| ⟨x,k,i,e,_,_,hc⟩| ⟨i,xs,e,_⟩)
   ·refine za h ?_;exact zh _
   ·rcases c1 x b hc with ⟨_,h,_⟩|h
    ·exact z4 (Nat.le_of_succ_le h)
    ·exact zb h
   ·refine zm (zaC e) λd _ h=>?_
    cases h
  have fin:∀{Z' s_2},StX (Own c env (args.map (λd=>some (PV.d d))++List.replicate ns none) (λu=>0)) (λu=>False) Ω Z {s with heap:=h_1,toks:=tk} Z' s_2 ->Stp Ω Z s Z' s_2:=λT=>
   ((S_1.x (W:=λu=>False) (GI:=λu=>False)).trans T (λb o=> .inr (hfo b o)) (λu h=>h.elim)).stp
  rcases hfl with ⟨rfl,rfl⟩|rfl
  ·obtain ⟨rfl,Z2,ad2,a2⟩:=p
   exact zM Z2 (fin a2.stx) (zju.mpr rfl)
  ·refine E23 p λZ2 v e9 S2 r2=>?_
   clear p;refine za e9 ?_
   exact zM Z2 (fin S2) r2
theorem zdh.up (h:n<=m) (X:zdh Ω Φ.ga n):zdh Ω Φ.ga m:=λA Z s v d xs hA hO r hd=>X A Z s v d xs (hA.le h) hO r hd
def ziX (Ω:En) (off:Nat) (a:Addr) (p:List PyData ->Option PyData):Prop:=
 ∀args d,p args=some d ->∀A Z s vals,Rm A off ->Ok Ω Z s ->zC Z vals args ->wpAny Ω.m A (call (.ref a) vals) (Pst Ω Z s d) zf s
structure zm2 (Ω:En) (Φ:Fs) (tbl:Nat ->Option Fn) (off:Nat):Prop where
 h40:40<=off
 gl:Gl Ω.B Φ
 glg:GlG Ω.B Φ.gen Φ.ga
 gok:zdh Ω Φ.ga 40
 gd:(Φ.gen==("__debug__" :Str))=false
 code:∀f k np ns pb,Φ.fns.lookup f=some k ->tbl k=some (.code np ns pb) ->zqp Ω.B Φ (Φ.fa k) np pb
 prim:∀f k p,Φ.fns.lookup f=some k ->tbl k=some (.prim p) ->ziX Ω off (Φ.fa k) p
 zero:∀k,Φ.fns.lookup ("int_divmod" :Str)=some k ->zfk Ω (Φ.fa k)
theorem zm3 {off:Nat} (T:zm2 Ω Φ tbl off) (HB:zd0 Ω Φ S (n+off)):zkZ Ω Φ (step tbl S) (n+1+off):=by
 intro k args d hd A Z s vals h9 hA hO r;refine zO h9 λf hf=>?_;clear h9
 have hd:(match tbl k with
  |some (.code np ns body)=>if args.length=np then (match S.blk (args.map (λd=>some (.d d))++List.replicate ns none) body with
   |some (_,.ret d)=>some d
   |some (_,.next)=>some .none
   |_=>none) else none
  |some (.prim p)=>p args
  |none=>none)=some d:=hd
 induction ht:tbl k with
 |none=>have hd:=ht▸hd;exact zb hd
 |some fn=>
  rw [ht] at hd
  induction fn with
  |prim p=>exact T.prim f k p hf ht args d hd A Z s vals (hA.le (Nat.le_add_left _ _)) hO r
  |code np ns body=>
   refine ifE hd λhl hd=>?_
   have hA':Rm A (n+off+1):=hA.le (Nat.le_of_eq (Nat.add_right_comm _ _ _))
   rcases hb:S.blk (args.map (λd=>some (.d d))++List.replicate ns none) body with _| ⟨ρ',fl⟩
   ·have hd:=hb▸hd;exact zb hd
   ·have hd:=hb▸hd
    induction fl with
    |ret d'=>refine eqE hd ?_;exact zh9 HB T.gl hA' (T.code f k np ns body hf ht) hl hb (.inr rfl) hO r
    |next=>refine eqE hd ?_;exact zh9 HB T.gl hA' (T.code f k np ns body hf ht) hl hb (.inl ⟨rfl,rfl⟩) hO r
    |brk=>exact zb hd
theorem zgQ {off:Nat} (T:zm2 Ω Φ tbl off):∀n,zaf Ω Φ (run tbl n) (n+off)/\ zd0 Ω Φ (run tbl n) (n+off)
 |0=>by
  have hb:Ω.B.get? mainGlobals≠none:=by
   refine zm T.glg.ns λmg h1 _=>?_
   refine E32 h1 λo _ _ ho _=>?_
   clear h1
   refine za ho ?_;exact λh=>(nomatch h)
  refine ⟨{ex:=λm c e pe ρ d u h=>(nomatch h),tst:=λm c e pe ρ d b u h=>(nomatch h),call:=λk args d h=>(nomatch h),gl:=T.gl,glg:=T.glg,gok:=T.gok.up (by have:=T.h40;lia),gd:=T.gd,bin:=hb,fresh:=λm c e pe ρ d u v h=>(nomatch h),use:=λm c e pe ρ d u v h=>(nomatch h)},λk c body pb ρ ρ' fl u h=>(nomatch h)⟩
 |n+1=>by
  refine zR (zgQ T n) λH HB=>?_
  have h1:=zlX H.toHeld tbl
  have h2:=zoi H.toHeld tbl
  have h3:=zk9 H.toHeld tbl
  have h4:=zoj H.toHeld tbl
  have h5:=zom H T.zero HB tbl
  rw [(by lia:n+off+1=n+1+off)] at h1 h2 h3 h4 h5
  exact ⟨{ex:=h1,tst:=h2,call:=zm3 T HB,gl:=T.gl,glg:=T.glg,gok:=T.gok.up (by have:=T.h40;lia),gd:=T.gd,bin:=H.bin,fresh:=h3,use:=h4},h5⟩
end
section
variable {M:Model} {A:Around} {R:GenEnd} {Y:Protocol} {n:Nat} {s_0:Shared} {c:Code} {fs:List Frame} {s:Shared} {env:Env}
 {gd:Bool ->Bool} {lv:List Value ->List Value}
theorem zaD {α β:Type} {m:Sem α} {f:α ->Sem β} {K:β ->Sem Fin} {H:Value ->Sem Fin} (h:wpAny M (A.over c fs) m (λa s'=>Seg M A R Y n s_0 c ((f a).wrap K H gd lv) fs s') zf s):
  Seg M A R Y n s_0 c ((m>>=f).wrap K H gd lv) fs s:=by
 rw [Sem.bind_eq_wrap',Sem.wrap_wrap]
 exact seg_wrap (wpAny_mono h (λu v x=>x) λu v x=>x.elim)
theorem zgR {m:Sem Flow} {K:Flow ->Sem Fin} {H:Value ->Sem Fin} (h:wpAny M (A.over c fs) m (λa s'=>Seg M A R Y n s_0 c (K a) fs s') zf s):Seg M A R Y n s_0 c (m.wrap K H gd lv) fs s:=
 seg_wrap (wpAny_mono h (λu v x=>x) λu v x=>x.elim)
theorem zlc {test:PySem.Expr} {body orelse:List Stmt} {pos:Pos} {K:Flow ->Sem Fin} {H:Value ->Sem Fin}
  (h:wpAny M (A.over c fs) (isTrue test env (eval test env)) (λb s'=>if b=true then Seg M A R Y n s_0 c ((execs body env).wrap K H gd lv) fs s' else Seg M A R Y n s_0 c ((execs orelse env).wrap K H gd lv) fs s') zf s):
  Seg M A R Y n s_0 c ((exec (.If test body orelse pos) env).wrap K H gd lv) fs s:=by
 refine zaD (wpAny_standAt (zaD (wpM h (λb s' hb=>?_))))
 induction b with
 |true=>exact hb
 |false=>exact hb
theorem zqq {target iter:PySem.Expr} {body orelse:List Stmt} {pos:Pos} {K:Flow ->Sem Fin} {H:Value ->Sem Fin}
  (h:wpAny M (A.over c fs) (eval iter env) (λx s_1=>wpAny M (A.over c fs) (pyIter x) (λit s_2=>∀k p,k (.ok .next)=K .next ->
   Seg M A R Y n s_0 (.forLoop target it body orelse env) (M.den (.forLoop target it body orelse env)) (.ret k none (gd false) (lv []) c p []::fs) s_2) zf s_1) zf s)
  (hs:∀x,foldedSetIterable iter env x=pure x):
  Seg M A R Y n s_0 c ((exec (.For target iter body orelse pos) env).wrap K H gd lv) fs s:=by
 refine zaD (wpAny_standAt (zaD (wpAny_mono h (λx s_1 h_1=>zaD (wpAny_of_eq (hs x) (zaD (wpAny_standAt (zaD (wpAny_holding (wpAny_mono h_1 (λit s_2 h_2=>?_) λu v x=>x))))))) λu v x=>x)))
 exact seg_call λp=>h_2 _ p rfl
end
section
variable {Ω:En} {A:Around} {R:GenEnd} {Y:Protocol} {n:Nat} {s_0:Shared} {fs:List Frame} {s:Shared} {env:Env}
theorem zfI {target:PySem.Expr} {it:Value} {body orelse:List Stmt}
  (h:wpAny Ω.m (A.over (.forLoop target it body orelse env) fs) (pyNext it) (λr s_1=>match r with
   |none=>Seg Ω.m A R Y n s_0 (.block orelse env) (Ω.m.den (.block orelse env)) fs s_1
   |some v=>wpAny Ω.m (A.over (.forLoop target it body orelse env) fs) (letOwnedTupleGo target it v) (λu s_2=>
     wpAny Ω.m (A.over (.forLoop target it body orelse env) fs) (assign target env v) (λu s_3=>∀K H,K .next= .pure (.again (.forLoop target it body orelse env)) ->
      Seg Ω.m A R Y n s_0 (.forLoop target it body orelse env) ((execs body env).wrap K H id id) fs s_3) zf s_2) zf s_1) zf s):
  Seg Ω.m A R Y n s_0 (.forLoop target it body orelse env) (Ω.m.den (.forLoop target it body orelse env)) fs s:=by
 show Seg _ A R Y n s_0 _ ((forTurn target it body orelse env).onRaise (λx=>do noteFrame x env;theTreesLotGoes x)) fs s
 rw [Sem.onRaise_eq_wrap]
 refine zaD (wpAny_standAt (zaD (wpAny_onRaise (wpAny_mono h (λr s_1 h_1=>?_) λu w x=>x.elim))))
 induction r with
 |none=>exact seg_again rfl h_1
 |some v=>
  refine zaD (wpAny_mono h_1 (λu s_2 h_2=>zaD (wpAny_mono h_2 (λu s_3 h_3=>?_) λu w x=>x)) λu w x=>x)
  rw [Sem.bind_eq_wrap',Sem.wrap_wrap]
  exact h_3 _ _ rfl
theorem ziY {K:Flow ->Sem Fin} {c:Code} {k:Result ->Sem Fin} {g:Bool} {l kp:List Value} {p:Pos} (hk:k (.ok .next)=K .next) (h:Seg Ω.m A R Y n s_0 c (K .next) fs s):
  Seg Ω.m A R Y n s_0 (.block [] env) (Ω.m.den (.block [] env)) (.ret k none g l c p kp::fs) s:=
 seg_leaf (.ok .next) (by refine za hk ?_;exact h)
end
noncomputable def zbd:Scope:={
 kind:= .function,
 names:=[(Str.ofString "addr",.local),(Str.ofString "pos",.local),(Str.ofString "escape",.local),(Str.ofString "ch",.local),(Str.ofString "enumerate",.globalImplicit)],
 isGenerator:=true,isCoroutine:=false,more:=[]}
noncomputable def zj2 (p:Nat ->Pos):PySem.Expr:= .Tuple [.Name "pos" (p 6),.Name "ch" (p 7)] 0 (p 8)
noncomputable def gY1 (p:Nat ->Pos):Stmt:= .Expr (.Yield (some (.Tuple [.Name "pos" (p 14),.BinOp (.Constant (.str "\\") 0 (p 15)) .Add (.Name "ch" (p 16)) (p 17)] 0 (p 18))) (p 19)) (p 20)
noncomputable def gY2 (p:Nat ->Pos):Stmt:= .Expr (.Yield (some (.Tuple [.Name "pos" (p 32),.Name "ch" (p 33)] 0 (p 34))) (p 35)) (p 36)
def zvT (p:Nat ->Pos):Stmt:= .If (.Compare (.Name "ch" (p 25)) [.Eq] [.Constant (.str "\\") 0 (p 26)] (p 27)) [.Assign [.Name "escape" (p 28)] (.Constant (.bool true) 0 (p 29)) (p 30)] [gY2 p] (p 37)
def gIf (p:Nat ->Pos):Stmt:= .If (.Name "escape" (p 13)) [gY1 p,.Assign [.Name "escape" (p 22)] (.Constant (.bool false) 0 (p 23)) (p 24)] [zvT p] (p 38)
noncomputable def gY3 (p:Nat ->Pos):Stmt:= .Expr (.Yield (some (.Tuple [.Name "pos" (p 41),.Constant (.str "\\") 0 (p 42)] 0 (p 43))) (p 44)) (p 45)
def zdm (p:Nat ->Pos):List Stmt:=[
 .Assign [.Name "pos" (p 0)] (.Constant (.int 0) 0 (p 1)) (p 2),
 .Assign [.Name "escape" (p 3)] (.Constant (.bool false) 0 (p 4)) (p 5),
 .For (zj2 p) (.Call (.Name "enumerate" (p 9)) [.Name "addr" (p 10)] [] (p 11)) [gIf p] [] (p 39),
 .If (.Name "escape" (p 40)) [gY3 p] [] (p 46)]
def gTC:TC:=⟨zdB zbd.names 0,[],[],5,[],"",0,false⟩
noncomputable def lo:List Nat ->Nat ->Nat ->Bool ->List (Nat×Str)
 | [],i,p,esc=>if esc then [(p,⟨#[92]⟩)] else []
 |c::r,i,p,esc=>if esc then (i,⟨#[92,c]⟩)::lo r (i+1) i false else if c=92 then lo r (i+1) i true else (i,⟨#[c]⟩)::lo r (i+1) i false
noncomputable def zQ:List Nat ->Bool ->Bool
 | [],esc=>esc
 |c::r,esc=>if esc then zQ r false else if c=92 then zQ r true else zQ r false
noncomputable def zcc (p:Nat×Str):PyData:= .tuple [.int p.1,.str p.2]
theorem zqr {c i p:Nat} {r:List Nat}:lo (c::r) i p false=if c=92 then lo r (i+1) i true else (i,⟨#[c]⟩)::lo r (i+1) i false:=rfl
theorem zon {c:Nat} {r:List Nat}:zQ (c::r) false=if c=92 then zQ r true else zQ r false:=rfl
theorem zsQ {c p:Nat} {r:List Nat}:zax.escapedN (c::r) p false=if c=92 then zax.escapedN r (p+1) true else zcc (p+1,⟨#[c]⟩)::zax.escapedN r (p+1) false:=rfl
theorem zuE {c p:Nat} {r:List Nat}:zax (c::r) p false=if c=92 then zax.escapedN r p true else zcc (p,⟨#[c]⟩)::zax.escapedN r p false:=rfl
theorem zl2 (r:List Nat) (p:Nat) (esc:Bool):zax.escapedN r p esc=(lo r (p+1) p esc).map zcc:=by
 induction r generalizing p esc with
 |nil=>induction esc<;>rfl
 |cons c r ih=>
  induction esc with
  |true=>exact congrArg (zcc (p+1,⟨#[92,c]⟩):: ·) (ih (p+1) false)
  |false=>
   refine za zsQ (za zqr ?_)
   by_cases e:c=92
   ·exact za (if_pos e) (za (if_pos e) (ih ..))
   ·exact za (if_neg e) (za (if_neg e) (congrArg (zcc (p+1,⟨#[c]⟩):: ·) (ih ..)))
theorem zsR (r:List Nat):zax r 0 false=(lo r 0 0 false).map zcc:=by
 induction r using List.casesOn with
 |nil=>rfl
 |cons c r=>
  refine za zuE (za zqr ?_)
  by_cases e:c=92
  ·exact za (if_pos e) (za (if_pos e) (zl2 ..))
  ·exact za (if_neg e) (za (if_neg e) (congrArg (zcc (0,⟨#[c]⟩):: ·) (zl2 ..)))
theorem zld (r:List Nat) (i p:Nat) (esc:Bool) (h:lo r i p esc=[]):zQ r esc=false:=by
 induction r generalizing i p esc with
 |nil=>induction esc with
  |true=>exact nomatch h
  |false=>rfl
 |cons c r ih=>
  induction esc with
  |true=>exact nomatch h
  |false=>
   refine za zon ?_
   by_cases e:c=92
   ·exact za (if_pos e) (ih (i+1) i true ((if_pos e).symm.trans h))
   ·exact nomatch (if_neg e).symm.trans h
def Imm (ρ:Rho):Prop:=∀(i:Nat) (pv:PV),ρ[i]?=some (some pv) ->∃d:PyData,pv= .d d/\ ∀Z Z' v,Rep Z v d ->Rep Z' v d
theorem ziZ {ρ:Rho} {i:Nat} {d:PyData} (h:Imm ρ) (hd:∀Z Z' v,Rep Z v d ->Rep Z' v d):Imm (ρ.set i (some (.d d))):=by
 intro j pv e
 rcases zy e with ⟨_,rfl⟩| ⟨_,e⟩
 ·exact zM d rfl hd
 ·exact h j pv e
theorem zj3 {i:Int}:∀Z Z' v,Rep Z v (.int i) ->Rep Z' v (.int i):=λu w x r=>zu.mpr (zu.mp r)
theorem zia {b:Bool}:∀Z Z' v,Rep Z v (.bool b) ->Rep Z' v (.bool b):=λu w x r=>zH.mpr (zH.mp r)
theorem zgS {x:Str}:∀Z Z' v,Rep Z v (.str x) ->Rep Z' v (.str x):=λu w y r=>zU.mpr (zU.mp r)
section
variable {Ω:En} {A:Around} {Z Z':Heap} {s s':Shared} {env:Env} {ρ:Rho} {ad:Nat ->Addr}
theorem zdn {x:Str} {k:NameKind} {i:Nat} (h:gTC.nm.lookup x=some (k,i)):k= .local \/k= .globalImplicit:=by
 have h:=(zbx h).2
 have:(x,k)∈zbd.names:=List.mem_of_getElem? h
 simp only [zbd,List.mem_cons,List.not_mem_nil,or_false,Prod.mk.injEq] at this
 rcases this with ⟨_,h⟩| ⟨_,h⟩| ⟨_,h⟩| ⟨_,h⟩| ⟨_,h⟩<;>lia
theorem zdI {h h':Heap} (R:Rel gTC env Z h ρ ad) (I:Imm ρ) (hz:Z'.get? env.locals=none) (k:∀o,h.get? env.locals=some o ->h'.get? env.locals=some o):Rel gTC env Z' h' ρ ad:=by
 refine {R with loc:= ?_,cel:= ?_,apL:=hz,own:= ?_,ownInj:= ?_}
 ·refine zm R.loc λm hn hv=>?_
  refine zM m (hn.at' k) (λx i pv e q=>?_)
  refine zm (hv x i pv e q) λv e1 r=>?_
  refine zm (I i pv q) λd e9 hd=>?_;obtain rfl:=e9.symm
  exact zM v e1 (hd _ _ _ r)
 ·intro x k i e hk
  rcases zdn e with rfl|rfl<;>rcases hk with h|h<;>cases h
 ·intro i xs e
  refine zm (I i _ e) λd h _=>?_
  cases h
 ·intro i j xs ys e
  refine zm (I i _ e) λd h _=>?_
  cases h
theorem zm4 (I:Imm ρ) {b:Addr} (h:Own gTC env ρ ad b):b=env.locals:=by
 rcases h with h| ⟨x,k,i,e,hk,_⟩| ⟨i,xs,e,_⟩
 ·exact h
 ·rcases zdn e with rfl|rfl<;>rcases hk with h|h<;>cases h
 ·refine zm (I i _ e) λd h _=>?_
  cases h
theorem zrU (I:Imm ρ) {b:Addr} (h:zaF gTC env ρ ad b):b=env.locals:=by
 rcases h with h| ⟨x,k,i,e,hk,_⟩| ⟨i,xs,e,_⟩
 ·exact h
 ·rcases zdn e with rfl|rfl<;>rcases hk with h|h<;>cases h
 ·refine zm (I i _ e) λd h _=>?_
  cases h
theorem zoo {n:Nat} {b b':List Stmt} {t:PySem.Expr} {it:Value} {k:Result ->Sem Fin} {l kp:List Value} {p:Pos} (hA:Rm A (n+2)):Rm (A.in1.over (.forLoop t it b' [] env) [.ret k none false l (.func b env) p kp]) n:=by
 refine ⟨hA.handled,?_,?_⟩
 ·have:=hA.depth
  show A.depth+1+0+n<=900
  lia
 ·have:=hA.units
  show A.units+1+3+0+8*n<=8000
  lia
end
noncomputable def fqs (fin:Bool) (L e it:Addr) (m:Nat):List Addr:=if m=0/\ fin=true then [L] else [L,e,it]
def zuF (Ω:En) (fq:List Addr) (s_1 s'':Shared):Prop:=Ok Ω Ω.B s''/\ ∀b∈fq,∀o,s_1.heap.get? b=some o ->s''.heap.get? b=some o
def zhG (Ω:En) (fin:Bool) (L e it:Addr):GenEnd:=λn s_0 r s_1=>r= .ok (.ret .none)/\ (n=0/\ ∃Z_1,StX (· ∈fqs fin L e it 0) (λ_=>False) Ω Ω.B s_0 Z_1 s_1)
def zfl (Ω:En) (fin:Bool) (L e it:Addr) (full:List (Nat×Str)):Protocol:=λn s_0 v s_1 kap=>
 ∃t q y t1 t2 k Z_1,full[full.length-1-n]?=some (q,y)/\ v= .ref t/\ s_0.heap.get? t=none/\ t∉[L,e,it]/\ s_1.heap.get? t=some {cls:= .type "tuple",data:= .seq #[.int (q:Int) t1,.str y t2] k}/\
  StX (· ∈[L,e,it]) (λ_=>False) Ω Ω.B s_0 Z_1 s_1/\ (∀b∈fqs fin L e it n,∃o,s_1.heap.get? b=some o)/\ ∀s'',zuF Ω (fqs fin L e it n) s_1 s'' ->kap (.send .none) s''
theorem zcd {fin:Bool} {L e it:Addr} {m:Nat} {b:Addr} (h:b∈fqs fin L e it m):b∈[L,e,it]:=by
 unfold fqs at h
 split at h
 ·simp at h;simp [h]
 ·exact h
section
variable {Ω:En} {A:Around} {Z Z':Heap} {s s' s_0:Shared} {env:Env} {ρ:Rho} {ad:Nat ->Addr} {fin:Bool} {e it:Addr} {full:List (Nat×Str)} {c:Code} {fs:List Frame}
 {K:Flow ->Sem Fin} {H:Value ->Sem Fin} {gd:Bool ->Bool} {lv:List Value ->List Value}
theorem zi0 {m q:Nat} {y:Str} {e2:PySem.Expr} {p1 p2 p3 p4:Pos} (hgd:gd false=false) (hfs:splitAtGen fs=none) (hfg:fs.any Frame.guarded=false) (hsc:env.scope=zbd)
  (hR:Rel gTC env Z s.heap ρ ad) (hp:ρ[1]?=some (some (.d (.int (q:Int))))) (SX:StX (· ∈[env.locals,e,it]) (λw=>False) Ω Ω.B s_0 Z s) (nt:∀b∈[env.locals,e,it],¬Ω.tab b)
  (live:∀b∈fqs fin env.locals e it m,∃o,s.heap.get? b=some o) (live':∀b∈[env.locals,e,it],∃b' o,(b<=b'/\ ¬Ω.tab b')/\ s.heap.get? b'=some o)
  (h2:∀s' Z',Stp Ω Z s Z' s' ->wpAny Ω.m (A.in1.over c fs) (eval e2 env) (Pst Ω Z' s' (.str y)) zf s')
  (he2:starEach [e2] env=(false,eval e2 env)::starEach [] env) (hidx:full[full.length-1-m]?=some (q,y))
  (cont:∀s'',Ok Ω Ω.B s'' ->(∀b∈fqs fin env.locals e it m,∀o,s.heap.get? b=some o ->s''.heap.get? b=some o) ->Seg Ω.m A.in1 (zhG Ω fin env.locals e it) (zfl Ω fin env.locals e it full) m s'' c (K .next) fs s''):
  Seg Ω.m A.in1 (zhG Ω fin env.locals e it) (zfl Ω fin env.locals e it full) (m+1) s_0 c ((exec (.Expr (.Yield (some (.Tuple [.Name "pos" p1,e2] 0 p2)) p3) p4) env).wrap K H gd lv) fs s:=by
 have hin:interactive env=false:=by unfold interactive;refine za hR.kind ?_;rfl
 refine seg_Expr_Yield hfs hgd hfg ?_ (by refine za hsc ?_;rfl) hin
 refine wpAny_mono (Q:=λv s'=>∀kap:Resume ->Shared ->Prop,(∀x s'',(match x with| .ref _=>False|_=>Seg Ω.m A.in1 (zhG Ω fin env.locals e it) (zfl Ω fin env.locals e it full) m s'' c (K .next) fs s'') ->kap (.send x) s'') ->
  zfl Ω fin env.locals e it full m s_0 v s' kap) (E:=zf) ?_ (λw z x=>x) λw z x=>x.elim
 refine wpAny_Tuple (wpAny_items_cons (wpAny_Name (zaB (i:=1) hR (by decide+kernel) hp λv r=>?_) (by decide+kernel)))
 have r:Rep Z v (.int (q:Int)):=r
 refine zcr r λt1=>?_
 refine wpAny_items_cons (Pst.then (h2 s Z (Stp.refl SX.ok)) λu s_2 Z_2 S_2 r_2=>?_) he2
 refine zb6 r_2 λt2=>?_
 refine wpAny_items_nil ⟨by show 2<=sizeLine;decide,?_⟩
 intro kap hkap
 have S_3:Stp Ω Z_2 s_2 Z_2 {s_2 with heap:=s_2.heap.push {cls:= .type "tuple",data:= .seq #[.int (q:Int) t1,.str y t2]}}:=Stp.grow (n:=s_2.toks) S_2.ok (Sub.push _ _)
 have S23:=S_2.trans S_3
 refine ⟨s_2.heap.objs.size,q,y,t1,t2,0,Z_2,hidx,rfl,?_,λhb=>?_,Heap.get?_push_size _ rfl,SX.trans (S23.x (W:=λw=>False) (GI:=λw=>False)) (λw h=>h.elim) (λw h=>h.elim),λb hb=>?_,λs'' ha=>?_⟩
 ·induction e0:s_0.heap.get? s_2.heap.objs.size with
  |none=>rfl
  |some o=>
   by_cases hb:s_2.heap.objs.size∈[env.locals,e,it]
   ·refine E22 (live' _ hb) λb' o' h1 h2=>?_
    exact absurd (Nat.lt_of_le_of_lt h1.1 (Heap.lt_size (S_2.h _ _ h1.2 h2))) (Nat.lt_irrefl _)
   ·have nt':=S_2.ok.ntF (zh s_2.heap)
    exact absurd (Heap.lt_size (S_2.h _ _ nt' (SX.h _ _ hb nt' e0))) (Nat.lt_irrefl _)
 ·refine E22 (live' _ hb) λb' o' h1 h2=>?_
  exact absurd (Nat.lt_of_le_of_lt h1.1 (Heap.lt_size (S_2.h _ _ h1.2 h2))) (Nat.lt_irrefl _)
 ·refine zO (live b hb) λo ho=>?_
  exact ⟨o,S23.h _ _ (nt b (zcd hb)) ho⟩
 ·exact hkap .none s'' (cont s'' ha.1 λb hb o ho=>ha.2 b hb o (S23.h _ _ (nt b (zcd hb)) ho))
end
section
variable {Ω:En} {A:Around} {Z Z':Heap} {s s' s_0:Shared} {env:Env} {ρ:Rho} {ad:Nat ->Addr} {fin:Bool} {e it:Addr} {full:List (Nat×Str)} {p:Nat ->Pos}
 {K:Flow ->Sem Fin} {H:Value ->Sem Fin}
theorem zsS {n q:Nat} {esc:Bool} (hA:Rm A 40) (hsc:env.scope=zbd) (hK:K .next=leafOf (.ok (.ret .none))) (hR:Rel gTC env Z s.heap ρ ad) (hp:ρ[1]?=some (some (.d (.int (q:Int))))) (hpe:ρ[2]?=some (some (.d (.bool esc))))
  (SX:StX (· ∈[env.locals,e,it]) (λ_=>False) Ω Ω.B s_0 Z s) (nt:∀b∈[env.locals,e,it],¬Ω.tab b) (live:∃o,s.heap.get? env.locals=some o) (live':∃o,s.heap.get? e=some o) (hle:it<e)
  (hlo:lo [] 0 q esc=full.drop (full.length-n)) (hn:n<=full.length) (hfin:fin=esc):
  Seg Ω.m A.in1 (zhG Ω fin env.locals e it) (zfl Ω fin env.locals e it full) n s_0 (.func (zdm p) env)
   ((execs [.If (.Name "escape" (p 40)) [gY3 p] [] (p 46)] env).wrap K H id id) [] s:=by
 have hlen:=(congrArg List.length hlo).trans (List.length_drop.trans (Nat.sub_sub_self hn))
 refine seg_execs_cons (zlc (wpAny_isTrue_value (wpAny_Name (zaB (i:=2) hR (by decide+kernel) hpe λv r=>?_) (by decide+kernel)) rfl))
 have r:Rep Z v (.bool esc):=r
 refine za r (zbw ?_)
 induction esc with
 |true=>
  have h1:n=1:=hlen.symm
  subst h1
  have hidx:full[full.length-1-0]?=some (q,(⟨#[92]⟩:Str)):=List.getElem?_drop.symm.trans (congrArg (·[0]?) hlo).symm
  refine seg_execs_cons (zi0 (m:=0) rfl rfl rfl hsc hR hp SX nt (λb hb=>?_) (λb hb=>?_) (λs' Z' S'=>?_) rfl hidx λs'' hO hk=>?_)
  ·rw [hfin] at *
   simp [fqs] at hb;refine za hb ?_;exact live
  ·refine zO live' λoe hoe=>?_
   clear live'
   refine zO live λol hol=>?_
   clear live
   refine zdO hb ?_ λhb=>zaW hb ?_ ?_
   ·exact I22 _ _ ⟨Nat.le_refl _,nt _ (by simp)⟩ hol
   ·exact I22 _ _ ⟨Nat.le_refl _,nt _ (by simp)⟩ hoe
   ·exact I22 _ _ ⟨Nat.le_of_lt hle,nt e (by simp)⟩ hoe
  ·refine wpAny_Constant_str (zM Z' (Stp.grow S'.ok (.refl _)) (zU.mpr ⟨s'.toks,?_⟩))
   exact za (show ("\\" :Str)=⟨#[92]⟩ by decide+kernel) rfl
  ·refine seg_execs_nil ?_
   refine seg_execs_nil ?_
   exact za hK (seg_end _ ⟨rfl,rfl,Ω.B,StX.refl hO⟩)
 |false=>
  have h0:n=0:=hlen.symm
  refine za h0 (seg_execs_nil ?_)
  refine seg_execs_nil ?_
  refine za hK (seg_end _ ⟨rfl,rfl,Z,?_⟩)
  subst hfin
  exact SX
theorem zqs (c:Nat):(("\\" :Str)++(⟨#[c]⟩:Str))=⟨#[92,c]⟩:=by
 rfl
theorem zib {α:Type} {full:List α} {n:Nat} {a:α} {l:List α} (h:a::l=full.drop (full.length-n)) (hn:n<=full.length):
  ∃m,n=m+1/\ full[full.length-1-m]?=some a/\ l=full.drop (full.length-m):=by
 have e:n=l.length+1:=((congrArg List.length h).trans ((List.length_drop ..).trans (Nat.sub_sub_self hn))).symm
 refine I13 l.length e ?_ ?_
 ·exact za (show full.length-1-l.length=full.length-n from (Nat.sub_sub ..).trans (congrArg (full.length- ·) ((Nat.add_comm ..).trans e.symm))) (List.getElem?_drop.symm.trans (congrArg (·[0]?) h.symm))
 ·refine (congrArg List.tail h).trans (List.tail_drop.trans (congrArg (List.drop · full) ?_))
  refine za e ?_;exact Nat.succ_pred_eq_of_pos (Nat.sub_pos_of_lt (zv (Nat.le_of_eq e.symm) hn))
theorem zqt {a b c:Nat} (h:c-a=c-b) (ha:a<=c) (hb:b<=c):a=b:=(Nat.sub_sub_self ha).symm.trans ((congrArg (c- ·) h).trans (Nat.sub_sub_self hb))
theorem zuG (c:Nat):((⟨#[c]⟩:Str)==("\\" :Str))=decide (c=92):=by
 refine za (show ("\\" :Str)=⟨#[92]⟩ by decide+kernel) ?_
 by_cases h:c=92
 ·refine za h ?_;rfl
 ·refine za (decide_eq_false h) ?_
  rw [beq_eq_false_iff_ne]
  intro e
  have:=congrArg (λx:Str=>x.cps[0]?) e
  simp at this
  exact h this
theorem zsT {x:Str} {t:Tok} (hA:Rm A 40) (hsc:env.scope=zbd) (hK:K .next=leafOf (.ok (.ret .none))) (hle:it<e) (hLe:env.locals≠e) (hLi:env.locals≠it)
  (zL:Ω.B.get? env.locals=none) (ze:Ω.B.get? e=none) (zi:Ω.B.get? it=none) (nt:∀b∈[env.locals,e,it],¬Ω.tab b) {k:Result ->Sem Fin} {p0:Pos}
  (hk:k (.ok .next)=(execs [.If (.Name "escape" (p 40)) [gY3 p] [] (p 46)] env).wrap K H id id):
  ∀(r:List Nat) (i q:Nat) (esc:Bool) (n:Nat) (s_0 s:Shared) (Z:Heap) (ρ:Rho) (old:Value),
   r=x.cps.toList.drop i ->i<=x.cps.size ->lo r i q esc=full.drop (full.length-n) ->n<=full.length ->fin=zQ r esc ->
   StX (· ∈[env.locals,e,it]) (λw=>False) Ω Ω.B s_0 Z s ->Rel gTC env Z s.heap ρ ad ->Imm ρ ->ρ[1]?=some (some (.d (.int (q:Int)))) ->ρ[2]?=some (some (.d (.bool esc))) ->ρ.length=4 ->
   IsEnum s.heap e it i old ->s.heap.IsStrIter it (strIterType x) x t i ->Z.get? e=none ->Z.get? it=none ->
   Seg Ω.m A.in1 (zhG Ω fin env.locals e it) (zfl Ω fin env.locals e it full) n s_0 (.forLoop (zj2 p) (.ref e) [gIf p] [] env)
    (Ω.m.den (.forLoop (zj2 p) (.ref e) [gIf p] [] env)) [.ret k none false [] (.func (zdm p) env) p0 []] s:=by
 have hA':Rm (A.in1.over (.forLoop (zj2 p) (.ref e) [gIf p] [] env) [.ret k none false [] (.func (zdm p) env) p0 []]) 38:=zoo hA
 have X:Src Ω Ω.B (zbE x) it [it] _ _:=zlP (t:=t)
 have hlen:(zbE x).length=x.cps.size:=by simp [zbE]
 have hef:e∉[it]:=by simp;exact λh=>absurd h (Nat.ne_of_gt hle)
 have M:ziH Ω (.ref e) [e,it] [e,it] (λw=>False) true _ _ 38:=zh0 X (Nat.ne_of_gt hle) hef λb hb=>nt b (List.mem_cons_of_mem _ hb)
 intro r
 induction r with
 |nil=>
  intro i q esc n s_0 s Z ρ old hr hi hlo hn hfin SX hR hI hp hpe hrl he hit zze zzi
  have hi':i=x.cps.size:=Nat.le_antisymm hi (Array.length_toList▸List.drop_eq_nil_iff.mp hr.symm)
  refine zfI (wpAny_pyNext_enum_endD (X.draws _ hA'.handled) he (by refine za hlen ?_;refine zF hi' ?_;exact hit) λh' he'=>?_)
  have SE:StX (· ∈[env.locals,e,it]) (λw=>False) Ω Z s Z {s with heap:=h',toks:=s.toks}:=StX.at SX.ok (λb hb=>zdO hb (zeA SX.ok hR (.inl rfl)) λhb=>zaW hb (npC (nt e (by simp)) he rfl (by decide)) (zm hit λo ho r=>npC (nt it (by simp)) ho r.1 (by unfold strIterType;split<;>decide))) (λb hb=>by
   refine zdO hb ?_ λhb=>zaW hb ?_ ?_
   ·exact hR.apL
   ·exact zze
   ·exact zzi) λb o nb eo=>by
    have nb:=nm3 nb
    exact he' b o nb.2.2 eo
  have hR':Rel gTC env Z h' ρ ad:=zdI hR hI hR.apL λo ho=>he' _ o hLi ho
  refine ziY (K:=λf=>match f with| .next=>(execs [.If (.Name "escape" (p 40)) [gY3 p] [] (p 46)] env).wrap K H id id|f=>K f) hk ?_
  refine cps λG0 hG_0=>?_
  refine zm hR'.loc λm hns _=>?_
  refine E32 hns λol es ep hol _=>?_
  clear hns
  refine hG_0 ?_
  exact zsS hA hsc hK hR' hp hpe (SX.trans SE (λb hb=> .inl hb) λw h=>h.elim) nt ⟨ol,hol⟩ ⟨_,he' e _ (Nat.ne_of_gt hle) he⟩ hle hlo hn hfin
 |cons ch r ih=>
  intro i q esc n s_0 s Z ρ old hr hi hlo hn hfin SX hR hI hp hpe hrl he hit zze zzi
  have hlt:i<x.cps.size:=Nat.lt_of_not_le λk=>nomatch hr.trans (List.drop_eq_nil_of_le (Array.length_toList.symm▸k))
  have hch:x.cps[i]?=some ch/\ r=x.cps.toList.drop (i+1):=by
   rw [List.drop_eq_getElem_cons (by simpa using hlt)] at hr
   injection hr with h1 h2
   refine ⟨?_,h2⟩
   refine za (Array.getElem?_eq_getElem hlt) ?_;refine za h1 ?_;rfl
  have hst:(zen (zbE x) 0).drop i= .tuple [.int (i:Int),.str ⟨#[ch]⟩]::(zen (zbE x) 0).drop (i+1):=by
   have hg:(zen (zbE x) 0)[i]?=some (.tuple [.int (i:Int),.str ⟨#[ch]⟩]):=by
    have hx:(zbE x)[i]?=some (.str ⟨#[ch]⟩):=by
     refine za List.getElem?_map ?_;refine za Array.getElem?_toList ?_;refine za hch.1 ?_;rfl
    refine za zgx ?_;refine za hx ?_;simp
   refine zO (List.getElem?_eq_some_iff.mp hg) λh1 h2=>?_
   exact za (List.drop_eq_getElem_cons h1) (za h2 rfl)
  refine zfI (wpM (M.next _ hA' _ _ Z s (I27 i old (zv hi (Nat.le_of_eq hlen.symm)) hst.symm hit he SX.ok.base zze zzi) SX.ok) (λr0 s_1 p1=>?_))
  refine E24 p1 λv Z_1 e9 S_1 rv hmid=>?_
  clear p1;refine za e9 ?_
  refine wpM (M.go _ hA' (zj2 p) v _ Z_1 s_1 hmid S_1.ok λw=>I31 _ _ _ rfl) (λw s_2 p2=>?_)
  refine cps λG0 hG_0=>?_
  obtain ⟨S_2,i2,old2,hi2,er2,hit2,he2,_,z2e,z2i⟩:=p2
  refine hG_0 ?_
  have hi2':i2=i+1:=by
   have:=congrArg List.length er2
   rw [List.length_drop,List.length_drop,zeF] at this
   exact (zqt this (zv hlt (Nat.le_of_eq hlen.symm)) hi2).symm
  subst hi2'
  have nF:∀a,zaF gTC env ρ ad a ->¬a∈[e,it]:=by
   intro a ha hb
   rw [zrU hI ha] at hb
   simp only [List.mem_cons,List.not_mem_nil,or_false] at hb
   refine Or.elim hb (λh=>?_) λh=>?_
   ·exact hLe h
   ·exact hLi h
  refine wpM (zbU (GI:=λw=>False) hA'.handled 9 (zj2 p) (.t [.v 1,.v 3]) (by rfl) (.tuple [.int (i:Int),.str ⟨#[ch]⟩]) v ρ _ s_2 Z_1 rfl S_2.ok ((hR.stX S_1 nF).stX S_2 nF) rv) (λw s_3 p3=>?_)
  refine zR p3 λS_3 R3=>?_
  clear p3
  intro K2 H2 hK_2
  let ρ_3:Rho:=(ρ.set 1 (some (.d (.int (i:Int))))).set 3 (some (.d (.str ⟨#[ch]⟩)))
  have R3:Rel gTC env Z_1 s_3.heap ρ_3 ad:=R3
  have hI_3:Imm ρ_3:=ziZ (ziZ hI zj3) zgS
  have g1:ρ_3[1]?=some (some (.d (.int (i:Int)))):=by simp [ρ_3,hrl]
  have g2:ρ_3[2]?=some (some (.d (.bool esc))):=by simp [ρ_3,hpe]
  have g3:ρ_3[3]?=some (some (.d (.str ⟨#[ch]⟩))):=by simp [ρ_3,hrl]
  have gl:ρ_3.length=4:=by simp [ρ_3,hrl]
  have wr2:∀b,b∈[e,it] ->b∈[env.locals,e,it]:=λb hb=>List.mem_cons_of_mem _ hb
  have wr3:∀b,Own gTC env ρ ad b ->b∈[env.locals,e,it]:=λb hb=>by refine za (zm4 hI hb) ?_;simp
  have SX3:StX (· ∈[env.locals,e,it]) (λw=>False) Ω Ω.B s_0 Z_1 s_3:=
   ((SX.trans S_1 (λb hb=> .inl (wr2 b hb)) λw h=>h.elim).trans S_2 (λb hb=> .inl (wr2 b hb)) λw h=>h.elim).trans S_3 (λb hb=> .inl (wr3 b hb)) λw h=>h.elim
  have he3:IsEnum s_3.heap e it ((i+1:Nat):Int) old2:=S_3.h _ _ (λh=>hLe (zm4 hI h).symm) (nt e (by simp)) he2
  have hit3:s_3.heap.IsStrIter it (strIterType x) x t (i+1):=by
   refine zm hit2 λo ho r=>?_
   clear hit2
   exact zM o (S_3.h _ _ (λh=>hLi (zm4 hI h).symm) (nt it (by simp)) ho) r
  have liveA:∀b∈[env.locals,e,it],∃o,s_3.heap.get? b=some o:=by
   intro b hb
   refine zdO hb ?_ λhb=>zaW hb ?_ ?_
   ·refine zm R3.loc λm q1 _=>?_
    refine E32 q1 λo _ _ ho _=>?_
    clear q1;exact ⟨o,ho⟩
   ·exact ⟨_,he3⟩
   ·refine zm hit3 λo ho _=>?_
    clear hit3;exact ⟨o,ho⟩
  have liveB:∀b∈[env.locals,e,it],∃b' o,(b<=b'/\ ¬Ω.tab b')/\ s_3.heap.get? b'=some o:=λb hb=>zO (liveA b hb) λo ho=>(I22 b o ⟨Nat.le_refl _,nt b hb⟩ ho)
  have keepAll:∀{m:Nat} {rr:List Nat} {ii qq:Nat} {ee:Bool},lo rr ii qq ee=full.drop (full.length-m) ->m<=full.length ->fin=zQ rr ee ->fqs fin env.locals e it m=[env.locals,e,it]:=by
   intro m rr ii qq ee h1 h2 h3
   unfold fqs
   split
   ·rename_i hc
    obtain (⟨rfl,hc⟩):=hc
    have:lo rr ii qq ee=[]:=by refine za h1 ?_;simp
    cases (zld _ _ _ _ this).symm.trans (h3.symm.trans hc)
   ·rfl
  have again:∀{m q' esc' s_0' s' Z' ρ' old'},lo r (i+1) q' esc'=full.drop (full.length-m) ->m<=full.length ->fin=zQ r esc' ->
    StX (· ∈[env.locals,e,it]) (λw=>False) Ω Ω.B s_0' Z' s' ->Rel gTC env Z' s'.heap ρ' ad ->Imm ρ' ->ρ'[1]?=some (some (.d (.int ((q':Nat):Int)))) ->ρ'[2]?=some (some (.d (.bool esc'))) ->ρ'.length=4 ->
    IsEnum s'.heap e it ((i+1:Nat):Int) old' ->s'.heap.IsStrIter it (strIterType x) x t (i+1) ->Z'.get? e=none ->Z'.get? it=none ->
    Seg Ω.m A.in1 (zhG Ω fin env.locals e it) (zfl Ω fin env.locals e it full) m s_0' (.forLoop (zj2 p) (.ref e) [gIf p] [] env) (K2 .next) [.ret k none false [] (.func (zdm p) env) p0 []] s':=by
   intro m q' esc' s_0' s' Z' ρ' old' a1 a2 a3 a4 a5 a6 a7 a8 a9 a10 a11 a12 a13
   exact za hK_2 (seg_again rfl (ih (i+1) q' esc' m s_0' s' Z' ρ' old' hch.2 hlt a1 a2 a3 a4 a5 a6 a7 a8 a9 a10 a11 a12 a13))
  refine seg_execs_cons (zlc (wpAny_isTrue_value (wpAny_Name (zaB (i:=2) R3 (by decide+kernel) g2 λv rv0=>?_) (by decide+kernel)) rfl))
  have r0:Rep Z_1 v (.bool esc):=rv0
  refine za r0 (zbw ?_)
  have setEsc:∀{v:Bool} {a b d:Pos} {m:Nat} {s_0' s':Shared} {Z':Heap} {K':Flow ->Sem Fin} {H':Value ->Sem Fin} {g':Bool ->Bool} {l':List Value ->List Value},lo r (i+1) i v=full.drop (full.length-m) ->m<=full.length ->fin=zQ r v ->
    StX (· ∈[env.locals,e,it]) (λw=>False) Ω Ω.B s_0' Z' s' ->Rel gTC env Z' s'.heap ρ_3 ad ->(∃old',IsEnum s'.heap e it ((i+1:Nat):Int) old') ->s'.heap.IsStrIter it (strIterType x) x t (i+1) ->Z'.get? e=none ->Z'.get? it=none ->K' .next=K2 .next ->
    Seg Ω.m A.in1 (zhG Ω fin env.locals e it) (zfl Ω fin env.locals e it full) m s_0' (.forLoop (zj2 p) (.ref e) [gIf p] [] env)
     ((exec (.Assign [.Name "escape" a] (.Constant (.bool v) 0 b) d) env).wrap K' H' g' l') [.ret k none false [] (.func (zdm p) env) p0 []] s':=by
   intro v a b d m s_0' s' Z' K' H' g' l' a1 a2 a3 a4 a5 a6 a7 a8 a9 aK
   refine zO a6 λold' a6=>?_
   refine zgR (wpAny_Assign_Name (wpAny_Constant_bool (zde (GI:=λw=>False) (ad':=ad) (i:=2) (pv:= .d (.bool v)) (by decide+kernel) a4.ok a5 (λw y=>rfl) (show Rep Z' (.bool v) (.bool v) from zH.mpr rfl) (λxs e=>nomatch e) λs_6 S_6 R6=>?_)) rfl)
   refine za aK ?_
   refine again a1 a2 a3 (a4.trans S_6 (λb hb=> .inl (by refine za (zm4 hI_3 hb) ?_;simp)) λw h=>h.elim) R6 (ziZ hI_3 zia) ?_ ?_ ?_ (S_6.h _ _ (λh=>hLe (zm4 hI_3 h).symm) (nt e (by simp)) a6) ?_ a8 a9
   ·refine za (List.getElem?_set_ne (by simp)) ?_;exact g1
   ·exact za (List.getElem?_set_self (by refine za gl ?_;simp)) rfl
   ·simp [gl]
   ·refine zm a7 λo ho r=>?_
    clear a7
    exact zM o (S_6.h _ _ (λh=>hLi (zm4 hI_3 h).symm) (nt it (by simp)) ho) r
  induction esc with
  |true=>
   have hlo':(i,(⟨#[92,ch]⟩:Str))::lo r (i+1) i false=full.drop (full.length-n):=by refine zF hlo ?_;rfl
   refine E13 (zib hlo' hn) λm e9 hidx hrest=>?_;obtain rfl:=e9.symm
   have hfin':fin=zQ r false:=by refine za hfin ?_;rfl
   have hq:=keepAll hrest (Nat.le_of_succ_le hn) hfin'
   refine seg_execs_cons (zi0 (m:=m) rfl rfl rfl hsc R3 g1 SX3 nt (by refine za hq ?_;exact liveA) liveB (λs' Z' S'=>?_) rfl hidx λs'' hO hk=>?_)
   ·refine wpAny_BinOp (wpAny_Constant_str (wpAny_Name (zaB (i:=3) ((R3.stp S').stp (Stp.grow (n:=s'.toks+1) S'.ok (.refl _))) (by decide+kernel) g3 λu ru=>?_) (by decide+kernel)))
    have Sg:Stp Ω Z' s' Z' {s' with toks:=s'.toks+1}:=Stp.grow S'.ok (.refl _)
    refine zac Sg (zix (a:= .str "\\") (b:= .str ⟨#[ch]⟩) hA'.handled Sg.ok (zU.mpr ⟨_,rfl⟩) ru ?_)
    show (if ("\\" :Str).length+(⟨#[ch]⟩:Str).length<=big then some (PyData.str (("\\" :Str)++(⟨#[ch]⟩:Str))) else none)=_
    rw [zqs,if_pos]
    show ("\\" :Str).cps.size+1<=big
    decide
   ·have hk:=hq▸hk
    have R'':Rel gTC env Ω.B s''.heap ρ_3 ad:=zdI R3 hI_3 zL λo ho=>hk _ (by simp) o ho
    refine seg_execs_cons (setEsc hrest (Nat.le_of_succ_le hn) hfin' (StX.refl hO) R'' ⟨_,hk e (by simp) _ he3⟩ ?_ ze zi rfl)
    refine zm hit3 λo ho r=>?_
    clear hit3
    exact zM o (hk it (by simp) _ ho) r
  |false=>
   refine seg_execs_cons (zlc (wpAny_isTrue_Compare1 (wpAny_Name (zaB (i:=3) R3 (by decide+kernel) g3 λu ru=>wpAny_Constant_str ?_) (by decide+kernel))))
   have S_4:Stp Ω Z_1 s_3 Z_1 {s_3 with toks:=s_3.toks+1}:=Stp.grow SX3.ok (.refl _)
   refine Pst.then (znB (a:= .str ⟨#[ch]⟩) (b:= .str "\\") S_4.ok hA'.u (.inl ru) (zU.mpr ⟨_,rfl⟩) (show znu .Eq (.str ⟨#[ch]⟩) (.str "\\")=some ((⟨#[ch]⟩:Str)==("\\" :Str)) from rfl)) λvb s_5 Z5 S_5 r5=>?_
   refine za r5 (zbw ?_)
   rw [zuG]
   have S45:=S_4.trans S_5
   have SX5:StX (· ∈[env.locals,e,it]) (λw=>False) Ω Ω.B s_0 Z5 s_5:=SX3.trans (S45.x (W:=λw=>False) (GI:=λw=>False)) (λw h=>h.elim) λw h=>h.elim
   have R5:=R3.stp S45
   have he5:=S45.h _ _ (nt e (by simp)) he3
   have hit5:s_5.heap.IsStrIter it (strIterType x) x t (i+1):=by
    refine zm hit3 λo ho r=>?_
    clear hit3
    exact zM o (S45.h _ _ (nt it (by simp)) ho) r
   have z5e:Z5.get? e=none:=by refine za (S45.new _ _ (nt e (by simp)) he3) ?_;exact z2e
   have z5i:Z5.get? it=none:=by
    refine zm hit3 λo ho _=>?_
    clear hit3
    refine za (S45.new _ _ (nt it (by simp)) ho) ?_;exact z2i
   by_cases hc:ch=92
   ·refine za (decide_eq_true hc) (za (if_pos rfl) ?_)
    have hlo':lo r (i+1) i true=full.drop (full.length-n):=((zqr (p:=q)).trans (if_pos hc)).symm.trans hlo
    have hfin':fin=zQ r true:=hfin.trans (zon.trans (if_pos hc))
    exact seg_execs_cons (setEsc hlo' hn hfin' SX5 R5 ⟨_,he5⟩ hit5 z5e z5i rfl)
   ·refine za (decide_eq_false hc) (za (if_neg Bool.false_ne_true) ?_)
    have hlo':(i,(⟨#[ch]⟩:Str))::lo r (i+1) i false=full.drop (full.length-n):=((zqr (p:=q)).trans (if_neg hc)).symm.trans hlo
    have hfin':fin=zQ r false:=hfin.trans (zon.trans (if_neg hc))
    refine E13 (zib hlo' hn) λm e9 hidx hrest=>?_;obtain rfl:=e9.symm
    have hq:=keepAll hrest (Nat.le_of_succ_le hn) hfin'
    refine seg_execs_cons (zi0 (m:=m) rfl rfl rfl hsc R5 g1 SX5 nt (by refine za hq ?_;exact λb hb=>zO (liveA b hb) λo ho=>⟨o,S45.h _ _ (nt b hb) ho⟩) (λb hb=>E22 (liveB b hb) λb' o h1 ho=>(I22 b' o h1 (S45.h _ _ h1.2 ho))) (λs' Z' S'=>?_) rfl hidx λs'' hO hk=>?_)
    ·refine wpAny_Name (zaB (i:=3) (R5.stp S') (by decide+kernel) g3 λu ru=>zM Z' (Stp.refl S'.ok) ru) (by decide+kernel)
    ·have hk:=hq▸hk
     refine seg_execs_nil ?_
     refine seg_execs_nil ?_
     refine again hrest (Nat.le_of_succ_le hn) hfin' (StX.refl hO) (zdI R5 hI_3 zL λo ho=>hk _ (by simp) o ho) hI_3 g1 ?_ gl (hk e (by simp) _ he5) ?_ ze zi
     ·exact g2
     ·refine zm hit5 λo ho r=>?_
      clear hit5
      exact zM o (hk it (by simp) _ ho) r
end
section
variable {Ω:En} {A:Around} {E:Value ->Shared ->Prop} {s:Shared}
theorem zce {a:Addr} {g n:Nat} {gs:GenState} {P:Nat ->Shared ->Shared ->Prop} {Y:Protocol} {Q:Option Value ->Shared ->Prop} (hh:A.handled=none)
  (hl:s.heap.NoLimit) (hroom:A.depth<recursionLimit) (hg:s.heap.IsGen a g) (hgs:s.gens[g]?=some gs)
  (hgo:gs.Goes Ω.m A.in1 (λn s_0 r s_1=>r= .ok (.ret .none)/\ P n s_0 s_1) Y n (.send .none) (s.setGen g .running))
  (hY:∀v s_1 gs',gs'.bare=true ->Y (n-1) (s.setGen g .running) v s_1 (λr' s''=>match n with
    |0=>False
    |m+1=>gs'.Goes Ω.m A.in1 (λn s_0 r s_1=>r= .ok (.ret .none)/\ P n s_0 s_1) Y m r' s'') ->Q (some v) (s_1.setGen g gs'))
  (hP:∀s_1,P n (s.setGen g .running) s_1 ->∀h',(∀b o,s_1.heap.get? b=some o ->h'.get? b=some o) ->Q none {s_1.setGen g .finished with heap:=h'}):
  wpAny Ω.m A (pyNext (.ref a)) Q E s:=by
 refine wB (wpAny_attempt (wpAny_callSpecial?_slot (name:=Str.ofString "__next__") hg.typeIs slot_gen_next
  (wpAny_call_entry slot_gen_next hg.typeIs entry_gen_next ?_ (args_gen_next _))))
 show wpAny _ A.in1 (Builtin.Generator.genWake (.ref a) (.send .none)) _ _ s
 refine wB (wpAny_holding (wpAny_genNumber hg (wB (wpAny_genState hgs ?_))))
 induction gs with
 |running=>exact hgo.elim
 |finished=>exact hgo.elim
 |_=>
  refine wB (wpAny_roomToWake hl hroom ?_)
  refine wpAny_resumeQ hgs hgo (λx s_1 hx=>?_) (λv s_1 gs' hb hv=>wPu (zM v rfl (wPu (hY v s_1 gs' hb hv))))
  refine zR hx λe9 hp=>?_
  clear hx;refine za e9 ?_
  show wpAny _ A.in1 (newExc (.type "StopIteration") []>>=_) _ _ _
  refine wB ?_
  refine wB (wpAny_newObj_type ?_ (by size_fits))
  refine wB (m:=firstArgMember _ _) (wpAny_of_eq (a:=Value.none) (by first|rfl| (rfl;rfl)) ?_)
  refine wpAny_newObj_type ?_ (by size_fits)
  refine wB (wB (wpAny_handled ?_))
  refine za (show A.in1.handled=none from hh) (wpAny_throw ?_)
  refine wB (wpAny_isInstance (T:="StopIteration") (b:=true) (zM _ (Heap.get?_push_size _ rfl) rfl) isSubtype_stop ?_)
  exact wPu (hP s_1 hp _ λb o hb=>Heap.get?_push_of_some _ (Heap.get?_push_of_some _ hb))
end
section
variable {Ω:En} {A:Around} {Z Z':Heap} {s s' s_0:Shared} {env:Env} {ρ:Rho} {ad:Nat ->Addr} {p:Nat ->Pos}
 {Φ:Fs}
theorem zgT {x:Str} {k:NameKind} {i:Nat} (h:gTC.nm.lookup x=some (k,i)):zbd.names[i]?=some (x,k):=by
 simpa using (zbx h).2
def zad (x:Str):List (Nat×Str):=lo x.cps.toList 0 0 false
theorem zl3 {x:Str} (hA:Rm A 40) (G:Gl Ω.B Φ) (hsc:env.scope=zbd) (hO:Ok Ω Ω.B s_0) (hR:Rel gTC env Ω.B s_0.heap [some (.d (.str x)),none,none,none] ad):
  Seg Ω.m A.in1 (zhG Ω (zQ x.cps.toList false) env.locals (s_0.heap.objs.size+1) s_0.heap.objs.size) (zfl Ω (zQ x.cps.toList false) env.locals (s_0.heap.objs.size+1) s_0.heap.objs.size (zad x)) (zad x).length s_0
   (.func (zdm p) env) (Ω.m.den (.func (zdm p) env)) [] s_0:=by
 refine zm hR.loc λm hns hm=>?_
 refine zm (hm "addr" 0 _ (by decide+kernel) rfl) λva hva ra=>?_
 have kp:env.kindOf "pos" =some .local:=(hR.names "pos").trans (by decide+kernel)
 have ke:env.kindOf "escape" =some .local:=(hR.names "escape").trans (by decide+kernel)
 have hpp:(env.scope.kind== .class|| (env.scope.kind== .module&&env.locals !=env.globals))=false:=by refine za hR.kind ?_;rfl
 refine seg_func (seg_execs_cons (zgR (wpAny_Assign_Name (wpAny_Constant_int (wpAny_storeName_local kp hns (λh1 hns1 hs1=>?_) hpp)) rfl)))
 refine seg_execs_cons (zgR (wpAny_Assign_Name (wpAny_Constant_bool (wpAny_storeName_local ke hns1 (λh2 hns2 hs2=>?_) hpp)) rfl))
 have hs12:Heap.SameBut env.locals s_0.heap h2:=hs1.trans hs2
 have hsz:h2.objs.size=s_0.heap.objs.size:=hs12.1
 have hkeep:∀b o,b≠env.locals ->s_0.heap.get? b=some o ->h2.get? b=some o:=λb o nb eo=>(hs12.2 b nb).trans eo
 refine E32 (id hns) λoL esL epL hoL rL=>?_
 have hLlt:env.locals<s_0.heap.objs.size:=Heap.lt_size hoL
 let ρ_1:Rho:=[some (.d (.str x)),some (.d (.int ((0:Nat):Int))),some (.d (.bool false)),none]
 have hI:Imm ρ_1:=by
  intro i pv e
  match i,e with
  |0,e=>cases e;exact zM _ rfl zgS
  |1,e=>cases e;exact zM _ rfl zj3
  |2,e=>cases e;exact zM _ rfl zia
  |3,e=>cases e
  | (n+4),e=>exact zb e
 have hR_1:Rel gTC env Ω.B h2 ρ_1 ad:=by
  refine {hR with loc:=⟨_,hns2,?_⟩,cel:= ?_,own:= ?_,ownInj:= ?_,hi:= ?_}
  ·intro y i pv e q
   have hy:=zgT e
   match i,hy,q with
   |0,hy,q=>
    refine zay hy ?_;cases q
    exact zM va (by exact hva) ra
   |1,hy,q=>
    refine zay hy ?_;cases q
    exact zM (.int 0 s_0.toks) (by refine za (if_neg (by decide+kernel)) ?_;exact za (if_pos (by decide+kernel)) rfl) (show Rep Ω.B (.int 0 s_0.toks) (.int ((0:Nat):Int)) from zu.mpr ⟨_,rfl⟩)
   |2,hy,q=>
    refine zay hy ?_;cases q
    exact zM (.bool false) (by exact za (if_pos (by decide+kernel)) rfl) (show Rep Ω.B (.bool false) (.bool false) from zH.mpr rfl)
   |3,hy,q=>exact nomatch q
   | (n+4),hy,q=>exact zb q
  ·intro y k i e hk
   rcases zdn e with rfl|rfl<;>rcases hk with h|h<;>cases h
  ·intro i xs e
   refine zm (hI i _ e) λd h _=>?_
   cases h
  ·intro i j xs ys e
   refine zm (hI i _ e) λd h _=>?_
   cases h
  ·intro i pv e
   show i<5
   refine Or.elim (Nat.lt_or_ge i 4) (λh=>?_) λh=>?_
   ·lia
   ·exact zb ((List.getElem?_eq_none (by simpa [ρ_1] using h)).symm.trans e)
 have S_1:StX (λb=>b=env.locals) (λu=>False) Ω Ω.B s_0 Ω.B {s_0 with heap:=h2,toks:=s_0.toks+1+1+1}:=StX.at hO (λb hb=>by refine za hb ?_;exact zeA hO hR (.inl rfl)) (λb hb=>by refine za hb ?_;exact hR.apL) λb o nb eo=>hkeep b o nb eo
 refine seg_execs_cons (zqq (wpAny_Call_NameR (wpAny_Name (zdD G S_1.ok hR_1 (x:="enumerate") (v:= .type "enumerate") (by decide+kernel) (by decide+kernel)
  (PySem.callWith_type rfl (Calls.evalArgs_plain (Calls.spliced_cons (wpAny_Name (zaB (i:=0) hR_1 (by decide+kernel) rfl λv r=>Calls.spliced_nil ?_) (by decide+kernel)))))) (by decide+kernel))) λx=>rfl)
 have r:Rep Ω.B v (.str x):=r
 refine zb6 r λt=>?_
 refine call_enumerate_str λh3 he hit u hk3=>?_
 simp only [hsz] at he hit |-
 refine wpAny_pyIter_enum he ?_
 intro k p0 hk
 have fe:Ω.B.get? (s_0.heap.objs.size+1)=none:=hO.sub.none (z4 (Nat.le_succ _))
 have fi:Ω.B.get? s_0.heap.objs.size=none:=hO.sub.none (zh _)
 have nt:∀b∈[env.locals,s_0.heap.objs.size+1,s_0.heap.objs.size],¬Ω.tab b:=λb hb=>zdO hb (zf4 hO hR (.inl rfl)) λhb=>zaW hb (hO.ntF (z4 (Nat.le_succ _))) (hO.ntF (zh _))
 have SX:StX (· ∈[env.locals,s_0.heap.objs.size+1,s_0.heap.objs.size]) (λu=>False) Ω Ω.B s_0 Ω.B {s_0 with heap:=h3,toks:=s_0.toks+1+1+1}:=StX.at hO (λb hb=>zdO hb (zeA hO hR (.inl rfl)) λhb=>zaW hb ⟨nt _ (by simp),λo e _=>zb ((z4 (Nat.le_succ _)).symm.trans e)⟩ ⟨nt _ (by simp),λo e _=>zb ((zh _).symm.trans e)⟩) (λb hb=>by
   refine zdO hb ?_ λhb=>zaW hb ?_ ?_
   ·exact hR.apL
   ·exact fe
   ·exact fi) λb o nb eo=>by
    have nb:=nm3 nb
    exact (λb o nb eo=>hk3 b o (hkeep b o nb eo)) b o nb.1 eo
 exact zsT (x:=x) (t:=t) hA hsc rfl (Nat.lt_succ_self _) (Nat.ne_of_lt (Nat.lt_succ_of_lt hLlt)) (Nat.ne_of_lt hLlt) hR.apL fe fi nt hk x.cps.toList 0 0 false _ s_0 _ Ω.B ρ_1 .none rfl (Nat.zero_le _) (by simp [zad]) (Nat.le_refl _) rfl
  SX (zdI hR_1 hI hR.apL λo ho=>hk3 _ _ ho) hI rfl rfl rfl he hit fe fi
end
theorem zfJ {gens:Array GenState} {g:Nat} {gs:GenState} (h:AllBare gens) (hb:gs.bare=true):AllBare (gens.setIfInBounds g gs):=by
 intro y hy
 obtain ⟨i,hi,rfl⟩:=Array.mem_iff_getElem.mp hy
 rw [Array.getElem_setIfInBounds]
 split
 ·exact hb
 ·exact h _ (Array.getElem_mem _)
 ·simpa using hi
structure GA (env:Env) (ad:Nat ->Addr) (p:Nat ->Pos) (a:Addr) (g:Nat) (x:Str) (xs:List PyData) (Z:Heap) (s:Shared):Prop where
 ex:xs=(zad x).map zcc
 hg:s.gens[g]?=some (.fresh (.func (zdm p) env))
 ho:s.heap.IsGen a g
 hR:Rel gTC env Z s.heap [some (.d (.str x)),none,none,none] ad
structure GB (Ω:En) (A:Around) (env:Env) (a:Addr) (g:Nat) (x:Str) (e it:Addr) (m:Nat) (gs:GenState) (xs:List PyData) (Z:Heap) (s:Shared):Prop where
 hm:m<=(zad x).length
 ex:xs=((zad x).drop ((zad x).length-m)).map zcc
 ho:s.heap.IsGen a g
 hg:s.gens[g]?=some gs
 hae:a∉[env.locals,e,it]
 hq:m≠0 ->∀b∈[env.locals,e,it],b∈fqs (zQ x.cps.toList false) env.locals e it m
 hz:∀b∈fqs (zQ x.cps.toList false) env.locals e it m,(∃o,s.heap.get? b=some o)/\ Z.get? b=none
 hgo:∀s'',zuF Ω (fqs (zQ x.cps.toList false) env.locals e it m) s s'' ->gs.Goes Ω.m A.in1 (zhG Ω (zQ x.cps.toList false) env.locals e it) (zfl Ω (zQ x.cps.toList false) env.locals e it (zad x)) m (.send .none) s''
def GSt (Ω:En) (A:Around) (env:Env) (ad:Nat ->Addr) (p:Nat ->Pos) (a:Addr) (g:Nat) (x:Str):DSt:=λfp wr xs Z s=>(∀b∈fp,¬Ω.tab b)/\
 ((fp=[a,env.locals]/\ wr=[env.locals]/\ GA env ad p a g x xs Z s) \/ ∃e it m gs,fp=a::fqs (zQ x.cps.toList false) env.locals e it m/\ wr=fqs (zQ x.cps.toList false) env.locals e it m/\ GB Ω A env a g x e it m gs xs Z s)
@[elab_as_elim] theorem zop {Ω:En} {A:Around} {env:Env} {ad:Nat ->Addr} {p:Nat ->Pos} {a:Addr} {g:Nat} {x:Str} {M:List Addr ->List Addr ->Prop} {fp wr:List Addr} {xs:List PyData} {Z:Heap} {s:Shared} (h:GSt Ω A env ad p a g x fp wr xs Z s)
  (k1:(∀b∈[a,env.locals],¬Ω.tab b) ->GA env ad p a g x xs Z s ->M [a,env.locals] [env.locals]) (k2:∀e it m gs,(∀b∈a::fqs (zQ x.cps.toList false) env.locals e it m,¬Ω.tab b) ->GB Ω A env a g x e it m gs xs Z s ->M (a::fqs (zQ x.cps.toList false) env.locals e it m) (fqs (zQ x.cps.toList false) env.locals e it m)):M fp wr:=
 h.2.elim (λq=>E03 q λe1 e2 q=>za e1 (za e2 (k1 (e1▸h.1) q))) λq=>E43 q λe it m gs e1 e2 q=>za e1 (za e2 (k2 e it m gs (e1▸h.1) q))
section
variable {Ω:En} {A:Around} {Z Z':Heap} {s s' s_0 s_1:Shared} {env:Env} {ρ:Rho} {ad:Nat ->Addr} {p:Nat ->Pos} {a:Addr} {g:Nat} {x:Str}
 {Φ:Fs}
theorem zoq:Imm [some (.d (.str x)),none,none,none]:=by
 intro i pv e
 match i,e with
 |0,e=>cases e;exact zM _ rfl zgS
 |1,e=>cases e
 |2,e=>cases e
 |3,e=>cases e
 | (n+4),e=>exact zb e
theorem Ok.ztB (hO:Ok Ω Z s):∀b,Ω.tab b ->Ω.B.get? b=none:=λb t=>hO.base.none (hO.zt b t)
theorem gOk (hO:Ok Ω Z s):Ok Ω Ω.B (s.setGen g .running):=⟨hO.base.trans hO.sub,.refl _,hO.os,zfJ hO.gens rfl,hO.j,hO.ztB⟩
theorem zor {W3 wr:List Addr} {Z_1 h':Heap} {gs':GenState} (hO:Ok Ω Z s) (SX:StX (· ∈W3) (λu=>False) Ω Ω.B (s.setGen g .running) Z_1 s_1) (hb:gs'.bare=true) (hW:∀b∈W3,b∈wr \/s.heap.get? b=none)
  (hz:∀b∈wr,Z.get? b=none) (hk:∀b o,s_1.heap.get? b=some o ->h'.get? b=some o):StX (· ∈wr) (· =g) Ω Z s Z {s_1.setGen g gs' with heap:=h'}:=by
 have keep:∀b o,b∉wr ->¬Ω.tab b ->s.heap.get? b=some o ->s_1.heap.get? b=some o:=λb o nb t eo=>SX.h b o (λhb=>by
  refine Or.elim (hW b hb) (λh=>?_) λh=>?_
  ·exact nb h
  ·exact zb (h.symm.trans eo)) t eo
 have hgk:∀(i:Nat) (y:GenState),i≠g ->s.gens[i]?=some y ->s_1.gens[i]?=some y:=λi y hi ey=>SX.g i y (λh=>h) (by
  refine za (Array.getElem?_setIfInBounds_ne (Ne.symm hi)) ?_;exact ey)
 refine ⟨⟨λb o eo=>hk _ _ (keep b o (λhb=>by exact zb ((hz b hb).symm.trans eo)) (hO.ntZ eo) (hO.sub b o eo)),hO.base,SX.ok.os,zfJ SX.ok.gens hb,Ω.jk _ _ SX.ok.j (λb o t e=>hk b o e),hO.zt⟩,.refl _,λu v w x y=>rfl,hO.lv,λb o nb t eo=>hk _ _ (keep b o nb t eo),λi y ni ey=>?_,?_⟩
 ·refine za (Array.getElem?_setIfInBounds_ne (Ne.symm ni)) ?_
  exact hgk i y ni ey
 ·have:=SX.gs
  show s.gens.size<=(s_1.gens.setIfInBounds g gs').size
  have h2:(s.setGen g .running).gens.size=s.gens.size:=by simp [Shared.setGen]
  simp only [Array.size_setIfInBounds]
  lia
theorem zos {m:Nat} {e it:Addr} {fp wr:List Addr} {v:Value} {gs gs':GenState} (hO:Ok Ω Z s) (hg:s.heap.IsGen a g) (hgs:s.gens[g]?=some gs) (hW:∀b∈[env.locals,e,it],b∈wr \/s.heap.get? b=none)
  (hz:∀b∈wr,Z.get? b=none) (hsub:∀b∈wr,b∈fp) (haf:a∈fp) (hnt:∀b∈fp,¬Ω.tab b) (ha:a∉[env.locals,e,it]) (hm:m<(zad x).length) (hb:gs'.bare=true)
  (hy:zfl Ω (zQ x.cps.toList false) env.locals e it (zad x) m (s.setGen g .running) v s_1 λr' s''=>gs'.Goes Ω.m A.in1 (zhG Ω (zQ x.cps.toList false) env.locals e it) (zfl Ω (zQ x.cps.toList false) env.locals e it (zad x)) m r' s''):
  ∃Z_1 fp' wr' q,(zad x)[(zad x).length-1-m]?=some q/\ StX (· ∈wr) (· =g) Ω Z s Z_1 (s_1.setGen g gs')/\ Rep Z_1 v (zcc q)/\
   GSt Ω A env ad p a g x fp' wr' (((zad x).drop ((zad x).length-m)).map zcc) Z_1 (s_1.setGen g gs')/\ (∀b∈fp',b∈fp \/s.heap.get? b=none)/\ ∀b∈wr',b∈fp'/\ (b∈wr \/s.heap.get? b=none):=by
 refine cps λG0 hG_0=>?_
 obtain ⟨t,q,y,t1,t2,k,Z_1,hidx,e9,hn,htn,ht,SX,hlive,hkap⟩:=hy;obtain rfl:=e9.symm
 have zW:∀b∈[env.locals,e,it],Z.get? b=none:=λb hb=>by
  refine Or.elim (hW b hb) (λh=>?_) λh=>?_
  ·exact hz b h
  ·exact hO.sub.none h
 refine E14 ((zor (gs':=gs') (h':=s_1.heap) hO SX hb hW hz (λu w e=>e)).freezeNew (a:=t) hn (hO.sub.none hn) ht) λZ_2 S_2 hz2 f2 hoff=>?_
 refine hG_0 ?_
 have htW:∀b∈fqs (zQ x.cps.toList false) env.locals e it m,b≠t ->Z_2.get? b=none:=λb hb nb=>by refine za (hoff b nb) ?_;exact zW b (zcd hb)
 have hgs_1:s_1.gens[g]?=some .running:=SX.g g _ (λh=>h) (setGen_self hgs)
 have hne:∀b∈fqs (zQ x.cps.toList false) env.locals e it m,b≠t:=λb hb e=>htn (e▸zcd hb)
 refine I46 Z_2 _ _ (q,y) hidx S_2 (zbi.mpr (I33 t _ k rfl hz2 (.cons (zu.mpr ⟨_,rfl⟩) (.one (zU.mpr ⟨_,rfl⟩))))) ⟨λb hb=>(List.mem_cons.mp hb).elim (λe=>e▸hnt a haf) λhb=>(hW b (zcd hb)).elim (λh=>hnt b (hsub b h)) hO.ntF,.inr ⟨e,it,m,gs',rfl,rfl,Nat.le_of_lt hm,rfl,(E32 hg λo nm qn ho r=>(I32 o nm qn (SX.h a o ha (hO.ntC ho r.1) ho) r)),setGen_self hgs_1,ha,?_,λb hb=>⟨hlive b hb,htW b hb (hne b hb)⟩,λs'' h=>?_⟩⟩ ?_ ?_
 ·intro h0 b hb
  unfold fqs
  refine za (if_neg (λh=>h0 h.1)) ?_;exact hb
 ·exact hkap s'' ⟨h.1,λb hb o ho=>h.2 b hb o ho⟩
 ·intro b hb
  rcases List.mem_cons.mp hb with rfl|hb
  ·exact .inl haf
  ·exact (hW b (zcd hb)).imp (hsub b) id
 ·intro b hb
  exact ⟨List.mem_cons_of_mem _ hb,hW b (zcd hb)⟩
theorem zfK {W:Addr ->Prop} {GI:Nat ->Prop} (h:s.heap.IsGen a g) (S:StX W GI Ω Z s Z' s') (t:¬Ω.tab a) (ha:¬W a):s'.heap.IsGen a g:=
 E32 h λo nm qn ho r=>(I32 o nm qn (S.h a o ha t ho) r)
theorem zot {fp wr:List Addr} {xs:List PyData} (h:GSt Ω A env ad p a g x fp wr xs Z s):s.heap.IsGen a g:=h.2.elim (λh=>h.2.2.ho) λh=>E43 h λ_ _ _ _ _ _ h=>h.ho
theorem zgU (h:s.heap.IsGen a g):∃o,s.heap.get? a=some o:=E32 h λo _ _ ho _=>⟨o,ho⟩
theorem zrV (b:Addr) (hb:b∈[env.locals,s.heap.objs.size+1,s.heap.objs.size]):b∈[env.locals] \/s.heap.get? b=none:=by
 simp only [List.mem_cons,List.not_mem_nil,or_false] at hb
 rcases hb with h|h|h
 ·exact .inl (by simp [h])
 ·exact .inr (z4 (h▸Nat.le_succ _))
 ·exact .inr (z4 (h▸Nat.le_refl _))
theorem zuH {fin:Bool} {m:Nat} {L e it:Addr} {full:List (Nat×Str)} {v:Value} (hy:zfl Ω fin L e it full m s_0 v s_1 λ_ _=>False):False:=by
 obtain ⟨t,q,y,t1,t2,k,Z_1,_,_,_,_,_,SX,_,hkap⟩:=hy
 exact hkap s_1 ⟨⟨SX.ok.base.trans SX.ok.sub,.refl _,SX.ok.os,SX.ok.gens,SX.ok.j,SX.ok.ztB⟩,λb hb o eo=>eo⟩
theorem zic {xh:PyData} {xs:List PyData} {q:Nat×Str} (h:xh::xs=((zad x).drop ((zad x).length-(xs.length+1))).map zcc) (hl:xs.length<(zad x).length) (hq:(zad x)[(zad x).length-1-xs.length]?=some q):
  xh=zcc q/\ xs=((zad x).drop ((zad x).length-xs.length)).map zcc:=by
 constructor
 ·have:=congrArg (·[0]?) h
  simp at this
  rw [show (zad x).length-(xs.length+1)=(zad x).length-1-xs.length by lia,hq] at this
  simpa using this
 ·have:=congrArg List.tail h
  rw [List.tail_cons,List.map_drop,List.tail_drop] at this
  refine za List.map_drop ?_
  exact this.trans (by congr 1;lia)
theorem zrW (hO:Ok Ω Z s) (hR:Rel gTC env Z s.heap [some (.d (.str x)),none,none,none] ad):Rel gTC env Ω.B (s.setGen g .running).heap [some (.d (.str x)),none,none,none] ad:=zdI hR zoq (by
 induction e0:Ω.B.get? env.locals with
 |none=>rfl
 |some o=>exact absurd (hO.base _ _ e0) (by refine za hR.apL ?_;exact λh=>nomatch h)) λo eo=>eo
theorem zsU (hA:Rm A 40) (G:Gl Ω.B Φ) (hsc:env.scope=zbd) (haL:a≠env.locals):zjR Ω A (.ref a) (· =g) false (GSt Ω A env ad p a g x) (λfp wr _ xs Z s=>GSt Ω A env ad p a g x fp wr xs Z s) where
 sub:=λfp wr xs Z s h=>by
  refine zop h (λnt H b hb=>?_) λe it m gs nt H b hb=>?_
  ·exact List.mem_cons_of_mem _ hb
  ·exact List.mem_cons_of_mem _ hb
 nt:=λfp wr xs Z s h=>h.1
 live:=λfp wr xs Z s h=>by
  refine zop h (λnt H=>?_) λe it m gs nt H=>?_
  ·refine I03 (λb hb=>?_) (λb hb=>?_) λi hi=>⟨_,hi▸H.hg⟩
   ·simp only [List.mem_cons,List.not_mem_nil,or_false] at hb
    refine hb.elim (λh=>h▸zgU H.ho) λh=>?_
    refine zm H.hR.loc λm q1 _=>?_
    refine E32 q1 λo _ _ ho _=>?_
    clear q1;exact ⟨o,h▸ho⟩
   ·rw [List.mem_singleton] at hb;exact hb▸H.hR.apL
  ·refine I03 (λb hb=>?_) (λb hb=>(H.hz b hb).2) λi hi=>⟨_,hi▸H.hg⟩
   exact (List.mem_cons.mp hb).elim (λh=>h▸zgU H.ho) λhb=>(H.hz b hb).1
 frame:=λfp wr xs Z s W' GI' Z' s' h=>by
  refine zop h (λnt H S hd hgi=>?_) λe it m gs nt H S hd hgi=>?_
  ·refine ⟨nt,.inl ⟨rfl,rfl,H.ex,S.g g _ (hgi g rfl) H.hg,zfK H.ho S (nt a (by simp)) (hd a (by simp)),H.hR.stX S λb hb=>?_⟩⟩
   refine za (zrU zoq hb) ?_;exact hd _ (by simp)
  ·refine ⟨nt,.inr ⟨e,it,m,gs,rfl,rfl,H.hm,H.ex,zfK H.ho S (nt a (by simp)) (hd a (by simp)),S.g g _ (hgi g rfl) H.hg,H.hae,H.hq,λb hb=>?_,λs'' h=>H.hgo s'' ⟨h.1,λb hb o eo=>h.2 b hb o (S.h b o (hd b (List.mem_cons_of_mem _ hb)) (nt b (List.mem_cons_of_mem _ hb)) eo)⟩⟩⟩
   have h1:=hd b (List.mem_cons_of_mem _ hb)
   exact zO (H.hz b hb).1 λo eo=>⟨⟨o,S.h b o h1 (nt b (List.mem_cons_of_mem _ hb)) eo⟩,(S.new b o h1 (nt b (List.mem_cons_of_mem _ hb)) eo).trans (H.hz b hb).2⟩
 next:=λfp wr xh xs Z s h hO=>by
  have hl:=G.lims hO
  have hroom:A.depth<recursionLimit:=Nat.lt_of_le_of_lt (zv (Nat.le_add_right _ _) hA.depth) (by decide)
  refine zop h (λnt H=>?_) λe it m gs nt H=>?_
  ·
   have hal:=zO (zgU H.ho) λ_ h=>Heap.lt_size h
   have hlen:(zad x).length=xs.length+1:=by
    have:=congrArg List.length H.ex
    simp at this;lia
   refine zce (P:=λn s_0 s_1=>n=0/\ ∃Z_1,StX (· ∈fqs (zQ x.cps.toList false) env.locals (s.heap.objs.size+1) s.heap.objs.size 0) (λu=>False) Ω Ω.B s_0 Z_1 s_1) hA.handled hl hroom H.ho H.hg
    ⟨rfl,zl3 hA G hsc (gOk hO) (zrW hO H.hR)⟩ (λv s_1 gs' hb hy=>?_) (λs_1 hp h' hk=>absurd hp.1 (by lia))
   rw [hlen] at hy
   refine E46 (zos (fp:=[a,env.locals]) (wr:=[env.locals]) (ad:=ad) (p:=p) (m:=xs.length) hO H.ho H.hg zrV (λb hb=>by rw [List.mem_singleton] at hb;exact hb▸H.hR.apL) (λb hb=>List.mem_cons_of_mem _ hb) (by simp) nt (by
     simp
     exact I03 haL (Nat.ne_of_lt (Nat.lt_succ_of_lt hal)) (Nat.ne_of_lt hal)) (by lia) hb hy) λZ_1 fp' wr' q hidx S r hs h1 h2=>?_
   refine zR (zic (by refine zF hlen ?_;rw [Nat.sub_self];exact H.ex) (by lia) hidx) λe1 e2=>?_
   exact I46 v Z_1 fp' wr' rfl S (za e1 r) (za e2 hs) h1 h2
  ·
   have hlen:m=xs.length+1:=by
    have:=congrArg List.length H.ex
    have:=H.hm
    simp at *;lia
   subst hlen
   have hm:=H.hm
   refine zce (P:=λn s_0 s_1=>n=0/\ ∃Z_1,StX (· ∈fqs (zQ x.cps.toList false) env.locals e it 0) (λu=>False) Ω Ω.B s_0 Z_1 s_1) hA.handled hl hroom H.ho H.hg
    (H.hgo _ ⟨gOk hO,λb hb o eo=>eo⟩) (λv s_1 gs' hb hy=>?_) (λs_1 hp h' hk=>nomatch hp.1)
   refine E46 (zos (fp:=a::fqs (zQ x.cps.toList false) env.locals e it (xs.length+1)) (wr:=fqs (zQ x.cps.toList false) env.locals e it (xs.length+1)) (ad:=ad) (p:=p) (m:=xs.length) hO H.ho H.hg (λb hb=> .inl (H.hq (Nat.succ_ne_zero _) b hb))
     (λb hb=>(H.hz b hb).2) (λb hb=>List.mem_cons_of_mem _ hb) (by simp) nt H.hae hm hb hy) λZ_1 fp' wr' q hidx S r hs h1 h2=>?_
   refine zR (zic H.ex hm hidx) λe1 e2=>?_
   exact I46 v Z_1 fp' wr' rfl S (za e1 r) (za e2 hs) h1 h2
 go:=λfp wr target v xs Z s h hO _=>by
  refine E33 (zot h) λo nm qn ho hc _=>?_
  exact zfB ho hc (by decide+kernel) ⟨StX.refl hO,h⟩
 done:=λfp wr Z s h hO=>by
  have hl:=G.lims hO
  have hroom:A.depth<recursionLimit:=Nat.lt_of_le_of_lt (zv (Nat.le_add_right _ _) hA.depth) (by decide)
  refine zop h (λnt H=>?_) λe it m gs nt H=>?_
  ·have hlen:(zad x).length=0:=by
    have:=congrArg List.length H.ex
    simp at this;simp [this]
   refine zce (P:=λn s_0 s_1=>n=0/\ ∃Z_1,StX (· ∈fqs (zQ x.cps.toList false) env.locals (s.heap.objs.size+1) s.heap.objs.size 0) (λu=>False) Ω Ω.B s_0 Z_1 s_1) hA.handled hl hroom H.ho H.hg
    ⟨rfl,zl3 hA G hsc (gOk hO) (zrW hO H.hR)⟩ (λv s_1 gs' hb hy=>?_) (λs_1 hp h' hk=>?_)
   ·rw [hlen] at hy
    exact (zuH hy).elim
   ·exact zO hp.2 λZ_1 SX=>⟨rfl,Z,zor (gs':= .finished) hO SX rfl (λb hb=>zrV b (zcd hb)) (λb hb=>by rw [List.mem_singleton] at hb;exact hb▸H.hR.apL) hk⟩
  ·have hlen:m=0:=by
    have:=congrArg List.length H.ex
    have:=H.hm
    simp at *;lia
   subst hlen
   refine zce (P:=λn s_0 s_1=>n=0/\ ∃Z_1,StX (· ∈fqs (zQ x.cps.toList false) env.locals e it 0) (λu=>False) Ω Ω.B s_0 Z_1 s_1) hA.handled hl hroom H.ho H.hg
    (H.hgo _ ⟨gOk hO,λb hb o eo=>eo⟩) (λv s_1 gs' hb hy=>(zuH hy).elim) (λs_1 hp h' hk=>?_)
   exact zO hp.2 λZ_1 SX=>⟨rfl,Z,zor (gs':= .finished) hO SX rfl (λb hb=> .inl hb) (λb hb=>(H.hz b hb).2) hk⟩
 self:=λfp wr xs Z s h hO=>wpAny_pyIter_gen (zot h) ⟨rfl,rfl⟩
end
structure zj4 (B:Heap) (ga:Addr):Prop where
 ex:∃o fd p,B.get? ga=some o/\ o.data= .func fd/\ fd.body= .stmts (zdm p)/\ fd.scope=zbd/\ fd.closure=[]/\ fd.globals=mainGlobals/\ fd.builtins=builtinsNs/\ B.CodeRec fd.code fd.qualname/\
  ∀v:Value,bindArgs fd ⟨[v],[]⟩=pure [(("addr" :Str),v)]
section
variable {Ω:En} {A:Around} {Z Z':Heap} {s s' s_0 s_1:Shared}
 {Φ:Fs}
set_option tactic.hygienic true in
theorem zou (G:Gl Ω.B Φ) (F:zj4 Ω.B Φ.ga):zdh Ω Φ.ga 40:=by
 intro A Z s v d xs hA hO r hd
 refine cps λG0 hG_0=>?_
 obtain ⟨o,fd,p,hof,hdf,hbody,hsc,hclo,hgl,hbl,hcd,hbind⟩:=F.ex
 refine hG_0 ?_
 have ho:=hO.sub _ _ (hO.base _ _ hof)
 unfold znx at hd
 split at hd
 ·rename_i x
  refine ifE hd λ_ hd=>?_
  refine eqE hd ?_
  refine wpAny_call (codeAny_call_generator (Nat.lt_of_le_of_lt (zv (Nat.le_add_right _ _) hA.depth) (by decide)) ho hdf (by refine za hsc ?_;rfl) (by refine za hsc ?_;rfl) hbody (hcd.keeps (hO.base.trans hO.sub)) ?_)
  refine za (hbind v) ?_
  refine wPu (wpAny_newFunctionEnv (by refine za hsc ?_;decide) (by refine za hsc ?_;intro y hy;simp at hy;refine za hy ?_;show zbd.names.lookup (Str.ofString "addr")=_;decide+kernel) (λh' hns hsb=>?_) (by refine za hsc ?_;rfl))
  let L:=s.heap.objs.size
  let env:Env:=newEnv fd.scope s.heap.objs.size fd.globals fd.closure (fd.qualname++ ".<locals>.") (some Φ.ga) fd.code none fd.builtins
  have keep:∀b o,s.heap.get? b=some o ->h'.get? b=some o:=λb o eo=>by
   refine za (hsb.2 b (Nat.ne_of_lt (Heap.lt_size eo))) ?_;exact Heap.get?_push_of_some _ eo
  have hsz:h'.objs.size=s.heap.objs.size+1:=by refine za hsb.1 ?_;rw [Heap.size_push]
  have hlim':h'.NoLimit:=zm (G.lims hO) λmc a b=>(zM mc (a.keeps keep) b)
  refine ⟨hlim',?_⟩
  have hgen:∀{ob:Obj},ob.cls= .type "generator" ->(∃nm qn,ob.data= .fields #[.int s.gens.size 0,nm,qn]) ->ob.slots= #[] ->ob.isFreed=false ->(h'.push ob).IsGen h'.objs.size s.gens.size:=λh1 ⟨nm,qn,h2⟩ h3 h4=>I34 _ nm qn (Heap.get?_push_size _ h4) h1 h2 h3
  have keep2:∀(ob:Obj) b o,s.heap.get? b=some o ->(h'.push ob).get? b=some o:=λob b o eo=>Heap.get?_push_of_some _ (keep b o eo)
  refine wpAny_pyIter_gen (g:=s.gens.size) (hgen rfl (I21 _ _ rfl) rfl rfl) ?_
  have zL:Z.get? s.heap.objs.size=none:=hO.sub.none (zh _)
  have R:Rel gTC env Z h' [some (.d (.str x)),none,none,none] (λu=>0):=by
   refine {kind:=by show fd.scope.kind=_;refine za hsc ?_;rfl,names:=λy=>?_,glob:=hgl,blt:=hbl,loc:=zM _ hns ?_,cel:= ?_,apL:=zL,injS:= ?_,injC:= ?_,own:= ?_,ownInj:= ?_,hi:= ?_,slot:= ?_,mainL:= ?_}
   ·show fd.scope.names.lookup y=_
    refine za hsc ?_;exact zbK
   ·intro y i pv e q
    have hy:=zgT e
    match i,hy,q with
    |0,hy,q=>
     refine zay hy ?_;cases q
     exact zM v (rfl) r
    |1,hy,q=>cases q
    |2,hy,q=>cases q
    |3,hy,q=>cases q
    | (n+4),hy,q=>exact zb q
   ·intro y k i e hk
    rcases zdn e with rfl|rfl<;>rcases hk with h|h<;>cases h
   ·intro y z k k' i h1 h2 _ _
    have h1:=zgT h1
    have h2:=zgT h2
    refine zay (h1.symm.trans h2) ?_;rfl
   ·intro y z b h1 h2
    have h1:fd.closure.lookup y=some b:=h1
    rw [hclo] at h1;exact zb h1
   ·intro i xs e
    refine zm (zoq i _ e) λd h _=>?_
    cases h
   ·intro i j xs ys e
    refine zm (zoq i _ e) λd h _=>?_
    cases h
   ·intro i pv e
    show i<5
    refine Or.elim (Nat.lt_or_ge i 4) (λh=>?_) λh=>?_
    ·lia
    ·exact zb ((List.getElem?_eq_none (by simpa using h)).symm.trans e)
   ·intro y k i e _
    have h:=zgT e
    refine Or.elim (Nat.lt_or_ge i 5) (λh'=>?_) λh'=>?_
    ·exact h'
    ·exact zb ((List.getElem?_eq_none (by simpa [zbd] using h')).symm.trans h)
   ·intro e
    refine E22 G.ns λmg mb q1 _=>?_
    refine E32 q1 λo' _ _ hm _=>?_
    clear q1
    have h1:=Heap.lt_size (hO.sub _ _ (hO.base _ _ hm))
    rw [<-e] at h1
    exact Nat.lt_irrefl _ h1
  refine ⟨[h'.objs.size,env.locals],[env.locals],(· =s.gens.size),_,_,Z,⟨⟨hO.sub.trans (keep2 _),hO.base,hO.os,hO.gens.push rfl,Ω.jk _ _ hO.j (λb o t e=>keep2 _ b o e),hO.zt⟩,.refl _,λu w t c=>rfl,hO.lv,λb o t e=>keep2 _ b o e,λi y e=>?_⟩,zsU (env:=env) (ad:=λu=>0) (p:=p) (g:=s.gens.size) (x:=x) hA G hsc ?_,⟨λb hb=>zaW hb (hO.ntF (z4 (by refine za hsz ?_;exact Nat.le_succ _))) (hO.ntF (zh _)),.inl ⟨rfl,rfl,zsR _,Array.getElem?_push_size ..,hgen rfl (I21 _ _ rfl) rfl rfl,?_⟩⟩,?_,λi hi=>Nat.le_of_eq hi.symm,?_⟩
  ·have hi:i<s.gens.size:=by
    refine Or.elim (Nat.lt_or_ge i s.gens.size) (λh=>?_) λh=>?_
    ·exact h
    ·exact zb ((Array.getElem?_eq_none h).symm.trans e)
   refine za (Array.getElem?_push_lt hi) ?_
   refine zF (Array.getElem?_eq_getElem hi) ?_;exact e
  ·refine za hsz ?_;exact Nat.succ_ne_self _
  ·exact zdI R zoq zL λo ho=>Heap.get?_push_of_some _ ho
  ·intro b hb
   rw [List.mem_singleton] at hb;refine za hb ?_;exact zh _
  ·intro b hb
   refine zaW hb ?_ ?_
   ·exact .inl (z4 (by refine za hsz ?_;exact Nat.le_succ _))
   ·exact .inl (zh _)
 ·exact zb hd
end
noncomputable def zdJ (name qual:Str) (params:Arguments) (body:List Stmt) (scope:Scope) (g:Addr) (cl:List (Str×Addr)) (pm:Value) (c' T:Addr):FuncData:=
 {name:=name,qualname:=qual,params:=params,body:= .stmts body,scope:=scope,globals:=g,closure:=cl,defaults:= .none,kwdefaults:= .none,doc:= .none,pyModule:=pm,annotations:=none,
  code:= .ref c',closureTuple:= .ref T,builtins:=builtinsNs}
def zcf (h:Heap) (c:Addr) (q:Str):Prop:=∃o vs t,h.get? c=some o/\ o.cls= .type "code" /\ o.data= .fields vs/\ vs[1]?=some (.str q t)
theorem zcf.rec' {h:Heap} {c:Addr} {q:Str} (x:zcf h c q):h.CodeRec (.ref c) q:=E34 x λo vs t a _ b r=>⟨c,o,vs,t,rfl,a,b,r⟩
theorem zcf.at' {h h':Heap} {c:Addr} {q:Str} (x:zcf h c q) (k:∀o,o.cls= .type "code" ->h.get? c=some o ->h'.get? c=some o):zcf h' c q:=E34 x λo vs t a hc b r=>I34 o vs t (k o hc a) hc b r
def zdo (h:Heap) (c P:Addr) (pos:Pos) (q:Str) (hit:Bool):Prop:=
 if hit=true then ∃ps c',h.IsCode c P ps/\ h.TableAt c P ps/\ codeAmong pos ps.toList=some (.ref c')/\ zcf h c' q
 else h.IsCode c P #[]/\ h.TableAt c P #[]
structure zid (Ω:En) (c P:Addr) (pos:Pos) (q:Str):Prop where
 tab:Ω.tab P
 get:∀h,Ω.J h ->∃hit,zdo h c P pos q hit
 set:∀h h',Ω.J h ->(∀b o,b≠P ->Ω.tab b \/zkQ o ->h.get? b=some o ->h'.get? b=some o) ->zdo h' c P pos q true ->Ω.J h'
section
variable {Ω:En} {A:Around} {E:Value ->Shared ->Prop} {s:Shared} {env:Env}
theorem zj5 {h h':Heap} {c P:Addr} {pos:Pos} {q:Str} {hit:Bool} (x:zdo h c P pos q hit) (k:∀b o,h.get? b=some o ->h'.get? b=some o):zdo h' c P pos q hit:=by
 unfold zdo at x |-
 split
 ·rename_i e
  rw [if_pos e] at x
  refine E24 x λps c' a b d e=>?_
  clear x
  exact I24 ps c' (a.keeps k) (b.keeps k) d (e.at' λo _=>k _ o)
 ·rename_i e
  rw [if_neg e] at x
  exact ⟨x.1.keeps k,x.2.keeps k⟩
theorem zdP {c P:Addr} {pos:Pos} {firstLine:Nat} {name q:Str} {p:Arguments} {scope:Scope} {body:FuncBody} {hit:Bool} {Q:Value ->Shared ->Prop}
  (hc:env.code= .ref c) (X:zdo s.heap c P pos q hit)
  (h:∀c' h' tk,(∀b o,(hit=false ->b≠P) ->s.heap.get? b=some o ->h'.get? b=some o) ->zdo h' c P pos q true ->zcf h' c' q ->Q (.ref c') {s with heap:=h',toks:=tk}):
  wpAny Ω.m A (functionCode env pos firstLine name q p scope body) Q E s:=by
 induction hit with
 |true=>
  refine E24 X λps c' a b d e=>?_
  clear X
  exact wpAny_functionCode_hit hc a d (h c' s.heap s.toks (λu v w e=>e) (I24 ps c' a b d e) e)
 |false=>
  refine zR X λa b=>?_
  clear X
  refine wpAny_functionCodeX hc a b rfl λc' h' tk hx hge hlt hok hrec htb u=>?_
  have hC:zcf h' c' q:=by
   refine E14 u λP' _ _ q1 _=>?_
   clear u
   refine E23 q1 λo vs eo ec _=>?_
   clear q1
   refine E44 hrec λc2 o2 vs2 t2 e2 g2 d2 r2=>?_
   clear hrec
   cases e2
   cases eo.symm.trans g2
   exact I34 o vs2 t2 eo ec d2 r2
  refine h c' h' tk (λb o hb e=>hx b o (hb rfl) e) (I24 _ c' hok htb ?_ hC) hC
  have:=codeAmong_snoc (pos:=pos) (c:= .ref c') [] trivial rfl
  simpa using this
theorem zfV {c P:Addr} {pos:Pos} {name q:Str} {params:Arguments} {body:List Stmt} {scope:Scope} {cl:List (Str×Addr)} {mg:Str ->Option Value} {hit:Bool} {Q:Value ->Shared ->Prop}
  (hcl:closureFor scope env=pure cl) (hne:cl.isEmpty=false) (hdoc:docOf body=none) (hkw:params.kwonlyargs=[]) (hg:s.heap.Ns env.globals mg) (hc:env.code= .ref c) (X:zdo s.heap c P pos q hit)
  (hgP:env.globals≠P) (hb:s.heap.BuiltinsAt mg P)
  (h:∀c' F T h' tk pm,(∀b o,(hit=false ->b≠P) ->s.heap.get? b=some o ->h'.get? b=some o) ->zdo h' c P pos q true ->zcf h' c' q ->
   s.heap.get? F=none ->(hit=false ->F≠P) ->h'.get? F=some {cls:= .type "function",data:= .func (zdJ name q params body scope env.globals cl pm c' T)} ->Q (.ref F) {s with heap:=h',toks:=tk}):
  wpAny Ω.m A (makeFunction name q params (.stmts body) scope env [] [] [] pos pos.line) Q E s:=by
 simp only [makeFunction,hkw,List.zip_nil_left,List.filterMap_nil,List.isEmpty_nil,if_true,pure_bind,hcl,hdoc,hne,Bool.false_eq_true,if_false]
 have hPlt:P<s.heap.objs.size:=by
  induction hit with
  |true=>refine E23 X λps c' a b _=>?_;clear X;exact Heap.lt_size b.2
  |false=>exact Heap.lt_size X.2.2
 refine wB (wB (wpAny_alloc (wPu ?_)))
 refine wB (zdP hc (zj5 X λb o e=>Heap.get?_push_of_some _ e) λc' h' tk hk hX hrec=>?_)
 refine E28 hb λbm o hbm hne0 hneg hneP hbo hcls hdict hdata=>?_
 clear hb
 have hg':h'.Ns env.globals mg:=hg.at' λo e=>hk _ _ (λu=>hgP) (Heap.get?_push_of_some _ e)
 refine wB (wpAny_builtinsFor hg' hbm hne0 (hk _ _ (λu=>hneP) (Heap.get?_push_of_some _ hbo)) hcls hdict hdata ?_)
 refine wB (wpAny_nsGet hg' ?_)
 simp
 have hT:h'.get? s.heap.objs.size≠none:=by
  refine za (hk _ _ (λu=>(Nat.ne_of_gt hPlt)) (Heap.get?_push_size _ rfl)) ?_
  exact λh=>nomatch h
 have hTlt:s.heap.objs.size<h'.objs.size:=by
  induction e:h'.get? s.heap.objs.size with
  |none=>exact absurd e hT
  |some o=>exact Heap.lt_size e
 refine wB (wpAny_alloc (wPu ?_))
 exact h c' h'.objs.size s.heap.objs.size _ _ _ (λb o hb e=>Heap.get?_push_of_some _ (hk b o hb (Heap.get?_push_of_some _ e))) (zj5 hX λb o e=>Heap.get?_push_of_some _ e) (hrec.at' λo _ e=>Heap.get?_push_of_some _ e) (z4 (Nat.le_of_lt hTlt)) (λu=>Nat.ne_of_gt (Nat.lt_trans hPlt hTlt)) (Heap.get?_push_size _ rfl)
theorem zgV {c P:Addr} {pos:Pos} {name q:Str} {params:Arguments} {body:List Stmt} {scope:Scope} {cl:List (Str×Addr)} {mg:Str ->Option Value} {hit:Bool} {Q:Flow ->Shared ->Prop} {ci:Addr} {v₀:Option Value}
  (hexec:exec (.FunctionDef name params body [] none [] scope none name pos) env=(do standAt pos;let f <-holding [] (makeFunction name (qualnameIn env name name) params (.stmts body) scope env [] [] [] pos pos.line);standAt pos;bindName env name f;pure .next))
  (hq:qualnameIn env name name=q)
  (hcl:closureFor scope env=pure cl) (hne:cl.isEmpty=false) (hdoc:docOf body=none) (hkw:params.kwonlyargs=[]) (hg:s.heap.Ns env.globals mg) (hc:env.code= .ref c) (X:zdo s.heap c P pos q hit)
  (hgP:env.globals≠P) (hb:s.heap.BuiltinsAt mg P) (hk:env.scope.kind= .function) (hl:env.kindOf name=some .cell) (hcc:env.cells.lookup name=some ci) (hv:s.heap.IsCell ci v₀) (hciP:ci≠P) (hcic:ci≠c)
  (h:∀c' F T h' tk pm,(∀b o,b≠ci ->(hit=false ->b≠P) ->s.heap.get? b=some o ->h'.get? b=some o) ->h'.IsCell ci (some (.ref F)) ->zcf h' c' q ->
   zdo h' c P pos q true ->s.heap.get? F=none ->h'.get? F=some {cls:= .type "function",data:= .func (zdJ name q params body scope env.globals cl pm c' T)} ->Q .next {s with heap:=h',toks:=tk}):
  wpAny Ω.m A (exec (.FunctionDef name params body [] none [] scope none name pos) env) Q E s:=by
 refine za hexec (za hq ?_)
 refine wB (wpAny_standAt (wB (wpAny_holding (zfV hcl hne hdoc hkw hg hc X hgP hb λc' F T h' tk pm hk' hX hrec hF hFP hf=>?_))))
 refine zm (id hv) λo ho hd=>?_
 have hv':h'.IsCell ci v₀:=zM o (hk' _ _ (λu=>hciP) ho) hd
 have hFc:F≠ci:=by rintro rfl;exact zb (hF.symm.trans ho)
 refine wB (wpAny_standAt (wB (wpAny_bindName (wpAny_storeName_cell hk hl hcc hv' λh'' hcell hs=>wPu ?_))))
 have kk:∀b o,b≠ci ->h'.get? b=some o ->h''.get? b=some o:=λb o hb e=>(hs.2 b hb).trans e
 have recK:∀{c2:Addr},zcf h' c2 q ->zcf h'' c2 q:=λhr=>hr.at' λo hc e=>kk _ _ (λx=>by
  refine zm hv' λo3 ho3 hd3=>?_
  clear hv'
  refine E34 hr λo2 vs2 t2 g2 _ d2 _=>?_
  clear hr
  subst x
  cases g2.symm.trans ho3
  cases d2.symm.trans hd3) e
 have tabK:∀{ps},h'.TableAt c P ps ->h''.TableAt c P ps:=λht=>let ⟨⟨o,vs,e,r⟩,e'⟩:=ht;⟨(I22 o vs (kk _ _ (Ne.symm hcic) e) r),kk _ _ (Ne.symm hciP) e'⟩
 refine h c' F T h'' tk pm (λb o hb hb' e=>kk b o hb (hk' b o hb' e)) hcell (recK hrec) ?_ hF (kk _ _ hFc hf)
 ·refine E24 hX λps c2 a b d e=>?_
  clear hX
  refine I24 ps c2 ?_ (tabK b) d (recK e)
  refine cps λG0 hG_0=>?_
  obtain ⟨o,vs,file,tf,flags,tg,inF,text,tt,op,ho,r1,r2,r3,r4,r5,r6,hop,r⟩:=a
  refine hG_0 ?_
  exact ⟨o,vs,file,tf,flags,tg,inF,text,tt,op,kk _ _ (Ne.symm hcic) ho,r1,r2,r3,r4,r5,r6,kk _ _ (Ne.symm hciP) hop,r⟩
end
structure FnB (B:Heap) (a:Addr) (np:Nat) (fd:FuncData) (src:List Stmt):Prop where
 ex:∃o ps,B.get? a=some o/\ o.data= .func fd/\ fd.body= .stmts src/\ fd.closure=[]/\ fd.globals=mainGlobals/\ fd.builtins=builtinsNs/\ B.CodeRec fd.code fd.qualname/\
  fd.scope.kind= .function/\ fd.scope.isCoroutine=false/\ fd.scope.isGenerator=false/\ zaJ (fd.scope.names.map (·.1))=true/\ (fd.scope.names.all λp=>p.2==NameKind.local||p.2==NameKind.cell||p.2==NameKind.globalImplicit)=true/\
  ps.length=np/\ (∀vals:List Value,vals.length=np ->bindArgs fd ⟨vals,[]⟩=pure (ps.zip vals))/\ zaJ ps=true/\ (∀(j:Nat) (x:Str),ps[j]?=some x ->∃k:NameKind,fd.scope.names[j]?=some (x,k)/\ (k=NameKind.local \/k=NameKind.cell))
section
variable {Ω:En} {A:Around} {Z Z' Z'':Heap} {s s' s'':Shared} {c:TC} {env:Env} {ρ ρ' ρ'':Rho} {ad ad' ad'':Nat ->Addr} {fl:Fl}
 {Φ:Fs} {S:Sv} {n m:Nat}
theorem zgW (G:Gl Ω.B Φ) (hA:Rm A (n+1)) {a:Addr} {np ns:Nat} {fd:FuncData} {src:List Stmt} (F:FnB Ω.B a np fd src) {args:List PyData} {vals:List Value} {Q E:Value ->Shared ->Prop}
  (hl:args.length=np) (hO:Ok Ω Z s) (r:zC Z vals args)
  (hrun:∀h_1 tk,Stp Ω Z s Z {s with heap:=h_1,toks:=tk} ->Sub s.heap h_1 ->Rel (zbI Φ.fns Φ.cst Φ.gen fd.scope src) (callEnvC fd s.heap.objs.size a) Z h_1 (args.map (λd=>some (.d d))++List.replicate ns none) (λu=>0) ->
   (∀b,Own (zbI Φ.fns Φ.cst Φ.gen fd.scope src) (callEnvC fd s.heap.objs.size a) (args.map (λd=>some (.d d))++List.replicate ns none) (λu=>0) b ->s.heap.get? b=none) ->Rm (A.deeper (callEnvC fd s.heap.objs.size a)) n ->
   wpAny Ω.m (A.deeper (callEnvC fd s.heap.objs.size a)) (execs src (callEnvC fd s.heap.objs.size a)) (λf s_2=>Q (match f with| .ret v=>v|_=> .none) s_2) (λe s'=>wpAny Ω.m (A.deeper (callEnvC fd s.heap.objs.size a)) (leaving (callEnvC fd s.heap.objs.size a) e) (λ_ s''=>E e s'') E s') {s with heap:=h_1,toks:=tk}):
  wpAny Ω.m A (call (.ref a) vals) Q E s:=by
 refine cps λG0 hG_0=>?_
 obtain ⟨o,ps,ho,hof,hbody,hclo,hgl,hbl,hcd,hk,hco,hge,hnd,hkinds,hpl,hbind,hpn,hps⟩:=F.ex
 refine hG_0 ?_
 have hlim:=G.lims hO
 have hvl:vals.length=np:=by refine za r.length ?_;exact za hl rfl
 have hkd:∀x k,(x,k)∈fd.scope.names ->k= .local \/k= .cell \/k= .globalImplicit:=by
  intro x k hm
  have:=List.all_eq_true.mp hkinds _ hm
  simp only [Bool.or_eq_true,beq_iff_eq] at this
  rcases this with (h|h)|h
  ·exact .inl h
  ·exact .inr (.inl h)
  ·exact .inr (.inr h)
 have hlook:∀x k,(x,k)∈fd.scope.names ->fd.scope.names.lookup x=some k:=λx k hm=>za2 hnd hm
 have cells:=zeG fd.scope.names (s.heap.push {cls:= .type "frame",data:= .dict #[]}) []
 rw [show (s.heap.push {cls:= .type "frame",data:= .dict #[]}).objs.size=s.heap.objs.size+1 from Heap.size_push ..] at cells
 refine E03 cells λc1 c2 c3=>?_
 clear cells
 refine wpAny_call (codeAny_call_cells (binds:=ps.zip vals) (Nat.lt_of_le_of_lt (zv (Nat.le_add_right _ _) hA.depth) (by decide)) (hO.sub _ _ (hO.base _ _ ho)) hof hlim (hcd.keeps (hO.base.trans hO.sub)) hbody (hbind vals hvl) hclo ?_ (λs_1 X=>?_) hco hge hk)
 ·intro x hx
  refine cps λG0 hG_0=>?_
  refine zR (List.of_mem_zip hx) λhx1 _=>?_
  refine zO (List.getElem?_of_mem hx1) λj hj=>?_
  refine zm (hps j _ hj) λk hk' hkk=>?_
  refine hG_0 ?_
  have hm:=List.mem_of_getElem? hk'
  rcases hkk with rfl|rfl
  ·exact .inl (hlook _ _ hm)
  ·refine .inr ⟨hlook _ _ hm,?_⟩
   refine zO (c2 x.1 (.inl hm)) λa' ha'=>?_
   refine za ha' ?_;rfl
 ·
  let env:=callEnvC fd s.heap.objs.size a
  refine E21 X.toInCall.same λh_1 tk e9=>?_;obtain rfl:=e9.symm
  have S_1:Stp Ω Z s Z {s with heap:=h_1,toks:=tk}:=Stp.grow hO X.toInCall.keep
  let c:=zbI Φ.fns Φ.cst Φ.gen fd.scope src
  have hbind':∀(i:Nat) (x:Str) (k:NameKind),fd.scope.names[i]?=some (x,k) ->∀(pv:PV),(args.map (λd=>some (PV.d d))++List.replicate ns none)[i]?=some (some pv) ->∃v d,ps[i]?=some x/\ vals[i]?=some v/\ pv=PV.d d/\ Rep Z v d:=by
   intro i x k hx pv hp
   refine zm (zaC hp) λd hd e9=>?_;refine za e9 ?_
   refine zm (r.get hd) λv hv rv=>?_
   have hi:i<ps.length:=by
    refine za hpl (zF hvl ?_)
    refine Or.elim (Nat.lt_or_ge i vals.length) (λh=>?_) λh=>?_
    ·exact h
    ·exact zb ((List.getElem?_eq_none h).symm.trans hv)
   refine zm (hps i _ (List.getElem?_eq_getElem hi)) λk' hk' _=>?_
   have hk':=hx▸hk';cases hk'
   exact I24 v d (List.getElem?_eq_getElem hi) hv rfl rv
  have hslot:∀x k i,c.nm.lookup x=some (k,i) ->fd.scope.names[i]?=some (x,k):=λx k i h=>by
   have:=(zbx h).2
   simpa using this
  have fresh:∀b,s.heap.objs.size<=b ->Z.get? b=none:=λb hb=>hO.sub.none (z4 hb)
  have R:Rel c env Z h_1 (args.map (λd=>some (.d d))++List.replicate ns none) (λu=>0):=by
   refine {kind:=hk,names:=λx=>zbK,glob:=hgl,blt:=hbl,loc:=zM _ X.toInCall.ns ?_,cel:= ?_,apL:=fresh _ (Nat.le_refl _),injS:= ?_,injC:= ?_,own:= ?_,ownInj:= ?_,hi:= ?_,slot:= ?_,mainL:= ?_}
   ·intro x i pv e q
    have hx:=hslot x _ i e
    refine E24 (hbind' i x _ hx pv q) λv d h1 h2 e9 rv=>?_;refine za e9 ?_
    exact zM v (zgO hpn h1 h2 (hlook _ _ (List.mem_of_getElem? hx))) rv
   ·intro x k i e hkk
    have hx:=hslot x k i e
    have hm:=List.mem_of_getElem? hx
    have hkc:k= .cell:=by
     refine Or.elim hkk (λh=>?_) λh=>?_
     ·exact h
     ·rcases hkd x k hm with h'|h'|h'<;>rw [h'] at h<;>cases h
    subst hkc
    obtain (⟨a',ha'⟩):=c2 x (.inl hm)
    refine I24 a' _ ha' (X.cell x a' ha') ?_ (λpv q=>?_)
    ·refine Or.elim (c1 x a' ha') (λh9=>?_) λh=>?_
     ·refine E03 h9 λ_ h _=>?_
      clear h9
      exact fresh _ (Nat.le_of_succ_le h)
     ·exact zb h
    ·refine cps λG0 hG_0=>?_
     refine E24 (hbind' i x _ hx pv q) λv d h1 h2 e9 rv=>?_;obtain rfl:=e9.symm
     refine hG_0 ?_
     refine zM v (zgP hpn h1 h2 ?_) rv
     show fd.scope.names.lookup x≠some .local
     refine za (hlook _ _ hm) ?_;decide
   ·intro x y k k' i hx hy _ _
    have h1:=hslot x k i hx
    refine zay (h1.symm.trans (hslot y k' i hy)) ?_;rfl
   ·intro x y b hx hy
    exact name_of_addr X.apart (mem_of_lookup hx) (mem_of_lookup hy)
   ·intro i xs e
    refine zm (zaC e) λd _ h=>?_
    cases h
   ·intro i j xs ys e
    refine zm (zaC e) λd _ h=>?_
    cases h
   ·intro i pv e
    refine zm (zaC e) λd h _=>?_
    have:i<args.length:=by
     refine Or.elim (Nat.lt_or_ge i args.length) (λh'=>?_) λh'=>?_
     ·exact h'
     ·exact zb ((List.getElem?_eq_none h').symm.trans h)
    have hi:i<ps.length:=by refine za hpl ?_;refine zF hl ?_;exact this
    refine zm (hps i _ (List.getElem?_eq_getElem hi)) λk' hk' _=>?_
    refine Or.elim (Nat.lt_or_ge i fd.scope.names.length) (λh'=>?_) λh'=>?_
    ·exact h'
    ·exact zb ((List.getElem?_eq_none h').symm.trans hk')
   ·intro x k i e _
    have h:=hslot x k i e
    refine Or.elim (Nat.lt_or_ge i fd.scope.names.length) (λh'=>?_) λh'=>?_
    ·exact h'
    ·exact zb ((List.getElem?_eq_none h').symm.trans h)
   ·intro e
    refine E22 G.ns λmg mb q1 _=>?_
    refine E32 q1 λo' _ _ hm _=>?_
    clear q1
    have h1:=Heap.lt_size (hO.sub _ _ (hO.base _ _ hm))
    have h1:=e▸h1
    exact Nat.lt_irrefl _ h1
  have hA':Rm (A.deeper env) n:=hA.deep
  have hfo:∀b,Own c env (args.map (λd=>some (PV.d d))++List.replicate ns none) (λu=>0) b ->s.heap.get? b=none:=by
   intro b h9;rcases h9 with h| ⟨x,k,i,e,_,_,hc⟩| ⟨i,xs,e,_⟩
   ·refine za h ?_;exact zh _
   ·refine Or.elim (c1 x b hc) (λh9=>?_) λh=>?_
    ·refine E03 h9 λ_ h _=>?_
     clear h9
     exact z4 (Nat.le_of_succ_le h)
    ·exact zb h
   ·refine zm (zaC e) λd _ h=>?_
    cases h
  exact hrun h_1 tk S_1 X.toInCall.keep R hfo hA'
theorem zfm (G:Gl Ω.B Φ) (hA:Rm A (n+1)) {a:Addr} {np ns:Nat} {fd:FuncData} {src:List Stmt} (F:FnB Ω.B a np fd src) {args:List PyData} {vals:List Value} {Q:Value ->Shared ->Prop}
  (hl:args.length=np) (hO:Ok Ω Z s) (r:zC Z vals args)
  (hrun:∀h_1 tk,Stp Ω Z s Z {s with heap:=h_1,toks:=tk} ->Rel (zbI Φ.fns Φ.cst Φ.gen fd.scope src) (callEnvC fd s.heap.objs.size a) Z h_1 (args.map (λd=>some (.d d))++List.replicate ns none) (λu=>0) ->
   (∀b,Own (zbI Φ.fns Φ.cst Φ.gen fd.scope src) (callEnvC fd s.heap.objs.size a) (args.map (λd=>some (.d d))++List.replicate ns none) (λu=>0) b ->s.heap.get? b=none) ->Rm (A.deeper (callEnvC fd s.heap.objs.size a)) n ->
   wpAny Ω.m (A.deeper (callEnvC fd s.heap.objs.size a)) (execs src (callEnvC fd s.heap.objs.size a)) (λf s_2=>Q (match f with| .ret v=>v|_=> .none) s_2) zf {s with heap:=h_1,toks:=tk}):
  wpAny Ω.m A (call (.ref a) vals) Q zf s:=
 zgW G hA F hl hO r λh_1 tk S_1 _ R hfo hA'=>wpAny_mono (hrun h_1 tk S_1 R hfo hA') (λ_ _ p=>p) λ_ _ x=>x.elim
end
section
variable (p:Nat ->Pos)
noncomputable abbrev eN (x:Str) (i:Nat):PySem.Expr:= .Name x (p i)
noncomputable abbrev eI (k:Int) (i:Nat):PySem.Expr:= .Constant (.int k) 0 (p i)
noncomputable abbrev eB (a:PySem.Expr) (o:Operator) (b:PySem.Expr) (i:Nat):PySem.Expr:= .BinOp a o b (p i)
noncomputable abbrev eC (f:PySem.Expr) (as:List PySem.Expr) (i:Nat):PySem.Expr:= .Call f as [] (p i)
noncomputable abbrev sA (x:Str) (i:Nat) (e:PySem.Expr) (j:Nat):Stmt:= .Assign [.Name x (p i)] e (p j)
noncomputable abbrev zj6 (x:Str) (i:Nat):Arg:={arg:=x,annotation:=none,pos:=p i}
noncomputable abbrev zov (as:List Arg):Arguments:={posonlyargs:=[],args:=as,vararg:=none,kwonlyargs:=[],kw_defaults:=[],kwarg:=none,defaults:=[]}
end
noncomputable abbrev zf6 (ns:List (Str×NameKind)):Scope:={kind:= .function,names:=ns,isGenerator:=false,isCoroutine:=false,more:=[]}
abbrev zl4 (p:Nat ->Pos) (i:Nat) (then_:List Stmt) (j:Nat):Stmt:=
 .If (.Compare (eB p (eN p "L" i) .Add (eI p 1 (i+1)) (i+2)) [.Eq] [eN p "R" (i+3)] (p (i+4))) then_ [] (p j)
abbrev zrX (p:Nat ->Pos) (i:Nat):Stmt:=sA p "mid" i (eB p (eB p (eN p "L" (i+1)) .Add (eN p "R" (i+2)) (i+3)) .RShift (eI p 1 (i+4)) (i+5)) (i+6)
abbrev zl6 (p:Nat ->Pos) (i:Nat):Stmt:=sA p "shift" i (eB p (eB p (eN p "mid" (i+1)) .Sub (eN p "L" (i+2)) (i+3)) .Mult (eN p "n" (i+4)) (i+5)) (i+6)
abbrev zuI (p:Nat ->Pos) (i:Nat) (a b:Str):PySem.Expr:=eC p (eN p "inner" i) [eN p a (i+1),eN p b (i+2)] (i+3)
abbrev zrY (p:Nat ->Pos) (i:Nat) (x a b:Str):Stmt:= .Expr (eC p (eN p "inner" i) [eN p x (i+1),eN p a (i+2),eN p b (i+3)] (i+4)) (p (i+5))
def zfn (p:Nat ->Pos):Arguments:=zov [zj6 p "L" 2,zj6 p "R" 3]
def zcB (p:Nat ->Pos):List Stmt:=[
 zl4 p 4 [.Return (some (.Subscript (eN p "digits" 9) (eN p "L" 10) (p 11))) (p 12)] 13,
 zrX p 14,zl6 p 21,
 .Return (some (eB p (eB p (zuI p 28 "mid" "R") .LShift (eN p "shift" 32) 33) .Add (zuI p 34 "L" "mid") 38)) (p 39)]
def zaT:Scope:=zf6 [("L",.local),("R",.local),("mid",.local),("shift",.local),("digits",.free),("inner",.free),("n",.free)]
noncomputable def zgX (p:Nat ->Pos):Pos:=p 40
def zbL (p:Nat ->Pos):List Stmt:=[
 .FunctionDef "inner" (zfn p) (zcB p) [] none [] zaT none "inner" (p 40),
 .Return (some (.IfExp (eN p "digits" 41) (eC p (eN p "inner" 42) [eI p 0 43,eC p (eN p "len" 44) [eN p "digits" 45] 46] 47) (eI p 0 48) (p 49))) (p 50)]
def zby:Scope:=zf6 [("digits",.cell),("n",.cell),("inner",.cell),("len",.globalImplicit)]
def zfo (p:Nat ->Pos):Arguments:=zov [zj6 p "x" 16,zj6 p "L" 17,zj6 p "R" 18]
def zcC (p:Nat ->Pos):List Stmt:=[
 zl4 p 19 [.Assign [.Subscript (eN p "a_digits" 24) (eN p "L" 25) (p 26)] (eN p "x" 27) (p 28),.Return none (p 29)] 30,
 zrX p 31,zl6 p 38,
 sA p "upper" 45 (eB p (eN p "x" 46) .RShift (eN p "shift" 47) 48) 49,
 sA p "lower" 50 (eB p (eN p "x" 51) .BitXor (eB p (eN p "upper" 52) .LShift (eN p "shift" 53) 54) 55) 56,
 zrY p 57 "lower" "L" "mid",zrY p 63 "upper" "mid" "R"]
def zaK:Scope:=zf6 [("x",.local),("L",.local),("R",.local),("mid",.local),("shift",.local),("upper",.local),("lower",.local),("a_digits",.free),("inner",.free),("n",.free)]
noncomputable def zgY (p:Nat ->Pos):Pos:=p 69
def zcg (p:Nat ->Pos):List Stmt:=[
 sA p "a_digits" 2 (eB p (.List [eI p 0 3] (p 4)) .Mult (eB p (eB p (eB p (eC p (.Attribute (eN p "a" 5) "bit_length" (p 6)) [] 7) .Add (eN p "n" 8) 9) .Sub (eI p 1 10) 11) .FloorDiv (eN p "n" 12) 13) 14) 15,
 .FunctionDef "inner" (zfo p) (zcC p) [] none [] zaK none "inner" (p 69),
 .If (eN p "a" 70) [.Expr (eC p (eN p "inner" 71) [eN p "a" 72,eI p 0 73,eC p (eN p "len" 74) [eN p "a_digits" 75] 76] 77) (p 78)] [] (p 79),
 .Return (some (eN p "a_digits" 80)) (p 81)]
def zb1:Scope:=zf6 [("a",.local),("n",.cell),("a_digits",.cell),("inner",.cell),("len",.globalImplicit)]
noncomputable def za8 (n:Nat):List Int ->Int
 | []=>0
 |d::r=>d+za8 n r*2^n
theorem zfL (n:Nat):∀(xs ys:List Int),za8 n (xs++ys)=za8 n xs+za8 n ys*2^(n*xs.length)
 | [],ys=>by
  show za8 n ys=0+za8 n ys*1
  rw [Int.mul_one,Int.zero_add]
 |d::xs,ys=>by
  show d+za8 n (xs++ys)*2^n=d+za8 n xs*2^n+za8 n ys*2^(n*(xs.length+1))
  refine za (zfL n xs ys) ?_
  rw [Int.add_mul,Int.mul_assoc,<-Int.pow_add]
  refine za (show n*xs.length+n=n*(xs.length+1) by rw [Nat.mul_succ]) ?_
  lia
theorem zgZ {n:Nat}:∀{xs:List Int},(∀d∈xs,0<=d/\ d<2^n) ->0<=za8 n xs/\ za8 n xs<2^(n*xs.length)
 | [],_=>⟨Int.le_refl 0,show (0:Int)<1 by decide⟩
 |d::xs,h=>by
  refine zR (h d (List.mem_cons_self ..)) λh1 h2=>?_
  refine zR (zgZ (xs:=xs) λe he=>h e (List.mem_cons_of_mem _ he)) λh3 h4=>?_
  have hp:(0:Int)<2^n:=Int.pow_pos (by simp)
  refine ⟨Int.add_nonneg h1 (Int.mul_nonneg h3 (Int.le_of_lt hp)),?_⟩
  refine za (by refine za List.length_cons ?_;rw [Nat.mul_succ,Int.pow_add]:(2:Int)^(n*(d::xs).length)=2^(n*xs.length)*2^n) ?_
  have:za8 n xs*2^n+2^n<=2^(n*xs.length)*2^n:=by
   have:=Int.mul_le_mul_of_nonneg_right (show za8 n xs+1<=2^(n*xs.length) by assumption) (Int.le_of_lt hp)
   rw [Int.add_mul,Int.one_mul] at this
   exact this
  show d+za8 n xs*2^n<_
  lia
theorem zl7 {a:Int} {k:Nat} (h0:0<=a) (h:a<2^k):zo a<=k:=by
 refine intBits_le_iff.mpr ?_
 have:((a.natAbs:Nat):Int)<((2^k:Nat):Int):=by
  exact za (Int.natAbs_of_nonneg h0) h
 exact_mod_cast this
theorem zam {k m:Nat} (h:k<2^m):zo (k:Int)<=m:=zl7 (Int.natCast_nonneg _) (by exact_mod_cast h)
theorem zow (L R:Nat):(((L:Int)+(R:Int)).fdiv (2^(1:Int).toNat))=(((L+R)/2:Nat):Int):=by
 refine za (Int.fdiv_eq_ediv_of_nonneg _ (by simp)) ?_
 norm_cast
noncomputable def zbe:Nat ->Option Fn:=λu=>none
noncomputable def zsV:List (Str×NameKind×Nat) ->Bool
 | []=>true
 |p::r=>(r.all λq=> !(q.2.2==p.2.2))&&zsV r
theorem zqu {l:List (Str×NameKind×Nat)}:zsV l=true ->∀{p q},p∈l ->q∈l ->p.2.2=q.2.2 ->p=q:=by
 induction l with
 |nil=>exact λ_ _ _ hp=>absurd hp List.not_mem_nil
 |cons a l ih=>
  exact λh {p q} hp hq e=>zaH h λh1 h2=>by
   have ne:∀{x},x∈l ->x.2.2≠a.2.2:=λhx e=>Bool.noConfusion ((congrArg not (beq_iff_eq.mpr e)).symm.trans (List.all_eq_true.mp h1 _ hx))
   revert e
   refine zdO hp (zdO hq (λ_=>rfl) λhq' e=>absurd e.symm (ne hq')) λhp'=>zdO hq (λe=>absurd e (ne hp')) λhq' e=>ih h2 hp' hq' e
noncomputable def zuJ (n:Nat) (nm:List (Str×NameKind×Nat)):Bool:=nm.all λq=>decide (q.2.2<n)
noncomputable def zsW:Rho ->Bool
 | []=>true
 |o::r=>(match o with|some (.m _)=>false|_=>true)&&zsW r
def NoM (ρ:Rho):Prop:=∀(i:Nat) (xs:List PyData),ρ[i]?≠some (some (.m xs))
theorem zf7:∀{ρ:Rho},zsW ρ=true ->NoM ρ
 | [],_,i,xs,e=>by exact zb (List.getElem?_nil.symm.trans e)
 |o::r,h,0,xs,e=>zaH h λh1 u=>by
  cases e;cases h1
 |o::r,h,i+1,xs,e=>zaH h λu h2=>zf7 h2 i xs e
theorem z9 {α:Type} {l:List (Str×α)} {x:Str} {a:α} (h:l.lookup x=some a):(x,a)∈l:=zbj h
theorem zox {c:TC} {env:Env} {Z h:Heap} {ρ:Rho} {ad:Nat ->Addr} (kind:env.scope.kind= .function) (names:znJ env.scope.names c.nm=true) (glob:env.globals=mainGlobals) (blt:env.builtins=builtinsNs)
  (loc:∃m,h.Ns env.locals m/\ ∀x i pv,c.nm.lookup x=some (.local,i) ->ρ[i]?=some (some pv) ->∃v,m x=some v/\ zc2 Z ad i v pv)
  (cel:∀x k i,c.nm.lookup x=some (k,i) ->(k= .cell \/k= .free) ->∃a ov,env.cells.lookup x=some a/\ h.IsCell a ov/\ Z.get? a=none/\ ∀pv,ρ[i]?=some (some pv) ->∃v,ov=some v/\ zc2 Z ad i v pv)
  (apL:Z.get? env.locals=none) (inj:zsV c.nm=true) (injC:∀x y a,env.cells.lookup x=some a ->env.cells.lookup y=some a ->x=y) (no:zsW ρ=true) (hl:ρ.length<=c.nx) (sl:zuJ c.nx c.nm=true) (mainL:env.locals≠mainGlobals):Rel c env Z h ρ ad:=
 {kind:=kind,glob:=glob,blt:=blt,loc:=loc,cel:=cel,apL:=apL,injC:=injC,mainL:=mainL
  names:=λx=>zaH names λn1 n2=>zfC (λx hx=>by
    refine zm (List.mem_map.mp hx) λq hq e9=>?_;subst e9
    exact eq_of_beq (List.all_eq_true.mp n1 q hq)) (λx hx=>by
    refine zm (List.mem_map.mp hx) λq hq e9=>?_;refine za e9.symm ?_
    exact List.contains_iff_mem.mp (List.all_eq_true.mp n2 q hq)) x
  injS:=λx y k k' i h1 h2 u w=>congrArg Prod.fst (zqu inj (z9 h1) (z9 h2) rfl)
  own:=λi xs e=>absurd e (zf7 no i xs),ownInj:=λi j xs ys e=>absurd e (zf7 no i xs)
  hi:=λi pv e=>Nat.lt_of_lt_of_le (List.getElem?_eq_some_iff.mp e).1 hl
  slot:=λx k i e u=>of_decide_eq_true (List.all_eq_true.mp sl _ (z9 e))}
theorem zoy {x y z:Str} {a b c:Addr} (h1:a≠b) (h2:a≠c) (h3:b≠c) {u v:Str} {d:Addr} (hu:[(x,a),(y,b),(z,c)].lookup u=some d) (hv:[(x,a),(y,b),(z,c)].lookup v=some d):u=v:=by
 have hu:=z9 hu
 have hv:=z9 hv
 simp only [List.mem_cons,Prod.mk.injEq,List.not_mem_nil,or_false] at hu hv
 rcases hu with ⟨rfl,rfl⟩| ⟨rfl,rfl⟩| ⟨rfl,rfl⟩<;>rcases hv with ⟨rfl,h⟩| ⟨rfl,h⟩| ⟨rfl,h⟩<;>first|rfl|exact absurd h h1|exact absurd h h2|exact absurd h h3|exact absurd h.symm h1|exact absurd h.symm h2|exact absurd h.symm h3
theorem zb2 {Z:Heap} {ad:Nat ->Addr} {i:Nat} {a:Int} {t:Tok}:zc2 Z ad i (.int a t) (.d (.int a)):=(zu (F:=Z)).mpr ⟨t,rfl⟩
noncomputable def dTC (gen:Str):TC:=⟨[("digits",(.free,0)),("inner",(.free,1)),("n",(.free,2)),("L",(.local,3)),("R",(.local,4)),("mid",(.local,5)),("shift",(.local,6))],[],[],7,[],gen,3,false⟩
section
variable {Ω:En} {A:Around} {Z Z':Heap} {s s':Shared} {Φ:Fs} {p:Nat ->Pos} {q:Str} {pm:Value} {c' T F cd ci cn:Addr}
def dFd (p:Nat ->Pos) (q:Str) (pm:Value) (c' T cd ci cn:Addr):FuncData:=zdJ "inner" q (zfn p) (zcB p) zaT mainGlobals [("n",cn),("inner",ci),("digits",cd)] pm c' T
structure DOn (Z h:Heap) (p:Nat ->Pos) (q:Str) (pm:Value) (c' T F cd ci cn:Addr) (is:List Int) (n:Nat):Prop where
 fn:h.get? F=some {cls:= .type "function",data:= .func (dFd p q pm c' T cd ci cn)}
 cr:zcf h c' q
 dig:∃v,h.IsCell cd (some v)/\ Rep Z v (.list (is.map .int))
 num:∃t,h.IsCell cn (some (.int (n:Int) t))
 inn:h.IsCell ci (some (.ref F))
 zd:Z.get? cd=none
 zn:Z.get? cn=none
 zi:Z.get? ci=none
 ap:cd≠ci/\ cd≠cn/\ ci≠cn
 lt:cd<h.objs.size/\ ci<h.objs.size/\ cn<h.objs.size
theorem zbV {h h':Heap} {a:Addr} {v:Option Value} (x:h.IsCell a v) (k:∀o,h.get? a=some o ->h'.get? a=some o):h'.IsCell a v:=zm x λo e d=>(zM o (k o e) d)
theorem zdK {h:Heap} {a:Addr} {v:Option Value} (x:h.IsCell a v):a<h.objs.size:=zm x λo e d=>Heap.lt_size e
theorem zcD {a:Addr} {v:Option Value} (S:Stp Ω Z s Z' s') (x:s.heap.IsCell a v):s'.heap.IsCell a v:=zm x λo e d=>zM o (S.hN (noF d λ_ x=>nomatch x) e) d
theorem zg0 {a:Addr} {v:Option Value} (S:Stp Ω Z s Z' s') (x:s.heap.IsCell a v) (z:Z.get? a=none):Z'.get? a=none:=zm x λo e d=>(S.new _ _ (S.nt (noF d λ_ x=>nomatch x) e) e).trans z
theorem DOn.stp {is:List Int} {n:Nat} (D:DOn Z s.heap p q pm c' T F cd ci cn is n) (S:Stp Ω Z s Z' s'):DOn Z' s'.heap p q pm c' T F cd ci cn is n where
 fn:=S.h _ _ (S.ntC D.fn rfl) D.fn
 cr:=D.cr.at' λo hc e=>S.h _ _ (S.ntC e hc) e
 dig:=zm D.dig λv a b=>zM v (zcD S a) (b.mono S.f)
 num:=zO D.num λt a=>⟨t,zcD S a⟩
 inn:=zcD S D.inn
 zd:=zm D.dig λv a b=>zg0 S a D.zd
 zn:=zO D.num λt a=>zg0 S a D.zn
 zi:=zg0 S D.inn D.zi
 ap:=D.ap
 lt:=I03 (zm D.dig λv a b=>zdK (zcD S a)) (zdK (zcD S D.inn)) (zO D.num λt a=>zdK (zcD S a))
theorem zi1 {x:Str} {k:NameKind} {i:Nat} (h:(dTC Φ.gen).nm.lookup x=some (k,i)):
  (x="digits" /\ k= .free/\ i=0) \/(x="inner" /\ k= .free/\ i=1) \/(x="n" /\ k= .free/\ i=2) \/(x="L" /\ k= .local/\ i=3) \/(x="R" /\ k= .local/\ i=4) \/(x="mid" /\ k= .local/\ i=5) \/(x="shift" /\ k= .local/\ i=6):=by
 have:=z9 h
 simpa [dTC] using this
theorem zuK {is:List Int} {n L R:Nat} {tl tr:Tok} {h:Heap} {L0:Addr} (D:DOn Z h p q pm c' T F cd ci cn is n) (hns:h.Ns L0 (λx=>[(("L" :Str),Value.int (L:Int) tl),("R",.int (R:Int) tr)].reverse.lookup x)) (zL:Z.get? L0=none) (hm:L0≠mainGlobals):
  Rel (dTC Φ.gen) (callEnv (dFd p q pm c' T cd ci cn) L0 F) Z h [some (.d (.list (is.map .int))),none,some (.d (.int (n:Int))),some (.d (.int (L:Int))),some (.d (.int (R:Int))),none,none] (λu=>0):=by
 refine E03 D.ap λa1 a2 a3=>?_
 refine zox rfl (by kernel_rfl) rfl rfl (zM _ hns ?_) ?_ zL (by kernel_rfl) (λx y b h1 h2=>zoy (x:="n") (y:="inner") (z:="digits") a3.symm a2.symm a1.symm h1 h2) rfl (Nat.le_refl _) (by kernel_rfl) hm
 ·intro x i pv e hp
  rcases zi1 e with ⟨rfl,h1,rfl⟩| ⟨rfl,h1,rfl⟩| ⟨rfl,h1,rfl⟩| ⟨rfl,_,rfl⟩| ⟨rfl,_,rfl⟩| ⟨rfl,_,rfl⟩| ⟨rfl,_,rfl⟩
  ·cases h1
  ·cases h1
  ·cases h1
  ·cases hp;exact zM (.int (L:Int) tl) rfl zb2
  ·cases hp;exact zM (.int (R:Int) tr) rfl zb2
  ·cases hp
  ·cases hp
 ·intro x k i e hk
  rcases zi1 e with ⟨rfl,h1,rfl⟩| ⟨rfl,h1,rfl⟩| ⟨rfl,h1,rfl⟩| ⟨rfl,h1,rfl⟩| ⟨rfl,h1,rfl⟩| ⟨rfl,h1,rfl⟩| ⟨rfl,h1,rfl⟩
  ·refine zm D.dig λv a r=>?_
   exact I24 cd _ rfl a D.zd (λpv hp=>by cases hp;exact zM v rfl r)
  ·exact I24 ci _ rfl D.inn D.zi (λpv hp=>by cases hp)
  ·refine zO D.num λt a=>?_
   exact I24 cn _ rfl a D.zn (λpv hp=>by cases hp;exact zM _ rfl zb2)
  all_goals (subst h1;rcases hk with h|h<;>exact nomatch h)
end
theorem zqv {xs:List PyData} {L:Nat} {d:PyData} (h:xs[L]?=some d) (hb:xs.length<=big):zbf (.list xs) (.int (L:Int))=some d:=by
 have hL:L<xs.length:=by
  rcases Nat.lt_or_ge L xs.length with h'|h'
  ·exact h'
  ·exact zb ((List.getElem?_eq_none h').symm.trans h)
 show (if xs.length<=big then (seqIndex? (L:Int) xs.length).bind (xs[·]?) else none)=_
 refine za (if_pos hb) ?_
 have e:seqIndex? (L:Int) xs.length=some L:=by
  unfold seqIndex?
  have h0:¬((L:Int)<0):=by lia
  simp [h0,hL]
 refine za e ?_;exact h
section
variable {Ω:En} {A:Around} {Z Z':Heap} {s s':Shared} {Φ:Fs} {p:Nat ->Pos} {q:Str} {pm:Value} {c' T F cd ci cn:Addr} {env:Env} {ρ:Rho} {ad:Nat ->Addr}
theorem zeL {i:Nat} {d:PyData} (h:NoM ρ):NoM (ρ.set i (some (.d d))):=by
 intro j xs e
 rcases zy e with ⟨_,e⟩| ⟨_,e⟩
 ·cases e
 ·exact h j xs e
theorem zl8 (h:NoM ρ) {b:Addr} (o:Own (dTC Φ.gen) env ρ ad b):b=env.locals:=by
 rcases o with o| ⟨x,k,i,e,hk,hl,_⟩| ⟨i,xs,e,_⟩
 ·exact o
 ·have hl:3<=i:=hl
  rcases zi1 e with ⟨_,h1,rfl⟩| ⟨_,h1,rfl⟩| ⟨_,h1,rfl⟩| ⟨_,h1,rfl⟩| ⟨_,h1,rfl⟩| ⟨_,h1,rfl⟩| ⟨_,h1,rfl⟩
  ·lia
  ·lia
  ·lia
  all_goals (subst h1;rcases hk with h|h<;>cases h)
 ·exact absurd e (h i xs)
theorem zcP {c:TC} {s0:Shared} {Z0:Heap} {ρ':Rho} {ad':Nat ->Addr} (T:Stp Ω Z0 s0 Z s) (a:Adv Ω c env ρ ad Z s ρ' ad' Z' s') (h:∀b,Own c env ρ ad b ->s0.heap.get? b=none):Stp Ω Z0 s0 Z' s':=
 ((T.x (W:=λ_=>False) (GI:=λ_=>False)).trans a.stx (λb o=> .inr (h b o)) (λ_ h=>h.elim)).stp
set_option maxRecDepth 100000 in
theorem zqw (a b:Value):bindArgs (dFd p q pm c' T cd ci cn) ⟨[a,b],[]⟩=pure [(("L" :Str),a),("R",b)]:=by rfl
def zoz (Ω:En) (p:Nat ->Pos) (q:Str) (pm:Value) (c' T F cd ci cn:Addr) (is:List Int) (n k:Nat):Prop:=
 ∀(A:Around) (Z:Heap) (s:Shared) (L R:Nat) (tl tr:Tok),Rm A (k+50) ->Ok Ω Z s ->DOn Z s.heap p q pm c' T F cd ci cn is n ->L<R ->R<=is.length ->R-L<=2^k ->
  wpAny Ω.m A (call (.ref F) [.int (L:Int) tl,.int (R:Int) tr]) (Pst Ω Z s (.int (za8 n ((is.drop L).take (R-L))))) zf s
theorem zfp {L M R:Nat} (h1:L<=M) (h2:M<=R):R-L=(M-L)+(R-M):=(Nat.sub_add_sub_cancel h2 h1).symm.trans (Nat.add_comm ..)
theorem zoA {is:List Int} {L M R:Nat} (h1:L<=M) (h2:M<=R):(is.drop L).take (R-L)=(is.drop L).take (M-L)++(is.drop M).take (R-M):=by
 refine za (show R-L=(M-L)+(R-M) from zfp h1 h2) (za List.take_add ?_)
 exact za List.drop_drop (za (Nat.add_sub_cancel' h1) rfl)
theorem zoB {L M n:Nat} (h:L<=M) (hM:M<=big) (hn:n<=2^24):zaZ .Mult (.int ((M:Int)-(L:Int))) (.int (n:Int))=some (.int (((M-L)*n:Nat):Int)):=by
 exact zF (Int.ofNat_sub h) (if_pos (zv (Nat.add_le_add (zam (m:=20) (Nat.lt_of_le_of_lt (zv (Nat.sub_le ..) hM) (by decide))) (zam (m:=25) (Nat.lt_of_le_of_lt hn (by decide)))) (by decide)))
theorem zco {v:Int} {k:Nat} (h1:zo v<=2^24) (h3:k<=2^24):zaZ .LShift (.int v) (.int (k:Int))=some (.int (v*2^k)):=
 if_pos ⟨Int.natCast_nonneg _,Int.le_trans (Int.ofNat_le.mpr (zv (Nat.add_le_add h1 h3) (show 2^24+2^24<=134217728 by decide))) (by decide)⟩
theorem zi2 {L R:Nat} (h:L<R) (hc:L+1≠R):L<(L+R)/2/\ (L+R)/2<R:=by omega
theorem zoC {L R c:Nat} (h:R-L<=2*c):(L+R)/2-L<=c:=by omega
theorem zoD {L R c:Nat} (h:R-L<=2*c):R-(L+R)/2<=c:=by omega
set_option maxRecDepth 100000 in
theorem zj7 (H:zaf Ω Φ.none (run zbe 6) 46) {is:List Int} {n k:Nat} (hb:∀d∈is,0<=d/\ d<2^n) (hsz:is.length*n<=2^24) (hlen:is.length<=big)
  (ih:k=0 \/zoz Ω p q pm c' T F cd ci cn is n (k-1)):zoz Ω p q pm c' T F cd ci cn is n k:=by
 intro A Z s L R tl tR hA hO D hLR hR hk
 have hroom:A.depth<recursionLimit:=Nat.lt_of_le_of_lt (zv (Nat.le_add_right _ _) hA.depth) (by decide)
 refine wpAny_call (codeAny_call_def hroom D.fn (fd:=dFd p q pm c' T cd ci cn) rfl (H.gl.lims hO) D.cr.rec' (body:=zcB p) rfl (BindsTo.of_eq (zqw _ _)) (by show ∀x∈zaT.names,x.2≠ .cell;decide+kernel)
  (by
   intro x hx
   refine zaW hx ?_ ?_
   ·show zaT.names.lookup (Str.ofString "L")=_;decide+kernel
   ·show zaT.names.lookup (Str.ofString "R")=_;decide+kernel) (λh_0 hns hkp=>?_) rfl rfl rfl)
 let env:Env:=callEnv (dFd p q pm c' T cd ci cn) s.heap.objs.size F
 let A':Around:=A.deeper env
 have hA1:Rm A' (k+49):=hA.deep
 have hA':Rm A' 46:=hA1.le (zv (by decide) (Nat.le_add_left 49 k))
 have hG:GlC (dTC Φ.gen) Φ.none:=⟨rfl,rfl,rfl⟩
 have S_1:Stp Ω Z s Z {s with heap:=h_0,toks:=s.toks+2}:=Stp.grow hO hkp
 have hm:s.heap.objs.size≠mainGlobals:=by
  intro e
  refine E22 H.gl.ns λmg mb q1 _=>?_
  refine E32 q1 λo' _ _ hm _=>?_
  clear q1
  have h1:=Heap.lt_size (hO.sub _ _ (hO.base _ _ hm))
  rw [<-e] at h1
  exact Nat.lt_irrefl _ h1
 have R0:Rel (dTC Φ.gen) env Z h_0 _ (λ_=>0):=zuK (D.stp S_1) hns (hO.sub.none (zh _)) hm
 show wpAny Ω.m A' (execs (zcB p) env) (λf s'=>Pst Ω Z s (.int (za8 n ((is.drop L).take (R-L)))) (match f with| .ret v=>v|_=> .none) s') _ _
 refine wpAny_mono (E:=zf) ?_ (λ_ _ x=>x) λ_ _ x=>x.elim
 refine wpAny_execs_cons (wpAny_If (za9.then (H.tst 60 (dTC Φ.gen) _ (.cmp .Eq (.bin .Add (.v 3) (.c (.int 1))) (.v 4)) _ (.bool ((L:Int)+1==(R:Int))) ((L:Int)+1==(R:Int)) (by rfl) (by rfl) rfl A' env Z _ _ hA' hG S_1.ok R0) λs_1 Z_1 S_2=>?_))
 have R1:=R0.stp S_2
 have T1:=S_1.trans S_2
 by_cases hc:L+1=R
 ·have hc':((L:Int)+1==(R:Int))=true:=beq_iff_eq.mpr (congrArg (λn:Nat=>(n:Int)) hc)
  refine za hc' (za (if_pos rfl) ?_)
  have hL:L<is.length:=zv (Nat.le_of_eq hc) hR
  have hex:(run zbe 6).ex [some (PV.d (PyData.list (is.map .int))),none,some (.d (.int (n:Int))),some (.d (.int (L:Int))),some (.d (.int (R:Int))),none,none] (.idx (.v 0) (.v 3))=some (.int (is[L])):=by
   exact zqv (by refine za List.getElem?_map ?_;refine za (List.getElem?_eq_getElem hL) ?_;rfl) (by simpa using hlen)
  refine wpAny_execs_cons (wpAny_Return_some (Pst.then (H.ex 60 (dTC Φ.gen) _ (.idx (.v 0) (.v 3)) _ (.int (is[L])) (by rfl) hex A' env Z_1 s_1 _ hA' hG S_2.ok R1) λv s_2 Z_2 S_3 r=>?_))
  refine zM Z_2 (T1.trans S_3) ?_
  have e:za8 n ((is.drop L).take (R-L))=is[L]:=by
   refine zF hc ?_
   rw [Nat.add_sub_cancel_left]
   refine za (List.drop_eq_getElem_cons hL) ?_
   show is[L]+0*2^n=is[L]
   rw [Int.zero_mul,Int.add_zero]
  refine za e ?_;exact r
 ·have hc':((L:Int)+1==(R:Int))=false:=beq_eq_false_iff_ne.mpr λh=>hc (Int.ofNat_inj.mp h)
  refine za hc' (za (if_neg Bool.false_ne_true) ?_)
  refine wpAny_execs_nil ?_
  have hk0:k≠0:=λe=>hc (Nat.le_antisymm hLR (zv (Nat.sub_le_iff_le_add.mp (zv hk (Nat.le_of_eq (congrArg (2^ ·) e)))) (Nat.le_of_eq (Nat.add_comm 1 L))))
  have kp:k-1+1=k:=Nat.sub_add_cancel (Nat.pos_of_ne_zero hk0)
  have ih:=ih.resolve_left hk0
  let M:=(L+R)/2
  have hM1:L<M:=(zi2 hLR hc).1
  have hM2:M<R:=(zi2 hLR hc).2
  have hMl:M<=is.length:=zv (Nat.le_of_lt hM2) hR
  let ρ0:Rho:=[some (PV.d (PyData.list (is.map .int))),none,some (.d (.int (n:Int))),some (.d (.int (L:Int))),some (.d (.int (R:Int))),none,none]
  have n0:NoM ρ0:=λi xs e=>by
   match i,e with
   |0,e=>cases e
   |1,e=>cases e
   |2,e=>cases e
   |3,e=>cases e
   |4,e=>cases e
   |5,e=>cases e
   |6,e=>cases e
   | (n+7),e=>exact zb e
  have hex1:(run zbe 6).ex ρ0 (.bin .RShift (.bin .Add (.v 3) (.v 4)) (.c (.int 1)))=some (.int (M:Int)):=by
   have:=zow L R
   refine za (show ((M:Nat):Int)=(((L+R)/2:Nat):Int) from rfl) ?_;refine zF this ?_;rfl
  refine wpAny_execs_cons (wpAny_Assign_Name (Pst.then (H.ex 60 (dTC Φ.gen) _ _ ρ0 (.int (M:Int)) (by rfl) hex1 A' env Z_1 s_1 _ hA' hG S_2.ok R1) λv s_2 Z_2 S_3 r=>zaQ (c:=dTC Φ.gen) (i:=5) (by rfl) S_3.ok (R1.stp S_3) r λs_3 a_3=>?_) rfl)
  have T_3:=zcP (T1.trans S_3) a_3 λb o=>by refine za (zl8 n0 o) ?_;exact zh _
  let ρ_1:Rho:=ρ0.set 5 (some (.d (.int (M:Int))))
  have n1:NoM ρ_1:=zeL n0
  have hex2:(run zbe 6).ex ρ_1 (.bin .Mult (.bin .Sub (.v 5) (.v 3)) (.v 2))=some (.int (((M-L)*n:Nat):Int)):=by
   exact zoB (Nat.le_of_lt hM1) (zv hMl hlen) (zv (Nat.le_mul_of_pos_left n (Nat.lt_of_lt_of_le (Nat.lt_of_le_of_lt (Nat.zero_le _) hLR) hR)) hsz)
  refine wpAny_execs_cons (wpAny_Assign_Name (Pst.then (H.ex 60 (dTC Φ.gen) _ _ ρ_1 _ (by rfl) hex2 A' env Z_2 s_3 _ hA' hG a_3.stx.ok a_3.rel) λv s_4 Z_4 S_4 r=>zaQ (c:=dTC Φ.gen) (i:=6) (by rfl) S_4.ok (a_3.rel.stp S_4) r λs_5 a_5=>?_) rfl)
  have T5:=zcP (T_3.trans S_4) a_5 λb o=>by refine za (zl8 n1 o) ?_;exact zh _
  let ρ_2:Rho:=ρ_1.set 6 (some (.d (.int (((M-L)*n:Nat):Int))))
  have callIt:∀{a b:Nat} {ea eb:PySem.Expr} {pa pb:PE} {p1 p2:Pos} {Zi:Heap} {si:Shared},Stp Ω Z s Zi si ->Rel (dTC Φ.gen) env Zi si.heap ρ_2 (λ_=>0) ->tr 60 (dTC Φ.gen) ea=some pa ->tr 60 (dTC Φ.gen) eb=some pb ->
    (run zbe 6).ex ρ_2 pa=some (.int (a:Int)) ->(run zbe 6).ex ρ_2 pb=some (.int (b:Int)) ->a<b ->b<=is.length ->b-a<=2^(k-1) ->
    wpAny Ω.m A' (eval (.Call (.Name "inner" p1) [ea,eb] [] p2) env) (Pst Ω Zi si (.int (za8 n ((is.drop a).take (b-a))))) zf si:=by
   intro a b ea eb pa pb p1 p2 Zi si Ti Ri h1 h2 h3 h4 h5 h6 h7
   have Di:=D.stp Ti
   refine wpAny_Call_NameR (wpAny_Name (wpAny_loadName_free (c:=ci) rfl (by rfl) (by rfl) Di.inn ?_ (by decide+kernel)) (by decide+kernel))
   refine Calls.callWith_function (z7 (H.ex 60) hA' hG (pes:=[pa,pb]) (ds:=[.int (a:Int),.int (b:Int)]) (zcA h1 h2) (zdE h3 h4) Ti.ok Ri λvs s' Z' S' r=>⟨⟨(Di.stp S').fn,rfl⟩,?_⟩)
   refine E23 (zG.mp r) λv vs' e9 r1 q=>?_;refine za e9 ?_
   refine E23 (zG.mp q) λv' vs'' e9 r2 q=>?_;refine za e9 ?_
   refine za q ?_
   obtain (⟨t1,e9⟩):=r1;refine za e9 ?_;obtain (⟨t2,e9⟩):=r2;refine za e9 ?_
   refine zac S' (ih A' Z' s' a b t1 t2 (hA1.le (Nat.le_of_eq (congrArg (· +49) kp))) S'.ok (Di.stp S') h5 h6 h7)
  have hk2:R-L<=2*2^(k-1):=zv hk (Nat.le_of_eq ((congrArg (2^ ·) kp.symm).trans Nat.pow_succ'))
  let xs:=(is.drop L).take (M-L)
  let ys:=(is.drop M).take (R-M)
  have hxl:xs.length=M-L:=(List.length_take ..).trans (Nat.min_eq_left (by refine za List.length_drop ?_;exact Nat.sub_le_sub_right hMl L))
  have hyl:ys.length=R-M:=(List.length_take ..).trans (Nat.min_eq_left (by refine za List.length_drop ?_;exact Nat.sub_le_sub_right hR M))
  have hyb:0<=za8 n ys/\ za8 n ys<2^(n*ys.length):=zgZ λd hd=>hb d (List.mem_of_mem_drop (List.mem_of_mem_take hd))
  refine wpAny_execs_cons (wpAny_Return_some (wpAny_BinOp (wpAny_BinOp (Pst.then (callIt (a:=M) (b:=R) T5 a_5.rel (by rfl) (by rfl) (by rfl) (by rfl) hM2 hR (zoD hk2)) λv_1 s_6 Z_6 S_6 r_6=>?_))))
  refine Pst.then (H.ex 60 (dTC Φ.gen) _ (.v 6) ρ_2 (.int (((M-L)*n:Nat):Int)) (by rfl) (by rfl) A' env Z_6 s_6 _ hA' hG S_6.ok (a_5.rel.stp S_6)) λv_2 s_7 Z7 S_7 r_7=>?_
  have hsh:zaZ .LShift (.int (za8 n ys)) (.int (((M-L)*n:Nat):Int))=some (.int (za8 n ys*2^((M-L)*n))):=by
   refine zco (zv (zl7 hyb.1 hyb.2) ?_) (zv (Nat.mul_le_mul_right n (zv (Nat.sub_le ..) hMl)) hsz)
   refine za hyl ?_;rw [Nat.mul_comm];exact zv (Nat.mul_le_mul_right n (zv (Nat.sub_le ..) hR)) hsz
  refine Pst.then (zix hA'.handled S_7.ok (r_6.mono S_7.f) r_7 hsh) λv_3 s_8 Z8 S_8 r_8=>?_
  have T8:=((T5.trans S_6).trans S_7).trans S_8
  refine Pst.then (callIt (a:=L) (b:=M) T8 (((a_5.rel.stp S_6).stp S_7).stp S_8) (by rfl) (by rfl) (by rfl) (by rfl) hM1 hMl (zoC hk2)) λv_4 s_9 Z9 S_9 r_9=>?_
  refine Pst.then (zix (op:= .Add) hA'.handled S_9.ok (r_8.mono S_9.f) r_9 rfl) λv_5 s_10 Z10 S_10 r_10=>?_
  refine zM Z10 ((T8.trans S_9).trans S_10) ?_
  have e:za8 n ((is.drop L).take (R-L))=za8 n ys*2^((M-L)*n)+za8 n xs:=by
   refine za (zoA (Nat.le_of_lt hM1) (Nat.le_of_lt hM2)) ?_
   rw [zfL]
   refine za hxl ?_
   rw [Nat.mul_comm n,Int.add_comm]
  refine za e ?_;exact r_10
theorem zie (H:zaf Ω Φ.none (run zbe 6) 46) {is:List Int} {n:Nat} (hb:∀d∈is,0<=d/\ d<2^n) (hsz:is.length*n<=2^24) (hlen:is.length<=big):
  ∀k,zoz Ω p q pm c' T F cd ci cn is n k
 |0=>zj7 H hb hsz hlen (.inl rfl)
 |k+1=>zj7 H hb hsz hlen (.inr (zie H hb hsz hlen k))
end
structure zdp (B:Heap) (a:Addr) (fd:FuncData) (sc:Scope) (src:List Stmt) (c P:Addr) (q:Str):Prop where
 fb:FnB B a 2 fd src
 sc:fd.scope=sc
 code:fd.code= .ref c
 gl:fd.globals=mainGlobals
 qn:fd.qualname++ ".<locals>." ++ "inner" =q
 bi:∃mg,B.Ns mainGlobals mg/\ (∃bm o,mg "__builtins__" =some (.ref bm)/\ bm≠builtinsNs/\ bm≠mainGlobals/\ bm≠P/\ B.get? bm=some o/\ o.cls= .type "module" /\ o.dict=some builtinsNs/\ o.data= .plain)
 gP:mainGlobals≠P
section
variable {Ω:En} {A:Around} {Z Z':Heap} {s s':Shared} {Φ:Fs} {p:Nat ->Pos} {q:Str} {pm:Value} {c' T F cd ci cn c P:Addr} {env:Env} {ρ:Rho} {ad:Nat ->Addr}
theorem zm5 (h1:env.cells.lookup ("digits" :Str)=some cd) (h2:env.cells.lookup ("inner" :Str)=some ci) (h3:env.cells.lookup ("n" :Str)=some cn):closureFor zaT env=pure [(("n" :Str),cn),("inner",ci),("digits",cd)]:=by
 have e1:cellOf env (Str.ofString "digits")=pure cd:=by unfold cellOf;exact za h1 rfl
 have e2:cellOf env (Str.ofString "inner")=pure ci:=by unfold cellOf;exact za h2 rfl
 have e3:cellOf env (Str.ofString "n")=pure cn:=by unfold cellOf;exact za h3 rfl
 unfold closureFor zaT
 simp only [List.forIn_cons,List.forIn_nil,e1,e2,e3]
 rfl
theorem zoE {c:TC} {h h':Heap} (R:Rel c env Z h ρ ad) (hn:NoM ρ) (hkeep:∀b o,b≠ci ->(b=env.locals \/ ∃x,env.cells.lookup x=some b) ->h.get? b=some o ->h'.get? b=some o) (hci:∃ov,h'.IsCell ci ov) (hL:env.locals≠ci)
  (hi:∀x k i,c.nm.lookup x=some (k,i) ->(k= .cell \/k= .free) ->env.cells.lookup x=some ci ->∀pv,ρ[i]?≠some (some pv)):Rel c env Z h' ρ ad:=by
 refine {R with loc:= ?_,cel:= ?_,own:= ?_,ownInj:= ?_}
 ·refine zm R.loc λm hns hm=>?_
  exact zM m (hns.at' λo e=>hkeep _ _ hL (.inl rfl) e) hm
 ·intro x k i e hk
  refine E24 (R.cel x k i e hk) λa ov ha hc hz hv=>?_
  by_cases hac:a=ci
  ·subst hac
   refine zO hci λov' hc'=>?_
   clear hci
   exact I24 a ov' ha hc' hz (λpv q=>absurd q (hi x k i e hk ha pv))
  ·exact I24 a ov ha (zbV hc λo eo=>hkeep _ _ hac (.inr ⟨x,ha⟩) eo) hz hv
 ·intro i xs e;exact absurd e (hn i xs)
 ·intro i j xs ys e;exact absurd e (hn i xs)
theorem zj8 {args:List PyData} {ns:Nat}:NoM (args.map (λd=>some (PV.d d))++List.replicate ns none):=by
 intro i xs e
 refine zm (zaC e) λd _ h=>?_
 cases h
set_option maxRecDepth 100000 in
theorem zoF (H:zaf Ω Φ.none (run zbe 6) 46) {a:Addr} {fd:FuncData} (X:zdp Ω.B a fd zby (zbL p) c P q) {is:List Int} {n:Nat} (hb:∀d∈is,0<=d/\ d<2^n) (hsz:is.length*n<=2^24) (hlen:is.length<=big)
  (hA:Rm A 100) (hO:Ok Ω Z s) (TO:zid Ω c P (zgX p) q) {vals:List Value} (r:zC Z vals [.list (is.map .int),.int (n:Int)]):
  wpAny Ω.m A (call (.ref a) vals) (Pst Ω Z s (.int (za8 n is))) zf s:=by
 refine zO (TO.get _ hO.j) λhit hC=>?_
 refine zfm (n:=99) (ns:=2) (Φ:=Φ.none) H.gl hA X.fb rfl hO r λh_1 tk S_1 R hown hA'=>?_
 let env:Env:=callEnvC fd s.heap.objs.size a
 let A':Around:=A.deeper env
 let ρ:Rho:=[some (.d (.list (is.map .int))),some (.d (.int (n:Int))),none,none]
 have R:Rel (zbI [] [] Φ.gen zby (zbL p)) env Z h_1 ρ (λu=>0):=X.sc▸R
 have hG:GlC (zbI [] [] Φ.gen zby (zbL p)) Φ.none:=⟨rfl,rfl,rfl⟩
 have hA6:Rm A' 46:=hA'.le (by simp)
 have hcs:env.cells=[(("inner" :Str),s.heap.objs.size+1+1+1),("n",s.heap.objs.size+1+1),("digits",s.heap.objs.size+1)]:=by
  show cellsFrom (s.heap.objs.size+1) fd.scope.names []=_
  refine za X.sc ?_;rfl
 let cd:Addr:=s.heap.objs.size+1
 let cn:Addr:=s.heap.objs.size+1+1
 let ci:Addr:=s.heap.objs.size+1+1+1
 have l1:env.cells.lookup ("digits" :Str)=some cd:=by refine za hcs ?_;rfl
 have l2:env.cells.lookup ("inner" :Str)=some ci:=by refine za hcs ?_;rfl
 have l3:env.cells.lookup ("n" :Str)=some cn:=by refine za hcs ?_;rfl
 refine E24 (R.cel ("digits" :Str) .cell 0 (by rfl) (.inl rfl)) λa1 ov1 e1 hc1 z1 v1=>?_
 refine E24 (R.cel ("inner" :Str) .cell 2 (by rfl) (.inl rfl)) λa2 ov2 e2 hc2 z2 v2=>?_
 refine E24 (R.cel ("n" :Str) .cell 1 (by rfl) (.inl rfl)) λa3 ov3 e3 hc3 z3 v3=>?_
 have e1:=l1▸e1;cases e1
 have e2:=l2▸e2;cases e2
 have e3:=l3▸e3;cases e3
 refine zm (v1 _ rfl) λvd q3 rd=>?_
 obtain rfl:=q3
 refine zm (v3 _ rfl) λvn q4 rn=>?_
 obtain rfl:=q4
 have rn:Rep Z vn (.int (n:Int)):=rn
 refine zO rn λtn q5=>?_
 clear rn
 obtain rfl:=q5
 have fresh:∀{x:Addr},s.heap.objs.size<=x ->s.heap.get? x=none:=λh=>z4 h
 have hPs:∃o,s.heap.get? P=some o:=by
  induction hit with
  |true=>refine E23 hC λps c' _ b _=>?_;clear hC;exact ⟨_,b.2⟩
  |false=>exact ⟨_,hC.2.2⟩
 have hcs':∃o,s.heap.get? c=some o:=by
  induction hit with
  |true=>refine E23 hC λps c' _ q6 _=>?_;clear hC;refine zR q6 λq7 _=>?_;clear q6;refine E22 q7 λo vs b _=>?_;clear q7;exact ⟨_,b⟩
  |false=>refine E03 hC λ_ q8 _=>?_;clear hC;refine E22 q8 λo vs b _=>?_;clear q8;exact ⟨_,b⟩
 have nP:∀{x:Addr},s.heap.objs.size<=x ->x≠P:=λh e=>by
  refine zO hPs λo ho=>?_
  clear hPs
  rw [<-e,fresh h] at ho;exact zb ho
 have nc:∀{x:Addr},s.heap.objs.size<=x ->x≠c:=λh e=>by
  refine zO hcs' λo ho=>?_
  clear hcs'
  rw [<-e,fresh h] at ho;exact zb ho
 obtain ⟨mg,hmg,bm,o,hbm,b1,b2,b3,hbo,b4,b5,b6⟩:=X.bi
 have toH:∀b o,Ω.B.get? b=some o ->h_1.get? b=some o:=λb o e=>S_1.ok.sub _ _ (S_1.ok.base _ _ e)
 refine zO (TO.get _ S_1.ok.j) λhit hC=>?_
 have hle1:s.heap.objs.size<=cd:=Nat.le_succ _
 have hle2:s.heap.objs.size<=ci:=zv (Nat.le_succ _) (zv (Nat.le_succ _) (Nat.le_succ _))
 have hle3:s.heap.objs.size<=cn:=zv (Nat.le_succ _) (Nat.le_succ _)
 refine wpM (E:=zf) ?_ (λu w x=>x)
 show wpAny Ω.m A' (execs (zbL p) env) _ _ _
 refine wpAny_execs_cons (zgV (q:=q) (ci:=ci) (v₀:=ov2) (mg:=mg) (hit:=hit) (c:=c) (P:=P) (by rfl) ?_ (zm5 l1 l2 l3) rfl rfl rfl ?_ X.code hC ?_ ?_ R.kind ?_ l2 hc2 (nP hle2) (nc hle2) λc' F T h' tk' pm hk hcell hrec hcd hFn hfn=>?_)
 ·show (if env.kindOf (Str.ofString "inner")==some NameKind.globalExplicit then (Str.ofString "inner") else (fd.qualname++ ".<locals>.")++ "inner")=q
  rw [R.names];exact X.qn
 ·show h_1.Ns fd.globals mg
  refine za X.gl ?_;exact hmg.keeps toH
 ·show fd.globals≠P
  refine za X.gl ?_;exact X.gP
 ·exact I28 bm o hbm b1 b2 b3 (toH _ _ hbo) b4 b5 b6
 ·rw [R.names];rfl
 have ncp:NoP Ω h_1 ci:=zf3 S_1.ok hc2
 have S_2:Stp Ω Z s Z {s with heap:=h',toks:=tk'}:=
  have k:∀b o,¬Ω.tab b ->s.heap.get? b=some o ->h'.get? b=some o:=λb o t eo=>hk b o (λe=>by rw [e,fresh hle2] at eo;exact zb eo) (λ_ e=>t (e▸TO.tab)) (S_1.h _ _ t eo)
  ⟨⟨λb o eo=>k b o (hO.ntZ eo) (hO.sub _ _ eo),hO.base,hO.os,hO.gens,TO.set _ _ S_1.ok.j (λb o hb t e=>hk b o (λx=>by subst x;exact t.elim ncp.1 (ncp.2 o e)) (λ_=>hb) e) hcd,hO.zt⟩,.refl _,λu w y z=>rfl,hO.lv,k,λi x e=>e⟩
 have R_2:Rel (zbI [] [] Φ.gen zby (zbL p)) env Z h' ρ (λu=>0):=by
  refine zoE R (zj8 (args:=[.list (is.map .int),.int (n:Int)]) (ns:=2)) (ci:=ci) (λb o hb hb' eo=>hk b o hb (λu=>?_) eo) ⟨_,hcell⟩ (Nat.ne_of_lt (Nat.lt_succ_of_le (zv (Nat.le_succ _) (Nat.le_succ _)))) ?_
  ·rcases hb' with rfl| ⟨x,hx⟩
   ·exact nP (Nat.le_refl _)
   ·replace hx:=hcs▸hx
    have:=z9 hx
    simp only [List.mem_cons,Prod.mk.injEq,List.not_mem_nil,or_false] at this
    rcases this with ⟨_,rfl⟩| ⟨_,rfl⟩| ⟨_,rfl⟩
    ·exact nP hle2
    ·exact nP hle3
    ·exact nP hle1
  ·intro x k i e hkk hx pv hp
   have hx:=hcs▸hx
   have:=z9 hx
   simp only [List.mem_cons,Prod.mk.injEq,List.not_mem_nil,or_false] at this
   rcases this with ⟨rfl,_⟩| ⟨_,h⟩| ⟨_,h⟩
   ·have:(zbI [] [] Φ.gen zby (zbL p)).nm.lookup (Str.ofString "inner")=some (.cell,2):=by rfl
    cases e;cases hp
   ·exact absurd h (Nat.ne_of_gt (Nat.lt_succ_self _))
   ·exact absurd h (Nat.ne_of_gt (Nat.lt_succ_of_lt (Nat.lt_succ_self _)))
 have D:DOn Z h' p q pm c' T F cd ci cn is n:=by
  have hfn':h'.get? F=some {cls:= .type "function",data:= .func (dFd p q pm c' T cd ci cn)}:=by
   refine za hfn ?_
   show some ({cls:= .type "function",data:= .func (zdJ "inner" q (zfn p) (zcB p) zaT fd.globals [("n",cn),("inner",ci),("digits",cd)] pm c' T)}:Obj)=_
   refine za X.gl ?_;rfl
  have k1:h'.IsCell cd (some vd):=zbV hc1 λo eo=>hk _ _ (Nat.ne_of_lt (Nat.lt_succ_of_lt (Nat.lt_succ_self _))) (λu=>nP hle1) eo
  have k3:h'.IsCell cn (some (.int (n:Int) tn)):=zbV hc3 λo eo=>hk _ _ (Nat.ne_of_lt (Nat.lt_succ_self _)) (λu=>nP hle3) eo
  exact ⟨hfn',hrec,(zM vd k1 rd),⟨tn,k3⟩,hcell,z1,z3,z2,(I03 (Nat.ne_of_lt (Nat.lt_succ_of_lt (Nat.lt_succ_self _))) (Nat.ne_of_lt (Nat.lt_succ_self _)) (Nat.ne_of_gt (Nat.lt_succ_self _))),(I03 (zdK k1) (zdK hcell) (zdK k3))⟩
 have fin:∀{Z_3 s_3 v d},Stp Ω Z {s with heap:=h',toks:=tk'} Z_3 s_3 ->Rep Z_3 v d ->Pst Ω Z s d v s_3:=λS_3 rv=>zM _ (S_2.trans S_3) rv
 refine wpAny_execs_cons (wpAny_Return_some (wpAny_IfExp (za9.then (H.tst 60 _ _ (.v 0) ρ (.list (is.map .int)) (!(is.map PyData.int).isEmpty) (by rfl) (by rfl) (by show (if (is.map PyData.int).length<=big then some (!(is.map PyData.int).isEmpty) else none)=_;exact za (if_pos (by simpa using hlen)) rfl) A' env Z _ _ hA6 hG S_2.ok R_2) λs_3 Z_3 S_3=>?_)))
 induction is using List.casesOn with
 |nil=>
  refine wpAny_Constant_int (fin (S_3.trans (Stp.grow (n:=s_3.toks+1) S_3.ok (.refl _))) (zu.mpr ⟨_,rfl⟩))
 |cons d0 is=>
  have D3:=D.stp S_3
  refine wpAny_Call_NameR (wpAny_Name (wpAny_loadName_cell (c:=ci) R.kind (by rw [R.names];rfl) l2 D3.inn ?_) (by decide+kernel))
  have hargs:exs (run zbe 6) ρ [.c (.int 0),.bi .len [.v 0]]=some [.int (((0:Nat):Int)),.int (((d0::is).length:Nat):Int)]:=by
   have e:(run zbe 6).ex ρ (.bi .len [.v 0])=some (.int (((d0::is).length:Nat):Int)):=by
    show (if ((d0::is).map PyData.int).length<=big then some (PyData.int ((((d0::is).map PyData.int).length:Nat):Int)) else none)=_
    refine za (if_pos (by simpa using hlen)) ?_;simp
   exact zdE rfl e
  refine Calls.callWith_function (z7 (H.ex 60) hA6 hG (pes:=[.c (.int 0),.bi .len [.v 0]]) (by rfl) hargs S_3.ok (R_2.stp S_3) λvs s_4 Z_4 S_4 r=>⟨⟨(D3.stp S_4).fn,rfl⟩,?_⟩)
  refine E23 (zG.mp r) λv vs' e9 r1 q1=>?_;refine za e9 ?_
  refine E23 (zG.mp q1) λv' vs'' e9 r2 q2=>?_;refine za e9 ?_
  refine za q2 ?_
  obtain (⟨t1,e9⟩):=r1;refine za e9 ?_;refine zO r2 λt2 e9=>?_;clear r2;refine za e9 ?_
  refine Pst.then (zie H hb hsz hlen 20 A' Z_4 s_4 0 (d0::is).length t1 t2 (hA'.le (by simp)) S_4.ok (D3.stp S_4) (by simp) (Nat.le_refl _) (by have:big=1000000:=rfl;lia)) λv_5 s_5 Z5 S_5 r_5=>?_
  refine fin ((S_3.trans S_4).trans S_5) ?_
  simpa using r_5
end
noncomputable def zaU (a:Nat) (n:Nat):Nat ->List Nat
 |0=>[]
 |k+1=>a%2^n::zaU (a/2^n) n k
theorem zeM (n:Nat):∀(k a:Nat),(zaU a n k).length=k
 |0,a=>rfl
 |k+1,a=>congrArg (· +1) (zeM n k _)
theorem zg1 (n:Nat):∀(m m' a:Nat),zaU a n (m+m')=zaU (a%2^(n*m)) n m++zaU (a/2^(n*m)) n m'
 |0,m',a=>by
  show zaU a n (0+m')=zaU (a/1) n m'
  rw [Nat.zero_add,Nat.div_one]
 |m+1,m',a=>by
  have e2:n*(m+1)=n+n*m:=by rw [Nat.mul_succ,Nat.add_comm]
  refine za (Nat.add_right_comm m 1 m') ?_
  show a%2^n::zaU (a/2^n) n (m+m')=a%2^(n*(m+1))%2^n::(zaU (a%2^(n*(m+1))/2^n) n m++zaU (a/2^(n*(m+1))) n m')
  refine za (zg1 n m m' (a/2^n)) (za e2 ?_)
  rw [Nat.pow_add]
  rw [Nat.div_div_eq_div_mul,Nat.mod_mul_right_mod]
  congr 3
  rw [Nat.mod_mul_right_div_self]
theorem zoG {a n:Nat} (h:a<2^n):zaU a n 1=[a]:=congrArg (λx=>[x]) (Nat.mod_eq_of_lt h)
theorem zsX (a k:Nat):a&&&(a/2^k*2^k)=a/2^k*2^k:=by
 apply Nat.eq_of_testBit_eq
 intro i
 rw [Nat.testBit_and]
 refine za (show a/2^k*2^k=(a>>>k)<<<k by rw [Nat.shiftRight_eq_div_pow,Nat.shiftLeft_eq]) ?_
 rw [Nat.testBit_shiftLeft,Nat.testBit_shiftRight]
 by_cases h:k<=i
 ·refine za (show k+(i-k)=i by omega) ?_
  cases a.testBit i<;>simp
 ·simp [h]
theorem zqx (a k:Nat):Builtin.bitXor (a:Int) (((a/2^k:Nat):Int)*2^k)=((a%2^k:Nat):Int):=by
 refine za (by norm_cast:((a/2^k:Nat):Int)*2^k=((a/2^k*2^k:Nat):Int)) ?_
 rw [bitXor_and]
 have h:Builtin.bitAnd (a:Int) ((a/2^k*2^k:Nat):Int)=((a/2^k*2^k:Nat):Int):=by
  unfold Builtin.bitAnd
  rw [decide_eq_true (Int.natCast_nonneg _),decide_eq_true (Int.natCast_nonneg _)]
  simp only [Int.toNat_natCast]
  rw [zsX]
 refine za h ?_
 have:=Nat.div_add_mod a (2^k)
 lia
theorem zch (a k:Nat):(a:Int).fdiv (2^k)=((a/2^k:Nat):Int):=by
 refine za (by norm_cast:(2:Int)^k=((2^k:Nat):Int)) (za (Int.fdiv_eq_ediv_of_nonneg _ (Int.natCast_nonneg _)) ?_)
 norm_cast
section
variable {Ω:En} {A:Around} {E:Value ->Shared ->Prop} {s:Shared}
theorem zhH {l:Addr} {vs:Array Value} {m:Nat} {k:Int} {t:Tok} {v:Value} {Q:Unit ->Shared ->Prop} (ho:s.heap.get? l=some {cls:= .type "list",data:= .seq vs m})
  (h0:0<=k) (hfit:k<2^63) (hn:k<vs.size) (hQ:∀h' m',h'.get? l=some {cls:= .type "list",data:= .seq (vs.setIfInBounds k.toNat v) m'} ->Heap.SameBut l s.heap h' ->Q () {s with heap:=h'}):
  wpAny Ω.m A (setItem (.ref l) (.int k t) v) Q E s:=by
 have hl:s.heap.IsList l vs:=⟨_,ho,rfl,m,rfl⟩
 unfold setItem
 try with_reducible refine wpAny_holding ?_
 first|refine wB (wPu ?_)|skip
 refine wB (wpAny_sequenceKey hl.typeIs (rfl) ?_)
 refine wB (wpAny_callSpecial?_slot (name:=Str.ofString "__setitem__") hl.typeIs slot_list_setitem
  (wpAny_call_entry slot_list_setitem hl.typeIs entry_list_setitem ?_ (args_list_setitem _ _ _)))
 show wpAny _ _ (Builtin.List.listSubscript? (.int k t)>>=_) _ _ s
 refine wB (wpAny_listSubscript_int (fitsIndex_of h0 hfit) ?_)
 clear hfit
 obtain (⟨j,rfl⟩):=Int.eq_ofNat_of_zero_le h0
 have hx':vs[j]?=some vs[j]:=Array.getElem?_eq_getElem (by omega)
 refine wB (wB (wpAny_seqItemAt ho rfl (wPu ?_)))
 refine za hx' ?_
 have hfin:∃m',(s.heap.update l (Obj.mapSeq (·.setIfInBounds j v))).get? l=some {cls:= .type "list",data:= .seq (vs.setIfInBounds j v) m'}:=
  ⟨_,Heap.get?_update_self _ ho rfl⟩
 refine zO hfin λm' hm'=>?_
 clear hfin
 refine wB (wpAny_setSeqItemAt ho rfl ?_)
 first
  |exact wB (wPu (wPu (zM .none rfl (wPu (hQ _ m' hm' (Heap.SameBut.update ..))))))
  |exact wPu (zM .none rfl (wPu (hQ _ m' hm' (Heap.SameBut.update ..))))
end
noncomputable def zqy:List Str:=["x","L","R","mid","shift","upper","lower"]
noncomputable def iTC (gen:Str):TC:=⟨[("a_digits",(.free,0)),("inner",(.free,1)),("n",(.free,2)),("x",(.local,3)),("L",(.local,4)),("R",(.local,5)),("mid",(.local,6)),("shift",(.local,7)),("upper",(.local,8)),("lower",(.local,9))],[],[],10,[],gen,3,false⟩
section
variable {Ω:En} {A:Around} {Z Z':Heap} {s s':Shared} {Φ:Fs} {p:Nat ->Pos} {q:Str} {pm:Value} {c' T F ca ci cn l:Addr} {env:Env} {ρ:Rho} {ad:Nat ->Addr}
def iFd (p:Nat ->Pos) (q:Str) (pm:Value) (c' T ca ci cn:Addr):FuncData:=zdJ "inner" q (zfo p) (zcC p) zaK mainGlobals [("n",cn),("inner",ci),("a_digits",ca)] pm c' T
structure IOn (Z h:Heap) (p:Nat ->Pos) (q:Str) (pm:Value) (c' T F ca ci cn l:Addr) (xs:List PyData) (n:Nat):Prop where
 fn:h.get? F=some {cls:= .type "function",data:= .func (iFd p q pm c' T ca ci cn)}
 cr:zcf h c' q
 dig:h.IsCell ca (some (.ref l))
 num:∃t,h.IsCell cn (some (.int (n:Int) t))
 inn:h.IsCell ci (some (.ref F))
 zd:Z.get? ca=none
 zn:Z.get? cn=none
 zi:Z.get? ci=none
 ap:ca≠ci/\ ca≠cn/\ ci≠cn
 own:zbu Z h l xs
theorem IOn.stx {xs xs':List PyData} {n:Nat} {GI:Nat ->Prop} (D:IOn Z s.heap p q pm c' T F ca ci cn l xs n) (S:StX (· =l) GI Ω Z s Z' s') (ho:zbu Z' s'.heap l xs'):IOn Z' s'.heap p q pm c' T F ca ci cn l xs' n:=by
 refine E23 D.own λvs m hl _ _=>?_
 have cellNe:∀{a v},s.heap.IsCell a v ->a≠l:=by
  intro a v h9 h92;refine zm h9 λo e d=>?_;clear h9;obtain rfl:=h92.symm
  cases hl.symm.trans e;cases d
 have kc:∀{a v},s.heap.IsCell a v ->s'.heap.IsCell a v:=λx=>zm x λo e d=>zM o (S.hN (cellNe x) (noF d λ_ x=>nomatch x) e) d
 have kz:∀{a v},s.heap.IsCell a v ->Z.get? a=none ->Z'.get? a=none:=λx z=>zm x λo e d=>(S.newN (cellNe x) (noF d λ_ x=>nomatch x) e).trans z
 refine ⟨S.h _ _ (λe=>?_) (S.ntC D.fn rfl) D.fn,D.cr.at' λo hc e=>S.h _ _ (λx=>?_) (S.ntC e hc) e,kc D.dig,zO D.num λt x=>⟨t,kc x⟩,kc D.inn,kz D.dig D.zd,zO D.num λt x=>kz x D.zn,kz D.inn D.zi,D.ap,ho⟩
 ·have:=D.fn;rw [e,hl] at this
  injection this with this
  injection this with h1
  injection h1 with h1
  exact absurd h1 (by decide)
 ·subst x;cases hl.symm.trans e;exact absurd (Value.type.inj hc) (by decide)
theorem IOn.stp {xs:List PyData} {n:Nat} (D:IOn Z s.heap p q pm c' T F ca ci cn l xs n) (S:Stp Ω Z s Z' s'):IOn Z' s'.heap p q pm c' T F ca ci cn l xs n:=by
 refine E23 D.own λvs m hl r z=>?_
 exact D.stx (GI:=λ_=>False) S.x (I23 vs m (S.hN zak hl) (r.mono S.f) (by refine za (S.new _ _ (S.nt zak hl) hl) ?_;exact z))
theorem zi3 {x:Str} {k:NameKind} {i:Nat} (h:(iTC Φ.gen).nm.lookup x=some (k,i)):
  (x="a_digits" /\ k= .free/\ i=0) \/(x="inner" /\ k= .free/\ i=1) \/(x="n" /\ k= .free/\ i=2) \/(k= .local/\ 3<=i/\ i<10/\ (zqy[i-3]?=some x)):=by
 have:=z9 h
 simp only [iTC,List.mem_cons,Prod.mk.injEq,List.not_mem_nil,or_false] at this
 rcases this with ⟨rfl,rfl,rfl⟩| ⟨rfl,rfl,rfl⟩| ⟨rfl,rfl,rfl⟩| ⟨rfl,rfl,rfl⟩| ⟨rfl,rfl,rfl⟩| ⟨rfl,rfl,rfl⟩| ⟨rfl,rfl,rfl⟩| ⟨rfl,rfl,rfl⟩| ⟨rfl,rfl,rfl⟩| ⟨rfl,rfl,rfl⟩<;>decide
end
noncomputable def dI (ds:List Nat):List PyData:=ds.map λ(d:Nat)=>PyData.int (d:Int)
theorem zj9 {Z:Heap}:∀{vs:List Value} {xs:List PyData} {i:Nat} {v:Value} {d:PyData},zC Z vs xs ->Rep Z v d ->zC Z (vs.set i v) (xs.set i d)
 |vs,[],i,v,d,r,rv=>by refine za r ?_;exact zaL.mpr rfl
 |vs,x::xs,0,v,d,r,rv=>by
  refine E23 (zG.mp r) λu us e9 r1 r2=>?_;refine za e9 ?_
  exact zG.mpr (I23 v us rfl rv r2)
 |vs,x::xs,i+1,v,d,r,rv=>by
  refine E23 (zG.mp r) λu us e9 r1 r2=>?_;refine za e9 ?_
  exact zG.mpr (I23 u (us.set i v) rfl r1 (zj9 r2 rv))
section
variable {Ω:En} {A:Around} {Z Z':Heap} {s s':Shared} {Φ:Fs} {p:Nat ->Pos} {q:Str} {pm:Value} {c' T F ca ci cn l:Addr} {env:Env} {ρ:Rho} {ad:Nat ->Addr}
theorem zf8 (h:NoM ρ) {b:Addr} (o:Own (iTC Φ.gen) env ρ ad b):b=env.locals:=by
 rcases o with o| ⟨x,k,i,e,hk,hl,_⟩| ⟨i,xs,e,_⟩
 ·exact o
 ·have hl:3<=i:=hl
  rcases zi3 e with ⟨_,h1,rfl⟩| ⟨_,h1,rfl⟩| ⟨_,h1,rfl⟩| ⟨h1,_⟩
  ·lia
  ·lia
  ·lia
  ·subst h1;rcases hk with h|h<;>cases h
 ·exact absurd e (h i xs)
theorem zuL {n x L R:Int}:NoM [none,none,some (.d (.int n)),some (.d (.int x)),some (.d (.int L)),some (.d (.int R)),none,none,none,none]:=zf7 rfl
theorem zuM {xs:List PyData} {n L R:Nat} {x:Int} {tx tl tr:Tok} {h:Heap} {L0:Addr} (D:IOn Z h p q pm c' T F ca ci cn l xs n)
  (hns:h.Ns L0 (λy=>[(("x" :Str),Value.int x tx),("L",.int (L:Int) tl),("R",.int (R:Int) tr)].reverse.lookup y)) (zL:Z.get? L0=none) (hm:L0≠mainGlobals):
  Rel (iTC Φ.gen) (callEnv (iFd p q pm c' T ca ci cn) L0 F) Z h [none,none,some (.d (.int (n:Int))),some (.d (.int x)),some (.d (.int (L:Int))),some (.d (.int (R:Int))),none,none,none,none] (λu=>0):=by
 refine E03 D.ap λa1 a2 a3=>?_
 refine zox rfl (by kernel_rfl) rfl rfl (zM _ hns ?_) ?_ zL (by kernel_rfl) (λx y b h1 h2=>zoy (x:="n") (y:="inner") (z:="a_digits") a3.symm a2.symm a1.symm h1 h2) rfl (Nat.le_refl _) (by kernel_rfl) hm
 ·intro y i pv e hp
  rcases zi3 e with ⟨_,h1,_⟩| ⟨_,h1,_⟩| ⟨_,h1,_⟩| ⟨_,h1,h2,h3⟩
  ·cases h1
  ·cases h1
  ·exact nomatch h1
  ·revert h1 h3 hp
   refine ltS h2 (λ_ h=>nomatch h) λi h2=>ltS h2 (λ_ h=>nomatch h) λi h2=>ltS h2 (λ_ h=>nomatch h) λi h2=>?_
   refine ltS h2 (λhp _ h3=>?_) λi h2=>ltS h2 (λhp _ h3=>?_) λi h2=>ltS h2 (λhp _ h3=>?_) λi h2=>?_
   ·refine eqE h3 ?_;refine eqE (Option.some.inj hp) ?_;exact zM (.int x tx) rfl zb2
   ·refine eqE h3 ?_;refine eqE (Option.some.inj hp) ?_;exact zM (.int (L:Int) tl) rfl zb2
   ·refine eqE h3 ?_;refine eqE (Option.some.inj hp) ?_;exact zM (.int (R:Int) tr) rfl zb2
   ·exact ltS h2 (λhp _ _=>zb (Option.some.inj hp)) λi h2=>lt3 h2 (λhp _ _=>zb (Option.some.inj hp)) (λhp _ _=>zb (Option.some.inj hp)) (λhp _ _=>zb (Option.some.inj hp))
 ·intro y k i e hk
  rcases zi3 e with ⟨rfl,h1,rfl⟩| ⟨rfl,h1,rfl⟩| ⟨rfl,h1,rfl⟩| ⟨h1,_⟩
  ·exact I24 ca _ rfl D.dig D.zd (λpv hp=>by cases hp)
  ·exact I24 ci _ rfl D.inn D.zi (λpv hp=>by cases hp)
  ·refine zO D.num λt a=>?_
   exact I24 cn _ rfl a D.zn (λpv hp=>by cases hp;exact zM _ rfl zb2)
  ·subst h1;rcases hk with h|h<;>exact nomatch h
theorem zsY {xs:List PyData} (hn:NoM ρ) (R:Rel (iTC Φ.gen) env Z s.heap ρ ad) (ho:zbu Z s.heap l xs) {b:Addr} (h:zaF (iTC Φ.gen) env ρ ad b):b≠l:=by
 refine E23 ho λvs m hl _ _=>?_
 clear ho
 rintro rfl
 rcases h with h| ⟨x,k,i,e,hk,hc⟩| ⟨i,xs,e,_⟩
 ·refine zm R.loc λm q1 _=>?_
  refine E33 q1 λo es ep ho hd _=>?_
  clear q1
  have ho:=hl▸h▸ho;cases ho;cases hd
 ·refine E23 (R.cel x k i e hk) λa' ov ha q2 _=>?_
  refine zm q2 λo ho hd=>?_
  clear q2
  cases hc.symm.trans ha
  cases hl.symm.trans ho;cases hd
 ·exact absurd e (hn i xs)
set_option maxRecDepth 100000 in
theorem zqz (a b d:Value):bindArgs (iFd p q pm c' T ca ci cn) ⟨[a,b,d],[]⟩=pure [(("x" :Str),a),("L",b),("R",d)]:=by rfl
def zoH (Ω:En) (p:Nat ->Pos) (q:Str) (pm:Value) (c' T F ca ci cn l:Addr) (n k:Nat):Prop:=
 ∀(A:Around) (Z:Heap) (s:Shared) (xs:List PyData) (x L R:Nat) (tx tl tr:Tok),Rm A (k+50) ->Ok Ω Z s ->IOn Z s.heap p q pm c' T F ca ci cn l xs n ->L<R ->R<=xs.length ->R-L<=2^k ->x<2^(n*(R-L)) ->xs.length*n<=2^24 ->xs.length<=big ->
  wpAny Ω.m A (call (.ref F) [.int (x:Int) tx,.int (L:Int) tl,.int (R:Int) tr])
   (λv s'=>v= .none/\ ∃Z',StX (· =l) (λu=>False) Ω Z s Z' s'/\ zbu Z' s'.heap l (xs.take L++dI (zaU x n (R-L))++xs.drop R)) zf s
theorem zqA {xs:List PyData} {L M R:Nat} {lo hi:List Nat} (h1:L<=M) (h2:M<=R) (hR:R<=xs.length) (hl:lo.length=M-L) (hh:hi.length=R-M):
  (xs.take L++dI lo++xs.drop M).take M++dI hi++(xs.take L++dI lo++xs.drop M).drop R=xs.take L++dI (lo++hi)++xs.drop R:=by
 have e1:(xs.take L++dI lo).length=M:=by
  refine za List.length_append (za List.length_take ?_)
  refine za (show (dI lo).length=M-L from (List.length_map ..).trans hl) (za (Nat.min_eq_left (zv h1 (zv h2 hR))) ?_)
  exact za (Nat.add_sub_cancel' h1) rfl
 refine za (List.take_append_of_le_length (Nat.le_of_eq e1.symm)) (za (List.take_of_length_le (Nat.le_of_eq e1)) ?_)
 refine za List.drop_append (za e1 ?_)
 refine za (List.drop_eq_nil_of_le (zv (Nat.le_of_eq e1) h2)) ?_
 rw [List.nil_append]
 refine za List.drop_drop (za (Nat.add_sub_cancel' h2) ?_)
 simp [dI]
set_option maxRecDepth 100000 in
theorem zka (H:zaf Ω Φ.none (run zbe 6) 46) {n k:Nat} (ih:k=0 \/zoH Ω p q pm c' T F ca ci cn l n (k-1)):zoH Ω p q pm c' T F ca ci cn l n k:=by
 intro A Z s xs x L R tx tl tR hA hO D hLR hR hk hx hsz hlen
 have hroom:A.depth<recursionLimit:=Nat.lt_of_le_of_lt (zv (Nat.le_add_right _ _) hA.depth) (by decide)
 refine wpAny_call (codeAny_call_def hroom D.fn (fd:=iFd p q pm c' T ca ci cn) rfl (H.gl.lims hO) D.cr.rec' (body:=zcC p) rfl (BindsTo.of_eq (zqz _ _ _)) (by show ∀x∈zaK.names,x.2≠ .cell;decide+kernel)
  (by
   intro x hx
   refine zdO hx ?_ λhx=>zaW hx ?_ ?_
   ·show zaK.names.lookup (Str.ofString "x")=_;decide+kernel
   ·show zaK.names.lookup (Str.ofString "L")=_;decide+kernel
   ·show zaK.names.lookup (Str.ofString "R")=_;decide+kernel) (λh_0 hns hkp=>?_) rfl rfl rfl)
 let env:Env:=callEnv (iFd p q pm c' T ca ci cn) s.heap.objs.size F
 let A':Around:=A.deeper env
 have hA1:Rm A' (k+49):=hA.deep
 have hA':Rm A' 46:=hA1.le (zv (by decide) (Nat.le_add_left 49 k))
 have hG:GlC (iTC Φ.gen) Φ.none:=⟨rfl,rfl,rfl⟩
 have S_1:Stp Ω Z s Z {s with heap:=h_0,toks:=s.toks+3}:=Stp.grow hO hkp
 have hm:s.heap.objs.size≠mainGlobals:=by
  intro e
  refine E22 H.gl.ns λmg mb q4 _=>?_
  refine E32 q4 λo' _ _ hm _=>?_
  clear q4
  have h1:=Heap.lt_size (hO.sub _ _ (hO.base _ _ hm))
  rw [<-e] at h1
  exact Nat.lt_irrefl _ h1
 let ρ0:Rho:=[none,none,some (.d (.int (n:Int))),some (.d (.int (x:Int))),some (.d (.int (L:Int))),some (.d (.int (R:Int))),none,none,none,none]
 have n0:NoM ρ0:=zuL
 have R0:Rel (iTC Φ.gen) env Z h_0 ρ0 (λ_=>0):=zuM (D.stp S_1) hns (hO.sub.none (zh _)) hm
 let Post:Value ->Shared ->Prop:=λv s'=>v= .none/\ ∃Z',StX (· =l) (λ_=>False) Ω Z s Z' s'/\ zbu Z' s'.heap l (xs.take L++dI (zaU x n (R-L))++xs.drop R)
 show wpAny Ω.m A' (execs (zcC p) env) (λf s'=>Post (match f with| .ret v=>v|_=> .none) s') _ _
 refine wpAny_mono (E:=zf) ?_ (λ_ _ x=>x) λ_ _ x=>x.elim
 refine wpAny_execs_cons (wpAny_If (za9.then (H.tst 60 (iTC Φ.gen) _ (.cmp .Eq (.bin .Add (.v 4) (.c (.int 1))) (.v 5)) ρ0 (.bool ((L:Int)+1==(R:Int))) ((L:Int)+1==(R:Int)) (by rfl) (by rfl) rfl A' env Z _ _ hA' hG S_1.ok R0) λs_1 Z_1 S_2=>?_))
 have R1:=R0.stp S_2
 have T1:=S_1.trans S_2
 have D_1:=D.stp T1
 have hb:big=1000000:=rfl
 by_cases hc:L+1=R
 ·have hc':((L:Int)+1==(R:Int))=true:=beq_iff_eq.mpr (congrArg (λn:Nat=>(n:Int)) hc)
  refine za hc' (za (if_pos rfl) ?_)
  refine E23 D_1.own λvs m hl rl zl=>?_
  refine wpAny_execs_cons (wpAny_Assign_Subscript (wpAny_Name (zaB (i:=3) R1 (by rfl) rfl λv rv=>?_) (by decide+kernel)))
  refine wpAny_Name (wpAny_loadName_free (c:=ca) rfl (by rfl) (by rfl) D_1.dig ?_ (by decide+kernel)) (by decide+kernel)
  refine wpAny_Name (zaB (i:=4) R1 (by rfl) rfl λu ru=>?_) (by decide+kernel)
  have ru:Rep Z_1 u (.int (L:Int)):=ru
  refine zcr ru λt=>?_
  refine zhH hl (Int.natCast_nonneg _) ?_ ?_ λh' m' hl' hs'=>?_
  ·exact Int.lt_of_lt_of_le (Int.ofNat_lt.mpr (Nat.lt_of_lt_of_le hLR (zv hR hlen))) (by decide)
  ·exact Int.ofNat_lt.mpr (Nat.lt_of_lt_of_le hLR (zv hR (Nat.le_of_eq (zx rl).symm)))
  refine wpAny_execs_cons (wpAny_Return_none ⟨rfl,Z_1,?_,vs.setIfInBounds L v,m',by exact hl',?_,zl⟩)
  ·have S_3:StX (· =l) (λ_=>False) Ω Z_1 s_1 Z_1 {s_1 with heap:=h'}:=StX.at (n:=s_1.toks) S_2.ok (λb hb=>by refine za hb ?_;exact S_2.ok.np hl zak) (λb hb=>by refine za hb ?_;exact zl) λb o nb eo=>(hs'.2 b nb).trans eo
   exact (T1.x (W:=(· =l)) (GI:=λ_=>False)).trans S_3 (λb hb=> .inl hb) (λ_ h=>h.elim)
  ·have hx1:x<2^n:=by rw [<-hc,Nat.add_sub_cancel_left,Nat.mul_one] at hx;exact hx
   have e:xs.take L++dI (zaU x n (R-L))++xs.drop R=xs.set L (.int (x:Int)):=by
    refine zF hc ?_
    rw [Nat.add_sub_cancel_left]
    refine za (zoG hx1) (za List.set_eq_take_append_cons_drop ?_)
    refine za (if_pos (Nat.lt_of_lt_of_le hLR hR)) ?_
    simp [dI]
   refine za e (za Array.toList_setIfInBounds ?_)
   exact zj9 rl rv
 ·have hc':((L:Int)+1==(R:Int))=false:=beq_eq_false_iff_ne.mpr λh=>hc (Int.ofNat_inj.mp h)
  refine za hc' (za (if_neg Bool.false_ne_true) ?_)
  refine wpAny_execs_nil ?_
  have hk0:k≠0:=λe=>hc (Nat.le_antisymm hLR (zv (Nat.sub_le_iff_le_add.mp (zv hk (Nat.le_of_eq (congrArg (2^ ·) e)))) (Nat.le_of_eq (Nat.add_comm 1 L))))
  have kp:k-1+1=k:=Nat.sub_add_cancel (Nat.pos_of_ne_zero hk0)
  have ih:=ih.resolve_left hk0
  let M:=(L+R)/2
  have hM1:L<M:=(zi2 hLR hc).1
  have hM2:M<R:=(zi2 hLR hc).2
  have hMl:M<=xs.length:=zv (Nat.le_of_lt hM2) hR
  have hk2:R-L<=2*2^(k-1):=zv hk (Nat.le_of_eq ((congrArg (2^ ·) kp.symm).trans Nat.pow_succ'))
  have hnR:n*(R-L)<=2^24:=by rw [Nat.mul_comm];exact zv (Nat.mul_le_mul_right n (zv (Nat.sub_le ..) hR)) hsz
  have hnM:(M-L)*n<=2^24:=zv (Nat.mul_le_mul_right n (zv (Nat.sub_le ..) hMl)) hsz
  have hsplit:n*(R-L)=n*(M-L)+n*(R-M):=(congrArg (n* ·) (zfp (Nat.le_of_lt hM1) (Nat.le_of_lt hM2))).trans (Nat.mul_add ..)
  have hex1:(run zbe 6).ex ρ0 (.bin .RShift (.bin .Add (.v 4) (.v 5)) (.c (.int 1)))=some (.int (M:Int)):=by
   have:=zow L R
   refine za (show ((M:Nat):Int)=(((L+R)/2:Nat):Int) from rfl) ?_;refine zF this ?_;rfl
  refine wpAny_execs_cons (wpAny_Assign_Name (Pst.then (H.ex 60 (iTC Φ.gen) _ _ ρ0 (.int (M:Int)) (by rfl) hex1 A' env Z_1 s_1 _ hA' hG S_2.ok R1) λv s_2 Z_2 S_3 r=>zaQ (c:=iTC Φ.gen) (i:=6) (by rfl) S_3.ok (R1.stp S_3) r λs_3 a_3=>?_) rfl)
  have T_3:=zcP (T1.trans S_3) a_3 λb o=>by refine za (zf8 n0 o) ?_;exact zh _
  let ρ_1:Rho:=ρ0.set 6 (some (.d (.int (M:Int))))
  have n1:NoM ρ_1:=zeL n0
  have hex2:(run zbe 6).ex ρ_1 (.bin .Mult (.bin .Sub (.v 6) (.v 4)) (.v 2))=some (.int (((M-L)*n:Nat):Int)):=by
   exact zoB (Nat.le_of_lt hM1) (zv hMl hlen) (zv (Nat.le_mul_of_pos_left n (Nat.lt_of_lt_of_le (Nat.lt_of_le_of_lt (Nat.zero_le _) hLR) hR)) hsz)
  refine wpAny_execs_cons (wpAny_Assign_Name (Pst.then (H.ex 60 (iTC Φ.gen) _ _ ρ_1 _ (by rfl) hex2 A' env Z_2 s_3 _ hA' hG a_3.stx.ok a_3.rel) λv s_4 Z_4 S_4 r=>zaQ (c:=iTC Φ.gen) (i:=7) (by rfl) S_4.ok (a_3.rel.stp S_4) r λs_5 a_5=>?_) rfl)
  have T5:=zcP (T_3.trans S_4) a_5 λb o=>by refine za (zf8 n1 o) ?_;exact zh _
  let ρ_2:Rho:=ρ_1.set 7 (some (.d (.int (((M-L)*n:Nat):Int))))
  have n2:NoM ρ_2:=zeL n1
  let up:Nat:=x/2^((M-L)*n)
  have hex3:(run zbe 6).ex ρ_2 (.bin .RShift (.v 3) (.v 7))=some (.int (up:Int)):=by
   show (if 0<=(((M-L)*n:Nat):Int) then some (PyData.int ((x:Int).fdiv (2^(((M-L)*n:Nat):Int).toNat))) else none)=_
   refine za (if_pos (Int.natCast_nonneg _)) ?_
   rw [Int.toNat_natCast,zch]
  refine wpAny_execs_cons (wpAny_Assign_Name (Pst.then (H.ex 60 (iTC Φ.gen) _ _ ρ_2 _ (by rfl) hex3 A' env Z_4 s_5 _ hA' hG a_5.stx.ok a_5.rel) λv s_6 Z_6 S_6 r=>zaQ (c:=iTC Φ.gen) (i:=8) (by rfl) S_6.ok (a_5.rel.stp S_6) r λs_7 a_7=>?_) rfl)
  have T7:=zcP (T5.trans S_6) a_7 λb o=>by refine za (zf8 n2 o) ?_;exact zh _
  let ρ_3:Rho:=ρ_2.set 8 (some (.d (.int (up:Int))))
  have n3:NoM ρ_3:=zeL n2
  let lw:Nat:=x%2^((M-L)*n)
  have hup:up<2^(n*(R-M)):=by
   rw [Nat.div_lt_iff_lt_mul (Nat.two_pow_pos _),<-Nat.pow_add]
   refine za (Nat.mul_comm (M-L) n) ?_
   rw [Nat.add_comm]
   exact zF hsplit hx
  have hlw:lw<2^(n*(M-L)):=by
   show x%2^((M-L)*n)<_
   exact za (Nat.mul_comm (M-L) n) (Nat.mod_lt _ (Nat.two_pow_pos _))
  have hex4:(run zbe 6).ex ρ_3 (.bin .BitXor (.v 3) (.bin .LShift (.v 8) (.v 7)))=some (.int (lw:Int)):=by
   show Option.bind (zaZ .LShift (.int (up:Int)) (.int (((M-L)*n:Nat):Int))) (λb=>zaZ .BitXor (.int (x:Int)) b)=_
   exact za (zco (zv (zam hup) (zv (zv (Nat.le_add_left ..) (Nat.le_of_eq hsplit.symm)) hnR)) hnM) (congrArg (λi=>some (PyData.int i)) (zqx ..))
  refine wpAny_execs_cons (wpAny_Assign_Name (Pst.then (H.ex 60 (iTC Φ.gen) _ _ ρ_3 _ (by rfl) hex4 A' env Z_6 s_7 _ hA' hG a_7.stx.ok a_7.rel) λv s_8 Z8 S_8 r=>zaQ (c:=iTC Φ.gen) (i:=9) (by rfl) S_8.ok (a_7.rel.stp S_8) r λs_9 a_9=>?_) rfl)
  have T9:=zcP (T7.trans S_8) a_9 λb o=>by refine za (zf8 n3 o) ?_;exact zh _
  let ρ_4:Rho:=ρ_3.set 9 (some (.d (.int (lw:Int))))
  have n4:NoM ρ_4:=zeL n3
  have D9:=D.stp T9
  have callIt:∀{ys:List PyData} {y a b:Nat} {ey ea eb:PySem.Expr} {py pa pb:PE} {p1 p2:Pos} {Zi:Heap} {si:Shared},IOn Zi si.heap p q pm c' T F ca ci cn l ys n ->Ok Ω Zi si ->Rel (iTC Φ.gen) env Zi si.heap ρ_4 (λ_=>0) ->
    Mine.tr 60 (iTC Φ.gen) ey=some py ->Mine.tr 60 (iTC Φ.gen) ea=some pa ->Mine.tr 60 (iTC Φ.gen) eb=some pb ->(run zbe 6).ex ρ_4 py=some (.int (y:Int)) ->(run zbe 6).ex ρ_4 pa=some (.int (a:Int)) ->(run zbe 6).ex ρ_4 pb=some (.int (b:Int)) ->
    a<b ->b<=ys.length ->b-a<=2^(k-1) ->y<2^(n*(b-a)) ->ys.length*n<=2^24 ->ys.length<=big ->
    wpAny Ω.m A' (eval (.Call (.Name "inner" p1) [ey,ea,eb] [] p2) env) (λv s'=>v= .none/\ ∃Z',StX (· =l) (λ_=>False) Ω Zi si Z' s'/\ zbu Z' s'.heap l (ys.take a++dI (zaU y n (b-a))++ys.drop b)) zf si:=by
   intro ys y a b ey ea eb py pa pb p1 p2 Zi si Di Oi Ri h1 h2 h3 g1 g2 g3 h5 h6 h7 h8 h9 h10
   refine wpAny_Call_NameR (wpAny_Name (wpAny_loadName_free (c:=ci) rfl (by rfl) (by rfl) Di.inn ?_ (by decide+kernel)) (by decide+kernel))
   refine Calls.callWith_function (z7 (H.ex 60) hA' hG (pes:=[py,pa,pb]) (ds:=[.int (y:Int),.int (a:Int),.int (b:Int)]) (ziL h1 (zcA h2 h3)) (zjU g1 (zdE g2 g3)) Oi Ri λvs s' Z' S' r=>⟨⟨(Di.stp S').fn,rfl⟩,?_⟩)
   refine E23 (zG.mp r) λv vs' e9 r1 q1=>?_;refine za e9 ?_
   refine E23 (zG.mp q1) λv' vs'' e9 r2 q2=>?_;refine za e9 ?_
   refine E23 (zG.mp q2) λv'' vs3 e9 r3 q3=>?_;refine za e9 ?_
   refine za q3 ?_
   obtain (⟨t1,e9⟩):=r1;refine za e9 ?_;obtain (⟨t2,e9⟩):=r2;refine za e9 ?_;obtain (⟨t3,e9⟩):=r3;refine za e9 ?_
   refine wpAny_mono (ih A' Z' s' ys y a b t1 t2 t3 (hA1.le (Nat.le_of_eq (congrArg (· +49) kp))) S'.ok (Di.stp S') h5 h6 h7 h8 h9 h10) (λv s'' p=>?_) λ_ _ x=>x
   obtain ⟨rfl,Z'',S'',ho⟩:=p
   exact ⟨rfl,Z'',(S'.x (W:=(· =l)) (GI:=λ_=>False)).trans S'' (λb hb=> .inl hb) (λ_ h=>h.elim),ho⟩
  refine wpAny_execs_cons (wpAny_Expr_any (wpAny_mono (callIt (ys:=xs) (y:=lw) (a:=L) (b:=M) D9 a_9.stx.ok a_9.rel (by rfl) (by rfl) (by rfl) (by rfl) (by rfl) (by rfl) hM1 hMl (zoC hk2) hlw hsz hlen) (λv s_10 pp=>?_) λ_ _ x=>x) rfl rfl)
  obtain ⟨_,Z10,S_10,ho_10⟩:=pp
  have D10:=D9.stx S_10 ho_10
  have R10:=a_9.rel.stX S_10 λb hb=>zsY n4 a_9.rel D9.own hb
  have hl1:(zaU lw n (M-L)).length=M-L:=zeM ..
  have hys:(xs.take L++dI (zaU lw n (M-L))++xs.drop M).length=xs.length:=by
   refine za List.length_append (za List.length_append ?_)
   refine za List.length_take (za (show (dI (zaU lw n (M-L))).length=M-L from (List.length_map ..).trans hl1) ?_)
   refine za (Nat.min_eq_left (zv (Nat.le_of_lt hM1) hMl)) (za (Nat.add_sub_cancel' (Nat.le_of_lt hM1)) ?_)
   exact za List.length_drop (za (Nat.add_sub_cancel' hMl) rfl)
  refine wpAny_execs_cons (wpAny_Expr_any (wpAny_mono (callIt (y:=up) (a:=M) (b:=R) D10 S_10.ok R10 (by rfl) (by rfl) (by rfl) (by rfl) (by rfl) (by rfl) hM2 (by refine za hys ?_;exact hR) (zoD hk2) hup (by refine za hys ?_;exact hsz) (by refine za hys ?_;exact hlen)) (λv s_11 pp=>?_) λ_ _ x=>x) rfl rfl)
  obtain ⟨_,Z11,S_11,ho_11⟩:=pp
  refine wpAny_execs_nil ⟨rfl,Z11,((T9.x (W:=(· =l)) (GI:=λ_=>False)).trans S_10 (λb hb=> .inl hb) (λ_ h=>h.elim)).trans S_11 (λb hb=> .inl hb) (λ_ h=>h.elim),?_⟩
  rw [zqA (Nat.le_of_lt hM1) (Nat.le_of_lt hM2) hR hl1 (zeM ..)] at ho_11
  have e:zaU x n (R-L)=zaU lw n (M-L)++zaU up n (R-M):=by
   refine za (zfp (Nat.le_of_lt hM1) (Nat.le_of_lt hM2)) ?_
   rw [zg1]
   show _=zaU (x%2^((M-L)*n)) n (M-L)++zaU (x/2^((M-L)*n)) n (R-M)
   exact za (Nat.mul_comm (M-L) n) rfl
  refine za e ?_;exact ho_11
theorem zif (H:zaf Ω Φ.none (run zbe 6) 46) {n:Nat}:∀k,zoH Ω p q pm c' T F ca ci cn l n k
 |0=>zka H (.inl rfl)
 |k+1=>zka H (.inr (zif H k))
end
section
variable {Ω:En} {A:Around} {Z Z':Heap} {s s':Shared} {Φ:Fs} {p:Nat ->Pos} {q:Str} {pm:Value} {c' T F ca ci cn c P l:Addr} {env:Env} {ρ:Rho} {ad:Nat ->Addr}
theorem zm6 (h1:env.cells.lookup ("a_digits" :Str)=some ca) (h2:env.cells.lookup ("inner" :Str)=some ci) (h3:env.cells.lookup ("n" :Str)=some cn):closureFor zaK env=pure [(("n" :Str),cn),("inner",ci),("a_digits",ca)]:=by
 have e1:cellOf env (Str.ofString "a_digits")=pure ca:=by unfold cellOf;exact za h1 rfl
 have e2:cellOf env (Str.ofString "inner")=pure ci:=by unfold cellOf;exact za h2 rfl
 have e3:cellOf env (Str.ofString "n")=pure cn:=by unfold cellOf;exact za h3 rfl
 unfold closureFor zaK
 simp only [List.forIn_cons,List.forIn_nil,e1,e2,e3]
 rfl
theorem zm7 {c:TC} {h h':Heap} (R:Rel c env Z h ρ ad) (hkeep:∀b o,b≠ci ->(b=env.locals \/ ∃x,env.cells.lookup x=some b) ->h.get? b=some o ->h'.get? b=some o) (hci:∃ov,h'.IsCell ci ov) (hL:env.locals≠ci)
  (hi:∀x k i,c.nm.lookup x=some (k,i) ->(k= .cell \/k= .free) ->env.cells.lookup x=some ci ->∀pv,ρ[i]?≠some (some pv)) (hown:∀i xs,ρ[i]?=some (some (.m xs)) ->zbu Z h' (ad i) xs):Rel c env Z h' ρ ad:=by
 refine {R with loc:= ?_,cel:= ?_,own:=hown}
 ·refine zm R.loc λm hns hm=>?_
  exact zM m (hns.at' λo e=>hkeep _ _ hL (.inl rfl) e) hm
 ·intro x k i e hk
  refine E24 (R.cel x k i e hk) λa ov ha hc hz hv=>?_
  by_cases hac:a=ci
  ·subst hac
   refine zO hci λov' hc'=>?_
   clear hci
   exact I24 a ov' ha hc' hz (λpv q=>absurd q (hi x k i e hk ha pv))
  ·exact I24 a ov ha (zbV hc λo eo=>hkeep _ _ hac (.inr ⟨x,ha⟩) eo) hz hv
theorem mul_one_list {l0:Addr} {t u:Tok} {k:Nat} {x:Int} {Q:Value ->Shared ->Prop} (hl:s.heap.get? l0=some {cls:= .type "list",data:= .seq #[.int 0 t] k}) (h0:0<=x) (hx:x<=16777216)
  (h:Q (.ref s.heap.objs.size) {s with heap:=s.heap.push {cls:= .type "list",data:= .seq (List.replicate x.toNat (Value.int 0 t)).toArray}}):wpAny Ω.m A (binaryOp .Mult (.ref l0) (.int x u)) Q zf s:=by
 have hsz:(#[Value.int 0 t]).size*x.toNat<=2^24:=by show 1*x.toNat<=2^24;lia
 have e:(List.foldl (λx1 x2=>x1++x2) #[] (List.replicate (if (#[Value.int 0 t]).isEmpty=true then 0 else x.toNat) #[Value.int 0 t]))=(List.replicate x.toNat (Value.int 0 t)).toArray:=by
  rw [listMul_foldl_if]
  congr 1
  generalize x.toNat=y
  induction y with
  |zero=>rfl
  |succ y ih=>refine za List.replicate_succ ?_;refine za List.replicate_succ ?_;refine za List.flatten_cons ?_;refine za ih ?_;rfl
 exact wpAny_binaryOp_repeat_ref (T:="list") (U:="int") (rfl) ⟨_,hl,rfl⟩ (λs'=>typeIs_int s' x u) noFill_list_mul F.fills_int_mul F.slot_int_rmul repeat_list F.slot_int_index.lookup
  (call_meets F.slot_int_rmul (typeIs_int s x u) F.entry_int_rmul (F.args_int_rmul_2 _ _) (int___rmul___int_list x u l0 #[.int 0 t] k)
   (I04 hl rfl ⟨_,hl,rfl⟩ (call_meets F.slot_list_mul ⟨_,hl,rfl⟩ F.entry_list_mul (F.args_list_mul_2 _ _)
    (AutoListH.list___mul___list_int_3 l0 #[.int 0 t] k x u (by simp [Builtin.List.listFitsIndex];lia) (by lia) (by simp [Builtin.List.listTooLong,sizeLine];assumption))
    ⟨hl,by refine za e ?_;exact h⟩)))
theorem zg2 {a:Nat} (h:a≠0):1<=zo (a:Int):=by
 refine Or.elim (Nat.lt_or_ge 0 (zo (a:Int))) (λh'=>?_) λh'=>?_
 ·exact h'
 ·have:=intBits_le_iff.mp h'
  simp at this;lia
theorem zf9 (a:Nat):a<2^zo (a:Int):=by
 have:=intBits_le_iff.mp (Nat.le_refl (zo (a:Int)))
 simpa using this
theorem zoI {b n:Nat} (hn:1<=n):b<=n*((b+n-1)/n):=by
 have h1:=Nat.div_add_mod (b+n-1) n
 have h2:=Nat.mod_lt (b+n-1) hn
 refine Nat.le_of_add_le_add_right (b:=n) (zv (Nat.le_of_eq (Nat.sub_add_cancel (zv hn (Nat.le_add_left n b))).symm) ?_)
 exact zv (Nat.le_of_eq (congrArg (· +1) h1.symm)) (Nat.add_le_add_left h2 _)
theorem zg3 {Z:Heap} {t:Tok}:∀(k:Nat),zC Z (List.replicate k (Value.int 0 t)) (dI (List.replicate k 0))
 |0=>zaL.mpr rfl
 |k+1=>by
  refine za List.replicate_succ (za List.replicate_succ ?_)
  exact zG.mpr (I23 _ _ rfl ((zu (F:=Z)).mpr ⟨t,rfl⟩) (zg3 k))
set_option maxRecDepth 100000 in
set_option maxHeartbeats 1000000 in
theorem zoJ (H:zaf Ω Φ.none (run zbe 6) 46) {a:Addr} {fd:FuncData} (X:zdp Ω.B a fd zb1 (zcg p) c P q) (hpos:((p 6).endLine==(p 7).line)=true) {av n cnt:Nat} (hn1:1<=n) (hn2:n<=2^24) (hcnt:cnt=(zo (av:Int)+n-1)/n)
  (hsz:cnt*n<=2^24) (hlen:cnt<=big) (hA:Rm A 100) (hO:Ok Ω Z s) (TO:zid Ω c P (zgY p) q) {vals:List Value} (r:zC Z vals [.int (av:Int),.int (n:Int)]):
  wpAny Ω.m A (call (.ref a) vals) (Pst Ω Z s (.list (dI (zaU av n cnt)))) zf s:=by
 refine zO (TO.get _ hO.j) λhit hC=>?_
 refine zfm (n:=99) (ns:=2) (Φ:=Φ.none) H.gl hA X.fb rfl hO r λh_1 tk S_1 R hown hA'=>?_
 let env:Env:=callEnvC fd s.heap.objs.size a
 let A':Around:=A.deeper env
 let c0:TC:=zbI [] [] Φ.gen zb1 (zcg p)
 let ρ:Rho:=[some (.d (.int (av:Int))),some (.d (.int (n:Int))),none,none]
 have hnm:NoM ρ:=zj8 (args:=[.int (av:Int),.int (n:Int)]) (ns:=2)
 have R:Rel (zbI [] [] Φ.gen zb1 (zcg p)) env Z h_1 ρ (λ_=>0):=X.sc▸R
 have hown:∀b,Own (zbI [] [] Φ.gen zb1 (zcg p)) env ρ (λ_=>0) b ->s.heap.get? b=none:=X.sc▸hown
 have R:Rel c0 env Z h_1 ρ (λ_=>0):=R
 have hown:∀b,Own c0 env ρ (λ_=>0) b ->s.heap.get? b=none:=hown
 have htr:tr 60 c0 ((((((Expr.Name (Str.ofString "a") (p 5)).Attribute (Str.ofString "bit_length") (p 6)).Call [] [] (p 7)).BinOp Operator.Add (Expr.Name (Str.ofString "n") (p 8)) (p 9)).BinOp
     Operator.Sub (Expr.Constant (Const.int 1) 0 (p 10)) (p 11)).BinOp Operator.FloorDiv (Expr.Name (Str.ofString "n") (p 12)) (p 13))=
   some (.bin .FloorDiv (.bin .Sub (.bin .Add (.me .bitLength (.v 0) []) (.v 1)) (.c (.int 1))) (.v 1)):=by
  show (Option.bind (Option.bind (Option.bind (if (zbQ (Expr.Name (Str.ofString "a") (p 5))&&((p 6).endLine==(p 7).line)&&decide (([]:List PySem.Expr).length<29))=true then some (PE.me .bitLength (.v 0) []) else none) λa=>some (PE.bin .Add a (.v 1))) λa=>some (PE.bin .Sub a (.c (.int 1)))) λa=>some (PE.bin .FloorDiv a (.v 1)))=_
  rw [hpos] at |-;rfl
 have hG:GlC c0 Φ.none:=⟨rfl,rfl,rfl⟩
 have hA6:Rm A' 46:=hA'.le (by decide)
 have hb:big=1000000:=rfl
 have hcs:env.cells=[(("inner" :Str),s.heap.objs.size+1+1+1),("a_digits",s.heap.objs.size+1+1),("n",s.heap.objs.size+1)]:=by
  show cellsFrom (s.heap.objs.size+1) fd.scope.names []=_
  rw [X.sc] at |-;rfl
 let cn:Addr:=s.heap.objs.size+1
 let ca:Addr:=s.heap.objs.size+1+1
 let ci:Addr:=s.heap.objs.size+1+1+1
 have l1:env.cells.lookup ("a_digits" :Str)=some ca:=by rw [hcs] at |-;rfl
 have l2:env.cells.lookup ("inner" :Str)=some ci:=by rw [hcs] at |-;rfl
 have l3:env.cells.lookup ("n" :Str)=some cn:=by rw [hcs] at |-;rfl
 have fresh:∀{x:Addr},s.heap.objs.size<=x ->s.heap.get? x=none:=λh=>z4 h
 have hPs:∃o,s.heap.get? P=some o:=by
  induction hit with
  |true=>refine E23 hC λps c' _ b _=>?_;clear hC;exact ⟨_,b.2⟩
  |false=>exact ⟨_,hC.2.2⟩
 have hcs':∃o,s.heap.get? c=some o:=by
  induction hit with
  |true=>refine E23 hC λps c' _ q4 _=>?_;clear hC;refine zR q4 λq5 _=>?_;clear q4;refine E22 q5 λo vs b _=>?_;clear q5;exact ⟨_,b⟩
  |false=>refine E03 hC λ_ q6 _=>?_;clear hC;refine E22 q6 λo vs b _=>?_;clear q6;exact ⟨_,b⟩
 have nPn:∀{x:Addr},s.heap.get? x=none ->x≠P:=λh e=>by
  refine zO hPs λo ho=>?_
  clear hPs
  rw [<-e,h] at ho;exact zb ho
 have ncn:∀{x:Addr},s.heap.get? x=none ->x≠c:=λh e=>by
  refine zO hcs' λo ho=>?_
  clear hcs'
  rw [<-e,h] at ho;exact zb ho
 have hle1:s.heap.objs.size<=ca:=zv (Nat.le_succ _) (Nat.le_succ _)
 have hle2:s.heap.objs.size<=ci:=zv (Nat.le_succ _) (zv (Nat.le_succ _) (Nat.le_succ _))
 have hle3:s.heap.objs.size<=cn:=Nat.le_succ _
 have eai:ca≠ci:=Nat.ne_of_lt (Nat.lt_succ_self _)
 have ean:ca≠cn:=Nat.ne_of_gt (Nat.lt_succ_self _)
 have ein:ci≠cn:=Nat.ne_of_gt (Nat.lt_succ_of_lt (Nat.lt_succ_self _))
 have eLi:env.locals≠ci:=Nat.ne_of_lt (Nat.lt_succ_of_le (zv (Nat.le_succ _) (Nat.le_succ _)))
 refine cps λG0 hG_0=>?_
 obtain ⟨mg,hmg,bm,o,hbm,b1,b2,b3,hbo,b4,b5,b6⟩:=X.bi
 refine hG_0 ?_
 have cellOfs:∀{x:Str} {b:Addr},env.cells.lookup x=some b ->s.heap.objs.size<=b:=by
  intro x b hx
  rw [hcs] at hx
  have:=z9 hx
  simp only [List.mem_cons,Prod.mk.injEq,List.not_mem_nil,or_false] at this
  rcases this with ⟨_,rfl⟩| ⟨_,rfl⟩| ⟨_,rfl⟩
  ·exact hle2
  ·exact hle1
  ·exact hle3
 refine wpAny_mono (E:=zf) ?_ (λ_ _ x=>x) λ_ _ x=>x
 show wpAny Ω.m A' (execs (zcg p) env) _ _ _
 refine wpAny_execs_cons (wpAny_Assign_Name (wpAny_BinOp (wpAny_List (wpAny_items_cons (wpAny_Constant_int (wpAny_items_nil ⟨by show 1<=sizeLine;decide,?_⟩))))) rfl)
 let s_2:Shared:={s with heap:=h_1.push {cls:= .type "list",data:= .seq #[.int 0 tk]},toks:=tk+1}
 have S_2:Stp Ω Z {s with heap:=h_1,toks:=tk} Z s_2:=Stp.grow (n:=tk+1) S_1.ok (Sub.push _ _)
 have hl0:s_2.heap.get? h_1.objs.size=some {cls:= .type "list",data:= .seq #[.int 0 tk]}:=Heap.get?_push_size _ rfl
 have hcb:cnt<=2^24:=zv (Nat.le_mul_of_pos_right cnt (by lia)) hsz
 have e24:(2:Nat)^24=16777216:=by decide
 rw [e24] at hcb
 have hbits:zo (av:Int)<=cnt*n:=by rw [hcnt,Nat.mul_comm] at |-;exact zoI hn1
 have hex:(run zbe 6).ex ρ (.bin .FloorDiv (.bin .Sub (.bin .Add (.me .bitLength (.v 0) []) (.v 1)) (.c (.int 1))) (.v 1))=some (.int (cnt:Int)):=by
  show (if (n:Int)≠0/\ Builtin.divisionGoesByPylong (((zo (av:Int):Nat):Int)+(n:Int)-1) (n:Int)=false then some (PyData.int ((((zo (av:Int):Nat):Int)+(n:Int)-1).fdiv (n:Int))) else none)=_
  rw [if_pos] at |-
  ·have e1:((zo (av:Int):Nat):Int)+(n:Int)-1=((zo (av:Int)+n-1:Nat):Int):=by lia
   rw [e1,Int.fdiv_eq_ediv_of_nonneg _ (Int.natCast_nonneg _),hcnt] at |-
   norm_cast
  ·refine ⟨by lia,PyProof.noPylong_of_log2 ?_⟩
   rw [Int.natAbs_natCast] at |-
   have:n.log2<25:=(Nat.log2_lt (by lia)).mpr (by lia)
   lia
 refine Pst.then (H.ex 60 c0 _ (.bin .FloorDiv (.bin .Sub (.bin .Add (.me .bitLength (.v 0) []) (.v 1)) (.c (.int 1))) (.v 1)) ρ (.int (cnt:Int)) htr hex A' env Z s_2 _ hA6 hG S_2.ok (R.stp S_2)) λv s_3 Z_3 S_3 rv=>?_
 refine zcr rv λtv=>?_
 refine mul_one_list (S_3.hN zak hl0) (Int.natCast_nonneg _) (by lia) ?_
 rw [Int.toNat_natCast] at |-
 let l:Addr:=s_3.heap.objs.size
 let xs:List PyData:=dI (List.replicate cnt 0)
 have S_4:Stp Ω Z_3 s_3 Z_3 {s_3 with heap:=s_3.heap.push {cls:= .type "list",data:= .seq (List.replicate cnt (Value.int 0 tk)).toArray}}:=Stp.grow (n:=s_3.toks) S_3.ok (Sub.push _ _)
 have T4:=((S_1.trans S_2).trans S_3).trans S_4
 have hls:s.heap.get? l=none:=((S_1.trans S_2).trans S_3).fresh (zh _)
 have xsl:xs.length=cnt:=by simp [xs,dI]
 refine zqf (c:=c0) (i:=2) (xs:=xs) rfl ((S_2.trans S_3).trans S_4) (by rfl) R ((S_2.trans S_3).fresh (zh _)) (S_3.ok.sub.none (zh _)) (Heap.get?_push_size _ rfl) (by rw [List.toList_toArray] at |-;exact zg3 cnt) λs_5 a_5=>?_
 let ρ_2:Rho:=ρ.set 2 (some (.m xs))
 let ad_2:Nat ->Addr:=λj=>if j=2 then l else 0
 have R5:Rel c0 env Z_3 s_5.heap ρ_2 ad_2:=a_5.rel
 have T5:Stp Ω Z s Z_3 s_5:=zcP S_1 a_5 hown
 have hrho:∀i ys,ρ_2[i]?=some (some (.m ys)) ->i=2/\ ys=xs:=by
  intro i ys e
  rcases zy e with ⟨rfl,e⟩| ⟨_,e⟩
  ·cases e;exact ⟨rfl,rfl⟩
  ·exact absurd e (hnm i ys)
 have hol5:zbu Z_3 s_5.heap l xs:=R5.own 2 xs (by simp [ρ_2,ρ])
 refine cps λG0 hG_0=>?_
 refine E24 (R5.cel ("a_digits" :Str) .cell 2 (by rfl) (.inl rfl)) λa1 ov1 e1 hc1 z1 v1=>?_
 refine E24 (R5.cel ("inner" :Str) .cell 3 (by rfl) (.inl rfl)) λa2 ov2 e2 hc2 z2 v2=>?_
 refine E24 (R5.cel ("n" :Str) .cell 1 (by rfl) (.inl rfl)) λa3 ov3 e3 hc3 z3 v3=>?_
 refine hG_0 ?_
 rw [l1] at e1;cases e1
 rw [l2] at e2;cases e2
 rw [l3] at e3;cases e3
 refine zm (v1 (.m xs) (by simp [ρ_2,ρ])) λvd e9 rd=>?_;subst e9
 have rd:vd= .ref l:=rd
 subst rd
 refine zm (v3 (.d (.int (n:Int))) (by simp [ρ_2,ρ])) λvn e9 rn=>?_;obtain rfl:=e9.symm
 have rn:Rep Z_3 vn (.int (n:Int)):=rn
 rw [zu] at rn;refine zO rn λtn e9=>?_;clear rn;obtain rfl:=e9.symm
 have toH:∀b o,Ω.B.get? b=some o ->s_5.heap.get? b=some o:=λb o e=>T5.ok.sub _ _ (T5.ok.base _ _ e)
 refine cps λG0 hG_0=>?_
 refine zO (TO.get _ T5.ok.j) λhit hC=>?_
 refine hG_0 ?_
 refine wpAny_execs_cons (zgV (q:=q) (ci:=ci) (v₀:=ov2) (mg:=mg) (hit:=hit) (c:=c) (P:=P) (by rfl) ?_ (zm6 l1 l2 l3) rfl rfl rfl ?_ X.code hC ?_ ?_ R.kind ?_ l2 hc2 (nPn (fresh hle2)) (ncn (fresh hle2)) λc' F T h' tk' pm hk hcell hrec hcd hFn hfn=>?_)
 ·show (if env.kindOf (Str.ofString "inner")==some NameKind.globalExplicit then (Str.ofString "inner") else (fd.qualname++ ".<locals>.")++ "inner")=q
  rw [R.names] at |-;exact X.qn
 ·show s_5.heap.Ns fd.globals mg
  rw [X.gl] at |-;exact hmg.keeps toH
 ·show fd.globals≠P
  rw [X.gl] at |-;exact X.gP
 ·exact I28 bm o hbm b1 b2 b3 (toH _ _ hbo) b4 b5 b6
 ·rw [R.names] at |-;rfl
 refine E23 hol5 λvs5 m5 hl5 rl5 zl5=>?_
 clear hol5
 have hlP:l≠P:=nPn hls
 have hlc:l≠c:=ncn hls
 have hli:l≠ci:=by
  intro e
  refine zm hc2 λo eo d=>?_
  clear hc2
  rw [<-e,hl5] at eo;cases eo;cases d
 have ncp:NoP Ω s_5.heap ci:=zf3 T5.ok hc2
 have S_6:Stp Ω Z s Z_3 {s_5 with heap:=h',toks:=tk'}:=
  ⟨⟨λb o eo=>hk b o (λe=>by rw [e,z2] at eo;exact zb eo) (λ_ e=>T5.ok.ntZ eo (e▸TO.tab)) (T5.ok.sub _ _ eo),T5.ok.base,T5.ok.os,T5.ok.gens,TO.set _ _ T5.ok.j (λb o hb t e=>hk b o (λx=>by subst x;exact t.elim ncp.1 (ncp.2 o e)) (λ_=>hb) e) hcd,T5.ok.zt⟩,
   T5.f,T5.new,T5.t,λb o t eo=>hk b o (λe=>by rw [e,fresh hle2] at eo;exact zb eo) (λ_ e=>t (e▸TO.tab)) (T5.h _ _ t eo),T5.g⟩
 have hl6:h'.get? l=some {cls:= .type "list",data:= .seq vs5 m5}:=hk _ _ hli (λ_=>hlP) hl5
 have hol6:zbu Z_3 h' l xs:=I23 vs5 m5 hl6 rl5 zl5
 have R6:Rel c0 env Z_3 h' ρ_2 ad_2:=by
  refine zm7 R5 (ci:=ci) (λb o hb hb' eo=>hk b o hb (λ_=>?_) eo) ⟨_,hcell⟩ eLi ?_ ?_
  ·rcases hb' with rfl| ⟨x,hx⟩
   ·exact nPn (zh _)
   ·exact nPn (fresh (cellOfs hx))
  ·intro x k i e hkk hx pv hp
   rw [hcs] at hx
   have:=z9 hx
   simp only [List.mem_cons,Prod.mk.injEq,List.not_mem_nil,or_false] at this
   rcases this with ⟨rfl,_⟩| ⟨_,h⟩| ⟨_,h⟩
   ·have:c0.nm.lookup (Str.ofString "inner")=some (.cell,3):=by rfl
    rw [this] at e;cases e;simp [ρ_2,ρ] at hp
   ·exact absurd h.symm eai
   ·exact absurd h ein
  ·intro i ys e
   obtain (⟨e9,rfl⟩):=hrho i ys e;refine za e9 ?_
   exact hol6
 have k1:h'.IsCell ca (some (.ref l)):=zbV hc1 λo eo=>hk _ _ eai (λ_=>nPn (fresh hle1)) eo
 have k3:h'.IsCell cn (some (.int (n:Int) tn)):=zbV hc3 λo eo=>hk _ _ (Ne.symm ein) (λ_=>nPn (fresh hle3)) eo
 have D:IOn Z_3 h' p q pm c' T F ca ci cn l xs n:=by
  have hfn':h'.get? F=some {cls:= .type "function",data:= .func (iFd p q pm c' T ca ci cn)}:=by
   rw [hfn] at |-
   show some ({cls:= .type "function",data:= .func (zdJ "inner" q (zfo p) (zcC p) zaK fd.globals [("n",cn),("inner",ci),("a_digits",ca)] pm c' T)}:Obj)=_
   rw [X.gl] at |-;rfl
  exact ⟨hfn',hrec,k1,⟨tn,k3⟩,hcell,z1,z3,z2,(I03 eai ean ein),hol6⟩
 have fin:∀{Z7 s_7},StX (· =l) (λ_=>False) Ω Z_3 {s_5 with heap:=h',toks:=tk'} Z7 s_7 ->zbu Z7 s_7.heap l (dI (zaU av n cnt)) ->
   wpAny Ω.m A' (execs [.Return (some (.Name "a_digits" (p 80))) (p 81)] env) (λf s'=>Pst Ω Z s (.list (dI (zaU av n cnt))) (match f with| .ret v=>v|_=> .none) s') zf s_7:=by
  intro Z7 s_7 S_7 ho
  have hca:s_7.heap.IsCell ca (some (.ref l)):=zm k1 λo eo d=>zM o (S_7.hN (λe=>by
   rw [e,hl6] at eo;cases eo;cases d) (noF d λ_ x=>nomatch x) eo) d
  refine wpAny_execs_cons (wpAny_Return_some (wpAny_Name (wpAny_loadName_cell (c:=ca) R.kind (by rw [R.names] at |-;rfl) l1 hca ?_) (by decide+kernel)))
  refine E23 ho λvs m hl rl zl=>?_
  clear ho
  have T7:StX (λ_=>False) (λ_=>False) Ω Z s Z7 s_7:=S_6.x.trans S_7 (λb hb=> .inr (by rw [hb] at |-;exact hls)) (λ_ h=>h.elim)
  refine E14 (T7.freezeNew (a:=l) hls zl hl) λZ8 T8 hz8 f8 hoff=>?_
  exact zM Z8 T8.stp (zah.mpr (I33 l vs m rfl hz8 (rl.mono f8)))
 refine wpAny_execs_cons (wpAny_If (za9.then (H.tst 60 c0 _ (.v 0) ρ_2 (.int (av:Int)) ((av:Int) !=0) (by rfl) (by rfl) rfl A' env Z_3 _ _ hA6 hG S_6.ok R6) λs_7 Z7 S_7=>?_))
 by_cases hav:av=0
 ·have e0:((av:Int) !=0)=false:=by simp [hav]
  rw [e0,if_neg Bool.false_ne_true] at |-
  have hc0:cnt=0:=by
   rw [hcnt,hav] at |-
   have:zo ((0:Nat):Int)=0:=by decide+kernel
   rw [this] at |-
   exact Nat.div_eq_of_lt (by lia)
  refine wpAny_execs_nil (fin (S_7.x) ?_)
  refine E23 (D.stp S_7).own λvs m hl rl zl=>?_
  refine I23 vs m hl ?_ zl
  have:xs=dI (zaU av n cnt):=by simp only [xs,hc0];rfl
  rw [<-this] at |-;exact rl
 ·have e0:((av:Int) !=0)=true:=by simp [hav]
  rw [e0,if_pos rfl] at |-
  have hc1:1<=cnt:=by
   rw [hcnt] at |-
   have:=zg2 hav
   exact (Nat.le_div_iff_mul_le (by lia)).mpr (by lia)
  have D7:=D.stp S_7
  have R7:=R6.stp S_7
  refine wpAny_execs_cons (wpAny_Expr_any (wpAny_Call_NameR (wpAny_Name (wpAny_loadName_cell (c:=ci) R.kind (by rw [R.names] at |-;rfl) l2 D7.inn ?_) (by decide+kernel))) (by unfold interactive;rw [R.kind] at |-;rfl) rfl)
  have hargs:exs (run zbe 6) ρ_2 [.v 0,.c (.int 0),.bi .len [.v 2]]=some [.int (av:Int),.int (((0:Nat):Int)),.int ((cnt:Nat):Int)]:=by
   have e:(run zbe 6).ex ρ_2 (.bi .len [.v 2])=some (.int ((cnt:Nat):Int)):=by
    show (if xs.length<=big then some (PyData.int ((xs.length:Nat):Int)) else none)=_
    rw [xsl,if_pos hlen] at |-
   have e':(run zbe 6).ex ρ_2 (.c (.int 0))=some (.int ((0:Nat):Int)):=rfl
   have e'':(run zbe 6).ex ρ_2 (.v 0)=some (.int (av:Int)):=rfl
   exact zjU e'' (zdE e' e)
  refine Calls.callWith_function (z7 (H.ex 60) hA6 hG (pes:=[.v 0,.c (.int 0),.bi .len [.v 2]]) (by rfl) hargs S_7.ok R7 λvs s_8 Z8 S_8 r=>⟨⟨(D7.stp S_8).fn,rfl⟩,?_⟩)
  refine E23 (zG.mp r) λv vs' e9 r1 q1=>?_;refine za e9 ?_
  refine E23 (zG.mp q1) λv' vs'' e9 r2 q2=>?_;refine za e9 ?_
  refine E23 (zG.mp q2) λv'' vs3 e9 r3 q3=>?_;refine za e9 ?_
  rw [zaL] at q3;refine za q3 ?_
  rw [zu] at r1 r2 r3;obtain (⟨t1,e9⟩):=r1;refine za e9 ?_;obtain (⟨t2,e9⟩):=r2;refine za e9 ?_;obtain (⟨t3,e9⟩):=r3;refine za e9 ?_
  refine wpAny_mono (zif H 20 A' Z8 s_8 xs av 0 cnt t1 t2 t3 (hA'.le (by decide)) S_8.ok (D7.stp S_8) hc1 (by rw [xsl] at |-;exact Nat.le_refl _) (by lia)
   (by rw [Nat.sub_zero,Nat.mul_comm] at |-;exact Nat.lt_of_lt_of_le (zf9 av) (Nat.pow_le_pow_right (by decide) hbits)) (by rw [xsl] at |-;exact hsz) (by rw [xsl] at |-;exact hlen)) (λv s_9 pp=>?_) λ_ _ x=>x
  obtain ⟨_,Z9,S_9,ho_9⟩:=pp
  refine wpAny_execs_nil (fin (((S_7.trans S_8).x (W:=(· =l)) (GI:=λ_=>False)).trans S_9 (λb hb=> .inl hb) (λ_ h=>h.elim)) ?_)
  have e9:xs.take 0++dI (zaU av n (cnt-0))++xs.drop cnt=dI (zaU av n cnt):=by
   rw [List.take_zero,List.nil_append,Nat.sub_zero,List.drop_eq_nil_of_le (by refine za xsl ?_;exact Nat.le_refl _),List.append_nil] at |-
  rw [<-e9] at |-;exact ho_9
end
def zd2 (a n:Nat):Nat:=(zo (a:Int)+n-1)/n
def zg4 (args:List PyData):Option PyData:=(znv args).bind λp=>(zJ p.1).bind λa=>(zJ p.2).bind λn=>
 if 0<=a/\ 1<=n/\ n.toNat<=2^24/\ zd2 a.toNat n.toNat*n.toNat<=2^24/\ zd2 a.toNat n.toNat<=big then some (.list (dI (zaU a.toNat n.toNat (zd2 a.toNat n.toNat)))) else none
def zg5 (args:List PyData):Option PyData:=(znv args).bind λp=>(za3 p.1).bind λxs=>(zJ p.2).bind λn=>(zd6 xs).bind λis=>
 if 0<=n/\ (∀d∈is,0<=d/\ d<2^n.toNat)/\ is.length*n.toNat<=2^24/\ is.length<=big then some (.int (za8 n.toNat is)) else none
theorem zle {d:PyData} {i:Int} (h:zJ d=some i):d= .int i:=by
 induction d using PyData.casesOn with
 |int _=>exact eqE h rfl
 |_=>exact zb h
section
variable {Ω:En} {A:Around} {Z Z':Heap} {s s':Shared} {p:Nat ->Pos} {q:Str} {c P:Addr} {env:Env} {ρ:Rho} {ad:Nat ->Addr}
 {Φ:Fs}
theorem zoK (G:Gl Ω.B Φ):Gl Ω.B Φ.none:=
 ⟨E25 G.ns λmg mb a b u v e=>(I25 mg mb a b (λf k h=>(nomatch h)) (λx d h=>(nomatch h)) e),λf k h=>(nomatch h),G.lim,G.sys⟩
theorem zuN (G:Gl Ω.B Φ) (GG:GlG Ω.B Φ.gen Φ.ga) (F:zj4 Ω.B Φ.ga) (hd:(Φ.gen==("__debug__" :Str))=false) (n:Nat):zaf Ω Φ.none (run zbe n) (n+40):=by
 refine (zgQ (off:=40) (tbl:=zbe) (zm2.mk (Nat.le_refl _) (zoK G) GG (zou (zoK G) F) hd (λf k np ns pb h=>(nomatch h)) (λf k p h=>(nomatch h)) (λk h=>nomatch h)) n).1
end
section
variable {Ω:En} {A:Around} {Z Z':Heap} {s s':Shared} {p:Nat ->Pos} {q:Str} {c P:Addr} {env:Env} {ρ:Rho} {ad:Nat ->Addr}
 {Φ:Fs} {a:Addr} {fd:FuncData}
theorem zoL (H:zaf Ω Φ.none (run zbe 6) 46) (X:zdp Ω.B a fd zby (zbL p) c P q) (T:zid Ω c P (zgX p) q):ziX Ω 100 a zg5:=λargs d hd A Z s vals hA hO r=>by
 refine zc hd λp hp hd=>zc hd λxs hx hd=>zc hd λn hn hd=>zc hd λis his hd=>ifE hd λhc hd=>E04 hc λh0 h1 h2 h3=>?_
 rw [zkU hp,zdz hx,zle hn,zdA his] at r
 refine eqE hd ?_
 obtain (⟨k,rfl⟩):=Int.eq_ofNat_of_zero_le h0
 exact zoF H X h1 h2 h3 hA hO T r
theorem zoM (H:zaf Ω Φ.none (run zbe 6) 46) (X:zdp Ω.B a fd zb1 (zcg p) c P q) (hpos:((p 6).endLine==(p 7).line)=true) (T:zid Ω c P (zgY p) q):ziX Ω 100 a zg4:=λargs d hd A Z s vals hA hO r=>by
 refine zc hd λp hp hd=>zc hd λx hx hd=>zc hd λn hn hd=>ifE hd λhc hd=>E05 hc λh0 h1 h2 h3 h4=>?_
 rw [zkU hp,zle hx,zle hn] at r
 refine eqE hd ?_
 obtain (⟨y,rfl⟩):=Int.eq_ofNat_of_zero_le h0
 obtain (⟨k,rfl⟩):=Int.eq_ofNat_of_zero_le (Int.le_trans (by decide) h1)
 exact zoJ H X hpos (Int.ofNat_le.mp h1) h2 rfl h3 h4 hA hO T r
end
section
variable {prog:Program} {w:World} {A:Around} {E:Value ->Shared ->Prop} {s:Shared} {env:Env}
theorem zlf {x:Str} {np pos:Pos} {Q:Flow ->Shared ->Prop} (hh:A.handled=none)
  (hx:wpAny (model prog w) A (eval (.Name x np) env) (λv s_1=>v= .type "ZeroDivisionError" /\ s_1=s) E s)
  (h:∀h' e,Heap.MadeExc s.heap h' e "ZeroDivisionError" [] ->E (.ref e) {s with heap:=h'}):
  wpAny (model prog w) A (exec (.Raise (some (.Name x np)) none pos) env) Q E s:=by
 have base:isSubtype (.type "ZeroDivisionError") (.type "BaseException")=pure true:=F.excRaise_ZeroDivisionError.isExc
 have self:isSubtype (.type "ZeroDivisionError") (.type "ZeroDivisionError")=pure true:=F.excCall_ZeroDivisionError.sub
 show wpAny (model prog w) A (do standAt pos;raiseStmt env (some (do let v <-eval (.Name x np) env;standAt pos;pure v)) none) Q E s
 refine wB (wpAny_standAt ?_)
 unfold raiseStmt
 dsimp only
 refine wB (wB (wpAny_mono hx (λv s_1 h_1=>?_) λ_ _ e=>e))
 refine zR h_1 λe1 e2=>?_
 clear h_1
 subst e1;subst e2
 refine wB (wpAny_standAt (wPu (wB (wPu (wB (wpAny_holding ?_))))))
 have hex:wpAny (model prog w) A (isExcClass (.type "ZeroDivisionError")) (λb s2=>b=true/\ s2=s_1) E s_1:=by
  unfold isExcClass
  refine wB (m:=isType (.type "ZeroDivisionError")) (wPu ?_)
  refine za (if_pos rfl) (za base ?_)
  exact wPu ⟨rfl,rfl⟩
 unfold excFromValue
 refine wB (wpAny_mono hex (λb s2 q=>?_) λ_ _ e=>e)
 refine zR q λe1 e2=>?_
 clear q
 subst e1;subst e2
 refine za (if_pos rfl) (wB (wpAny_call_exc F.excCall_ZeroDivisionError λh' e hm=>?_))
 refine E13 (id hm.there) λt he _ _=>?_
 have hT:({s2 with heap:=h'}:Shared).TypeIs (.ref e) "ZeroDivisionError" :=⟨_,he,rfl⟩
 refine wB (wpAny_isInstance hT base ?_)
 refine za (if_neg (by decide)) (wPu (wB (m:=isType (.type "ZeroDivisionError")) (wPu ?_)))
 refine za (if_pos rfl) (wB (wpAny_holding ?_))
 unfold raisedFor
 refine za (if_neg (by decide)) (wB (m:=typeOf (.ref e)) (wpAny_typeOf hT (wB (call_issubclass (issubclass_self excClass_ZeroDivisionError self) ?_))))
 dsimp only [wants]
 refine wB (wpAny_truthy_bool ?_)
 refine za (if_pos rfl) (wPu ?_)
 unfold setFlight raiseNew
 refine wB (wB (wpAny_field (i:=1) (x:=Value.none) he rfl rfl ?_))
 refine za (if_neg (by decide)) (wPu (wB (wpAny_handled ?_)))
 exact za hh (wB (wPu (wpAny_throw (h h' e hm))))
end
structure zg6 (B:Heap) (Φ:Fs) (a:Addr):Prop where
 ex:∃fd src rest els r0 p1 k p2 p3 p4 p5 p6,FnB B a 2 fd src/\ src= .If (.Compare (.Name "b" p1) [.Eq] [.Constant (.int 0) k p2] p3) (.Raise (some (.Name "ZeroDivisionError" p4)) none p5::r0) els p6::rest/\
  zK (zbI Φ.fns Φ.cst Φ.gen fd.scope src) "b" =some 1/\ zk (zbI Φ.fns Φ.cst Φ.gen fd.scope src) "ZeroDivisionError" =true
section
variable {Ω:En} {A:Around} {Z:Heap} {s:Shared} {Φ:Fs}
theorem zg7 {fd:FuncData} {L a:Addr} (h:(callEnvC fd L a).scope.kind= .function):(callEnvC fd L a).frame=some L:=by
 have h:fd.scope.kind= .function:=h
 unfold callEnvC newEnv
 simp [h]
theorem zqB (G:Gl Ω.B Φ) {a:Addr} (F:zg6 Ω.B Φ a):zfk Ω a:=by
 intro A n env base Z s i u v hA hfr stays frames hO
 refine cps λG0 hG_0=>?_
 obtain ⟨fd,src,rest,els,r0,p1,k,p2,p3,p4,p5,p6,FB,hsrc,hb,hz⟩:=F.ex
 refine hG_0 ?_
 have r:zC Z [.int i u,.int 0 v] [.int i,.int 0]:= .cons (zu.mpr ⟨_,rfl⟩) (.one (zu.mpr ⟨_,rfl⟩))
 refine zgW (ns:=10) G hA FB rfl hO r λh_1 tk S_1 keep R hown hA'=>?_
 let env2:Env:=callEnvC fd s.heap.objs.size a
 let c:=zbI Φ.fns Φ.cst Φ.gen fd.scope src
 have R:Rel c env2 Z h_1 ([.int i,.int 0].map (λd=>some (.d d))++List.replicate 10 none) (λ_=>0):=R
 refine za hsrc (wpAny_execs_cons (wpAny_If (wpAny_isTrue_Compare1 (wpAny_Name (zaB (i:=1) R hb rfl λv1 r1=>wpAny_Constant_int ?_) (by decide+kernel)))))
 have r1:Rep Z v1 (.int 0):=r1
 refine zcr r1 λt1=>?_
 refine PyProof.Rows.eq_int ?_
 refine zbw ?_
 refine za (show ((0:Int)==0)=true from rfl) (za (if_pos rfl) ?_)
 have S_2:=S_1.trans (Stp.tok (n:=tk+1) S_1.ok)
 have R_2:Rel c env2 Z h_1 _ _:=R
 refine wpAny_execs_cons (zlf hA'.handled (wpAny_Name (zdD G S_2.ok R_2 hz (v:= .type "ZeroDivisionError") (by decide+kernel) ⟨rfl,rfl⟩) (by decide+kernel)) λh' e hm=>?_)
 refine zm R.loc λm hns _=>?_
 have hL:base.get? s.heap.objs.size=none:=by
  induction q:base.get? s.heap.objs.size with
  |none=>rfl
  |some o=>exact zb ((zh _).symm.trans (stays _ _ q))
 have hkb:base.StaysIn h_1:=λb o e=>keep b o (stays b o e)
 refine wpAny_leaves_madeW (L:=s.heap.objs.size) (Around.frames_deeper hfr) ?_ hkb (Heap.FunFrames.cons (by refine za R.kind ?_;decide) ?_ hns hL (frames.of_keeps λb o e _=>⟨o,keep b o e,rfl⟩)) hm.of λh'' t hfl htup hnew hsm=>?_
 ·exact zg7 R.kind
 ·exact zg7 R.kind
 ·exact ⟨e,t,h'',tk+1,rfl,rfl,hfl,htup,hnew,((Heap.UpToSlots.of_keeps keep).trans (Heap.UpToSlots.of_keeps hm.keeps)).trans hsm⟩
end
theorem zdq {h:Heap} {c P:Addr} {pos:Pos} {q:Str} {hit:Bool} (x:zdo h c P pos q hit):∃l,h.TableAt c P l:=by
 induction hit with
 |true=>refine E24 x λps c' a b d e=>?_;clear x;exact ⟨ps,b⟩
 |false=>exact ⟨_,x.2⟩
theorem zg8 {h h':Heap} {c P:Addr} {l:Array Value} (x:h.TableAt c P l) (k:∀b o,b=P \/zkQ o ->h.get? b=some o ->h'.get? b=some o):h'.TableAt c P l:=by
 refine zR x λq1 t=>?_
 clear x
 refine E24 q1 λo vs e hc hd r=>?_
 clear q1
 exact ⟨I24 o vs (k _ _ (.inr ⟨hc,vs,hd⟩) e) hc hd r,k _ _ (.inl rfl) t⟩
theorem zig {h h':Heap} {c P:Addr} {l ps:Array Value} (x:h.IsCode c P ps) (t:h.TableAt c P l) (k:∀b o,b=P \/zkQ o ->h.get? b=some o ->h'.get? b=some o):h'.IsCode c P ps:=by
 refine zR t λq2 _=>?_
 clear t
 refine E24 q2 λo' vs' e' hc hd' _=>?_
 clear q2
 obtain ⟨o,vs,file,tf,flags,tg,inF,text,tt,op,ho,r1,r2,r3,r4,r5,r6,hop,r⟩:=x
 exact ⟨o,vs,file,tf,flags,tg,inF,text,tt,op,k _ _ (.inr ⟨Option.some.inj (e'.symm.trans ho)▸hc,vs,r1⟩) ho,r1,r2,r3,r4,r5,r6,k _ _ (.inl rfl) hop,r⟩
theorem zga {h h':Heap} {c P:Addr} {pos:Pos} {q:Str} {hit:Bool} (x:zdo h c P pos q hit) (k:∀b o,b=P \/zkQ o ->h.get? b=some o ->h'.get? b=some o):zdo h' c P pos q hit:=by
 induction hit with
 |true=>
  refine E24 x λps c' a b d e=>?_
  clear x
  exact I24 ps c' (zig a b k) (zg8 b k) d (E34 e λo vs t g hc hd r=>I34 o vs t (k _ _ (.inr ⟨hc,vs,hd⟩) g) hc hd r)
 |false=>exact ⟨zig x.1 x.2 k,zg8 x.2 k⟩
structure zg9 where
 cD:Addr
 PD:Addr
 cI:Addr
 PI:Addr
 pD:Pos
 pI:Pos
 qD:Str
 qI:Str
def zl9 (X:zg9) (h:Heap):Prop:=(∃hit,zdo h X.cD X.PD X.pD X.qD hit)/\ ∃hit,zdo h X.cI X.PI X.pI X.qI hit
noncomputable def zsZ (prog:Program) (w:World) (B:Heap) (os:OsState) (X:zg9):En where
 prog:=prog
 w:=w
 B:=B
 os:=os
 tab b:=b=X.PD \/b=X.PI
 J:=zl9 X
 jk h h' j k:=⟨zO j.1 λhit x=>⟨hit,zga x λb o hb e=>k b o (hb.imp .inl id) e⟩,zO j.2 λhit x=>⟨hit,zga x λb o hb e=>k b o (hb.imp .inr id) e⟩⟩
 jf h j b t:=t.elim (λe=>zO j.1 λhit x=>zO (zdq x) λl y=>I22 _ l (e▸y.2) ⟨rfl,rfl⟩) λe=>zO j.2 λhit x=>zO (zdq x) λl y=>I22 _ l (e▸y.2) ⟨rfl,rfl⟩
section
variable {prog:Program} {w:World} {B:Heap} {os:OsState} {X:zg9}
theorem zrZ {h:Heap} {c P:Addr} {pos:Pos} {q:Str} {hit:Bool} (x:zdo h c P pos q hit) {o:Obj} (e:h.get? P=some o):¬zkQ o:=λk=>zO (zdq x) λl y=>by
 cases y.2.symm.trans e
 exact nomatch k.1
theorem zi4 (hne:X.PD≠X.PI):zid (zsZ prog w B os X) X.cD X.PD X.pD X.qD where
 tab:= .inl rfl
 get h j:=j.1
 set h h' j k hs:=⟨⟨true,hs⟩,zO j.2 λhit x=>⟨hit,zga x λb o hb e=>k b o (λeb=>hb.elim (λe2=>hne (eb.symm.trans e2)) λhc=>zO j.1 λ_ y=>zrZ y (eb▸e) hc) (hb.imp .inr id) e⟩⟩
theorem zvU (hne:X.PD≠X.PI):zid (zsZ prog w B os X) X.cI X.PI X.pI X.qI where
 tab:= .inr rfl
 get h j:=j.2
 set h h' j k hs:=⟨zO j.1 λhit x=>⟨hit,zga x λb o hb e=>k b o (λeb=>hb.elim (λe2=>hne (e2.symm.trans eb)) λhc=>zO j.2 λ_ y=>zrZ y (eb▸e) hc) (hb.imp .inl id) e⟩,⟨true,hs⟩⟩
end
def zlg (os_0:OsState) (s:Shared) (d:PyData):Value ->Shared ->Prop:=λv s'=>(∃Z',Sub Z' s'.heap/\ Rep Z' v d)/\ OldK s.heap s'.heap/\ s'.os=os_0/\ AllBare s'.gens
theorem zqC {h h':Heap} {X:zg9} (k:∀b o,¬(b=X.PD \/b=X.PI) ->h.get? b=some o ->h'.get? b=some o) (tD:h.TableAt X.cD X.PD #[]) (tI:h.TableAt X.cI X.PI #[]) (j:zl9 X h'):OldK h h':=by
 refine zO j.1 λ_ xD=>zO j.2 λ_ xI=>zO (zdq xD) λlD tD'=>zO (zdq xI) λlI tI'=>?_
 refine ⟨λb o e=>?_,λb o e=>?_⟩
 ·by_cases h1:b=X.PD
  ·subst h1
   refine eqE (tD.2.symm.trans e) ?_
   exact .inr (.inl ⟨tD.isCodeTable,rfl,#[],lD,rfl,by refine za Array.empty_append ?_;exact tD'.2⟩)
  ·by_cases h2:b=X.PI
   ·subst h2
    refine eqE (tI.2.symm.trans e) ?_
    exact .inr (.inl ⟨tI.isCodeTable,rfl,#[],lI,rfl,by refine za Array.empty_append ?_;exact tI'.2⟩)
   ·exact .inl (k b o (λt=>t.elim h1 h2) e)
 ·by_cases h1:b=X.PD
  ·exact ⟨_,h1▸tD'.2⟩
  ·by_cases h2:b=X.PI
   ·exact ⟨_,h2▸tI'.2⟩
   ·exact ⟨o,k b o (λt=>t.elim h1 h2) e⟩
section
variable {Ω:En} {A:Around} {s:Shared} {Φ:Fs}
theorem zqD {c:TC} {env:Env} {Z h:Heap} {ρ:Rho} {ad:Nat ->Addr} (R:Rel c env Z h ρ ad):Rel {c with top:=true} env Z h ρ ad:=
 ⟨R.kind,R.names,R.glob,R.blt,R.loc,R.cel,R.apL,R.injS,R.injC,R.own,R.ownInj,R.hi,R.slot,R.mainL⟩
theorem zoN {tbl:Nat ->Option Fn} {N:Nat} (T:zm2 Ω Φ tbl 100) (hA:Rm A (N+101)) (hfr:A.frames=some []) (hO:Ok Ω Ω.B s) {al:Addr} {fd:FuncData} {src:List Stmt} (FL:FnB Ω.B al 1 fd src)
  {kk ns:Nat} {pb:List PS} (htr:trB kk {zbI Φ.fns Φ.cst Φ.gen fd.scope src with top:=true} src=some pb) {dS dR:PyData} {ρ3:Rho}
  (ev:(run tbl N).blk (some (.d dS)::List.replicate ns none) pb=some (ρ3,.ret dR)) {vS:Value} (rS:Rep Ω.B vS dS):
  wpAny Ω.m A (call (.ref al) [vS]) (λv s'=>∃Z',Stp Ω Ω.B s Z' s'/\ Rep Z' v dR) zf s:=by
 refine zR (zgQ T N) λH HB=>?_
 refine zfm (n:=N+100) (ns:=ns) (Φ:=Φ) T.gl hA FL (args:=[dS]) rfl hO (.one rS) λh_1 tk S_1 R hown hA'=>?_
 let env:Env:=callEnvC fd s.heap.objs.size al
 refine wpM (HB kk _ src pb _ ρ3 (.ret dR) htr ev rfl (A.deeper env) env Ω.B _ (λx=>0) hA' ⟨rfl,rfl,rfl⟩ (λ_=>⟨Around.frames_deeper hfr,zg7 R.kind⟩) S_1.ok (zqD R)) (λf s_2 p=>?_)
 refine E23 p λZ2 v e9 S2 r=>?_
 clear p;refine za e9 ?_
 exact zM Z2 ((S_1.x (W:=λ_=>False) (GI:=λ_=>False)).trans S2 (λb ow=> .inr (hown b ow)) (λ_ h=>h.elim)).stp r
end
noncomputable def zcp:Obj:={cls:= .none,data:= .fields #[]}
theorem zqE {h:Heap} {PD PI:Addr} (hD:h.get? PD=some zcp) (hI:h.get? PI=some zcp):
  ∃B:Heap,Sub B h/\ B.get? PD=none/\ B.get? PI=none/\ ∀b o,h.get? b=some o ->o≠zcp ->B.get? b=some o:=by
 refine zm (zgM h PD) λB1 k1 z1=>?_
 refine zm (zgM B1 PI) λB2 k2 z2=>?_
 refine I14 B2 (λb o e=>?_) ?_ z2 (λb o e ne=>?_)
 ·by_cases h2:b=PI
  ·rw [h2,z2] at e;exact zb e
  ·rw [k2 b h2] at e
   by_cases h1:b=PD
   ·rw [h1,z1] at e;exact zb e
   ·rw [k1 b h1] at e;exact e
 ·by_cases h:PD=PI
  ·refine za h ?_;exact z2
  ·refine za (k2 PD h) ?_;exact z1
 ·have h1:b≠PD:=by rintro rfl;replace e:=hD▸e;cases e;exact ne rfl
  have h2:b≠PI:=by rintro rfl;have e:=hI▸e;cases e;exact ne rfl
  refine za (k2 b h2) ?_;refine za (k1 b h1) ?_;exact e
structure zeh where
 name:Str
 sc:Scope
 body:List Stmt
 args:Arguments
noncomputable def zkb (p:Program):List zeh:=p.main.body.filterMap λs=>match s with
 | .FunctionDef n a b _ _ _ sc _ _ _=>some ⟨n,sc,b,a⟩
 |_=>none
def zoO (p:Program) (n:Str):Option zeh:=(zkb p).find? λd=>d.name==n
def zih (mg:Str ->Option Value) (h:Heap) (d:zeh) (c P:Addr):Prop:=
 ∃a o pm code doc,mg d.name=some (.ref a)/\ h.get? a=some o/\ o.data= .func (Calls.docDef d.name d.args d.body d.sc pm code doc)/\ h.CodeRec code d.name/\ code= .ref c/\ h.IsCode c P #[]/\ h.TableAt c P #[]
def zha (mg:Str ->Option Value) (h:Heap) (d:zeh):Prop:=∃c P,zih mg h d c P
theorem zqF {p:Program} {loose:List Str} {mean:ExcName ->Option Value} {mg mb:Str ->Option Value} {h:Heap} (T:Top p loose mean mg mb h) {d:zeh} (hd:∃r∈recsOf p,r.name=d.name/\ r.params=d.args/\ r.body=d.body/\ r.scope=d.sc):zha mg h d:=by
 refine E15 hd λr hr e1 e2 e3 e4=>?_
 clear hd
 refine E54 (T.fn r hr) λa o pm code doc h1 h2 h3 h4=>?_
 refine E56 (T.tab r hr) λa' o' fd c P g1 g2 g3 g4 g5 g6=>?_
 cases h1.symm.trans g1
 cases h2.symm.trans g2
 replace g3:=h3▸g3;cases g3
 rw [e1,e2,e3,e4] at h3
 rw [e1] at h1 h4
 exact ⟨c,P,a,o,pm,code,doc,h1,h2,h3,h4,g4,g5,g6⟩
def zoP (fns:List (Str×Nat)) (cst:List (Str×PyData)) (gen:Str) (d:zeh):Option (List PS):=trB 9 (zbI fns cst gen d.sc d.body) d.body
def zbM (d:zeh):Bool:=
 d.sc.kind== .function&& !d.sc.isCoroutine&& !d.sc.isGenerator&&zaJ (d.sc.names.map (·.1))&&(d.sc.names.all λp=>p.2==NameKind.local||p.2==NameKind.cell||p.2==NameKind.globalImplicit)&&zaJ (d.args.args.map (·.arg))&&
  ((d.args.args.map (·.arg)).zipIdx.all λq=>match d.sc.names[q.2]? with|some (x,k)=>x==q.1&&(k== .local||k== .cell)|none=>false)
set_option tactic.hygienic true in
theorem zi5 {d:zeh} (h:zbM d=true):d.sc.kind= .function/\ d.sc.isCoroutine=false/\ d.sc.isGenerator=false/\ zaJ (d.sc.names.map (·.1))=true/\ (d.sc.names.all λp=>p.2==NameKind.local||p.2==NameKind.cell||p.2==NameKind.globalImplicit)=true/\
  zaJ (d.args.args.map (·.arg))=true/\ ∀(j:Nat) (x:Str),(d.args.args.map (·.arg))[j]?=some x ->∃k:NameKind,d.sc.names[j]?=some (x,k)/\ (k=NameKind.local \/k=NameKind.cell):=by
 unfold zbM at h
 simp only [Bool.and_eq_true,Bool.not_eq_true',beq_iff_eq] at h
 refine cps λG0 hG_0=>?_
 refine zR h λq1 h7=>?_
 clear h
 refine zR q1 λq2 h6=>?_
 clear q1
 refine zR q2 λq3 h5=>?_
 clear q2
 refine zR q3 λq4 h4=>?_
 clear q3
 refine zR q4 λq5 h3=>?_
 clear q4
 refine zR q5 λh1 h2=>?_
 clear q5
 refine hG_0 ?_
 refine I07 h1 h2 h3 h4 h5 h6 (λj x e=>?_)
 have hm:(x,j)∈(d.args.args.map (·.arg)).zipIdx:=by
  rw [List.mem_zipIdx_iff_getElem?];exact e
 have:=List.all_eq_true.mp h7 _ hm
 dsimp only at this
 split at this
 ·rename_i y k e'
  simp only [Bool.and_eq_true,Bool.or_eq_true,beq_iff_eq] at this
  refine zR this λe9 hk=>?_
  clear this;refine za e9.symm ?_
  exact zM k e' hk
 ·cases this
def zal (d:zeh):Prop:=∀(pm code doc:Value) (vals:List Value),vals.length=d.args.args.length ->bindArgs (Calls.docDef d.name d.args d.body d.sc pm code doc) ⟨vals,[]⟩=pure ((d.args.args.map (·.arg)).zip vals)
noncomputable def zfW (mg:Str ->Option Value) (names:List Str) (k:Nat):Addr:=match names[k]? with
 |some f=>(match mg f with|some (.ref a)=>a|_=>0)
 |none=>0
structure zoQ (B:Heap) (Φ:Fs) (tbl:Nat ->Option Fn):Prop where
 gl:Gl B Φ
 glg:GlG B Φ.gen Φ.ga
 gfn:zj4 B Φ.ga
 gd:(Φ.gen==("__debug__" :Str))=false
 code:∀f k np ns pb,Φ.fns.lookup f=some k ->tbl k=some (.code np ns pb) ->zqp B Φ (Φ.fa k) np pb
 zero:∀k,Φ.fns.lookup ("int_divmod" :Str)=some k ->zg6 B Φ (Φ.fa k)
theorem zoQ.tabs {Ω:En} {Φ:Fs} {tbl:Nat ->Option Fn} (L:zoQ Ω.B Φ tbl) (hp:∀f k p,Φ.fns.lookup f=some k ->tbl k=some (.prim p) ->ziX Ω 100 (Φ.fa k) p):zm2 Ω Φ tbl 100:=
 ⟨by simp,L.gl,L.glg,zou L.gl L.gfn,L.gd,L.code,hp,λk hk=>zqB L.gl (L.zero k hk)⟩
section
variable {B h:Heap} {mg mb:Str ->Option Value} {Φ:Fs} {d:zeh} {a:Addr}
abbrev BK (h B:Heap):Prop:=∀b o,h.get? b=some o ->o≠zcp ->B.get? b=some o
theorem zkc {m:Str ->Option Value} (k:BK h B) (x:h.Ns a m):B.Ns a m:=x.at' λo e=>k a o e (by
 rintro rfl
 refine E33 x λo' es ep e' d _=>?_
 clear x
 cases e.symm.trans e';cases d)
theorem zei {cd:Value} {q:Str} (k:BK h B) (x:h.CodeRec cd q):B.CodeRec cd q:=by
 refine E44 x λc o vs t e g d r=>?_
 clear x
 refine I44 c o vs t e (k _ _ g ?_) d r
 rintro rfl
 cases d
 exact zb r
theorem zi6 {c P:Addr} (k:BK h B) (X:zih mg h d c P) (ok:zbM d=true) (hb:zal d):∃a pm code doc,mg d.name=some (.ref a)/\ FnB B a d.args.args.length (Calls.docDef d.name d.args d.body d.sc pm code doc) d.body/\ code= .ref c/\ h.IsCode c P #[]/\ h.TableAt c P #[]/\
  (∃o,B.get? a=some o/\ o.data= .func (Calls.docDef d.name d.args d.body d.sc pm code doc))/\ B.CodeRec code d.name:=by
 refine E57 X λa o pm code doc h1 h2 h3 h4 h5 h6 h7=>?_
 clear X
 refine E07 (zi5 ok) λs1 s2 s3 s4 s5 s6 s7=>?_
 have ho:B.get? a=some o:=k a o h2 (by rintro rfl;cases h3)
 exact I47 a pm code doc h1 ⟨o,d.args.args.map (·.arg),ho,h3,rfl,rfl,rfl,rfl,zei k h4,s1,s2,s3,s4,s5,by simp,λvals hv=>hb pm code doc vals hv,s6,s7⟩ h5 h6 h7 ⟨o,ho,h3⟩ (zei k h4)
theorem zqG {pb:List PS} (k:BK h B) (X:zha mg h d) (ok:zbM d=true) (hb:zal d) (hp:zoP Φ.fns Φ.cst Φ.gen d=some pb):∃a,mg d.name=some (.ref a)/\ zqp B Φ a d.args.args.length pb:=by
 refine cps λG0 hG_0=>?_
 refine E21 X λc P X=>?_
 refine E43 (zi6 k X ok hb) λa pm code doc h1 F _=>?_
 refine E24 F.ex λo ps g1 g2 g3 g4=>?_
 refine hG_0 ?_
 exact zM a h1 ⟨o,_,d.body,9,ps,g1,g2,rfl,hp,g4⟩
theorem zoR {p:Nat ->Pos} (k:BK h B) (X:zha mg h d) (hbody:d.body=zdm p) (hsc:d.sc=zbd) (hargs:d.args.args.map (·.arg)=[("addr" :Str)]) (hb:zal d):∃a,mg d.name=some (.ref a)/\ zj4 B a:=by
 refine cps λG0 hG_0=>?_
 obtain ⟨c,P,a,o,pm,code,doc,h1,h2,h3,h4,h5,h6,h7⟩:=X
 refine hG_0 ?_
 have ho:B.get? a=some o:=k a o h2 (by rintro rfl;cases h3)
 refine zM a h1 ⟨o,_,p,ho,h3,congrArg FuncBody.stmts hbody,hsc,rfl,rfl,rfl,zei k h4,λv=>?_⟩
 have hl:d.args.args.length=1:=by have:=congrArg List.length hargs;simpa using this
 refine za (hb pm code doc [v] (by simp [hl])) ?_;refine za hargs ?_;rfl
theorem zii {sc:Scope} {src:List Stmt} {c P:Addr} (k:BK h B) (X:zih mg h d c P) (ok:zbM d=true) (hb:zal d) (hbody:d.body=src) (hsc:d.sc=sc) (hn:d.args.args.length=2) (hg:h.Ns mainGlobals mg)
  (hm:∃bm ob,mg "__builtins__" =some (.ref bm)/\ bm≠builtinsNs/\ h.get? bm=some ob/\ ob.cls= .type "module" /\ ob.dict=some builtinsNs/\ ob.data= .plain) {q:Str} (hq:d.name++ ".<locals>." ++ "inner" =q):
  ∃a fd,mg d.name=some (.ref a)/\ zdp B a fd sc src c P q/\ h.IsCode c P #[]/\ h.TableAt c P #[]:=by
 refine E46 (zi6 k X ok hb) λa pm code doc h1 F h5 h6 h7 _=>?_
 refine E26 hm λbm ob m1 m2 m3 m4 m5 m6=>?_
 clear hm
 have notTab:∀{b:Addr} {o:Obj},h.get? b=some o ->o≠zcp ->b≠P:=by
  rintro b o e ne rfl
  cases h7.2.symm.trans e;exact ne rfl
 refine E33 (id hg) λog eg epg hog hdg _=>?_
 have n1:ob≠zcp:=by rintro rfl;cases m6
 have n2:og≠zcp:=by rintro rfl;cases hdg
 have n3:bm≠mainGlobals:=by
  rintro rfl
  cases m3.symm.trans hog
  cases m6.symm.trans hdg
 have F':FnB B a 2 (Calls.docDef d.name d.args d.body d.sc pm code doc) src:=by refine zF hn ?_;refine zF hbody ?_;exact F
 have bi:∃mg,B.Ns mainGlobals mg/\ (∃bm o,mg "__builtins__" =some (.ref bm)/\ bm≠builtinsNs/\ bm≠mainGlobals/\ bm≠P/\ B.get? bm=some o/\ o.cls= .type "module" /\ o.dict=some builtinsNs/\ o.data= .plain):=
  ⟨mg,zkc k hg,bm,ob,m1,m2,n3,notTab m3 n1,k _ _ m3 n1,m4,m5,m6⟩
 exact I24 a (Calls.docDef d.name d.args d.body d.sc pm code doc) h1 (zdp.mk F' hsc h5 rfl hq bi (notTab hog n2)) h6 h7
theorem zm8 (k:BK h B) (X:zha mg h d) (ok:zbM d=true) (hb:zal d) (hn:d.args.args.length=2)
  (hsh:∃rest els r0 p1 k p2 p3 p4 p5 p6,d.body= .If (.Compare (.Name "b" p1) [.Eq] [.Constant (.int 0) k p2] p3) (.Raise (some (.Name "ZeroDivisionError" p4)) none p5::r0) els p6::rest)
  (h1:zK (zbI Φ.fns Φ.cst Φ.gen d.sc d.body) "b" =some 1) (h2:zk (zbI Φ.fns Φ.cst Φ.gen d.sc d.body) "ZeroDivisionError" =true):∃a,mg d.name=some (.ref a)/\ zg6 B Φ a:=by
 refine cps λG0 hG_0=>?_
 refine E21 X λc P X=>?_
 refine E43 (zi6 k X ok hb) λa pm code doc e1 F _=>?_
 obtain ⟨rest,els,r0,p1,kk,p2,p3,p4,p5,p6,e⟩:=hsh
 refine hG_0 ⟨a,e1,⟨_,d.body,rest,els,r0,p1,kk,p2,p3,p4,p5,p6,hn▸F,e,h1,h2⟩⟩
theorem zqH {names:List Str} {tbl:Nat ->Option Fn} (hfa:Φ.fa=zfW mg names) (k:BK h B) (hg:h.Ns mainGlobals mg) (hb:h.Ns builtinsNs mb) (hlim:h.NoLimit) (hsys:∃o,h.get? sysModules=some o/\ o≠zcp)
  (hbi:∀f v,zdW.lookup f=some v ->mg f=none/\ mb f=some v) (hc:∀x d,Φ.cst.lookup x=some d ->∃v,mg x=some v/\ Rep B v d)
  (hnames:∀f k,Φ.fns.lookup f=some k ->names[k]?=some f)
  (hfn:∀f k,Φ.fns.lookup f=some k ->∃d,d.name=f/\ zha mg h d/\ ∀np ns pb,tbl k=some (.code np ns pb) ->zbM d=true/\ zal d/\ np=d.args.args.length/\ zoP Φ.fns Φ.cst Φ.gen d=some pb)
  (hgen:mg Φ.gen=some (.ref Φ.ga)) (hgf:zj4 B Φ.ga) (hgd:(Φ.gen==("__debug__" :Str))=false)
  (hz:∀d:zeh,d.name=("int_divmod" :Str) ->zha mg h d ->∃a,mg d.name=some (.ref a)/\ zg6 B Φ a):zoQ B Φ tbl:=by
 have fa_at:∀{f k a},Φ.fns.lookup f=some k ->mg f=some (.ref a) ->Φ.fa k=a:=by
  intro f k a h1 h2
  refine za hfa ?_
  unfold zfW
  refine za (hnames f k h1) ?_
  simp only [h2]
 refine ⟨⟨(I25 mg mb (zkc k hg) (zkc k hb) (λf kk hf=>?_) hc hbi),λf kk hf=>?_,?_,zm hsys λo h1 h2=>⟨o,k _ _ h1 h2⟩⟩,⟨(zM mg (zkc k hg) hgen),E33 hgf.ex λo fd p h1 h2 u=>(I22 o fd h1 h2)⟩,hgf,hgd,λf kk np ns pb hf ht=>?_,λkk hf=>?_⟩
 ·refine cps λG0 hG_0=>?_
  refine E13 (hfn f kk hf) λd q1 q2 _=>?_
  obtain rfl:=q1
  obtain ⟨c,P,a,o,pm,code,doc,h1,h2,h3,_⟩:=q2
  refine hG_0 ?_
  refine za (fa_at hf h1) ?_;exact h1
 ·refine cps λG0 hG_0=>?_
  obtain (⟨d,e9,⟨c,P,a,o,pm,code,doc,h1,h2,h3,_⟩,_⟩):=hfn f kk hf;obtain rfl:=e9.symm
  refine hG_0 ?_
  refine za (fa_at hf h1) ?_;exact I22 o _ (k a o h2 (by rintro rfl;cases h3)) h3
 ·refine zm hlim λmc h1 h2=>?_
  clear hlim
  exact zM mc (zkc k h1) h2
 ·refine cps λG0 hG_0=>?_
  refine E13 (hfn f kk hf) λd e9 X hh=>?_;obtain rfl:=e9.symm
  refine E04 (hh np ns pb ht) λok hb' e9 hp=>?_;obtain rfl:=e9.symm
  refine zm (zqG k X ok hb' hp) λa h1 F=>?_
  refine hG_0 ?_
  refine za (fa_at hf h1) ?_;exact F
 ·refine cps λG0 hG_0=>?_
  refine E13 (hfn _ kk hf) λd e9 X hh=>?_
  refine zm (hz d e9 X) λa h1 F=>?_
  refine hG_0 ?_
  refine za (fa_at hf (e9▸h1)) ?_;exact F
end
namespace One1
noncomputable def zvV:List Pos:=[⟨122,4,122,7⟩,⟨122,10,122,11⟩,⟨122,4,122,11⟩,⟨123,4,123,10⟩,⟨123,13,123,18⟩,⟨123,4,123,18⟩,⟨124,8,124,11⟩,⟨124,13,124,15⟩,⟨124,8,124,15⟩,⟨124,19,124,28⟩,⟨124,29,124,33⟩,⟨124,19,124,34⟩,⟨0,0,0,0⟩,⟨125,11,125,17⟩,⟨126,19,126,22⟩,⟨126,24,126,28⟩,⟨126,31,126,33⟩,⟨126,24,126,33⟩,⟨126,18,126,34⟩,⟨126,12,126,34⟩,⟨126,12,126,34⟩,⟨0,0,0,0⟩,⟨127,12,127,18⟩,⟨127,21,127,26⟩,⟨127,12,127,26⟩,⟨128,13,128,15⟩,⟨128,19,128,23⟩,⟨128,13,128,23⟩,⟨129,12,129,18⟩,⟨129,21,129,25⟩,⟨129,12,129,25⟩,⟨0,0,0,0⟩,⟨131,19,131,22⟩,⟨131,24,131,26⟩,⟨131,18,131,27⟩,⟨131,12,131,27⟩,⟨131,12,131,27⟩,⟨128,8,131,27⟩,⟨125,8,131,27⟩,⟨124,4,131,27⟩,⟨132,7,132,13⟩,⟨133,15,133,18⟩,⟨133,20,133,24⟩,⟨133,14,133,25⟩,⟨133,8,133,25⟩,⟨133,8,133,25⟩,⟨132,4,133,25⟩]
noncomputable def zs0:List Pos:=[⟨45,16,45,22⟩,⟨45,24,45,25⟩,⟨47,14,47,15⟩,⟨47,17,47,18⟩,⟨48,11,48,12⟩,⟨48,15,48,16⟩,⟨48,11,48,16⟩,⟨48,20,48,21⟩,⟨48,11,48,21⟩,⟨49,19,49,25⟩,⟨49,26,49,27⟩,⟨49,19,49,28⟩,⟨49,12,49,28⟩,⟨48,8,49,28⟩,⟨50,8,50,11⟩,⟨50,14,50,15⟩,⟨50,18,50,19⟩,⟨50,14,50,19⟩,⟨50,23,50,24⟩,⟨50,14,50,24⟩,⟨50,8,50,24⟩,⟨51,8,51,13⟩,⟨51,17,51,20⟩,⟨51,23,51,24⟩,⟨51,17,51,24⟩,⟨51,28,51,29⟩,⟨51,16,51,29⟩,⟨51,8,51,29⟩,⟨52,16,52,21⟩,⟨52,22,52,25⟩,⟨52,27,52,28⟩,⟨52,16,52,29⟩,⟨52,33,52,38⟩,⟨52,16,52,38⟩,⟨52,42,52,47⟩,⟨52,48,52,49⟩,⟨52,51,52,54⟩,⟨52,42,52,55⟩,⟨52,15,52,55⟩,⟨52,8,52,55⟩,⟨47,4,52,55⟩,⟨53,36,53,42⟩,⟨53,11,53,16⟩,⟨53,17,53,18⟩,⟨53,20,53,23⟩,⟨53,24,53,30⟩,⟨53,20,53,31⟩,⟨53,11,53,32⟩,⟨53,48,53,49⟩,⟨53,11,53,49⟩,⟨53,4,53,49⟩,⟨45,0,53,49⟩]
noncomputable def zs1:List Pos:=[⟨29,16,29,17⟩,⟨29,19,29,20⟩,⟨30,4,30,12⟩,⟨30,16,30,17⟩,⟨30,15,30,18⟩,⟨30,23,30,24⟩,⟨30,23,30,35⟩,⟨30,23,30,37⟩,⟨30,40,30,41⟩,⟨30,23,30,41⟩,⟨30,44,30,45⟩,⟨30,23,30,45⟩,⟨30,50,30,51⟩,⟨30,22,30,51⟩,⟨30,15,30,52⟩,⟨30,4,30,52⟩,⟨32,14,32,15⟩,⟨32,17,32,18⟩,⟨32,20,32,21⟩,⟨33,11,33,12⟩,⟨33,15,33,16⟩,⟨33,11,33,16⟩,⟨33,20,33,21⟩,⟨33,11,33,21⟩,⟨34,12,34,20⟩,⟨34,21,34,22⟩,⟨34,12,34,23⟩,⟨34,26,34,27⟩,⟨34,12,34,27⟩,⟨35,12,35,18⟩,⟨33,8,35,18⟩,⟨36,8,36,11⟩,⟨36,14,36,15⟩,⟨36,18,36,19⟩,⟨36,14,36,19⟩,⟨36,23,36,24⟩,⟨36,14,36,24⟩,⟨36,8,36,24⟩,⟨37,8,37,13⟩,⟨37,17,37,20⟩,⟨37,23,37,24⟩,⟨37,17,37,24⟩,⟨37,28,37,29⟩,⟨37,16,37,29⟩,⟨37,8,37,29⟩,⟨38,8,38,13⟩,⟨38,16,38,17⟩,⟨38,21,38,26⟩,⟨38,16,38,26⟩,⟨38,8,38,26⟩,⟨39,8,39,13⟩,⟨39,16,39,17⟩,⟨39,20,39,25⟩,⟨39,29,39,34⟩,⟨39,20,39,34⟩,⟨39,16,39,34⟩,⟨39,8,39,34⟩,⟨40,8,40,13⟩,⟨40,14,40,19⟩,⟨40,21,40,22⟩,⟨40,24,40,27⟩,⟨40,8,40,28⟩,⟨40,8,40,28⟩,⟨41,8,41,13⟩,⟨41,14,41,19⟩,⟨41,21,41,24⟩,⟨41,26,41,27⟩,⟨41,8,41,28⟩,⟨41,8,41,28⟩,⟨32,4,41,28⟩,⟨42,7,42,8⟩,⟨43,8,43,13⟩,⟨43,14,43,15⟩,⟨43,17,43,18⟩,⟨43,20,43,23⟩,⟨43,24,43,32⟩,⟨43,20,43,33⟩,⟨43,8,43,34⟩,⟨43,8,43,34⟩,⟨42,4,43,34⟩,⟨44,11,44,19⟩,⟨44,4,44,19⟩,⟨29,0,44,19⟩]
noncomputable def P1:Program:=PySem.Challenge.pw_tc0029_01
noncomputable def fd0:zeh:=⟨Str.empty,default,[],default⟩
noncomputable def zar:List Str:=["pretty_flags","_div2n1n","_div3n2n","_int2digits","_digits2int","_divmod_pos","int_divmod","_ellipsis_match","_strip_quoted_realnames","_check_parenthesis","_law_lines","_law_readings","_law_ends","_law_alternant","law"]
def zeN:List (Str×Nat):=zar.zipIdx
noncomputable def flagsD:PyData:= .dict [(.int 1,.str "OPTIMIZED"),(.int 2,.str "NEWLOCALS"),(.int 4,.str "VARARGS"),(.int 8,.str "VARKEYWORDS"),(.int 16,.str "NESTED"),(.int 32,.str "GENERATOR"),(.int 64,.str "NOFREE"),(.int 128,.str "COROUTINE"),(.int 256,.str "ITERABLE_COROUTINE"),(.int 512,.str "ASYNC_GENERATOR")]
def zfX:List (Str×PyData):=[("_DIV_LIMIT",.int 4000),("ELLIPSIS_MARKER",.str "..."),("COMPILER_FLAG_NAMES",flagsD)]
noncomputable def zdQ:Str:="_iter_escaped_chars"
def d1 (n:Str):zeh:=(zoO P1 n).getD fd0
theorem zuO:(d1 zdQ).body=zdm (λi=>zvV.getD i default):=by rfl
theorem zuP:(d1 "_digits2int").body=zbL (λi=>zs0.getD i default):=by rfl
theorem zuQ:(d1 "_int2digits").body=zcg (λi=>zs1.getD i default):=by rfl
theorem zuR:(d1 zdQ).sc=zbd:=by rfl
theorem zuS:(d1 "_digits2int").sc=zby:=by rfl
theorem zuT:(d1 "_int2digits").sc=zb1:=by rfl
theorem zhb:(zar.all λn=>zbM (d1 n))=true:=by decide+kernel
end One1
namespace One1
theorem zm9 {l:List Value} (h:l.length=1):∃a,l=[a]:=List.length_eq_one_iff.mp h
theorem zlh {l:List Value} {n:Nat} (h:l.length=n+1):∃a r,l=a::r/\ r.length=n:=by
 induction l using List.casesOn with
 |nil=>cases h
 |cons a r=>exact I22 a r rfl (Nat.succ.inj h)
theorem zli {l:List Value} (h:l.length=2):∃a b,l=[a,b]:=
 E22 (zlh h) λa r e h=>zO (zm9 h) λb e2=>(I21 a b (by refine za e ?_;exact za e2 rfl))
theorem zoS {l:List Value} (h:l.length=3):∃a b c,l=[a,b,c]:=
 E22 (zlh h) λa r e h=>E21 (zli h) λb c e2=>(I31 a b c (by refine za e ?_;exact za e2 rfl))
theorem zvW {l:List Value} (h:l.length=5):∃a b c d e,l=[a,b,c,d,e]:=
 E22 (zlh h) λa r e1 h=>E22 (zlh h) λb r2 e2 h=>E31 (zoS h) λd e f e4=>⟨a,b,d,e,f,by refine za e1 ?_;refine za e2 ?_;exact za e4 rfl⟩
theorem zvX {l:List Value} (h:l.length=6):∃a b c d e f,l=[a,b,c,d,e,f]:=
 E22 (zlh h) λa r e1 h=>E22 (zlh h) λb r2 e2 h=>E22 (zlh h) λc r3 e3 h=>E31 (zoS h) λd e f e4=>⟨a,b,c,d,e,f,by refine za e1 ?_;refine za e2 ?_;refine za e3 ?_;exact za e4 rfl⟩
theorem zeO:zal (d1 "pretty_flags"):=λpm code doc vals hv=>by
 refine zO (zm9 hv) λa0 e9=>?_;refine za e9 ?_
 rfl
theorem zi7:zal (d1 "_div2n1n"):=λpm code doc vals hv=>by
 refine E31 (zoS hv) λa0 a1 a2 e9=>?_;refine za e9 ?_
 rfl
theorem zi8:zal (d1 "_div3n2n"):=λpm code doc vals hv=>by
 obtain ⟨a0,a1,a2,a3,a4,a5,e9⟩:=zvX hv;refine za e9 ?_
 rfl
theorem zcY:zal (d1 "_int2digits"):=λpm code doc vals hv=>by
 refine E21 (zli hv) λa0 a1 e9=>?_;refine za e9 ?_
 rfl
theorem zcZ:zal (d1 "_digits2int"):=λpm code doc vals hv=>by
 refine E21 (zli hv) λa0 a1 e9=>?_;refine za e9 ?_
 rfl
theorem zfY:zal (d1 "_divmod_pos"):=λpm code doc vals hv=>by
 refine E21 (zli hv) λa0 a1 e9=>?_;refine za e9 ?_
 rfl
theorem zc0:zal (d1 "int_divmod"):=λpm code doc vals hv=>by
 refine E21 (zli hv) λa0 a1 e9=>?_;refine za e9 ?_
 rfl
theorem zdR:zal (d1 "_ellipsis_match"):=λpm code doc vals hv=>by
 refine E21 (zli hv) λa0 a1 e9=>?_;refine za e9 ?_
 rfl
theorem zbN:zal (d1 "_strip_quoted_realnames"):=λpm code doc vals hv=>by
 refine zO (zm9 hv) λa0 e9=>?_;refine za e9 ?_
 rfl
theorem zcQ:zal (d1 "_check_parenthesis"):=λpm code doc vals hv=>by
 refine zO (zm9 hv) λa0 e9=>?_;refine za e9 ?_
 rfl
theorem zhc:zal (d1 "_law_lines"):=λpm code doc vals hv=>by
 refine E31 (zoS hv) λa0 a1 a2 e9=>?_;refine za e9 ?_
 rfl
theorem zeP:zal (d1 "_law_readings"):=λpm code doc vals hv=>by
 refine E31 (zoS hv) λa0 a1 a2 e9=>?_;refine za e9 ?_
 rfl
theorem zhI:zal (d1 "_law_ends"):=λpm code doc vals hv=>by
 refine E51 (zvW hv) λa0 a1 a2 a3 a4 e9=>?_;refine za e9 ?_
 rfl
theorem zej:zal (d1 "_law_alternant"):=λpm code doc vals hv=>by
 refine E21 (zli hv) λa0 a1 e9=>?_;refine za e9 ?_
 rfl
theorem zkd:zal (d1 "law"):=λpm code doc vals hv=>by
 refine zO (zm9 hv) λa0 e9=>?_;refine za e9 ?_
 rfl
theorem zcE:zal (d1 "_iter_escaped_chars"):=λpm code doc vals hv=>by
 refine zO (zm9 hv) λa0 e9=>?_;refine za e9 ?_
 rfl
def zoT:List Stmt:=(d1 "law").body
def zs2:TC:={zbI zeN zfX zdQ (d1 "law").sc zoT with top:=true}
def pbL:List PS:=(trB 9 zs2 zoT).getD []
theorem trL:trB 9 zs2 zoT=some pbL:=by
 have:(trB 9 zs2 zoT).isSome=true:=by decide+kernel
 refine zO (Option.isSome_iff_exists.mp this) λx hx=>?_
 rfl
end One1
theorem zd3:∀{l:List Str} {j k:Nat} {f:Str},(l.zipIdx j).lookup f=some k ->j<=k/\ l[k-j]?=some f
 | [],j,k,f,h=>by exact zb h
 |x::l,j,k,f,h=>by
  rw [List.zipIdx_cons,List.lookup_cons] at h
  split at h
  ·rename_i e
   refine eqE h ?_
   have:f=x:=by simpa using e
   exact za this ⟨Nat.le_refl _,by simp⟩
  ·refine zR (zd3 h) λh1 h2=>?_
   refine ⟨by lia,?_⟩
   refine za (show k-j=(k-(j+1))+1 by lia) ?_;refine za List.getElem?_cons_succ ?_;exact h2
theorem zlj {h B:Heap} {a:Addr} {kvs:List (PyData×PyData)} (k:BK h B) (x:zbr h a kvs):zbr B a kvs:=by
 obtain ⟨hs,f,hm,hf⟩:=x
 refine ⟨hs,f,λp w=>?_,hf⟩
 refine E32 (hm p w) λo es ep ho r=>?_
 refine I32 o es ep (k _ _ ho ?_) r
 rintro rfl
 have:=r.2.1
 cases this
namespace One1
theorem zoU:(zar.all λn=>((zoO P1 n).map (·.name))==some n)=true:=by decide+kernel
theorem d1_mem {f:Str} (h:f∈zar \/f=zdQ):d1 f∈zkb P1/\ (d1 f).name=f:=by
 have hh:(zoO P1 f).map (·.name)=some f:=by
  rcases h with h|rfl
  ·have:=List.all_eq_true.mp zoU _ h
   simpa using this
  ·decide+kernel
 refine zm (Option.map_eq_some_iff.mp hh) λd hd hn=>?_
 have e:d1 f=d:=by unfold d1;refine za hd ?_;rfl
 exact za e ⟨List.mem_of_find?_eq_some hd,hn⟩
theorem zoV {f:Str} (h:f∈zar):zal (d1 f):=by
 simp only [zar,List.mem_cons,List.not_mem_nil,or_false] at h
 rcases h with rfl|rfl|rfl|rfl|rfl|rfl|rfl|rfl|rfl|rfl|rfl|rfl|rfl|rfl|rfl
 ·exact zeO
 ·exact zi7
 ·exact zi8
 ·exact zcY
 ·exact zcZ
 ·exact zfY
 ·exact zc0
 ·exact zdR
 ·exact zbN
 ·exact zcQ
 ·exact zhc
 ·exact zeP
 ·exact zhI
 ·exact zej
 ·exact zkd
def zdL (f:Str):Option Fn:=(zoP zeN zfX zdQ (d1 f)).map (.code (d1 f).args.args.length 60)
def tC1 (k:Nat):Option Fn:=match zar[k]? with
 |some f=>if f=="_int2digits" then some (.prim zg4) else if f=="_digits2int" then some (.prim zg5) else zdL f
 |none=>none
theorem zqI {f:Str} {np ns:Nat} {pb:List PS} (h:zdL f=some (.code np ns pb)):np=(d1 f).args.args.length/\ zoP zeN zfX zdQ (d1 f)=some pb:=by
 refine zm (Option.map_eq_some_iff.mp h) λx hx e=>?_
 cases e
 exact ⟨rfl,hx⟩
def zhd (zs:List Int):Prop:=∃(N:Nat) (ρ3:Rho),N<=490/\ (run tC1 N).blk (some (.d (.list (zs.map .int)))::List.replicate 60 none) pbL=some (ρ3,.ret (.bool true))
theorem zlk:∃rest els r0 p1 k p2 p3 p4 p5 p6,(d1 "int_divmod").body= .If (.Compare (.Name "b" p1) [.Eq] [.Constant (.int 0) k p2] p3) (.Raise (some (.Name "ZeroDivisionError" p4)) none p5::r0) els p6::rest:=⟨_,_,_,_,_,_,_,_,_,_,rfl⟩
theorem zs3:zK (zbI zeN zfX zdQ (d1 "int_divmod").sc (d1 "int_divmod").body) "b" =some 1:=by decide+kernel
theorem zs4:zk (zbI zeN zfX zdQ (d1 "int_divmod").sc (d1 "int_divmod").body) "ZeroDivisionError" =true:=by decide+kernel
theorem zqJ:(zdQ==("__debug__" :Str))=false:=by decide+kernel
theorem zvY:zeN.lookup ("_digits2int" :Str)=some 4:=by decide+kernel
theorem zvZ:zeN.lookup ("_int2digits" :Str)=some 3:=by decide+kernel
set_option tactic.hygienic true in
theorem join1 {prog:Program} {w:World} {A:Around} {s:Shared} {mg mb:Str ->Option Value} {zs:List Int} {al sl:Addr} {vs:Array Value} {n:Nat}
  (hFn:∀d∈zkb P1,zha mg s.heap d) (hg:s.heap.Ns mainGlobals mg) (hb:s.heap.Ns builtinsNs mb) (hlim:s.heap.NoLimit) (hsys:∃o,s.heap.get? sysModules=some o/\ o≠zcp)
  (hbi:∀f v,zdW.lookup f=some v ->mg f=none/\ mb f=some v)
  (hm:∃bm ob,mg "__builtins__" =some (.ref bm)/\ bm≠builtinsNs/\ s.heap.get? bm=some ob/\ ob.cls= .type "module" /\ ob.dict=some builtinsNs/\ ob.data= .plain)
  (h1:∃t,mg "_DIV_LIMIT" =some (.int 4000 t)) (h2:∃t,mg "ELLIPSIS_MARKER" =some (.str "..." t)) (h3:∃a kvs,flagsD= .dict kvs/\ mg "COMPILER_FLAG_NAMES" =some (.ref a)/\ zbr s.heap a kvs)
  (hal:mg "law" =some (.ref al)) {cD PD cI PI:Addr} (FD:zih mg s.heap (d1 "_digits2int") cD PD) (FI:zih mg s.heap (d1 "_int2digits") cI PI) (hne:PD≠PI) (hgens:s.gens= #[]) (hsl:s.heap.get? sl=some {cls:= .type "list",data:= .seq vs n}) (hrl:∀B,zC B vs.toList (zs.map .int))
  (hA:Rm A 599) (hfr:A.frames=some []) (pf:zhd zs):wpAny (model prog w) A (call (.ref al) [.ref sl]) (zlg s.os s (.bool true)) zf s:=by
 have at_:∀{f},(f∈zar \/f=zdQ) ->zha mg s.heap (d1 f):=λh=>hFn _ (d1_mem h).1
 have tD:s.heap.TableAt cD PD #[]:=E57 FD λu y z b g j m r u1 v1 w1 t=>t
 have tI:s.heap.TableAt cI PI #[]:=E57 FI λu y z b g j m r u1 v1 w1 t=>t
 refine cps λG0 hG_0=>?_
 refine E14 (zqE tD.2 tI.2) λB hBs zD zI hbk=>?_
 refine zm (zoR (B:=B) hbk (at_ (f:=zdQ) (.inr rfl)) zuO zuR rfl zcE) λga hga hgf=>?_
 have hcst:∀x d,zfX.lookup x=some d ->∃v,mg x=some v/\ Rep B v d:=by
  intro x d hx
  have:=z9 hx
  simp only [zfX,List.mem_cons,Prod.mk.injEq,List.not_mem_nil,or_false] at this
  rcases this with ⟨rfl,rfl⟩| ⟨rfl,rfl⟩| ⟨rfl,rfl⟩
  ·refine zO h1 λt ht=>?_
   clear h1;exact zM _ ht (zu.mpr ⟨t,rfl⟩)
  ·refine zO h2 λt ht=>?_
   clear h2;exact zM _ ht (zU.mpr ⟨t,rfl⟩)
  ·refine E23 h3 λa kvs e ht hd=>?_
   clear h3
   exact za e (zM _ ht (zc4.mpr (zM a rfl (zlj hbk hd))))
 have hnames:∀f k,zeN.lookup f=some k ->zar[k]?=some f:=λf k h=>by
  have:=(zd3 h).2
  simpa using this
 have hfn:∀tbl:Nat ->Option Fn,(∀k np ns pb,tbl k=some (.code np ns pb) ->∃f,zar[k]?=some f/\ zdL f=some (.code np ns pb)) ->∀f k,zeN.lookup f=some k ->
   ∃d,d.name=f/\ zha mg s.heap d/\ ∀np ns pb,tbl k=some (.code np ns pb) ->zbM d=true/\ zal d/\ np=d.args.args.length/\ zoP zeN zfX zdQ d=some pb:=by
  intro tbl ht f k hf
  have hm:=(λf k h=>List.mem_of_getElem? (hnames f k h)) f k hf
  refine I13 (d1 f) ((d1_mem (.inl hm)).2) (at_ (.inl hm)) (λnp ns pb h=>?_)
  refine zm (ht k np ns pb h) λf' hf' hc=>?_
  cases (hnames f k hf).symm.trans hf'
  refine zR (zqI hc) λe1 e2=>?_
  exact I04 (List.all_eq_true.mp zhb _ hm) (zoV hm) e1 e2
 have hzf:∀d:zeh,d.name=("int_divmod" :Str) ->zha mg s.heap d ->∃a,mg d.name=some (.ref a)/\ zg6 B ⟨zeN,zfX,zdQ,zfW mg zar,ga⟩ a:=by
  intro d hn _
  have hm:("int_divmod" :Str)∈zar:=by decide+kernel
  have X:=at_ (.inl hm)
  refine zm (zm8 (Φ:=⟨zeN,zfX,zdQ,zfW mg zar,ga⟩) (B:=B) hbk X (List.all_eq_true.mp zhb _ hm) zc0 rfl zlk zs3 zs4) λa e1 F=>?_
  exact ⟨a,by refine za hn ?_;refine zF e1 ?_;exact za (d1_mem (.inl hm)).2 rfl,F⟩
 have LC:zoQ B ⟨zeN,zfX,zdQ,zfW mg zar,ga⟩ tC1:=zqH (names:=zar) rfl hbk hg hb hlim hsys hbi hcst hnames (hfn tC1 λk np ns pb h=>by
  unfold tC1 at h
  split at h
  ·rename_i f hf
   split at h
   ·cases h
   ·split at h
    ·exact nomatch h
    ·exact ⟨f,hf,h⟩
  ·exact zb h) hga hgf zqJ hzf
 refine E24 (zii (B:=B) (q:="_digits2int.<locals>.inner") hbk FD (List.all_eq_true.mp zhb _ (by decide+kernel)) zcZ zuP zuS rfl hg hm (by decide+kernel)) λaD fdD m1 XD jD _=>?_
 refine E24 (zii (B:=B) (q:="_int2digits.<locals>.inner") hbk FI (List.all_eq_true.mp zhb _ (by decide+kernel)) zcY zuQ zuT rfl hg hm (by decide+kernel)) λaI fdI m2 XI jI _=>?_
 rw [(d1_mem (f:="_digits2int") (.inl (by decide+kernel))).2] at m1
 rw [(d1_mem (f:="_int2digits") (.inl (by decide+kernel))).2] at m2
 have faD:zfW mg zar 4=aD:=by
  unfold zfW
  refine za (show zar[4]?=some (Str.ofString "_digits2int") from by decide+kernel) ?_
  simp only [m1]
 have faI:zfW mg zar 3=aI:=by
  unfold zfW
  refine za (show zar[3]?=some (Str.ofString "_int2digits") from by decide+kernel) ?_
  simp only [m2]
 refine E21 (at_ (f:="law") (.inl (by decide+kernel))) λcL PL FLw=>?_
 refine E43 (zi6 (B:=B) hbk FLw (List.all_eq_true.mp zhb _ (by decide+kernel)) zkd) λa pm code doc ha FB _=>?_
 refine hG_0 ?_
 have ha:=hal▸((d1_mem (f:="law") (.inl (by decide+kernel))).2)▸ha
 cases ha
 refine cps λG0 hG_0=>?_
 refine E22 pf λN ρ3 hN ev=>?_
 clear pf
 refine hG_0 ?_
 have rS:Rep B (.ref sl) (.list (zs.map .int)):=zah.mpr (I33 sl vs n rfl (hbk _ _ hsl (by intro h;cases h)) (hrl B))
 have FL:FnB B al 1 (Calls.docDef (d1 "law").name (d1 "law").args (d1 "law").body (d1 "law").sc pm code doc) zoT:=FB
 let X:zg9:=⟨cD,PD,cI,PI,zgX (λi=>zs0.getD i default),zgY (λi=>zs1.getD i default),"_digits2int.<locals>.inner","_int2digits.<locals>.inner"⟩
 let Ω:En:=zsZ prog w B s.os X
 have XD':zdp B (zfW mg zar 4) fdD zby (zbL λi=>zs0.getD i default) cD PD "_digits2int.<locals>.inner" :=faD▸XD
 have XI':zdp B (zfW mg zar 3) fdI zb1 (zcg λi=>zs1.getD i default) cI PI "_int2digits.<locals>.inner" :=faI▸XI
 have h0:=zuN (Ω:=Ω) LC.gl LC.glg LC.gfn LC.gd 6
 have T:zm2 Ω ⟨zeN,zfX,zdQ,zfW mg zar,ga⟩ tC1 100:=zoQ.tabs LC λf k p hf h=>by
  have hk:=hnames f k hf
  unfold tC1 at h
  have h:=hk▸h
  dsimp only at h
  split at h
  ·rename_i e
   cases h
   have:f=Str.ofString "_int2digits" :=by simpa using e
   subst this
   refine eqE (zvZ.symm.trans hf) ?_
   exact zoM h0 XI' (by decide+kernel) (zvU (X:=X) hne)
  ·split at h
   ·rename_i e
    cases h
    have:f=Str.ofString "_digits2int" :=by simpa using e
    subst this
    refine eqE (zvY.symm.trans hf) ?_
    exact zoL h0 XD' (zi4 (X:=X) hne)
   ·refine zm (Option.map_eq_some_iff.mp h) λ_ _ e=>?_;cases e
 have hO:Ok Ω B s:=⟨hBs,.refl _,rfl,AllBare.of_eq hgens,⟨⟨false,jD,tD⟩,⟨false,jI,tI⟩⟩,λb t=>t.elim (λe=>e▸zD) λe=>e▸zI⟩
 refine wpM (zoN (Ω:=Ω) T (hA.le (by lia)) hfr hO FL (ns:=60) (kk:=9) (pb:=pbL) trL ev rS) λv s' p=>?_
 refine zm p λZ' S r=>?_
 clear p
 exact ⟨⟨Z',S.ok.sub,r⟩,zqC (X:=X) S.h tD tI S.ok.j,S.ok.os,S.ok.gens⟩
end One1
theorem zoW {p q:Program} {loose:List Str} {mean:ExcName ->Option Value} {mg mb:Str ->Option Value} {h:Heap} (T:Top p loose mean mg mb h) (e:zkb q=(recsOf p).map λr=>⟨r.name,r.scope,r.body,r.params⟩):∀d∈zkb q,zha mg h d:=by
 intro d hd
 rw [e] at hd
 refine zm (List.mem_map.mp hd) λr hr e9=>?_;refine za e9.symm ?_
 exact zqF T (I15 r hr rfl rfl rfl rfl)
theorem zs5 {p:Program} {loose:List Str} {mean:ExcName ->Option Value} {mg mb:Str ->Option Value} {h:Heap} (T:Top p loose mean mg mb h)
  (e:(zdW.all λq=> !(startupNames.contains q.1)&& !(loose.contains q.1)&& !(((recsOf p).map (·.name)).contains q.1)&& !(((litsOf p).map (·.1)).contains q.1)&& !(((clssOf p loose).map (·.name)).contains q.1)&& !(q.1=="__name__"))=true)
  (e2:(zdW.all λq=>bootBuiltins q.1==some q.2)=true):∀f v,zdW.lookup f=some v ->mg f=none/\ mb f=some v:=by
 intro f v hf
 have hm:=z9 hf
 have:=List.all_eq_true.mp e _ hm
 simp only [Bool.and_eq_true,Bool.not_eq_true',List.contains_eq_mem,decide_eq_false_iff_not] at this
 refine cps λG0 hG_0=>?_
 refine zR this λq1 h6=>?_
 clear this
 refine zR q1 λq2 h5=>?_
 clear q1
 refine zR q2 λq3 h4=>?_
 clear q2
 refine zR q3 λq4 h3=>?_
 clear q3
 refine zR q4 λh1 h2=>?_
 clear q4
 refine hG_0 ?_
 refine ⟨T.free f h1 h2 h3 h4 h5,?_⟩
 refine za (T.builtins f (by simpa using h6)) ?_
 have:=List.all_eq_true.mp e2 _ hm
 simpa using this
def zuU:Value ->Option Int
 | .int i _=>some i
 |_=>none
noncomputable def zna:Value ->Option Str
 | .str x _=>some x
 |_=>none
def zll (e:DictEntry):Option (Int×Str):=(zuU e.key).bind λi=>(zna e.val).bind λx=>if e.hash==hashInt i then some (i,x) else none
def kvP (p:Int×Str):PyData×PyData:=(.int p.1,.str p.2)
theorem zqK {v:Value} {i:Int} (h:zuU v=some i):∃t,v= .int i t:=by
 cases v<;>first|exact zb h|exact eqE h (I11 _ rfl)
theorem zqL {v:Value} {x:Str} (h:zna v=some x):zgd v (.str x):=by
 cases v<;>first|exact zb h|exact eqE h (I11 _ rfl)
theorem zr0 {e:DictEntry} {p:Int×Str} {G:Prop} (h:zll e=some p) (k:(∃t,e.key= .int p.1 t) ->e.hash=hashInt p.1 ->zgd e.val (.str p.2) ->G):G:=
 zc h λi h1 h=>zc h λx h2 h=>ifE h λh3 h=>by
  cases Option.some.inj h
  exact k (zqK h1) (eq_of_beq h3) (zqL h2)
theorem zoX {es:List DictEntry} {ps:List (Int×Str)} (h:zN zll es=some ps) (k:Int):match zcU (ps.map kvP) k with
  |some d=>∃v,(es.find? λe=>Value.isInt k e.key).map (·.val)=some v/\ zgd v d
  |none=>(es.find? λe=>Value.isInt k e.key).map (·.val)=none:=by
 induction es generalizing ps with
 |nil=>exact eqE h rfl
 |cons e es ih=>
  refine zc h λp hp h=>zP h λps' hps h=>zF h (zr0 hp λq e2 e3=>zO q λt e1=>?_)
  have g:zcU ((p::ps').map kvP) k=if k=p.1 then some (.str p.2) else zcU (ps'.map kvP) k:=rfl
  refine za g (za List.find?_cons ?_)
  by_cases hk:k=p.1
  ·have:Value.isInt k e.key=true:=by rw [e1];exact beq_iff_eq.mpr hk.symm
   exact za (if_pos hk) (za this (zM e.val rfl e3))
  ·have:Value.isInt k e.key=false:=by rw [e1];exact beq_eq_false_iff_ne.mpr (Ne.symm hk)
   exact za (if_neg hk) (za this (ih hps))
theorem zlm {h:Heap} {a:Addr} {es:Array DictEntry} {ep:Nat} {ps:List (Int×Str)} (hs:(a==sysModules)=false) (e:h.get? a=some {cls:= .type "dict",data:= .dict es ep}) (x:zN zll es.toList=some ps):zbr h a (ps.map kvP):=by
 refine ⟨hs,λk=>findBy Value.isInt es k,λp w=>I35 _ es ep e (I03 rfl rfl rfl) rfl (λen hen=>?_) (λk=>rfl),λk=>?_⟩
 ·have key:∀{l:List DictEntry} {ps:List (Int×Str)},zN zll l=some ps ->en∈l ->∃k,Value.isInt k en.key=true/\ en.hash=hashInt k:=by
   intro l
   induction l with
   |nil=>intro _ _ h;cases h
   |cons y l ih=>
    intro ps hx hm
    refine zc hx λp hp h=>zP h λps' hps _=>(List.mem_cons.mp hm).elim (λe=>za e (zr0 hp λq e2 _=>zO q λt e1=>zM p.1 ?_ e2)) (ih hps)
    rw [e1];exact beq_self_eq_true p.1
  exact key x (Array.mem_toList_iff.mpr hen)
 ·have:=zoX x k
  show match zcU (ps.map kvP) k with|some d=>∃v,(es.find? λe=>Value.isInt k e.key).map (·.val)=some v/\ zgd v d|none=>(es.find? λe=>Value.isInt k e.key).map (·.val)=none
  refine za (Array.find?_toList).symm ?_;exact this
theorem zqM {c:ClaimW} {cl:Str ->Option Addr} {mean:ExcName ->Option Value} {args:List WData} {s_1 s':Shared} {v:Value} (p:zlg s_1.os s_1 (.bool true) v s') (hr:∀cls,c.raises args cls=false) (hp:c.post args (.bool true) args=true):GoodWG c cl mean args s_1 (.ok (.ret v)) s':=by
 refine E04 p λq6 hk ho hg=>?_
 clear p
 refine zm q6 λZ' _ r=>?_
 clear q6
 exact za r (I04 (.inl (I35 _ _ [] rfl hr (ReadsW.bool true) hp (λ_=>⟨List.nodup_nil,λ_ hm=>(nomatch hm)⟩))) hk ho hg)
section
variable {tbl:Nat ->Option Fn} {n:Nat} {ρ:Rho}
theorem zs6 {i:Nat}:(run tbl (n+1)).ex ρ (.v i)=pV none ρ[i]? some λ_=>none:=rfl
theorem bS {α β:Type} {o:Option α} {f:α ->Option β} {x:α} {d:Option β} (ha:o=some x) (h:f x=d):o.bind f=d:=(congrArg (·.bind f) ha).trans h
theorem mS {α β:Type} {o:Option α} {f:α ->β} {x:α} (ha:o=some x):o.map f=some (f x):=congrArg (·.map f) ha
theorem zqN {f np ns:Nat} {body:List PS} {args:List PyData} (h:tbl f=some (.code np ns body)) (hl:args.length=np):(run tbl (n+1)).call f args=
  match (run tbl n).blk (args.map (λd=>some (.d d))++List.replicate ns none) body with|some (_,.ret d)=>some d|some (_,.next)=>some .none|_=>none:=by
 show zc8 tbl (run tbl n) f args=_
 unfold zc8
 exact za h (if_pos hl)
theorem zbG {f np ns:Nat} {body:List PS} {args:List PyData} {ρ':Rho} {d:PyData} (h:tbl f=some (.code np ns body)) (hl:args.length=np) (hb:zE (run tbl n) body (args.map (λd=>some (.d d))++List.replicate ns none)=some (ρ',.ret d)):(run tbl (n+2)).call f args=some d:=
 (zqN h hl).trans (congrArg (λo:Option (Rho×Fl)=>match o with|some (_,.ret d)=>some d|some (_,.next)=>some .none|_=>none) hb)
section
variable {op:Operator} {co:CmpOp} {a b e:PE} {es:List PE} {x y d:PyData} {xs:List PyData} {c:Bool} {S:Sv}
theorem zap (h:S.ex ρ e=some d) (t:exs S ρ es=some xs):exs S ρ (e::es)=some (d::xs):=bS h (mS t)
theorem zaa (h:S.ex ρ e=some d):exs S ρ [e]=some [d]:=zap h rfl
theorem zr (ha:(run tbl n).ex ρ a=some x) (hb:(run tbl n).ex ρ b=some y) (h:zaZ op x y=some d):(run tbl (n+1)).ex ρ (.bin op a b)=some d:=bS ha (bS hb h)
theorem zV (ha:rcv (run tbl n) ρ a=some x) (hb:(run tbl n).ex ρ b=some y) (h:znu co x y=some c):(run tbl (n+1)).ex ρ (.cmp co a b)=some (.bool c):=bS ha (bS hb (mS h))
theorem zaY (ha:rcv (run tbl n) ρ a=some x) (hb:(run tbl n).ex ρ b=some y) (h:zbf x y=some d):(run tbl (n+1)).ex ρ (.idx a b)=some d:=bS ha (bS hb h)
theorem znb {lo hi st:Option PE} {l h k:Option Int} (ha:(run tbl n).ex ρ a=some x) (hl:zgi (run tbl n) ρ lo=some l) (hh:zgi (run tbl n) ρ hi=some h) (hk:zgi (run tbl n) ρ st=some k) (e:zbY x l h k=some d):(run tbl (n+1)).ex ρ (.sl a lo hi st)=some d:=bS ha (bS hl (bS hh (bS hk e)))
theorem zan {f:Nat} (ha:exs (run tbl n) ρ es=some xs) (h:(run tbl n).call f xs=some d):(run tbl (n+1)).ex ρ (.call f es)=some d:=bS ha h
theorem zeQ {m:ME} (ha:(run tbl n).ex ρ a=some x) (hs:exs (run tbl n) ρ es=some xs) (h:meD m x xs=some d):(run tbl (n+1)).ex ρ (.me m a es)=some d:=bS ha (bS hs h)
theorem zeR (ha:rcv (run tbl n) ρ a=some x) (h:zpT x=some d):(run tbl (n+1)).ex ρ (.bi .len [a])=some d:=bS ha h
theorem zma (h:exs (run tbl n) ρ es=some xs):(run tbl (n+1)).ex ρ (.lst es)=some (.list xs):=mS h
theorem zfM (h:exs (run tbl n) ρ es=some xs):(run tbl (n+1)).ex ρ (.tup es)=some (.tuple xs):=mS h
theorem zuV (h:zbZ (run tbl n) ρ a=some c):(run tbl (n+1)).ex ρ (.not a)=some (.bool (!c)):=mS h
theorem zuW {i:Int} (ha:(run tbl n).ex ρ a=some (.int i)):(run tbl (n+1)).ex ρ (.neg a)=some (.int (-i)):=bS ha rfl
theorem zr1 {i:Int} (ha:(run tbl n).ex ρ a=some (.int i)):(run tbl (n+1)).ex ρ (.inv a)=some (.int (Builtin.bitNot i)):=bS ha rfl
theorem x_T (h:zbZ (run tbl n) ρ e=some true) (ha:(run tbl n).ex ρ a=some d):(run tbl (n+1)).ex ρ (.ite e a b)=some d:=bS h ha
theorem x_F (h:zbZ (run tbl n) ρ e=some false) (ha:(run tbl n).ex ρ b=some d):(run tbl (n+1)).ex ρ (.ite e a b)=some d:=bS h ha
theorem zs7 {gs:List Gn} (h:zc6 (run tbl n) e gs ρ=some xs) (hl:xs.length<=big):(run tbl (n+1)).ex ρ (.comp e gs)=some (.list xs):=bS (mS h) (if_pos hl)
theorem zfN (h:zgf (run tbl n) ρ es=some d):(run tbl (n+1)).ex ρ (.and es)=some d:=h
theorem zuX (h:orD (run tbl n) ρ es=some d):(run tbl (n+1)).ex ρ (.or es)=some d:=h
theorem t_b (h:S.ex ρ e=some (.bool c)):zbZ S ρ e=some c:=bS h rfl
theorem t_d (h:S.ex ρ e=some d) (k:zaI d=some c):zbZ S ρ e=some c:=bS h k
theorem zke {e':PE} (k:S.ex ρ e=some d) (h:zaI d=some false):zgf S ρ (e::e'::es)=some d:=bS k (bS h rfl)
theorem zij {e':PE} {o:Option PyData} (k:S.ex ρ e=some d) (h:zaI d=some true) (r:zgf S ρ (e'::es)=o):zgf S ρ (e::e'::es)=o:=bS k (bS h r)
theorem zv0 {e':PE} (k:S.ex ρ e=some d) (h:zaI d=some true):orD S ρ (e::e'::es)=some d:=bS k (bS h rfl)
theorem zs8 {e':PE} {o:Option PyData} (k:S.ex ρ e=some d) (h:zaI d=some false) (r:orD S ρ (e'::es)=o):orD S ρ (e::e'::es)=o:=bS k (bS h r)
end
section
variable {S:Sv} {ρ ρ2 ρ3 ρ4:Rho} {st st' st'':PS} {r:List PS} {d:PyData} {e t:PE} {a b:List PS} {i:Nat} {o:Option (Rho×Fl)}
theorem zj (h:zg S ρ st=some (ρ2,.next)) (k:zE S r ρ2=o):zE S (st::r) ρ=o:=bS h k
theorem zT (h:zg S ρ st=some (ρ2,.ret d)):zE S (st::r) ρ=some (ρ2,.ret d):=bS h rfl
theorem zqO (h:zg S ρ st=some (ρ2,.next)) (h':zg S ρ2 st'=some (ρ3,.ret d)):zE S (st::st'::r) ρ=some (ρ3,.ret d):=zj h (zT h')
theorem zoY (h:zg S ρ st=some (ρ2,.next)) (h':zg S ρ2 st'=some (ρ3,.next)) (h'':zg S ρ3 st''=some (ρ4,.next)):zE S [st,st',st''] ρ=some (ρ4,.next):=zj h (zj h' (zj h'' rfl))
theorem zqP (h:zbZ S ρ t=some true):zg S ρ (.iff t a b)=S.blk ρ a:=bS h rfl
theorem zqQ (h:zbZ S ρ t=some false):zg S ρ (.iff t a b)=S.blk ρ b:=bS h rfl
theorem zb5 (h:zbZ (run tbl (n+1)) ρ t=some true) (k:zE (run tbl n) a ρ=o):zg (run tbl (n+1)) ρ (.iff t a b)=o:=bS h k
theorem zaV (h:zbZ (run tbl (n+1)) ρ t=some false) (k:zE (run tbl n) b ρ=o):zg (run tbl (n+1)) ρ (.iff t a b)=o:=bS h k
theorem zX (h:S.ex ρ e=some d):zg S ρ (.asg (.v i) e)=some (ρ.set i (some (.d d)),.next):=bS h rfl
theorem zek {t:Tgt} (h:S.ex ρ e=some d) (k:zaz t d ρ=some ρ2):zg S ρ (.asg t e)=some (ρ2,.next):=bS h (mS k)
theorem zeS {ts:List (Nat×Bool)} {es:List PE} {ds:List PyData} (h:exs S ρ es=some ds) (k:ziw ts ds ρ=some ρ2):zg S ρ (.asgs ts es)=some (ρ2,.next):=bS h (mS k)
theorem zcR {xs:List PyData} (h:S.ex ρ e=some (.list xs)):zg S ρ (.asgM i e)=some (ρ.set i (some (.m xs)),.next):=bS h rfl
theorem za0 (h:S.ex ρ e=some d):zg S ρ (.ret e)=some (ρ,.ret d):=mS h
theorem zdr {op:Operator} {x y:Int} (ha:zhL ρ i=some x) (h:S.ex ρ e=some (.int y)) (ho:znz op=true) (hd:zaZ op (.int x) (.int y)=some d):zg S ρ (.aug i op e)=some (ρ.set i (some (.d d)),.next):=bS ha (bS h ((if_pos ho).trans (mS hd)))
theorem zmb {x y:Int} (ha:zhL ρ i=some x) (h:S.ex ρ e=some (.int y)):zg S ρ (.aug i .Add e)=some (ρ.set i (some (.d (.int (x+y)))),.next):=zdr ha h rfl rfl
theorem zds {xs:List PyData} (hm:zcV ρ i=some xs) (h:S.ex ρ e=some d) (hl:xs.length<=big):zg S ρ (.app i e)=some (ρ.set i (some (.m (xs++[d]))),.next):=bS hm (bS h (if_pos hl))
theorem zs9 (h:zbZ S ρ t=some true):zg S ρ (.assert t)=some (ρ,.next):=bS h rfl
theorem zbB {t:Tgt} {xs:List PyData} (h:itD S ρ e=some xs) (k:zbF S t a b xs ρ=o):zg S ρ (.for_ t e a b)=o:=bS h k
theorem zel {xs:List PyData} (h:S.ex ρ (.v i)=some d) (hi:zbs d=some xs) (hl:xs.length<=big):itD S ρ (.v i)=some xs:=bS h (bS hi (if_pos hl))
theorem zuY {a:PE} {lo up st:Option PE} {xs:List PyData} (h:S.ex ρ (.sl a lo up st)=some d) (hi:zbs d=some xs) (hl:xs.length<=big):itD S ρ (.sl a lo up st)=some xs:=bS h (bS hi (if_pos hl))
theorem o_e {k:Int} (h:S.ex ρ e=some (.int k)):zgi S ρ (some e)=some (some k):=bS h rfl
theorem zln {xs:List PyData} (h:S.ex ρ e=some d) (k:znx d=some xs):itD S ρ (.gen e)=some xs:=bS h k
theorem zta {es:List PE} {ds xs:List PyData} (h:exs S ρ es=some ds) (k:zuj ds=some xs):itD S ρ (.rng es)=some xs:=bS h k
theorem zoZ {xs:List PyData} (h:S.ex ρ e=some d) (hi:zbs d=some xs) (hl:xs.length<=big):itD S ρ (.enm e)=some (zen xs 0):=bS h (bS hi (if_pos hl))
end
end
namespace One1
def zhe:List PS:=[
 .asgM 1 (.lst []),
 .for_ (.v 2) (.rng [(.c (.int 32))]) [.asg (.v 3) (.bin .LShift (.c (.int 1)) (.v 2)),.iff (.bin .BitAnd (.v 0) (.v 3)) [.app 1 (.me .get (.c flagsD) [(.v 3),(.bi .hex [(.v 3)])]),.aug 0 .BitXor (.v 3),.iff (.not (.v 0)) [.brk] []] []] [.app 1 (.bi .hex [(.v 0)])],
 .frz 1,
 .ret (.me .join (.c (.str ", ")) [(.v 1)])]
noncomputable def zfq:List PS:=[
 .iff (.cmp .LtE (.bin .Sub (.me .bitLength (.v 0) []) (.v 2)) (.c (.int 4000))) [.ret (.bi .divmod [(.v 0),(.v 1)])] [],
 .asg (.v 3) (.bin .BitAnd (.v 2) (.c (.int 1))),
 .iff (.v 3) [.aug 0 .LShift (.c (.int 1)),.aug 1 .LShift (.c (.int 1)),.aug 2 .Add (.c (.int 1))] [],
 .asg (.v 4) (.bin .RShift (.v 2) (.c (.int 1))),
 .asg (.v 5) (.bin .Sub (.bin .LShift (.c (.int 1)) (.v 4)) (.c (.int 1))),
 .asgs [(6,false),(7,false)] [(.bin .RShift (.v 1) (.v 4)),(.bin .BitAnd (.v 1) (.v 5))],
 .asg (.t [(.v 8),(.v 9)]) (.call 2 [(.bin .RShift (.v 0) (.v 2)),(.bin .BitAnd (.bin .RShift (.v 0) (.v 4)) (.v 5)),(.v 1),(.v 6),(.v 7),(.v 4)]),
 .asg (.t [(.v 10),(.v 9)]) (.call 2 [(.v 9),(.bin .BitAnd (.v 0) (.v 5)),(.v 1),(.v 6),(.v 7),(.v 4)]),
 .iff (.v 3) [.aug 9 .RShift (.c (.int 1))] [],
 .ret (.tup [(.bin .BitOr (.bin .LShift (.v 8) (.v 4)) (.v 10)),(.v 9)])]
noncomputable def zi9:List PS:=[
 .iff (.cmp .Eq (.bin .RShift (.v 0) (.v 5)) (.v 3)) [.asgs [(6,false),(7,false)] [(.bin .Sub (.bin .LShift (.c (.int 1)) (.v 5)) (.c (.int 1))),(.bin .Add (.bin .Sub (.v 0) (.bin .LShift (.v 3) (.v 5))) (.v 3))]] [.asg (.t [(.v 6),(.v 7)]) (.call 1 [(.v 0),(.v 3),(.v 5)])],
 .asg (.v 7) (.bin .Sub (.bin .BitOr (.bin .LShift (.v 7) (.v 5)) (.v 1)) (.bin .Mult (.v 6) (.v 4))),
 .whl (.cmp .Lt (.v 7) (.c (.int 0))) [.aug 6 .Sub (.c (.int 1)),.aug 7 .Add (.v 2)],
 .ret (.tup [(.v 6),(.v 7)])]
noncomputable def zo0:List PS:=[
 .asg (.v 2) (.me .bitLength (.v 1) []),
 .asg (.v 3) (.call 3 [(.v 0),(.v 2)]),
 .asg (.v 4) (.c (.int 0)),
 .asgM 5 (.lst []),
 .for_ (.v 6) (.rev (.v 3)) [.asg (.t [(.v 7),(.v 4)]) (.call 1 [(.bin .Add (.bin .LShift (.v 4) (.v 2)) (.v 6)),(.v 1),(.v 2)]),.app 5 (.v 7)] [],
 .revs 5,
 .frz 5,
 .asg (.v 8) (.call 4 [(.v 5),(.v 2)]),
 .ret (.tup [(.v 8),(.v 4)])]
noncomputable def zqR:List PS:=[
 .iff (.cmp .Eq (.v 1) (.c (.int 0))) [.fail] [.iff (.cmp .Lt (.v 1) (.c (.int 0))) [.asg (.t [(.v 2),(.v 3)]) (.call 6 [(.neg (.v 0)),(.neg (.v 1))]),.ret (.tup [(.v 2),(.neg (.v 3))])] [.iff (.cmp .Lt (.v 0) (.c (.int 0))) [.asg (.t [(.v 2),(.v 3)]) (.call 6 [(.inv (.v 0)),(.v 1)]),.ret (.tup [(.inv (.v 2)),(.bin .Add (.v 1) (.inv (.v 3)))])] [.ret (.call 5 [(.v 0),(.v 1)])]]]]
noncomputable def zja:List PS:=[
 .iff (.cmp .NotIn (.c (.str "...")) (.v 0)) [.ret (.cmp .Eq (.v 0) (.v 1))] [],
 .asgM 2 (.me .split (.v 0) [(.c (.str "..."))]),
 .assert (.cmp .GtE (.bi .len [(.v 2)]) (.c (.int 2))),
 .asgs [(3,false),(4,false)] [(.c (.int 0)),(.bi .len [(.v 1)])],
 .asg (.v 5) (.idx (.v 2) (.c (.int 0))),
 .iff (.v 5) [.iff (.me .startswith (.v 1) [(.v 5)]) [.asg (.v 3) (.bi .len [(.v 5)]),.del 2 (.c (.int 0))] [.ret (.c (.bool false))]] [],
 .asg (.v 5) (.idx (.v 2) (.neg (.c (.int 1)))),
 .iff (.v 5) [.iff (.me .endswith (.v 1) [(.v 5)]) [.aug 4 .Sub (.bi .len [(.v 5)]),.del 2 (.neg (.c (.int 1)))] [.ret (.c (.bool false))]] [],
 .iff (.cmp .Gt (.v 3) (.v 4)) [.ret (.c (.bool false))] [],
 .frz 2,
 .for_ (.v 5) (.v 2) [.asg (.v 3) (.me .find (.v 1) [(.v 5),(.v 3),(.v 4)]),.iff (.cmp .Lt (.v 3) (.c (.int 0))) [.ret (.c (.bool false))] [],.aug 3 .Add (.bi .len [(.v 5)])] [],
 .ret (.c (.bool true))]
noncomputable def strB:List PS:=[
 .iff (.cmp .NotIn (.c (.str "\"")) (.v 0)) [.ret (.v 0)] [],
 .asg (.v 1) (.c (.int 0)),
 .asg (.v 2) (.c .none),
 .asgM 3 (.lst []),
 .for_ (.t [(.v 4),(.v 5)]) (.gen (.v 0)) [.iff (.cmp .Eq (.v 5) (.c (.str "\""))) [.iff (.cmp .Is (.v 2) (.c .none)) [.asg (.v 2) (.v 4)] [.iff (.cmp .NotEq (.v 1) (.v 2)) [.app 3 (.sl (.v 0) (some (.v 1)) (some (.v 2)) none)] [],.asg (.v 1) (.bin .Add (.v 4) (.c (.int 1))),.asg (.v 2) (.c .none)]] []] [],
 .iff (.cmp .Lt (.v 1) (.bi .len [(.v 0)])) [.app 3 (.sl (.v 0) (some (.v 1)) none none)] [],
 .frz 3,
 .ret (.me .join (.c (.str "")) [(.v 3)])]
noncomputable def parB:List PS:=[
 .asg (.v 0) (.call 8 [(.v 0)]),
 .asg (.v 1) (.c (.int 0)),
 .for_ (.t [(.v 2),(.v 3)]) (.gen (.v 0)) [.iff (.cmp .Eq (.v 3) (.c (.str "("))) [.aug 1 .Add (.c (.int 1))] [.iff (.cmp .Eq (.v 3) (.c (.str ")"))) [.aug 1 .Sub (.c (.int 1)),.iff (.cmp .Lt (.v 1) (.c (.int 0))) [.ret (.c (.bool false))] []] []]] [],
 .ret (.cmp .Eq (.v 1) (.c (.int 0)))]
noncomputable def ztb:List PS:=[
 .asg (.v 3) (.me .join (.c (.str "")) [(.comp (.bin .Mult (.v 12) (.ite (.v 1) (.c (.int 1)) (.v 0))) [(.mk (.v 12) (.c (.str "abc")) [])])]),
 .asgM 4 (.lst [(.lst [(.c (.str ""))])]),
 .for_ (.v 5) (.rng [(.v 0)]) [.asg (.v 6) (.comp (.bin .Add (.v 12) (.v 13)) [(.mk (.v 12) (.idx (.v 4) (.neg (.c (.int 1)))) []),(.mk (.v 13) (.c (.str "abc")) [])]),.asg (.v 7) (.comp (.or [(.cmp .Eq (.v 5) (.c (.int 0))),(.cmp .Lt (.idx (.v 12) (.neg (.c (.int 2)))) (.idx (.v 12) (.neg (.c (.int 1))))),(.and [(.cmp .Eq (.idx (.v 12) (.neg (.c (.int 2)))) (.idx (.v 12) (.neg (.c (.int 1))))),(.not (.v 1))])]) [(.mk (.v 12) (.v 6) [])]),.asg (.v 8) (.comp (.call 7 [(.bin .Add (.bin .Add (.bin .Add (.bin .Add (.idx (.v 2) (.c (.int 0))) (.c (.str "..."))) (.me .join (.c (.str "...")) [(.v 12)])) (.c (.str "..."))) (.idx (.v 2) (.c (.int 1)))),(.bin .Add (.bin .Add (.idx (.v 2) (.c (.int 0))) (.v 3)) (.idx (.v 2) (.c (.int 1))))]) [(.mk (.v 12) (.v 6) [])]),.iff (.cmp .NotEq (.comp (.v 12) [(.mk (.t [(.v 12),(.v 13)]) (.zip (.v 8) (.v 7)) [(.cmp .IsNot (.v 12) (.v 13))])]) (.lst [])) [.ret (.c .none)] [],.app 4 (.comp (.v 12) [(.mk (.t [(.v 12),(.v 13)]) (.zip (.v 6) (.v 7)) [(.v 13)])])] [],
 .frz 4,
 .ret (.v 4)]
noncomputable def zv1:List PS:=[
 .asg (.v 3) (.lst [(.lst [])]),
 .for_ (.v 4) (.v 0) [.asg (.v 3) (.comp (.bin .Add (.v 6) (.lst [(.v 7)])) [(.mk (.v 6) (.v 3) []),(.mk (.v 7) (.idx (.v 1) (.v 4)) [])]),.asg (.v 3) (.comp (.v 6) [(.mk (.v 6) (.v 3) [(.cmp .Eq (.comp (.v 8) [(.mk (.v 8) (.rng [(.v 4)]) [(.cmp .NotIn (.me .join (.c (.str "")) [(.comp (.idx (.v 10) (.v 8)) [(.mk (.v 10) (.v 6) [])])]) (.idx (.v 2) (.bi .len [(.v 6)])))])]) (.lst []))])])] [],
 .ret (.comp (.me .join (.c (.str "")) [(.sl (.v 6) none none (some (.neg (.c (.int 1)))))]) [(.mk (.v 6) (.v 3) [])])]
noncomputable def eb0:PS:= .asgM 8 (.lst [(.v 1)])
noncomputable def zo1:PS:= .app 8 (.comp (.bin .Add (.v 24) (.bi .int [(.cmp .Eq (.v 9) (.idx (.c (.str "abc")) (.v 23)))])) [(.mk (.t [(.v 23),(.v 24)]) (.enm (.idx (.v 8) (.neg (.c (.int 1))))) [])])
def eb1:PS:= .for_ (.v 9) (.v 7) [zo1] []
noncomputable def eb2:PS:= .frz 8
noncomputable def eb3:PS:= .asg (.v 11) (.idx (.bin .Add (.comp (.v 23) [(.mk (.v 23) (.v 8) [(.or [(.cmp .Lt (.idx (.v 23) (.c (.int 0))) (.idx (.v 23) (.c (.int 1)))),(.cmp .Lt (.idx (.v 23) (.c (.int 1))) (.idx (.v 23) (.c (.int 2))))])])]) (.lst [(.idx (.v 8) (.neg (.c (.int 1))))])) (.c (.int 0)))
noncomputable def eb4:PS:= .asg (.v 12) (.comp (.bin .Sub (.bin .Add (.bin .Add (.v 3) (.idx (.v 11) (.v 23))) (.c (.int 2))) (.v 23)) [(.mk (.v 23) (.tup [(.c (.int 2)),(.c (.int 1)),(.c (.int 0))]) [])])
noncomputable def eb5:PS:= .asg (.v 12) (.comp (.v 24) [(.mk (.t [(.v 23),(.v 24)]) (.enm (.v 12)) [(.cmp .NotIn (.v 24) (.sl (.v 12) none (some (.v 23)) none))])])
noncomputable def eb6:PS:= .asgP 13 14 (.call 0 [(.bi .sum [(.comp (.bin .Pow (.c (.int 2)) (.v 23)) [(.mk (.v 23) (.v 12) [])])])]) (.lst [])
noncomputable def eb7:PS:= .iff (.and [(.v 4),(.cmp .NotEq (.v 13) (.me .join (.c (.str ", ")) [(.comp (.ite (.cmp .Lt (.v 23) (.c (.int 10))) (.idx (.v 5) (.v 23)) (.bi .hex [(.bin .Pow (.c (.int 2)) (.v 23))])) [(.mk (.v 23) (.v 12) [])])]))]) [.ret (.c .none)] []
noncomputable def zo2:PS:= .asg (.v 15) (.comp (.ite (.cmp .Eq (.v 23) (.idx (.c (.str "abc")) (.v 10))) (.c (.str "(")) (.ite (.cmp .Eq (.v 23) (.idx (.c (.str "abc")) (.bin .Add (.v 10) (.c (.int 1))))) (.c (.str ")")) (.idx (.v 2) (.v 10)))) [(.mk (.v 23) (.v 7) [])])
noncomputable def zo3:PS:= .asg (.v 16) (.bin .Add (.bin .Add (.bin .Mult (.c (.str "(")) (.bin .Sub (.idx (.v 1) (.v 10)) (.idx (.v 1) (.bin .Add (.v 10) (.c (.int 1)))))) (.me .join (.c (.str "")) [(.v 15)])) (.bin .Mult (.c (.str ")")) (.bin .Sub (.idx (.idx (.v 8) (.neg (.c (.int 1)))) (.v 10)) (.idx (.idx (.v 8) (.neg (.c (.int 1)))) (.bin .Add (.v 10) (.c (.int 1)))))))
noncomputable def zo4:PS:= .frz 8
noncomputable def zo5:PS:= .asg (.v 17) (.cmp .Eq (.comp (.v 23) [(.mk (.v 23) (.v 8) [(.cmp .Lt (.idx (.v 23) (.v 10)) (.idx (.v 23) (.bin .Add (.v 10) (.c (.int 1)))))])]) (.lst []))
noncomputable def zo6:PS:= .app 14 (.call 9 [(.v 16)])
noncomputable def zo7:PS:= .iff (.and [(.v 4),(.or [(.cmp .IsNot (.idx (.v 14) (.v 10)) (.v 17)),(.and [(.cmp .Eq (.v 6) (.lst [])),(.v 17),(.cmp .IsNot (.call 9 [(.bin .Add (.c (.str "(")) (.v 16))]) (.c (.bool false)))])])]) [.ret (.c .none)] []
def eb8:PS:= .for_ (.v 10) (.tup [(.c (.int 0)),(.c (.int 1))]) [zo2,zo3,zo4,zo5,zo6,zo7] []
noncomputable def eb9:PS:= .iff (.and [(.cmp .Is (.idx (.v 14) (.c (.int 0))) (.c (.bool true))),(.cmp .Is (.idx (.v 14) (.c (.int 1))) (.c (.bool true)))]) [.app 6 (.tup [(.v 13),(.idx (.v 8) (.neg (.c (.int 1))))])] []
def ztc:List PS:=[
 .asg (.v 5) (.me .split (.c (.str "OPTIMIZED NEWLOCALS VARARGS VARKEYWORDS NESTED GENERATOR NOFREE COROUTINE ITERABLE_COROUTINE ASYNC_GENERATOR")) []),
 .asgM 6 (.lst []),
 .for_ (.v 7) (.v 0) [eb0,eb1,eb2,eb3,eb4,eb5,eb6,eb7,eb8,eb9] [],
 .frz 6,
 .ret (.v 6)]
noncomputable def ztd:List PS:=[
 .asg (.t [(.t [(.v 2),(.v 3),(.v 4)]),(.t [(.v 5),(.v 6),(.v 7)]),(.t [(.v 8),(.v 9),(.v 10)])]) (.comp (.comp (.bin .Pow (.v 12) (.bin .Sub (.bin .Add (.idx (.v 1) (.v 14)) (.c (.int 2))) (.v 14))) [(.mk (.v 14) (.tup [(.c (.int 0)),(.c (.int 1)),(.c (.int 2))]) [])]) [(.mk (.v 12) (.v 0) [])]),
 .ret (.bin .Add (.bin .Sub (.bin .Mult (.v 2) (.bin .Sub (.bin .Mult (.v 6) (.v 10)) (.bin .Mult (.v 7) (.v 9)))) (.bin .Mult (.v 3) (.bin .Sub (.bin .Mult (.v 5) (.v 10)) (.bin .Mult (.v 7) (.v 8))))) (.bin .Mult (.v 4) (.bin .Sub (.bin .Mult (.v 5) (.v 9)) (.bin .Mult (.v 6) (.v 8)))))]
def tE:Nat ->Option Fn
 |0=>some (.code 1 60 zhe)
 |1=>some (.code 3 60 zfq)
 |2=>some (.code 6 60 zi9)
 |5=>some (.code 2 60 zo0)
 |6=>some (.code 2 60 zqR)
 |7=>some (.code 2 60 zja)
 |8=>some (.code 1 60 strB)
 |9=>some (.code 1 60 parB)
 |10=>some (.code 3 60 ztb)
 |11=>some (.code 3 60 zv1)
 |12=>some (.code 5 60 ztc)
 |13=>some (.code 2 60 ztd)
 |3=>some (.prim zg4)
 |4=>some (.prim zg5)
 |14=>zdL "law"
 |_=>none
noncomputable def s0:PS:= .asg (.v 1) (.comp (.bin .Mod (.bin .Add (.v 38) (.bi .sum [(.comp (.bin .Mod (.v 40) (.bin .Pow (.c (.int 10)) (.c (.int 9)))) [(.mk (.v 40) (.sl (.v 0) (some (.v 37)) (some (.c (.int 60))) (some (.c (.int 8)))) [])])])) (.bin .Pow (.c (.int 10)) (.c (.int 9)))) [(.mk (.t [(.v 37),(.v 38)]) (.enm (.tup [(.c (.int 5)),(.c (.int 4)),(.c (.int 6)),(.c (.int 21)),(.c (.int 17)),(.c (.int 22)),(.c (.int 24)),(.c (.int 1291))])) [])])
noncomputable def s1:PS:= .asg (.v 2) (.lst [(.bin .Add (.bin .Add (.c (.int 1)) (.bin .Mod (.idx (.v 1) (.c (.int 0))) (.c (.int 2)))) (.bi .int [(.cmp .Eq (.bin .Mod (.bin .FloorDiv (.idx (.v 1) (.c (.int 0))) (.c (.int 1000))) (.c (.int 8))) (.c (.int 1)))])),(.bin .Add (.c (.int 1)) (.bin .Mod (.idx (.v 1) (.c (.int 1))) (.c (.int 2))))])
noncomputable def s2:PS:= .asg (.v 4) (.comp (.sl (.bi .sorted [(.comp (.bin .Add (.c (.int 1)) (.bin .Mod (.bin .FloorDiv (.idx (.v 1) (.v 37)) (.bin .Pow (.c (.int 3)) (.bin .Add (.v 39) (.c (.int 1))))) (.c (.int 3)))) [(.mk (.v 39) (.rng [(.idx (.v 2) (.v 37))]) [])])]) none none (some (.neg (.c (.int 1))))) [(.mk (.v 37) (.tup [(.c (.int 0)),(.c (.int 1))]) [])])
noncomputable def s3:PS:= .asg (.v 5) (.lst [(.sl (.c (.str "abc")) none (some (.bin .Mod (.idx (.v 1) (.c (.int 2))) (.c (.int 4)))) none),(.sl (.c (.str "abc")) (some (.bin .Sub (.c (.int 3)) (.bin .Mod (.bin .FloorDiv (.idx (.v 1) (.c (.int 2))) (.c (.int 4))) (.c (.int 4))))) none none)])
noncomputable def s4:PS:= .asgs [(6,false),(7,false)] [(.cmp .Lt (.bi .len [(.bin .Add (.idx (.v 5) (.c (.int 0))) (.idx (.v 5) (.c (.int 1))))]) (.c (.int 4))),(.and [(.cmp .In (.idx (.v 5) (.c (.int 0))) (.tup [(.c (.str "")),(.c (.str "abc"))])),(.cmp .In (.idx (.v 5) (.c (.int 1))) (.tup [(.c (.str "")),(.c (.str "abc"))]))])]
noncomputable def s5:PS:= .asgM 8 (.lst [(.tup [(.bin .Add (.bin .Add (.idx (.v 5) (.c (.int 0))) (.c (.str "..."))) (.idx (.v 5) (.c (.int 1)))),(.v 6)]),(.tup [(.bin .Add (.idx (.v 5) (.c (.int 0))) (.idx (.v 5) (.c (.int 1)))),(.cmp .Eq (.bin .Add (.idx (.v 5) (.c (.int 0))) (.idx (.v 5) (.c (.int 1)))) (.c (.str "abc")))]),(.tup [(.bin .Add (.bin .Add (.idx (.v 5) (.c (.int 1))) (.c (.str "..."))) (.idx (.v 5) (.c (.int 0)))),(.and [(.v 6),(.v 7)])])])
noncomputable def s6:PS:= .ext 8 (.lst [(.tup [(.bin .Add (.bin .Add (.bin .Add (.bin .Add (.c (.str "...")) (.idx (.v 5) (.c (.int 0)))) (.c (.str "..."))) (.idx (.v 5) (.c (.int 1)))) (.c (.str "..."))),(.v 6)]),(.tup [(.c (.str "...ac...")),(.c (.bool false))])])
noncomputable def s7:PS:= .frz 8
noncomputable def s8:PS:= .iff (.cmp .NotEq (.comp (.v 37) [(.mk (.t [(.v 37),(.v 38)]) (.v 8) [(.cmp .IsNot (.call 7 [(.v 37),(.c (.str "abc"))]) (.v 38))])]) (.lst [])) [.ret (.c (.bool false))] []
noncomputable def s9:PS:= .asgs [(10,false),(11,false)] [(.call 10 [(.bi .max [(.bin .Add (.idx (.v 4) (.c (.int 0))) (.idx (.v 4) (.c (.int 1))))]),(.c (.bool true)),(.v 5)]),(.call 10 [(.bi .max [(.bi .len [(.idx (.v 4) (.c (.int 0)))]),(.bi .len [(.idx (.v 4) (.c (.int 1)))])]),(.c (.bool false)),(.v 5)])]
noncomputable def s10:PS:= .iff (.or [(.cmp .Is (.v 10) (.c .none)),(.cmp .Is (.v 11) (.c .none))]) [.ret (.c (.bool false))] []
noncomputable def s11:PS:= .asg (.v 12) (.comp (.call 11 [(.v 37),(.v 10),(.v 11)]) [(.mk (.v 37) (.v 4) [])])
noncomputable def s12:PS:= .asg (.v 13) (.comp (.comp (.bi .len [(.comp (.v 41) [(.mk (.v 41) (.v 37) [(.cmp .Gt (.v 41) (.v 39))])])]) [(.mk (.v 39) (.tup [(.c (.int 0)),(.c (.int 1)),(.c (.int 2))]) [])]) [(.mk (.v 37) (.v 4) [])])
noncomputable def s13:PS:= .asg (.v 14) (.tup [(.c (.str "")),(.c (.str "\")\"")),(.c (.str "\\(")),(.c (.str "\\\\")),(.c (.str "\"(\"")),(.c (.str "\"\\\")\"")),(.c (.str "a\\\"")),(.c (.str "\\)"))])
noncomputable def s14:PS:= .asg (.v 15) (.lst [(.idx (.v 14) (.bin .Mod (.idx (.v 1) (.c (.int 3))) (.c (.int 8)))),(.idx (.v 14) (.bin .Mod (.bin .FloorDiv (.idx (.v 1) (.c (.int 3))) (.c (.int 8))) (.c (.int 8))))])
noncomputable def s15:PS:= .asg (.v 16) (.comp (.call 12 [(.idx (.v 12) (.v 37)),(.idx (.v 13) (.bin .Sub (.c (.int 1)) (.v 37))),(.v 15),(.bin .Add (.bin .Mult (.bin .Mod (.bin .FloorDiv (.idx (.v 1) (.c (.int 3))) (.c (.int 64))) (.c (.int 9))) (.c (.int 3))) (.c (.int 1))),(.cmp .Eq (.v 37) (.c (.int 0)))]) [(.mk (.v 37) (.tup [(.c (.int 0)),(.c (.int 1))]) [])])
noncomputable def s16:PS:= .iff (.or [(.cmp .In (.c .none) (.v 16)),(.cmp .NotEq (.bi .sorted [(.comp (.idx (.v 37) (.c (.int 0))) [(.mk (.v 37) (.idx (.v 16) (.c (.int 0))) [])])]) (.bi .sorted [(.comp (.idx (.v 37) (.c (.int 0))) [(.mk (.v 37) (.idx (.v 16) (.c (.int 1))) [])])]))]) [.ret (.c (.bool false))] []
noncomputable def s17:PS:= .asg (.v 17) (.comp (.bin .Mult (.bin .Sub (.bin .Mod (.idx (.v 1) (.v 37)) (.c (.int 41))) (.c (.int 20))) (.bin .Add (.c (.int 1)) (.bin .Mult (.bin .Pow (.c (.int 2)) (.c (.int 1400))) (.bi .int [(.cmp .Eq (.bin .Mod (.idx (.v 1) (.c (.int 7))) (.c (.int 16))) (.c (.int 15)))])))) [(.mk (.v 37) (.tup [(.c (.int 4)),(.c (.int 5)),(.ite (.cmp .Eq (.bin .Mod (.bin .FloorDiv (.idx (.v 1) (.c (.int 7))) (.c (.int 16))) (.c (.int 8))) (.c (.int 7))) (.c (.int 4)) (.c (.int 6)))]) [])])
noncomputable def s18:PS:= .asg (.v 18) (.comp (.bi .sum [(.comp (.bin .Mult (.bin .Mult (.bin .Pow (.idx (.v 17) (.c (.int 0))) (.me .count (.v 39) [(.c (.str "a"))])) (.bin .Pow (.idx (.v 17) (.c (.int 1))) (.me .count (.v 39) [(.c (.str "b"))]))) (.bin .Pow (.idx (.v 17) (.c (.int 2))) (.me .count (.v 39) [(.c (.str "c"))]))) [(.mk (.v 39) (.v 37) [])])]) [(.mk (.v 37) (.v 12) [])])
noncomputable def s19:PS:= .asgs [(19,false),(3,false)] [(.bi .sum [(.comp (.call 13 [(.v 17),(.idx (.v 37) (.c (.int 1)))]) [(.mk (.v 37) (.idx (.v 16) (.c (.int 1))) [])])]),(.bin .Sub (.c (.int 1)) (.bin .Mult (.c (.int 2)) (.bin .Mod (.bin .FloorDiv (.idx (.v 1) (.c (.int 7))) (.c (.int 128))) (.c (.int 2)))))]
noncomputable def s20:PS:= .for_ (.t [(.v 20),(.v 9)]) (.tup [(.tup [(.lst [(.c (.int 0)),(.c (.int 0)),(.c (.int 0))]),(.bin .Mult (.idx (.v 18) (.c (.int 0))) (.idx (.v 18) (.c (.int 1))))]),(.tup [(.idx (.v 13) (.c (.int 0))),(.idx (.v 18) (.c (.int 1)))]),(.tup [(.idx (.v 13) (.c (.int 1))),(.idx (.v 18) (.c (.int 0)))])]) [.asg (.v 21) (.call 13 [(.v 17),(.v 20)]),.asg (.v 22) (.ite (.v 21) (.bin .Mod (.idx (.v 1) (.c (.int 7))) (.v 21)) (.c (.int 0))),.tryDiv 23 24 (.bin .Mult (.bin .Add (.v 19) (.v 22)) (.v 3)) (.bin .Mult (.v 21) (.v 3)) 6,.iff (.cmp .NotEq (.v 23) (.ite (.cmp .Eq (.v 21) (.c (.int 0))) (.c (.str "")) (.tup [(.v 9),(.bin .Mult (.v 22) (.v 3))]))) [.ret (.c (.bool false))] []] []
noncomputable def s21:PS:= .ret (.c (.bool true))
def zv2:List PS:=[s0,s1,s2,s3,s4,s5,s6,s7,s8,s9,s10,s11,s12,s13,s14,s15,s16,s17,s18,s19,s20,s21]
theorem zte:pbL=zv2:=by kernel_rfl
theorem zv3:tC1 0=tE 0:=by kernel_rfl
theorem zv4:tC1 1=tE 1:=by kernel_rfl
theorem zv5:tC1 2=tE 2:=by kernel_rfl
theorem zv6:tC1 5=tE 5:=by kernel_rfl
theorem zv7:tC1 6=tE 6:=by kernel_rfl
theorem zv8:tC1 7=tE 7:=by kernel_rfl
theorem zv9:tC1 8=tE 8:=by kernel_rfl
theorem zwa:tC1 9=tE 9:=by kernel_rfl
theorem zuZ:tC1 10=tE 10:=by kernel_rfl
theorem zu0:tC1 11=tE 11:=by kernel_rfl
theorem zu1:tC1 12=tE 12:=by kernel_rfl
theorem zu2:tC1 13=tE 13:=by kernel_rfl
theorem zwb:tC1 3=some (.prim zg4):=by kernel_rfl
theorem zwc:tC1 4=some (.prim zg5):=by kernel_rfl
theorem zu3:tC1 14=zdL "law" :=by
 show (if ("law" :Str)=="_int2digits" then some (.prim zg4) else if ("law" :Str)=="_digits2int" then some (.prim zg5) else zdL "law")=_
 exact za (if_neg (by decide+kernel)) (za (if_neg (by decide+kernel)) rfl)
theorem zu4:tC1=tE:=by
 funext k
 match k with
 |0=>exact zv3|1=>exact zv4|2=>exact zv5|3=>exact zwb|4=>exact zwc|5=>exact zv6|6=>exact zv7|7=>exact zv8
 |8=>exact zv9|9=>exact zwa|10=>exact zuZ|11=>exact zu0|12=>exact zu1|13=>exact zu2|14=>exact zu3
 |k+15=>rfl
end One1
noncomputable def zlo:List Nat ->List Nat ->Bool
 | [],_=>true
 |y::ys,x::xs=>Nat.beq y x&&zlo ys xs
 |_::_,[]=>false
def zeT (ys:List Nat) (m hi:Nat):Nat ->Nat ->Nat ->Nat ->List Nat ->List Nat
 |0,_,_,_,_=>[]
 |k+1,lim,free,i,xs=>bif (!Nat.beq lim 0&&Nat.ble free i&&Nat.ble (i+m) hi&&zlo ys xs) then i::zeT ys m hi k (lim-1) (i+m) (i+1) xs.tail
  else zeT ys m hi k lim free (i+1) xs.tail
theorem zkf:∀(ys xs:List Nat),zlo ys xs=(xs.take ys.length==ys)
 | [],xs=>rfl
 |y::ys,[]=>rfl
 |y::ys,x::xs=>by
  have:(x==y)=Nat.beq y x:=by
   rw [Bool.eq_iff_iff];refine za Nat.beq_eq ?_;rw [beq_iff_eq];exact eq_comm
  show (Nat.beq y x&&zlo ys xs)=((x::xs.take ys.length)==y::ys)
  refine za (zkf ys xs) (za List.cons_beq_cons ?_)
  exact za this rfl
open Builtin.Str StrLaws in
theorem zhf (s sub:Str) (hi limit:Nat):∀(k i free:Nat) (found:Array Nat),found.size<=limit ->
  (forIn (List.range' i k) (found,free) (occBody s sub hi limit)).run.fst.toList=found.toList++zeT sub.cps.toList sub.length hi k (limit-found.size) free i (s.cps.toList.drop i)
 |0,i,free,found,h=>by simp [zeT]
 |k+1,i,free,found,h=>by
  have hx:(s.cps.toList.drop i).tail=s.cps.toList.drop (i+1):=by simp
  have hs:subAt s sub i=zlo sub.cps.toList (s.cps.toList.drop i):=by
   rw [subAt_eq,zkf];rfl
  refine za List.range'_succ ?_
  rw [List.forIn_cons]
  unfold occBody
  by_cases c:((found.size<limit/\ free<=i)/\ i+sub.length<=hi)/\ subAt s sub i=true
  ·refine za (if_pos c) ?_
   have e:(!Nat.beq (limit-found.size) 0&&Nat.ble free i&&Nat.ble (i+sub.length) hi&&zlo sub.cps.toList (s.cps.toList.drop i))=true:=by
    refine zR c λq1 f=>?_
    clear c
    refine zR q1 λq2 d=>?_
    clear q1
    refine zR q2 λa b=>?_
    clear q2
    rw [hs] at f
    simp
    refine ⟨⟨⟨?_,b⟩,d⟩,f⟩
    rw [Bool.eq_false_iff];intro hh;have:=Nat.eq_of_beq_eq_true hh;lia
   refine za (zhf s sub hi limit k (i+1) (i+sub.length) (found.push i) (by simp;lia)) ?_
   show _=found.toList++bif _ then _ else _
   refine za e (za hx ?_)
   rw [cond_true]
   simp
   exact za (show limit-found.size-1=limit-(found.size+1) by lia) rfl
  ·refine za (if_neg c) ?_
   have e:(!Nat.beq (limit-found.size) 0&&Nat.ble free i&&Nat.ble (i+sub.length) hi&&zlo sub.cps.toList (s.cps.toList.drop i))=false:=by
    rw [Bool.eq_false_iff];intro hh
    simp only [Bool.and_eq_true,Bool.not_eq_true',Nat.ble_eq] at hh
    refine zR hh λq3 f=>?_
    clear hh
    refine zR q3 λq4 d=>?_
    clear q3
    refine zR q4 λa b=>?_
    clear q4
    refine c ⟨⟨⟨?_,b⟩,d⟩,by refine za hs ?_;exact f⟩
    have:limit-found.size≠0:=by
     intro hz;rw [hz] at a;exact nomatch a
    lia
   refine za (zhf s sub hi limit k (i+1) free found h) ?_
   show _=found.toList++bif _ then _ else _
   refine za e (za hx ?_)
   rw [cond_false]
theorem zhg (s sub:Str) (lo hi limit:Nat):Builtin.Str.occurrences s sub lo hi limit=zeT sub.cps.toList sub.length hi (hi+1-lo) limit lo lo (s.cps.toList.drop lo):=by
 rw [StrLaws.occ_eq]
 refine za (zhf s sub hi limit _ _ _ _ (Nat.zero_le _)) ?_
 rfl
noncomputable def zw (x:List Nat):Str:=⟨x.toArray⟩
theorem zbq (x:List Nat):(zw x).cps.toList=x:=rfl
theorem zbO (x:Str):zw x.cps.toList=x:=by induction x with|mk a=>induction a;rfl
theorem zo8 (s:Str) (i j:Nat):Builtin.Str.strSub s i j=zw ((s.cps.toList.drop i).take (j-i)):=by
 refine zF (zbO (Builtin.Str.strSub s i j)) ?_
 rw [StrLaws.strSub_toList]
theorem zhJ (s sub:Str):Txt.contains s sub= !(zeT sub.cps.toList sub.length s.length (s.length+1) 1 0 0 s.cps.toList).isEmpty:=by
 unfold Txt.contains;rw [zhg];rfl
def zhh (x y:List Nat):List (List Nat):=
 let cuts:=zeT y y.length x.length (x.length+1) (x.length+1) 0 0 x
 if cuts.isEmpty then [x] else ((0::cuts.map (· +y.length)).zip (cuts++[x.length])).map λp=>(x.drop p.1).take (p.2-p.1)
theorem zlp (x y:Str) (h:(decide (x.length<y.length)||decide (Builtin.Str.strKind x<Builtin.Str.strKind y))=false):Txt.split x y=(zhh x.cps.toList y.cps.toList).map zw:=by
 unfold Txt.split zhh
 refine za h ?_
 rw [zhg]
 refine za (show zeT y.cps.toList y.length x.length (x.length+1-0) (x.length+1) 0 0 (List.drop 0 x.cps.toList)=zeT y.cps.toList y.cps.toList.length x.cps.toList.length (x.cps.toList.length+1) (x.cps.toList.length+1) 0 0 x.cps.toList from rfl) ?_
 generalize zeT y.cps.toList y.cps.toList.length x.cps.toList.length (x.cps.toList.length+1) (x.cps.toList.length+1) 0 0 x.cps.toList=cuts
 by_cases c:cuts.isEmpty=true
 ·simp only [c,if_true,Bool.false_eq_true,if_false,List.map_cons,List.map_nil,zbO]
 ·simp only [c,if_false,Bool.false_eq_true]
  simp
  apply List.map_congr_left
  intro p hp
  exact zo8 x p.1 p.2
def zmc (x y:List Nat) (i j:Nat):Option Nat:=(zeT y y.length (min j x.length) (min j x.length+1-i) 1 i i (x.drop i)).head?
theorem znc (x y:Str) (i j:Nat):zhK x y i j=match zmc x.cps.toList y.cps.toList i j with|some k=>(k:Int)|none=> -1:=by
 have fi:∀k:Nat,PySem.fromIndex x.length (k:Int)=k:=by
  intro k;unfold PySem.fromIndex;rfl
 unfold zhK zmc
 rw [fi,fi,zhg]
 show (match zeT y.cps.toList y.cps.toList.length (min j x.cps.toList.length) (min j x.cps.toList.length+1-i) 1 i i (List.drop i x.cps.toList) with|k::_=>(k:Int)| []=> -1)=_
 cases zeT y.cps.toList y.cps.toList.length (min j x.cps.toList.length) (min j x.cps.toList.length+1-i) 1 i i (List.drop i x.cps.toList)<;>rfl
section
variable {tbl:Nat ->Option Fn} {n:Nat} {ρ:Rho}
end
theorem zab {tbl:Nat ->Option Fn} {n:Nat} {t:Tgt} {b o:List PS} {x:PyData} {xs:List PyData} {ρ ρ1 ρ2:Rho} (h:zaz t x ρ=some ρ1) (hb:zE (run tbl n) b ρ1=some (ρ2,.next)):zbF (run tbl (n+1)) t b o (x::xs) ρ=zbF (run tbl (n+1)) t b o xs ρ2:=by
 show (zaz t x ρ).bind _=_
 refine za h ?_
 show (zE (run tbl n) b ρ1).bind _=_
 exact za hb rfl
theorem zkg {tbl:Nat ->Option Fn} {n:Nat} {t:Tgt} {b o:List PS} {x d:PyData} {xs:List PyData} {ρ ρ1 ρ2:Rho} (h:zaz t x ρ=some ρ1) (hb:zE (run tbl n) b ρ1=some (ρ2,.ret d)):zbF (run tbl (n+1)) t b o (x::xs) ρ=some (ρ2,.ret d):=by
 show (zaz t x ρ).bind _=_
 refine za h ?_
 show (zE (run tbl n) b ρ1).bind _=_
 exact za hb rfl
def zci (g:List Nat) (e:Nat):List Str ->Nat ->Bool
 | [],s=>true
 |p::r,s=>match zmc g p.cps.toList s e with
  |none=>false
  |some k=>zci g e r (k+p.length)
noncomputable def zqS:List PS:=[.asg (.v 3) (.me .find (.v 1) [(.v 5),(.v 3),(.v 4)]),.iff (.cmp .Lt (.v 3) (.c (.int 0))) [.ret (.c (.bool false))] [],.aug 3 .Add (.bi .len [(.v 5)])]
section
variable {tbl:Nat ->Option Fn} {n:Nat}
theorem zkh {g:Str} {e:Nat} {v0 v2:Option PV} {tl:Rho}:∀(ps:List Str) (s:Nat) (v5:Option PV),(∀p∈ps,p.length<=big) ->
  ∃ρ',zbF (run tbl (n+6)) (.v 5) zqS [] (ps.map .str) (v0::some (.d (.str g))::v2::some (.d (.int (s:Int)))::some (.d (.int (e:Int)))::v5::tl)=
   some (ρ',if zci g.cps.toList e ps s=true then .next else .ret (.bool false))
 | [],s,v5,h=>⟨_,rfl⟩
 |p::r,s,v5,h=>by
  have hp:=h p (List.mem_cons_self ..)
  have hf:=znc g p s e
  unfold zci
  revert hf
  have hE:∀x,zhK g p s e=x ->(run tbl (n+5)).ex (v0::some (.d (.str g))::v2::some (.d (.int (s:Int)))::some (.d (.int (e:Int)))::some (.d (.str p))::tl) (.me .find (.v 1) [(.v 5),(.v 3),(.v 4)])=some (.int x):=λx h=>congrArg (λx=>some (PyData.int x)) h
  induction zmc g.cps.toList p.cps.toList s e with
  |none=>
   intro hf
   exact I11 _ (zkg rfl (zqO (zX (hE _ hf)) (zqP rfl)))
  |some k=>
   intro hf
   refine zO (zkh (g:=g) (e:=e) (v0:=v0) (v2:=v2) (tl:=tl) r (k+p.length) (some (.d (.str p))) λq hq=>h q (List.mem_cons_of_mem _ hq)) λρ' ih=>I11 ρ' (Eq.trans (zab rfl ?_) ih)
   refine zoY (zX (hE _ hf)) (Eq.trans (zqQ ?_) rfl) (zmb (x:=(k:Int)) (y:=(p.length:Int)) rfl (if_pos hp))
   exact congrArg some (decide_eq_false (Int.not_lt.mpr (Int.natCast_nonneg k)))
end
theorem zwd {n:Nat}:(n !=0)= !Nat.beq n 0:=by induction n<;>rfl
theorem zjb {x:Str} (h:x.length<=big):zaI (.str x)=some (!Nat.beq x.length 0):=by
 show (if x.length<=big then some (x.length !=0) else none)=_
 exact za (if_pos h) (za zwd rfl)
theorem zki (n:Nat):seqIndex? (-1) (n+1)=some n:=by
 show (if (decide (0<=(-1:Int)+((n+1:Nat):Int))&&decide ((-1:Int)+((n+1:Nat):Int)<((n+1:Nat):Int)))=true then some ((-1:Int)+((n+1:Nat):Int)).toNat else none)=_
 refine za (by lia:((-1:Int)+((n+1:Nat):Int))=(n:Int)) ?_;refine za (if_pos (by simp;lia)) ?_;rfl
theorem zkj (n:Nat):seqIndex? 0 (n+1)=some 0:=by
 show (if (decide (0<=(0:Int))&&decide ((0:Int)<((n+1:Nat):Int)))=true then some (0:Int).toNat else none)=_
 refine za (if_pos (by simp only [Bool.and_eq_true,decide_eq_true_eq];lia)) ?_;rfl
theorem zkk {xs:List PyData} {x:PyData} (h:xs.length+1<=big):zbf (.list (xs++[x])) (.int (-1))=some x:=by
 show (if (xs++[x]).length<=big then (seqIndex? (-1) (xs++[x]).length).bind ((xs++[x])[·]?) else none)=_
 refine za (by simp:(xs++[x]).length=xs.length+1) ?_;refine za (if_pos h) ?_;rw [zki];simp
theorem zkl {xs:List PyData} {x:PyData} (h:xs.length+1<=big):zbf (.list (x::xs)) (.int 0)=some x:=by
 show (if xs.length+1<=big then (seqIndex? 0 (xs.length+1)).bind ((x::xs)[·]?) else none)=_
 refine za (if_pos h) ?_;rw [zkj];rfl
noncomputable def zdS:List Nat ->Nat ->Bool ->List (Nat×List Nat)
 | [],i,esc=>if esc then [(i-1,[92])] else []
 |c::r,i,true=>(i,[92,c])::zdS r (i+1) false
 |c::r,i,false=>if c=92 then zdS r (i+1) true else (i,[c])::zdS r (i+1) false
def zlq (p:Nat×List Nat):PyData:= .tuple [.int (p.1:Int),.str (zw p.2)]
theorem zeU:∀(r:List Nat) (pos:Nat) (esc:Bool),zax.escapedN r pos esc=(zdS r (pos+1) esc).map zlq
 | [],pos,true=>rfl
 | [],pos,false=>rfl
 |c::r,pos,true=>by
  show .tuple [.int ((pos+1:Nat):Int),.str ⟨#[92,c]⟩]::zax.escapedN r (pos+1) false=_
  refine za (zeU r (pos+1) false) ?_;rfl
 |c::r,pos,false=>by
  show (if c=92 then zax.escapedN r (pos+1) true else .tuple [.int ((pos+1:Nat):Int),.str ⟨#[c]⟩]::zax.escapedN r (pos+1) false)=_
  refine za (zeU r (pos+1) false) (za (zeU r (pos+1) true) ?_)
  show _=List.map zlq (if c=92 then zdS r (pos+1+1) true else (pos+1,[c])::zdS r (pos+1+1) false)
  by_cases h:c=92
  ·exact za (if_pos h) (za (if_pos h) rfl)
  ·refine za (if_neg h) ?_;refine za (if_neg h) ?_;rfl
theorem zo9 (r:List Nat):zax r 0 false=(zdS r 0 false).map zlq:=by
 induction r using List.casesOn with
 |nil=>rfl
 |cons c r=>
  show (if c=92 then zax.escapedN r 0 true else .tuple [.int ((0:Nat):Int),.str ⟨#[c]⟩]::zax.escapedN r 0 false)=_
  refine za (zeU r 0 false) (za (zeU r 0 true) ?_)
  show _=List.map zlq (if c=92 then zdS r (0+1) true else (0,[c])::zdS r (0+1) false)
  by_cases h:c=92
  ·exact za (if_pos h) (za (if_pos h) rfl)
  ·refine za (if_neg h) ?_;refine za (if_neg h) ?_;rfl
noncomputable def zaw:List Nat ->Bool ->Bool ->List Nat
 | [],esc,q=>if esc&& !q then [92] else []
 |c::r,true,q=>if q then zaw r false q else 92::c::zaw r false q
 |c::r,false,q=>if c=92 then zaw r true q else if c=34 then zaw r false (!q) else if q then zaw r false q else c::zaw r false q
noncomputable def zc3:List Nat ->Bool ->Bool ->Bool
 | [],esc,q=>q
 |c::r,true,q=>zc3 r false q
 |c::r,false,q=>if c=92 then zc3 r true q else if c=34 then zc3 r false (!q) else zc3 r false q
noncomputable def zbC:List Nat ->Bool ->Int ->Bool
 | [],esc,k=>k==0
 |c::r,true,k=>zbC r false k
 |c::r,false,k=>if c=92 then zbC r true k else if c=40 then zbC r false (k+1) else if c=41 then (if k-1<0 then false else zbC r false (k-1)) else zbC r false k
theorem zkm (a b:List Nat):(zw a==zw b)=(a==b):=by
 rw [Bool.eq_iff_iff,beq_iff_eq,beq_iff_eq]
 constructor
 ·intro h;refine zF (zbq a) ?_;refine za h ?_;rw [zbq]
 ·intro h;exact za h rfl
theorem zeV (c d:Nat):(zw [c]==zw [d])=decide (c=d):=by
 rw [zkm,Bool.eq_iff_iff,beq_iff_eq,decide_eq_true_iff];simp
theorem zjc (b c d:Nat):(zw [b,c]==zw [d])=false:=by
 rw [zkm,Bool.eq_false_iff];intro h;have:=beq_iff_eq.mp h;simp at this
theorem znd {T:List Nat} {i j:Nat} (h:i<=j) (h2:j<=T.length):Txt.slice (zw T) (some (i:Int)) (some (j:Int))=zw ((T.drop i).take (j-i)):=by
 have:=beq_iff_eq.mp (slice_closes (x:=zw T) (i:=(i:Int)) (j:=(j:Int)) (I03 (by simp) (by lia) (by rw [zbq];lia)))
 refine za this ?_
 rw [zbq]
 refine za (show ((j:Int)-(i:Int)).toNat=j-i by lia) ?_
 rfl
theorem zkn {T:List Nat} {i:Nat} (h:i<=T.length):Txt.slice (zw T) (some (i:Int)) none=zw (T.drop i):=by
 have:=beq_iff_eq.mp (slice_closes_from (x:=zw T) (i:=(i:Int)) ⟨by simp,by rw [zbq];lia⟩)
 refine za this ?_
 rw [zbq]
 refine za (show ((T.length:Int)-(i:Int)).toNat=T.length-i by simp) (za (List.take_of_length_le (by simp)) ?_)
 rfl
theorem zhi:∀(l:List Str) (acc:Array Nat),(l.foldl (λacc p=>acc++(#[]:Array Nat)++p.cps) acc).toList=acc.toList++(l.map (·.cps.toList)).flatten
 | [],acc=>by simp
 |p::l,acc=>by
  refine za List.foldl_cons ?_
  rw [zhi l]
  simp
theorem zpa (l:List (List Nat)):Txt.join (Str.ofString "") (l.map zw)=zw l.flatten:=by
 refine zF (zbO (Txt.join (Str.ofString "") (l.map zw))) ?_
 congr 1
 show (((l.map zw).drop 1).foldl (λacc p=>acc++(#[]:Array Nat)++p.cps) ((l.map zw).headD Str.empty).cps).toList=_
 rw [zhi]
 induction l using List.casesOn with
 |nil=>rfl
 |cons a l=>
  simp
  congr 2
  conv=>rhs;rw [<-List.map_id l]
  apply List.map_congr_left
  intro a _;rfl
noncomputable def opD:Option Nat ->PyData
 |none=> .none
 |some q=> .int (q:Int)
def stR (T:List Nat) (p:Nat) (op:Option Nat) (C:List (List Nat)) (v4 v5:Option PV) (tl:Rho):Rho:=
 some (.d (.str (zw T)))::some (.d (.int (p:Int)))::some (.d (opD op))::some (.m (C.map λx=> .str (zw x)))::v4::v5::tl
noncomputable def zhj:List PS:=[.iff (.cmp .Eq (.v 5) (.c (.str "\""))) [.iff (.cmp .Is (.v 2) (.c .none)) [.asg (.v 2) (.v 4)] [.iff (.cmp .NotEq (.v 1) (.v 2)) [.app 3 (.sl (.v 0) (some (.v 1)) (some (.v 2)) none)] [],.asg (.v 1) (.bin .Add (.v 4) (.c (.int 1))),.asg (.v 2) (.c .none)]] []]
theorem zik {x:Str} {a b:Option Int} (h:x.length<=big):zbY (.str x) a b none=some (.str (Txt.slice x a b)):=by
 show (if (none:Option Int)=none/\ x.length<=big then some (PyData.str (Txt.slice x a b)) else none)=_
 exact za (if_pos ⟨rfl,h⟩) rfl
section
variable {tbl:Nat ->Option Fn} {n:Nat} {T:List Nat} {p:Nat} {op:Option Nat} {C:List (List Nat)} {tl:Rho} {v4 v5:Option PV}
theorem zhk {i:Nat} {s:List Nat} (h:(zw s==zw [34])=false):
  (run tbl (n+8)).blk (stR T p op C (some (.d (.int (i:Int)))) (some (.d (.str (zw s)))) tl) zhj=some (stR T p op C (some (.d (.int (i:Int)))) (some (.d (.str (zw s)))) tl,.next):=by
 exact zj (zaV (t_b (zV rfl rfl (congrArg some h))) rfl) rfl
theorem zqT {i:Nat}:
  (run tbl (n+8)).blk (stR T p none C (some (.d (.int (i:Int)))) (some (.d (.str (zw [34])))) tl) zhj=some (stR T p (some i) C (some (.d (.int (i:Int)))) (some (.d (.str (zw [34])))) tl,.next):=by
 rfl
theorem zpb {i q:Nat} (hq1:p<=q) (hq2:q<=T.length) (hT:T.length<=big) (hC:C.length<=big):
  (run tbl (n+8)).blk (stR T p (some q) C (some (.d (.int (i:Int)))) (some (.d (.str (zw [34])))) tl) zhj=
   some (stR T (i+1) none (if p=q then C else C++[(T.drop p).take (q-p)]) (some (.d (.int (i:Int)))) (some (.d (.str (zw [34])))) tl,.next):=by
 have hs:zbY (.str (zw T)) (some (p:Int)) (some (q:Int)) none=some (.str (zw ((T.drop p).take (q-p)))):=by
  exact za (zik (x:=zw T) hT) (za (znd hq1 hq2) rfl)
 have hCm:(C.map λx=>PyData.str (zw x)).length<=big:=by rw [List.length_map];exact hC
 by_cases e:p=q
 ·have he:eqD (.int (p:Int)) (.int (q:Int))=some true:=by
   show some ((p:Int)==(q:Int))=_
   refine za e ?_
   rw [beq_self_eq_true]
  exact za (if_pos e) (zj (zb5 rfl (zj (zaV rfl (zj (zaV (t_b (zV rfl rfl (congrArg (Option.map not) he))) rfl) (zj (zX rfl) (zj (zX rfl) rfl)))) rfl)) rfl)
 ·have he:eqD (.int (p:Int)) (.int (q:Int))=some false:=by
   show some ((p:Int)==(q:Int))=_
   congr 1;rw [beq_eq_false_iff_ne];intro h;exact e (by lia)
  refine za (if_neg e) ?_
  delta stR
  exact za List.map_append (zj (zb5 rfl (zj (zaV rfl (zj (zb5 (t_b (zV rfl rfl (congrArg (Option.map not) he))) (zj (zds rfl (znb rfl rfl rfl rfl hs) hCm) rfl)) (zj (zX rfl) (zj (zX rfl) rfl)))) rfl)) rfl)
end
def Inv (T:List Nat) (a p:Nat) (op:Option Nat) (C:List (List Nat)) (K:List Nat):Prop:=C.length<=p/\ match op with
 |none=>p<=a/\ C.flatten++(T.drop p).take (a-p)=K
 |some q=>p<=q/\ q<a/\ C.flatten++(T.drop p).take (q-p)=K
theorem zqU {T:List Nat} {i c:Nat} {r:List Nat} (h:T.drop i=c::r):i+1<=T.length:=Nat.lt_of_not_le λk=>nomatch (List.drop_eq_nil_of_le k).symm.trans h
theorem zne {T:List Nat} {i c:Nat} {r:List Nat} (h:T.drop i=c::r):T.drop (i+1)=r:=List.drop_drop.symm.trans (congrArg (List.drop 1) h)
theorem znf {T:List Nat} {i p c:Nat} {r:List Nat} (h:T.drop i=c::r) (hp:p<=i):(T.drop p).take (i+1-p)=(T.drop p).take (i-p)++[c]:=by
 refine za (Nat.succ_sub hp) ?_;refine za List.take_succ ?_;refine za List.getElem?_drop ?_;refine za (Nat.add_sub_cancel' hp) ?_;refine zF (Nat.add_zero i) ?_;refine zF List.getElem?_drop ?_;refine za h ?_;rfl
section
variable {T:List Nat} {i p q c:Nat} {op:Option Nat} {C:List (List Nat)} {K r:List Nat}
theorem zeW (h:T.drop i=c::r) (v:Inv T i p op C K):Inv T (i+1) p op C (K++if op.isSome then [] else [c]):=by
 induction op with
 |none=>exact I03 v.1 (Nat.le_succ_of_le v.2.1) (by refine za (znf h v.2.1) ?_;rw [<-List.append_assoc];refine za v.2.2 ?_;rfl)
 |some q=>exact I04 v.1 v.2.1 (Nat.lt_succ_of_lt v.2.2.1) (v.2.2.2.trans (List.append_nil K).symm)
theorem zng (v:Inv T i p (some q) C K):Inv T (i+1) (i+1) none (if p=q then C else C++[(T.drop p).take (q-p)]) K:=by
 refine I03 ?_ (Nat.le_refl _) ?_
 ·split
  ·exact zv v.1 (Nat.le_succ_of_le (Nat.le_of_lt (Nat.lt_of_le_of_lt v.2.1 v.2.2.1)))
  ·refine za List.length_append ?_;exact Nat.succ_le_succ (zv v.1 (Nat.le_of_lt (Nat.lt_of_le_of_lt v.2.1 v.2.2.1)))
 ·rw [Nat.sub_self]
  refine za List.take_zero ?_
  rw [List.append_nil]
  refine zF v.2.2.2 ?_
  split
  ·rename_i e
   refine za e ?_
   rw [Nat.sub_self]
   refine za List.take_zero ?_
   rw [List.append_nil]
  ·exact za List.flatten_append (za List.flatten_singleton rfl)
theorem zpc (q:Bool):K++(if q then [] else [92])++(if q then [] else [c])++zaw r false q=K++zaw (c::r) true q:=by
 rw [List.append_assoc,List.append_assoc]
 induction q using Bool.casesOn<;>rfl
theorem zpd (q:Bool) (h1:c≠92) (h2:c≠34):K++(if q then [] else [c])++zaw r false q=K++zaw (c::r) false q:=by
 refine za (List.append_assoc ..) (congrArg (K++ ·) (Eq.trans ?_ ((if_neg h1).trans (if_neg h2)).symm))
 induction q using Bool.casesOn<;>rfl
end
section
variable {tbl:Nat ->Option Fn} {n:Nat} {T:List Nat} {tl:Rho}
def ztf (tbl:Nat ->Option Fn) (n:Nat) (T:List Nat) (tl:Rho) (xs:List PyData) (ρ:Rho) (K:List Nat) (e:Bool):Prop:=
 ∃p' op' C' v4' v5',zbF (run tbl (n+8)) (.t [.v 4,.v 5]) zhj [] xs ρ=some (stR T p' op' C' v4' v5' tl,.next)/\ Inv T T.length p' op' C' K/\ op'.isSome=e
theorem zdM {x:PyData} {xs:List PyData} {ρ ρ1 ρ2:Rho} {K:List Nat} {e:Bool} (h:zaz (.t [.v 4,.v 5]) x ρ=some ρ1) (hb:(run tbl (n+8)).blk ρ1 zhj=some (ρ2,.next)) (D:ztf tbl n T tl xs ρ2 K e):ztf tbl n T tl (x::xs) ρ K e:=
 E53 D λp op C a b h1 h2 h3=>I53 p op C a b ((zab h hb).trans h1) h2 h3
theorem zqV (hT:T.length<=big):∀(r:List Nat) (i:Nat) (esc:Bool) (p:Nat) (op:Option Nat) (C:List (List Nat)) (K:List Nat) (v4 v5:Option PV),T.drop i=r ->i<=T.length ->
  (esc=true ->∃j,i=j+1/\ T.drop j=92::r) ->Inv T (bif esc then i-1 else i) p op C K ->
  ztf tbl n T tl ((zdS r i esc).map zlq) (stR T p op C v4 v5 tl) (K++zaw r esc op.isSome) (zc3 r esc op.isSome):=by
 intro r
 induction r with
 |nil=>
  intro i esc p op C K v4 v5 hr hi he hv
  have e:=Nat.le_antisymm hi (List.drop_eq_nil_iff.mp hr)
  induction esc with
  |false=>exact I53 p op C v4 v5 rfl (za (List.append_nil K) (e▸hv)) rfl
  |true=>
   refine zm (he rfl) λj hj hd=>?_
   subst hj
   refine I53 p op C (some (.d (.int (j:Int)))) (some (.d (.str (zw [92])))) ((zab rfl (zhk (by rfl))).trans rfl) (e▸ ?_) rfl
   have:=zeW hd hv
   induction op<;>exact this
 |cons c r ih=>
  intro i esc p op C K v4 v5 hr hi he hv
  have hr':=zne hr
  have hi':=zqU hr
  induction esc with
  |true=>
   refine zm (he rfl) λj hj hd=>?_
   subst hj
   refine zdM rfl (zhk (zjc _ _ _)) ?_
   exact zpc (r:=r) op.isSome▸ih (j+1+1) false p op C _ (some (.d (.int ((j+1:Nat):Int)))) (some (.d (.str (zw [92,c])))) hr' hi' (λh=>nomatch h) (zeW hr (zeW hd hv))
  |false=>
   by_cases c92:c=92
   ·subst c92
    exact ih (i+1) true p op C K v4 v5 hr' hi' (λ_=>zM i rfl hr) hv
   ·refine za (show zdS (c::r) i false=(i,[c])::zdS r (i+1) false from if_neg c92) ?_
    by_cases c34:c=34
    ·refine za c34 ?_
     induction op with
     |none=>exact zdM rfl zqT (ih (i+1) false p (some i) C K (some (.d (.int (i:Int)))) (some (.d (.str (zw [34])))) hr' hi' (λh=>nomatch h) (I04 hv.1 hv.2.1 (Nat.lt_succ_self i) hv.2.2))
     |some q=>
      have hq:q<=T.length:=zv (Nat.le_of_lt hv.2.2.1) hi
      exact zdM rfl (zpb hv.2.1 hq hT (zv hv.1 (zv hv.2.1 (zv hq hT)))) (ih (i+1) false (i+1) none _ K (some (.d (.int (i:Int)))) (some (.d (.str (zw [34])))) hr' hi' (λh=>nomatch h) (zng hv))
    ·refine za (show zc3 (c::r) false op.isSome=zc3 r false op.isSome from (if_neg c92).trans (if_neg c34)) ?_
     exact zdM rfl (zhk (by rw [zeV];exact decide_eq_false c34)) (zpd (r:=r) op.isSome c92 c34▸ih (i+1) false p op C _ (some (.d (.int (i:Int)))) (some (.d (.str (zw [c])))) hr' hi' (λh=>nomatch h) (zeW hr hv))
end
theorem zjd (T:List Nat) (c:Nat):Txt.contains (zw T) (zw [c])=decide (c∈T):=by
 unfold Txt.contains
 have:=empty_one (zw T) c
 refine za (show (zw [c]:Str)=⟨#[c]⟩ from rfl) (za this ?_)
 rw [zbq,Bool.not_not]
theorem zdN:∀(r:List Nat) (esc:Bool),34∉r ->zaw r esc false=(if esc then [92] else [])++r
 | [],true,_=>rfl
 | [],false,_=>rfl
 |c::r,true,h=>by
  show 92::c::zaw r false false=_
  refine za (zdN r false (λhh=>h (List.mem_cons_of_mem _ hh))) ?_;rfl
 |c::r,false,h=>by
  show (if c=92 then zaw r true false else if c=34 then zaw r false true else c::zaw r false false)=c::r
  have hn:34∉r:=λhh=>h (List.mem_cons_of_mem _ hh)
  by_cases c92:c=92
  ·refine za (if_pos c92) ?_;refine za (zdN r true hn) ?_;refine za c92 ?_;rfl
  ·refine za (if_neg c92) ?_;refine za (if_neg (λe=>h (by refine za e ?_;exact List.mem_cons_self ..))) ?_;refine za (zdN r false hn) ?_;rfl
theorem zb3:∀(r:List Nat) (esc q:Bool),(zaw r esc q).length<=r.length+if esc then 1 else 0
 | [],true,true=>Nat.le_succ _
 | [],true,false=>Nat.le_refl _
 | [],false,q=>Nat.zero_le _
 |c::r,true,true=>by
  show (zaw r false true).length<=_
  have:=zb3 r false true
  simp only [List.length_cons,if_true,if_false,Bool.false_eq_true] at *;lia
 |c::r,true,false=>by
  show (92::c::zaw r false false).length<=_
  have:=zb3 r false false
  simp only [List.length_cons,if_true,if_false,Bool.false_eq_true] at *;lia
 |c::r,false,q=>by
  show (if c=92 then zaw r true q else if c=34 then zaw r false (!q) else if q then zaw r false q else c::zaw r false q).length<=_
  have h1:=zb3 r true q
  have h2:=zb3 r false q
  have h3:=zb3 r false (!q)
  split
  ·simp only [List.length_cons];assumption
  ·split
   ·simp only [List.length_cons];lia
   ·split<;>simp only [List.length_cons]<;>lia
theorem zhl:∀(C:List (List Nat)),zcj (C.map λx=> .str (zw x))=some (C.map zw)
 | []=>rfl
 |x::C=>by
  show (zcj (C.map λx=> .str (zw x))).map (zw x:: ·)=_
  refine za (zhl C) ?_;rfl
theorem zhm:∀(C:List (List Nat)),zbb (C.map zw)=C.flatten.length
 | []=>rfl
 |x::C=>by
  show x.length+zbb (C.map zw)=_
  refine za (zhm C) (za List.flatten_cons ?_)
  exact za List.length_append rfl
theorem zlr {C:List (List Nat)} (h:C.flatten.length+C.length<=big):meD .join (.str (Str.ofString "")) [.list (C.map λx=> .str (zw x))]=some (.str (zw C.flatten)):=by
 show ((zcj (C.map λx=> .str (zw x))).bind λss=>if zbb ss+ss.length*((Str.ofString "").length+1)<=big then some (PyData.str (Txt.join (Str.ofString "") ss)) else none)=_
 rw [zhl,Option.bind_some,zhm]
 refine za (if_pos (by rw [List.length_map];show C.flatten.length+C.length*1<=big;lia)) ?_
 rw [zpa]
theorem zpe {tbl:Nat ->Option Fn} (h8:tbl 8=some (.code 1 60 One1.strB)) {T:List Nat} {n:Nat} (hT:T.length<=1000) (he:zc3 T false false=false):
  (run tbl (n+12)).call 8 [.str (zw T)]=some (.str (zw (zaw T false false))):=by
 have hb:T.length<=big:=zv hT (by decide)
 have hc:=zjd T 34
 by_cases hq:34∈T
 ·rw [decide_eq_true hq] at hc
  refine E53 (zqV (tbl:=tbl) (n:=n+2) (tl:=List.replicate 55 none) hb T 0 false 0 none [] [] none none rfl (Nat.zero_le _) (λh=>nomatch h) (I03 (Nat.le_refl _) (Nat.le_refl _) rfl)) λp op C a b h1 h2 h3=>?_
  induction op with
  |some q=>exact Bool.noConfusion (h3.trans he)
  |none=>
   have g3:C.flatten++T.drop p=zaw T false false:=(congrArg (C.flatten++ ·) (List.take_of_length_le (Nat.le_of_eq (List.length_drop ..))).symm).trans h2.2.2
   have hs:C.flatten.length+(T.drop p).length<=1000:=by
    refine zF List.length_append ?_;refine za g3 ?_;exact zv (zb3 T false false) hT
   have hC:C.length<=1000:=zv h2.1 (zv h2.2.1 hT)
   have hCm:(C.map λx=>PyData.str (zw x)).length<=big:=by rw [List.length_map];exact zv hC (by decide)
   suffices h:∃ρ',zE (run tbl (n+10)) (One1.strB.drop 5) (stR T p none C a b (List.replicate 55 none))=some (ρ',.ret (.str (zw (zaw T false false)))) from
    zO h λρ' h=>zbG h8 rfl (zj (zaV (t_b (zV rfl rfl (congrArg (λb=>some (!b)) hc))) rfl) (zj (zX rfl) (zj (zX rfl) (zj (zcR rfl) (zj (zbB (zln rfl ((if_pos hb).trans (congrArg some (zo9 ..)))) h1) h)))))
   by_cases hp:p<T.length
   ·have hj:meD .join (.str (Str.ofString "")) [.list ((C.map λx=> .str (zw x))++[.str (zw (T.drop p))])]=some (.str (zw (zaw T false false))):=by
     have:=zlr (C:=C++[T.drop p]) (by refine za List.flatten_append ?_;refine za List.flatten_singleton ?_;refine za List.length_append ?_;refine za List.length_append ?_;exact zv (Nat.add_le_add hs (Nat.succ_le_succ hC)) (by decide))
     rw [List.map_append,List.flatten_append,List.flatten_singleton,g3] at this
     exact this
    exact I11 _ (zj (zb5 (t_b (zV rfl (zeR rfl (if_pos hb)) (congrArg some (decide_eq_true (Int.ofNat_lt.mpr hp))))) (zj (zds rfl (znb rfl rfl rfl rfl ((zik (x:=zw T) hb).trans (congrArg (λx=>some (PyData.str x)) (zkn h2.2.1)))) hCm) rfl)) (zj (ρ2:=List.set _ 3 (some (.d (.list ((C.map λx=> .str (zw x))++[.str (zw (T.drop p))]))))) rfl (zT (za0 (zeQ rfl (zaa rfl) hj)))))
   ·have hj:=zlr (C:=C) (zv (Nat.add_le_add (zv (Nat.le_add_right _ _) hs) hC) (by decide))
    rw [<-List.append_nil C.flatten,<-List.drop_eq_nil_of_le (Nat.not_lt.mp hp),g3] at hj
    exact I11 _ (zj (zaV (t_b (zV rfl (zeR rfl (if_pos hb)) (congrArg some (decide_eq_false λh=>hp (Int.ofNat_lt.mp h))))) rfl) (zj (ρ2:=List.set _ 3 (some (.d (.list (C.map λx=> .str (zw x)))))) rfl (zT (za0 (zeQ rfl (zaa rfl) hj)))))
 ·rw [decide_eq_false hq] at hc
  exact za (zdN T false hq) (zbG h8 rfl (zT (zb5 (t_b (zV rfl rfl (congrArg (λb=>some (!b)) hc))) (zT (za0 rfl)))))
def paR (T:List Nat) (k:Int) (v2 v3:Option PV) (tl:Rho):Rho:=some (.d (.str (zw T)))::some (.d (.int k))::v2::v3::tl
noncomputable def zfr:List PS:=[.iff (.cmp .Eq (.v 3) (.c (.str "("))) [.aug 1 .Add (.c (.int 1))] [.iff (.cmp .Eq (.v 3) (.c (.str ")"))) [.aug 1 .Sub (.c (.int 1)),.iff (.cmp .Lt (.v 1) (.c (.int 0))) [.ret (.c (.bool false))] []] []]]
section
variable {tbl:Nat ->Option Fn} {n:Nat} {T:List Nat} {tl:Rho} {v2 v3:Option PV} {k:Int}
theorem zhn {i:Nat} {s:List Nat} (h:(zw s==zw [40])=false) (h':(zw s==zw [41])=false):
  (run tbl (n+8)).blk (paR T k (some (.d (.int (i:Int)))) (some (.d (.str (zw s)))) tl) zfr=some (paR T k (some (.d (.int (i:Int)))) (some (.d (.str (zw s)))) tl,.next):=by
 exact zj (zaV (t_b (zV rfl rfl (congrArg some h))) (zj (zaV (t_b (zV rfl rfl (congrArg some h'))) rfl) rfl)) rfl
theorem zqW {i:Nat}:
  (run tbl (n+8)).blk (paR T k (some (.d (.int (i:Int)))) (some (.d (.str (zw [40])))) tl) zfr=some (paR T (k+1) (some (.d (.int (i:Int)))) (some (.d (.str (zw [40])))) tl,.next):=rfl
theorem zqX {i:Nat} (h:¬k-1<0):
  (run tbl (n+8)).blk (paR T k (some (.d (.int (i:Int)))) (some (.d (.str (zw [41])))) tl) zfr=some (paR T (k-1) (some (.d (.int (i:Int)))) (some (.d (.str (zw [41])))) tl,.next):=
 zj (zaV rfl (zj (zb5 rfl (zj (zdr rfl rfl rfl rfl) (zj (zaV (t_b (zV rfl rfl (congrArg some (decide_eq_false h)))) rfl) rfl))) rfl)) rfl
theorem ztg {i:Nat} (h:k-1<0):
  (run tbl (n+8)).blk (paR T k (some (.d (.int (i:Int)))) (some (.d (.str (zw [41])))) tl) zfr=some (paR T (k-1) (some (.d (.int (i:Int)))) (some (.d (.str (zw [41])))) tl,.ret (.bool false)):=
 zT (zaV rfl (zT (zb5 rfl (zj (zdr rfl rfl rfl rfl) (zT (zb5 (t_b (zV rfl rfl (congrArg some (decide_eq_true h)))) (zT rfl)))))))
def zls (tbl:Nat ->Option Fn) (n:Nat) (T:List Nat) (tl:Rho) (xs:List PyData) (ρ:Rho) (b:Bool):Prop:=
 ∃k' v2' v3' f,zbF (run tbl (n+8)) (.t [.v 2,.v 3]) zfr [] xs ρ=some (paR T k' v2' v3' tl,f)/\ ((f= .next/\ b=(k'==0)) \/(f= .ret (.bool false)/\ b=false))
theorem zeX {x:PyData} {xs:List PyData} {ρ ρ1 ρ2:Rho} {b:Bool} (h:zaz (.t [.v 2,.v 3]) x ρ=some ρ1) (hb:(run tbl (n+8)).blk ρ1 zfr=some (ρ2,.next)) (D:zls tbl n T tl xs ρ2 b):zls tbl n T tl (x::xs) ρ b:=
 E42 D λk v w f h1 h2=>I42 k v w f ((zab h hb).trans h1) h2
theorem zqY:∀(r:List Nat) (i:Nat) (esc:Bool) (k:Int) (v2 v3:Option PV),zls tbl n T tl ((zdS r i esc).map zlq) (paR T k v2 v3 tl) (zbC r esc k):=by
 intro r
 induction r with
 |nil=>
  intro i esc k v2 v3
  induction esc with
  |false=>exact I42 k v2 v3 .next rfl (.inl ⟨rfl,rfl⟩)
  |true=>exact zeX rfl (zhn (s:=[92]) (by rw [zeV];rfl) (by rw [zeV];rfl)) (I42 k _ _ .next rfl (.inl ⟨rfl,rfl⟩))
 |cons c r ih=>
  intro i esc k v2 v3
  induction esc with
  |true=>exact zeX rfl (zhn (zjc _ _ _) (zjc _ _ _)) (ih (i+1) false k (some (.d (.int (i:Int)))) (some (.d (.str (zw [92,c])))))
  |false=>
   by_cases c92:c=92
   ·subst c92
    exact ih (i+1) true k v2 v3
   ·refine za (show zdS (c::r) i false=(i,[c])::zdS r (i+1) false from if_neg c92) ?_
    by_cases c40:c=40
    ·subst c40
     exact zeX rfl zqW (ih (i+1) false (k+1) (some (.d (.int (i:Int)))) (some (.d (.str (zw [40])))))
    ·by_cases c41:c=41
     ·subst c41
      by_cases hk:k-1<0
      ·exact I42 (k-1) (some (.d (.int (i:Int)))) (some (.d (.str (zw [41])))) (.ret (.bool false)) (zkg rfl (ztg hk)) (.inr ⟨rfl,if_pos (α:=Bool) hk⟩)
      ·exact za (show zbC (41::r) false k=zbC r false (k-1) from if_neg hk) (zeX rfl (zqX hk) (ih (i+1) false (k-1) (some (.d (.int (i:Int)))) (some (.d (.str (zw [41]))))))
     ·refine za (show zbC (c::r) false k=zbC r false k from (if_neg c92).trans ((if_neg c40).trans (if_neg c41))) ?_
      exact zeX rfl (zhn (by rw [zeV];exact decide_eq_false c40) (by rw [zeV];exact decide_eq_false c41)) (ih (i+1) false k (some (.d (.int (i:Int)))) (some (.d (.str (zw [c])))))
end
theorem zko {tbl:Nat ->Option Fn} (h8:tbl 8=some (.code 1 60 One1.strB)) (h9:tbl 9=some (.code 1 60 One1.parB)) {T:List Nat} {n:Nat} (hT:T.length<=1000) (he:zc3 T false false=false):
  (run tbl (n+20)).call 9 [.str (zw T)]=some (.bool (zbC (zaw T false false) false 0)):=by
 have hs:=zpe (n:=n+5) h8 hT he
 have hk:=zb3 T false false
 generalize zaw T false false=K at hs hk
 have hb:K.length<=big:=zv (zv hk hT) (by decide)
 have hg:znx (.str (zw K))=some ((zdS K 0 false).map zlq):=(if_pos hb).trans (congrArg some (zo9 ..))
 refine E42 (zqY (tbl:=tbl) (n:=n+10) (T:=K) (tl:=List.replicate 57 none) K 0 false 0 none none) λk a b f h1 h2=>Or.elim h2 (λh2=>?_) λh2=>?_
 ·exact zbG h9 rfl (zj (zX (zan rfl hs)) (zj (zX rfl) (zj (zbB (zln rfl hg) (h1.trans (congrArg (λf=>some (_,f)) h2.1))) (zT (za0 (h2.2▸rfl))))))
 ·exact Eq.trans (zbG h9 rfl (zj (zX (zan rfl hs)) (zj (zX rfl) (zT (zbB (zln rfl hg) (h1.trans (congrArg (λf=>some (_,f)) h2.1))))))) (congrArg (λb=>some (PyData.bool b)) h2.2.symm)
namespace One1
theorem zcF {w b:Nat} (h:0<w) (k:w<=2*b):0<b:=Nat.pos_of_ne_zero λe=>by cases e;exact Nat.lt_irrefl 0 (Nat.lt_of_lt_of_le h k)
theorem zu5 {w b1 b2 a12 a3 q0:Nat} (hb2:b2<w) (hb1:w<=2*b1) (hq:q0<=w) (h1:q0*b1<=a12):(q0-2)*(b1*w+b2)<=a12*w+a3:=by
 by_cases h:q0<=2
 ·refine za (Nat.sub_eq_zero_of_le h) ?_;simp
 ·obtain ⟨k,rfl⟩:∃k,q0=k+2:=⟨q0-2,(Nat.sub_add_cancel (Nat.le_of_lt (Nat.lt_of_not_le h))).symm⟩
  have e1:(k+2)*b1*w<=a12*w:=Nat.mul_le_mul_right _ h1
  have e2:k*b2<=w*(2*b1):=Nat.mul_le_mul (zv (Nat.le_add_right k 2) hq) (zv (Nat.le_of_lt hb2) hb1)
  have e3:(k+2)*b1*w=k*(b1*w)+2*(b1*w):=by rw [Nat.mul_assoc,Nat.add_mul]
  have e4:w*(2*b1)=2*(b1*w):=by rw [Nat.mul_left_comm,Nat.mul_comm w]
  have e5:(k+2-2)*(b1*w+b2)=k*(b1*w)+k*b2:=by rw [Nat.add_sub_cancel,Nat.mul_add]
  exact za e5 (zv (Nat.add_le_add_left e2 _) (zv (Nat.le_of_eq (za e4 e3.symm)) (zv e1 (Nat.le_add_right _ _))))
theorem zu6 {w b1 b2 a12 a3:Nat} (hb1:0<b1) (ha3:a3<w):(a12*w+a3)/(b1*w+b2)<=a12/b1:=by
 have hw:0<w:=Nat.zero_lt_of_lt ha3
 rw [Nat.le_div_iff_mul_le hb1]
 have h:(a12*w+a3)/(b1*w+b2)*(b1*w+b2)<=a12*w+a3:=Nat.div_mul_le_self _ _
 generalize (a12*w+a3)/(b1*w+b2)=q at h |-
 have h2:q*b1*w<=a12*w+a3:=by
  have:q*(b1*w+b2)=q*b1*w+q*b2:=by rw [Nat.mul_add,Nat.mul_assoc]
  exact zv (Nat.le_add_right _ _) (this▸h)
 refine Nat.le_of_lt_succ (Nat.lt_of_mul_lt_mul_right (a:=w) ?_)
 have:(a12+1)*w=a12*w+w:=by rw [Nat.add_mul,Nat.one_mul]
 exact za this (Nat.lt_of_le_of_lt h2 (Nat.add_lt_add_left ha3 _))
noncomputable def zbz (w b1 a12:Nat):Nat:=if a12/w=b1 then w-1 else a12/b1
theorem zkp {w b1 b2 a12 a3:Nat} (hw:0<w) (hb2:b2<w) (hb1:w<=2*b1) (ha3:a3<w) (hA:a12*w+a3<(b1*w+b2)*w):
  zbz w b1 a12*b1<=a12/\ (a12*w+a3)/(b1*w+b2)<=zbz w b1 a12/\ zbz w b1 a12<=(a12*w+a3)/(b1*w+b2)+2:=by
 have hp:0<b1:=zcF hw hb1
 have hbp:0<b1*w+b2:=Nat.lt_of_lt_of_le (Nat.mul_pos hp hw) (Nat.le_add_right _ _)
 have ha:a12<b1*w+b2:=by
  exact Nat.lt_of_mul_lt_mul_right (a:=w) (Nat.lt_of_le_of_lt (Nat.le_add_right _ _) hA)
 have hd:a12/w<=b1:=by
  refine Nat.le_of_lt_succ ((Nat.div_lt_iff_lt_mul hw).mpr ?_)
  have:(b1+1)*w=b1*w+w:=by rw [Nat.add_mul,Nat.one_mul]
  exact za this (Nat.lt_trans ha (Nat.add_lt_add_left hb2 _))
 have key:zbz w b1 a12*b1<=a12/\ (a12*w+a3)/(b1*w+b2)<=zbz w b1 a12/\ zbz w b1 a12<=w:=by
  unfold zbz
  by_cases h:a12/w=b1
  ·refine za (if_pos h) ?_
   have h3:b1*w<=a12:=h▸Nat.div_mul_le_self _ _
   refine ⟨?_,?_,Nat.sub_le _ _⟩
   ·refine zv (Nat.mul_le_mul_right _ (Nat.sub_le w 1)) ?_
    rw [Nat.mul_comm];exact h3
   ·have:(a12*w+a3)/(b1*w+b2)<w:=by
     rw [Nat.div_lt_iff_lt_mul hbp,Nat.mul_comm w];exact hA
    exact Nat.le_sub_one_of_lt this
  ·refine za (if_neg h) ⟨Nat.div_mul_le_self _ _,zu6 hp ha3,?_⟩
   have:a12/b1<w:=by
    rw [Nat.div_lt_iff_lt_mul hp]
    have h2:a12/w<b1:=Nat.lt_of_le_of_ne hd h
    rw [Nat.div_lt_iff_lt_mul hw] at h2
    rw [Nat.mul_comm];exact h2
   exact Nat.le_of_lt this
 refine E03 key λk1 k2 k3=>?_
 clear key
 refine ⟨k1,k2,?_⟩
 have:=zu5 (a3:=a3) hb2 hb1 k3 k1
 rw [<-Nat.le_div_iff_mul_le hbp] at this
 exact Nat.sub_le_iff_le_add.mp this
end One1
namespace One1
noncomputable def I (i:Int):Option PV:=some (.d (.int i))
def r32 (a12 a3 b b1 b2 n q r:Int) (tl:Rho):Rho:=[I a12,I a3,I b,I b1,I b2,I n,I q,I r]++tl
noncomputable def wB:List PS:=[.aug 6 .Sub (.c (.int 1)),.aug 7 .Add (.v 2)]
noncomputable def wT:PE:= .cmp .Lt (.v 7) (.c (.int 0))
variable {tbl:Nat ->Option Fn} {m:Nat} {a12 a3 b b1 b2 n:Int} {tl:Rho}
theorem zr2 (q r:Int):zbZ (run tbl (m+2)) (r32 a12 a3 b b1 b2 n q r tl) wT=some (decide (r<0)):=rfl
theorem zth (q r:Int):(run tbl (m+2)).blk (r32 a12 a3 b b1 b2 n q r tl) wB=some (r32 a12 a3 b b1 b2 n (q-1) (r+b) tl,.next):=rfl
theorem zr3:∀(j k:Nat) (q r:Int),0<=r+j*b ->(∀i:Nat,i<j ->r+i*b<0) ->zd8 (run tbl (m+2)) wT wB (j+k+1) (r32 a12 a3 b b1 b2 n q r tl)=some (r32 a12 a3 b b1 b2 n (q-j) (r+j*b) tl,.next)
 |0,k,q,r,h,_=>by
  have h0:¬r<0:=by simpa using h
  rw [zd8,zr2]
  refine za (decide_eq_false h0) ?_
  simp
 |j+1,k,q,r,h,hi=>by
  have h0:r<0:=by simpa using hi 0 (Nat.succ_pos j)
  have e:∀i:Nat,(r+b)+i*b=r+((i+1:Nat):Int)*b:=λi=>by
   rw [Int.natCast_add,Int.add_mul]
   refine za Int.natCast_one ?_
   rw [Int.one_mul,Int.add_assoc,Int.add_comm b]
  refine za (show j+1+k+1=(j+k+1)+1 by lia) ?_
  rw [zd8,zr2]
  refine za (decide_eq_true h0) ?_
  rw [Option.bind_some]
  refine za (if_pos rfl) (bS (zth q r) ?_)
  dsimp only
  refine za (zr3 j k (q-1) (r+b) (by rw [e];exact h) (λi hij=>by rw [e];exact hi (i+1) (by lia))) ?_
  rw [e]
  exact za (show q-1-(j:Int)=q-((j+1:Nat):Int) by lia) rfl
end One1
namespace One1
theorem zje (a b:Nat):Builtin.bitAnd (a:Int) (b:Int)=((a&&&b:Nat):Int):=by
 unfold Builtin.bitAnd
 simp
theorem zmd (a k:Nat):Builtin.bitAnd (a:Int) ((2^k-1:Nat):Int)=((a%2^k:Nat):Int):=by
 rw [zje,Nat.and_two_pow_sub_one_eq_mod]
theorem zpf (a b:Nat):Builtin.bitOr (a:Int) (b:Int)=((a|||b:Nat):Int):=by
 have h:∀x:Nat,decide (0<=Builtin.bitNot (x:Int))=false:=λx=>decide_eq_false (by unfold Builtin.bitNot;lia)
 have e:∀x:Int,Builtin.bitNot (Builtin.bitNot x)=x:=λx=>by unfold Builtin.bitNot;lia
 unfold Builtin.bitOr Builtin.bitAnd
 rw [h,h]
 dsimp only
 rw [e,e,e];simp
theorem zpg {a b k:Nat} (h:b<2^k):Builtin.bitOr ((a:Int)*2^k) (b:Int)=(a:Int)*2^k+b:=by
 have:=zpf (a*2^k) b
 rw [Nat.mul_comm a,<-Nat.two_pow_add_eq_or_of_lt h] at this
 refine za (show (a:Int)*2^k=((2^k*a:Nat):Int) by push_cast;rw [Int.mul_comm]) ?_
 refine za this ?_
 push_cast;rfl
theorem zch (a k:Nat):zaZ .RShift (.int (a:Int)) (.int (k:Int))=some (.int ((a/2^k:Nat):Int)):=by
 show (if (0:Int)<=(k:Int) then some (PyData.int ((a:Int).fdiv (2^(k:Int).toNat))) else none)=_
 refine za (if_pos (Int.natCast_nonneg k)) ?_
 rw [Int.toNat_natCast]
 refine za (Int.fdiv_eq_ediv_of_nonneg _ (Int.le_of_lt (Int.pow_pos (by decide)))) ?_
 push_cast;rfl
end One1
namespace One1
variable {tbl:Nat ->Option Fn} {m:Nat} {tl:Rho}
theorem zqZ {a b:Nat} (h:zo (a:Int)+zo (b:Int)<=2^27):zaZ .Mult (.int (a:Int)) (.int (b:Int))=some (.int ((a*b:Nat):Int)):=by
 show (if zo (a:Int)+zo (b:Int)<=2^27 then some (PyData.int ((a:Int)*(b:Int))) else none)=_
 refine za (if_pos h) ?_;push_cast;rfl
theorem zti {A12 A3 B1 B2 N q0 r0:Nat} (hb2:B2<2^N) (hb1:2^N<=2*B1) (ha3:A3<2^N) (hA:A12*2^N+A3<(B1*2^N+B2)*2^N)
  (hq:q0=zbz (2^N) B1 A12) (hr:r0=A12-q0*B1) (hs1:zo (r0:Int)<=2^24) (hs2:N<=2^24) (hs3:zo (q0:Int)+zo (B2:Int)<=2^27):
  ∃ρ',zE (run tbl (m+6)) (zi9.drop 1) (r32 A12 A3 ((B1*2^N+B2:Nat):Int) B1 B2 N q0 r0 tl)=
   some (ρ',.ret (.tuple [.int (((A12*2^N+A3)/(B1*2^N+B2):Nat):Int),.int (((A12*2^N+A3)% (B1*2^N+B2):Nat):Int)])):=by
 have hw:0<2^N:=Nat.two_pow_pos N
 refine E03 (zkp hw hb2 hb1 ha3 hA) λg1 g2 g3=>?_
 rw [<-hq] at g1 g2 g3
 have hbp:0<B1*2^N+B2:=Nat.lt_of_lt_of_le (Nat.mul_pos (zcF hw hb1) hw) (Nat.le_add_right _ _)
 generalize hAe:A12*2^N+A3=A at *
 generalize hBe:B1*2^N+B2=B at *
 have hR:(r0:Int)*2^N+A3-((q0*B2:Nat):Int)=(A:Int)-q0*B:=by
  refine za hr (zF hAe ?_)
  refine zF hBe (za (Int.natCast_sub g1) ?_)
  push_cast
  rw [Int.sub_mul,Int.mul_add,Int.mul_assoc]
  lia
 have st:zg (run tbl (m+6)) (r32 A12 A3 (B:Int) B1 B2 N q0 r0 tl) (.asg (.v 7) (.bin .Sub (.bin .BitOr (.bin .LShift (.v 7) (.v 5)) (.v 1)) (.bin .Mult (.v 6) (.v 4))))=some (r32 A12 A3 (B:Int) B1 B2 N q0 ((A:Int)-q0*B) tl,.next):=by
  refine zX (zr (zr (zr (x:= .int r0) (y:= .int N) rfl rfl (zco hs1 hs2)) (y:= .int A3) rfl (congrArg (λz=>some (PyData.int z)) (zpg ha3))) (zr (x:= .int q0) (y:= .int B2) rfl rfl (zqZ hs3)) (congrArg (λz=>some (PyData.int z)) hR))
 obtain ⟨j,hj,hj2⟩:∃j:Nat,q0=A/B+j/\ j<=2:=⟨q0-A/B,(Nat.add_sub_cancel' g2).symm,Nat.sub_le_iff_le_add'.mpr g3⟩
 have hm:(A:Int)=(A/B:Nat)*B+(A%B:Nat):=by
  have:=Nat.div_add_mod A B
  rw [Nat.mul_comm] at this
  exact_mod_cast this.symm
 have hlt:((A%B:Nat):Int)<B:=by exact_mod_cast Nat.mod_lt A hbp
 have er:∀i:Int,(A:Int)-q0*B+i*B=(A%B:Nat)-(j-i)*B:=λi=>by
  refine za hm (za hj ?_)
  push_cast
  rw [Int.add_mul,Int.sub_mul]
  lia
 have hend:(A:Int)-q0*B+j*B=(A%B:Nat):=by rw [er];simp
 have wh:zg (run tbl (m+6)) (r32 A12 A3 (B:Int) B1 B2 N q0 ((A:Int)-q0*B) tl) (.whl wT wB)=some (r32 A12 A3 (B:Int) B1 B2 N ((A/B:Nat):Int) ((A%B:Nat):Int) tl,.next):=by
  have k:=zr3 (tbl:=tbl) (m:=m+4) (a12:=A12) (a3:=A3) (b:=B) (b1:=B1) (b2:=B2) (n:=N) (tl:=tl) j (5-j) q0 ((A:Int)-q0*B) (by refine za hend ?_;exact Int.natCast_nonneg _) (λi hi=>by
   rw [er]
   have h1:(1:Int)*B<=((j:Int)-i)*B:=Int.mul_le_mul_of_nonneg_right (by lia) (Int.natCast_nonneg _)
   exact Int.sub_neg_of_lt (Int.lt_of_lt_of_le hlt (Int.le_trans (Int.le_of_eq (Int.one_mul _).symm) h1)))
  rw [show j+(5-j)+1=6 from congrArg (· +1) (Nat.add_sub_cancel' (zv hj2 (by decide))),hend,show (q0:Int)-j=((A/B:Nat):Int) by lia] at k
  exact k
 exact ⟨_,zj st (zj wh (zT (za0 rfl)))⟩
end One1
namespace One1
variable {tbl:Nat ->Option Fn} {m:Nat}
theorem ztj (h2:tbl 2=some (.code 6 60 zi9)) {A12 A3 B1 B2 N:Nat} (hB1:B1<2^N) (hb2:B2<2^N) (hb1:2^N<=2*B1) (ha3:A3<2^N) (hA:A12*2^N+A3<(B1*2^N+B2)*2^N)
  (hN:N<=2^20) (hA12:A12<2^(2*N)) (hc:A12/2^N≠B1 ->(run tbl (m+4)).call 1 [.int A12,.int B1,.int N]=some (.tuple [.int ((A12/B1:Nat):Int),.int ((A12%B1:Nat):Int)])):
  (run tbl (m+8)).call 2 [.int A12,.int A3,.int ((B1*2^N+B2:Nat):Int),.int B1,.int B2,.int N]=
   some (.tuple [.int (((A12*2^N+A3)/(B1*2^N+B2):Nat):Int),.int (((A12*2^N+A3)% (B1*2^N+B2):Nat):Int)]):=by
 have hw:0<2^N:=Nat.two_pow_pos N
 refine E03 (zkp hw hb2 hb1 ha3 hA) λg1 g2 g3=>?_
 have hq:zbz (2^N) B1 A12<2^(2*N+1):=by
  have h1:zbz (2^N) B1 A12<=zbz (2^N) B1 A12*B1:=Nat.le_mul_of_pos_right _ (zcF hw hb1)
  have:2^(2*N)<=2^(2*N+1):=Nat.pow_le_pow_right (by decide) (Nat.le_succ _)
  exact Nat.lt_of_le_of_lt (zv h1 g1) (Nat.lt_of_lt_of_le hA12 this)
 have hs1:zo ((A12-zbz (2^N) B1 A12*B1:Nat):Int)<=2^24:=zv (zam (m:=2*N) (Nat.lt_of_le_of_lt (Nat.sub_le _ _) hA12)) (by lia)
 have hs3:zo ((zbz (2^N) B1 A12:Nat):Int)+zo (B2:Int)<=2^27:=by
  have a:=zam hq
  have b:=zam hb2
  lia
 refine zO (zti (tbl:=tbl) (m:=m) (tl:=List.replicate 58 none) hb2 hb1 ha3 hA rfl rfl hs1 (by lia) hs3) λρ' ht=>?_
 refine zbG (n:=m+6) h2 rfl (ρ':=ρ') (zj ?_ ht)
 have tst:zbZ (run tbl (m+6)) ([.int A12,.int A3,.int ((B1*2^N+B2:Nat):Int),.int B1,.int B2,.int N].map (λd=>some (PV.d d))++List.replicate 60 none) (.cmp .Eq (.bin .RShift (.v 0) (.v 5)) (.v 3))=some (((A12/2^N:Nat):Int)==(B1:Int)):=
  t_b (zV (n:=m+5) (x:= .int ((A12/2^N:Nat):Int)) (y:= .int B1) (zr (n:=m+4) (x:= .int A12) (y:= .int N) rfl rfl (zch A12 N)) rfl rfl)
 by_cases h:A12/2^N=B1
 ·have hg:zbz (2^N) B1 A12=2^N-1:=by unfold zbz;exact za (if_pos h) rfl
  rw [hg] at g1 |-
  have e1:(1:Int)*2^N-1=((2^N-1:Nat):Int):=by
   refine za (Int.natCast_sub (by lia)) ?_;push_cast;rw [Int.one_mul]
  have e2:(A12:Int)-(B1:Int)*2^N+B1=((A12-(2^N-1)*B1:Nat):Int):=by
   refine za (Int.natCast_sub g1) ?_
   rw [Int.natCast_mul]
   refine za (Int.natCast_sub (by lia)) ?_
   rw [Int.sub_mul,Int.mul_comm (B1:Int)]
   push_cast
   lia
  refine zb5 (by refine za tst ?_;refine za h ?_;exact congrArg some (beq_self_eq_true _)) (zj (zeS (ds:=[.int ((2^N-1:Nat):Int),.int ((A12-(2^N-1)*B1:Nat):Int)]) (zap ?_ (zaa ?_)) rfl) rfl)
  ·exact zr (n:=m+4) (zr (n:=m+3) (x:= .int 1) (y:= .int N) rfl rfl (zco (by decide) (by lia))) (y:= .int 1) rfl (congrArg (λz=>some (PyData.int z)) e1)
  ·have hb:zo (B1:Int)<=2^24:=zv (zam hB1) (by lia)
   exact zr (n:=m+4) (zr (n:=m+3) (x:= .int A12) rfl (zr (n:=m+2) (x:= .int B1) (y:= .int N) rfl rfl (zco hb (by lia))) rfl) (y:= .int B1) rfl (congrArg (λz=>some (PyData.int z)) e2)
 ·have hg:zbz (2^N) B1 A12=A12/B1:=by unfold zbz;exact za (if_neg h) rfl
  refine zaV (by refine za tst ?_;exact congrArg some (beq_eq_false_iff_ne.mpr (by lia))) (zj (zek (zan (n:=m+4) rfl (hc h)) rfl) ?_)
  refine za hg ?_
  have e:A12-A12/B1*B1=A12%B1:=Nat.sub_eq_of_eq_add (Nat.mod_add_div' A12 B1).symm
  refine za e ?_;rfl
end One1
namespace One1
theorem ztk {a b n:Nat} (hb0:0<b) (hb:2^(n-1)<=b) (h:a<2^(n+4000)):Builtin.divisionGoesByPylong (a:Int) (b:Int)=false:=by
 have l2:n-1<=b.log2:=(Nat.le_log2 (by lia)).mpr hb
 unfold Builtin.divisionGoesByPylong
 have hb1:((b:Int)==0)=false:=beq_eq_false_iff_ne.mpr (by lia)
 simp only [hb1,Int.natAbs_natCast]
 by_cases ha:a=0
 ·subst ha
  simp
 ·have l1:a.log2<n+4000:=(Nat.log2_lt ha).mpr h
  have ha1:((a:Int)==0)=false:=beq_eq_false_iff_ne.mpr (by lia)
  simp only [ha1]
  rw [Bool.and_eq_false_iff]
  refine .inr (decide_eq_false ?_)
  have k:a.log2<=b.log2+150*30:=zv (Nat.le_of_lt_succ (Nat.lt_of_lt_of_le l1 (zv (Nat.add_le_add_right (Nat.sub_le_iff_le_add.mp l2) 4000) (Nat.le_of_eq (Nat.add_right_comm _ 1 4000))))) (Nat.add_le_add_left (by decide) _)
  have k:=zv (Nat.div_le_div_right (c:=30) k) (Nat.le_of_eq (Nat.add_mul_div_right _ 150 (by decide)))
  simp only [Bool.false_eq_true,if_false]
  exact Nat.not_lt.mpr (zv (Nat.add_le_add_right k 1) (Nat.le_of_eq (Nat.add_right_comm _ 150 1)))
theorem zlt {a b n:Nat} (hb0:0<b) (hb:2^(n-1)<=b) (h:a<2^(n+4000)):biD .divmod [.int a,.int b]=some (.tuple [.int ((a/b:Nat):Int),.int ((a%b:Nat):Int)]):=by
 show (if (b:Int)≠0/\ Builtin.divisionGoesByPylong a b=false then some (PyData.tuple [.int ((a:Int).fdiv b),.int ((a:Int).fmod b)]) else none)=_
 refine za (if_pos ⟨by omega,ztk hb0 hb h⟩) (za (Int.fdiv_eq_ediv_of_nonneg _ (Int.natCast_nonneg _)) ?_)
 refine za (Int.fmod_eq_emod_of_nonneg _ (Int.natCast_nonneg _)) ?_
 rfl
end One1
namespace One1
variable {tbl:Nat ->Option Fn} {m:Nat}
theorem zme (a b n:Nat) (tl:Rho):zbZ (run tbl (m+4)) ([.int a,.int b,.int n].map (λd=>some (PV.d d))++tl) (.cmp .LtE (.bin .Sub (.me .bitLength (.v 0) []) (.v 2)) (.c (.int 4000)))=some (decide (((zo (a:Int):Nat):Int)-(n:Int)<=4000)):=
 t_b (zV (n:=m+3) (x:= .int (((zo (a:Int):Nat):Int)-(n:Int))) (y:= .int 4000) (zr (n:=m+2) (x:= .int ((zo (a:Int):Nat):Int)) (y:= .int n) (zeQ (n:=m+1) (x:= .int a) (xs:=[]) rfl rfl rfl) rfl rfl) rfl rfl)
theorem zil (h1:tbl 1=some (.code 3 60 zfq)) {a b n:Nat} (hb0:0<b) (hb:2^(n-1)<=b) (h:zo (a:Int)<=n+4000):
  (run tbl (m+6)).call 1 [.int a,.int b,.int n]=some (.tuple [.int ((a/b:Nat):Int),.int ((a%b:Nat):Int)]):=by
 have ha:a<2^(n+4000):=Nat.lt_of_lt_of_le (zf9 a) (Nat.pow_le_pow_right (by decide) h)
 refine zbG (n:=m+4) h1 rfl (zT (zb5 (n:=m+3) ?_ (zT (za0 (d:= .tuple [.int ((a/b:Nat):Int),.int ((a%b:Nat):Int)]) ?_))))
 ·refine (zme (m:=m) a b n _).trans ?_
  exact za (decide_eq_true (by lia)) rfl
 ·exact bS (x:=[PyData.int a,PyData.int b]) rfl (zlt hb0 hb ha)
end One1
namespace One1
variable {tbl:Nat ->Option Fn} {m:Nat}
theorem zeY {n:Nat} (h:0<n):2^(n-1)*2=2^n:=(Nat.pow_succ ..).symm.trans (congrArg (2^ ·) (Nat.succ_pred_eq_of_pos h))
theorem zph {r B W m:Nat} (hr:r<B) (hm:m<W):r*W+m<B*W:=Nat.lt_of_lt_of_le (Nat.add_lt_add_left hm _) (zv (Nat.le_of_eq (Nat.succ_mul r W).symm) (Nat.mul_le_mul_right W hr))
def zu7 (a b n p:Nat):Rho:=[I a,I b,I n,I p]++List.replicate 59 none
theorem zpi {a b n:Nat} (ha:zo (a:Int)<=2^24) (hb:zo (b:Int)<=2^24) (h:¬zo (a:Int)<=n+4000) {o:Option (Rho×Fl)}
  (k:zE (run tbl (m+6)) (zfq.drop 3) (zu7 (a*2^(n%2)) (b*2^(n%2)) (n+n%2) (n%2))=o):
  zE (run tbl (m+6)) zfq ([.int a,.int b,.int n].map (λd=>some (PV.d d))++List.replicate 60 none)=o:=by
 refine zj (zaV ((zme (m:=m+2) a b n _).trans (by exact za (decide_eq_false (by lia)) rfl)) rfl) (zj (zX (d:= .int ((n%2:Nat):Int)) (zr (n:=m+5) (x:= .int n) (y:= .int 1) rfl rfl (congrArg (λz=>some (PyData.int z)) (zmd n 1)))) ?_)
 rcases Nat.mod_two_eq_zero_or_one n with e|e
 ·rw [e] at k |-
  rw [Nat.pow_zero,Nat.mul_one,Nat.mul_one] at k
  exact zj (zaV (t_d rfl rfl) rfl) k
 ·rw [e] at k |-
  have s:∀z:Nat,zo (z:Int)<=2^24 ->zaZ .LShift (.int z) (.int 1)=some (.int ((z*2^1:Nat):Int)):=λz hz=>(zco (k:=1) hz (by decide)).trans (by push_cast;rfl)
  exact zj (zb5 (t_d rfl rfl) (zj (zdr (x:=a) (y:=1) rfl rfl rfl (s a ha)) (zj (zdr (x:=b) (y:=1) rfl rfl rfl (s b hb)) (zj (zmb (x:=n) (y:=1) rfl rfl) rfl)))) k
theorem zpj {a b w n p q1 r1 q2 r2:Nat} (hw:w<=2^20) (hn:n=2*w) (hp:p<=1) (hb:b<2^n) (hq:q2<2^w) (hq1:zo (q1:Int)<=2^24)
  (h1:(run tbl (m+5)).call 2 [.int ((a/2^n:Nat):Int),.int ((a/2^w%2^w:Nat):Int),.int b,.int ((b/2^w:Nat):Int),.int ((b%2^w:Nat):Int),.int w]=some (.tuple [.int q1,.int r1]))
  (h2:(run tbl (m+5)).call 2 [.int r1,.int ((a%2^w:Nat):Int),.int b,.int ((b/2^w:Nat):Int),.int ((b%2^w:Nat):Int),.int w]=some (.tuple [.int q2,.int r2])):
  ∃ρ',zE (run tbl (m+6)) (zfq.drop 3) (zu7 a b n p)=some (ρ',.ret (.tuple [.int ((q1*2^w+q2:Nat):Int),.int ((r2/2^p:Nat):Int)])):=by
 have e1:n/2^1=w:=za hn (Nat.mul_div_cancel_left w (by decide))
 have e2:(1:Int)*2^w-1=((2^w-1:Nat):Int):=by
  refine za (Int.natCast_sub (Nat.two_pow_pos w)) ?_;push_cast;rw [Int.one_mul]
 have ml:∀z:Nat,zaZ .BitAnd (.int z) (.int ((2^w-1:Nat):Int))=some (.int ((z%2^w:Nat):Int)):=λz=>congrArg (λz=>some (PyData.int z)) (zmd z w)
 have t1:=zan (es:=[(.bin .RShift (.v 0) (.v 2)),(.bin .BitAnd (.bin .RShift (.v 0) (.v 4)) (.v 5)),(.v 1),(.v 6),(.v 7),(.v 4)]) (n:=m+5) (ρ:=[I a,I b,I n,I p,I w,I ((2^w-1:Nat):Int),I ((b/2^w:Nat):Int),I ((b%2^w:Nat):Int)]++List.replicate 55 none)
  (zap (zr (n:=m+4) rfl rfl (zch a n)) (zap (zr (n:=m+4) (zr (n:=m+3) rfl rfl (zch a w)) rfl (ml _)) rfl)) h1
 have t2:=zan (es:=[(.v 9),(.bin .BitAnd (.v 0) (.v 5)),(.v 1),(.v 6),(.v 7),(.v 4)]) (n:=m+5) (ρ:=[I a,I b,I n,I p,I w,I ((2^w-1:Nat):Int),I ((b/2^w:Nat):Int),I ((b%2^w:Nat):Int),I q1,I r1]++List.replicate 53 none)
  (zap rfl (zap (zr (n:=m+4) rfl rfl (ml _)) rfl)) h2
 have f:∀(z:Nat) (ρ:Rho),ρ[8]?=some (I q1) ->ρ[9]?=some (I z) ->ρ[10]?=some (I q2) ->ρ[4]?=some (I w) ->zg (run tbl (m+6)) ρ (.ret (.tup [(.bin .BitOr (.bin .LShift (.v 8) (.v 4)) (.v 10)),(.v 9)]))=some (ρ,.ret (.tuple [.int ((q1*2^w+q2:Nat):Int),.int z])):=λz ρ g1 g2 g3 g4=>by
  have g:∀{i:Nat} {z:Nat} {k:Nat},ρ[i]?=some (I z) ->(run tbl (k+1)).ex ρ (.v i)=some (.int z):=λg=>by refine za zs6 ?_;refine za g ?_;rfl
  refine za0 (zfM (zap (zr (n:=m+4) (op:= .BitOr) (x:= .int ((q1:Int)*2^w)) (zr (n:=m+3) (op:= .LShift) (g g1) (g g4) (zco hq1 (by lia))) (g g3) (congrArg (λz=>some (PyData.int z)) (zpg hq))) (zaa (g g2))))|>.trans (by push_cast;rfl)
 have k:∀ρ:Rho,ρ[3]?=some (I p) ->ρ[8]?=some (I q1) ->ρ[9]?=some (I r2) ->ρ[10]?=some (I q2) ->ρ[4]?=some (I w) ->9<ρ.length ->∃ρ',zE (run tbl (m+6)) (zfq.drop 8) ρ=some (ρ',.ret (.tuple [.int ((q1*2^w+q2:Nat):Int),.int ((r2/2^p:Nat):Int)])):=λρ g3 g8 g9 g10 g4 gl=>by
  have g:∀{k:Nat},(run tbl (k+1)).ex ρ (.v 3)=some (.int p):=by intro k;refine za zs6 ?_;refine za g3 ?_;rfl
  rcases Nat.le_one_iff_eq_zero_or_eq_one.mp hp with e|e
  ·subst e
   rw [Nat.pow_zero,Nat.div_one]
   exact ⟨_,zj (zaV (t_d g rfl) rfl) (zT (f r2 ρ g8 g9 g10 g4))⟩
  ·subst e
   exact ⟨_,zj (zb5 (t_d g rfl) (zj (zdr (x:=r2) (y:=1) (by unfold zhL;refine za g9 ?_;rfl) rfl rfl (zch r2 1)) rfl)) (zT (f (r2/2^1) _ (List.getElem?_set_ne (by decide)|>.trans g8) (List.getElem?_set_self gl) (List.getElem?_set_ne (by decide)|>.trans g10) (List.getElem?_set_ne (by decide)|>.trans g4)))⟩
 refine zO (k ([I a,I b,I n,I p,I w,I ((2^w-1:Nat):Int),I ((b/2^w:Nat):Int),I ((b%2^w:Nat):Int),I q1,I r2,I q2]++List.replicate 52 none) rfl rfl rfl rfl rfl (by simp)) λρ' hk=>?_
 refine ⟨ρ',zj (zX (d:= .int w) (zr (n:=m+5) (x:= .int n) (y:= .int 1) rfl rfl ((zch n 1).trans (by exact za e1 rfl)))) (zj (zX (d:= .int ((2^w-1:Nat):Int)) (zr (n:=m+5) (zr (n:=m+4) (x:= .int 1) (y:= .int w) rfl rfl (zco (by decide) (by lia))) (y:= .int 1) rfl (congrArg (λz=>some (PyData.int z)) e2)))
  (zj (zeS (zap (zr (n:=m+5) (x:= .int b) (y:= .int w) rfl rfl (zch b w)) (zaa (zr (n:=m+5) (x:= .int b) rfl rfl (ml b)))) rfl) (zj (zek t1 rfl) (zj (zek t2 rfl) hk))))⟩
theorem zim {A B W:Nat} (hB:0<B):A/B=A/W/B*W+(A/W%B*W+A%W)/B/\ A%B=(A/W%B*W+A%W)%B:=by
 have e:A=(A/W%B*W+A%W)+B*(A/W/B*W):=by
  have h1:=Nat.div_add_mod A W
  have h2:=congrArg (· *W) (Nat.div_add_mod (A/W) B)
  simp only [Nat.add_mul,Nat.mul_assoc] at h2
  rw [Nat.mul_comm] at h1
  exact h1.symm.trans ((congrArg (· +A%W) h2.symm).trans ((Nat.add_assoc ..).trans (Nat.add_comm ..)))
 exact ⟨by conv=>lhs;rw [e,Nat.add_mul_div_left _ _ hB,Nat.add_comm],by conv=>lhs;rw [e,Nat.add_mul_mod_self_left]⟩
theorem ztl (h1:tbl 1=some (.code 3 60 zfq)) (h2:tbl 2=some (.code 6 60 zi9)):∀(k:Nat) {a b n:Nat} (m:Nat),n<=4000*2^k ->n<=2^20 ->0<n ->a<b*2^n ->2^n<=2*b ->b<2^n ->
  (run tbl (8*k+m+6)).call 1 [.int a,.int b,.int n]=some (.tuple [.int ((a/b:Nat):Int),.int ((a%b:Nat):Int)]):=by
 intro k
 induction k with
 |zero=>
  intro a b n m hk hn h0 ha hb hb2
  have p1:=zeY h0
  refine zil h1 (by lia) (by lia) (zv (zam (m:=n+n) ?_) (by lia))
  rw [Nat.pow_add]
  exact Nat.lt_of_lt_of_le ha (Nat.mul_le_mul_right _ (Nat.le_of_lt hb2))
 |succ k ih=>
  intro a b n m hk hn h0 ha hb hb2
  have p1:=zeY h0
  have ba:zo (a:Int)<=n+n:=zam (by rw [Nat.pow_add];exact Nat.lt_of_lt_of_le ha (Nat.mul_le_mul_right _ (Nat.le_of_lt hb2)))
  by_cases hs:zo (a:Int)<=n+4000
  ·exact zil (m:=8*(k+1)+m) h1 (by lia) (by lia) hs
  obtain ⟨w,hw⟩:∃w,n+n%2=2*w:=⟨n/2+n%2,by rw [Nat.mul_add,Nat.two_mul (n%2),<-Nat.add_assoc,Nat.div_add_mod]⟩
  have hwn:w<=n:=Nat.le_of_mul_le_mul_left (zv (Nat.le_of_eq hw.symm) (zv (Nat.add_le_add_left (Nat.mod_le n 2) n) (Nat.le_of_eq (Nat.two_mul n).symm))) (by decide:0<2)
  have hw0:0<w:=zcF (Nat.lt_of_lt_of_le h0 (Nat.le_add_right n (n%2))) (Nat.le_of_eq hw)
  have hp:n%2<=1:=Nat.le_of_lt_succ (Nat.mod_lt n (by decide))
  have hP:0<2^(n%2):=Nat.two_pow_pos _
  have hW:0<2^w:=Nat.two_pow_pos w
  have ew:2^(n+n%2)=2^w*2^w:=by refine za hw ?_;rw [Nat.two_mul,Nat.pow_add]
  have en:2^n*2^(n%2)=2^w*2^w:=by refine zF ew ?_;rw [Nat.pow_add]
  have nb:0<b:=zcF (Nat.two_pow_pos n) hb
  have hB2:b*2^(n%2)<2^w*2^w:=by refine zF en ?_;exact (Nat.mul_lt_mul_right hP).mpr hb2
  have hB3:2^w*2^w<=2*(b*2^(n%2)):=by refine zF en ?_;rw [<-Nat.mul_assoc];exact Nat.mul_le_mul_right _ hb
  have hA:a*2^(n%2)<b*2^(n%2)*2^w*2^w:=by
   rw [Nat.mul_assoc (b*2^(n%2))]
   refine zF en ?_
   rw [Nat.mul_right_comm b,<-Nat.mul_assoc,Nat.mul_assoc (b*2^n)]
   exact (Nat.mul_lt_mul_right hP).mpr ha|>λh=>Nat.lt_of_lt_of_le h (Nat.mul_le_mul_left _ (Nat.le_mul_of_pos_left _ hP))
  have eq:a/b=a*2^(n%2)/(b*2^(n%2)):=(Nat.mul_div_mul_right _ _ hP).symm
  have er:a%b=a*2^(n%2)% (b*2^(n%2))/2^(n%2):=by rw [Nat.mul_mod_mul_right];exact za (Nat.mul_div_cancel _ hP) rfl
  have hBp:0<b*2^(n%2):=Nat.mul_pos nb hP
  have sa:zo (a:Int)<=2^24:=by lia
  have sb:zo (b:Int)<=2^24:=zv (zam hb2) (by lia)
  suffices h:∃ρ',zE (run tbl (8*k+m+12)) zfq ([.int a,.int b,.int n].map (λd=>some (PV.d d))++List.replicate 60 none)=some (ρ',.ret (.tuple [.int ((a/b:Nat):Int),.int ((a%b:Nat):Int)])) from
   zO h λρ' h=>by refine za (show 8*(k+1)+m+6=8*k+m+12+2 by lia) ?_;exact zbG h1 rfl h
  refine za eq (za er ?_)
  have H:=λ{o}=> @zpi tbl (8*k+m+6) a b n sa sb (by lia) o
  generalize a*2^(n%2)=A at *
  generalize b*2^(n%2)=B at *
  have X:=zim (W:=2^w) (A:=A) hBp
  have hx:A/2^w<B*2^w:=(Nat.div_lt_iff_lt_mul hW).mpr hA
  have hr:A/2^w%B<B:=Nat.mod_lt _ hBp
  have hy:A/2^w%B*2^w+A%2^w<B*2^w:=zph hr (Nat.mod_lt A hW)
  have eB:B/2^w*2^w+B%2^w=B:=by rw [Nat.mul_comm];exact Nat.div_add_mod ..
  have eA:A/2^w/2^w*2^w+A/2^w%2^w=A/2^w:=by rw [Nat.mul_comm];exact Nat.div_add_mod ..
  have hB1:=(Nat.div_lt_iff_lt_mul hW).mpr hB2
  have hw2:2^w<=2*(B/2^w):=by
   have:2^w*2^w<(2*(B/2^w)+1+1)*2^w:=by
    have:=Nat.mod_lt B hW
    rw [Nat.add_mul,Nat.add_mul,Nat.mul_assoc,Nat.one_mul]
    refine Nat.lt_of_le_of_lt hB3 ?_
    rw [show 2*B=2*(B/2^w*2^w)+(B%2^w+B%2^w) by rw [<-Nat.two_mul,<-Nat.mul_add,eB],Nat.add_assoc]
    exact Nat.add_lt_add_left (Nat.add_lt_add this this) _
   have:=Nat.lt_of_mul_lt_mul_right this
   have e:=(Nat.mul_comm 2 (2^(w-1))).trans (zeY hw0)
   exact zv (Nat.le_of_eq e.symm) (Nat.mul_le_mul_left 2 (Nat.le_of_lt_succ (Nat.lt_of_mul_lt_mul_left (a:=2) (c:=B/2^w+1) (Nat.lt_of_le_of_lt (Nat.le_of_eq e) this))))
  have D:=λ{x y:Nat} (hx:x*2^w+y<B*2^w) (hy:y<2^w)=>by
   have hxB:x<B:=Nat.lt_of_mul_lt_mul_right (Nat.lt_of_le_of_lt (Nat.le_add_right _ y) hx)
   have d:=ztj (m:=8*k+m+3) h2 (A12:=x) (A3:=y) (B1:=B/2^w) (B2:=B%2^w) (N:=w) hB1 (Nat.mod_lt _ hW) hw2 hy (by refine za eB ?_;exact hx) (zv hwn hn) (by refine zF hw ?_;refine za ew ?_;exact Nat.lt_trans hxB hB2) (λhne=>
    ih (a:=x) (b:=B/2^w) (n:=w) (m+1) (by rw [Nat.pow_succ] at hk;lia) (zv hwn hn) hw0 ((Nat.div_lt_iff_lt_mul hW).mp (Nat.lt_of_le_of_ne (Nat.div_le_div_right (Nat.le_of_lt hxB)) hne)) hw2 hB1)
   rw [eB] at d
   exact d
  have D1:=D (x:=A/2^w/2^w) (y:=A/2^w%2^w) (by refine za eA ?_;exact hx) (Nat.mod_lt _ hW)
  rw [eA,Nat.div_div_eq_div_mul A,<-ew] at D1
  have hq1:A/2^w/B<2^w:=(Nat.div_lt_iff_lt_mul hBp).mpr (by rw [Nat.mul_comm];exact hx)
  refine zO (zpj (m:=8*k+m+6) (a:=A) (b:=B) (p:=n%2) (n:=n+n%2) (w:=w) (q1:=A/2^w/B) (r1:=A/2^w%B) (q2:=(A/2^w%B*2^w+A%2^w)/B) (r2:=(A/2^w%B*2^w+A%2^w)%B)
   (zv hwn hn) hw hp (by refine za ew ?_;exact hB2) ((Nat.div_lt_iff_lt_mul hBp).mpr (by refine za (Nat.mul_comm (2^w) B) ?_;exact hy)) (zv (zam hq1) (by lia)) D1 (D hy (Nat.mod_lt _ hW))) λρ' h=>?_
  refine za X.1 (za X.2 ?_)
  exact ⟨ρ',H h⟩
end One1
namespace One1
variable {tbl:Nat ->Option Fn} {m:Nat}
theorem zmf {f:Nat} {p:List PyData ->Option PyData} (h:tbl f=some (.prim p)) {xs:List PyData}:(run tbl (m+1)).call f xs=p xs:=by
 show zc8 tbl (run tbl m) f xs=_
 unfold zc8
 refine za h ?_;rfl
noncomputable def zjf (n:Nat) (xs:List Nat) (v:Nat):Nat:=xs.foldl (λv d=>v*2^n+d) v
noncomputable def dmB:List PS:=[.asg (.t [(.v 7),(.v 4)]) (.call 1 [(.bin .Add (.bin .LShift (.v 4) (.v 2)) (.v 6)),(.v 1),(.v 2)]),.app 5 (.v 7)]
def dmR (a b n:Nat) (ds:PyData) (r:Nat) (qs:List Nat) (x6 x7:Option PV):Rho:=[I a,I b,I n,some (.d ds),I r,some (.m (dI qs)),x6,x7]++List.replicate 54 none
theorem zq0 (h1:tbl 1=some (.code 3 60 zfq)) (h2:tbl 2=some (.code 6 60 zi9)) {a b n:Nat} {ds:PyData} (hn:n<=100000) (h0:0<n) (hb:2^n<=2*b) (hb2:b<2^n):
  ∀(xs:List Nat) (v:Nat) (qs:List Nat) (x6' x7':Option PV),(∀d∈xs,d<2^n) ->(∀d∈qs,d<2^n) ->zjf n qs 0=v/b ->xs.length+qs.length<=big ->
   ∃qs' x6 x7,zbF (run tbl (m+50)) (.v 6) dmB [] (dI xs) (dmR a b n ds (v%b) qs x6' x7')=some (dmR a b n ds (zjf n xs v%b) qs' x6 x7,.next)/\ (∀d∈qs',d<2^n)/\ zjf n qs' 0=zjf n xs v/b/\ qs'.length=xs.length+qs.length:=by
 have nb:0<b:=zcF (Nat.two_pow_pos n) hb
 have hW:0<2^n:=Nat.two_pow_pos n
 intro xs
 induction xs with
 |nil=>exact λv qs x6 x7 _ hq hv hl=>⟨qs,x6,x7,rfl,hq,hv,by simp⟩
 |cons d xs ih=>
  intro v qs x6 x7 hd hq hv hl
  have hd0:=hd d (List.mem_cons_self ..)
  have hr:=Nat.mod_lt v nb
  have hs:v%b*2^n+d<b*2^n:=zph hr hd0
  have X:(v*2^n+d)/b=v/b*2^n+(v%b*2^n+d)/b/\ (v*2^n+d)%b=(v%b*2^n+d)%b:=by
   have:=zim (A:=v*2^n+d) (W:=2^n) nb
   rw [Nat.add_comm (v*2^n),Nat.add_mul_div_right _ _ hW,Nat.add_mul_mod_self_right,Nat.div_eq_of_lt hd0,Nat.mod_eq_of_lt hd0,Nat.zero_add,Nat.add_comm d] at this
   exact this
  have c:=ztl h1 h2 5 (a:=v%b*2^n+d) (m+2) (by lia) (by lia) h0 hs hb hb2
  rw [show 8*5+(m+2)+6=m+48 by lia] at c
  have sh:zaZ .LShift (.int ((v%b:Nat):Int)) (.int (n:Int))=some (.int (((v%b:Nat):Int)*2^n)):=zco (zv (zam (Nat.lt_trans hr hb2)) (by lia)) (by lia)
  have ea:PyData.int (((v%b:Nat):Int)*2^n+(d:Int))= .int ((v%b*2^n+d:Nat):Int):=by push_cast;rfl
  refine E34 (ih (v*2^n+d) (qs++[(v%b*2^n+d)/b]) (I d) (I ((v%b*2^n+d)/b:Nat)) (λe he=>hd e (List.mem_cons_of_mem _ he))
   (λe he=>(List.mem_append.mp he).elim (hq e) λhe=>by refine za (List.mem_singleton.mp he) ?_;exact (Nat.div_lt_iff_lt_mul nb).mpr (by refine za (Nat.mul_comm (2^n) b) ?_;exact hs))
   (by unfold zjf at hv |-;refine za List.foldl_append ?_;refine za hv ?_;refine za X.1 ?_;rfl) (by refine za List.length_append ?_;refine za List.length_singleton ?_;rw [List.length_cons] at hl;lia)) λqs' y6 y7 k1 k2 k3 k4=>?_
  refine ⟨qs',y6,y7,Eq.trans (zab (n:=m+49) (ρ1:=dmR a b n ds (v%b) qs (I d) x7) rfl (zj (zek (zan (n:=m+48) (zap (zr (n:=m+47) (zr (n:=m+46) (x:= .int ((v%b:Nat):Int)) (y:= .int n) rfl rfl sh) (y:= .int d) rfl (congrArg some ea)) rfl) c) rfl)
   (zj (zds (xs:=dI qs) rfl rfl (by unfold dI;rw [List.length_map];lia)) rfl))) (Eq.trans ?_ k1),k2,k3,by refine za k4 ?_;refine za List.length_append ?_;exact (Nat.add_right_comm xs.length 1 qs.length).symm⟩
  unfold dmR dI
  refine za List.map_append ?_;refine za X.2 ?_;rfl
theorem zpk (n:Nat) (xs:List Nat):za8 n (xs.reverse.map λ(d:Nat)=>(d:Int))=(zjf n xs 0:Nat):=by
 have h:∀ys:List Nat,za8 n (ys.map λ(d:Nat)=>(d:Int))=(ys.foldr (λd v=>v*2^n+d) 0:Nat):=λys=>by
  induction ys with
  |nil=>rfl
  |cons d ys ih=>
   show (d:Int)+za8 n (ys.map λ(d:Nat)=>(d:Int))*2^n=_
   refine za ih ?_;refine za List.foldr_cons ?_;rw [Int.add_comm];push_cast;rfl
 rw [h];refine za List.foldr_reverse ?_;rfl
theorem zkq (n:Nat):∀(k a:Nat),a<2^(n*k) ->zjf n (zaU a n k).reverse 0=a/\ ∀d∈zaU a n k,d<2^n
 |0,a,h=>⟨by rw [Nat.mul_zero,Nat.pow_zero] at h;show 0=a;lia,nofun⟩
 |k+1,a,h=>by
  have hd:a/2^n<2^(n*k):=(Nat.div_lt_iff_lt_mul (Nat.two_pow_pos n)).mpr (by rw [<-Nat.pow_add,<-Nat.mul_succ];exact h)
  refine zR (zkq n k (a/2^n) hd) λh1 h2=>?_
  refine ⟨?_,λd hd=>(List.mem_cons.mp hd).elim (λe=>e▸Nat.mod_lt _ (Nat.two_pow_pos n)) (h2 d)⟩
  show zjf n (a%2^n::zaU (a/2^n) n k).reverse 0=a
  unfold zjf at h1 |-
  refine za List.reverse_cons (za List.foldl_append ?_)
  exact za h1 (Nat.div_add_mod' ..)
theorem zin:∀ds:List Nat,zd6 (dI ds)=some (ds.map λ(d:Nat)=>(d:Int))
 | []=>rfl
 |d::ds=>(congrArg (Option.map ((d:Int):: ·)) (zin ds)).trans rfl
theorem zpl {b:Nat} (hb:b≠0):2^zo (b:Int)<=2*b:=by
 have n0:=zg2 hb
 refine Nat.le_of_not_lt λh=>?_
 exact Nat.not_le_of_lt (Nat.sub_lt n0 Nat.one_pos) (zam (Nat.lt_of_mul_lt_mul_left (a:=2) (Nat.lt_of_lt_of_le h (Nat.le_of_eq ((zeY n0).symm.trans (Nat.mul_comm ..))))))
theorem ztm (h1:tbl 1=some (.code 3 60 zfq)) (h2:tbl 2=some (.code 6 60 zi9)) (h3:tbl 3=some (.prim zg4)) (h4:tbl 4=some (.prim zg5)) (h5:tbl 5=some (.code 2 60 zo0)) {a b:Nat} (hb:0<b) (ba:zo (a:Int)<=100000) (bb:zo (b:Int)<=100000):
  (run tbl (m+60)).call 5 [.int a,.int b]=some (.tuple [.int ((a/b:Nat):Int),.int ((a%b:Nat):Int)]):=by
 have n0:=zg2 (a:=b) (Nat.ne_of_gt hb)
 have hb2:=zf9 b
 have hb1:=zpl (b:=b) (Nat.ne_of_gt hb)
 have ha:=zf9 a
 have ec:∀n,zd2 a n=(zo (a:Int)+n-1)/n:=λn=>rfl
 have stm0:zg (run tbl (m+58)) ([.int a,.int b].map (λd=>some (PV.d d))++List.replicate 60 none) (.asg (.v 2) (.me .bitLength (.v 1) []))=some ([I a,I b,I (zo (b:Int):Nat)]++List.replicate 59 none,.next):=rfl
 generalize zo (b:Int)=n at *
 generalize zo (a:Int)=B at *
 have hs:B+n-1<=200000:=zv (Nat.sub_le _ _) (Nat.add_le_add ba bb)
 have hcn:zd2 a n<=1000000:=ec n▸zv (Nat.div_le_self _ _) (zv hs (by decide))
 have hcm:zd2 a n*n<=2^24:=ec n▸zv (Nat.div_mul_le_self _ _) (zv hs (by decide))
 have hc:a<2^(n*zd2 a n):=Nat.lt_of_lt_of_le ha (Nat.pow_le_pow_right (by decide) (by rw [ec];exact zoI n0))
 have i2:zg4 [.int a,.int n]=some (.list (dI (zaU a n (zd2 a n)))):=if_pos (I05 (Int.natCast_nonneg a) (Int.ofNat_le.mpr n0) (by rw [Int.toNat_natCast];lia) hcm hcn)
 refine zR (zkq n _ a hc) λe1 e2=>?_
 have e3:=zeM n (zd2 a n) a
 generalize zaU a n (zd2 a n)=ds at *
 have dl:(dI ds).length<=big:=by unfold dI;rw [List.length_map];refine za e3 ?_;exact hcn
 have dr:dI ds.reverse=(dI ds).reverse:=by unfold dI;exact za List.map_reverse rfl
 refine E34 (zq0 (m:=m+8) h1 h2 (a:=a) (ds:= .list (dI ds)) bb n0 hb1 hb2 ds.reverse 0 [] none none (λd hd=>e2 d (List.mem_reverse.mp hd)) nofun (Nat.zero_div b).symm (by refine za List.length_reverse ?_;refine za e3 ?_;exact hcn)) λqs x6 x7 k1 k2 k3 k4=>?_
 rw [e1] at k1 k3
 rw [Nat.zero_mod,dr] at k1
 have ql:qs.length<=big:=by refine za k4 ?_;refine za List.length_reverse ?_;refine za e3 ?_;exact hcn
 have d2:zg5 [.list (dI qs).reverse,.int n]=some (.int ((a/b:Nat):Int)):=by
  have e:(dI qs).reverse=dI qs.reverse:=by unfold dI;exact za List.map_reverse rfl
  refine za e (zF k3 ?_)
  rw [<-zpk]
  refine bS (f:=λis:List Int=>if 0<=(n:Int)/\ (∀d∈is,0<=d/\ d<2^(n:Int).toNat)/\ is.length*(n:Int).toNat<=2^24/\ is.length<=big then some (PyData.int (za8 (n:Int).toNat is)) else none) (zin qs.reverse) (if_pos (I04 (Int.natCast_nonneg n) (λd hd=>?_) ?_ ?_))
  ·refine zm (List.mem_map.mp hd) λx hx q1=>?_
   obtain rfl:=q1
   exact ⟨Int.natCast_nonneg x,by exact_mod_cast k2 x (List.mem_reverse.mp hx)⟩
  ·rw [List.length_map];refine za List.length_reverse ?_;refine za k4 ?_;refine za List.length_reverse ?_;refine za e3 ?_;exact hcm
  ·rw [List.length_map];refine za List.length_reverse ?_;exact ql
 have p3:∀xs:List PyData,(run tbl (m+57)).call 3 xs=zg4 xs:=λxs=>zmf h3
 have p4:∀xs:List PyData,(run tbl (m+57)).call 4 xs=zg5 xs:=λxs=>zmf h4
 refine zbG (n:=m+58) h5 rfl (ρ':=List.set (dmR a b n (.list (dI ds)) (a%b) qs x6 x7) 5 (some (.d (.list (dI qs).reverse)))|>.set 8 (some (.d (.int ((a/b:Nat):Int))))) (zj stm0 (zj (zX (zan (n:=m+57) (zap rfl (zaa rfl)) ((p3 _).trans i2))) (zj (zX rfl) (zj (zcR rfl) (zj (zbB (xs:=(dI ds).reverse) ?_ k1) (zj (ρ2:=List.set (dmR a b n (.list (dI ds)) (a%b) qs x6 x7) 5 (some (.m (dI qs).reverse))) ?_ (zj (ρ2:=List.set (dmR a b n (.list (dI ds)) (a%b) qs x6 x7) 5 (some (.d (.list (dI qs).reverse)))) rfl (zj (zX (zan (n:=m+57) (zap rfl (zaa rfl)) ((p4 _).trans d2))) (zT (za0 rfl))))))))))
 ·exact if_pos dl
 ·exact if_pos (show (dI qs).length<=big by unfold dI;rw [List.length_map];exact ql)
theorem zbW {a b:Int} (h:a.natAbs<=b.natAbs):zo a<=zo b:=intBits_le_iff.mpr (Nat.lt_of_le_of_lt h (intBits_le_iff.mp (Nat.le_refl _)))
theorem zq1 {x:Int} (h:¬0<=x):(-x-1).natAbs<=x.natAbs:=by
 cases x with
 |ofNat n=>exact absurd (Int.natCast_nonneg n) h
 |negSucc n=>
  show ((n:Int)+1-1).natAbs<=n+1
  rw [Int.add_sub_cancel];exact Nat.le_succ n
theorem zmg (h1:tbl 1=some (.code 3 60 zfq)) (h2:tbl 2=some (.code 6 60 zi9)) (h3:tbl 3=some (.prim zg4)) (h4:tbl 4=some (.prim zg5)) (h5:tbl 5=some (.code 2 60 zo0)) (h6:tbl 6=some (.code 2 60 zqR))
  {x y q r:Int} (e:r+y*q=x) (hr:0<=r) (hy:r<y) (hx:0<=x) (bx:zo x<=100000) (by_:zo y<=100000):(run tbl (m+70)).call 6 [.int x,.int y]=some (.tuple [.int q,.int r]):=by
 have y0:0<y:=Int.lt_of_le_of_lt hr hy
 refine zO (Int.eq_ofNat_of_zero_le hx) λa q2=>?_
 obtain rfl:=q2
 refine zO (Int.eq_ofNat_of_zero_le (Int.le_of_lt y0)) λb q3=>?_
 obtain rfl:=q3
 refine zR ((Int.ediv_emod_unique y0).mpr ⟨e,hr,hy⟩) λu v=>?_
 have c:=ztm (m:=m+4) h1 h2 h3 h4 h5 (a:=a) (b:=b) (Int.natCast_pos.mp y0) bx by_
 rw [show ((a/b:Nat):Int)=q from u,show ((a%b:Nat):Int)=r from v] at c
 exact zbG (n:=m+68) h6 rfl (zT (zaV (n:=m+67) (t_b (zV rfl rfl (congrArg some (beq_eq_false_iff_ne.mpr (Int.ne_of_gt y0))))) (zT (zaV (t_b (zV rfl rfl (congrArg some (decide_eq_false (Int.not_lt.mpr (Int.le_of_lt y0)))))) (zT (zaV (t_b (zV rfl rfl (congrArg some (decide_eq_false (Int.not_lt.mpr hx))))) (zT (za0 (zan rfl c)))))))))
theorem zmh (h1:tbl 1=some (.code 3 60 zfq)) (h2:tbl 2=some (.code 6 60 zi9)) (h3:tbl 3=some (.prim zg4)) (h4:tbl 4=some (.prim zg5)) (h5:tbl 5=some (.code 2 60 zo0)) (h6:tbl 6=some (.code 2 60 zqR))
  {x y q r:Int} (e:r+y*q=x) (hr:0<=r) (hy:r<y) (bx:zo x<=100000) (by_:zo y<=100000):(run tbl (m+80)).call 6 [.int x,.int y]=some (.tuple [.int q,.int r]):=by
 have y0:0<y:=Int.lt_of_le_of_lt hr hy
 by_cases hx:0<=x
 ·exact zmg (m:=m+10) h1 h2 h3 h4 h5 h6 e hr hy hx bx by_
 ·have c:=zmg (m:=m+4) h1 h2 h3 h4 h5 h6 (x:= -x-1) (y:=y) (q:= -q-1) (r:=y-r-1) (by rw [Int.mul_sub,Int.mul_neg];lia) (Int.le_sub_one_of_lt (Int.sub_pos_of_lt hy)) (by lia) (Int.le_sub_one_of_lt (Int.neg_pos_of_neg (Int.not_le.mp hx))) (zv (zbW (zq1 hx)) bx) by_
  have e2:y+Builtin.bitNot (y-r-1)=r:=by unfold Builtin.bitNot;lia
  have e3:Builtin.bitNot (-q-1)=q:=by unfold Builtin.bitNot;lia
  refine zbG (n:=m+78) h6 rfl (zT (zaV (n:=m+77) (t_b (zV rfl rfl (congrArg some (beq_eq_false_iff_ne.mpr (Int.ne_of_gt y0))))) (zT (zaV (t_b (zV rfl rfl (congrArg some (decide_eq_false (Int.not_lt.mpr (Int.le_of_lt y0)))))) (zT (zb5 (t_b (zV rfl rfl (congrArg some (decide_eq_true (Int.not_le.mp hx))))) (zj (zek (zan rfl c) rfl) (zT (za0 (d:= .tuple [.int q,.int r]) ?_)))))))))
  exact zfM (zap ((zr1 rfl).trans (congrArg (λi=>some (PyData.int i)) e3)) (zaa (zr rfl (zr1 rfl) (congrArg (λi=>some (PyData.int i)) e2))))
theorem ztn (h1:tbl 1=some (.code 3 60 zfq)) (h2:tbl 2=some (.code 6 60 zi9)) (h3:tbl 3=some (.prim zg4)) (h4:tbl 4=some (.prim zg5)) (h5:tbl 5=some (.code 2 60 zo0)) (h6:tbl 6=some (.code 2 60 zqR))
  {x y q r:Int} (e:r+y*q=x) (h:(0<=r/\ r<y) \/(y<r/\ r<=0)) (bx:zo x<=100000) (by_:zo y<=100000):(run tbl (m+90)).call 6 [.int x,.int y]=some (.tuple [.int q,.int r]):=by
 rcases h with ⟨hr,hy⟩| ⟨hy,hr⟩
 ·exact zmh (m:=m+10) h1 h2 h3 h4 h5 h6 e hr hy bx by_
 ·have y0:y<0:=Int.lt_of_lt_of_le hy hr
  have c:=zmh (m:=m+5) h1 h2 h3 h4 h5 h6 (x:= -x) (y:= -y) (q:=q) (r:= -r) (by rw [Int.neg_mul,<-Int.neg_add,e]) (Int.neg_nonneg_of_nonpos hr) (Int.neg_lt_neg hy) (zv (zbW (Nat.le_of_eq (Int.natAbs_neg x))) bx) (zv (zbW (Nat.le_of_eq (Int.natAbs_neg y))) by_)
  exact zbG (n:=m+88) h6 rfl (zT (zaV (n:=m+87) (t_b (zV rfl rfl (congrArg some (beq_eq_false_iff_ne.mpr (Int.ne_of_lt y0))))) (zT (zb5 (t_b (zV rfl rfl (congrArg some (decide_eq_true y0)))) (zj (zek (zan rfl c) rfl) (zT (za0 (zfM (zap rfl (zaa ((zuW rfl).trans (congrArg (λi=>some (PyData.int i)) (Int.neg_neg r)))))))))))))
end One1
namespace One1
variable {tbl:Nat ->Option Fn} {m:Nat}
noncomputable def hxS (b:Nat):Str:=baseText "0x" 16 ((2^b:Nat):Int)
def zto (b:Nat):Option PyData:=meD .get flagsD [.int ((2^b:Nat):Int),.str (hxS b)]
def nmS (b:Nat):Str:=((zto b).bind zau).getD Str.empty
def zi4:PyData:=(znw (.str "OPTIMIZED NEWLOCALS VARARGS VARKEYWORDS NESTED GENERATOR NOFREE COROUTINE ITERABLE_COROUTINE ASYNC_GENERATOR")).getD .none
def zq2 (b:Nat):Option PyData:=if b<10 then zbf zi4 (.int (b:Int)) else some (.str (hxS b))
def zu8 (b:Nat):Bool:=(Nat.ble (hxS b).length 40&&Nat.ble (nmS b).length 40)&&(((zto b).bind zau).isSome&&((zq2 b).bind zau==some (nmS b)))&&PyData.strOk (nmS b)
theorem zpm:(List.range 33).all zu8=true:=by decide+kernel
theorem zlu {o:Option PyData} {x:Str} (h:o.bind zau=some x):o=some (.str x):=by
 refine zm (Option.bind_eq_some_iff.mp h) λd hd hs=>?_
 refine za hd ?_
 cases d<;>first|exact zb hs|skip
 cases hs;rfl
theorem zio {b:Nat} (h:b<33):zto b=some (.str (nmS b))/\ (nmS b).length<=40/\ (hxS b).length<=40/\ zq2 b=some (.str (nmS b))/\ PyData.strOk (nmS b)=true:=by
 have h:=List.all_eq_true.mp zpm b (List.mem_range.mpr h)
 simp only [zu8,Bool.and_eq_true,Nat.ble_eq] at h
 refine zO (Option.isSome_iff_exists.mp h.1.2.1) λx hx=>?_
 refine I05 ?_ h.1.1.2 h.1.1.1 (zlu (eq_of_beq h.1.2.2)) h.2
 have e:nmS b=x:=by unfold nmS;refine za hx ?_;rfl
 refine za e ?_;exact zlu hx
noncomputable def fvN (bs:List Nat):Nat:=bs.foldr (λb v=>2^b+v) 0
theorem zlv {j:Nat}:∀{bs:List Nat},(∀b∈bs,j<=b) ->∃k,fvN bs=k*2^j
 | [],_=>⟨0,(Nat.zero_mul _).symm⟩
 |b::bs,h=>by
  refine zO (zlv λc hc=>h c (List.mem_cons_of_mem _ hc)) λk hk=>?_
  refine ⟨2^(b-j)+k,?_⟩
  rw [Nat.add_mul];refine zF hk ?_;rw [<-Nat.pow_add];refine za (Nat.sub_add_cancel (h b (List.mem_cons_self ..))) ?_;rfl
theorem zmi (k j:Nat):k*2^j&&&2^j=k%2*2^j:=by
 have:=Nat.shiftLeft_and_distrib (a:=k) (b:=1) (i:=j)
 rw [Nat.shiftLeft_eq,Nat.shiftLeft_eq,Nat.shiftLeft_eq,Nat.one_mul,Nat.and_one_is_mod] at this
 exact this.symm
theorem ztp (k j:Nat):(2*k+1)*2^j|||2^j=(2*k+1)*2^j:=by
 have:=Nat.shiftLeft_or_distrib (a:=2*k+1) (b:=1) (i:=j)
 rw [Nat.shiftLeft_eq,Nat.shiftLeft_eq,Nat.shiftLeft_eq,Nat.one_mul] at this
 refine zF this ?_
 congr 1
 have:=Nat.two_pow_add_eq_or_of_lt (i:=1) (b:=1) (by decide) k
 rw [Nat.pow_one] at this
 refine za this ?_
 rw [Nat.or_assoc,Nat.or_self]
def flR (F:Nat) (ss:List Str) (x2 x3:Option PV):Rho:=[I F,some (.m (ss.map .str)),x2,x3]++List.replicate 57 none
def ztq:List PS:=[.asg (.v 3) (.bin .LShift (.c (.int 1)) (.v 2)),.iff (.bin .BitAnd (.v 0) (.v 3)) [.app 1 (.me .get (.c flagsD) [(.v 3),(.bi .hex [(.v 3)])]),.aug 0 .BitXor (.v 3),.iff (.not (.v 0)) [.brk] []] []]
noncomputable def ztr:List PS:=[.app 1 (.bi .hex [(.v 0)])]
theorem zlw {b:Nat} (h:b<33):biD .hex [.int ((2^b:Nat):Int)]=some (.str (hxS b)):=if_pos (zv (zio h).2.2.1 (by decide))
theorem zho {n:Nat} {ρ:Rho} {b:BI} {es:List PE} {xs:List PyData} {d:PyData} (hb:b≠ .len) (ha:exs (run tbl n) ρ es=some xs) (h:biD b xs=some d):(run tbl (n+1)).ex ρ (.bi b es)=some d:=by
 cases b<;>first|exact absurd rfl hb|exact bS ha h
theorem zpn {n:Nat} {t:Tgt} {b o:List PS} {x:PyData} {xs:List PyData} {ρ ρ1 ρ2:Rho} (h:zaz t x ρ=some ρ1) (hb:zE (run tbl n) b ρ1=some (ρ2,.brk)):zbF (run tbl (n+1)) t b o (x::xs) ρ=some (ρ2,.next):=by
 show (zaz t x ρ).bind _=_
 refine za h ?_
 show (zE (run tbl n) b ρ1).bind _=_
 exact za hb rfl
theorem zu9 {S:Sv} {ρ ρ2:Rho} {st:PS} {r:List PS} (h:zg S ρ st=some (ρ2,.brk)):zE S (st::r) ρ=some (ρ2,.brk):=bS h rfl
theorem zjg:∀(k i:Nat) (bs:List Nat) (ss:List Str) (x2 x3:Option PV),i+k=32 ->bs≠[] ->bs.Pairwise (· < ·) ->(∀b∈bs,i<=b/\ b<33) ->ss.length+bs.length<=40 ->
  ∃F x2' x3',zbF (run tbl (m+10)) (.v 2) ztq ztr ((List.range' i k).map λ(j:Nat)=> .int (j:Int)) (flR (fvN bs) ss x2 x3)=some (flR F (ss++bs.map nmS) x2' x3',.next)
 |0,i,bs,ss,x2,x3,e,h0,hp,hb,hl=>by
  have hl':(ss.map PyData.str).length<=big:=by rw [List.length_map];exact zv (zv (Nat.le_add_right _ _) hl) (by decide)
  match bs,h0,hp,hb with
  |b::c::bs,_,hp,hb=>
   have h1:=(List.pairwise_cons.mp hp).1 c (List.mem_cons_self ..)
   have h2:=hb b (List.mem_cons_self ..)
   have h3:=hb c (List.mem_cons_of_mem _ (List.mem_cons_self ..))
   lia
  | [b],_,_,hb=>
   have h2:=hb b (List.mem_cons_self ..)
   obtain rfl:b=32:=by lia
   have o:=(zio (b:=32) (by decide)).2.2.2.1
   refine ⟨_,x2,x3,zj (zds (xs:=ss.map .str) rfl ((zlw (b:=32) (by decide)).trans o) hl') (congrArg (λl=>some ((I (fvN [32]:Nat)::some (.m l)::x2::x3::List.replicate 57 none:Rho),Fl.next)) ?_)⟩
   refine za List.map_append ?_;rfl
 |k+1,i,bs,ss,x2,x3,e,h0,hp,hb,hl=>by
  have hl':(ss.map PyData.str).length<=big:=by rw [List.length_map];exact zv (zv (Nat.le_add_right _ _) hl) (by decide)
  have e2:(1:Int)*2^i=((2^i:Nat):Int):=by rw [Int.one_mul];push_cast;rfl
  have s3:=λF=>zX (S:=run tbl (m+9)) (ρ:=flR F ss (I i) x3) (i:=3) (zr (n:=m+8) (op:= .LShift) (a:= .c (.int 1)) (b:= .v 2) (x:= .int 1) (y:= .int i) rfl rfl ((zco (k:=i) (v:=1) (by decide) (by lia)).trans (congrArg (λi=>some (PyData.int i)) e2)))
  have tt:=λF=>zr (tbl:=tbl) (n:=m+8) (ρ:=flR F ss (I i) (I (2^i:Nat))) (op:= .BitAnd) (a:= .v 0) (b:= .v 3) (x:= .int F) (y:= .int (2^i:Nat)) rfl rfl (congrArg (λi=>some (PyData.int i)) (zje F (2^i)))
  match bs,h0,hp,hb with
  |b::bs,_,hp,hb=>
   refine zR (List.pairwise_cons.mp hp) λhp1 hp2=>?_
   have hbi:=hb b (List.mem_cons_self ..)
   by_cases eb:b=i
   ·subst eb
    refine zO (zlv (j:=b+1) (bs:=bs) λc hc=>hp1 c hc) λq hq=>?_
    have hF:fvN (b::bs)=(2*q+1)*2^b:=by
     show 2^b+fvN bs=_
     refine za hq ?_
     rw [Nat.add_mul,Nat.pow_succ,Nat.one_mul,Nat.add_comm,Nat.mul_comm (2^b),<-Nat.mul_assoc,Nat.mul_comm q]
    have ha:fvN (b::bs)&&&2^b=2^b:=by refine za hF ?_;rw [zmi,Nat.mul_add_mod,Nat.one_mul]
    have hx:zaZ .BitXor (.int (fvN (b::bs):Nat)) (.int (2^b:Nat))=some (.int (fvN bs:Nat)):=by
     show some (PyData.int (Builtin.bitOr (fvN (b::bs):Nat) (2^b:Nat)-Builtin.bitAnd (fvN (b::bs):Nat) (2^b:Nat)))=_
     rw [zpf,zje]
     refine za ha (za hF ?_)
     rw [ztp]
     refine zF hF ?_
     show some (PyData.int (((2^b+fvN bs:Nat):Int)-_))=_
     rw [Int.natCast_add,Int.add_comm,Int.add_sub_cancel]
    have i1:bs≠[] ->fvN bs≠0:=λh=>by
     match bs,h with
     |c::cs,_=>have:=Nat.two_pow_pos c;show 2^c+fvN cs≠0;lia
    have nm:=zio hbi.2
    have app:zg (run tbl (m+8)) (flR (fvN (b::bs)) ss (I b) (I (2^b:Nat))) (.app 1 (.me .get (.c flagsD) [(.v 3),(.bi .hex [(.v 3)])]))=some (flR (fvN (b::bs)) (ss++[nmS b]) (I b) (I (2^b:Nat)),.next):=by
     refine (zds (xs:=ss.map .str) rfl (zeQ (n:=m+7) rfl (zap rfl (zaa (zho (n:=m+6) (b:= .hex) (by decide) (zaa (d:= .int (2^b:Nat)) rfl) (zlw hbi.2)))) nm.1) hl').trans ?_
     unfold flR;refine za List.map_append ?_;rfl
    have aug:zg (run tbl (m+8)) (flR (fvN (b::bs)) (ss++[nmS b]) (I b) (I (2^b:Nat))) (.aug 0 .BitXor (.v 3))=some (flR (fvN bs) (ss++[nmS b]) (I b) (I (2^b:Nat)),.next):=zdr (x:=(fvN (b::bs):Nat)) (y:=(2^b:Nat)) rfl rfl rfl hx
    have T:zbZ (run tbl (m+9)) (flR (fvN (b::bs)) ss (I b) (I (2^b:Nat))) (.bin .BitAnd (.v 0) (.v 3))=some true:=t_d (tt _) (by refine za ha ?_;exact congrArg some (bne_iff_ne.mpr (by have:=Nat.two_pow_pos b;lia)))
    by_cases hbs:bs=[]
    ·subst hbs
     exact ⟨0,I b,I (2^b:Nat),zpn (n:=m+9) rfl (zj (s3 _) (zu9 (zb5 T (zj app (zj aug (zu9 (zb5 rfl rfl)))))))⟩
    ·refine E31 (zjg k (b+1) bs (ss++[nmS b]) (I b) (I (2^b:Nat)) (by lia) hbs hp2 (λc hc=>⟨hp1 c hc,(hb c (List.mem_cons_of_mem _ hc)).2⟩) (by refine za List.length_append ?_;rw [Nat.add_right_comm];exact hl)) λF y2 y3 h=>?_
     rw [List.append_assoc] at h
     have nt:zbZ (run tbl (m+8)) (flR (fvN bs) (ss++[nmS b]) (I b) (I (2^b:Nat))) (.not (.v 0))=some false:=t_b (zuV (n:=m+7) (c:=true) (t_d (d:= .int (fvN bs:Nat)) rfl (congrArg some (bne_iff_ne.mpr (Int.natCast_ne_zero.mpr (i1 hbs))))))
     exact ⟨F,y2,y3,(zab (n:=m+9) rfl (zj (s3 _) (zj (zb5 T (zj app (zj aug (zj (zaV nt rfl) rfl)))) rfl))).trans h⟩
   ·have hF:∃q,fvN (b::bs)=q*2^(i+1):=zlv λc hc=>(List.mem_cons.mp hc).elim (λe=>by lia) λhc=>by have:=hp1 c hc;lia
    refine zO hF λq hq=>?_
    clear hF
    have ha:fvN (b::bs)&&&2^i=0:=by refine za hq ?_;rw [Nat.pow_succ,Nat.mul_comm (2^i),<-Nat.mul_assoc,zmi,Nat.mul_mod_left,Nat.zero_mul]
    refine E31 (zjg k (i+1) (b::bs) ss (I i) (I (2^i:Nat)) (by lia) nofun hp (λc hc=>⟨(List.mem_cons.mp hc).elim (λe=>by lia) λhc=>by have:=hp1 c hc;lia,(hb c hc).2⟩) hl) λF y2 y3 h=>?_
    exact ⟨F,y2,y3,(zab (n:=m+9) rfl (zj (s3 _) (zj (zaV (t_d (tt _) (by refine za ha ?_;rfl)) rfl) rfl))).trans h⟩
theorem zmj (bs:List Nat) (hl:bs.length<=3) (h:∀b∈bs,b<33):zrC (.str (Str.ofString ", ")) (.list ((bs.map nmS).map .str))=some (.str (Txt.join (Str.ofString ", ") (bs.map nmS))):=by
 have a:∀ss:List Str,zcj (ss.map .str)=some ss:=λss=>by
  induction ss with
  |nil=>rfl
  |cons s ss ih=>exact (congrArg (Option.map (s:: ·)) ih).trans rfl
 have s:∀{bs:List Nat},(∀b∈bs,b<33) ->zbb (bs.map nmS)<=bs.length*40:=λ{bs} h=>by
  induction bs with
  |nil=>exact Nat.le_refl 0
  |cons b bs ih=>
   have h1:=(zio (h b (List.mem_cons_self ..))).2.1
   have h2:=ih λc hc=>h c (List.mem_cons_of_mem _ hc)
   show (nmS b).length+zbb (bs.map nmS)<=(bs.length+1)*40
   lia
 refine bS (x:=bs.map nmS) (a _) (if_pos ?_)
 have:=s h
 rw [List.length_map]
 show _+bs.length*3<=1000000
 lia
theorem zpo (h0:tbl 0=some (.code 1 60 zhe)) {bs:List Nat} (hb:bs≠[]) (hp:bs.Pairwise (· < ·)) (h:∀b∈bs,b<33) (hl:bs.length<=3):
  (run tbl (m+12)).call 0 [.int (fvN bs:Nat)]=some (.str (Txt.join (Str.ofString ", ") (bs.map nmS))):=by
 refine E31 (zjg (tbl:=tbl) (m:=m) 32 0 bs [] none none rfl hb hp (λb hh=>⟨Nat.zero_le _,h b hh⟩) (by show 0+_<=_;lia)) λF x2 x3 k=>?_
 exact zbG (n:=m+10) h0 rfl (zj (zcR rfl) (zj (zbB (xs:=(List.range' 0 32).map λ(j:Nat)=> .int (j:Int)) rfl k) (zj (ρ2:=List.set (flR F (bs.map nmS) x2 x3) 1 (some (.d (.list ((bs.map nmS).map .str))))) rfl (zT (za0 (zeQ rfl (zaa rfl) (zmj bs hl h)))))))
end One1
namespace One1
noncomputable def fr (n:Nat) (f:Nat ->Option PV):Rho:=(List.range n).map f
noncomputable def up (f:Nat ->Option PV) (i:Nat) (v:Option PV):Nat ->Option PV:=λj=>bif Nat.beq j i then v else f j
theorem z5 {n:Nat} {f:Nat ->Option PV} (i:Nat) (v:Option PV):(fr n f).set i v=fr n (up f i v):=by
 refine List.ext_getElem? λj=>?_
 unfold fr up
 refine za List.getElem?_set ?_
 refine za List.getElem?_map ?_
 refine za List.getElem?_map ?_
 rw [List.length_map]
 refine za List.length_range ?_
 by_cases h:j<n
 ·refine za (List.getElem?_range h) ?_
  show _=some (bif Nat.beq j i then v else f j)
  by_cases e:i=j
  ·subst e
   refine za (if_pos rfl) ?_;refine za (if_pos h) ?_;refine za (show Nat.beq i i=true from Nat.beq_refl i) ?_;rfl
  ·refine za (if_neg e) ?_;refine za (show Nat.beq j i=false from Bool.eq_false_iff.mpr λh=>e (Nat.eq_of_beq_eq_true h).symm) ?_;rfl
 ·refine za (List.getElem?_eq_none (by refine za List.length_range ?_;lia)) ?_
  by_cases e:i=j
  ·refine za (if_pos e) ?_;refine za (if_neg (by lia)) ?_;rfl
  ·refine za (if_neg e) ?_;rfl
theorem zag {n i:Nat} {f:Nat ->Option PV} {S:Sv} {e:PE} {d:PyData} (h:S.ex (fr n f) e=some d):zg S (fr n f) (.asg (.v i) e)=some (fr n (up f i (some (.d d))),.next):=(zX h).trans (by rw [z5])
theorem zkr {S:Sv} {ρ:Rho} {t:Tgt} {it elt:PE} {ifs:List PE} {xs ys:List PyData} (hit:itD S (zai (zZ t) ρ) it=some xs)
  (k:zmA (λx=>(zaz t x (zai (zZ t) ρ)).bind λρ'=>(zgh S ρ' ifs).bind λok=>if ok then (S.ex ρ' elt).map λd=>[d] else some []) xs=some ys):zc6 S elt [.mk t it ifs] ρ=some ys:=by
 have e:zai (([Gn.mk t it ifs]).flatMap zas) ρ=zai (zZ t) ρ:=by
  show zai (zZ t++[]) ρ=_
  rw [List.append_nil]
 unfold zc6
 exact za e (bS hit k)
theorem zdt {α:Type} {S:Sv} {ρ:Rho} {t:Tgt} {it elt:PE} {ifs:List PE} {xs:List α} {g h:α ->PyData} {p:α ->Bool} (hit:itD S (zai (zZ t) ρ) it=some (xs.map g))
  (hb:∀x∈xs,∃ρ',zaz t (g x) (zai (zZ t) ρ)=some ρ'/\ zgh S ρ' ifs=some (p x)/\ (p x=true ->S.ex ρ' elt=some (h x))):
  zc6 S elt [.mk t it ifs] ρ=some ((xs.filter p).map h):=by
 refine zkr hit ?_
 clear hit
 induction xs with
 |nil=>rfl
 |cons x xs ih=>
  refine E13 (hb x (List.mem_cons_self ..)) λρ' h1 h2 h3=>?_
  refine bS (x:=if p x then [h x] else []) (bS h1 (bS h2 ?_)) ?_
  ·cases hp:p x with
   |true=>exact mS (h3 hp)
   |false=>rfl
  ·refine (mS (ih λy hy=>hb y (List.mem_cons_of_mem _ hy))).trans ?_
   cases hp:p x with
   |true=>refine za (List.filter_cons_of_pos hp) ?_;rfl
   |false=>refine za (List.filter_cons_of_neg (by refine za hp ?_;decide)) ?_;rfl
theorem z6 {α:Type} {S:Sv} {ρ:Rho} {t:Tgt} {it elt:PE} {xs:List α} {g h:α ->PyData} (hit:itD S (zai (zZ t) ρ) it=some (xs.map g))
  (hb:∀x∈xs,∃ρ',zaz t (g x) (zai (zZ t) ρ)=some ρ'/\ S.ex ρ' elt=some (h x)):zc6 S elt [.mk t it []] ρ=some (xs.map h):=by
 have:=zdt (p:=λ_=>true) (ifs:=[]) hit λx hx=>let ⟨ρ',a,b⟩:=hb x hx;⟨ρ',a,rfl,λ_=>b⟩
 rw [List.filter_eq_self.mpr λ_ _=>rfl] at this
 exact this
theorem zY {n:Nat} {tbl:Nat ->Option Fn} {ρ:Rho} {e:PE} {gs:List Gn} {xs:List PyData} (h:zc6 (run tbl n) e gs ρ=some xs) (hl:xs.length<=1000):(run tbl (n+1)).ex ρ (.comp e gs)=some (.list xs):=zs7 h (zv hl (by decide))
abbrev T3:=Nat×Nat×Nat
noncomputable def tD (p:T3):PyData:= .list [.int (p.1:Int),.int (p.2.1:Int),.int (p.2.2:Int)]
noncomputable def stp (c:Nat) (p:T3):T3:=match c with
 |97=>(p.1+1,p.2.1,p.2.2)
 |98=>(p.1,p.2.1+1,p.2.2)
 |_=>(p.1,p.2.1,p.2.2+1)
noncomputable def sts:List Nat ->T3 ->List T3
 | [],p=>[p]
 |c::r,p=>p::sts r (stp c p)
def lst (r:List Nat) (p:T3):T3:=r.foldl (λp c=>stp c p) p
def rD (r:List Nat):PyData:= .str (zw r)
def cD (c:Nat):PyData:= .str (zw [c])
def abc (c:Nat):Prop:=c=97 \/c=98 \/c=99
variable {tbl:Nat ->Option Fn} {m:Nat}
theorem zq {f:Nat ->Option PV} {i:Nat} {v:Option PV} (h:f i=v):up f i v=f:=by
 funext j
 unfold up
 cases e:Nat.beq j i with
 |false=>rfl
 |true=>refine za (Nat.eq_of_beq_eq_true e) ?_;exact h.symm
theorem zq3 {f:Nat ->Option PV} {xs:List PyData} {c:Nat} (hc:abc c) {p:T3} (h9:f 9=some (.d (cD c))) (h8:f 8=some (.m xs)) (hl:xs.length<=1000) (hi:zbf (.list xs) (.int (-1))=some (tD p)):
  zg (run tbl (m+10)) (fr 65 f) zo1=some (fr 65 (up f 8 (some (.m (xs++[tD (stp c p)])))),.next):=by
 refine zF (zq h9) (zF (zq h8) ?_)
 refine (zds (xs:=xs) (d:=tD (stp c p)) (by kernel_rfl) (zY (n:=m+9) (zkr (xs:=zen [.int (p.1:Int),.int (p.2.1:Int),.int (p.2.2:Int)] 0) (zoZ (d:=tD p) (zaY (n:=m+8) (x:= .list xs) (y:= .int (-1)) (by kernel_rfl) (by kernel_rfl) hi) rfl (show 3<=big by decide)) ?_) (show 3<=1000 by decide)) (zv hl (by decide))).trans (by rw [z5])
 rcases hc with e|e|e<;>subst e<;>kernel_rfl
theorem ziq {xs:List PyData} {x:PyData} (h:xs.length+1<=1000):zbf (.list (xs++[x])) (.int (-1))=some x:=zkk (zv h (by decide))
theorem zhp {f:Nat ->Option PV} {i:Nat} {v w:Option PV}:up (up f i v) i w=up f i w:=by
 funext j
 unfold up
 cases Nat.beq j i<;>rfl
theorem zmk {f:Nat ->Option PV} {i j:Nat} {v w:Option PV} (h:Nat.beq i j=false):up (up f i v) j w=up (up f j w) i v:=by
 funext k
 unfold up
 cases e:Nat.beq k i<;>cases e2:Nat.beq k j<;>try rfl
 rw [<-Nat.eq_of_beq_eq_true e,e2] at h;cases h
theorem zks:∀(r:List Nat) (p:T3) (pre:List PyData) (f:Nat ->Option PV) (x9:Option PV),(∀c∈r,abc c) ->pre.length+r.length<=990 ->
  ∃x9',zbF (run tbl (m+11)) (.v 9) [zo1] [] (r.map cD) (fr 65 (up (up f 9 x9) 8 (some (.m (pre++[tD p])))))=some (fr 65 (up (up f 9 x9') 8 (some (.m (pre++(sts r p).map tD)))),.next)
 | [],p,pre,f,x9,hr,hl=>⟨x9,rfl⟩
 |c::r,p,pre,f,x9,hr,hl=>by
  rw [List.length_cons] at hl
  refine zO (zks r (stp c p) (pre++[tD p]) f (some (.d (cD c))) (λd hd=>hr d (List.mem_cons_of_mem _ hd)) (by refine za List.length_append ?_;refine za List.length_singleton ?_;lia)) λx h=>?_
  refine ⟨x,(zab (n:=m+10) (ρ1:=fr 65 (up (up f 9 (some (.d (cD c)))) 8 (some (.m (pre++[tD p]))))) ?_ (zj (zq3 (hr c (List.mem_cons_self ..)) rfl rfl (by refine za List.length_append ?_;refine za List.length_singleton ?_;lia) (ziq (by lia))) rfl)).trans ?_⟩
  ·show some ((fr 65 _).set 9 _)=_
   rw [z5]
   exact za (zmk (j:=9) rfl) (za zhp rfl)
  ·refine za zhp ?_;refine za h ?_;rw [List.append_assoc];rfl
theorem zao (n i:Nat) (d:PyData) (f:Nat ->Option PV):zaz (.v i) d (zai (zZ (.v i)) (fr n f))=some (fr n (up f i (some (.d d)))):=by
 show some (((fr n f).set i none).set i _)=_
 rw [z5,z5]
 exact za zhp rfl
theorem zgb (n:Nat) (f:Nat ->Option PV) (i:Nat) (d:PyData):zaz (.v i) d (fr n f)=some (fr n (up f i (some (.d d)))):=congrArg some (z5 i _)
theorem zml {f:Nat ->Option PV} {k i:Nat} {v:Option PV} (hi:i<k) (h:f i=v):(fr k f)[i]?=some v:=
 List.getElem?_map.trans ((congrArg (Option.map f) (List.getElem?_range hi)).trans (congrArg some h))
theorem zaq {f:Nat ->Option PV} {n k i:Nat} {d:PyData} (hi:i<k) (h:f i=some (.d d)):(run tbl (n+1)).ex (fr k f) (.v i)=some d:=
 congrArg (λo=>pV none o some λ_=>none) (zml hi h)
theorem zcG {f:Nat ->Option PV} {S:Sv} {k i:Nat} {d:PyData} (hi:i<k) (h:f i=some (.d d)):rcv S (fr k f) (.v i)=some d:=
 congrArg (λo=>pV none o some λxs=>some (.list xs)) (zml hi h)
theorem zr4 {f:Nat ->Option PV} {k i:Nat} {xs:List PyData} (hi:i<k) (h:f i=some (.m xs)):zcV (fr k f) i=some xs:=
 congrArg (λo=>pV none o (λ_=>none) some) (zml hi h)
theorem zjh {f:Nat ->Option PV} {S:Sv} {k i:Nat} {xs:List PyData} (hi:i<k) (h:f i=some (.m xs)):rcv S (fr k f) (.v i)=some (.list xs):=
 congrArg (λo=>pV none o some λxs=>some (.list xs)) (zml hi h)
theorem zji {f:Nat ->Option PV} {n k i j:Nat} {d:PyData} (hi:i<k) (h:up f j none i=some (.d d)):(run tbl (n+1)).ex (zai (zZ (.v j)) (fr k f)) (.v i)=some d:=by
 show (run tbl (n+1)).ex ((fr k f).set j none) (.v i)=_
 rw [z5];exact zaq hi h
end One1
namespace One1
variable {tbl:Nat ->Option Fn} {m:Nat} {f:Nat ->Option PV}
noncomputable def bad (q:T3):Bool:=decide (q.1<q.2.1)||decide (q.2.1<q.2.2)
theorem zjj (a b:Nat):decide ((a:Int)<(b:Int))=decide (a<b):=decide_eq_decide.mpr Int.ofNat_lt
theorem zjk {S:Sv} {ρ:Rho} {e:PE} {b:Bool} (h:zbZ S ρ e=some b):zgh S ρ [e]=some b:=bS h (by cases b<;>rfl)
theorem zts {S:Sv} {ρ:Rho} {e e':PE} {b c:Bool} (h:S.ex ρ e=some (.bool b)) (k:S.ex ρ e'=some (.bool c)):orD S ρ [e,e']=some (.bool (b||c)):=by
 cases b
 ·exact zs8 h rfl k
 ·exact zv0 h rfl
theorem znh {xs:List T3} {q:T3} (h:xs.length+1<=1000):zbf (.list (xs.map tD++[tD q])) (.int 0)=some (tD (xs.headD q)):=by
 cases xs with
 |nil=>rfl
 |cons x xs=>exact zkl (by refine za List.length_append ?_;rw [List.length_map];refine za List.length_singleton ?_;exact zv h (by decide))
theorem ztt {S:List T3} {q:T3} (h8:f 8=some (.d (.list (S.map tD)))) (hl:S.length<=500) (hi:zbf (.list (S.map tD)) (.int (-1))=some (tD q)):
  zg (run tbl (m+20)) (fr 65 f) eb3=some (fr 65 (up f 11 (some (.d (tD ((S.filter bad).headD q))))),.next):=by
 have hf:=List.length_filter_le bad S
 refine zag (zaY (n:=m+19) (zr (n:=m+18) (zY (n:=m+17) (zdt (xs:=S) (g:=tD) (p:=bad) (h:=tD) (zel (zji (by decide) h8) rfl (by rw [List.length_map];exact zv hl (by decide))) λq hq=>⟨_,zao ..,zjk ?_,λ_=>zaq (by decide) rfl⟩) ?_) (zma (n:=m+17) (zaa (zaY (n:=m+16) (y:= .int (-1)) (zcG (by decide) h8) rfl hi))) (if_pos ?_)) rfl (znh ?_))
 ·have o:=zts (S:=run tbl (m+16)) (ρ:=fr 65 (up f 23 (some (.d (tD q))))) (e:= .cmp .Lt (.idx (.v 23) (.c (.int 0))) (.idx (.v 23) (.c (.int 1)))) (e':= .cmp .Lt (.idx (.v 23) (.c (.int 1))) (.idx (.v 23) (.c (.int 2)))) (b:=decide ((q.1:Int)<q.2.1)) (c:=decide ((q.2.1:Int)<q.2.2)) (by kernel_rfl) (by kernel_rfl)
  rw [zjj,zjj] at o
  exact t_b o
 ·rw [List.length_map];lia
 ·rw [List.length_map];show _+1<=1000000;lia
 ·lia
noncomputable def bd (β:Nat) (s:T3):List Nat:=[β+s.2.2,β+s.2.1+1,β+s.1+2]
theorem ztu {β:Nat} {s:T3} (h3:f 3=some (.d (.int β))) (h11:f 11=some (.d (tD s))):zg (run tbl (m+20)) (fr 65 f) eb4=some (fr 65 (up f 12 (some (.d (.list (dI (bd β s)))))),.next):=by
 refine zF (zq h3) (zF (zq h11) ?_)
 have h:(run tbl (m+20)).ex (fr 65 (up (up f 3 (some (.d (.int β)))) 11 (some (.d (tD s))))) (.comp (.bin .Sub (.bin .Add (.bin .Add (.v 3) (.idx (.v 11) (.v 23))) (.c (.int 2))) (.v 23)) [(.mk (.v 23) (.tup [(.c (.int 2)),(.c (.int 1)),(.c (.int 0))]) [])])=
  some (.list [.int ((β:Int)+s.2.2+2-2),.int ((β:Int)+s.2.1+2-1),.int ((β:Int)+s.1+2-0)]):=by kernel_rfl
 rw [show (β:Int)+s.2.2+2-2=((β+s.2.2:Nat):Int) by lia,show (β:Int)+s.2.1+2-1=((β+s.2.1+1:Nat):Int) by lia,show (β:Int)+s.1+2-0=((β+s.1+2:Nat):Int) by lia] at h
 exact zag h
noncomputable def d3 {α:Type} (u v:Bool) (a b c:α):List α:=a::((bif u then [b] else [])++(bif v then [c] else []))
theorem zq4 {α:Type} {p:α ->Bool} {a b c:α} (h:p a=true):[a,b,c].filter p=d3 (p b) (p c) a b c:=by
 refine za (List.filter_cons_of_pos h) ?_
 cases hb:p b<;>cases hc:p c<;>simp only [List.filter,hb,hc]<;>rfl
theorem zva {α β:Type} (g:α ->β) (u v:Bool) (a b c:α):(d3 u v a b c).map g=d3 u v (g a) (g b) (g c):=by
 cases u<;>cases v<;>rfl
theorem ld3 {α:Type} (u v:Bool) (a b c:α):(d3 u v a b c).length<=3:=by
 cases u<;>cases v<;>(show _<=3;unfold d3;simp)
def dd (x y z:Nat):List Nat:=d3 (!decide (y=x)) (!decide (z=y)) x y z
noncomputable def ntP (l:List Nat) (q:Nat×Nat):Bool:= !((l.take q.1).map λ(u:Nat)=>PyData.int u).any λu=>PyData.eqv u (.int (q.2:Int))
theorem ztv {x y z:Nat} (h1:x<=y) (h2:y<=z) (h12:f 12=some (.d (.list (dI [x,y,z])))):zg (run tbl (m+20)) (fr 65 f) eb5=some (fr 65 (up f 12 (some (.d (.list (dI (dd x y z)))))),.next):=by
 refine zF (zq h12) ?_
 have n1:ntP [x,y,z] (1,y)= !decide (y=x):=by
  show (!(((x:Int)==(y:Int))||false))=_
  rw [Bool.or_false,Bool.eq_iff_iff,Bool.not_eq_true',Bool.not_eq_true',beq_eq_false_iff_ne,decide_eq_false_iff_not];exact ⟨λh e=>h (congrArg _ e.symm),λh e=>h (Int.ofNat.inj e).symm⟩
 have n2:ntP [x,y,z] (2,z)= !decide (z=y):=by
  show (!(((x:Int)==(z:Int))|| (((y:Int)==(z:Int))||false)))=_
  rw [Bool.or_false,Bool.eq_iff_iff,Bool.not_eq_true',Bool.not_eq_true',Bool.or_eq_false_iff,beq_eq_false_iff_ne,beq_eq_false_iff_ne,decide_eq_false_iff_not];exact ⟨λh e=>h.2 (congrArg _ e.symm),λh=>⟨λe=>h (Nat.le_antisymm (Int.ofNat.inj e▸h1) h2),λe=>h (Int.ofNat.inj e).symm⟩⟩
 have c:=zdt (S:=run tbl (m+19)) (ρ:=fr 65 (up f 12 (some (.d (.list (dI [x,y,z])))))) (t:= .t [.v 23,.v 24]) (it:= .enm (.v 12)) (elt:= .v 24) (ifs:=[(.cmp .NotIn (.v 24) (.sl (.v 12) none (some (.v 23)) none))]) (xs:=[(0,x),(1,y),(2,z)]) (g:=λq:Nat×Nat=> .tuple [.int (q.1:Int),.int (q.2:Int)]) (p:=ntP [x,y,z]) (h:=λq=> .int (q.2:Int)) (zoZ (d:= .list (dI [x,y,z])) (xs:=dI [x,y,z]) (by kernel_rfl) rfl (show 3<=big by decide)) λq hq=>by
  have:q=(0,x) \/q=(1,y) \/q=(2,z):=by simpa using hq
  rcases this with e|e|e<;>subst e<;>exact ⟨_,rfl,zjk (t_b (by kernel_rfl)),λ_=>by kernel_rfl⟩
 rw [zq4 (by rfl),n1,n2,zva] at c
 refine zag ((zY c (zv (ld3 ..) (show 3<=1000 by decide))).trans (congrArg (λl=>some (PyData.list l)) ?_))
 unfold dI dd
 rw [zva]
theorem zmm {b:Nat} (h:b<33):zaZ .Pow (.int 2) (.int (b:Int))=some (.int ((2^b:Nat):Int)):=by
 show (if 0<=(b:Int)/\ (zo 2:Int)*(b:Int)<=2^27 then some (PyData.int ((2:Int)^(b:Int).toNat)) else none)=_
 refine za (if_pos ⟨Int.natCast_nonneg b,by refine za (show zo 2=2 from by kernel_rfl) ?_;exact Int.le_trans (Int.mul_le_mul_of_nonneg_left (Int.ofNat_le.mpr (Nat.le_of_lt h)) (by decide)) (by decide)⟩) ?_
 rw [Int.toNat_natCast]
 push_cast;rfl
theorem zpp:∀(bs:List Nat) (a:Int),zdx (bs.map λ(b:Nat)=> .int ((2^b:Nat):Int)) a=some (a+(fvN bs:Nat))
 | [],a=>congrArg some (Int.add_zero a).symm
 |b::bs,a=>by
  refine (zpp bs (a+(2^b:Nat))).trans (congrArg some ?_)
  rw [Int.add_assoc,<-Int.natCast_add];rfl
def tlS (bs:List Nat):Str:=Txt.join (Str.ofString ", ") (bs.map nmS)
theorem ztw (h0:tbl 0=some (.code 1 60 zhe)) {bs:List Nat} (hb:bs≠[]) (hp:bs.Pairwise (· < ·)) (h:∀b∈bs,b<33) (hl:bs.length<=3) (h12:f 12=some (.d (.list (dI bs)))):
  zg (run tbl (m+20)) (fr 65 f) eb6=some (fr 65 (up (up f 13 (some (.d (.str (tlS bs))))) 14 (some (.m []))),.next):=by
 refine zF (zq h12) ?_
 have c:=z6 (S:=run tbl (m+17)) (ρ:=fr 65 (up f 12 (some (.d (.list (dI bs)))))) (t:= .v 23) (it:= .v 12) (elt:= .bin .Pow (.c (.int 2)) (.v 23)) (xs:=bs) (g:=λ(b:Nat)=> .int (b:Int)) (h:=λ(b:Nat)=> .int ((2^b:Nat):Int)) (zel (d:= .list (dI bs)) (by kernel_rfl) rfl (by rw [List.length_map];exact zv hl (by decide)))
  λb hb=>⟨((fr 65 (up f 12 (some (.d (.list (dI bs)))))).set 23 none).set 23 (some (.d (.int (b:Int)))),rfl,zr (n:=m+16) rfl (by kernel_rfl) (zmm (h b hb))⟩
 have lc:(bs.map λ(b:Nat)=>PyData.int ((2^b:Nat):Int)).length<=3:=by rw [List.length_map];exact hl
 have s:=zho (b:= .sum) (by decide) (zaa (zY c (zv lc (by decide)))) ((if_pos (zv lc (by decide))).trans (congrArg (Option.map PyData.int) (zpp bs 0)))
 rw [Int.zero_add] at s
 refine (bS (zan (n:=m+19) (zaa s) (zpo (m:=m+7) h0 hb hp h hl)) (bS (x:= .list []) (by kernel_rfl) rfl)).trans ?_
 show some (((fr 65 _).set 13 _).set 14 _,Fl.next)=_
 rw [z5,z5];rfl
theorem ztx {bs:List Nat} {own:Bool} (h:∀b∈bs,b<33) (hl:bs.length<=3) (h4:f 4=some (.d (.bool own))) (h5:f 5=some (.d zi4)) (h12:f 12=some (.d (.list (dI bs)))) (h13:f 13=some (.d (.str (tlS bs)))):
  zg (run tbl (m+20)) (fr 65 f) eb7=some (fr 65 f,.next):=by
 cases own
 ·exact zaV (n:=m+19) (t_d (d:= .bool false) (zfN (n:=m+19) (zke (zaq (by decide) h4) rfl)) rfl) rfl
 ·have c:=z6 (S:=run tbl (m+16)) (ρ:=fr 65 f) (t:= .v 23) (it:= .v 12) (elt:= .ite (.cmp .Lt (.v 23) (.c (.int 10))) (.idx (.v 5) (.v 23)) (.bi .hex [(.bin .Pow (.c (.int 2)) (.v 23))])) (xs:=bs) (g:=λ(b:Nat)=> .int (b:Int)) (h:=PyData.str∘nmS) (zel (zji (by decide) h12) rfl (by rw [List.length_map];exact zv hl (by decide)))
   λb hb=>⟨_,zao ..,by
    have o:=(zio (h b hb)).2.2.2.1
    have T:zbZ (run tbl (m+15)) (fr 65 (up f 23 (some (.d (.int (b:Int)))))) (.cmp .Lt (.v 23) (.c (.int 10)))=some (decide ((b:Int)<10)):=t_b (by kernel_rfl)
    by_cases lt:b<10
    ·rw [decide_eq_true (by lia)] at T
     rw [zq2,if_pos lt] at o
     exact x_T (n:=m+15) T (zaY (n:=m+14) (zcG (by decide) h5) (zaq (by decide) rfl) o)
    ·rw [decide_eq_false (by lia)] at T
     rw [zq2,if_neg lt] at o
     exact x_F (n:=m+15) T (zho (b:= .hex) (by decide) (zaa (zr (n:=m+13) rfl (zaq (by decide) rfl) (zmm (h b hb)))) ((zlw (h b hb)).trans o))⟩
  rw [<-List.map_map] at c
  have J:=zeQ (n:=m+17) (m:= .join) (a:= .c (.str (Str.ofString ", "))) rfl (zaa (zY c (by rw [List.length_map,List.length_map];exact zv hl (by decide)))) (zmj bs hl h)
  have N:=zV (n:=m+18) (co:= .NotEq) (a:= .v 13) (x:= .str (tlS bs)) (c:=false) (zcG (by decide) h13) J (congrArg (Option.map (!·)) (show eqD (.str (tlS bs)) (.str (tlS bs))=some true from congrArg some (beq_self_eq_true _)))
  exact zaV (n:=m+19) (t_d (d:= .bool false) (zfN (n:=m+19) (zij (d:= .bool true) (zaq (by decide) h4) rfl N)) rfl) rfl
end One1
namespace One1
variable {tbl:Nat ->Option Fn} {m:Nat} {f:Nat ->Option PV}
def zni (w:List Nat):Prop:=∃kw,(∀r,zaw (w++r) false false=kw++zaw r false false)/\ (∀r,zc3 (w++r) false false=zc3 r false false)/\ ∀r k,zbC (kw++r) false k=zbC r false k
noncomputable def zbH:Nat ->List Nat
 |0=>[]
 |1=>[34,41,34]
 |2=>[92,40]
 |3=>[92,92]
 |4=>[34,40,34]
 |5=>[34,92,34,41,34]
 |6=>[97,92,34]
 |_=>[92,41]
theorem zir (k:Nat) (hk:k<8):zni (zbH k)/\ (zbH k).length<=6:=
 lt8 (P:=λk=>zni (zbH k)/\ (zbH k).length<=6) hk ⟨⟨[],λr=>rfl,λr=>rfl,λr k=>rfl⟩,by decide⟩ ⟨⟨[],λr=>rfl,λr=>rfl,λr k=>rfl⟩,by decide⟩ ⟨⟨[92,40],λr=>rfl,λr=>rfl,λr k=>rfl⟩,by decide⟩ ⟨⟨[92,92],λr=>rfl,λr=>rfl,λr k=>rfl⟩,by decide⟩
  ⟨⟨[],λr=>rfl,λr=>rfl,λr k=>rfl⟩,by decide⟩ ⟨⟨[],λr=>rfl,λr=>rfl,λr k=>rfl⟩,by decide⟩ ⟨⟨[97,92,34],λr=>rfl,λr=>rfl,λr k=>rfl⟩,by decide⟩ ⟨⟨[92,41],λr=>rfl,λr=>rfl,λr k=>rfl⟩,by decide⟩
noncomputable def pa (a:Nat) (p:T3):Nat:=match a with|0=>p.1|_=>p.2.1
noncomputable def pb (a:Nat) (p:T3):Nat:=match a with|0=>p.2.1|_=>p.2.2
noncomputable def sg (w:List Nat) (a c:Nat):List Nat:=if c=97+a then [40] else if c=98+a then [41] else w
def body (w:List Nat) (a:Nat) (r:List Nat):List Nat:=(r.map (sg w a)).flatten
def zbA (a:Nat) (q:T3):Bool:= !decide (pa a q<pb a q)
theorem zty {a c:Nat} (ha:a=0 \/a=1) (hc:abc c) (p:T3):(c=97+a/\ pa a (stp c p)=pa a p+1/\ pb a (stp c p)=pb a p) \/(c=98+a/\ pa a (stp c p)=pa a p/\ pb a (stp c p)=pb a p+1) \/(c≠97+a/\ c≠98+a/\ pa a (stp c p)=pa a p/\ pb a (stp c p)=pb a p):=by
 rcases ha with e|e<;>subst e<;>rcases hc with e|e|e<;>subst e
 ·exact .inl ⟨rfl,rfl,rfl⟩
 ·exact .inr (.inl ⟨rfl,rfl,rfl⟩)
 ·exact .inr (.inr ⟨by decide,by decide,rfl,rfl⟩)
 ·exact .inr (.inr ⟨by decide,by decide,rfl,rfl⟩)
 ·exact .inl ⟨rfl,rfl,rfl⟩
 ·exact .inr (.inl ⟨rfl,rfl,rfl⟩)
theorem zhq:∀(j:Nat) (e:Int),0<=e ->zbC (zaw (List.replicate j 41) false false) false ((j:Int)+e)=(e==0)/\ zc3 (List.replicate j 41) false false=false
 |0,e,h=>⟨by show ((0:Int)+e==0)=_;rw [Int.zero_add],rfl⟩
 |j+1,e,h=>by
  refine zR (zhq j e h) λh1 h2=>?_
  refine ⟨?_,h2⟩
  show (if ((j+1:Nat):Int)+e-1<0 then false else zbC (zaw (List.replicate j 41) false false) false (((j+1:Nat):Int)+e-1))=_
  refine za (show ((j+1:Nat):Int)+e-1=(j:Int)+e by lia) (za (if_neg (by lia)) ?_)
  exact za h1 rfl
theorem zeZ:∀(k:Nat) (X:List Nat) (e:Int),zbC (zaw (List.replicate k 40++X) false false) false e=zbC (zaw X false false) false (e+k)/\ zc3 (List.replicate k 40++X) false false=zc3 X false false
 |0,X,e=>⟨by refine za (show e+((0:Nat):Int)=e from Int.add_zero e) ?_;rfl,rfl⟩
 |k+1,X,e=>by
  refine zR (zeZ k X (e+1)) λh1 h2=>?_
  exact ⟨h1.trans (by exact za (show e+1+(k:Int)=e+((k+1:Nat):Int) by lia) rfl),h2⟩
theorem zq5 (P:T3 ->Bool) (r:List Nat) (p:T3) (h:P p=false):(sts r p).all P=false:=by
 cases r<;>(show (P p&&_)=false;refine za h ?_;rfl)
theorem zfs (w:List Nat) (a c:Nat) (r:List Nat):(c=97+a/\ body w a (c::r)=40::body w a r) \/(c=98+a/\ body w a (c::r)=41::body w a r) \/(c≠97+a/\ c≠98+a/\ body w a (c::r)=w++body w a r):=by
 show (_/\ sg w a c++_=_) \/(_/\ sg w a c++_=_) \/(_/\ _/\ sg w a c++_=_)
 unfold sg
 by_cases h:c=97+a
 ·refine za (if_pos h) ?_;exact .inl ⟨h,rfl⟩
 ·refine za (if_neg h) ?_
  by_cases k:c=98+a
  ·refine za (if_pos k) ?_;exact .inr (.inl ⟨k,rfl⟩)
  ·refine za (if_neg k) ?_;exact .inr (.inr ⟨h,k,rfl⟩)
theorem zis {w:List Nat} (hw:zni w) (a j:Nat):∀r:List Nat,zc3 (body w a r++List.replicate j 41) false false=false
 | []=>(zhq j 0 (Int.le_refl 0)).2
 |c::r=>by
  have ih:=zis hw a j r
  rcases zfs w a c r with ⟨_,h⟩| ⟨_,h⟩| ⟨_,_,h⟩<;>refine za h ?_
  ·exact ih
  ·exact ih
  ·refine E13 hw λkw w1 w2 w3=>?_
   clear hw
   rw [List.append_assoc,w2];exact ih
theorem zpq {a:Nat} {p:T3} (h:pb a p<=pa a p):zbA a p=true:=by
 unfold zbA;refine za (decide_eq_false (Nat.not_lt.mpr h)) ?_;rfl
theorem zhr {w:List Nat} (hw:zni w) {a:Nat} (ha:a=0 \/a=1) {j:Nat} {e:Int} (he:0<=e):∀(r:List Nat) (p:T3),(∀c∈r,abc c) ->pb a p<=pa a p ->j=pa a (lst r p)-pb a (lst r p) ->
  (e=0 \/(sts r p).all (zbA a)=true) ->zbC (zaw (body w a r++List.replicate j 41) false false) false ((pa a p:Int)-pb a p+e)=((sts r p).all (zbA a)&&e==0)
 | [],p,hr,hp,hj,_=>by
  have hj:j=pa a p-pb a p:=hj
  refine za (show (sts [] p).all (zbA a)=true by show (zbA a p&&true)=true;refine za (zpq hp) ?_;rfl) ?_
  exact za (show (pa a p:Int)-pb a p+e=(j:Int)+e by rw [hj,Int.natCast_sub hp]) ((zhq j e he).1)
 |c::r,p,hr,hp,hj,hh=>by
  have ok:(sts (c::r) p).all (zbA a)=(sts r (stp c p)).all (zbA a):=by
   show (zbA a p&&_)=_
   refine za (zpq hp) ?_
   rw [Bool.true_and]
  rw [ok] at hh |-
  have ih:=λhp=>zhr hw ha he r (stp c p) (λd hd=>hr d (List.mem_cons_of_mem _ hd)) hp hj hh
  rcases zfs w a c r with ⟨hc,eb⟩| ⟨hc,eb⟩| ⟨h1,h0,eb⟩<;>refine za eb ?_<;>rcases zty ha (hr c (List.mem_cons_self ..)) p with ⟨k1,h2,h3⟩| ⟨k1,h2,h3⟩| ⟨k1,k0,h2,h3⟩<;>try lia
  ·refine zF (ih (by lia)) ?_;refine za h2 ?_;refine za h3 ?_;refine za (show ((pa a p+1:Nat):Int)-pb a p+e=(pa a p:Int)-pb a p+e+1 by lia) ?_;rfl
  ·show (if (pa a p:Int)-pb a p+e-1<0 then false else zbC (zaw (body w a r++List.replicate j 41) false false) false ((pa a p:Int)-pb a p+e-1))=_
   by_cases lt:pb a p<pa a p
   ·refine za (if_neg (by lia)) (zF (ih (by lia)) ?_)
    refine za h2 (za h3 ?_)
    exact za (show (pa a p:Int)-((pb a p+1:Nat):Int)+e=(pa a p:Int)-pb a p+e-1 by lia) rfl
   ·have no:=zq5 (zbA a) r (stp c p) (by unfold zbA;refine za h2 ?_;refine za h3 ?_;refine za (decide_eq_true (by lia)) ?_;rfl)
    rw [no] at hh |-
    refine za (if_pos (by have:=hh.resolve_right nofun;lia)) ?_;rfl
  ·refine E13 (id hw) λkw w1 w2 w3=>?_
   rw [List.append_assoc,w1,w3]
   refine zF (ih (by lia)) (za h2 ?_)
   exact za h3 rfl
def ze0 (w:List Nat) (a:Nat) (r:List Nat) (p:T3):List Nat:=List.replicate (pa a p-pb a p) 40++(body w a r++List.replicate (pa a (lst r p)-pb a (lst r p)) 41)
theorem zpr {w:List Nat} (hw:zni w) {a:Nat} (ha:a=0 \/a=1) {r:List Nat} {p:T3} (hr:∀c∈r,abc c) (hp:pb a p<=pa a p):
  zbC (zaw (ze0 w a r p) false false) false 0=(sts r p).all (zbA a)/\ ((sts r p).all (zbA a)=true ->zbC (zaw (40::ze0 w a r p) false false) false 0=false)/\ zc3 (ze0 w a r p) false false=false:=by
 unfold ze0
 refine ⟨?_,λh=>?_,by refine za (zeZ _ _ 0).2 ?_;exact zis hw a _ r⟩
 ·have:=zhr hw ha (Int.le_refl 0) r p hr hp rfl (.inl rfl)
  rw [Int.add_zero] at this
  refine za (zeZ _ _ 0).1 (za (show (0:Int)+((pa a p-pb a p:Nat):Int)=(pa a p:Int)-pb a p from (Int.zero_add _).trans (Int.natCast_sub hp)) ?_)
  refine za this ?_
  rw [Bool.and_eq_left_iff_imp]
  exact λ_=>rfl
 ·have:=zhr hw ha (e:=1) (by decide) r p hr hp rfl (.inr h)
  show zbC (zaw (List.replicate (pa a p-pb a p) 40++_) false false) false (0+1)=false
  refine za (zeZ _ _ _).1 ?_;refine za (show (0:Int)+1+((pa a p-pb a p:Nat):Int)=(pa a p:Int)-pb a p+1 by rw [Int.natCast_sub hp,Int.zero_add,Int.add_comm]) ?_;refine za this ?_;exact Bool.and_false _
end One1
namespace One1
variable {tbl:Nat ->Option Fn} {m:Nat} {f:Nat ->Option PV}
theorem ztz (h0 h1:List Nat) {a c:Nat} (ha:a=0 \/a=1) (hc:abc c) (g:Nat ->Option PV):(run tbl (m+19)).ex (fr 65 (up (up (up g 2 (some (.d (.list [rD h0,rD h1])))) 10 (some (.d (.int (a:Int))))) 23 (some (.d (cD c))))) (.ite (.cmp .Eq (.v 23) (.idx (.c (.str "abc")) (.v 10))) (.c (.str "(")) (.ite (.cmp .Eq (.v 23) (.idx (.c (.str "abc")) (.bin .Add (.v 10) (.c (.int 1))))) (.c (.str ")")) (.idx (.v 2) (.v 10))))=some (rD (sg (if a=0 then h0 else h1) a c)):=by
 rcases ha with e|e<;>refine za e ?_<;>rcases hc with e|e|e<;>refine za e ?_<;>kernel_rfl
theorem zq6 {h0 h1:List Nat} {a:Nat} (ha:a=0 \/a=1) {r:List Nat} (hr:∀c∈r,abc c) (hl:r.length<=20) (h2:f 2=some (.d (.list [rD h0,rD h1]))) (h7:f 7=some (.d (rD r))) (h10:f 10=some (.d (.int (a:Int)))):
  zg (run tbl (m+20)) (fr 65 f) zo2=some (fr 65 (up f 15 (some (.d (.list ((r.map (sg (if a=0 then h0 else h1) a)).map rD))))),.next):=by
 have c:=z6 (S:=run tbl (m+19)) (ρ:=fr 65 f) (t:= .v 23) (it:= .v 7) (xs:=r) (g:=cD) (h:=rD∘sg (if a=0 then h0 else h1) a) (zel (zji (by decide) h7) rfl (by rw [List.length_map];exact zv hl (by decide))) λc hc=>⟨_,zao ..,by
   have k:=ztz (tbl:=tbl) (m:=m) h0 h1 ha (hr c hc) f
   rw [zq h2,zq h10] at k
   exact k⟩
 rw [<-List.map_map] at c
 exact zag (zY c (by rw [List.length_map,List.length_map];lia))
theorem zps (x y:List Nat):zw x++zw y=zw (x++y):=by
 refine zF (zbO (zw x++zw y)) ?_
 congr 1
 show ((zw x).cps++(zw y).cps).toList=_
 refine za Array.toList_append ?_;rfl
theorem zmn (c:Nat) {n:Int} (h1: -1000<=n) (h2:n<=1000):zaZ .Mult (rD [c]) (.int n)=some (rD (List.replicate n.toNat c)):=by
 have hb:(zw [c]).length*n.toNat<=big/\ -(big:Int)<=n/\ n<=(big:Int):=by
  refine za (show (zw [c]).length=1 from rfl) ?_;refine za (show big=1000000 from rfl) ?_;exact ⟨by rw [Nat.one_mul];exact Int.toNat_le.mpr (Int.le_trans h2 (by decide)),Int.le_trans (by decide) h1,Int.le_trans h2 (by decide)⟩
 refine (if_pos hb).trans (congrArg (λx=>some (PyData.str x)) ?_)
 exact zF (zbO (Txt.mul (zw [c]) n)) (congrArg zw (PyProof.Rows.mul_one_list c n))
theorem add_str {x y:List Nat} (h:x.length+y.length<=1000):zaZ .Add (rD x) (rD y)=some (rD (x++y)):=
 (if_pos (zv h (show 1000<=big by decide))).trans (congrArg (λx=>some (PyData.str x)) (zps x y))
theorem zlx {w:List Nat} (hw:w.length<=6) (a:Nat):∀r:List Nat,(body w a r).length<=6*r.length
 | []=>Nat.le_refl 0
 |c::r=>by
  have:=zlx hw a r
  refine za List.length_cons ?_
  rcases zfs w a c r with ⟨_,h⟩| ⟨_,h⟩| ⟨_,_,h⟩<;>refine za h ?_
  ·refine za List.length_cons ?_;lia
  ·refine za List.length_cons ?_;lia
  ·refine za List.length_append ?_;lia
theorem zkt {w:List Nat} (hw:w.length<=6) {a:Nat} {r:List Nat} {p:T3} (hl:r.length<=20) (h1:pa a p<=30) (h2:pa a (lst r p)<=30):(ze0 w a r p).length<=300:=by
 have:=zlx hw a r
 unfold ze0
 refine za List.length_append ?_;refine za List.length_append ?_;refine za List.length_replicate ?_;refine za List.length_replicate ?_;exact zv (Nat.add_le_add (zv (Nat.sub_le _ _) h1) (Nat.add_le_add (zv this (Nat.mul_le_mul_left 6 hl)) (zv (Nat.sub_le _ _) h2))) (by decide)
theorem zvb {x y:Nat} (h:y<=30): -1000<=(x:Int)-y:=Int.le_trans (by decide:(-1000:Int)<=0-30) (Int.sub_le_sub (Int.natCast_nonneg x) (Int.ofNat_le.mpr h))
theorem zvc {x y:Nat} (h:x<=30):(x:Int)-y<=1000:=Int.le_trans (Int.sub_le_sub (Int.ofNat_le.mpr h) (Int.natCast_nonneg y)) (by decide:(30:Int)-0<=1000)
theorem zly {a:Nat} (ha:a=0 \/a=1) (p:T3):zbf (tD p) (.int (a:Int))=some (.int (pa a p)):=by rcases ha with e|e<;>refine za e ?_<;>rfl
theorem zlz {a:Nat} (ha:a=0 \/a=1) (p:T3):zbf (tD p) (.int ((a:Int)+1))=some (.int (pb a p)):=by rcases ha with e|e<;>refine za e ?_<;>rfl
theorem zq7 {w:List Nat} (hw:w.length<=6) {a:Nat} (ha:a=0 \/a=1) {r:List Nat} (hl:r.length<=20) {p:T3} {xs:List PyData} (h1':pa a p<=30) (h2':pa a (lst r p)<=30) (h3':pb a p<=30) (h4':pb a (lst r p)<=30) (h1:f 1=some (.d (tD p))) (h8:f 8=some (.d (.list xs))) (hi:zbf (.list xs) (.int (-1))=some (tD (lst r p)))
  (h15:f 15=some (.d (.list ((r.map (sg w a)).map rD)))) (h10:f 10=some (.d (.int (a:Int)))):
  zg (run tbl (m+20)) (fr 65 f) zo3=some (fr 65 (up f 16 (some (.d (rD (ze0 w a r p))))),.next):=by
 have n:∀x y:Nat,((x:Int)-y).toNat=x-y:=Int.toNat_sub
 have A:=zmn 40 (n:=(pa a p:Int)-pb a p) (zvb h3') (zvc h1')
 have B:=zmn 41 (n:=(pa a (lst r p):Int)-pb a (lst r p)) (zvb h4') (zvc h2')
 have J:=zlr (C:=r.map (sg w a)) (by rw [List.length_map];have:=zlx hw a r;show (body w a r).length+_<=1000000;lia)
 have L:(run tbl (m+16)).ex (fr 65 f) (.idx (.v 8) (.neg (.c (.int 1))))=some (tD (lst r p)):=zaY (n:=m+15) (y:= .int (-1)) (zcG (by decide) h8) rfl hi
 have X:=zr (tbl:=tbl) (ρ:=fr 65 f) (n:=m+16) (op:= .Sub) (zaY (n:=m+15) (zcG (by decide) h1) (zaq (by decide) h10) (zly ha p)) (zaY (n:=m+15) (zcG (by decide) h1) (zr (n:=m+14) (op:= .Add) (b:= .c (.int 1)) (zaq (by decide) h10) rfl rfl) (zlz ha p)) rfl
 have Y:=zr (n:=m+17) (op:= .Sub) (zaY (n:=m+16) (a:= .idx (.v 8) (.neg (.c (.int 1)))) L (zaq (by decide) h10) (zly ha (lst r p))) (zaY (n:=m+16) (a:= .idx (.v 8) (.neg (.c (.int 1)))) L (zr (n:=m+15) (op:= .Add) (b:= .c (.int 1)) (zaq (by decide) h10) rfl rfl) (zlz ha (lst r p))) rfl
 rw [n] at A B
 have tl:=zkt hw (p:=p) hl h1' h2'
 unfold ze0 body at tl
 rw [List.length_append,List.length_append] at tl
 have Z:=zr (n:=m+19) (op:= .Add) (zr (n:=m+18) (op:= .Add) (zr (n:=m+17) (op:= .Mult) (a:= .c (.str "(")) rfl X A) (zeQ (n:=m+17) (m:= .join) (a:= .c (.str "")) rfl (zaa (zaq (by decide) h15)) J) (add_str (by lia))) (zr (n:=m+18) (op:= .Mult) (a:= .c (.str ")")) rfl Y B) (add_str (by refine za List.length_append ?_;lia))
 rw [List.append_assoc] at Z
 exact zag Z
def Cm (d:PyData):Prop:=d.canLay0=true/\ d.depth<=10
theorem zjl:∀{l:List PyData},(∀d∈l,Cm d) ->PyData.canLayAll0 l=true/\ PyData.depthAll l<=10
 | [],_=>⟨rfl,Nat.zero_le _⟩
 |d::l,h=>by
  refine zR (h d (List.mem_cons_self ..)) λa b=>?_
  refine zR (zjl λe he=>h e (List.mem_cons_of_mem _ he)) λu v=>?_
  exact ⟨by show (d.canLay0&&_)=true;refine za a ?_;refine za u ?_;rfl,Nat.max_le.mpr ⟨b,v⟩⟩
theorem zku {l:List PyData} (h:∀d∈l,Cm d):okD (.list l)=true:=by
 refine zR (zjl h) λa b=>?_
 exact Bool.and_eq_true_iff.mpr ⟨a,decide_eq_true (show PyData.depthAll l+1<=64 by lia)⟩
theorem ztA {α:Type} (g:α ->PyData) (h:∀x,Cm (g x)) (l:List α):okD (.list (l.map g))=true:=zku λd hd=>let ⟨x,_,e⟩:=List.mem_map.mp hd;e▸h x
theorem zq8 (p:T3 ->Bool) (S:List T3):PyData.eqvAll ((S.filter p).map tD) []=S.all (λq=> !p q):=by
 induction S with
 |nil=>rfl
 |cons q S ih=>
  cases h:p q with
  |true=>refine za (List.filter_cons_of_pos h) ?_;refine za List.all_cons ?_;refine za h ?_;rfl
  |false=>refine za (List.filter_cons_of_neg (by refine za h ?_;decide)) ?_;refine za ih ?_;refine za List.all_cons ?_;refine za h ?_;rfl
theorem zq9 {a:Nat} (ha:a=0 \/a=1) {S:List T3} (hl:S.length<=500) (h8:f 8=some (.d (.list (S.map tD)))) (h10:f 10=some (.d (.int (a:Int)))):
  zg (run tbl (m+20)) (fr 65 f) zo5=some (fr 65 (up f 17 (some (.d (.bool (S.all (zbA a)))))),.next):=by
 have c:=zdt (S:=run tbl (m+18)) (ρ:=fr 65 f) (t:= .v 23) (it:= .v 8) (elt:= .v 23) (ifs:=[(.cmp .Lt (.idx (.v 23) (.v 10)) (.idx (.v 23) (.bin .Add (.v 10) (.c (.int 1)))))]) (xs:=S) (g:=tD) (p:=λq=>decide (pa a q<pb a q)) (h:=tD)
  (zel (zji (by decide) h8) rfl (by rw [List.length_map];exact zv hl (by decide))) λq hq=>⟨_,zao ..,zjk (t_b (zV (n:=m+17) (a:= .idx (.v 23) (.v 10)) (zaY (n:=m+16) (zcG (by decide) rfl) (zaq (by decide) h10) (zly ha q)) (zaY (n:=m+16) (zcG (by decide) rfl) (zr (n:=m+15) (op:= .Add) (b:= .c (.int 1)) (zaq (by decide) h10) rfl rfl) (zlz ha q)) (congrArg some (zjj _ _)))),λ_=>zaq (by decide) rfl⟩
 have e:eqD (.list ((S.filter λq=>decide (pa a q<pb a q)).map tD)) (.list [])=some (S.all (zbA a)):=by
  have o:okD (.list ((S.filter λq=>decide (pa a q<pb a q)).map tD))=true:=ztA tD (λq=>⟨rfl,by show 1<=10;decide⟩) _
  show (if okD _&&okD (.list []) then some (PyData.eqvAll ((S.filter λq=>decide (pa a q<pb a q)).map tD) []) else none)=_
  refine za o (za (if_pos (by rfl)) ?_)
  exact congrArg some (zq8 _ S)
 exact zag (zV (n:=m+19) (co:= .Eq) (zY (n:=m+18) c (by rw [List.length_map];have:=List.length_filter_le (λq=>decide (pa a q<pb a q)) S;lia)) (by kernel_rfl) e)
theorem zra (h8':tbl 8=some (.code 1 60 strB)) (h9':tbl 9=some (.code 1 60 parB)) {T:List Nat} {tk:List PyData} (hT:T.length<=300) (he:zc3 T false false=false) (h14:f 14=some (.m tk)) (hl:tk.length<=10) (h16:f 16=some (.d (rD T))):
  zg (run tbl (m+30)) (fr 65 f) zo6=some (fr 65 (up f 14 (some (.m (tk++[.bool (zbC (zaw T false false) false 0)])))),.next):=by
 exact (zds (xs:=tk) (zr4 (by decide) h14) (zan (n:=m+29) (zaa (zaq (by decide) h16)) (zko (n:=m+9) h8' h9' (zv hT (by decide)) he)) (zv hl (by decide))).trans (by rw [z5])
theorem zrb (h8':tbl 8=some (.code 1 60 strB)) (h9':tbl 9=some (.code 1 60 parB)) {own g:Bool} {a:Nat} {T:List Nat} {tk out:List PyData} (hT:T.length<=300) (he:zc3 T false false=false) (hg:g=true ->zbC (zaw (40::T) false false) false 0=false) (h4:f 4=some (.d (.bool own))) (h6:f 6=some (.m out)) (h10:f 10=some (.d (.int (a:Int)))) (h14:f 14=some (.m tk)) (hi:zbf (.list tk) (.int (a:Int))=some (.bool g)) (h16:f 16=some (.d (rD T))) (h17:f 17=some (.d (.bool g))) (ho:∀d∈out,Cm d):
  zg (run tbl (m+40)) (fr 65 f) zo7=some (fr 65 f,.next):=by
 have v4:=zaq (tbl:=tbl) (n:=m+38) (k:=65) (by decide) h4
 have v17:∀k,(run tbl (k+1)).ex (fr 65 f) (.v 17)=some (.bool g):=λk=>zaq (by decide) h17
 have A:=zV (n:=m+37) (co:= .IsNot) (a:= .idx (.v 14) (.v 10)) (x:= .bool g) (y:= .bool g) (c:=false) (zaY (n:=m+36) (zjh (by decide) h14) (zaq (by decide) h10) hi) (v17 _) (by cases g<;>rfl)
 have C:=zV (tbl:=tbl) (n:=m+36) (ρ:=fr 65 f) (co:= .Eq) (a:= .v 6) (b:= .lst []) (y:= .list []) (c:=PyData.eqvAll out []) (zjh (by decide) h6) rfl (by show (if okD _&&_ then _ else _)=_;refine za (zku ho) ?_;rfl)
 have B:zgf (run tbl (m+37)) (fr 65 f) [(.cmp .Eq (.v 6) (.lst [])),(.v 17),(.cmp .IsNot (.call 9 [(.bin .Add (.c (.str "(")) (.v 16))]) (.c (.bool false)))]=some (.bool false):=by
  cases hc:PyData.eqvAll out [] with
  |false=>rw [hc] at C;exact zke C rfl
  |true=>
   rw [hc] at C
   refine zij C rfl ?_
   cases g with
   |false=>exact zke (v17 _) rfl
   |true=>
    have k:=zko (n:=m+15) h8' h9' (T:=40::T) (by refine za List.length_cons ?_;lia) he
    rw [hg rfl] at k
    exact zij (v17 _) rfl (zV (n:=m+36) (co:= .IsNot) (a:= .call 9 _) (x:= .bool false) (c:=false) (zan (n:=m+35) (zaa (zr (n:=m+34) (x:=rD [40]) rfl (zaq (by decide) h16) (add_str (by show 1+T.length<=1000;lia)))) k) rfl rfl)
 refine zaV (n:=m+39) ?_ rfl
 cases own
 ·exact t_d (zfN (n:=m+39) (zke v4 rfl)) rfl
 ·exact t_d (zfN (n:=m+39) (zij v4 rfl (zuX (n:=m+38) (zs8 A rfl (zfN (n:=m+37) B))))) rfl
theorem ztC {g0 g1:Bool} {out xs:List PyData} {q:T3} {t:PyData} (h6:f 6=some (.m out)) (h8:f 8=some (.d (.list xs))) (hi:zbf (.list xs) (.int (-1))=some (tD q)) (h13:f 13=some (.d t)) (h14:f 14=some (.m [.bool g0,.bool g1])) (hl:out.length<=500):
  zg (run tbl (m+20)) (fr 65 f) eb9=some (fr 65 (if g0&&g1 then up f 6 (some (.m (out++[.tuple [t,tD q]]))) else f),.next):=by
 have A:(run tbl (m+19)).ex (fr 65 f) (.cmp .Is (.idx (.v 14) (.c (.int 0))) (.c (.bool true)))=some (.bool g0):=zV (n:=m+18) (y:= .bool true) (zaY (n:=m+17) (y:= .int 0) (zjh (by decide) h14) rfl rfl) rfl (by cases g0<;>rfl)
 have B:(run tbl (m+19)).ex (fr 65 f) (.cmp .Is (.idx (.v 14) (.c (.int 1))) (.c (.bool true)))=some (.bool g1):=zV (n:=m+18) (y:= .bool true) (zaY (n:=m+17) (y:= .int 1) (zjh (by decide) h14) rfl rfl) rfl (by cases g1<;>rfl)
 cases g0
 ·exact zaV (n:=m+19) (t_d (zfN (n:=m+19) (zke A rfl)) rfl) rfl
 ·cases g1
  ·exact zaV (n:=m+19) (t_d (zfN (n:=m+19) (zij A rfl B)) rfl) rfl
  ·refine zb5 (n:=m+19) (t_d (zfN (n:=m+19) (zij A rfl B)) rfl) (zj ((zds (xs:=out) (zr4 (by decide) h6) (zfM (n:=m+18) (zap (d:=t) (zaq (by decide) h13) (zaa (zaY (n:=m+17) (y:= .int (-1)) (zcG (by decide) h8) rfl hi)))) (zv hl (by decide))).trans (by rw [z5];rfl)) rfl)
end One1
namespace One1
variable {tbl:Nat ->Option Fn} {m:Nat} {f:Nat ->Option PV}
theorem ze1:∀(r:List Nat) (p:T3),∃pre,sts r p=pre++[lst r p]/\ pre.length=r.length
 | [],p=>⟨[],rfl,rfl⟩
 |c::r,p=>by
  refine zm (ze1 r (stp c p)) λpre h k=>?_
  exact ⟨p::pre,by show p::sts r (stp c p)=_;refine za h ?_;rfl,congrArg (· +1) k⟩
theorem zjm {r:List Nat} (hl:r.length<=20) (p:T3):zbf (.list ((sts r p).map tD)) (.int (-1))=some (tD (lst r p)):=by
 refine zm (ze1 r p) λpre h k=>?_
 refine za h (za List.map_append ?_)
 exact ziq (by rw [List.length_map];lia)
def shw (r:List Nat) (p:T3):T3:=((sts r p).filter bad).headD (lst r p)
def ze2 (β:Nat) (s:T3):List Nat:=dd (β+s.2.2) (β+s.2.1+1) (β+s.1+2)
def gd (p:T3) (r:List Nat):Bool:=(sts r p).all (zbA 0)&&(sts r p).all (zbA 1)
def E (β:Nat) (p:T3) (r:List Nat):PyData:= .tuple [.str (tlS (ze2 β (shw r p))),tD (lst r p)]
structure OkR (p:T3) (r:List Nat):Prop where
 abc:∀c∈r,abc c
 len:r.length<=20
 s1:(shw r p).2.2<=(shw r p).2.1+1
 s2:(shw r p).2.1<=(shw r p).1+1
 s3:(shw r p).1<=5
 l1:(lst r p).1<=30
 l2:(lst r p).2.1<=30
 l3:(lst r p).2.2<=30
structure OkP (p:T3):Prop where
 a:p.2.1<=p.1
 b:p.2.2<=p.2.1
 c:p.1<=30
structure Hid (w:List Nat):Prop where
 n:zni w
 l:w.length<=6
theorem zrc {tk:List PyData} {x:PyData} {a:Nat} (ha:a=0 \/a=1) (hk:tk.length=a):zbf (.list (tk++[x])) (.int (a:Int))=some x:=by
 subst hk
 cases tk with
 |nil=>rfl
 |cons d l=>
  cases l with
  |nil=>rfl
  |cons e l=>exact absurd ha (by simp)
theorem zpt (h8':tbl 8=some (.code 1 60 strB)) (h9':tbl 9=some (.code 1 60 parB)) {h0 h1 r:List Nat} {p:T3} {own:Bool} {out tk:List PyData} (H0:Hid h0) (H1:Hid h1) (R:OkR p r) (P:OkP p) {a:Nat} (ha:a=0 \/a=1) (ho:∀d∈out,Cm d) (hk:tk.length=a)
  (i1:f 1=some (.d (tD p))) (i2:f 2=some (.d (.list [rD h0,rD h1]))) (i4:f 4=some (.d (.bool own))) (i6:f 6=some (.m out)) (i7:f 7=some (.d (rD r))) (i8:f 8=some (.d (.list ((sts r p).map tD)))) (i10:f 10=some (.d (.int (a:Int)))) (i14:f 14=some (.m tk)):
  ∃x y z,zE (run tbl (m+40)) [zo2,zo3,zo4,zo5,zo6,zo7] (fr 65 f)=some (fr 65 (up (up (up (up f 15 x) 16 y) 17 z) 14 (some (.m (tk++[.bool ((sts r p).all (zbA a))])))),.next):=by
 have W:Hid (if a=0 then h0 else h1):=by split<;>assumption
 have hp:pb a p<=pa a p/\ pa a p<=30/\ pb a p<=30/\ pa a (lst r p)<=30/\ pb a (lst r p)<=30:=by
  rcases ha with e|e<;>subst e
  ·exact I05 P.a P.c (zv P.a P.c) R.l1 R.l2
  ·exact I05 P.b (zv P.a P.c) (zv P.b (zv P.a P.c)) R.l2 R.l3
 refine E03 (zpr W.n ha R.abc hp.1) λb1 b2 b3=>?_
 have tl:=zkt W.l (p:=p) R.len hp.2.1 hp.2.2.2.1
 have len:(sts r p).length<=500:=by
  refine zm (ze1 r p) λpre h k=>?_
  refine za h ?_;refine za List.length_append ?_;refine za k ?_;have:=R.len;show _+1<=_;lia
 have S0:=zq6 (tbl:=tbl) (m:=m+20) ha R.abc R.len i2 i7 i10
 have S1:=zq7 (tbl:=tbl) (m:=m+20) (f:=up f 15 (some (.d (.list ((r.map (sg (if a=0 then h0 else h1) a)).map rD))))) W.l ha R.len hp.2.1 hp.2.2.2.1 hp.2.2.1 hp.2.2.2.2 i1 i8 (zjm R.len p) rfl i10
 generalize ze0 (if a=0 then h0 else h1) a r p=T at *
 generalize some (PV.d (.list ((r.map (sg (if a=0 then h0 else h1) a)).map rD)))=x at *
 have S3:=zq9 (tbl:=tbl) (m:=m+20) (f:=up (up f 15 x) 16 (some (.d (rD T)))) ha len i8 i10
 have S4:=zra (tbl:=tbl) (m:=m+10) (f:=up (up (up f 15 x) 16 (some (.d (rD T)))) 17 (some (.d (.bool ((sts r p).all (zbA a)))))) h8' h9' tl b3 i14 (by lia) rfl
 have S5:=zrb (tbl:=tbl) (m:=m) (f:=up (up (up (up f 15 x) 16 (some (.d (rD T)))) 17 (some (.d (.bool ((sts r p).all (zbA a)))))) 14 (some (.m (tk++[.bool (zbC (zaw T false false) false 0)])))) h8' h9' (T:=T) (g:=(sts r p).all (zbA a)) tl b3 b2 i4 i6 i10 rfl (by refine za b1 ?_;exact zrc ha hk) rfl rfl ho
 have S2:zg (run tbl (m+40)) (fr 65 (up (up f 15 x) 16 (some (.d (rD T))))) zo4=some (fr 65 (up (up f 15 x) 16 (some (.d (rD T)))),.next):=by
  refine zF (zq i8) ?_;kernel_rfl
 rw [b1] at S4 S5
 exact ⟨x,some (.d (rD T)),some (.d (.bool ((sts r p).all (zbA a)))),zj S0 (zj S1 (zj S2 (zj S3 (zj S4 (zj S5 rfl)))))⟩
theorem ztD (h8':tbl 8=some (.code 1 60 strB)) (h9':tbl 9=some (.code 1 60 parB)) {h0 h1 r:List Nat} {p:T3} {own:Bool} {out:List PyData} (H0:Hid h0) (H1:Hid h1) (R:OkR p r) (P:OkP p) (ho:∀d∈out,Cm d)
  (i1:f 1=some (.d (tD p))) (i2:f 2=some (.d (.list [rD h0,rD h1]))) (i4:f 4=some (.d (.bool own))) (i6:f 6=some (.m out)) (i7:f 7=some (.d (rD r))) (i8:f 8=some (.d (.list ((sts r p).map tD)))) (i14:f 14=some (.m [])):
  ∃f',zg (run tbl (m+50)) (fr 65 f) eb8=some (fr 65 f',.next)/\ f' 14=some (.m [.bool ((sts r p).all (zbA 0)),.bool ((sts r p).all (zbA 1))])/\ ∀i,Nat.ble i 13=true ->Nat.beq i 10=false ->f' i=f i:=by
 refine E31 (zpt (tbl:=tbl) (m:=m+9) (f:=up f 10 (some (.d (.int 0)))) h8' h9' H0 H1 R P (a:=0) (.inl rfl) ho rfl i1 i2 i4 i6 i7 i8 rfl i14) λx y z k0=>?_
 refine E31 (zpt (tbl:=tbl) (m:=m+9) (f:=up (up (up (up (up (up f 10 (some (.d (.int 0)))) 15 x) 16 y) 17 z) 14 (some (.m ([]++[.bool ((sts r p).all (zbA 0))])))) 10 (some (.d (.int 1)))) h8' h9' H0 H1 R P (a:=1) (.inr rfl) ho rfl i1 i2 i4 i6 i7 i8 rfl rfl) λx' y' z' k1=>?_
 refine ⟨_,zbB (xs:=[.int 0,.int 1]) rfl ((zab (n:=m+49) (zgb ..) k0).trans ((zab (n:=m+49) (zgb ..) k1).trans rfl)),rfl,λi h1 h2=>?_⟩
 have hi:i<=13:=Nat.le_of_ble_eq_true h1
 have n:∀j,13<j ->Nat.beq i j=false:=λj hj=>Bool.eq_false_iff.mpr λh=>by have:=Nat.eq_of_beq_eq_true h;lia
 simp only [up,n 14 (by decide),n 15 (by decide),n 16 (by decide),n 17 (by decide),h2,cond_false]
theorem zkv {r:List Nat} {p:T3} (h:gd p r=true):shw r p=lst r p:=by
 have e:(sts r p).filter bad=[]:=List.filter_eq_nil_iff.mpr λq hq=>by
  have h:=Bool.and_eq_true_iff.mp h
  have a:=List.all_eq_true.mp h.1 q hq
  have b:=List.all_eq_true.mp h.2 q hq
  simp only [zbA,pa,pb,Bool.not_eq_true',decide_eq_false_iff_not] at a b
  simp only [bad,Bool.or_eq_true,decide_eq_true_eq];lia
 unfold shw;refine za e ?_;rfl
theorem pw3 {x y z:Nat} (h1:x<y) (h2:y<z):[x,y,z].Pairwise (· < ·):= .cons (λ_ h=>(List.mem_cons.mp h).elim (λe=>e▸h1) λh=>List.mem_singleton.mp h▸Nat.lt_trans h1 h2) (.cons (λ_ h=>List.mem_singleton.mp h▸h2) (.cons nofun .nil))
theorem zvd (x y z:Nat) (h1:x<=y) (h2:y<=z) (h3:z<33):(dd x y z).Pairwise (· < ·)/\ ∀b∈dd x y z,b<33:=by
 have hy:=Nat.lt_of_le_of_lt h2 h3
 have hx:=Nat.lt_of_le_of_lt h1 hy
 have w:∀a b:Nat,a<=b ->¬b=a ->a<b:=λa b h k=>Nat.lt_of_le_of_ne h λe=>k e.symm
 unfold dd
 by_cases a:y=x
 ·refine za (decide_eq_true a) ?_
  by_cases b:z=y
  ·exact za (decide_eq_true b) ⟨.cons nofun .nil,λ_ h=>List.mem_singleton.mp h▸hx⟩
  ·exact za (decide_eq_false b) ⟨(pw3 (w _ _ h2 b) (Nat.lt_succ_self z)).sublist (a▸ .cons₂ _ (.cons₂ _ (.cons _ .slnil))),λ_ h=>(List.mem_cons.mp h).elim (λe=>e▸hx) λh=>List.mem_singleton.mp h▸h3⟩
 ·refine za (decide_eq_false a) ?_
  by_cases b:z=y
  ·exact za (decide_eq_true b) ⟨(pw3 (w _ _ h1 a) (Nat.lt_succ_self y)).sublist (.cons₂ _ (.cons₂ _ (.cons _ .slnil))),λ_ h=>(List.mem_cons.mp h).elim (λe=>e▸hx) λh=>List.mem_singleton.mp h▸hy⟩
  ·exact za (decide_eq_false b) ⟨pw3 (w _ _ h1 a) (w _ _ h2 b),λ_ h=>(List.mem_cons.mp h).elim (λe=>e▸hx) λh=>(List.mem_cons.mp h).elim (λe=>e▸hy) λh=>List.mem_singleton.mp h▸h3⟩
theorem zhs {β:Nat} {s:T3} (hβ:β<=25) (h1:s.2.2<=s.2.1+1) (h2:s.2.1<=s.1+1) (h3:s.1<=5):ze2 β s≠[]/\ (ze2 β s).Pairwise (· < ·)/\ (∀b∈ze2 β s,b<33)/\ (ze2 β s).length<=3:=by
 refine zR (zvd (β+s.2.2) (β+s.2.1+1) (β+s.1+2) (by lia) (by lia) (by lia)) λk1 k2=>?_
 exact ⟨nofun,k1,k2,ld3 ..⟩
theorem zrd (h0':tbl 0=some (.code 1 60 zhe)) (h8':tbl 8=some (.code 1 60 strB)) (h9':tbl 9=some (.code 1 60 parB)) {h0 h1 r:List Nat} {p:T3} {β:Nat} {own:Bool} {out:List PyData} (H0:Hid h0) (H1:Hid h1) (R:OkR p r) (P:OkP p) (hβ:β<=25) (ho:∀d∈out,Cm d) (hl:out.length<=500)
  (i1:f 1=some (.d (tD p))) (i2:f 2=some (.d (.list [rD h0,rD h1]))) (i3:f 3=some (.d (.int (β:Int)))) (i4:f 4=some (.d (.bool own))) (i5:f 5=some (.d zi4)) (i6:f 6=some (.m out)) (i7:f 7=some (.d (rD r))):
  ∃f',zE (run tbl (m+60)) [eb0,eb1,eb2,eb3,eb4,eb5,eb6,eb7,eb8,eb9] (fr 65 f)=some (fr 65 f',.next)/\ f' 6=some (.m (if gd p r then out++[E β p r] else out))/\ ∀i,Nat.ble i 5=true ->f' i=f i:=by
 refine E04 (zhs hβ R.s1 R.s2 R.s3) λB1 B2 B3 B4=>?_
 have len:(sts r p).length<=500:=by
  refine zm (ze1 r p) λpre h k=>?_
  refine za h ?_;refine za List.length_append ?_;refine za k ?_;have:=R.len;show _+1<=_;lia
 have S0:zg (run tbl (m+60)) (fr 65 f) eb0=some (fr 65 (up (up f 9 (f 9)) 8 (some (.m ([]++[tD p])))),.next):=by
  refine za (zq (f:=f) (i:=9) rfl) (zF (zq i1) ?_)
  exact (zcR (xs:=[tD p]) (by kernel_rfl)).trans (by rw [z5];rfl)
 refine zO (zks (tbl:=tbl) (m:=m+49) r p [] f (f 9) R.abc (by have:=R.len;show 0+_<=_;lia)) λx9 L=>?_
 have S1:zg (run tbl (m+60)) (fr 65 (up (up f 9 (f 9)) 8 (some (.m ([]++[tD p]))))) eb1=some (fr 65 (up (up f 9 x9) 8 (some (.m ((sts r p).map tD)))),.next):=by
  refine zbB (zel (d:=rD r) (xs:=r.map cD) ?_ rfl (by rw [List.length_map];exact zv R.len (by decide))) L
  refine zF (zq i7) ?_;kernel_rfl
 have S2:zg (run tbl (m+60)) (fr 65 (up (up f 9 x9) 8 (some (.m ((sts r p).map tD))))) eb2=some (fr 65 (up (up f 9 x9) 8 (some (.d (.list ((sts r p).map tD))))),.next):=by
  refine (show _=some ((fr 65 (up (up f 9 x9) 8 (some (.m ((sts r p).map tD))))).set 8 (some (.d (.list ((sts r p).map tD)))),Fl.next) by kernel_rfl).trans ?_
  rw [z5]
  exact za zhp rfl
 have S3:=ztt (tbl:=tbl) (m:=m+40) (f:=up (up f 9 x9) 8 (some (.d (.list ((sts r p).map tD))))) rfl len (zjm R.len p)
 have S4:=ztu (tbl:=tbl) (m:=m+40) (f:=up (up (up f 9 x9) 8 (some (.d (.list ((sts r p).map tD))))) 11 (some (.d (tD (shw r p))))) i3 rfl
 have S5:=ztv (tbl:=tbl) (m:=m+40) (f:=up (up (up (up f 9 x9) 8 (some (.d (.list ((sts r p).map tD))))) 11 (some (.d (tD (shw r p))))) 12 (some (.d (.list (dI (bd β (shw r p))))))) (x:=β+(shw r p).2.2) (y:=β+(shw r p).2.1+1) (z:=β+(shw r p).1+2) (by have:=R.s1;lia) (by have:=R.s2;lia) rfl
 rw [zhp] at S5
 have S6:=ztw (tbl:=tbl) (m:=m+40) (f:=up (up (up (up f 9 x9) 8 (some (.d (.list ((sts r p).map tD))))) 11 (some (.d (tD (shw r p))))) 12 (some (.d (.list (dI (ze2 β (shw r p))))))) h0' B1 B2 B3 B4 rfl
 have S7:=ztx (tbl:=tbl) (m:=m+40) (own:=own) (f:=up (up (up (up (up (up f 9 x9) 8 (some (.d (.list ((sts r p).map tD))))) 11 (some (.d (tD (shw r p))))) 12 (some (.d (.list (dI (ze2 β (shw r p))))))) 13 (some (.d (.str (tlS (ze2 β (shw r p))))))) 14 (some (.m []))) B3 B4 i4 i5 rfl rfl
 refine E13 (ztD (tbl:=tbl) (m:=m+10) (own:=own) (f:=up (up (up (up (up (up f 9 x9) 8 (some (.d (.list ((sts r p).map tD))))) 11 (some (.d (tD (shw r p))))) 12 (some (.d (.list (dI (ze2 β (shw r p))))))) 13 (some (.d (.str (tlS (ze2 β (shw r p))))))) 14 (some (.m []))) h8' h9' H0 H1 R P ho i1 i2 i4 i6 i7 rfl rfl) λf8 S8 k14 k=>?_
 have S9:=ztC (tbl:=tbl) (m:=m+40) (f:=f8) ((k 6 rfl rfl).trans i6) (k 8 rfl rfl) (zjm R.len p) (k 13 rfl rfl) k14 hl
 refine ⟨_,zj S0 (zj S1 (zj S2 (zj S3 (zj S4 (zj S5 (zj S6 (zj S7 (zj S8 (zj S9 rfl))))))))),?_,λi hi=>?_⟩
 ·show (if gd p r then up f8 6 _ else f8) 6=_
  cases gd p r
  ·exact (k 6 rfl rfl).trans i6
  ·rfl
 ·have hi:=Nat.le_of_ble_eq_true hi
  have n:∀j,5<j ->Nat.beq i j=false:=λj hj=>Bool.eq_false_iff.mpr λh=>by have:=Nat.eq_of_beq_eq_true h;lia
  have e:f8 i=f i:=(k i (Nat.ble_eq.mpr (by lia)) (n 10 (by decide))).trans (by simp only [up,n 14 (by decide),n 13 (by decide),n 12 (by decide),n 11 (by decide),n 9 (by decide),n 8 (by decide),cond_false])
  show (if gd p r then up f8 6 _ else f8) i=_
  cases gd p r
  ·exact e
  ·show up f8 6 _ i=_
   simp only [up,n 6 (by decide),cond_false];exact e
end One1
namespace One1
variable {tbl:Nat ->Option Fn} {m:Nat} {f:Nat ->Option PV}
theorem zht (sep:Array Nat) (hs:sep.all (· <0x110000)=true):∀(ss:List Str) (acc:Array Nat),acc.all (· <0x110000)=true ->(∀s∈ss,PyData.strOk s=true) ->(ss.foldl (λacc p=>acc++sep++p.cps) acc).all (· <0x110000)=true
 | [],acc,ha,h=>ha
 |s::ss,acc,ha,h=>zht sep hs ss _ (by
   refine za Array.all_append (za Array.all_append ?_)
   refine za ha (za hs ?_)
   rw [Bool.true_and]
   exact h s (List.mem_cons_self ..)) λt ht=>h t (List.mem_cons_of_mem _ ht)
theorem zkw {bs:List Nat} (h:∀b∈bs,b<33):PyData.strOk (tlS bs)=true:=by
 have k:∀s∈bs.map nmS,PyData.strOk s=true:=λs hs=>by
  refine zm (List.mem_map.mp hs) λb hb q1=>?_
  obtain rfl:=q1
  exact (zio (h b hb)).2.2.2.2
 unfold tlS
 show (((bs.map nmS).drop 1).foldl (λacc p=>acc++(Str.ofString ", ").cps++p.cps) ((bs.map nmS).headD Str.empty).cps).all _=true
 generalize bs.map nmS=ss at k
 cases ss with
 |nil=>kernel_rfl
 |cons s ss=>exact zht _ (by kernel_rfl) ss _ (k s (List.mem_cons_self ..)) λt ht=>k t (List.mem_cons_of_mem _ ht)
theorem zve {β:Nat} (hβ:β<=25) {p:T3} {r:List Nat} (R:OkR p r):Cm (E β p r):=by
 refine ⟨?_,by show 2<=10;decide⟩
 show (PyData.strOk (tlS (ze2 β (shw r p)))&&true)=true
 refine za (zkw (zhs hβ R.s1 R.s2 R.s3).2.2.1) ?_;rfl
theorem zkx (h0':tbl 0=some (.code 1 60 zhe)) (h8':tbl 8=some (.code 1 60 strB)) (h9':tbl 9=some (.code 1 60 parB)) {h0 h1:List Nat} {p:T3} {β:Nat} {own:Bool} (H0:Hid h0) (H1:Hid h1) (P:OkP p) (hβ:β<=25):
  ∀(rs:List (List Nat)) (out:List PyData) (f:Nat ->Option PV),(∀r∈rs,OkR p r) ->(∀d∈out,Cm d) ->out.length+rs.length<=500 ->
  f 1=some (.d (tD p)) ->f 2=some (.d (.list [rD h0,rD h1])) ->f 3=some (.d (.int (β:Int))) ->f 4=some (.d (.bool own)) ->f 5=some (.d zi4) ->f 6=some (.m out) ->
  ∃f',zbF (run tbl (m+61)) (.v 7) [eb0,eb1,eb2,eb3,eb4,eb5,eb6,eb7,eb8,eb9] [] (rs.map rD) (fr 65 f)=some (fr 65 f',.next)/\ f' 6=some (.m (out++(rs.filter (gd p)).map (E β p)))
 | [],out,f,hr,ho,hl,i1,i2,i3,i4,i5,i6=>⟨f,rfl,by refine za i6 ?_;simp⟩
 |r::rs,out,f,hr,ho,hl,i1,i2,i3,i4,i5,i6=>by
  rw [List.length_cons] at hl
  have R:=hr r (List.mem_cons_self ..)
  refine E13 (zrd (tbl:=tbl) (m:=m) (f:=up f 7 (some (.d (rD r)))) h0' h8' h9' H0 H1 R P hβ ho (by lia) i1 i2 i3 i4 i5 i6 rfl) λf1 k1 k6 k=>?_
  refine zm (zkx h0' h8' h9' H0 H1 P hβ rs (if gd p r then out++[E β p r] else out) f1 (λr hr'=>hr r (List.mem_cons_of_mem _ hr')) (λd hd=>by
   split at hd
   ·exact (List.mem_append.mp hd).elim (ho d) λhd=>List.mem_singleton.mp hd▸zve hβ R
   ·exact ho d hd) (by split<;>(try refine za List.length_append ?_;refine za List.length_singleton ?_)<;>lia) ((k 1 rfl).trans i1) ((k 2 rfl).trans i2) ((k 3 rfl).trans i3) ((k 4 rfl).trans i4) ((k 5 rfl).trans i5) k6) λf2 k2 k7=>?_
  refine ⟨f2,(zab (n:=m+60) (zgb ..) k1).trans k2,k7.trans ?_⟩
  cases h:gd p r with
  |true=>refine za (List.filter_cons_of_pos h) ?_;refine za (if_pos rfl) ?_;rw [List.append_assoc];rfl
  |false=>refine za (List.filter_cons_of_neg (by refine za h ?_;decide)) ?_;rfl
theorem zre (h0':tbl 0=some (.code 1 60 zhe)) (h8':tbl 8=some (.code 1 60 strB)) (h9':tbl 9=some (.code 1 60 parB)) (h12:tbl 12=some (.code 5 60 ztc)) {h0 h1:List Nat} {p:T3} {β:Nat} {own:Bool} (H0:Hid h0) (H1:Hid h1) (P:OkP p) (hβ:β<=25) {rs:List (List Nat)} (hr:∀r∈rs,OkR p r) (hl:rs.length<=500):
  (run tbl (m+64)).call 12 [.list (rs.map rD),tD p,.list [rD h0,rD h1],.int (β:Int),.bool own]=some (.list ((rs.filter (gd p)).map (E β p))):=by
 have i:([.list (rs.map rD),tD p,.list [rD h0,rD h1],.int (β:Int),.bool own]:List PyData).map (λd=>some (PV.d d))++List.replicate 60 none=fr 65 λi=>([some (.d (.list (rs.map rD))),some (.d (tD p)),some (.d (.list [rD h0,rD h1])),some (.d (.int (β:Int))),some (.d (.bool own))]:Rho).getD i none:=by kernel_rfl
 generalize hf:(λi=>([some (.d (.list (rs.map rD))),some (.d (tD p)),some (.d (.list [rD h0,rD h1])),some (.d (.int (β:Int))),some (.d (.bool own))]:Rho).getD i none)=f at i
 refine zm (zkx (tbl:=tbl) (m:=m+1) h0' h8' h9' H0 H1 P hβ rs [] (up (up f 5 (some (.d zi4))) 6 (some (.m []))) hr nofun (by show 0+_<=_;lia) (by subst hf;rfl) (by subst hf;rfl) (by subst hf;rfl) (by subst hf;rfl) rfl rfl) λf' k k6=>?_
 refine zbG (n:=m+62) (ρ':=(fr 65 f').set 6 (some (.d (.list ((rs.filter (gd p)).map (E β p)))))) h12 rfl ?_
 refine za i ?_
 refine zj (zag (d:=zi4) (by kernel_rfl)) (zj (ρ2:=fr 65 (up (up f 5 (some (.d zi4))) 6 (some (.m [])))) ((zcR (xs:=[]) (by kernel_rfl)).trans (by rw [z5])) (zj (zbB (zel (d:= .list (rs.map rD)) (by subst hf;kernel_rfl) rfl (by rw [List.length_map];exact zv hl (by decide))) k) ?_))
 exact zF (zq k6) (zj (ρ2:=(fr 65 (up f' 6 (some (.m ([]++(rs.filter (gd p)).map (E β p)))))).set 6 (some (.d (.list ((rs.filter (gd p)).map (E β p)))))) (by kernel_rfl) (zT (za0 (by kernel_rfl))))
end One1
namespace One1
variable {tbl:Nat ->Option Fn} {m:Nat} {f:Nat ->Option PV}
theorem zd4 {x y:Int} {j k:Nat} (h:zo x<=j) (h':zo y<=k):zo (x*y)<=j+k:=by
 refine intBits_le_iff.mpr ?_
 rw [Int.natAbs_mul,Nat.pow_add]
 exact Nat.mul_lt_mul'' (intBits_le_iff.mp h) (intBits_le_iff.mp h')
theorem zhu {x y:Int} {k:Nat} (h:zo x<=k) (h':zo y<=k):zo (x+y)<=k+1:=by
 refine intBits_le_iff.mpr ?_
 rw [Nat.pow_succ,Nat.mul_two];exact Nat.lt_of_le_of_lt (Int.natAbs_add_le x y) (Nat.add_lt_add (intBits_le_iff.mp h) (intBits_le_iff.mp h'))
theorem zvf {x:Int}:zo (-x)=zo x:=Nat.le_antisymm (zbW (Nat.le_of_eq (Int.natAbs_neg x))) (zbW (Nat.le_of_eq (Int.natAbs_neg x).symm))
theorem zr5 {x y:Int} {k:Nat} (h:zo x<=k) (h':zo y<=k):zo (x-y)<=k+1:=by
 refine za Int.sub_eq_add_neg ?_;exact zhu h (zv (Nat.le_of_eq zvf) h')
theorem zpu {x:Int} {k:Nat} (h:zo x<=k) (n:Nat):zo (x^n)<=k*n+1:=by
 refine intBits_le_iff.mpr ?_
 rw [Int.natAbs_pow,Nat.pow_succ,Nat.pow_mul]
 have p:=Nat.two_pow_pos (k*n)
 rw [Nat.pow_mul] at p
 rw [Nat.mul_two];exact Nat.lt_of_le_of_lt (Nat.pow_le_pow_left (Nat.le_of_lt (intBits_le_iff.mp h)) n) (Nat.lt_add_of_pos_right p)
theorem zfZ {x y:Int} (h:zo x<=2^20) (h':zo y<=2^20):zaZ .Mult (.int x) (.int y)=some (.int (x*y)):=if_pos (zv (Nat.add_le_add h h') (by decide))
theorem znj {x:Int} {n:Nat} (h:zo x<=1500) (hn:n<=20):zaZ .Pow (.int x) (.int (n:Int))=some (.int (x^n)):=by
 have:zo x*n<=1500*20:=Nat.mul_le_mul h hn
 have:(zo x:Int)*(n:Int)<=2^27:=by rw [<-Int.natCast_mul];exact Int.le_trans (Int.ofNat_le.mpr this) (by decide)
 exact if_pos ⟨Int.natCast_nonneg n,this⟩
noncomputable def ex3 (p:T3):Nat ->Nat
 |0=>p.1+2
 |1=>p.2.1+1
 |_=>p.2.2
noncomputable def alt (x y z:Int) (p:T3):Int:=x^(p.1+2)*(y^(p.2.1+1)*z^p.2.2-y^p.2.2*z^(p.2.1+1))-x^(p.2.1+1)*(y^(p.1+2)*z^p.2.2-y^p.2.2*z^(p.1+2))+x^p.2.2*(y^(p.1+2)*z^(p.2.1+1)-y^(p.2.1+1)*z^(p.1+2))
noncomputable def pw (p:T3) (v:Int):PyData:= .list [.int (v^(p.1+2)),.int (v^(p.2.1+1)),.int (v^p.2.2)]
theorem ztE {p:T3} (h1:p.1<=6) (h2:p.2.1<=6) (h3:p.2.2<=6) {x:Int} (hx:zo x<=1500) {f:Nat ->Option PV} (i1:f 1=some (.d (tD p))) (i12:f 12=some (.d (.int x))):
  (run tbl (m+10)).ex (fr 62 f) (.comp (.bin .Pow (.v 12) (.bin .Sub (.bin .Add (.idx (.v 1) (.v 14)) (.c (.int 2))) (.v 14))) [(.mk (.v 14) (.tup [(.c (.int 0)),(.c (.int 1)),(.c (.int 2))]) [])])=some (pw p x):=by
 refine zF (zq i1) (zF (zq i12) ?_)
 refine zY (n:=m+9) (z6 (t:= .v 14) (xs:=[0,1,2]) (g:=λk:Nat=> .int (k:Int)) (h:=λk=> .int (x^ex3 p k)) rfl λk hk=>⟨_,rfl,?_⟩) (show 3<=1000 by decide)
 have:k=0 \/k=1 \/k=2:=by simpa using hk
 rcases this with e|e|e<;>subst e
 ·exact zr (n:=m+8) (x:= .int x) (by kernel_rfl) (y:= .int ((p.1:Int)+2-0)) (by kernel_rfl) (by refine za (show (p.1:Int)+2-0=((p.1+2:Nat):Int) by lia) ?_;exact znj hx (by lia))
 ·exact zr (n:=m+8) (x:= .int x) (by kernel_rfl) (y:= .int ((p.2.1:Int)+2-1)) (by kernel_rfl) (by refine za (show (p.2.1:Int)+2-1=((p.2.1+1:Nat):Int) by lia) ?_;exact znj hx (by lia))
 ·exact zr (n:=m+8) (x:= .int x) (by kernel_rfl) (y:= .int ((p.2.2:Int)+2-2)) (by kernel_rfl) (by refine za (show (p.2.2:Int)+2-2=(p.2.2:Int) by lia) ?_;exact znj hx (by lia))
theorem zlA (h13:tbl 13=some (.code 2 60 ztd)) {p:T3} (h1:p.1<=6) (h2:p.2.1<=6) (h3:p.2.2<=6) {x y z:Int} (hx:zo x<=1500) (hy:zo y<=1500) (hz:zo z<=1500):
  (run tbl (m+20)).call 13 [.list [.int x,.int y,.int z],tD p]=some (.int (alt x y z p))/\ zo (alt x y z p)<=36010:=by
 have i:([.list [.int x,.int y,.int z],tD p]:List PyData).map (λd=>some (PV.d d))++List.replicate 60 none=fr 62 λi=>([some (.d (.list [.int x,.int y,.int z])),some (.d (tD p))]:Rho).getD i none:=by kernel_rfl
 generalize hf:(λi=>([some (.d (.list [.int x,.int y,.int z])),some (.d (tD p))]:Rho).getD i none)=f at i
 have C:=z6 (S:=run tbl (m+17)) (ρ:=fr 62 f) (t:= .v 12) (it:= .v 0) (xs:=[x,y,z]) (g:= .int) (h:=pw p) (by subst hf;kernel_rfl) λv hv=>⟨fr 62 (up f 12 (some (.d (.int v)))),by subst hf;kernel_rfl,ztE (m:=m+7) h1 h2 h3 (by
  have:v=x \/v=y \/v=z:=by simpa using hv
  rcases this with e|e|e<;>refine za e ?_<;>assumption) (by subst hf;rfl) rfl⟩
 have P:∀{v:Int} {n:Nat},zo v<=1500 ->n<=8 ->zo (v^n)<=12001:=λhv hn=>zv (zpu hv _) (by lia)
 have a1:p.1+2<=8:=by lia
 have a2:p.2.1+1<=8:=by lia
 have a3:p.2.2<=8:=by lia
 have st:=zek (t:= .t [(.t [(.v 2),(.v 3),(.v 4)]),(.t [(.v 5),(.v 6),(.v 7)]),(.t [(.v 8),(.v 9),(.v 10)])]) (zY (n:=m+17) C (show 3<=1000 by decide)) (ρ2:=fr 62 λi=>([some (.d (.list [.int x,.int y,.int z])),some (.d (tD p)),I (x^(p.1+2)),I (x^(p.2.1+1)),I (x^p.2.2),I (y^(p.1+2)),I (y^(p.2.1+1)),I (y^p.2.2),I (z^(p.1+2)),I (z^(p.2.1+1)),I (z^p.2.2)]:Rho).getD i none) (by subst hf;kernel_rfl)
 have px:=P hx a1;have qx:=P hx a2;have rx:=P hx a3
 have py:=P hy a1;have qy:=P hy a2;have ry:=P hy a3
 have pz:=P hz a1;have qz:=P hz a2;have rz:=P hz a3
 unfold alt
 generalize x^(p.1+2)=A1 at *
 generalize x^(p.2.1+1)=A2 at *
 generalize x^p.2.2=A3 at *
 generalize y^(p.1+2)=B1 at *
 generalize y^(p.2.1+1)=B2 at *
 generalize y^p.2.2=B3 at *
 generalize z^(p.1+2)=C1 at *
 generalize z^(p.2.1+1)=C2 at *
 generalize z^p.2.2=C3 at *
 have M:∀{u v:Int},zo u<=12001 ->zo v<=12001 ->zo (u*v)<=24002/\ zaZ .Mult (.int u) (.int v)=some (.int (u*v)):=λh h'=>⟨zd4 h h',zfZ (zv h (by decide)) (zv h' (by decide))⟩
 have D:∀{w u v u' v':Int},zo w<=12001 ->zo u<=12001 ->zo v<=12001 ->zo u'<=12001 ->zo v'<=12001 ->zo (w*(u*v-u'*v'))<=36004/\ zaZ .Mult (.int w) (.int (u*v-u'*v'))=some (.int (w*(u*v-u'*v'))):=λh a b c d=>
  have k:=zr5 (M a b).1 (M c d).1
  ⟨zd4 h k,zfZ (zv h (by decide)) (zv k (by decide))⟩
 have d1:=D px qy rz ry qz
 have d2:=D qx py rz ry pz
 have d3:=D rx py qz qy pz
 refine ⟨zbG (n:=m+18) h13 rfl (zj (i▸st) (zT (za0 ?_))),zv (zhu (zr5 d1.1 d2.1) (zv d3.1 (Nat.le_succ _))) (by decide)⟩
 have T:=λ{n i j k j' k':Nat} {w u v u' v':Int} {ρ:Rho} (h0:ρ[i]?=some (I w)) (h1:ρ[j]?=some (I u)) (h2:ρ[k]?=some (I v)) (h3:ρ[j']?=some (I u')) (h4:ρ[k']?=some (I v')) (a:zo u<=12001) (b:zo v<=12001) (c:zo u'<=12001) (d:zo v'<=12001) (e:zo w<=12001)=>
  have g:∀{i:Nat} {z:Int} {n:Nat},ρ[i]?=some (I z) ->(run tbl (n+1)).ex ρ (.v i)=some (.int z):=λh=>by refine za zs6 ?_;refine za h ?_;rfl
  zr (tbl:=tbl) (n:=n+3) (op:= .Mult) (g h0) (zr (n:=n+2) (op:= .Sub) (zr (n:=n+1) (op:= .Mult) (g h1) (g h2) (M a b).2) (zr (n:=n+1) (op:= .Mult) (g h3) (g h4) (M c d).2) rfl) (D e a b c d).2
 exact zr (n:=m+17) (zr (n:=m+16) (T (n:=m+12) (i:=2) (j:=6) (k:=10) (j':=7) (k':=9) rfl rfl rfl rfl rfl qy rz ry qz px) (T (n:=m+12) (i:=3) (j:=5) (k:=10) (j':=7) (k':=8) rfl rfl rfl rfl rfl py rz ry pz qx) rfl) (T (n:=m+13) (i:=4) (j:=5) (k:=9) (j':=6) (k':=8) rfl rfl rfl rfl rfl py qz qy pz rx) rfl
end One1
namespace One1
noncomputable def zaE (l:List Int):Int:=l.foldr (· + ·) 0
theorem zbX (a:Int) (l:List Int):zaE (a::l)=a+zaE l:=rfl
theorem zft {l k:List Int} (h:l.Perm k):zaE l=zaE k:=by
 induction h with
 |nil=>rfl
 |cons a _ ih=>exact congrArg (a+ ·) ih
 |swap a b l=>exact Int.add_left_comm ..
 |trans _ _ a b=>exact a.trans b
noncomputable def mon (x y z:Int) (e:T3):Int:=x^e.1*y^e.2.1*z^e.2.2
noncomputable def zcS (p q:T3):T3:=(p.1+q.1,p.2.1+q.2.1,p.2.2+q.2.2)
theorem zrf (x y z:Int) (e w:T3):mon x y z (zcS e w)=mon x y z e*mon x y z w:=by
 unfold mon zcS
 simp only [Int.pow_add]
 ac_rfl
noncomputable def o0 (e:T3):T3:=(e.1,e.2.1,e.2.2)
noncomputable def o1 (e:T3):T3:=(e.1,e.2.2,e.2.1)
noncomputable def o2 (e:T3):T3:=(e.2.1,e.1,e.2.2)
noncomputable def o3 (e:T3):T3:=(e.2.1,e.2.2,e.1)
noncomputable def o4 (e:T3):T3:=(e.2.2,e.1,e.2.1)
noncomputable def o5 (e:T3):T3:=(e.2.2,e.2.1,e.1)
def alE (x y z:Int) (e:T3):Int:=mon x y z (o0 e)-mon x y z (o1 e)-mon x y z (o2 e)+mon x y z (o3 e)+mon x y z (o4 e)-mon x y z (o5 e)
theorem zpv (x y z:Int) (p:T3):alt x y z p=alE x y z (zcS p (2,1,0)):=by
 unfold alt alE mon o0 o1 o2 o3 o4 o5 zcS
 simp only [Int.mul_sub,<-Int.mul_assoc,Nat.add_zero]
 lia
theorem zmo (x y z:Int) (e:T3):∀ws:List T3,zaE (ws.map λw=>alE x y z (zcS e w))=mon x y z (o0 e)*zaE (ws.map λw=>mon x y z (o0 w))-mon x y z (o1 e)*zaE (ws.map λw=>mon x y z (o1 w))-mon x y z (o2 e)*zaE (ws.map λw=>mon x y z (o2 w))+mon x y z (o3 e)*zaE (ws.map λw=>mon x y z (o3 w))+mon x y z (o4 e)*zaE (ws.map λw=>mon x y z (o4 w))-mon x y z (o5 e)*zaE (ws.map λw=>mon x y z (o5 w))
 | []=>by simp only [List.map_nil,zaE,List.foldr_nil,Int.mul_zero];rfl
 |w::ws=>by
  have ih:=zmo x y z e ws
  simp only [List.map_cons,zbX]
  refine za ih ?_
  simp only [Int.mul_add,<-zrf]
  show mon x y z (zcS (o0 e) (o0 w))-mon x y z (zcS (o1 e) (o1 w))-mon x y z (zcS (o2 e) (o2 w))+mon x y z (zcS (o3 e) (o3 w))+mon x y z (zcS (o4 e) (o4 w))-mon x y z (zcS (o5 e) (o5 w))+_=_
  lia
def zpw (ws:List T3):Bool:=ws.isPerm (ws.map o1)&&(ws.isPerm (ws.map o2)&&(ws.isPerm (ws.map o3)&&(ws.isPerm (ws.map o4)&&ws.isPerm (ws.map o5))))
theorem zrg {ws:List T3} (h:zpw ws=true) (x y z:Int) (e:T3):zaE (ws.map λw=>alE x y z (zcS e w))=alE x y z e*zaE (ws.map (mon x y z)):=by
 simp only [zpw,Bool.and_eq_true,List.isPerm_iff] at h
 have s:∀o:T3 ->T3,ws.Perm (ws.map o) ->zaE (ws.map λw=>mon x y z (o w))=zaE (ws.map (mon x y z)):=λo h=>by
  have:=zft (h.map (mon x y z))
  rw [List.map_map] at this
  exact this.symm
 rw [zmo]
 refine za (s o1 h.1) (za (s o2 h.2.1) ?_)
 refine za (s o3 h.2.2.1) (za (s o4 h.2.2.2.1) ?_)
 refine za (s o5 h.2.2.2.2) (za (show (ws.map λw=>mon x y z (o0 w))=ws.map (mon x y z) from rfl) ?_)
 unfold alE
 simp only [Int.sub_mul,Int.add_mul]
def zpx (e:T3):Option (Bool×T3):=
 if e.1=e.2.1 \/e.2.1=e.2.2 \/e.1=e.2.2 then none
 else if e.2.1<e.1 then (if e.2.2<e.2.1 then some (true,o0 e) else if e.2.2<e.1 then some (false,o1 e) else some (true,o4 e))
 else (if e.2.2<e.1 then some (false,o2 e) else if e.2.2<e.2.1 then some (true,o3 e) else some (false,o5 e))
def ztF (x y z:Int):Option (Bool×T3) ->Int
 |none=>0
 |some (true,v)=>alE x y z v
 |some (false,v)=> -alE x y z v
set_option tactic.hygienic true in
theorem zrh (x y z:Int) (e:T3):alE x y z e=ztF x y z (zpx e):=by
 obtain ⟨a,b,c⟩:=e
 unfold zpx
 dsimp only
 split
 ·rename_i h
  rcases h with h|h|h<;>subst h<;>simp only [ztF,alE,o0,o1,o2,o3,o4,o5]<;>lia
 ·split<;>split<;>(try split)<;>simp only [ztF,alE,o0,o1,o2,o3,o4,o5]<;>lia
def zlB (l:List T3):List T3:=l.filterMap λe=>(zpx e).bind λq=>if q.1 then some q.2 else none
def zlC (l:List T3):List T3:=l.filterMap λe=>(zpx e).bind λq=>if q.1 then none else some q.2
theorem zmp (x y z:Int):∀l:List T3,zaE (l.map (alE x y z))=zaE ((zlB l).map (alE x y z))-zaE ((zlC l).map (alE x y z))
 | []=>rfl
 |e::l=>by
  have ih:=zmp x y z l
  unfold zlB zlC at ih |-
  refine za List.map_cons ?_
  rw [zbX]
  refine za ih ?_
  rw [zrh]
  refine za List.filterMap_cons (za List.filterMap_cons ?_)
  cases zpx e with
  |none=>exact Int.zero_add _
  |some q=>
   obtain ⟨b,v⟩:=q
   cases b
   ·show -alE x y z v+(zaE ((zlB l).map (alE x y z))-zaE ((zlC l).map (alE x y z)))=zaE ((zlB l).map (alE x y z))-(alE x y z v+zaE ((zlC l).map (alE x y z)));lia
   ·show alE x y z v+(zaE ((zlB l).map (alE x y z))-zaE ((zlC l).map (alE x y z)))=(alE x y z v+zaE ((zlB l).map (alE x y z)))-zaE ((zlC l).map (alE x y z));lia
theorem zfO {α:Type} (g:α ->Int) (p:α ->Bool):∀l:List α,zaE (l.map g)=zaE ((l.filter p).map g)+zaE ((l.filter λa=> !p a).map g)
 | []=>rfl
 |a::l=>by
  have ih:=zfO g p l
  refine za List.map_cons ?_
  rw [zbX]
  refine za ih ?_
  cases h:p a with
  |true=>refine za (List.filter_cons_of_pos h) ?_;refine za (List.filter_cons_of_neg (by refine za h ?_;decide)) ?_;refine za List.map_cons ?_;rw [zbX,Int.add_assoc]
  |false=>refine za (List.filter_cons_of_neg (by refine za h ?_;decide)) ?_;refine za (List.filter_cons_of_pos (by refine za h ?_;rfl)) ?_;refine za List.map_cons ?_;rw [zbX];lia
theorem zmq (p:T3):∀(r:List Nat) (q:T3),lst r (zcS p q)=zcS p (lst r q)
 | [],q=>rfl
 |c::r,q=>by
  have e:stp c (zcS p q)=zcS p (stp c q):=by unfold stp;split<;>rfl
  exact (congrArg (lst r) e).trans (zmq p r (stp c q))
noncomputable def z0:T3:=(0,0,0)
def zri (p:T3) (rs:List (List Nat)):List T3:=(rs.filter λr=> !gd p r).map λr=>zcS (lst r p) (2,1,0)
def zlD (p:T3) (rs:List (List Nat)):Bool:=(zlB (zri p rs)).isPerm (zlC (zri p rs))
theorem zpy {p:T3} {rs:List (List Nat)} (hs:zpw (rs.map λr=>lst r z0)=true) (hc:zlD p rs=true) (x y z:Int):
  zaE ((rs.filter (gd p)).map λr=>alt x y z (lst r p))=alt x y z p*zaE (rs.map λr=>mon x y z (lst r z0)):=by
 have h0:zaE ((rs.filter λr=> !gd p r).map λr=>alt x y z (lst r p))=0:=by
  have:=zmp x y z (zri p rs)
  rw [zft ((List.isPerm_iff.mp hc).map (alE x y z)),Int.sub_self] at this
  refine zF this ?_
  unfold zri
  exact za List.map_map (congrArg zaE (List.map_congr_left λr _=>zpv x y z _))
 have h1:=zfO (λr=>alt x y z (lst r p)) (gd p) rs
 rw [h0,Int.add_zero] at h1
 refine zF h1 ?_
 rw [zpv]
 have:=zrg hs x y z (zcS p (2,1,0))
 rw [List.map_map,List.map_map] at this
 refine (congrArg zaE (List.map_congr_left λr _=>?_)).trans this
 rw [zpv]
 refine congrArg (alE x y z) ?_
 have e:=zmq p r z0
 rw [show zcS p z0=p from rfl] at e
 exact za e (Prod.ext (Nat.add_right_comm ..) (Prod.ext (Nat.add_right_comm ..) (Nat.add_right_comm ..)))
end One1
namespace One1
variable {tbl:Nat ->Option Fn} {m:Nat}
noncomputable def zaj (x:Str):List Str:=bif Nat.beq x.length 0 then [x] else []
noncomputable def zjn (w g:Str) (ws:List Str) (s e:Int) (v5:Option PV):Rho:=[some (.d (.str w)),some (.d (.str g)),some (.m (ws.map .str)),some (.d (.int s)),some (.d (.int e)),v5]++List.replicate 56 none
theorem zpz {S:Sv} {ρ:Rho} {i j:Nat} {e:PE} {k:Int} {xs:List PyData} (hm:zcV ρ i=some xs) (h:S.ex ρ e=some (.int k)) (hq:seqIndex? k xs.length=some j) (hl:xs.length<=big):zg S ρ (.del i e)=some (ρ.set i (some (.m (xs.eraseIdx j))),.next):=bS hm (bS h (bS (x:=k) rfl (bS hq (if_pos hl))))
theorem zpA {w g l:Str} {B:List Str} {s:Nat} {v5:Option PV} (hB:B.length<=900) (hb:∀p∈B,p.length<=big) (hl:l.length<=big) (hs:s<=g.length-l.length) (hlg:l.length<=g.length) (he:l.length≠0 ->Txt.endswith g l=true):
  ∃ρ',zE (run tbl (m+10)) (zja.drop 6) (zjn w g (B++[l]) s g.length v5)=some (ρ',.ret (.bool (zci g.cps.toList (g.length-l.length) (B++zaj l) s))):=by
 have i1:zbf (.list ((B++[l]).map .str)) (.int (-1))=some (.str l):=by
  refine za List.map_append ?_;exact zkk (by rw [List.length_map];show _+1<=1000000;lia)
 have hk:∀p∈B++zaj l,p.length<=big:=λp hp=>(List.mem_append.mp hp).elim (hb p) λhp=>by
  unfold zaj at hp
  cases h:Nat.beq l.length 0 with
  |true=>rw [h] at hp;exact List.mem_singleton.mp hp▸hl
  |false=>rw [h] at hp;cases hp
 have hle:(B++zaj l).length<=big:=by
  have:(zaj l).length<=1:=by unfold zaj;cases Nat.beq l.length 0<;>first|exact Nat.zero_le 1|exact Nat.le_refl 1
  refine za List.length_append ?_;show _<=1000000;lia
 suffices h:∃ρ',zE (run tbl (m+10)) (zja.drop 8) (zjn w g (B++zaj l) s (g.length-l.length:Nat) (some (.d (.str l))))=some (ρ',.ret (.bool (zci g.cps.toList (g.length-l.length) (B++zaj l) s))) from
  zO h λρ' h=>⟨ρ',zj (zX (zaY (n:=m+9) (x:= .list ((B++[l]).map .str)) (y:= .int (-1)) rfl rfl i1)) (by
   cases c:Nat.beq l.length 0 with
   |true=>
    have z:=Nat.eq_of_beq_eq_true c
    rw [z,zaj,c] at h
    refine zj (zaV (t_d (d:= .str l) rfl ((zjb hl).trans (by refine za c ?_;rfl))) rfl) ?_
    refine za z ?_
    rw [zaj]
    exact za c h
   |false=>
    have nz:l.length≠0:=λe=>by rw [e] at c;cases c
    have g2:zaZ .Sub (.int (g.length:Int)) (.int (l.length:Int))=some (.int ((g.length-l.length:Nat):Int)):=congrArg (λi=>some (PyData.int i)) (Int.natCast_sub hlg).symm
    have q:seqIndex? (-1) ((B++[l]).map PyData.str).length=some B.length:=by rw [List.length_map];refine za List.length_append ?_;exact zki _
    have q2:((B++[l]).map PyData.str).eraseIdx B.length=(B++zaj l).map .str:=by
     rw [zaj];refine za c ?_;refine za List.map_append ?_;rw [List.eraseIdx_append_of_length_le (by rw [List.length_map];exact Nat.le_refl _),List.length_map,Nat.sub_self];simp
    have q3:((B++[l]).map PyData.str).length<=big:=by rw [List.length_map];refine za List.length_append ?_;show _+1<=1000000;lia
    refine zj (zb5 (n:=m+9) (t_d (d:= .str l) rfl ((zjb hl).trans (by refine za c ?_;rfl))) (zj (zb5 (n:=m+8) (t_b (c:=true) (zeQ (n:=m+8) (m:= .endswith) rfl (zaa rfl) (congrArg (λb=>some (PyData.bool b)) (he nz)))) (zj (zdr (x:=(g.length:Int)) (y:=(l.length:Int)) rfl (zeR (n:=m+7) rfl (if_pos hl)) rfl g2) (zj (ρ2:=zjn w g (B++zaj l) s (g.length-l.length:Nat) (some (.d (.str l)))) ?_ rfl))) rfl)) h
    refine (zpz (xs:=(B++[l]).map PyData.str) (k:= -1) rfl rfl q q3).trans ?_
    refine za q2 ?_;rfl)⟩
 refine zO (zkh (tbl:=tbl) (n:=m+4) (g:=g) (e:=g.length-l.length) (v0:=some (.d (.str w))) (v2:=some (.d (.list ((B++zaj l).map .str)))) (tl:=List.replicate 56 none) (B++zaj l) s (some (.d (.str l))) hk) λρ' h=>?_
 revert h
 have gt:zg (run tbl (m+10)) (zjn w g (B++zaj l) s (g.length-l.length:Nat) (some (.d (.str l)))) (.iff (.cmp .Gt (.v 3) (.v 4)) [.ret (.c (.bool false))] [])=some (zjn w g (B++zaj l) s (g.length-l.length:Nat) (some (.d (.str l))),.next):=
  zaV (n:=m+9) (t_b (zV (n:=m+9) (x:= .int (s:Int)) (y:= .int ((g.length-l.length:Nat):Int)) rfl rfl (congrArg some (decide_eq_false (by lia))))) rfl
 cases zci g.cps.toList (g.length-l.length) (B++zaj l) s with
 |true=>exact λh=>⟨_,zj gt (zj (ρ2:=List.set (zjn w g (B++zaj l) s (g.length-l.length:Nat) (some (.d (.str l)))) 2 (some (.d (.list ((B++zaj l).map .str))))) rfl (zj (zbB (zel rfl rfl (by rw [List.length_map];exact hle)) h) (zT rfl)))⟩
 |false=>exact λh=>⟨_,zj gt (zj (ρ2:=List.set (zjn w g (B++zaj l) s (g.length-l.length:Nat) (some (.d (.str l)))) 2 (some (.d (.list ((B++zaj l).map .str))))) rfl (zT (zbB (zel rfl rfl (by rw [List.length_map];exact hle)) h)))⟩
theorem zrj (h7:tbl 7=some (.code 2 60 zja)) {w g f l:Str} {mid:List Str} (hc:Txt.contains w (Str.ofString "...")=true) (hs:Txt.split w (Str.ofString "...")=f::(mid++[l]))
  (hw:w.length<=big) (hg:g.length<=big) (hf:f.length<=g.length-l.length) (hlg:l.length<=g.length) (hm:∀p∈mid,p.length<=big) (hml:mid.length<=800) (h1:f.length≠0 ->Txt.startswith g f=true) (h2:l.length≠0 ->Txt.endswith g l=true):
  (run tbl (m+12)).call 7 [.str w,.str g]=some (.bool (zci g.cps.toList (g.length-l.length) ((zaj f++mid)++zaj l) f.length)):=by
 have hl:l.length<=big:=zv hlg hg
 have hf':f.length<=big:=zv hf (zv (Nat.sub_le _ _) hg)
 have sp:meD .split (.str w) [.str (Str.ofString "...")]=some (.list ((f::(mid++[l])).map .str)):=(if_pos ⟨hw,by decide⟩).trans (congrArg (λx=>some (PyData.list (x.map .str))) hs)
 have b1:((f::(mid++[l])).map PyData.str).length<=big:=by rw [List.length_map];refine za List.length_cons ?_;refine za List.length_append ?_;show _+1+1<=1000000;lia
 have ge:decide ((2:Int)<=(((f::(mid++[l])).map PyData.str).length:Int))=true:=decide_eq_true (by rw [List.length_map];refine za List.length_cons ?_;refine za List.length_append ?_;show (2:Int)<=((_+1+1:Nat):Int);lia)
 have i0:zbf (.list ((f::(mid++[l])).map .str)) (.int 0)=some (.str f):=zkl b1
 have bk:(zaj f++mid).length<=900/\ ∀p∈zaj f++mid,p.length<=big:=by
  unfold zaj
  cases Nat.beq f.length 0 with
  |true=>exact ⟨by show mid.length+1<=900;lia,λp hp=>(List.mem_cons.mp hp).elim (λe=>e▸hf') (hm p)⟩
  |false=>exact ⟨by show mid.length<=900;lia,hm⟩
 refine zO (zpA (tbl:=tbl) (m:=m) (w:=w) (g:=g) (l:=l) (B:=zaj f++mid) (s:=f.length) (v5:=some (.d (.str f))) bk.1 bk.2 hl hf hlg h2) λρ' k=>?_
 refine zbG (n:=m+10) (ρ':=ρ') h7 rfl (zj (zaV (t_b (zV rfl rfl (congrArg (λb=>some (!b)) hc))) rfl) (zj (zcR (zeQ rfl rfl sp)) (zj (zs9 (t_b (zV (zeR rfl (if_pos b1)) rfl (congrArg some ge)))) (zj (zeS (zap rfl (zaa (zeR rfl (if_pos hg)))) rfl) (zj (zX (zaY (n:=m+9) rfl rfl i0)) (zj (ρ2:=zjn w g ((zaj f++mid)++[l]) f.length g.length (some (.d (.str f)))) ?_ k))))))
 cases c:Nat.beq f.length 0 with
 |true=>
  have z:=Nat.eq_of_beq_eq_true c
  refine za z ?_
  rw [zaj]
  refine za c ?_
  exact zaV (t_d (d:= .str f) rfl ((zjb hf').trans (by refine za c ?_;rfl))) rfl
 |false=>
  have nz:f.length≠0:=λe=>by rw [e] at c;cases c
  rw [zaj]
  refine za c ?_
  refine zb5 (n:=m+9) (t_d (d:= .str f) rfl ((zjb hf').trans (by refine za c ?_;rfl))) (zj (zb5 (n:=m+8) (t_b (c:=true) (zeQ (n:=m+8) (m:= .startswith) rfl (zaa rfl) (congrArg (λb=>some (PyData.bool b)) (h1 nz)))) (zj (zX (zeR (n:=m+7) rfl (if_pos hf'))) (zj (ρ2:=zjn w g (mid++[l]) f.length g.length (some (.d (.str f)))) ?_ rfl))) rfl)
  exact (zpz (xs:=(f::(mid++[l])).map PyData.str) (k:=0) rfl rfl (zkj _) b1).trans rfl
noncomputable def zb4 (q:List Nat):List (List Nat) ->List (List Nat)×List Nat
 | []=>([],q)
 |a::r=>(q::(zb4 a r).1,(zb4 a r).2)
theorem zky:∀(q:List Nat) (r:List (List Nat)),q::r=(zb4 q r).1++[(zb4 q r).2]
 |q,[]=>rfl
 |q,a::r=>congrArg (q:: ·) (zky a r)
noncomputable def zdu:List Nat:=[46,46,46]
def zrk (w g:Str):List (List Nat) ->Option PyData
 |f::q::r=>
   if ((Nat.ble w.length 500&&Nat.ble g.length 500&& !(zeT zdu 3 w.length (w.length+1) 1 0 0 w.cps.toList).isEmpty)&&Nat.ble 3 w.length)
    &&((Nat.ble f.length (g.length-(zb4 q r).2.length)&&Nat.ble (zb4 q r).2.length g.length&&((zb4 q r).1.all λp=>Nat.ble p.length 500)&&Nat.ble (zb4 q r).1.length 800)&&(Nat.beq f.length 0||Txt.startswith g (zw f))&&(Nat.beq (zb4 q r).2.length 0||Txt.endswith g (zw (zb4 q r).2)))
   then some (.bool (zci g.cps.toList (g.length-(zb4 q r).2.length) ((zaj (zw f)++(zb4 q r).1.map zw)++zaj (zw (zb4 q r).2)) f.length)) else none
 |_=>none
def ztG:List PyData ->Option PyData
 | [.str w,.str g]=>zrk w g (zhh w.cps.toList zdu)
 |_=>none
@[elab_as_elim] theorem zvg {d:PyData} {P:List PyData ->Prop} {args:List PyData} (h:ztG args=some d) (k:∀w g,zrk w g (zhh w.cps.toList zdu)=some d ->P [.str w,.str g]):P args:=by
 cases args with
 |nil=>exact zb h
 |cons a as=>
  cases a with
  |str w=>
   cases as with
   |nil=>exact zb h
   |cons b bs=>
    cases b with
    |str g=>
     cases bs with
     |nil=>exact k w g h
     |cons _ _=>exact zb h
    |_=>exact zb h
  |_=>exact zb h
theorem zvh {w g:Str} {d:PyData} {l:List (List Nat)} {G:Prop} (h:zrk w g l=some d) (k:∀f q r,l=f::q::r ->zrk w g (f::q::r)=some d ->G):G:=by
 cases l with
 |nil=>exact zb h
 |cons f l=>
  cases l with
  |nil=>exact zb h
  |cons q r=>exact k f q r rfl h
theorem zrl {w:Str} (h:3<=w.length):(decide (w.length<(Str.ofString "...").length)||decide (Builtin.Str.strKind w<Builtin.Str.strKind (Str.ofString "...")))=false:=by
 refine za (show (Str.ofString "...").length=3 from by decide+kernel) (za (show Builtin.Str.strKind (Str.ofString "...")=1 from by decide+kernel) ?_)
 refine za (decide_eq_false (Nat.not_lt.mpr h)) ?_
 rw [Bool.false_or]
 refine decide_eq_false (Nat.not_lt.mpr ?_)
 unfold Builtin.Str.strKind
 split
 ·exact Nat.le_refl 1
 ·split<;>decide
set_option tactic.hygienic true in
theorem zrm (h7:tbl 7=some (.code 2 60 zja)) {args:List PyData} {d:PyData} (h:ztG args=some d):(run tbl (m+12)).call 7 args=some d:=by
 refine zvg h λw g h=>zvh h λf q r hs h=>ifE h λhh h=>?_
 simp only [Bool.and_eq_true,Nat.ble_eq,Bool.not_eq_true',Bool.or_eq_true,List.all_eq_true] at hh
 refine E03 hh λq1 q6 b6=>?_
 clear hh
 refine zR q1 λq4 a4=>?_
 clear q1
 refine zR q4 λq5 a3=>?_
 clear q4
 refine zR q5 λa1 a2=>?_
 clear q5
 refine zR q6 λq7 b5=>?_
 clear q6
 refine zR q7 λq8 b4=>?_
 clear q7
 refine zR q8 λq9 b3=>?_
 clear q8
 refine zR q9 λb1 b2=>?_
 clear q9
 refine zF h ?_
 refine zrj (m:=m) h7 (f:=zw f) (l:=zw (zb4 q r).2) (mid:=(zb4 q r).1.map zw) ?_ ?_ (zv a1 (by decide)) (zv a2 (by decide)) b1 b2 ?_ (by rw [List.length_map];exact b4) (λnz=>b5.resolve_left λh=>nz (Nat.eq_of_beq_eq_true h)) (λnz=>b6.resolve_left λh=>nz (Nat.eq_of_beq_eq_true h))
 ·rw [zhJ,Bool.not_eq_true'];exact a3
 ·refine za (zlp _ _ (zrl a4)) ?_
  show (zhh w.cps.toList zdu).map zw=_
  refine za hs ?_;refine za (zky q r) ?_;refine za List.map_cons ?_;refine za List.map_append ?_;rfl
 ·intro p hp
  refine zm (List.mem_map.mp hp) λx hx q10=>?_
  obtain rfl:=q10
  exact zv (b3 x hx) (by decide)
end One1
namespace One1
variable {tbl:Nat ->Option Fn} {m:Nat}
noncomputable def zmr (s:Bool) (w:List Nat):Bool:=match w.reverse with
 |c::d::_=>bif s then Nat.blt d c else Nat.ble d c
 |_=>true
noncomputable def trW (s:Bool) (l:List (List Nat)):List (List Nat):=l.flatMap λw=>[97,98,99].map λc=>w++[c]
noncomputable def wd (s:Bool):Nat ->List (List Nat)
 |0=>[[]]
 |k+1=>(trW s (wd s k)).filter (zmr s)
def lsD (s:Bool) (k:Nat):List PyData:=(List.range k).map λj=> .list ((wd s j).map rD)
noncomputable def ze3:List (List Nat):=[[],[97],[97,98],[97,98,99]]
noncomputable def ze4:List (List Nat):=[[],[99],[98,99],[97,98,99]]
noncomputable def jd:List Nat ->List Nat
 | []=>[]
 | [c]=>[c]
 |c::r=>c::(zdu++jd r)
noncomputable def zkz (s:Bool) (k:Nat):List Nat:=bif s then [97,98,99] else List.replicate k 97++List.replicate k 98++List.replicate k 99
def zpB (e0 w e1:List Nat):List Nat:=e0++zdu++jd w++zdu++e1
def ztH (e0:List Nat) (s:Bool) (k:Nat) (e1:List Nat):List Nat:=e0++zkz s k++e1
noncomputable def zpC:PyData ->Option Bool
 | .bool b=>some b
 |_=>none
def zrn (s:Bool) (k:Nat) (e0 e1 w:List Nat):Bool:=((ztG [rD (zpB e0 w e1),rD (ztH e0 s k e1)]).bind zpC==some (zmr s w))&&(Nat.ble (zpB e0 w e1).length 900&&Nat.ble (ztH e0 s k e1).length 900)
def ztI (w:List Nat):Bool:=((me1 (.str "...") (rD w) .join).bind zau).map (λx=>x.cps.toList)==some (jd w)
def znk (s:Bool) (k:Nat):Bool:=(List.range k).all λj=>(trW s (wd s j)).all λw=>ztI w&&ze3.all λe0=>ze4.all λe1=>zrn s k e0 e1 w
theorem zwe:znk true 3=true:=by decide+kernel
theorem zwf:znk false 1=true:=by decide+kernel
theorem zwg:znk false 2=true:=by decide+kernel
theorem zwh:znk false 3=true:=by decide+kernel
end One1
namespace One1
variable {tbl:Nat ->Option Fn} {m:Nat} {f:Nat ->Option PV}
noncomputable def lb6:PS:= .asg (.v 6) (.comp (.bin .Add (.v 12) (.v 13)) [(.mk (.v 12) (.idx (.v 4) (.neg (.c (.int 1)))) []),(.mk (.v 13) (.c (.str "abc")) [])])
noncomputable def lb7:PS:= .asg (.v 7) (.comp (.or [(.cmp .Eq (.v 5) (.c (.int 0))),(.cmp .Lt (.idx (.v 12) (.neg (.c (.int 2)))) (.idx (.v 12) (.neg (.c (.int 1))))),(.and [(.cmp .Eq (.idx (.v 12) (.neg (.c (.int 2)))) (.idx (.v 12) (.neg (.c (.int 1))))),(.not (.v 1))])]) [(.mk (.v 12) (.v 6) [])])
noncomputable def lb8:PS:= .asg (.v 8) (.comp (.call 7 [(.bin .Add (.bin .Add (.bin .Add (.bin .Add (.idx (.v 2) (.c (.int 0))) (.c (.str "..."))) (.me .join (.c (.str "...")) [(.v 12)])) (.c (.str "..."))) (.idx (.v 2) (.c (.int 1)))),(.bin .Add (.bin .Add (.idx (.v 2) (.c (.int 0))) (.v 3)) (.idx (.v 2) (.c (.int 1))))]) [(.mk (.v 12) (.v 6) [])])
noncomputable def lb9:PS:= .iff (.cmp .NotEq (.comp (.v 12) [(.mk (.t [(.v 12),(.v 13)]) (.zip (.v 8) (.v 7)) [(.cmp .IsNot (.v 12) (.v 13))])]) (.lst [])) [.ret (.c .none)] []
noncomputable def zvi:PS:= .app 4 (.comp (.v 12) [(.mk (.t [(.v 12),(.v 13)]) (.zip (.v 6) (.v 7)) [(.v 13)])])
def trD (s:Bool) (j:Nat):PyData:= .list ((trW s (wd s j)).map rD)
def gdD (s:Bool) (j:Nat):PyData:= .list ((trW s (wd s j)).map λw=> .bool (zmr s w))
theorem ztJ {s:Bool} {j:Nat} (hj:j<3) (h4:f 4=some (.m (lsD s (j+1)))):zg (run tbl (m+20)) (fr 63 f) lb6=some (fr 63 (up f 6 (some (.d (trD s j)))),.next):=by
 refine zF (zq h4) ?_;clear h4
 refine zag ?_
 refine lt3 hj ?_ ?_ ?_<;>cases s<;>kernel_rfl
theorem ztK {s:Bool} {j:Nat} (hj:j<3) (h1:f 1=some (.d (.bool s))) (h5:f 5=some (.d (.int (j:Int)))) (h6:f 6=some (.d (trD s j))):zg (run tbl (m+20)) (fr 63 f) lb7=some (fr 63 (up f 7 (some (.d (gdD s j)))),.next):=by
 refine zF (zq h1) ?_;refine zF (zq h5) ?_;refine zF (zq h6) ?_;clear h1 h5 h6
 refine zag ?_
 refine lt3 hj ?_ ?_ ?_<;>cases s<;>kernel_rfl
theorem ztL {s:Bool} {j:Nat} (hj:j<3) (h7:f 7=some (.d (gdD s j))) (h8:f 8=some (.d (gdD s j))):zg (run tbl (m+20)) (fr 63 f) lb9=some (fr 63 f,.next):=by
 refine zF (zq h7) ?_;refine zF (zq h8) ?_;clear h7 h8
 refine lt3 hj ?_ ?_ ?_<;>cases s<;>kernel_rfl
theorem zro {s:Bool} {j:Nat} (hj:j<3) (h4:f 4=some (.m (lsD s (j+1)))) (h6:f 6=some (.d (trD s j))) (h7:f 7=some (.d (gdD s j))):zg (run tbl (m+20)) (fr 63 f) zvi=some (fr 63 (up f 4 (some (.m (lsD s (j+2))))),.next):=by
 refine zF (zq h4) ?_;refine zF (zq h6) ?_;refine zF (zq h7) ?_;clear h4 h6 h7
 refine (show _=some ((fr 63 (up (up (up f 7 (some (.d (gdD s j)))) 6 (some (.d (trD s j)))) 4 (some (.m (lsD s (j+1)))))).set 4 (some (.m (lsD s (j+2)))),Fl.next) from ?_).trans (by rw [z5])
 refine lt3 hj ?_ ?_ ?_<;>cases s<;>kernel_rfl
theorem ztM {s:Bool} {k:Nat} (h1:1<=k) (h3:k<=3) {j:Nat} (hj:j<k) {w:List Nat} (hw:w∈trW s (wd s j)):ztI w=true/\ ∀{e0 e1:List Nat},e0∈ze3 ->e1∈ze4 ->zrn s k e0 e1 w=true:=by
 have u:∀{k:Nat},znk s k=true ->j<k ->ztI w=true/\ ∀e0∈ze3,∀e1∈ze4,zrn s k e0 e1 w=true:=λh hj=>by
  have h:=List.all_eq_true.mp (List.all_eq_true.mp h j (List.mem_range.mpr hj)) w hw
  simp only [Bool.and_eq_true,List.all_eq_true] at h
  exact h
 cases s with
 |true=>
  refine zR (u (k:=3) zwe (by lia)) λa b=>?_
  exact ⟨a,λh h'=>b _ h _ h'⟩
 |false=>
  have c:znk false k=true:=by
   have:k=1 \/k=2 \/k=3:=by lia
   rcases this with e|e|e<;>subst e
   ·exact zwf
   ·exact zwg
   ·exact zwh
  refine zR (u c hj) λa b=>?_
  exact ⟨a,λh h'=>b _ h _ h'⟩
theorem zrp {o:Option PyData} {b:Bool} (h:o.bind zpC=some b):o=some (.bool b):=by
 refine zm (Option.bind_eq_some_iff.mp h) λd hd hs=>?_
 refine za hd ?_
 cases d<;>first|exact zb hs|skip
 cases hs;rfl
theorem ztN (h7':tbl 7=some (.code 2 60 zja)) {s:Bool} {k:Nat} (h1:1<=k) (h3:k<=3) {j:Nat} (hj:j<k) {e0 e1:List Nat} (m0:e0∈ze3) (m1:e1∈ze4) (i2:f 2=some (.d (.list [rD e0,rD e1]))) (i3:f 3=some (.d (rD (zkz s k)))) (i6:f 6=some (.d (trD s j))):
  zg (run tbl (m+30)) (fr 63 f) lb8=some (fr 63 (up f 8 (some (.d (gdD s j)))),.next):=by
 refine zF (zq i2) ?_;refine zF (zq i3) ?_;refine zF (zq i6) ?_;clear i2 i3 i6
 generalize hF:up (up (up f 6 (some (.d (trD s j)))) 3 (some (.d (rD (zkz s k))))) 2 (some (.d (.list [rD e0,rD e1])))=F
 have tl:(trW s (wd s j)).length<=100:=lt3 (P:=λj=>(trW s (wd s j)).length<=100) (show j<3 by lia) (by cases s<;>decide) (by cases s<;>decide) (by cases s<;>decide)
 refine zag (zY (n:=m+29) (z6 (xs:=trW s (wd s j)) (g:=rD) (h:=λw=> .bool (zmr s w)) (zel (d:=trD s j) (by subst hF;kernel_rfl) rfl (by rw [List.length_map];exact zv tl (by decide))) λw hw=>⟨((fr 63 F).set 12 none).set 12 (some (.d (rD w))),rfl,?_⟩) (by rw [List.length_map];lia))
 refine zR (ztM h1 h3 hj hw) λcj cw=>?_
 have cw:=cw m0 m1
 simp only [zrn,Bool.and_eq_true,Nat.ble_eq] at cw
 refine E03 cw λq l1 l2=>?_
 clear cw
 have J:me1 (.str "...") (rD w) .join=some (rD (jd w)):=by
  refine zm (Option.map_eq_some_iff.mp (eq_of_beq cj)) λx hx e=>?_
  refine za (zlu hx) ?_;refine zF (zbO x) ?_;refine za e ?_;rfl
 have Q:=zrm (m:=m+16) h7' (zrp (eq_of_beq q))
 unfold zpB at l1
 unfold ztH at l2
 simp only [List.length_append] at l1 l2
 have v2:∀{n:Nat},(run tbl (n+2)).ex (((fr 63 F).set 12 none).set 12 (some (.d (rD w)))) (.idx (.v 2) (.c (.int 0)))=some (rD e0):=λ{n}=>by subst hF;kernel_rfl
 have v2':∀{n:Nat},(run tbl (n+2)).ex (((fr 63 F).set 12 none).set 12 (some (.d (rD w)))) (.idx (.v 2) (.c (.int 1)))=some (rD e1):=λ{n}=>by subst hF;kernel_rfl
 have D:(.str "..." :PyData)=rD zdu:=by kernel_rfl
 refine zan (n:=m+28) (zap (zr (n:=m+27) (zr (n:=m+26) (zr (n:=m+25) (zr (n:=m+24) v2 (y:=rD zdu) (congrArg some D) (add_str (by lia))) (zeQ (n:=m+24) (a:= .c (.str "...")) (es:=[.v 12]) (xs:=[rD w]) rfl (zaa (by kernel_rfl)) J) (add_str (by refine za List.length_append ?_;lia))) (y:=rD zdu) (congrArg some D) (add_str (by simp only [List.length_append];lia))) v2' (add_str (by simp only [List.length_append];lia))) (zaa (zr (n:=m+27) (zr (n:=m+26) v2 (by subst hF;kernel_rfl) (add_str (by lia))) v2' (add_str (by refine za List.length_append ?_;lia))))) Q
theorem zms (h7':tbl 7=some (.code 2 60 zja)) {s:Bool} {k:Nat} (h1:1<=k) (h3:k<=3) {e0 e1:List Nat} (m0:e0∈ze3) (m1:e1∈ze4):∀(n j:Nat) (f:Nat ->Option PV),j+n=k ->f 1=some (.d (.bool s)) ->f 2=some (.d (.list [rD e0,rD e1])) ->f 3=some (.d (rD (zkz s k))) ->f 4=some (.m (lsD s (j+1))) ->
  ∃f',zbF (run tbl (m+31)) (.v 5) [lb6,lb7,lb8,lb9,zvi] [] ((List.range' j n).map λ(j:Nat)=> .int (j:Int)) (fr 63 f)=some (fr 63 f',.next)/\ f' 4=some (.m (lsD s (k+1)))
 |0,j,f,e,i1,i2,i3,i4=>⟨f,rfl,by refine za i4 ?_;exact zF e rfl⟩
 |n+1,j,f,e,i1,i2,i3,i4=>by
  have hj:j<3:=by lia
  have S6:=ztJ (tbl:=tbl) (m:=m+10) (f:=up f 5 (some (.d (.int (j:Int))))) hj i4
  have S7:=ztK (tbl:=tbl) (m:=m+10) (f:=up (up f 5 (some (.d (.int (j:Int))))) 6 (some (.d (trD s j)))) hj i1 rfl rfl
  have S8:=ztN (tbl:=tbl) (m:=m) (f:=up (up (up f 5 (some (.d (.int (j:Int))))) 6 (some (.d (trD s j)))) 7 (some (.d (gdD s j)))) h7' h1 h3 (by lia) m0 m1 i2 i3 rfl
  have S9:=ztL (tbl:=tbl) (m:=m+10) (f:=up (up (up (up f 5 (some (.d (.int (j:Int))))) 6 (some (.d (trD s j)))) 7 (some (.d (gdD s j)))) 8 (some (.d (gdD s j)))) hj rfl rfl
  have S10:=zro (tbl:=tbl) (m:=m+10) (f:=up (up (up (up f 5 (some (.d (.int (j:Int))))) 6 (some (.d (trD s j)))) 7 (some (.d (gdD s j)))) 8 (some (.d (gdD s j)))) hj i4 rfl rfl
  refine zm (zms h7' h1 h3 m0 m1 n (j+1) (up (up (up (up (up f 5 (some (.d (.int (j:Int))))) 6 (some (.d (trD s j)))) 7 (some (.d (gdD s j)))) 8 (some (.d (gdD s j)))) 4 (some (.m (lsD s (j+2))))) (by lia) i1 i2 i3 rfl) λf' k1 k2=>?_
  exact ⟨f',(zab (n:=m+30) (zgb ..) (zj S6 (zj S7 (zj S8 (zj S9 (zj S10 rfl)))))).trans k1,k2⟩
theorem zkA (h7':tbl 7=some (.code 2 60 zja)) (h10':tbl 10=some (.code 3 60 ztb)) {s:Bool} {k:Nat} (h1:1<=k) (h3:k<=3) {e0 e1:List Nat} (m0:e0∈ze3) (m1:e1∈ze4):
  (run tbl (m+40)).call 10 [.int (k:Int),.bool s,.list [rD e0,rD e1]]=some (.list (lsD s (k+1))):=by
 have i:([.int (k:Int),.bool s,.list [rD e0,rD e1]]:List PyData).map (λd=>some (PV.d d))++List.replicate 60 none=fr 63 λi=>([some (.d (.int (k:Int))),some (.d (.bool s)),some (.d (.list [rD e0,rD e1]))]:Rho).getD i none:=by kernel_rfl
 generalize hf:(λi=>([some (.d (.int (k:Int))),some (.d (.bool s)),some (.d (.list [rD e0,rD e1]))]:Rho).getD i none)=f at i
 refine zm (zms (tbl:=tbl) (m:=m+7) h7' h1 h3 m0 m1 k 0 (up (up f 3 (some (.d (rD (zkz s k))))) 4 (some (.m (lsD s 1)))) (Nat.zero_add k) (by subst hf;rfl) (by subst hf;rfl) rfl rfl) λf' K k4=>?_
 have hk:k=1 \/k=2 \/k=3:=by lia
 refine zbG (n:=m+38) (ρ':=(fr 63 f').set 4 (some (.d (.list (lsD s (k+1)))))) h10' rfl ?_
 refine za i ?_
 have o:(run tbl (m+38)).ex (fr 63 f) (.me .join (.c (.str "")) [(.comp (.bin .Mult (.v 12) (.ite (.v 1) (.c (.int 1)) (.v 0))) [(.mk (.v 12) (.c (.str "abc")) [])])])=some (rD (zkz s k)):=by
  subst hf
  rcases hk with e|e|e<;>subst e<;>cases s<;>kernel_rfl
 have it:itD (run tbl (m+38)) (fr 63 (up (up f 3 (some (.d (rD (zkz s k))))) 4 (some (.m (lsD s 1))))) (.rng [(.v 0)])=some ((List.range' 0 k).map λ(j:Nat)=> .int (j:Int)):=by
  subst hf
  rcases hk with e|e|e<;>subst e<;>kernel_rfl
 refine zj (zag o) (zj (ρ2:=fr 63 (up (up f 3 (some (.d (rD (zkz s k))))) 4 (some (.m (lsD s 1))))) ((zcR (xs:=lsD s 1) (by cases s<;>kernel_rfl)).trans (by rw [z5])) (zj (zbB it K) ?_))
 exact zF (zq k4) (zj (ρ2:=(fr 63 (up f' 4 (some (.m (lsD s (k+1)))))).set 4 (some (.d (.list (lsD s (k+1)))))) (by kernel_rfl) (zT (za0 (by kernel_rfl))))
end One1
namespace One1
noncomputable def zwi (c d:List Nat):Bool:=(c.zip d).all λq=>Nat.ble q.1 q.2
def zwj (t:List (List Nat)) (c:List Nat):Bool:=match t with
 | []=>true
 |d::_=>zwi d c
def rdT (h:List Nat):List (List (List Nat)):=h.foldl (λts k=>ts.flatMap λt=>((wd true k).filter (zwj t)).map (· ::t)) [[]]
def rdL (h:List Nat):List (List Nat):=(rdT h).map List.flatten
noncomputable def sh1:List (List Nat):=[[1],[2],[3]]
noncomputable def sh2:List (List Nat):=[[1,1],[2,1],[3,1],[2,2],[3,2],[3,3]]
noncomputable def sh3:List (List Nat):=[[1,1,1],[2,1,1],[3,1,1],[2,2,1],[3,2,1],[3,3,1],[2,2,2],[3,2,2],[3,3,2],[3,3,3]]
def shA:List (List Nat):=sh1++sh2
def shB:List (List Nat):=shA++sh3
noncomputable def zmt:List PyData ->Option (List (List Nat))
 | []=>some []
 | .str x::r=>(zmt r).map (x.cps.toList:: ·)
 |_=>none
set_option tactic.hygienic true in
theorem zkB:∀{l:List PyData} {x:List (List Nat)},zmt l=some x ->l=x.map rD
 | [],x,h=>by cases h;rfl
 |d::r,x,h=>by
  cases d<;>first|exact zb h|skip
  rename_i y
  refine zm (Option.map_eq_some_iff.mp (show (zmt r).map (y.cps.toList:: ·)=some x from h)) λz h1 h2=>?_
  refine zF h2 (za (zkB h1) ?_)
  exact congrArg (λa=>PyData.str a::z.map rD) (zbO y).symm
def zwk (h:List Nat) (kc kl:Nat):Bool:=(((run tE 119).call 11 [.list (dI h),.list (lsD true (kc+1)),.list (lsD false (kl+1))]).bind za3).bind zmt==some (rdL h)
def zit (h:List Nat):Bool:=[1,2,3].all λkc=>[1,2,3].all λkl=>Nat.blt kc (h.foldl max 0)|| (Nat.blt kl h.length||zwk h kc kl)
theorem r1:sh1.all zit=true:=by decide+kernel
theorem r2:sh2.all zit=true:=by decide+kernel
theorem r3:(sh3.take 3).all zit=true:=by decide+kernel
theorem r4:((sh3.drop 3).take 3).all zit=true:=by decide+kernel
theorem r5:(sh3.drop 6).all zit=true:=by decide+kernel
noncomputable def par (h:List Nat):T3:=((h.filter λx=>Nat.blt 0 x).length,(h.filter λx=>Nat.blt 1 x).length,(h.filter λx=>Nat.blt 2 x).length)
def zrq (p:T3) (r:List Nat):Bool:=(r.all λc=>Nat.beq c 97|| (Nat.beq c 98||Nat.beq c 99))&&(Nat.ble r.length 20&&(Nat.ble (shw r p).2.2 ((shw r p).2.1+1)&&(Nat.ble (shw r p).2.1 ((shw r p).1+1)&&(Nat.ble (shw r p).1 5&&(Nat.ble (lst r p).1 6&&(Nat.ble (lst r p).2.1 6&&Nat.ble (lst r p).2.2 6))))))
def zvj (h:List Nat):Bool:=zpw ((rdL h).map λr=>lst r z0)&&(zlD z0 (rdL h)&&(((rdL h).filter (gd z0)).map (λr=>lst r z0)==[par h]))
def gdL (p:T3) (h:List Nat):List T3:=((rdL h).filter (gd p)).map λr=>lst r p
def zkC (h0 h1:List Nat):Bool:=(rdL h0).all (zrq (par h1))&&((rdL h1).all (zrq (par h0))&&(zlD (par h1) (rdL h0)&&(zlD (par h0) (rdL h1)&&(gdL (par h1) h0).isPerm (gdL (par h0) h1))))
theorem zrr:shB.all zvj=true:=by decide+kernel
theorem zvk:(sh1.all λh0=>shA.all λh1=>zkC h0 h1)=true:=by decide+kernel
theorem zvl:(sh2.all λh0=>shA.all λh1=>zkC h0 h1)=true:=by decide+kernel
theorem zvm:(sh3.all λh0=>shA.all λh1=>zkC h0 h1)=true:=by decide+kernel
end One1
namespace One1
variable {tbl:Nat ->Option Fn} {m:Nat} {f:Nat ->Option PV}
theorem zvn:∀h∈shB,zit h=true:=by
 have e:shB=sh1++(sh2++(sh3.take 3++((sh3.drop 3).take 3++sh3.drop 6))):=by decide
 refine za e ?_
 intro h hh
 simp only [List.mem_append] at hh
 rcases hh with hh|hh|hh|hh|hh
 ·exact List.all_eq_true.mp r1 h hh
 ·exact List.all_eq_true.mp r2 h hh
 ·exact List.all_eq_true.mp r3 h hh
 ·exact List.all_eq_true.mp r4 h hh
 ·exact List.all_eq_true.mp r5 h hh
theorem zkD {h:List Nat} (hh:h∈shB) {kc kl:Nat} (h1:h.foldl max 0<=kc) (h2:kc<=3) (h3:h.length<=kl) (h4:kl<=3) (h5:1<=kc) (h6:1<=kl):
  (run tE 119).call 11 [.list (dI h),.list (lsD true (kc+1)),.list (lsD false (kl+1))]=some (.list ((rdL h).map rD)):=by
 have a:=zvn h hh
 have mem:∀k,1<=k ->k<=3 ->k∈[1,2,3]:=λk _ _=>by
  have:k=1 \/k=2 \/k=3:=by lia
  rcases this with e|e|e<;>subst e<;>decide
 have b:=List.all_eq_true.mp (List.all_eq_true.mp a kc (mem kc h5 h2)) kl (mem kl h6 h4)
 rw [show Nat.blt kc (h.foldl max 0)=false from Bool.eq_false_iff.mpr λhh=>by have:=Nat.blt_eq.mp hh;lia,show Nat.blt kl h.length=false from Bool.eq_false_iff.mpr λhh=>by have:=Nat.blt_eq.mp hh;lia,Bool.false_or,Bool.false_or] at b
 refine zm (Option.bind_eq_some_iff.mp (eq_of_beq b)) λl hl hs=>?_
 refine zm (Option.bind_eq_some_iff.mp hl) λd hd hl=>?_
 refine hd.trans (congrArg some ?_)
 cases d<;>first|exact zb hl|skip
 cases hl
 exact za (zkB hs) rfl
theorem znl (zs:List Int) (lo hi st:Option Int):zjv (zs.map .int) lo hi st=(pickNums zs lo hi st).map .int:=by
 unfold zjv pickNums
 rw [List.length_map]
 refine za List.map_filterMap ?_
 congr 1
 funext k
 exact za List.getElem?_map rfl
theorem zdv:∀(is:List Int) (a:Int),zdx (is.map .int) a=some (is.foldl (· + ·) a)
 | [],a=>rfl
 |x::is,a=>(zdv is (a+x)).trans rfl
theorem zr6:zaZ .Pow (.int 10) (.int 9)=some (.int 1000000000):=by kernel_rfl
theorem zcT {a b:Int} (h:b≠0):zaZ .Mod (.int a) (.int b)=some (.int (a.fmod b)):=if_pos h
theorem zjo {a b:Int} (h:b≠0) (h2:b.natAbs<1073741824):zaZ .FloorDiv (.int a) (.int b)=some (.int (a.fdiv b)):=if_pos ⟨h,PyProof.noPylong_small h2⟩
theorem zvo {a:Int}:zaZ .Mod (.int a) (.int 1000000000)=some (.int (a.fmod 1000000000)):=zcT (by decide)
theorem zkE (a b:Int) (h:0<b):0<=a.fmod b/\ a.fmod b<b:=⟨Int.fmod_nonneg_of_pos _ h,Int.fmod_lt_of_pos _ h⟩
noncomputable def zna (zs:List Int) (i c:Int):Int:=(c+((pickNums zs (some i) (some 60) (some 8)).map (·.fmod 1000000000)).foldl (· + ·) 0).fmod 1000000000
theorem zpD (zs:List Int) (i:Int):(pickNums zs (some i) (some 60) (some 8)).length<=zs.length:=by
 refine zv (List.length_filterMap_le _ _) ?_
 refine sliceRange_length_le _ _ _ _ (λu=>?_) (λh=>absurd (show (8:Int)>0 by simp) h)
 simp only [sliceBounds,Option.getD_some,show ((8:Int)>0)=True from by simp,if_true]
 constructor
 ·split<;>exact Int.le_max_left _ _
 ·split<;>exact Int.max_le.mpr ⟨Int.natCast_nonneg _,Int.min_le_right _ _⟩
noncomputable def zaG (s:Nat ->Int):PyData:= .list ((List.range 8).map λi=> .int (s i))
noncomputable def zem (i:Nat):Int:=([5,4,6,21,17,22,24,1291]:List Int).getD i 0
theorem zvp {zs:List Int} (hz:zs.length<=63) (i0:f 0=some (.d (.list (zs.map .int)))):zg (run tbl (m+14)) (fr 61 f) s0=some (fr 61 (up f 1 (some (.d (zaG λi=>zna zs (i:Int) (zem i))))),.next):=by
 refine zF (zq i0) ?_;clear i0
 generalize hF:up f 0 (some (.d (.list (zs.map .int))))=F
 refine zag (zY (n:=m+13) (z6 (xs:=List.range 8) (g:=λi=> .tuple [.int (i:Int),.int (zem i)]) (h:=λi=> .int (zna zs (i:Int) (zem i))) (by kernel_rfl) λi hi=>⟨fr 61 (up (up F 37 (some (.d (.int (i:Int))))) 38 (some (.d (.int (zem i))))),?_,?_⟩) (show 8<=1000 by decide))
 ·show some (((((fr 61 F).set 37 none).set 38 none).set 37 _).set 38 _)=_
  rw [z5,z5,z5,z5]
  refine za (zmk (i:=38) (j:=37) rfl) (za zhp ?_)
  exact za zhp rfl
 ·generalize hG:up (up F 37 (some (.d (.int (i:Int))))) 38 (some (.d (.int (zem i))))=G
  have pl:=zv (zpD zs i) hz
  have lb:∀{l:List Int},l.length<=63 ->(l.map PyData.int).length<=1000:=λh=>by rw [List.length_map];lia
  have s1:zbY (.list (zs.map PyData.int)) (some (i:Int)) (some 60) (some 8)=some (.list ((pickNums zs (some (i:Int)) (some 60) (some 8)).map .int)):=
   (if_pos ⟨by decide,zv (lb hz) (by decide)⟩).trans (congrArg (λx=>some (PyData.list x)) (znl ..))
  have C:=z6 (S:=run tbl (m+9)) (ρ:=fr 61 G) (t:= .v 40) (it:= .sl (.v 0) (some (.v 37)) (some (.c (.int 60))) (some (.c (.int 8)))) (elt:= .bin .Mod (.v 40) (.bin .Pow (.c (.int 10)) (.c (.int 9)))) (xs:=pickNums zs (some (i:Int)) (some 60) (some 8)) (g:= .int) (h:=PyData.int∘(·.fmod 1000000000))
   (zuY (znb (n:=m+8) (x:= .list (zs.map .int)) (by subst hG hF;kernel_rfl) (o_e (k:=(i:Int)) (by subst hG;kernel_rfl)) rfl rfl s1) rfl (zv (lb pl) (by decide))) λz hz=>⟨((fr 61 G).set 40 none).set 40 (some (.d (.int z))),rfl,zr (n:=m+8) (x:= .int z) (by kernel_rfl) (zr (n:=m+7) rfl rfl zr6) zvo⟩
  rw [<-List.map_map] at C
  have lm:(((pickNums zs (some (i:Int)) (some 60) (some 8)).map (·.fmod 1000000000)).map PyData.int).length<=1000:=lb (by rw [List.length_map];exact pl)
  exact zr (n:=m+12) (zr (n:=m+11) (x:= .int (zem i)) (by subst hG;kernel_rfl) (zho (b:= .sum) (by decide) (zaa (zY (n:=m+9) C lm)) ((if_pos (zv lm (by decide))).trans (congrArg (Option.map PyData.int) (zdv ..)))) rfl) (zr (n:=m+11) rfl rfl zr6) zvo
end One1
namespace One1
variable {tbl:Nat ->Option Fn} {m:Nat} {f:Nat ->Option PV} {s:Nat ->Int}
theorem zjp (a:Int) (b:Nat) (h:0<b):∃k:Nat,k<b/\ a.fmod b=k:=by
 refine zR (zkE a b (Int.natCast_pos.mpr h)) λh1 h2=>?_
 exact ⟨(a.fmod b).toNat,(Int.toNat_lt h1).mpr h2,(Int.toNat_of_nonneg h1).symm⟩
theorem zkF {e:PE} {a:Int} {b:Nat} (hb:0<b) (h:(run tbl m).ex (fr 61 f) e=some (.int a)) (hm:1<=m):∃k:Nat,k<b/\ (run tbl (m+1)).ex (fr 61 f) (.bin .Mod e (.c (.int (b:Int))))=some (.int (k:Int)):=by
 refine zm (zjp a b hb) λk h1 h2=>?_
 obtain ⟨j,rfl⟩:∃j,m=j+1:=⟨m-1,(Nat.sub_add_cancel hm).symm⟩
 exact ⟨k,h1,h2▸zr h rfl (zcT (Int.natCast_ne_zero.mpr (Nat.ne_of_gt hb)))⟩
theorem zpE {e:PE} {a:Int} {b c:Nat} (hb:0<b) (hc:0<c) (hc2:c<1073741824) (h:(run tbl m).ex (fr 61 f) e=some (.int a)) (hm:1<=m):∃k:Nat,k<b/\ (run tbl (m+2)).ex (fr 61 f) (.bin .Mod (.bin .FloorDiv e (.c (.int (c:Int)))) (.c (.int (b:Int))))=some (.int (k:Int)):=by
 obtain ⟨j,rfl⟩:∃j,m=j+1:=⟨m-1,(Nat.sub_add_cancel hm).symm⟩
 exact zkF hb (zr h rfl (zjo (a:=a) (b:=(c:Int)) (Int.natCast_ne_zero.mpr (Nat.ne_of_gt hc)) hc2)) (Nat.succ_pos _)
theorem zc1 {n:Nat} {i:Nat} (hi:i<8) (i1:f 1=some (.d (zaG s))):(run tbl (n+2)).ex (fr 61 f) (.idx (.v 1) (.c (.int (i:Int))))=some (.int (s i)):=by
 refine zF (zq i1) ?_;clear i1
 exact lt8 hi (by kernel_rfl) (by kernel_rfl) (by kernel_rfl) (by kernel_rfl) (by kernel_rfl) (by kernel_rfl) (by kernel_rfl) (by kernel_rfl)
theorem zvq (i1:f 1=some (.d (zaG s))):∃b0 b1:Nat,(1<=b0/\ b0<=3)/\ (1<=b1/\ b1<=2)/\ zg (run tbl (m+20)) (fr 61 f) s1=some (fr 61 (up f 2 (some (.d (.list (dI [b0,b1]))))),.next):=by
 refine zm (zkF (b:=2) (by decide) (zc1 (tbl:=tbl) (n:=m+14) (i:=0) (by decide) i1) (by lia)) λr0 h0 k0=>?_
 refine zm (zkF (b:=2) (by decide) (zc1 (tbl:=tbl) (n:=m+15) (i:=1) (by decide) i1) (by lia)) λr1 h1 k1=>?_
 refine zm (zpE (b:=8) (c:=1000) (by decide) (by decide) (by decide) (zc1 (tbl:=tbl) (n:=m+12) (i:=0) (by decide) i1) (by lia)) λr2 h2 k2=>?_
 have T:=zho (b:= .int) (by decide) (zaa (zV (n:=m+16) (co:= .Eq) (a:= .bin .Mod (.bin .FloorDiv (.idx (.v 1) (.c (.int 0))) (.c (.int 1000))) (.c (.int 8))) (b:= .c (.int 1)) k2 rfl rfl)) (rfl:biD .int [.bool ((r2:Int)==1)]=some (.int (if ((r2:Int)==1) then 1 else 0)))
 obtain ⟨q,hq,e⟩:∃q:Nat,q<=1/\ (if ((r2:Int)==1)=true then (1:Int) else 0)=(q:Int):=by
  by_cases h:((r2:Int)==1)=true
  ·exact ⟨1,Nat.le_refl 1,if_pos h⟩
  ·exact ⟨0,Nat.zero_le 1,if_neg h⟩
 rw [e] at T
 have A:=zr (n:=m+17) (op:= .Add) (a:= .c (.int 1)) rfl k0 rfl
 have B:=zr (n:=m+18) (op:= .Add) A T rfl
 have C:=zr (n:=m+18) (op:= .Add) (a:= .c (.int 1)) rfl k1 rfl
 have eB:(1:Int)+(r0:Int)+(q:Int)=((1+r0+q:Nat):Int):=by lia
 have eC:(1:Int)+(r1:Int)=((1+r1:Nat):Int):=by lia
 rw [eB] at B
 rw [eC] at C
 exact ⟨1+r0+q,1+r1,⟨zv (Nat.le_add_right 1 r0) (Nat.le_add_right _ q),Nat.add_le_add (Nat.add_le_add_left (Nat.le_of_lt_succ h0) 1) hq⟩,⟨Nat.le_add_right 1 r1,Nat.add_le_add_left (Nat.le_of_lt_succ h1) 1⟩,zag (zma (n:=m+19) (zap B (zaa C)))⟩
def zrs (ts:List Nat):Option PyData:=(biD .sorted [.list (dI ts)]).bind λd=>zbY d none none (some (-1))
noncomputable def zkG:List PyData ->Option (List Nat)
 | []=>some []
 | .int (.ofNat n)::r=>(zkG r).map (n:: ·)
 |_=>none
set_option tactic.hygienic true in
theorem zkH:∀{l:List PyData} {h:List Nat},zkG l=some h ->l=dI h
 | [],h,e=>by cases e;rfl
 |d::r,h,e=>by
  cases d<;>first|exact zb e|skip
  rename_i i
  cases i with
  |negSucc n=>exact zb e
  |ofNat n=>
   refine zm (Option.map_eq_some_iff.mp (show (zkG r).map (n:: ·)=some h from e)) λz h1 h2=>?_
   refine zF h2 ?_;refine za (zkH h1) ?_;rfl
def zpF (S:List (List Nat)) (ts:List Nat):Bool:=match ((zrs ts).bind za3).bind zkG with
 |some h=>S.contains h&&Nat.beq h.length ts.length
 |none=>false
theorem ztO:([1,2,3].all λa=>zpF sh1 [a])=true:=by decide+kernel
theorem ztP:([1,2,3].all λa=>[1,2,3].all λb=>zpF sh2 [a,b])=true:=by decide+kernel
theorem ztQ:([1,2,3].all λa=>[1,2,3].all λb=>[1,2,3].all λc=>zpF sh3 [a,b,c])=true:=by decide+kernel
theorem zjq {S:List (List Nat)} {ts:List Nat} (h:zpF S ts=true):∃h∈S,zrs ts=some (.list (dI h)):=by
 unfold zpF at h
 cases e:((zrs ts).bind za3).bind zkG with
 |none=>rw [e] at h;cases h
 |some x=>
  rw [e] at h
  refine zm (Option.bind_eq_some_iff.mp e) λl hl hs=>?_
  refine zm (Option.bind_eq_some_iff.mp hl) λd hd hl=>?_
  refine ⟨x,List.contains_iff_mem.mp (Bool.and_eq_true_iff.mp h).1,hd.trans (congrArg some ?_)⟩
  cases d<;>first|exact zb hl|skip
  cases hl
  exact za (zkH hs) rfl
theorem ztR {b:Nat} (h1:1<=b) (h3:b<=3) (T:Nat ->Nat) (hT:∀i,T i<3):∃h∈shB,(b<=2 ->h∈shA)/\ zrs ((List.range b).map λi=>1+T i)=some (.list (dI h)):=by
 have m3:∀i,1+T i∈[1,2,3]:=λi=>lt3 (hT i) (by decide) (by decide) (by decide)
 have:b=1 \/b=2 \/b=3:=by lia
 rcases this with e|e|e<;>subst e
 ·refine zm (zjq (List.all_eq_true.mp ztO _ (m3 0))) λh hm k=>?_
  exact ⟨h,List.mem_append_left _ (List.mem_append_left _ hm),λ_=>List.mem_append_left _ hm,k⟩
 ·refine zm (zjq (List.all_eq_true.mp (List.all_eq_true.mp ztP _ (m3 0)) _ (m3 1))) λh hm k=>?_
  exact ⟨h,List.mem_append_left _ (List.mem_append_right _ hm),λ_=>List.mem_append_right _ hm,k⟩
 ·refine zm (zjq (List.all_eq_true.mp (List.all_eq_true.mp (List.all_eq_true.mp ztQ _ (m3 0)) _ (m3 1)) _ (m3 2))) λh hm k=>?_
  exact ⟨h,List.mem_append_right _ hm,λh=>by lia,k⟩
theorem zwl {t:Nat} (ht:t<3):zaZ .Pow (.int 3) (.int ((t:Int)+1))=some (.int ((3^(t+1):Nat):Int)):=lt3 ht (by kernel_rfl) (by kernel_rfl) (by kernel_rfl)
theorem zpG {a b:Nat} (ha:a<2) (hb1:1<=b) (hb3:b<=3) (i1:f 1=some (.d (zaG s))) {bs:PyData} (i2:f 2=some (.d bs)) (hi:zbf bs (.int (a:Int))=some (.int (b:Int))) (i37:f 37=some (.d (.int (a:Int)))):
  ∃h∈shB,(b<=2 ->h∈shA)/\ (run tbl (m+20)).ex (fr 61 f) (.sl (.bi .sorted [(.comp (.bin .Add (.c (.int 1)) (.bin .Mod (.bin .FloorDiv (.idx (.v 1) (.v 37)) (.bin .Pow (.c (.int 3)) (.bin .Add (.v 39) (.c (.int 1))))) (.c (.int 3)))) [(.mk (.v 39) (.rng [(.idx (.v 2) (.v 37))]) [])])]) none none (some (.neg (.c (.int 1)))))=some (.list (dI h)):=by
 refine zF (zq i1) ?_;refine zF (zq i2) ?_;refine zF (zq i37) ?_;clear i1 i2 i37
 generalize hF:up (up (up f 37 (some (.d (.int (a:Int))))) 2 (some (.d bs))) 1 (some (.d (zaG s)))=F
 have ia:zbf (zaG s) (.int (a:Int))=some (.int (s a)):=ltS (P:=λa=>zbf (zaG s) (.int (a:Int))=some (.int (s a))) ha (by kernel_rfl) λj hj=>ltS (P:=λj=>zbf (zaG s) (.int ((j+1:Nat):Int))=some (.int (s (j+1)))) hj (by kernel_rfl) λj hj=>absurd hj (Nat.not_lt_zero j)
 have T:∀t:Nat,∃k:Nat,k<3/\ ((s a).fdiv ((3^(t+1):Nat):Int)).fmod 3=k:=λt=>zjp _ 3 (by decide)
 have R:itD (run tbl (m+17)) (zai (zZ (.v 39)) (fr 61 F)) (.rng [(.idx (.v 2) (.v 37))])=some ((List.range b).map λt:Nat=> .int (t:Int)):=by
  refine zta (ds:=[.int (b:Int)]) (zaa (zaY (n:=m+16) (x:=bs) (y:= .int (a:Int)) (by subst hF;kernel_rfl) (by subst hF;kernel_rfl) hi)) ?_
  have:b=1 \/b=2 \/b=3:=by lia
  rcases this with e|e|e<;>subst e<;>rfl
 have C:=z6 (S:=run tbl (m+17)) (ρ:=fr 61 F) (t:= .v 39) (elt:= .bin .Add (.c (.int 1)) (.bin .Mod (.bin .FloorDiv (.idx (.v 1) (.v 37)) (.bin .Pow (.c (.int 3)) (.bin .Add (.v 39) (.c (.int 1))))) (.c (.int 3)))) (xs:=List.range b) (h:=(λ(n:Nat)=>PyData.int (n:Int))∘λt=>1+(T t).choose) R λt ht=>⟨((fr 61 F).set 39 none).set 39 (some (.d (.int (t:Int)))),rfl,by
  have ht:t<3:=Nat.lt_of_lt_of_le (List.mem_range.mp ht) hb3
  have q:=(T t).choose_spec.2
  have p:=Nat.two_pow_pos t
  refine (zr (n:=m+16) (op:= .Add) (a:= .c (.int 1)) rfl (zr (n:=m+15) (op:= .Mod) (zr (n:=m+14) (op:= .FloorDiv) (zaY (n:=m+13) (x:=zaG s) (y:= .int (a:Int)) (by subst hF;kernel_rfl) (by subst hF;kernel_rfl) ia) (zr (n:=m+13) (op:= .Pow) rfl (zr (n:=m+12) (op:= .Add) (x:= .int (t:Int)) (by kernel_rfl) rfl rfl) (zwl ht)) (zjo ?_ ?_)) rfl (zcT (by decide))) rfl).trans (congrArg (λi=>some (PyData.int i)) (by refine za q ?_;push_cast;rfl))
  ·exact lt3 (P:=λt=>((3^(t+1):Nat):Int)≠0) ht (by decide) (by decide) (by decide)
  ·exact lt3 (P:=λt=>((3^(t+1):Nat):Int).natAbs<1073741824) ht (by decide) (by decide) (by decide)⟩
 rw [<-List.map_map] at C
 refine E13 (ztR hb1 hb3 _ λi=>(T i).choose_spec.1) λh hB hA k=>?_
 refine zm (Option.bind_eq_some_iff.mp k) λd k1 k2=>?_
 exact ⟨h,hB,hA,znb (n:=m+19) (zho (b:= .sorted) (by decide) (zaa (zY (n:=m+17) C (by rw [List.length_map,List.length_map];refine za List.length_range ?_;lia))) k1) rfl rfl (o_e (k:= -1) rfl) k2⟩
end One1
namespace One1
variable {tbl:Nat ->Option Fn} {m:Nat} {f:Nat ->Option PV} {s:Nat ->Int}
theorem zvr {b0 b1:Nat} (h0:1<=b0/\ b0<=3) (h1:1<=b1/\ b1<=2) (i1:f 1=some (.d (zaG s))) (i2:f 2=some (.d (.list (dI [b0,b1])))):∃g0∈shB,∃g1∈shA,zg (run tbl (m+30)) (fr 61 f) s2=some (fr 61 (up f 4 (some (.d (.list [.list (dI g0),.list (dI g1)])))),.next):=by
 refine E13 (zpG (tbl:=tbl) (m:=m+9) (f:=up f 37 (some (.d (.int ((0:Nat):Int))))) (a:=0) (by decide) h0.1 h0.2 i1 i2 rfl rfl) λg0 B0 _ k0=>?_
 refine E13 (zpG (tbl:=tbl) (m:=m+9) (f:=up f 37 (some (.d (.int ((1:Nat):Int))))) (a:=1) (by decide) h1.1 (by lia) i1 i2 rfl rfl) λg1 _ A1 k1=>?_
 refine ⟨g0,B0,g1,A1 h1.2,zag (zY (n:=m+29) (z6 (xs:=[0,1]) (g:=λn:Nat=> .int (n:Int)) (h:=λn=> .list (dI (if n=0 then g0 else g1))) rfl λa ha=>⟨_,zao ..,?_⟩) (show 2<=1000 by decide))⟩
 have:a=0 \/a=1:=by simpa using ha
 rcases this with e|e<;>subst e
 ·exact k0
 ·exact k1
theorem zvs (i1:f 1=some (.d (zaG s))):∃e0∈ze3,∃e1∈ze4,zg (run tbl (m+30)) (fr 61 f) s3=some (fr 61 (up f 5 (some (.d (.list [rD e0,rD e1])))),.next):=by
 refine zm (zkF (b:=4) (by decide) (zc1 (tbl:=tbl) (n:=m+25) (i:=2) (by decide) i1) (by lia)) λj hj k0=>?_
 refine zm (zpE (b:=4) (c:=4) (by decide) (by decide) (by decide) (zc1 (tbl:=tbl) (n:=m+23) (i:=2) (by decide) i1) (by lia)) λk hk k1=>?_
 refine ⟨ze3.getD j [],?_,ze4.getD k [],?_,zag (zma (n:=m+29) (zap (znb (n:=m+28) (x:= .str "abc") rfl rfl (o_e k0) rfl ?_) (zaa (znb (n:=m+28) (x:= .str "abc") (l:=some (3-(k:Int))) rfl (o_e (zr (n:=m+27) (op:= .Sub) (a:= .c (.int 3)) rfl k1 rfl)) rfl rfl ?_))))⟩
 ·exact ltS (P:=λj=>ze3.getD j []∈ze3) (n:=3) hj (by decide) λj h=>lt3 h (by decide) (by decide) (by decide)
 ·exact ltS (P:=λj=>ze4.getD j []∈ze4) (n:=3) hk (by decide) λj h=>lt3 h (by decide) (by decide) (by decide)
 ·exact ltS (P:=λj=>zbY (.str "abc") none (some (j:Int)) none=some (rD (ze3.getD j []))) (n:=3) hj (by kernel_rfl) λj h=>lt3 h (by kernel_rfl) (by kernel_rfl) (by kernel_rfl)
 ·exact ltS (P:=λj=>zbY (.str "abc") (some (3-(j:Int))) none none=some (rD (ze4.getD j []))) (n:=3) hk (by kernel_rfl) λj h=>lt3 h (by kernel_rfl) (by kernel_rfl) (by kernel_rfl)
noncomputable def apB (e0 e1:List Nat):Bool:=Nat.blt (e0++e1).length 4
noncomputable def loB (e:List Nat):Bool:=e==[]||e==[97,98,99]
def zr7 (e0 e1:List Nat):PyData:= .list [.tuple [rD (e0++zdu++e1),.bool (apB e0 e1)],.tuple [rD (e0++e1),.bool (e0++e1==[97,98,99])],.tuple [rD (e1++zdu++e0),.bool (apB e0 e1&&(loB e0&&loB e1))],.tuple [rD (zdu++e0++zdu++e1++zdu),.bool (apB e0 e1)],.tuple [rD (zdu++[97,99]++zdu),.bool false]]
theorem zrt {e0 e1:List Nat} (m0:e0∈ze3) (m1:e1∈ze4) (i5:f 5=some (.d (.list [rD e0,rD e1]))):
  zE (run tE (m+40)) [s4,s5,s6,s7,s8] (fr 61 f)=some (fr 61 (up (up (up f 6 (some (.d (.bool (apB e0 e1))))) 7 (some (.d (.bool (loB e0&&loB e1))))) 8 (some (.d (zr7 e0 e1)))),.next):=by
 refine zF (zq i5) ?_;clear i5
 simp only [ze3,ze4,List.mem_cons,List.not_mem_nil,or_false] at m0 m1
 rcases m0 with e|e|e|e<;>subst e<;>rcases m1 with e|e|e|e<;>subst e<;>kernel_rfl
end One1
namespace One1
variable {tbl:Nat ->Option Fn} {m:Nat} {f:Nat ->Option PV} {s:Nat ->Int}
noncomputable def kcN (h0 h1:List Nat):Nat:=(h0++h1).foldl max 0
noncomputable def klN (h0 h1:List Nat):Nat:=max h0.length h1.length
def mxB (h0 h1:List Nat):Bool:=((biD .max [.list (dI h0++dI h1)]).bind zJ==some ((kcN h0 h1:Nat):Int))&&(((biD .max [.int (h0.length:Int),.int (h1.length:Int)]).bind zJ==some ((klN h0 h1:Nat):Int))&&((Nat.ble 1 (kcN h0 h1)&&Nat.ble (kcN h0 h1) 3)&&((Nat.ble 1 (klN h0 h1)&&Nat.ble (klN h0 h1) 3)&&((Nat.ble (h0.foldl max 0) (kcN h0 h1)&&Nat.ble (h1.foldl max 0) (kcN h0 h1))&&(Nat.ble (h0.length) (klN h0 h1)&&Nat.ble h1.length (klN h0 h1))))))
theorem ztS:(shB.all λh0=>shA.all λh1=>mxB h0 h1)=true:=by decide+kernel
structure Mx (h0 h1:List Nat):Prop where
 c:biD .max [.list (dI h0++dI h1)]=some (.int (kcN h0 h1:Nat))
 l:biD .max [.int (h0.length:Int),.int (h1.length:Int)]=some (.int (klN h0 h1:Nat))
 c1:1<=kcN h0 h1
 c3:kcN h0 h1<=3
 l1:1<=klN h0 h1
 l3:klN h0 h1<=3
 c0:h0.foldl max 0<=kcN h0 h1
 c2:h1.foldl max 0<=kcN h0 h1
 l0:h0.length<=klN h0 h1
 l2:h1.length<=klN h0 h1
theorem zhv {o:Option PyData} {i:Int} (h:o.bind zJ=some i):o=some (.int i):=by
 refine zm (Option.bind_eq_some_iff.mp h) λd hd hs=>?_
 refine za hd ?_
 cases d<;>first|exact zb hs|skip
 cases hs;rfl
theorem zvt {h0 h1:List Nat} (m0:h0∈shB) (m1:h1∈shA):Mx h0 h1:=by
 have h:=List.all_eq_true.mp (List.all_eq_true.mp ztS h0 m0) h1 m1
 simp only [mxB,Bool.and_eq_true,Nat.ble_eq,beq_iff_eq] at h
 refine E06 h λa b q1 q2 q3 q4=>?_
 clear h
 refine zR q1 λc d=>?_
 clear q1
 refine zR q2 λe g=>?_
 clear q2
 refine zR q3 λi j=>?_
 clear q3
 refine zR q4 λk l=>?_
 clear q4
 exact ⟨zhv a,zhv b,c,d,e,g,i,j,k,l⟩
theorem zfu (h:List Nat):(dI h).length=h.length:=List.length_map _
theorem zvu (h7':tbl 7=some (.code 2 60 zja)) (h10':tbl 10=some (.code 3 60 ztb)) {h0 h1:List Nat} (M:Mx h0 h1) {e0 e1:List Nat} (m0:e0∈ze3) (m1:e1∈ze4) (i4:f 4=some (.d (.list [.list (dI h0),.list (dI h1)]))) (i5:f 5=some (.d (.list [rD e0,rD e1]))):
  zg (run tbl (m+50)) (fr 61 f) s9=some (fr 61 (up (up f 10 (some (.d (.list (lsD true (kcN h0 h1+1)))))) 11 (some (.d (.list (lsD false (klN h0 h1+1)))))),.next):=by
 refine zF (zq i4) ?_;refine zF (zq i5) ?_;clear i4 i5
 generalize hF:up (up f 5 (some (.d (.list [rD e0,rD e1])))) 4 (some (.d (.list [.list (dI h0),.list (dI h1)])))=F
 have v5:(run tbl (m+49)).ex (fr 61 F) (.v 5)=some (.list [rD e0,rD e1]):=by subst hF;kernel_rfl
 have z0:∀{n:Nat},(run tbl (n+2)).ex (fr 61 F) (.idx (.v 4) (.c (.int 0)))=some (.list (dI h0)):=λ{n}=>by subst hF;kernel_rfl
 have z1:∀{n:Nat},(run tbl (n+2)).ex (fr 61 F) (.idx (.v 4) (.c (.int 1)))=some (.list (dI h1)):=λ{n}=>by subst hF;kernel_rfl
 have l0:(dI h0).length<=big:=by rw [zfu];exact zv M.l0 (zv M.l3 (by decide))
 have l1:(dI h1).length<=big:=by rw [zfu];exact zv M.l2 (zv M.l3 (by decide))
 have A:=zho (n:=m+48) (b:= .max) (by decide) (zaa (zr (n:=m+47) (op:= .Add) z0 z1 (if_pos (by rw [zfu,zfu];have:=M.l0;have:=M.l2;have:=M.l3;show _<=1000000;lia)))) M.c
 have B:=zho (n:=m+48) (b:= .max) (es:=[.bi .len [.idx (.v 4) (.c (.int 0))],.bi .len [.idx (.v 4) (.c (.int 1))]]) (by decide) (zap (zeR (n:=m+47) (a:= .idx (.v 4) (.c (.int 0))) z0 (if_pos l0)) (zaa (zeR (n:=m+47) (a:= .idx (.v 4) (.c (.int 1))) z1 (if_pos l1)))) (by rw [zfu,zfu];exact M.l)
 refine (zeS (zap (zan (n:=m+49) (zap A (zap rfl (zaa v5))) (zkA (m:=m+9) h7' h10' (s:=true) M.c1 M.c3 m0 m1)) (zaa (zan (n:=m+49) (zap B (zap rfl (zaa v5))) (zkA (m:=m+9) h7' h10' (s:=false) M.l1 M.l3 m0 m1)))) rfl).trans ?_
 show some (((fr 61 F).set 10 _).set 11 _,Fl.next)=_
 rw [z5,z5]
theorem ztT {x y:List PyData} (i10:f 10=some (.d (.list x))) (i11:f 11=some (.d (.list y))):zg (run tbl (m+20)) (fr 61 f) s10=some (fr 61 f,.next):=by
 refine zF (zq i10) ?_;refine zF (zq i11) ?_;kernel_rfl
theorem ztU {h0 h1:List Nat} (m0:h0∈shB) (m1:h1∈shB) (M:Mx h0 h1) (i4:f 4=some (.d (.list [.list (dI h0),.list (dI h1)]))) (i10:f 10=some (.d (.list (lsD true (kcN h0 h1+1))))) (i11:f 11=some (.d (.list (lsD false (klN h0 h1+1))))):
  zg (run tE 121) (fr 61 f) s11=some (fr 61 (up f 12 (some (.d (.list [.list ((rdL h0).map rD),.list ((rdL h1).map rD)])))),.next):=by
 refine zF (zq i4) ?_;refine zF (zq i10) ?_;refine zF (zq i11) ?_;clear i4 i10 i11
 generalize hF:up (up (up f 11 (some (.d (.list (lsD false (klN h0 h1+1)))))) 10 (some (.d (.list (lsD true (kcN h0 h1+1)))))) 4 (some (.d (.list [.list (dI h0),.list (dI h1)])))=F
 refine zag (zY (n:=120) (z6 (xs:=[h0,h1]) (g:=λh=> .list (dI h)) (h:=λh=> .list ((rdL h).map rD)) (zel (d:= .list [.list (dI h0),.list (dI h1)]) (by subst hF;kernel_rfl) rfl (show 2<=big by decide)) λh hh=>⟨_,zao ..,?_⟩) (show 2<=1000 by decide))
 have k:∀{h:List Nat},h∈shB ->h.foldl max 0<=kcN h0 h1 ->h.length<=klN h0 h1 ->(run tE 120).ex (fr 61 (up F 37 (some (.d (.list (dI h)))))) (.call 11 [(.v 37),(.v 10),(.v 11)])=some (.list ((rdL h).map rD)):=λmh a b=>
  zan (n:=119) (zap (by kernel_rfl) (zap (by subst hF;kernel_rfl) (zaa (by subst hF;kernel_rfl)))) (zkD mh a M.c3 b M.l3 M.c1 M.l1)
 have:h=h0 \/h=h1:=by simpa using hh
 rcases this with e|e<;>subst e
 ·exact k m0 M.c0 M.l0
 ·exact k m1 M.c2 M.l2
end One1
namespace One1
variable {tbl:Nat ->Option Fn} {m:Nat} {f:Nat ->Option PV} {s:Nat ->Int}
theorem ztV (a x:Nat):decide ((a:Int)<(x:Int))=Nat.blt a x:=by
 rw [zjj,Bool.eq_iff_iff,decide_eq_true_iff]
 exact za Nat.blt_eq Iff.rfl
theorem ztW {h0 h1:List Nat} (l0:h0.length<=3) (l1:h1.length<=3) (i4:f 4=some (.d (.list [.list (dI h0),.list (dI h1)]))):
  zg (run tbl (m+30)) (fr 61 f) s12=some (fr 61 (up f 13 (some (.d (.list [tD (par h0),tD (par h1)])))),.next):=by
 refine zF (zq i4) ?_;clear i4
 generalize hF:up f 4 (some (.d (.list [.list (dI h0),.list (dI h1)])))=F
 refine zag (zY (n:=m+29) (z6 (xs:=[h0,h1]) (g:=λh=> .list (dI h)) (h:=λh=>tD (par h)) (zel (d:= .list [.list (dI h0),.list (dI h1)]) (by subst hF;kernel_rfl) rfl (show 2<=big by decide)) λh hh=>⟨_,zao ..,?_⟩) (show 2<=1000 by decide))
 have hl:h.length<=3:=by
  have:h=h0 \/h=h1:=by simpa using hh
  rcases this with e|e<;>subst e<;>assumption
 refine zY (n:=m+28) (z6 (xs:=[0,1,2]) (g:=λa:Nat=> .int (a:Int)) (h:=λa=> .int ((h.filter λx=>Nat.blt a x).length:Nat)) rfl λa ha=>⟨_,zao ..,?_⟩) (show 3<=1000 by decide)
 have fl:=List.length_filter_le (λx=>Nat.blt a x) h
 refine (zeR (n:=m+27) (a:= .comp _ _) (zY (n:=m+26) (zdt (xs:=h) (g:=λx:Nat=> .int (x:Int)) (p:=λx=>Nat.blt a x) (h:=λx:Nat=> .int (x:Int)) (zel (d:= .list (dI h)) (by kernel_rfl) rfl (by rw [List.length_map];exact zv hl (by decide))) λx hx=>⟨_,zao ..,zjk (t_b ?_),λ_=>by kernel_rfl⟩) ?_) ?_)
 ·rw [<-ztV];kernel_rfl
 ·rw [List.length_map];lia
 ·exact (if_pos (by rw [List.length_map];exact zv (zv fl hl) (by decide))).trans (by rw [List.length_map])
def zhw:PyData:= .tuple ((List.range 8).map λk=>rD (zbH k))
theorem ztX:zg (run tbl (m+10)) (fr 61 f) s13=some (fr 61 (up f 14 (some (.d zhw))),.next):=zag (by kernel_rfl)
theorem zkI {k:Nat} (h:k<8):zbf zhw (.int (k:Int))=some (rD (zbH k)):=lt8 h (by kernel_rfl) (by kernel_rfl) (by kernel_rfl) (by kernel_rfl) (by kernel_rfl) (by kernel_rfl) (by kernel_rfl) (by kernel_rfl)
theorem ztY (i1:f 1=some (.d (zaG s))) (i14:f 14=some (.d zhw)):∃j k:Nat,j<8/\ k<8/\ zg (run tbl (m+20)) (fr 61 f) s14=some (fr 61 (up f 15 (some (.d (.list [rD (zbH j),rD (zbH k)])))),.next):=by
 refine zm (zkF (b:=8) (by decide) (zc1 (tbl:=tbl) (n:=m+15) (i:=3) (by decide) i1) (by lia)) λj hj k0=>?_
 refine zm (zpE (b:=8) (c:=8) (by decide) (by decide) (by decide) (zc1 (tbl:=tbl) (n:=m+14) (i:=3) (by decide) i1) (by lia)) λk hk k1=>?_
 have v14:rcv (run tbl (m+18)) (fr 61 f) (.v 14)=some zhw:=by refine zF (zq i14) ?_;kernel_rfl
 exact ⟨j,k,hj,hk,zag (zma (n:=m+19) (zap (zaY (n:=m+18) v14 k0 (zkI hj)) (zaa (zaY (n:=m+18) v14 k1 (zkI hk)))))⟩
structure Pr (h0 h1:List Nat):Prop where
 r0:∀r∈rdL h0,OkR (par h1) r
 r1:∀r∈rdL h1,OkR (par h0) r
 c0:zlD (par h1) (rdL h0)=true
 c1:zlD (par h0) (rdL h1)=true
 q:(gdL (par h1) h0).Perm (gdL (par h0) h1)
 s0:∀r∈rdL h0,(lst r (par h1)).1<=6/\ (lst r (par h1)).2.1<=6/\ (lst r (par h1)).2.2<=6
 s1:∀r∈rdL h1,(lst r (par h0)).1<=6/\ (lst r (par h0)).2.1<=6/\ (lst r (par h0)).2.2<=6
theorem zgc {p:T3} {r:List Nat} (h:zrq p r=true):OkR p r/\ ((lst r p).1<=6/\ (lst r p).2.1<=6/\ (lst r p).2.2<=6):=by
 simp only [zrq,Bool.and_eq_true,Nat.ble_eq,List.all_eq_true,Bool.or_eq_true] at h
 refine E08 h λa b c d e g i j=>?_
 clear h
 refine ⟨⟨λx hx=>?_,b,c,d,e,by lia,by lia,by lia⟩,g,i,j⟩
 rcases a x hx with h|h|h
 ·exact .inl (Nat.eq_of_beq_eq_true h)
 ·exact .inr (.inl (Nat.eq_of_beq_eq_true h))
 ·exact .inr (.inr (Nat.eq_of_beq_eq_true h))
theorem zkJ {h0 h1:List Nat} (m0:h0∈shB) (m1:h1∈shA):Pr h0 h1:=by
 have h:zkC h0 h1=true:=by
  rcases List.mem_append.mp m0 with m|m
  ·rcases List.mem_append.mp m with m|m
   ·exact List.all_eq_true.mp (List.all_eq_true.mp zvk h0 m) h1 m1
   ·exact List.all_eq_true.mp (List.all_eq_true.mp zvl h0 m) h1 m1
  ·exact List.all_eq_true.mp (List.all_eq_true.mp zvm h0 m) h1 m1
 simp only [zkC,Bool.and_eq_true,List.all_eq_true,List.isPerm_iff] at h
 refine E05 h λa b c d e=>?_
 clear h
 exact ⟨λr hr=>(zgc (a r hr)).1,λr hr=>(zgc (b r hr)).1,c,d,e,λr hr=>(zgc (a r hr)).2,λr hr=>(zgc (b r hr)).2⟩
def zvv (h:List Nat):Bool:=Nat.ble (par h).2.1 (par h).1&&(Nat.ble (par h).2.2 (par h).2.1&&(Nat.ble (par h).1 6&&(Nat.ble (rdL h).length 60&&Nat.ble h.length 3)))
theorem zru:shB.all zvv=true:=by decide+kernel
theorem zbD {h:List Nat} (m:h∈shB):OkP (par h)/\ (par h).1<=6/\ (rdL h).length<=60/\ h.length<=3:=by
 have h:=List.all_eq_true.mp zru h m
 simp only [zvv,Bool.and_eq_true,Nat.ble_eq] at h
 exact ⟨⟨h.1,h.2.1,by lia⟩,h.2.2⟩
def zaM (β:Nat) (p:T3) (h:List Nat):List PyData:=((rdL h).filter (gd p)).map (E β p)
theorem ztZ (h0':tbl 0=some (.code 1 60 zhe)) (h8':tbl 8=some (.code 1 60 strB)) (h9':tbl 9=some (.code 1 60 parB)) (h12':tbl 12=some (.code 5 60 ztc)) {h0 h1:List Nat} (m0:h0∈shB) (m1:h1∈shA) {j k:Nat} (hj:j<8) (hk:k<8)
  (i1:f 1=some (.d (zaG s))) (i12:f 12=some (.d (.list [.list ((rdL h0).map rD),.list ((rdL h1).map rD)]))) (i13:f 13=some (.d (.list [tD (par h0),tD (par h1)]))) (i15:f 15=some (.d (.list [rD (zbH j),rD (zbH k)]))):
  ∃β:Nat,β<=25/\ zg (run tbl (m+90)) (fr 61 f) s15=some (fr 61 (up f 16 (some (.d (.list [.list (zaM β (par h1) h0),.list (zaM β (par h0) h1)])))),.next):=by
 have m1':h1∈shB:=List.mem_append_left _ m1
 have P:=zkJ m0 m1
 refine E04 (zbD m0) λP0 _ L0 _=>?_
 refine E04 (zbD m1') λP1 _ L1 _=>?_
 refine zR (zir j hj) λn0 n0'=>?_
 refine zR (zir k hk) λn1 n1'=>?_
 refine zm (zjp ((s 3).fdiv 64) 9 (by decide)) λt ht et=>?_
 have B:∀a:Int,(run tbl (m+88)).ex (fr 61 (up f 37 (some (.d (.int a))))) (.bin .Add (.bin .Mult (.bin .Mod (.bin .FloorDiv (.idx (.v 1) (.c (.int 3))) (.c (.int 64))) (.c (.int 9))) (.c (.int 3))) (.c (.int 1)))=some (.int ((t*3+1:Nat):Int)):=λa=>by
  refine zr (n:=m+87) (x:= .int ((t:Int)*3)) (zr (n:=m+86) (x:= .int (t:Int)) ((zr (n:=m+85) (zr (n:=m+84) (zc1 (n:=m+82) (f:=up f 37 (some (.d (.int a)))) (i:=3) (by decide) i1) rfl (zjo (b:=64) (by decide) (by decide))) rfl (zcT (b:=9) (by decide))).trans (congrArg (λi=>some (PyData.int i)) et)) rfl (zfZ (zv (zam (m:=4) (by lia)) (by decide)) (by decide+kernel))) rfl rfl
 refine ⟨t*3+1,by lia,zag (zY (n:=m+89) (z6 (xs:=[0,1]) (g:=λn:Nat=> .int (n:Int)) (h:=λn=> .list (if n=0 then zaM (t*3+1) (par h1) h0 else zaM (t*3+1) (par h0) h1)) rfl λa ha=>⟨_,zao ..,?_⟩) (show 2<=1000 by decide))⟩
 have H:=λ{p:T3} {own:Bool} {rs:List (List Nat)}=>zre (tbl:=tbl) (m:=m+24) (own:=own) (p:=p) (β:=t*3+1) (rs:=rs) h0' h8' h9' h12' (h0:=zbH j) (h1:=zbH k) ⟨n0,n0'⟩ ⟨n1,n1'⟩
 have:a=0 \/a=1:=by simpa using ha
 rcases this with e|e<;>subst e
 ·refine zan (n:=m+88) (zap ?_ (zap ?_ (zap ?_ (zap (B _) (zaa (by kernel_rfl)))))) (H (own:=true) P1 (by lia) P.r0 (by lia))
  ·refine zF (zq i12) ?_;kernel_rfl
  ·refine zF (zq i13) ?_;kernel_rfl
  ·refine zF (zq i15) ?_;kernel_rfl
 ·refine zan (n:=m+88) (zap ?_ (zap ?_ (zap ?_ (zap (B _) (zaa (by kernel_rfl)))))) (H (own:=false) P0 (by lia) P.r1 (by lia))
  ·refine zF (zq i12) ?_;kernel_rfl
  ·refine zF (zq i13) ?_;kernel_rfl
  ·refine zF (zq i15) ?_;kernel_rfl
end One1
namespace One1
variable {tbl:Nat ->Option Fn} {m:Nat} {f:Nat ->Option PV} {s:Nat ->Int}
theorem zrv {a b:Str} (h:a.cps.toList=b.cps.toList):a=b:=by refine zF (zbO a) ?_;refine zF (zbO b) ?_;exact za h rfl
theorem zmu (a b:Str) (l:List Str):(if b.cps.toList<a.cps.toList then b::a::l else a::b::l)=if a.cps.toList<b.cps.toList then a::b::l else b::a::l:=by
 by_cases h:b.cps.toList<a.cps.toList
 ·exact za (if_pos h) (za (if_neg λk=>List.lt_irrefl _ (List.lt_trans h k)) rfl)
 ·by_cases k:a.cps.toList<b.cps.toList
  ·exact za (if_neg h) (za (if_pos k) rfl)
  ·refine za (if_neg h) (za (if_neg k) ?_)
   exact za (zrv (List.le_antisymm h k)) rfl
theorem zkK (a b:Str):∀l:List Str,zd7 a (zd7 b l)=zd7 b (zd7 a l)
 | []=>zmu a b []
 |y::l=>by
  have c:=λ{u v:Str} (h:¬y.cps.toList<u.cps.toList) (k:y.cps.toList<v.cps.toList)=>(List.lt_of_le_of_lt h k:u.cps.toList<v.cps.toList)
  by_cases h:y.cps.toList<a.cps.toList<;>by_cases k:y.cps.toList<b.cps.toList<;>simp only [zd7,h,k,if_true,if_false]
  ·exact za (zkK a b l) rfl
  ·exact za (if_pos (c k h)) rfl
  ·exact za (if_pos (c h k)) rfl
  ·exact zmu a b _
theorem znm {l k:List Str} (h:l.Perm k):za4 l=za4 k:=by
 induction h with
 |nil=>rfl
 |cons a _ ih=>exact congrArg (zd7 a) ih
 |swap a b l=>exact zkK ..
 |trans _ _ a b=>exact a.trans b
theorem zmv (p:Str ->Bool) (a:Str):∀l:List Str,(zd7 a l).all p=(p a&&l.all p)
 | []=>rfl
 |y::l=>by
  unfold zd7
  split
  ·refine za List.all_cons (za (zmv p a l) ?_)
   refine za List.all_cons ?_
   rw [Bool.and_left_comm]
  ·rfl
theorem zkL (p:Str ->Bool):∀l:List Str,(za4 l).all p=l.all p
 | []=>rfl
 |a::l=>by show (zd7 a (za4 l)).all p=_;rw [zmv];refine za (zkL p l) ?_;rfl
theorem znn:∀ss:List Str,zlG (ss.map .str)=some (.list ((za4 ss).map .str))
 | []=>rfl
 |a::l=>by
  have k:∀ss:List Str,zcj (ss.map .str)=some ss:=λss=>by
   induction ss with
   |nil=>rfl
   |cons s ss ih=>exact (congrArg (Option.map (s:: ·)) ih).trans rfl
  exact (mS (k (a::l))).trans rfl
theorem zkM {d:PyData} (h:okD d=true):eqD d d=some true:=by
 have h2:(if okD d&&okD d then some (PyData.eqv d d) else none)=some true:=by
  refine za h (za (if_pos (by rfl)) ?_)
  exact za (PySem.SeqAt.eqv_refl d (Bool.and_eq_true_iff.mp h).1) rfl
 induction d using PyData.casesOn with
 |int a=>show some (a==a)=_;rw [beq_self_eq_true]
 |str a=>show some (a==a)=_;rw [beq_self_eq_true]
 |_=>exact h2
theorem zpH {S:Sv} {ρ:Rho} {a i:PE} {d:PyData} {xs:List PyData} (h:S.ex ρ (.idx a i)=some d) (hi:zbs d=some xs) (hl:xs.length<=big):itD S ρ (.idx a i)=some xs:=bS h (bS hi (if_pos hl))
def zcq (β:Nat) (p:T3) (h:List Nat):List Str:=(gdL p h).map λv=>tlS (ze2 β v)
theorem zpI (β:Nat) (p:T3) (h:List Nat):(((rdL h).filter (gd p)).map λr=>PyData.str (tlS (ze2 β (shw r p))))=(zcq β p h).map .str:=by
 unfold zcq gdL
 refine za List.map_map (za List.map_map ?_)
 refine List.map_congr_left λr hr=>?_
 refine za (zkv (List.mem_filter.mp hr).2) ?_;rfl
theorem zmw {A:List (PyData)} {β:Nat} {p:T3} {h:List Nat} {i:Nat} (hl:(rdL h).length<=60) (i16:f 16=some (.d (.list A))) (hi:zbf (.list A) (.int (i:Int))=some (.list (zaM β p h))):
  (run tbl (m+20)).ex (fr 61 f) (.bi .sorted [(.comp (.idx (.v 37) (.c (.int 0))) [(.mk (.v 37) (.idx (.v 16) (.c (.int (i:Int)))) [])])])=some (.list ((za4 (zcq β p h)).map .str)):=by
 refine zF (zq i16) ?_;clear i16
 have fl:=List.length_filter_le (gd p) (rdL h)
 have C:=z6 (S:=run tbl (m+18)) (ρ:=fr 61 (up f 16 (some (.d (.list A))))) (t:= .v 37) (it:= .idx (.v 16) (.c (.int (i:Int)))) (elt:= .idx (.v 37) (.c (.int 0))) (xs:=(rdL h).filter (gd p)) (g:=E β p) (h:=λr=>PyData.str (tlS (ze2 β (shw r p)))) (zpH (zaY (n:=m+17) (x:= .list A) (y:= .int (i:Int)) (by kernel_rfl) rfl hi) rfl (by rw [List.length_map];exact zv fl (zv hl (by decide)))) λr hr=>⟨_,zao ..,by kernel_rfl⟩
 rw [zpI] at C
 have nl:(zcq β p h).length<=60:=by unfold zcq gdL;rw [List.length_map,List.length_map];exact zv fl hl
 exact zho (b:= .sorted) (by decide) (zaa (zY (n:=m+18) C (by rw [List.length_map];lia))) ((if_pos (by rw [List.length_map];lia)).trans (znn _))
theorem zt0 {h0 h1:List Nat} (m0:h0∈shB) (m1:h1∈shA) {β:Nat} (hβ:β<=25) (i16:f 16=some (.d (.list [.list (zaM β (par h1) h0),.list (zaM β (par h0) h1)]))):zg (run tbl (m+30)) (fr 61 f) s16=some (fr 61 f,.next):=by
 have P:=zkJ m0 m1
 have m1':h1∈shB:=List.mem_append_left _ m1
 have ok:∀{p:T3} {h:List Nat},(∀r∈rdL h,OkR p r) ->PyData.canLayAll0 (zaM β p h)=true/\ PyData.depthAll (zaM β p h)<=10:=λR=>zjl λd hd=>by
  refine zm (List.mem_map.mp hd) λr hr q1=>?_
  obtain rfl:=q1
  exact zve hβ (R r (List.mem_filter.mp hr).1)
 refine zR (ok P.r0) λa1 a2=>?_
 refine zR (ok P.r1) λb1 b2=>?_
 have A:=zmw (tbl:=tbl) (m:=m+8) (i:=0) (zbD m0).2.2.1 i16 rfl
 have B:=zmw (tbl:=tbl) (m:=m+8) (i:=1) (zbD m1').2.2.1 i16 rfl
 have e:za4 (zcq β (par h1) h0)=za4 (zcq β (par h0) h1):=znm (P.q.map _)
 rw [e] at A
 have ss:(zcq β (par h0) h1).all PyData.strOk=true:=List.all_eq_true.mpr λx hx=>by
  refine zm (List.mem_map.mp hx) λv hv q2=>?_
  obtain rfl:=q2
  refine zm (List.mem_map.mp hv) λr hr q3=>?_
  obtain rfl:=q3
  refine zR (List.mem_filter.mp hr) λhr hg=>?_
  have R:=P.r1 r hr
  exact zF (zkv hg) (zkw (zhs hβ R.s1 R.s2 R.s3).2.2.1)
 have d0:∀l:List Str,PyData.depthAll (l.map .str)=0:=λl=>by
  induction l with
  |nil=>rfl
  |cons a l ih=>show max 0 (PyData.depthAll (l.map .str))=0;refine za ih ?_;rfl
 have q:eqD (.list ((za4 (zcq β (par h0) h1)).map .str)) (.list ((za4 (zcq β (par h0) h1)).map .str))=some true:=zkM (by
  show (PyData.canLayAll0 _&&decide (PyData.depthAll _+1<=64))=true
  rw [canLayAll_strs',zkL];refine za ss ?_;rw [d0];rfl)
 have N:=zV (n:=m+28) (co:= .NotEq) (a:= .bi .sorted [_]) (c:=false) A B (congrArg (Option.map (!·)) q)
 have I:(run tbl (m+29)).ex (fr 61 f) (.cmp .In (.c .none) (.v 16))=some (.bool false):=by
  refine zV (n:=m+28) (x:= .none) (y:= .list [.list (zaM β (par h1) h0),.list (zaM β (par h0) h1)]) rfl (by refine zF (zq i16) ?_;kernel_rfl) ?_
  have o:okD (.list [.list (zaM β (par h1) h0),.list (zaM β (par h0) h1)])=true:=by
   show ((PyData.canLayAll0 _&&(PyData.canLayAll0 _&&true))&&decide (max (PyData.depthAll _+1) (max (PyData.depthAll _+1) 0)+1<=64))=true
   refine za a1 ?_;refine za b1 ?_;refine za (decide_eq_true (by lia)) ?_;rfl
  show (if okD .none&&okD _ then _ else none)=_
  refine za o ?_;rfl
 refine zaV (n:=m+29) (t_b (zuX (n:=m+29) (zs8 (d:= .bool false) I rfl N))) rfl
end One1
namespace One1
variable {tbl:Nat ->Option Fn} {m:Nat} {f:Nat ->Option PV} {s:Nat ->Int}
noncomputable def Wp:Int:=2^1400
theorem zr8 {r:Int} (h:0<=r/\ r<41):zo (r-20)<=5:=by
 refine zO (Int.eq_ofNat_of_zero_le h.1) λn e=>?_
 cases e
 exact intBits_le_iff.mpr ((by decide:∀n:Nat,n<41 ->((n:Int)-20).natAbs<2^5) n (Int.ofNat_lt.mp h.2))
theorem zjr:zo Wp<=1401:=by
 refine intBits_le_iff.mpr ?_
 unfold Wp
 rw [Int.natAbs_pow]
 exact Nat.pow_lt_pow_right (by decide) (by decide)
theorem zt1:zaZ .Pow (.int 2) (.int 1400)=some (.int Wp):=by
 show (if 0<=(1400:Int)/\ (zo 2:Int)*1400<=2^27 then some (PyData.int ((2:Int)^(1400:Int).toNat)) else none)=_
 refine za (if_pos ⟨by decide,by decide+kernel⟩) (za (show (1400:Int).toNat=1400 from rfl) ?_)
 rw [Wp]
def ptI (s:Nat ->Int) (w:Int) (a:Nat):Int:=((s a).fmod 41-20)*(1+Wp*w)
theorem zt2 (i1:f 1=some (.d (zaG s))):∃x y z:Int,(zo x<=1500/\ zo y<=1500/\ zo z<=1500)/\ zg (run tbl (m+30)) (fr 61 f) s17=some (fr 61 (up f 17 (some (.d (.list [.int x,.int y,.int z])))),.next):=by
 refine zm (zjp (s 7) 16 (by decide)) λq hq eq=>?_
 obtain ⟨w,hw,ew⟩:∃w:Int,zo w<=1/\ (if ((q:Int)==15)=true then (1:Int) else 0)=w:=⟨_,by split<;>decide+kernel,rfl⟩
 refine zm (zpE (tbl:=tbl) (f:=up f 37 none) (b:=8) (c:=16) (by decide) (by decide) (by decide) (zc1 (n:=m+22) (i:=7) (by decide) i1) (by lia)) λt ht et=>?_
 have T:=zV (n:=m+26) (co:= .Eq) (a:= .bin .Mod (.bin .FloorDiv (.idx (.v 1) (.c (.int 7))) (.c (.int 16))) (.c (.int 8))) (b:= .c (.int 7)) et rfl rfl
 obtain ⟨c,hc,ec⟩:∃c:Nat,(c=4 \/c=6)/\ (run tbl (m+28)).ex (fr 61 (up f 37 none)) (.ite (.cmp .Eq (.bin .Mod (.bin .FloorDiv (.idx (.v 1) (.c (.int 7))) (.c (.int 16))) (.c (.int 8))) (.c (.int 7))) (.c (.int 4)) (.c (.int 6)))=some (.int (c:Int)):=by
  cases h:((t:Int)==7) with
  |true=>rw [h] at T;exact ⟨4,.inl rfl,x_T (t_b T) rfl⟩
  |false=>rw [h] at T;exact ⟨6,.inr rfl,x_F (t_b T) rfl⟩
 have bp:∀a,zo (ptI s w a)<=1500:=λa=>by
  have h:=zkE (s a) 41 (by decide)
  have h1:zo ((s a).fmod 41-20)<=5:=zr8 h
  have h2:zo (1+Wp*w)<=1403:=zhu (zv (by decide+kernel:zo 1<=1) (by decide)) (zd4 zjr hw)
  exact zv (zd4 h1 h2) (by decide)
 refine ⟨_,_,_,⟨bp 4,bp 5,bp c⟩,zag (zY (n:=m+29) (z6 (xs:=[4,5,c]) (g:=λn:Nat=> .int (n:Int)) (h:=λa=> .int (ptI s w a)) (bS (x:= .tuple [.int 4,.int 5,.int (c:Int)]) (zfM (n:=m+28) (zap rfl (zap rfl (zaa (by
  show (run tbl (m+28)).ex ((fr 61 f).set 37 none) _=_
  rw [z5];exact ec))))) rfl) λa ha=>⟨_,zao ..,?_⟩) (show 3<=1000 by decide))⟩
 have F:∀{n:Nat},(run tbl (n+2)).ex (fr 61 (up f 37 (some (.d (.int (a:Int)))))) (.idx (.v 1) (.v 37))=some (.int (s a)):=λ{n}=>by
  have:a=4 \/a=5 \/a=c:=by simpa using ha
  refine zF (zq (f:=up f 37 (some (.d (.int (a:Int))))) (i:=1) (v:=some (.d (zaG s))) i1) ?_
  rcases this with e|e|e
  ·subst e;kernel_rfl
  ·subst e;kernel_rfl
  ·rcases hc with k|k<;>subst e<;>subst k<;>kernel_rfl
 have I7:=zc1 (tbl:=tbl) (s:=s) (f:=up f 37 (some (.d (.int (a:Int))))) (n:=m+21) (i:=7) (by decide) i1
 have Q:=(zr (n:=m+23) (op:= .Mod) (b:= .c (.int 16)) I7 rfl (zcT (by decide))).trans (congrArg (λi=>some (PyData.int i)) eq)
 have V:=zho (n:=m+25) (b:= .int) (by decide) (zaa (zV (n:=m+24) (co:= .Eq) (a:= .bin .Mod (.idx (.v 1) (.c (.int 7))) (.c (.int 16))) (b:= .c (.int 15)) Q rfl rfl)) (rfl:biD .int [.bool ((q:Int)==15)]=some (.int (if ((q:Int)==15) then 1 else 0)))
 rw [ew] at V
 have h:=zkE (s a) 41 (by decide)
 have h1:zo ((s a).fmod 41-20)<=5:=zr8 h
 have h2:zo (1+Wp*w)<=1403:=zhu (zv (by decide+kernel:zo 1<=1) (by decide)) (zd4 zjr hw)
 exact zr (n:=m+28) (zr (n:=m+27) (zr (n:=m+26) F rfl (zcT (b:=41) (by decide))) rfl rfl) (zr (n:=m+27) (x:= .int 1) rfl (zr (n:=m+26) (x:= .int Wp) (y:= .int w) (zr (n:=m+25) rfl rfl zt1) V (zfZ (zv zjr (by decide)) (zv hw (by decide)))) rfl) (zfZ (zv h1 (by decide)) (zv h2 (by decide)))
end One1
namespace One1
variable {tbl:Nat ->Option Fn} {m:Nat} {f:Nat ->Option PV} {s:Nat ->Int}
def zvw (r:List Nat):Bool:=((me1 (rD r) (.str "a") .count).bind zJ==some (((lst r z0).1:Nat):Int))&&(((me1 (rD r) (.str "b") .count).bind zJ==some (((lst r z0).2.1:Nat):Int))&&(((me1 (rD r) (.str "c") .count).bind zJ==some (((lst r z0).2.2:Nat):Int))&&(Nat.ble (lst r z0).1 3&&(Nat.ble (lst r z0).2.1 3&&Nat.ble (lst r z0).2.2 3))))
theorem zrw:(shB.all λh=>(rdL h).all zvw)=true:=by decide+kernel
structure Cnt (r:List Nat):Prop where
 a:me1 (rD r) (.str "a") .count=some (.int ((lst r z0).1:Nat))
 b:me1 (rD r) (.str "b") .count=some (.int ((lst r z0).2.1:Nat))
 c:me1 (rD r) (.str "c") .count=some (.int ((lst r z0).2.2:Nat))
 la:(lst r z0).1<=3
 lb:(lst r z0).2.1<=3
 lc:(lst r z0).2.2<=3
theorem zpJ {h:List Nat} (m:h∈shB) {r:List Nat} (hr:r∈rdL h):Cnt r:=by
 have h:=List.all_eq_true.mp (List.all_eq_true.mp zrw h m) r hr
 simp only [zvw,Bool.and_eq_true,Nat.ble_eq,beq_iff_eq] at h
 refine E06 h λa b c d e g=>?_
 clear h
 exact ⟨zhv a,zhv b,zhv c,d,e,g⟩
theorem zpK:∀(l:List Int) (a:Int),l.foldl (· + ·) a=a+zaE l
 | [],a=>(Int.add_zero a).symm
 |x::l,a=>by refine za List.foldl_cons ?_;rw [zpK l,zbX,Int.add_assoc]
theorem zpL {k:Nat}:∀{l:List Int},(∀x∈l,zo x<=k) ->zo (zaE l)<=k+l.length
 | [],_=>zv (by decide+kernel:zo 0<=0) (Nat.zero_le _)
 |x::l,h=>zhu (zv (h x (List.mem_cons_self ..)) (Nat.le_add_right _ _)) (zpL λy hy=>h y (List.mem_cons_of_mem _ hy))
theorem zpM {n:Nat} {ρ:Rho} {e:PE} {l:List Int} (h:(run tbl n).ex ρ e=some (.list (l.map .int))) (hl:l.length<=1000):(run tbl (n+1)).ex ρ (.bi .sum [e])=some (.int (zaE l)):=
 zho (b:= .sum) (by decide) (zaa h) ((if_pos (by rw [List.length_map];exact zv hl (by decide))).trans ((congrArg (Option.map PyData.int) (zdv l 0)).trans (congrArg (λi=>some (PyData.int i)) ((zpK l 0).trans (Int.zero_add _)))))
def wtI (x y z:Int) (h:List Nat):Int:=zaE ((rdL h).map λr=>mon x y z (lst r z0))
theorem zvx {x y z:Int} (hx:zo x<=1500) (hy:zo y<=1500) (hz:zo z<=1500) {r:List Nat} (C:Cnt r):zo (mon x y z (lst r z0))<=13503:=by
 have p:∀{v:Int} {n:Nat},zo v<=1500 ->n<=3 ->zo (v^n)<=4501:=λhv hn=>zv (zpu hv _) (by lia)
 exact zd4 (zd4 (p hx C.la) (p hy C.lb)) (p hz C.lc)
theorem zvy {x y z:Int} (hx:zo x<=1500) (hy:zo y<=1500) (hz:zo z<=1500) {h:List Nat} (m:h∈shB):zo (wtI x y z h)<=13600:=by
 refine zv (zpL (k:=13503) λv hv=>?_) ?_
 ·refine zm (List.mem_map.mp hv) λr hr q1=>?_
  obtain rfl:=q1
  exact zvx hx hy hz (zpJ m hr)
 ·rw [List.length_map];have:=(zbD m).2.2.1;lia
theorem zt3 {x y z:Int} (hx:zo x<=1500) (hy:zo y<=1500) (hz:zo z<=1500) {h0 h1:List Nat} (m0:h0∈shB) (m1:h1∈shB) (i12:f 12=some (.d (.list [.list ((rdL h0).map rD),.list ((rdL h1).map rD)]))) (i17:f 17=some (.d (.list [.int x,.int y,.int z]))):
  zg (run tbl (m+30)) (fr 61 f) s18=some (fr 61 (up f 18 (some (.d (.list [.int (wtI x y z h0),.int (wtI x y z h1)])))),.next):=by
 refine zF (zq i12) ?_;refine zF (zq i17) ?_;clear i12 i17
 generalize hF:up (up f 17 (some (.d (.list [.int x,.int y,.int z])))) 12 (some (.d (.list [.list ((rdL h0).map rD),.list ((rdL h1).map rD)])))=F
 refine zag (zY (n:=m+29) (z6 (xs:=[h0,h1]) (g:=λh=> .list ((rdL h).map rD)) (h:=λh=> .int (wtI x y z h)) (zel (d:= .list [.list ((rdL h0).map rD),.list ((rdL h1).map rD)]) (by subst hF;kernel_rfl) rfl (show 2<=big by decide)) λh hh=>⟨_,zao ..,?_⟩) (show 2<=1000 by decide))
 have mh:h∈shB:=by
  have:h=h0 \/h=h1:=by simpa using hh
  rcases this with e|e<;>subst e<;>assumption
 have rl:=(zbD mh).2.2.1
 have C:=z6 (S:=run tbl (m+27)) (ρ:=fr 61 (up F 37 (some (.d (.list ((rdL h).map rD)))))) (t:= .v 39) (it:= .v 37) (elt:= .bin .Mult (.bin .Mult (.bin .Pow (.idx (.v 17) (.c (.int 0))) (.me .count (.v 39) [(.c (.str "a"))])) (.bin .Pow (.idx (.v 17) (.c (.int 1))) (.me .count (.v 39) [(.c (.str "b"))]))) (.bin .Pow (.idx (.v 17) (.c (.int 2))) (.me .count (.v 39) [(.c (.str "c"))]))) (xs:=rdL h) (g:=rD) (h:=PyData.int∘λr=>mon x y z (lst r z0)) (zel (d:= .list ((rdL h).map rD)) (by kernel_rfl) rfl (by rw [List.length_map];exact zv rl (by decide))) λr hr=>⟨_,zao ..,by
  have K:=zpJ mh hr
  have p:∀{v:Int} {n:Nat},zo v<=1500 ->n<=3 ->zo (v^n)<=4501:=λhv hn=>zv (zpu hv _) (by lia)
  have v39:∀{n:Nat},(run tbl (n+1)).ex (fr 61 (up (up F 37 (some (.d (.list ((rdL h).map rD))))) 39 (some (.d (rD r))))) (.v 39)=some (rD r):=λ{n}=>by kernel_rfl
  have la:=K.la;have lb:=K.lb;have lc:=K.lc
  have px:=p hx la;have py:=p hy lb;have pz:=p hz lc
  refine zr (n:=m+26) (zr (n:=m+25) (zr (n:=m+24) (x:= .int x) (by subst hF;kernel_rfl) (zeQ (n:=m+23) v39 (zaa rfl) K.a) (znj hx (by lia))) (zr (n:=m+24) (x:= .int y) (by subst hF;kernel_rfl) (zeQ (n:=m+23) v39 (zaa rfl) K.b) (znj hy (by lia))) (zfZ (zv px (by decide)) (zv py (by decide)))) (zr (n:=m+25) (x:= .int z) (by subst hF;kernel_rfl) (zeQ (n:=m+24) v39 (zaa rfl) K.c) (znj hz (by lia))) (zfZ (zv (zd4 px py) (by decide)) (zv pz (by decide)))⟩
 rw [<-List.map_map] at C
 exact zpM (zY (n:=m+27) C (by rw [List.length_map,List.length_map];lia)) (by rw [List.length_map];lia)
def zfv (x y z:Int) (p:T3) (h:List Nat):Int:=zaE (((rdL h).filter (gd p)).map λr=>alt x y z (lst r p))
theorem zt4 (h13':tbl 13=some (.code 2 60 ztd)) {x y z:Int} (hx:zo x<=1500) (hy:zo y<=1500) (hz:zo z<=1500) {h0 h1:List Nat} (m0:h0∈shB) (m1:h1∈shA) {β:Nat} {A:PyData} (i1:f 1=some (.d (zaG s))) (i16:f 16=some (.d (.list [A,.list (zaM β (par h0) h1)]))) (i17:f 17=some (.d (.list [.int x,.int y,.int z]))):
  ∃t:Int,(t=1 \/t= -1)/\ zg (run tbl (m+50)) (fr 61 f) s19=some (fr 61 (up (up f 19 (some (.d (.int (zfv x y z (par h0) h1))))) 3 (some (.d (.int t)))),.next):=by
 have P:=zkJ m0 m1
 have rl:=(zbD (List.mem_append_left _ m1:h1∈shB)).2.2.1
 have fl:=List.length_filter_le (gd (par h0)) (rdL h1)
 refine zm (zpE (tbl:=tbl) (f:=f) (b:=2) (c:=128) (by decide) (by decide) (by decide) (zc1 (n:=m+44) (i:=7) (by decide) i1) (by lia)) λk hk ek=>?_
 have C:=z6 (S:=run tbl (m+48)) (ρ:=fr 61 f) (t:= .v 37) (it:= .idx (.v 16) (.c (.int 1))) (elt:= .call 13 [(.v 17),(.idx (.v 37) (.c (.int 1)))]) (xs:=(rdL h1).filter (gd (par h0))) (g:=E β (par h0)) (h:=PyData.int∘λr=>alt x y z (lst r (par h0))) (zpH (d:= .list (zaM β (par h0) h1)) (by refine zF (zq i16) ?_;kernel_rfl) rfl (by rw [List.length_map];exact zv fl (zv rl (by decide)))) λr hr=>⟨_,zao ..,by
  have S:=P.s1 r (List.mem_filter.mp hr).1
  refine zan (n:=m+47) (zap (d:= .list [.int x,.int y,.int z]) ?_ (zaa (by kernel_rfl))) (zlA (m:=m+27) h13' S.1 S.2.1 S.2.2 hx hy hz).1
  refine zF (zq i17) ?_;kernel_rfl⟩
 rw [<-List.map_map] at C
 have U:=zpM (zY (n:=m+48) C (by rw [List.length_map,List.length_map];lia)) (by rw [List.length_map];lia)
 have M:zaZ .Mult (.int 2) (.int (k:Int))=some (.int (2*(k:Int))):=zfZ (by decide+kernel) (zv (zam (m:=1) (by lia)) (by decide))
 have V:=zr (n:=m+49) (op:= .Sub) (a:= .c (.int 1)) rfl (zr (n:=m+48) (op:= .Mult) (a:= .c (.int 2)) rfl ek M) rfl
 refine ⟨1-2*(k:Int),(by decide:∀k:Nat,k<2 ->1-2*(k:Int)=1 \/1-2*(k:Int)= -1) k hk,(zeS (zap U (zaa V)) rfl).trans ?_⟩
 show some (((fr 61 f).set 19 _).set 3 _,Fl.next)=_
 rw [z5,z5];rfl
end One1
namespace One1
variable {tbl:Nat ->Option Fn} {m:Nat} {f:Nat ->Option PV} {s:Nat ->Int}
noncomputable def q0:PS:= .asg (.v 21) (.call 13 [(.v 17),(.v 20)])
noncomputable def q1:PS:= .asg (.v 22) (.ite (.v 21) (.bin .Mod (.idx (.v 1) (.c (.int 7))) (.v 21)) (.c (.int 0)))
noncomputable def q2:PS:= .tryDiv 23 24 (.bin .Mult (.bin .Add (.v 19) (.v 22)) (.v 3)) (.bin .Mult (.v 21) (.v 3)) 6
noncomputable def q3:PS:= .iff (.cmp .NotEq (.v 23) (.ite (.cmp .Eq (.v 21) (.c (.int 0))) (.c (.str "")) (.tup [(.v 9),(.bin .Mult (.v 22) (.v 3))]))) [.ret (.c (.bool false))] []
theorem zrx {S:Sv} {ρ:Rho} {i j g:Nat} {a b:PE} {u:Int} (ha:S.ex ρ a=some (.int u)) (hb:S.ex ρ b=some (.int 0)) (he:zf0 ρ j=true):zg S ρ (.tryDiv i j a b g)=some (ρ.set i (some (.d (.str Str.empty))),.next):=
 bS ha (bS (x:=u) rfl (bS hb (bS (x:=(0:Int)) rfl ((if_pos rfl).trans (if_pos he)))))
theorem zt5 {S:Sv} {ρ:Rho} {i j g:Nat} {a b:PE} {u k:Int} {d:PyData} (ha:S.ex ρ a=some (.int u)) (hb:S.ex ρ b=some (.int k)) (hk:k≠0) (hc:S.ex ρ (.call g [a,b])=some d):zg S ρ (.tryDiv i j a b g)=some (ρ.set i (some (.d d)),.next):=
 bS ha (bS (x:=u) rfl (bS hb (bS (x:=k) rfl ((if_neg hk).trans (mS hc)))))
theorem zt6 (a:Int) {D:Int} (h:D≠0):(0<=a.fmod D/\ a.fmod D<D) \/(D<a.fmod D/\ a.fmod D<=0):=by
 by_cases p:0<D
 ·exact .inl (zkE a D p)
 ·have:=zkE (-a) (-D) (Int.neg_pos_of_neg ((Int.lt_or_eq_of_le (Int.not_lt.mp p)).resolve_right h))
  rw [Int.neg_fmod_neg] at this
  exact .inr ⟨Int.lt_of_neg_lt_neg this.2,Int.nonpos_of_neg_nonneg this.1⟩
theorem zwm {D due r t:Int} (ht:t=1 \/t= -1):r*t+D*t*due=(D*due+r)*t:=by
 rw [Int.add_mul,Int.add_comm,Int.mul_right_comm]
theorem zvz {D r t:Int} (ht:t=1 \/t= -1) (h:(0<=r/\ r<D) \/(D<r/\ r<=0)):(0<=r*t/\ r*t<D*t) \/(D*t<r*t/\ r*t<=0):=by
 rcases ht with e|e<;>refine za e ?_
 ·rw [Int.mul_one,Int.mul_one];exact h
 ·rw [Int.mul_neg,Int.mul_neg,Int.mul_one,Int.mul_one];exact h.elim (λh=> .inr ⟨Int.neg_lt_neg h.2,Int.neg_nonpos_of_nonneg h.1⟩) λh=> .inl ⟨Int.neg_nonneg_of_nonpos h.2,Int.neg_lt_neg h.1⟩
theorem zry {D r:Int} (h:(0<=r/\ r<D) \/(D<r/\ r<=0)):r.natAbs<=D.natAbs:=
 h.elim (λh=>Nat.le_of_lt (Int.natAbs_lt_natAbs_of_nonneg_of_lt h.1 h.2)) λh=>by
  rw [<-Int.natAbs_neg r,<-Int.natAbs_neg D];exact Nat.le_of_lt (Int.natAbs_lt_natAbs_of_nonneg_of_lt (Int.neg_nonneg_of_nonpos h.2) (Int.neg_lt_neg h.1))
theorem zgA {x y z T t due:Int} {p:T3} (hx:zo x<=1500) (hy:zo y<=1500) (hz:zo z<=1500) (h1:p.1<=6) (h2:p.2.1<=6) (h3:p.2.2<=6) (hT:T=alt x y z p*due) (bT:zo T<=40000) (ht:t=1 \/t= -1)
  (i1:f 1=some (.d (zaG s))) (i3:f 3=some (.d (.int t))) (i9:f 9=some (.d (.int due))) (i17:f 17=some (.d (.list [.int x,.int y,.int z]))) (i19:f 19=some (.d (.int T))) (i20:f 20=some (.d (tD p))) (i24:f 24=none):
  ∃a b c,zE (run tE (m+120)) [q0,q1,q2,q3] (fr 61 f)=some (fr 61 (up (up (up f 21 a) 22 b) 23 c),.next):=by
 refine zR (zlA (tbl:=tE) (m:=m+99) rfl h1 h2 h3 hx hy hz) λA bD=>?_
 generalize alt x y z p=D at *
 have S0:zg (run tE (m+120)) (fr 61 f) q0=some (fr 61 (up f 21 (some (.d (.int D)))),.next):=zag (zan (n:=m+119) (zap (zaq (by decide) i17) (zaa (zaq (by decide) i20))) A)
 have tb:zo t<=1:=by rcases ht with e|e<;>subst e<;>decide+kernel
 have v21:∀{n:Nat} {g:Nat ->Option PV},g 21=some (.d (.int D)) ->(run tE (n+1)).ex (fr 61 g) (.v 21)=some (.int D):=λh=>zaq (by decide) h
 have ea:∀{n:Nat} {g:Nat ->Option PV} {r:Int},zo r<=36010 ->g 19=some (.d (.int T)) ->g 22=some (.d (.int r)) ->g 3=some (.d (.int t)) ->(run tE (n+3)).ex (fr 61 g) (.bin .Mult (.bin .Add (.v 19) (.v 22)) (.v 3))=some (.int ((T+r)*t)):=λbr a b c=>zr (zr (zaq (by decide) a) (zaq (by decide) b) rfl) (zaq (by decide) c) (zfZ (zv (zhu bT (zv br (by decide))) (by decide)) (zv tb (by decide)))
 have eb:∀{n:Nat} {g:Nat ->Option PV},g 21=some (.d (.int D)) ->g 3=some (.d (.int t)) ->(run tE (n+2)).ex (fr 61 g) (.bin .Mult (.v 21) (.v 3))=some (.int (D*t)):=λa b=>zr (v21 a) (zaq (by decide) b) (zfZ (zv bD (by decide)) (zv tb (by decide)))
 by_cases hD:D=0
 ·subst hD
  have S1:zg (run tE (m+120)) (fr 61 (up f 21 (some (.d (.int 0))))) q1=some (fr 61 (up (up f 21 (some (.d (.int 0)))) 22 (some (.d (.int 0)))),.next):=zag (x_F (n:=m+119) (t_d (v21 (n:=m+118) rfl) rfl) rfl)
  have S2:zg (run tE (m+120)) (fr 61 (up (up f 21 (some (.d (.int 0)))) 22 (some (.d (.int 0))))) q2=some (fr 61 (up (up (up f 21 (some (.d (.int 0)))) 22 (some (.d (.int 0)))) 23 (some (.d (.str Str.empty)))),.next):=by
   refine (zrx (ea (n:=m+117) (g:=up (up f 21 (some (.d (.int 0)))) 22 (some (.d (.int 0)))) (r:=0) (by decide+kernel) i19 rfl i3) ((eb (n:=m+118) (g:=up (up f 21 (some (.d (.int 0)))) 22 (some (.d (.int 0)))) rfl i3).trans (by rw [Int.zero_mul])) ?_).trans (by rw [z5])
   refine zF (zq (f:=up (up f 21 (some (.d (.int 0)))) 22 (some (.d (.int 0)))) (i:=24) (v:=none) i24) ?_
   kernel_rfl
  refine ⟨_,_,_,zj S0 (zj S1 (zj S2 (zj (zaV (n:=m+119) (t_b (zV (n:=m+119) (co:= .NotEq) (a:= .v 23) (x:= .str Str.empty) (y:= .str "") (c:=false) (zcG (i:=23) (by decide) rfl) (x_T (n:=m+118) (t_b (zV (n:=m+117) (a:= .v 21) (x:= .int 0) (y:= .int 0) (c:=true) (zcG (i:=21) (by decide) rfl) rfl rfl)) rfl) (by kernel_rfl))) rfl) rfl)))⟩
 ·have hr:=zt6 (s 7) hD
  generalize hR:(s 7).fmod D=r at *
  have br:zo r<=36010:=zv (zbW (zry hr)) bD
  have S1:zg (run tE (m+120)) (fr 61 (up f 21 (some (.d (.int D))))) q1=some (fr 61 (up (up f 21 (some (.d (.int D)))) 22 (some (.d (.int r)))),.next):=zag (x_T (n:=m+119) (t_d (v21 (n:=m+118) rfl) (congrArg some (bne_iff_ne.mpr hD))) ((zr (n:=m+118) (zc1 (f:=up f 21 (some (.d (.int D)))) (n:=m+116) (i:=7) (by decide) i1) (v21 (n:=m+117) rfl) (zcT hD)).trans (by exact za hR rfl)))
  have bs:zo (T+r)<=40001:=zhu bT (zv br (by decide))
  have bu:zo ((T+r)*t)<=100000:=zv (zd4 bs tb) (by decide)
  have bk:zo (D*t)<=100000:=zv (zd4 bD tb) (by decide)
  have kn:D*t≠0:=Int.mul_ne_zero hD (ht.elim (λe=>e▸by decide) λe=>e▸by decide)
  have I:=ztn (tbl:=tE) (m:=m+29) rfl rfl rfl rfl rfl rfl (x:=(T+r)*t) (y:=D*t) (q:=due) (r:=r*t) (by refine za hT ?_;exact zwm ht) (zvz ht hr) bu bk
  have S2:zg (run tE (m+120)) (fr 61 (up (up f 21 (some (.d (.int D)))) 22 (some (.d (.int r))))) q2=some (fr 61 (up (up (up f 21 (some (.d (.int D)))) 22 (some (.d (.int r)))) 23 (some (.d (.tuple [.int due,.int (r*t)])))),.next):=
   (zt5 (ea (n:=m+117) (g:=up (up f 21 (some (.d (.int D)))) 22 (some (.d (.int r)))) br i19 rfl i3) (eb (n:=m+118) (g:=up (up f 21 (some (.d (.int D)))) 22 (some (.d (.int r)))) rfl i3) kn (zan (n:=m+119) (zap (ea (n:=m+116) (g:=up (up f 21 (some (.d (.int D)))) 22 (some (.d (.int r)))) br i19 rfl i3) (zaa (eb (n:=m+117) (g:=up (up f 21 (some (.d (.int D)))) 22 (some (.d (.int r)))) rfl i3))) I)).trans (by rw [z5])
  have rt:(run tE (m+117)).ex (fr 61 (up (up (up f 21 (some (.d (.int D)))) 22 (some (.d (.int r)))) 23 (some (.d (.tuple [.int due,.int (r*t)]))))) (.bin .Mult (.v 22) (.v 3))=some (.int (r*t)):=zr (n:=m+116) (zaq (n:=m+115) (i:=22) (by decide) rfl) (zaq (n:=m+115) (i:=3) (by decide) i3) (zfZ (zv br (by decide)) (zv tb (by decide)))
  refine ⟨_,_,_,zj S0 (zj S1 (zj S2 (zj (zaV (n:=m+119) (t_b (zV (n:=m+119) (co:= .NotEq) (a:= .v 23) (x:= .tuple [.int due,.int (r*t)]) (y:= .tuple [.int due,.int (r*t)]) (c:=false) (zcG (i:=23) (by decide) rfl) (x_F (n:=m+118) (t_b (zV (n:=m+117) (a:= .v 21) (x:= .int D) (y:= .int 0) (c:=false) (zcG (i:=21) (by decide) rfl) rfl (congrArg some (beq_eq_false_iff_ne.mpr hD)))) (zfM (n:=m+117) (zap (zaq (n:=m+116) (i:=9) (by decide) i9) (zaa rt)))) (congrArg (Option.map (!·)) (zkM (d:= .tuple [.int due,.int (r*t)]) rfl)))) rfl) rfl)))⟩
end One1
namespace One1
variable {m:Nat} {f:Nat ->Option PV} {s:Nat ->Int}
structure On (h:List Nat):Prop where
 s:zpw ((rdL h).map λr=>lst r z0)=true
 c:zlD z0 (rdL h)=true
 g:gdL z0 h=[par h]
theorem zr9 {h:List Nat} (m:h∈shB):On h:=by
 have h:=List.all_eq_true.mp zrr h m
 simp only [zvj,Bool.and_eq_true] at h
 exact ⟨h.1,h.2.1,eq_of_beq h.2.2⟩
theorem zlE (x y z:Int) (p:T3) (h:List Nat):zfv x y z p h=zaE ((gdL p h).map (alt x y z)):=by
 unfold zfv gdL
 refine za List.map_map ?_;rfl
theorem zt7 (x y z:Int) {h0 h1:List Nat} (m0:h0∈shB) (m1:h1∈shA):zfv x y z (par h0) h1=alt x y z (par h0)*wtI x y z h1/\ zfv x y z (par h0) h1=alt x y z (par h1)*wtI x y z h0/\ zfv x y z (par h0) h1=alt x y z z0*(wtI x y z h0*wtI x y z h1):=by
 have P:=zkJ m0 m1
 have O0:=zr9 m0
 have O1:=zr9 (List.mem_append_left _ m1:h1∈shB)
 have a:zfv x y z (par h0) h1=alt x y z (par h0)*wtI x y z h1:=zpy O1.s P.c1 x y z
 have b:zfv x y z (par h1) h0=alt x y z (par h1)*wtI x y z h0:=zpy O0.s P.c0 x y z
 have c:zfv x y z z0 h0=alt x y z z0*wtI x y z h0:=zpy O0.s O0.c x y z
 rw [zlE,O0.g] at c
 have c:alt x y z (par h0)=alt x y z z0*wtI x y z h0:=by refine zF c ?_;exact (Int.add_zero _).symm
 refine ⟨a,?_,by refine za a ?_;refine za c ?_;rw [Int.mul_assoc]⟩
 refine zF b ?_
 rw [zlE,zlE]
 exact zft (P.q.symm.map _)
theorem zhx (n:Nat) (f:Nat ->Option PV) (d e:PyData):zaz (.t [.v 20,.v 9]) (.tuple [d,e]) (fr n f)=some (fr n (up (up f 20 (some (.d d))) 9 (some (.d e)))):=by
 show some (((fr n f).set 20 _).set 9 _)=_
 rw [z5,z5]
theorem zt8 {x y z t:Int} (hx:zo x<=1500) (hy:zo y<=1500) (hz:zo z<=1500) {h0 h1:List Nat} (m0:h0∈shB) (m1:h1∈shA) (ht:t=1 \/t= -1)
  (i1:f 1=some (.d (zaG s))) (i3:f 3=some (.d (.int t))) (i13:f 13=some (.d (.list [tD (par h0),tD (par h1)]))) (i17:f 17=some (.d (.list [.int x,.int y,.int z]))) (i18:f 18=some (.d (.list [.int (wtI x y z h0),.int (wtI x y z h1)]))) (i19:f 19=some (.d (.int (zfv x y z (par h0) h1)))) (i24:f 24=none):
  ∃f',zg (run tE (m+121)) (fr 61 f) s20=some (fr 61 f',.next):=by
 have m1':h1∈shB:=List.mem_append_left _ m1
 refine E03 (zt7 x y z m0 m1) λt1 t2 t3=>?_
 refine E04 (zbD m0) λP0 q0' _ _=>?_
 refine E04 (zbD m1') λP1 q1' _ _=>?_
 have a0:=P0.a;have b0:=P0.b
 have a1:=P1.a;have b1:=P1.b
 have P:=zkJ m0 m1
 have bT:zo (zfv x y z (par h0) h1)<=40000:=by
  refine zv (zpL (k:=36010) λv hv=>?_) ?_
  ·refine zm (List.mem_map.mp hv) λr hr q1=>?_
   obtain rfl:=q1
   have S:=P.s1 r (List.mem_filter.mp hr).1
   exact (zlA (tbl:=tE) (m:=0) rfl S.1 S.2.1 S.2.2 hx hy hz).2
  ·rw [List.length_map]
   have:=List.length_filter_le (gd (par h0)) (rdL h1)
   have:=(zbD m1').2.2.1;lia
 generalize zfv x y z (par h0) h1=T at *
 have w0:=zvy hx hy hz m0
 have w1:=zvy hx hy hz m1'
 generalize hw0:wtI x y z h0=W0 at *
 generalize hw1:wtI x y z h1=W1 at *
 have it:itD (run tE (m+121)) (fr 61 f) (.tup [(.tup [(.lst [(.c (.int 0)),(.c (.int 0)),(.c (.int 0))]),(.bin .Mult (.idx (.v 18) (.c (.int 0))) (.idx (.v 18) (.c (.int 1))))]),(.tup [(.idx (.v 13) (.c (.int 0))),(.idx (.v 18) (.c (.int 1)))]),(.tup [(.idx (.v 13) (.c (.int 1))),(.idx (.v 18) (.c (.int 0)))])])=
   some [.tuple [tD z0,.int (W0*W1)],.tuple [tD (par h0),.int W1],.tuple [tD (par h1),.int W0]]:=by
  refine zF (zq i13) (zF (zq i18) ?_)
  refine bS (x:= .tuple [.tuple [tD z0,.int (W0*W1)],.tuple [tD (par h0),.int W1],.tuple [tD (par h1),.int W0]]) (zfM (n:=m+120) (zap (zfM (n:=m+119) (zap (by kernel_rfl) (zaa (zr (n:=m+118) (x:= .int W0) (y:= .int W1) (by kernel_rfl) (by kernel_rfl) (zfZ (zv w0 (by decide)) (zv w1 (by decide))))))) (zap (by kernel_rfl) (zaa (by kernel_rfl))))) rfl
 refine E31 (zgA (m:=m) (s:=s) (f:=up (up f 20 (some (.d (tD z0)))) 9 (some (.d (.int (W0*W1))))) hx hy hz (p:=z0) (by decide) (by decide) (by decide) t3 bT ht i1 i3 rfl i17 i19 rfl i24) λa b c k0=>?_
 refine E31 (zgA (m:=m) (s:=s) (f:=up (up (up (up (up (up (up f 20 (some (.d (tD z0)))) 9 (some (.d (.int (W0*W1))))) 21 a) 22 b) 23 c) 20 (some (.d (tD (par h0))))) 9 (some (.d (.int W1)))) hx hy hz (p:=par h0) (by lia) (by lia) (by lia) t1 bT ht i1 i3 rfl i17 i19 rfl i24) λa' b' c' k1=>?_
 refine E31 (zgA (m:=m) (s:=s) (f:=up (up (up (up (up (up (up (up (up (up (up (up f 20 (some (.d (tD z0)))) 9 (some (.d (.int (W0*W1))))) 21 a) 22 b) 23 c) 20 (some (.d (tD (par h0))))) 9 (some (.d (.int W1)))) 21 a') 22 b') 23 c') 20 (some (.d (tD (par h1))))) 9 (some (.d (.int W0)))) hx hy hz (p:=par h1) (by lia) (by lia) (by lia) t2 bT ht i1 i3 rfl i17 i19 rfl i24) λa2 b2 c2 k2=>?_
 exact ⟨_,zbB it ((zab (n:=m+120) (zhx ..) k0).trans ((zab (n:=m+120) (zhx ..) k1).trans ((zab (n:=m+120) (zhx ..) k2).trans rfl)))⟩
theorem zmx {S:Sv}:∀{a b:List PS} {ρ ρ2:Rho},zE S a ρ=some (ρ2,.next) ->zE S (a++b) ρ=zE S b ρ2
 | [],b,ρ,ρ2,h=>by cases h;rfl
 |st::a,b,ρ,ρ2,h=>by
  refine zm (Option.bind_eq_some_iff.mp (show (zg S ρ st).bind _=_ from h)) λq2 h1 h2=>?_
  obtain ⟨ρ1,f⟩:=q2
  cases f with
  |next=>exact zj h1 (zmx h2)
  |brk=>cases h2
  |ret d=>cases h2
theorem pure1 (zs:List Int) (hz:zs.length<=63):zhd zs:=by
 unfold zhd
 refine za zu4 (za zte ?_)
 have i:(some (.d (.list (zs.map .int)))::List.replicate 60 none:Rho)=fr 61 (up (λ_=>none) 0 (some (.d (.list (zs.map .int))))):=by kernel_rfl
 refine za i ?_
 generalize hf:up (λ_=>none) 0 (some (PV.d (.list (zs.map .int))))=f
 have i0:f 0=some (.d (.list (zs.map .int))):=by refine zF hf ?_;rfl
 have i24:f 24=none:=by refine zF hf ?_;rfl
 clear i hf
 refine cps λG hG=>?_
 have S0:=zvp (tbl:=tE) (m:=107) (f:=f) hz i0
 generalize (λi:Nat=>zna zs (i:Int) (zem i))=s at S0
 refine E23 (zvq (tbl:=tE) (m:=101) (s:=s) (f:=up f 1 (some (.d (zaG s)))) rfl) λb0 b1 hb0 hb1 S1=>?_
 obtain ⟨h0,m0,h1,m1,S2⟩:=zvr (tbl:=tE) (m:=91) (s:=s) (f:=up (up f 1 (some (.d (zaG s)))) 2 (some (.d (.list (dI [b0,b1]))))) hb0 hb1 rfl rfl
 have m1':h1∈shB:=List.mem_append_left _ m1
 have M:=zvt m0 m1
 generalize hA:some (PV.d (.list [.list (dI h0),.list (dI h1)]))=H at *
 obtain ⟨e0,n0,e1,n1,S3⟩:=zvs (tbl:=tE) (m:=91) (s:=s) (f:=up (up (up f 1 (some (.d (zaG s)))) 2 (some (.d (.list (dI [b0,b1]))))) 4 H) rfl
 have S4:=zrt (m:=81) (f:=up (up (up (up f 1 (some (.d (zaG s)))) 2 (some (.d (.list (dI [b0,b1]))))) 4 H) 5 (some (.d (.list [rD e0,rD e1])))) n0 n1 rfl
 generalize some (PV.d (.bool (apB e0 e1)))=x6 at S4
 generalize some (PV.d (.bool (loB e0&&loB e1)))=x7 at S4
 generalize some (PV.d (zr7 e0 e1))=x8 at S4
 generalize hg:up (up (up (up (up (up (up f 1 (some (.d (zaG s)))) 2 (some (.d (.list (dI [b0,b1]))))) 4 H) 5 (some (.d (.list [rD e0,rD e1])))) 6 x6) 7 x7) 8 x8=g at S4
 have g1:g 1=some (.d (zaG s)):=by refine zF hg ?_;rfl
 have g4:g 4=some (PV.d (.list [.list (dI h0),.list (dI h1)])):=by refine zF hg ?_;refine za hA ?_;rfl
 have g5:g 5=some (.d (.list [rD e0,rD e1])):=by refine zF hg ?_;rfl
 have g24:g 24=none:=by refine zF hg ?_;exact i24
 clear hg hA
 have S9:=zvu (tbl:=tE) (m:=71) (f:=g) rfl rfl M n0 n1 g4 g5
 generalize hX:some (PV.d (.list (lsD true (kcN h0 h1+1))))=x10 at S9
 generalize hY:some (PV.d (.list (lsD false (klN h0 h1+1))))=x11 at S9
 have S10:=ztT (tbl:=tE) (m:=101) (f:=up (up g 10 x10) 11 x11) hX.symm hY.symm
 have S11:=ztU (f:=up (up g 10 x10) 11 x11) m0 m1' M g4 hX.symm hY.symm
 have S12:=ztW (tbl:=tE) (m:=91) (f:=up (up (up g 10 x10) 11 x11) 12 (some (.d (.list [.list ((rdL h0).map rD),.list ((rdL h1).map rD)])))) (zbD m0).2.2.2 (zbD m1').2.2.2 g4
 clear hX hY
 generalize hZ:up (up (up g 10 x10) 11 x11) 12 (some (.d (.list [.list ((rdL h0).map rD),.list ((rdL h1).map rD)])))=k at *
 have k1:k 1=some (.d (zaG s)):=by refine zF hZ ?_;exact g1
 have k12:k 12=some (.d (.list [.list ((rdL h0).map rD),.list ((rdL h1).map rD)])):=by refine zF hZ ?_;rfl
 have k24:k 24=none:=by refine zF hZ ?_;exact g24
 clear hZ
 have S13:=ztX (tbl:=tE) (m:=111) (f:=up k 13 (some (.d (.list [tD (par h0),tD (par h1)]))))
 refine E23 (ztY (tbl:=tE) (m:=101) (s:=s) (f:=up (up k 13 (some (.d (.list [tD (par h0),tD (par h1)])))) 14 (some (.d zhw))) k1 rfl) λj l hj hl S14=>?_
 refine zm (ztZ (tbl:=tE) (m:=31) (s:=s) (f:=up (up (up k 13 (some (.d (.list [tD (par h0),tD (par h1)])))) 14 (some (.d zhw))) 15 (some (.d (.list [rD (zbH j),rD (zbH l)])))) rfl rfl rfl rfl m0 m1 hj hl k1 k12 rfl rfl) λβ hβ S15=>?_
 generalize hW:up (up (up k 13 (some (.d (.list [tD (par h0),tD (par h1)])))) 14 (some (.d zhw))) 15 (some (.d (.list [rD (zbH j),rD (zbH l)])))=w at *
 have w1:w 1=some (.d (zaG s)):=by refine zF hW ?_;exact k1
 have w12:w 12=some (.d (.list [.list ((rdL h0).map rD),.list ((rdL h1).map rD)])):=by refine zF hW ?_;exact k12
 have w13:w 13=some (.d (.list [tD (par h0),tD (par h1)])):=by refine zF hW ?_;rfl
 have w24:w 24=none:=by refine zF hW ?_;exact k24
 clear hW
 have S16:=zt0 (tbl:=tE) (m:=91) (f:=up w 16 (some (.d (.list [.list (zaM β (par h1) h0),.list (zaM β (par h0) h1)])))) m0 m1 hβ rfl
 refine E32 (zt2 (tbl:=tE) (m:=91) (s:=s) (f:=up w 16 (some (.d (.list [.list (zaM β (par h1) h0),.list (zaM β (par h0) h1)])))) w1) λx y z q3 S17=>?_
 refine E03 q3 λhx hy hz=>?_
 clear q3
 have S18:=zt3 (tbl:=tE) (m:=91) (f:=up (up w 16 (some (.d (.list [.list (zaM β (par h1) h0),.list (zaM β (par h0) h1)])))) 17 (some (.d (.list [.int x,.int y,.int z])))) hx hy hz m0 m1' w12 rfl
 refine zm (zt4 (tbl:=tE) (m:=71) (s:=s) (f:=up (up (up w 16 (some (.d (.list [.list (zaM β (par h1) h0),.list (zaM β (par h0) h1)])))) 17 (some (.d (.list [.int x,.int y,.int z])))) 18 (some (.d (.list [.int (wtI x y z h0),.int (wtI x y z h1)])))) rfl hx hy hz m0 m1 w1 rfl rfl) λt ht S19=>?_
 refine zO (zt8 (m:=0) (s:=s) (f:=up (up (up (up (up w 16 (some (.d (.list [.list (zaM β (par h1) h0),.list (zaM β (par h0) h1)])))) 17 (some (.d (.list [.int x,.int y,.int z])))) 18 (some (.d (.list [.int (wtI x y z h0),.int (wtI x y z h1)])))) 19 (some (.d (.int (zfv x y z (par h0) h1))))) 3 (some (.d (.int t)))) hx hy hz m0 m1 ht w1 rfl w13 rfl rfl rfl w24) λv S20=>?_
 refine hG ⟨122,fr 61 v,by decide,zj S0 (zj S1 (zj S2 (zj S3 (Eq.trans (b:=zE (run tE 121) [s9,s10,s11,s12,s13,s14,s15,s16,s17,s18,s19,s20,s21] (fr 61 g)) ?_ (zj S9 (zj S10 (zj S11 (zj S12 (zj S13 (zj S14 (zj S15 (zj S16 (zj S17 (zj S18 (zj S19 (zj S20 (zT (za0 rfl))))))))))))))))))⟩
 exact zmx S4
end One1
section
open PySem.W.X PySem.W.ZRun
set_option maxHeartbeats 0
def zt9 (x:Expr) (l:List Str):Bool:=match zbl x with
 |some n=>l.contains n
 |none=>false
def zua (s:Stmt):Bool:=xS true s (as:=λts _=> !ts.any λt=>zt9 t ["__name__","COMPILER_FLAG_NAMES"])
def zno:Program:={One1.P1 with main:={One1.P1.main with body:=One1.P1.main.body.filter zua}}
noncomputable def ziu:Option Value ->Option Addr
 |some (.ref a)=>some a
 |_=>none
noncomputable def zjs:Option Obj ->Option FuncData
 |some o=>(match o.data with| .func fd=>some fd|_=>none)
 |none=>none
noncomputable def ze5:Option Obj ->Option (Array Value)
 |some o=>(match o.data with| .fields vs=>some vs|_=>none)
 |none=>none
def zdw (mg:Str ->Option Value) (h:Heap) (n:Str):Option Addr:=(ziu (mg n)).bind λa=>(zjs (h.get? a)).bind λfd=>(ziu (some fd.code)).bind λc=>(ze5 (h.get? c)).bind λvs=>ziu vs[11]?
theorem zkN {mg:Str ->Option Value} {h:Heap} {d:zeh} {c P:Addr} (F:zih mg h d c P):zdw mg h d.name=some P:=by
 refine E57 F λa o pm code doc h1 h2 h3 h4 q1 h6 q2=>?_
 clear F
 obtain rfl:=q1
 refine zR q2 λq3 _=>?_
 clear q2
 refine E24 q3 λoc vc g1 g2 g3 g4=>?_
 clear q3
 unfold zdw
 refine za h1 ?_
 show (zjs (h.get? a)).bind _=_
 refine za h2 ?_
 show ((match o.data with| .func fd=>some fd|_=>none):Option FuncData).bind _=_
 refine za h3 ?_
 show (ze5 (h.get? c)).bind _=_
 refine za g1 ?_
 show ((match oc.data with| .fields vs=>some vs|_=>none):Option (Array Value)).bind _=_
 refine za g3 ?_
 show ziu vc[11]?=_
 refine za g4 ?_;rfl
theorem zjt {h h':Heap} (k:∀b o,h.get? b=some o ->h'.get? b=some o) {a:Addr} {fd:FuncData} (e:zjs (h.get? a)=some fd):zjs (h'.get? a)=some fd:=by
 cases e1:h.get? a with
 |none=>rw [e1] at e;exact zb e
 |some o=>rw [e1] at e;refine za (k _ _ e1) ?_;exact e
theorem zhy {h h':Heap} (k:∀b o,h.get? b=some o ->h'.get? b=some o) {a:Addr} {fd:Array Value} (e:ze5 (h.get? a)=some fd):ze5 (h'.get? a)=some fd:=by
 cases e1:h.get? a with
 |none=>rw [e1] at e;exact zb e
 |some o=>rw [e1] at e;refine za (k _ _ e1) ?_;exact e
theorem zfP {mg:Str ->Option Value} {h h':Heap} (k:∀b o,h.get? b=some o ->h'.get? b=some o) {n:Str} {P:Addr} (e:zdw mg h n=some P):zdw mg h' n=some P:=
 zc e λa ha e=>zc e λfd hf e=>zc e λc hc e=>zc e λvs hv e=>by
  unfold zdw
  refine za ha ?_;rw [Option.bind_some];refine za (zjt k hf) ?_;rw [Option.bind_some];refine za hc ?_;rw [Option.bind_some];refine za (zhy k hv) ?_;exact e
def zvA:List (PyData×PyData):=match One1.flagsD with
 | .dict kvs=>kvs
 |_=>[]
def zrz:List (Int×Str):=zvA.map λq=>((zJ q.1).getD 0,(zau q.2).getD Str.empty)
theorem zvB:One1.flagsD= .dict (zrz.map kvP):=by kernel_rfl
noncomputable def zvC (h:Heap):Bool:=match h.get? sysModules with
 |some o=>o.cls== .type "dict"
 |none=>false
def zsa:Option Obj ->Bool
 |some ⟨cls,none,.dict es _,sl⟩=>cls== .type "dict" &&sl.size==0&&zN zll es.toList==some zrz
 |_=>false
def zpN (mg:Str ->Option Value) (h:Heap):Bool:=match ziu (mg "COMPILER_FLAG_NAMES") with
 |some a=> !(a==sysModules)&&zsa (h.get? a)
 |none=>false
def neB (mg:Str ->Option Value) (h:Heap):Bool:=match zdw mg h "_digits2int" with
 |some p=>(match zdw mg h "_int2digits" with|some q=> !(p==q)|none=>false)
 |none=>false
def XtB (s:Shared):Bool:=zvC s.heap&&zpN (s.heap.nsMap mainGlobals) s.heap&&neB (s.heap.nsMap mainGlobals) s.heap
structure XPs (mg:Str ->Option Value) (h:Heap):Prop where
 sys:∃o,h.get? sysModules=some o/\ o.cls= .type "dict"
 fl:∃a es ep,mg "COMPILER_FLAG_NAMES" =some (.ref a)/\ (a==sysModules)=false/\ h.get? a=some {cls:= .type "dict",data:= .dict es ep}/\ zN zll es.toList=some zrz
 ne:∃p q,zdw mg h "_digits2int" =some p/\ zdw mg h "_int2digits" =some q/\ p≠q
theorem zvD:LeftO One1.P1 zno ["COMPILER_FLAG_NAMES"] (λs=>XtB s&&recOk [] s) (λ_=>()) (λ_=>()) 1600:=LeftO.of_split "special-get-raises" λw=>by kernel_rfl
theorem zpO {o:Option Obj} (h:zsa o=true):∃es ep,o=some {cls:= .type "dict",data:= .dict es ep}/\ zN zll es.toList=some zrz:=by
 rcases o with _| ⟨cls,di,data,sl⟩
 ·exact Bool.noConfusion h
 ·cases di with
  |some a=>exact Bool.noConfusion h
  |none=>
   cases data<;>first|exact Bool.noConfusion h|skip
   refine zaH h λh h3=>zaH h λh1 h2=>?_
   rw [beq_iff_eq] at h1 h2
   have e:sl= #[]:=Array.eq_empty_of_size_eq_zero h2
   subst e;subst h1
   exact ⟨_,_,rfl,eq_of_beq h3⟩
theorem zvE (s:Shared) (h:XtB s=true):XPs (s.heap.nsMap mainGlobals) s.heap:=
 zaH h λh h3=>zaH h λh1 h2=>by
  refine ⟨?_,?_,?_⟩
  ·unfold zvC at h1
   cases e:s.heap.get? sysModules with
   |none=>rw [e] at h1;exact Bool.noConfusion h1
   |some o=>rw [e] at h1;exact ⟨o,rfl,eq_of_beq h1⟩
  ·unfold zpN at h2
   cases e:ziu (s.heap.nsMap mainGlobals "COMPILER_FLAG_NAMES") with
   |none=>rw [e] at h2;exact Bool.noConfusion h2
   |some a=>
    rw [e] at h2
    refine zaH h2 λh4 h5=>?_
    refine E22 (zpO h5) λes ep h6 h7=>?_
    refine ⟨a,es,ep,?_,by rw [Bool.not_eq_true'] at h4;exact h4,h6,h7⟩
    cases e2:s.heap.nsMap mainGlobals "COMPILER_FLAG_NAMES" with
    |none=>rw [e2] at e;exact zb e
    |some v=>rw [e2] at e;cases v<;>first|exact zb e| (cases e;rfl)
  ·unfold neB at h3
   cases e:zdw (s.heap.nsMap mainGlobals) s.heap "_digits2int" with
   |none=>rw [e] at h3;exact Bool.noConfusion h3
   |some p=>
    rw [e] at h3
    cases e2:zdw (s.heap.nsMap mainGlobals) s.heap "_int2digits" with
    |none=>rw [e2] at h3;exact Bool.noConfusion h3
    |some q=>
     rw [e2] at h3
     refine ⟨p,q,rfl,rfl,?_⟩
     intro hpq
     subst hpq
     have h3:(!(p==p))=true:=h3
     rw [beq_self_eq_true] at h3;cases h3
theorem zpP (mg:Str ->Option Value) (h h':Heap) (x:XPs mg h) (k:∀b o,h.get? b=some o ->h'.get? b=some o):XPs mg h':=
 ⟨let ⟨o,a,b⟩:=x.sys;⟨o,k _ _ a,b⟩,let ⟨a,es,ep,h1,h2,h3,h4⟩:=x.fl;⟨a,es,ep,h1,h2,k _ _ h3,h4⟩,let ⟨p,q,h1,h2,h3⟩:=x.ne;⟨p,q,zfP k h1,zfP k h2,h3⟩⟩
theorem znp {v:Value} {i:Int} (h:∀h':Heap,Reads h' v (.int i) []):∃t,v= .int i t:=by
 cases h default;exact ⟨_,rfl⟩
theorem znq {v:Value} {i:Str} (h:∀h':Heap,Reads h' v (.str i) []):∃t,v= .str i t:=by
 cases h default;exact ⟨_,rfl⟩
theorem znr:Rm callerA 599:=⟨rfl,by decide,by decide⟩
theorem zkO:(defOf zno "law").isSome=true:=by kernel_rfl
def zhz:DefRec×List (Str×Expr):=(defOf zno "law").get zkO
theorem zrA:defOf zno "law" =some (zhz.1,zhz.2):=(Option.some_get zkO).symm
theorem zrB:PySem.Challenge.rw_tc0029_01.row.prog.theDef "law" =some (zhz.1.params,zhz.1.body,zhz.1.scope):=by kernel_rfl
theorem zub:kwWritten? zhz.1.params.kwonlyargs zhz.1.params.kw_defaults=some zhz.2:=by kernel_rfl
theorem zpQ:zhz.1.name="law" :=by kernel_rfl
theorem zuc:∀(w:World) (s_0 s_1:Shared) (mg mb:Str ->Option Value),Ground zno ["COMPILER_FLAG_NAMES"] [] XPs w s_0 mg mb s_1.heap ->∀{fa sl:Addr} {zs:List Int} {vs:Array Value},mg "law" =some (.ref fa) ->s_1.gens= #[] ->s_1.heap.get? sl=some {cls:= .type "list",data:= .seq vs} ->IntsAre vs.toList zs ->zs.length<=63 ->
  wpAny (model One1.P1 w) callerA (call (.ref fa) [.ref sl]) (zlg s_1.os s_1 (.bool true)) zf s_1:=by
 intro w s_0 s_1 mg mb G fa sl zs vs hmg hg hs hi hz
 have T:=G.T
 have hFn:=zoW (q:=One1.P1) T (by kernel_rfl)
 refine E21 (hFn (One1.d1 "_digits2int") (One1.d1_mem (.inl (by decide+kernel))).1) λcD PD FD=>?_
 refine E21 (hFn (One1.d1 "_int2digits") (One1.d1_mem (.inl (by decide+kernel))).1) λcI PI FI=>?_
 have hne:PD≠PI:=by
  refine E23 G.X.ne λp q h1 h2 h3=>?_
  have e1:=zkN FD
  have e2:=zkN FI
  rw [show (One1.d1 "_digits2int").name="_digits2int" by kernel_rfl,h1] at e1
  rw [show (One1.d1 "_int2digits").name="_int2digits" by kernel_rfl,h2] at e2
  cases e1;cases e2;exact h3
 have h3:∃a kvs,One1.flagsD= .dict kvs/\ mg (Str.ofString "COMPILER_FLAG_NAMES")=some (.ref a)/\ zbr s_1.heap a kvs:=
  let ⟨a,es,ep,h1,h2,h3,h4⟩:=G.X.fl
  ⟨a,_,zvB,h1,zlm h2 h3 h4⟩
 have hsys:∃o,s_1.heap.get? sysModules=some o/\ o≠zcp:=let ⟨o,h,hc⟩:=G.X.sys;⟨o,h,by intro e;rw [e] at hc;cases hc⟩
 have h1:∃t,mg (Str.ofString "_DIV_LIMIT")=some (.int 4000 t):=by
  refine zm (T.const "_DIV_LIMIT" (.int 4000) (by kernel_rfl)) λv h r=>?_
  refine zO (znp r) λt q4=>?_
  obtain rfl:=q4
  exact ⟨t,h⟩
 have h2:∃t,mg (Str.ofString "ELLIPSIS_MARKER")=some (.str (Str.ofString "...") t):=by
  refine zm (T.const "ELLIPSIS_MARKER" (.str "...") (by kernel_rfl)) λv h r=>?_
  refine zO (znq r) λt q5=>?_
  obtain rfl:=q5
  exact ⟨t,h⟩
 have hbi:=zs5 T (by decide+kernel) (by decide+kernel)
 exact One1.join1 (zs:=zs) (al:=fa) (sl:=sl) hFn T.g T.b T.nolimit hsys hbi T.bmain h1 h2 h3 hmg FD FI hne hg hs (λB=>zhP hi) znr rfl (One1.pure1 zs hz)
end
end Mine
set_option maxHeartbeats 0 in
open PySem.W.X PySem.W.ZRun in
set_option tactic.hygienic true in
open Mine in
theorem PySem.Challenge.cw_tc0029_01_holds : PySem.Challenge.rw_tc0029_01.Holds := by
 refine holds_law (by decide+kernel) λsaid=>?_
 refine holds_openX (q:=zno) (loose:=["COMPILER_FLAG_NAMES"]) (Xt:=λs=>XtB s&&recOk [] s) (XP:=XPs) (Yf:=λ_=>()) (Ya:=λ_=>()) (d:=zhz.1) (kwd:=zhz.2) (N:=1600) zvD (λs e=>zvE s (Bool.and_eq_true_iff.mp e).1) zpP zrA zrB zub (λs e=>recFacts_of (Bool.and_eq_true_iff.mp e).2) (by rfl) said (by decide+kernel) ⟨rfl,rfl,rfl,rfl,rfl,by decide+kernel⟩ ⟨[.list []],by decide+kernel,by decide+kernel⟩ ?_
 intro w s₀ s₁ mg mb G y fa o pm cd doc dV kV ho hd hcd hD hmg hg args vals as L hpre hlay hrd hwl hlo
 clear y ho hd hcd hD
 rw [zpQ] at hmg
 wrow_args hpre hlay hrd hwl hlo
 all_lens
 rename_i zs _ _ _ _ _ _ _ vsL _ hLs _ _ _ _ hc63 _ hi _
 exact wpAny_mono (zuc w s₀ s₁ mg mb G hmg hg (script_obj L hLs) hi (by omega)) (λv s' p=>zqM p (λcls=>rfl) (by first|rfl|wrow_post|decide)) (λ_ _ x=>x.elim)
